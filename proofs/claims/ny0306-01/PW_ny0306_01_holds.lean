import PyProof.Rows.All
import Wide.All
import OpenK.AllK
import Wide.FinOn
import PySem.Challenge.RW_ny0306_01
set_option Elab.async false
set_option maxRecDepth 100000
set_option linter.all false
section
open PySem PySem.W PyProof.Rows
set_option maxHeartbeats 8000000
noncomputable def Mine.view1 : Program := { PySem.Challenge.pw_ny0306_01 with main := { PySem.Challenge.pw_ny0306_01.main with body := [0, 2, 3, 4, 5, 6, 8, 9, 10, 15, 16, 17, 18, 19, 21, 22, 23, 24, 25].filterMap fun i => PySem.Challenge.pw_ny0306_01.main.body[i]? } }
noncomputable def Mine.ends : PSigma fun F => openEnds treeTable = F := ⟨_, by delta openEnds fencedOpening topFrom; rewrite [Fast.te10274390034422433532, Fast.te14364793385576792824, Fast.te1435165496053646825, Fast.te14289696077712309145, Fast.te14082659384304107361]; rfl⟩
theorem Mine.lq {p q : Program} {loose : List Str} {Xt : Shared → Bool} {α : Type} {Yf : Shared → α} {Ya : World → α} {N : Nat}
    (h : ∀ w, (Mine.ends.1 p w N).map (fun s => (Fast.tw4187177175401517315 q loose (Fast.tw5923862056798008813 p.main.body) Xt true s, Yf s)) = some (openGood q loose, Ya w)) : LeftO p q loose Xt Yf Ya N := fun w => by
  rw [show openEnds treeTable p w N = Mine.ends.1 p w N from congrFun (congrFun (congrFun Mine.ends.2 p) w) N, Fast.te4187177175401517315, Fast.te5923862056798008813]; exact h w
local macro_rules | `(tactic| o_law) => `(tactic| refine holds_law ((congrFun Fast.te9446332074065402090 _).trans (by decide +kernel)) fun said => ?_)
local macro_rules | `(tactic| o_head $H) => `(tactic| refine holds_open (q := Mine.view1) (loose := [Str.ofString "_NodeInfo", Str.ofString "b2a_base64", Str.ofString "b64encode"]) (Xt := fun s => xlAt Mine.view1 [] s && recOk (RowW.records (PySem.W.OpenRow.toRowW (PySem.W.OpenLaw.row PySem.Challenge.rw_ny0306_01))) s) (XP := XL Mine.view1 []) (Yf := Hook.obs $H) (Ya := Hook.val $H) (YP := Hook.says $H) (N := 3032) (Mine.lq fun w => by kernel_rfl) (Hook.of $H) (Hook.keeps $H) (fun s e => xl_of s (Bool.and_eq_true_iff.mp e).1) XL.keeps (by rfl) (by rfl) (by rfl) (fun s e => recFacts_of (Bool.and_eq_true_iff.mp e).2) (by rfl) (by assumption) (by decide +kernel) ⟨rfl, rfl, rfl, rfl, rfl, by decide +kernel⟩ ?hw ?hc)
open_top Mine.hd1 for PySem.Challenge.rw_ny0306_01
end
section
open PySem PySem.W PyProof.Rows
set_option maxHeartbeats 400000
namespace Mine

inductive V where
  | none | bool (b : Bool) | int (i : Int) | str (x : Str) | bytes (b : Array UInt8) | ref (a : Addr) | fn (v : Value)

noncomputable def V.is : V → Value → Prop
  | .none, v => v = .none
  | .bool b, v => v = .bool b
  | .int i, v => ∃ t, v = .int i t
  | .str x, v => ∃ t, v = .str x t
  | .bytes b, v => ∃ t, v = .bytes b t
  | .ref a, v => v = .ref a
  | .fn r, v => v = r

inductive Are : List V → List Value → Prop
  | nil : Are [] []
  | cons {x v xs vs} : V.is x v → Are xs vs → Are (x :: xs) (v :: vs)

theorem Are.length {xs vs} (h : Are xs vs) : xs.length = vs.length := by
  induction h with
  | nil => rfl
  | cons _ _ ih => simp [ih]
theorem Are.get {xs vs} (h : Are xs vs) {i : Nat} {x : V} (hx : xs[i]? = some x) : ∃ v, vs[i]? = some v ∧ x.is v := by
  induction h generalizing i with
  | nil => simp at hx
  | cons h _ ih =>
    cases i with
    | zero => simp at hx; subst hx; exact ⟨_, rfl, h⟩
    | succ i => simpa using ih (by simpa using hx)
theorem Are.append {xs vs ys us} (h : Are xs vs) (h' : Are ys us) : Are (xs ++ ys) (vs ++ us) := by
  induction h with
  | nil => exact h'
  | cons a _ ih => exact .cons a ih
theorem Are.push {xs vs x v} (h : Are xs vs) (h' : V.is x v) : Are (xs ++ [x]) (vs ++ [v]) := h.append (.cons h' .nil)
theorem Are.set {xs vs} (h : Are xs vs) (i : Nat) {x v} (h' : V.is x v) : Are (xs.set i x) (vs.set i v) := by
  induction h generalizing i with
  | nil => exact .nil
  | cons a b ih =>
    cases i with
    | zero => exact .cons h' b
    | succ i => exact .cons a (ih i)
theorem Are.take {xs vs} (h : Are xs vs) (n : Nat) : Are (xs.take n) (vs.take n) := by
  induction h generalizing n with
  | nil => simp; exact .nil
  | cons a b ih =>
    cases n with
    | zero => exact .nil
    | succ n => exact .cons a (ih n)
theorem Are.drop {xs vs} (h : Are xs vs) (n : Nat) : Are (xs.drop n) (vs.drop n) := by
  induction h generalizing n with
  | nil => simp; exact .nil
  | cons a b ih =>
    cases n with
    | zero => exact .cons a b
    | succ n => exact ih n
theorem Are.ints {xs : List Int} {vs} (h : Are (xs.map .int) vs) : IntsAre vs xs := by
  induction xs generalizing vs with
  | nil => cases h; exact .nil
  | cons x xs ih =>
    cases h with
    | cons a b => obtain ⟨t, rfl⟩ := a; exact .cons _ _ (ih b)
theorem Are.of_ints {xs : List Int} {vs} (h : IntsAre vs xs) : Are (xs.map .int) vs := by
  induction h with
  | nil => exact .nil
  | cons _ _ _ ih => exact .cons ⟨_, rfl⟩ ih

inductive O (K : Type) where
  | list (xs : List V) | tuple (xs : List V) | dict (kvs : List (K × V)) (ep : Nat) | idict (fs : List (Str × V)) | cell (v : Option V)
  | inst (C dx : Addr) (sl : List (Option V)) | set (S : K → Bool) (n : Nat) | liter (l : Addr) (i : Nat) | nxt (it : Addr) | bound (f x : Addr) | range (lo hi st : Int) | items (d : Addr) | values (d : Addr)

section
variable {prog : Program} {w : World} {K : Type} [DecidableEq K] (knd : KeyKind prog w K)

noncomputable def PairsAre : List (K × V) → List (K × Value) → Prop
  | [], [] => True
  | (k, x) :: r, (k', v) :: r' => k = k' ∧ x.is v ∧ PairsAre r r'
  | _, _ => False
noncomputable def OptIs : Option V → Option Value → Prop
  | some x, some v => x.is v
  | none, none => True
  | _, _ => False
noncomputable def SlotsAre : List (Option V) → List (Option Value) → Prop
  | [], [] => True
  | x :: r, v :: r' => OptIs x v ∧ SlotsAre r r'
  | _, _ => False
noncomputable def FieldsAre : List (Str × V) → List DictEntry → Prop
  | [], [] => True
  | (k, x) :: r, e :: r' => (∃ t, e.key = .str k t) ∧ x.is e.val ∧ FieldsAre r r'
  | _, _ => False

noncomputable def O.is (knd : KeyKind prog w K) : O K → Obj → Prop
  | .list xs, o => ∃ vs n, o = { cls := .type "list", data := .seq vs n } ∧ Are xs vs.toList
  | .tuple xs, o => ∃ vs n, o = { cls := .type "tuple", data := .seq vs n } ∧ Are xs vs.toList
  | .dict kvs ep, o => ∃ es kvs', o.ExactDict ∧ o.data = .dict es ep ∧ KeysOf knd es ∧ Pairs knd es.toList kvs' ∧ (kvs'.map (·.1)).Nodup ∧ PairsAre kvs kvs'
  | .idict fs, o => ∃ es n, o = dictOf es n ∧ FieldsAre fs es
  | .cell v, o => ∃ v', o.data = .cell v' ∧ OptIs v v'
  | .inst C dx sl, o => ∃ sl', o = ⟨.ref C, some dx, .plain, sl'⟩ ∧ SlotsAre sl sl'.toList
  | .set S n, o => ∃ es ep t, o.ExactSet ∧ o.data = .set es ep t ∧ ElemsOf knd es.toList ∧ (∀ k, S k = true ↔ ∃ e ∈ es.toList, knd.is k e.2 = true) ∧ es.size < scanBound ∧ t.fits es.size = true ∧ es.size = n
  | .liter l i, o => o = { cls := .type "list_iterator", data := .fields #[.ref l, .int i 0] }
  | .nxt it, o => o = { cls := .type "method-wrapper", data := .fields #[.builtin "list_iterator.__next__", .ref it] }
  | .bound f x, o => o = methodObj (.ref f) (.ref x)
  | .range lo hi st, o => ∃ t u v, o = { cls := .type "range", dict := none, data := .fields #[.int lo t, .int hi u, .int st v], slots := #[] }
  | .items d, o => o.cls = .type "dict_items" ∧ o.data = .fields #[.ref d]
  | .values d, o => o.cls = .type "dict_values" ∧ o.data = .fields #[.ref d]

structure MS (K : Type) where
  m : Str → Option V
  h : Addr → Option (O K)

noncomputable def put {β : Type} (f : Addr → Option β) (a : Addr) (x : β) : Addr → Option β := fun b => if b = a then some x else f b
noncomputable def putS (f : Str → Option V) (a : Str) (x : V) : Str → Option V := fun b => if b = a then some x else f b
noncomputable def MS.set (σ : MS K) (a : Addr) (o : O K) : MS K := ⟨σ.m, put σ.h a o⟩
noncomputable def MS.store (σ : MS K) (x : Str) (v : V) : MS K := ⟨putS σ.m x v, σ.h⟩

noncomputable def NsAt (h : Heap) (L : Addr) (m : Str → Option V) : Prop := ∃ m', h.Ns L m' ∧ ∀ x v, m x = some v → ∃ v', m' x = some v' ∧ v.is v'

structure Fx where
  base : Heap
  B : Addr → Option Obj
  L : Addr
  outs : List (Addr × (Str → Option V))
  s₀ : Shared
  sub : ∀ b o, base.get? b = some o → B b = some o

structure Rel (Γ : Fx) (σ : MS K) (s : Shared) : Prop where
  keep : ∀ b o, Γ.B b = some o → s.heap.get? b = some o
  rest : s = { Γ.s₀ with heap := s.heap, toks := s.toks }
  cur : NsAt s.heap Γ.L σ.m
  out : ∀ p ∈ Γ.outs, NsAt s.heap p.1 p.2
  obj : ∀ a o, σ.h a = some o → ∃ ob, s.heap.get? a = some ob ∧ o.is knd ob
  bL : Γ.B Γ.L = none
  bO : ∀ p ∈ Γ.outs, Γ.B p.1 = none
  bH : ∀ a o, σ.h a = some o → Γ.B a = none
  lO : ∀ p ∈ Γ.outs, p.1 ≠ Γ.L
  hL : σ.h Γ.L = none
  hO : ∀ p ∈ Γ.outs, σ.h p.1 = none

variable {knd}
variable {Γ : Fx} {σ : MS K} {s : Shared}

theorem NsAt.at {h h' : Heap} {L : Addr} {m} (x : NsAt h L m) (e : h'.get? L = h.get? L) : NsAt h' L m := by
  obtain ⟨m', ⟨o, es, ep, ho, r⟩, q⟩ := x
  exact ⟨m', ⟨o, es, ep, e.trans ho, r⟩, q⟩
theorem NsAt.ext {h h' : Heap} {L : Addr} {m} (x : NsAt h L m) (e : ∀ o, h.get? L = some o → h'.get? L = some o) : NsAt h' L m := by
  obtain ⟨m', ⟨o, es, ep, ho, r⟩, q⟩ := x
  exact ⟨m', ⟨o, es, ep, e _ ho, r⟩, q⟩
theorem NsAt.get {h : Heap} {L : Addr} {m} (x : NsAt h L m) : ∃ o, h.get? L = some o := by
  obtain ⟨m', ⟨o, es, ep, ho, r⟩, q⟩ := x
  exact ⟨o, ho⟩

theorem Rel.ext (R : Rel knd Γ σ s) {h' : Heap} {tk : Nat} (e : ∀ b o, s.heap.get? b = some o → h'.get? b = some o) : Rel knd Γ σ { s with heap := h', toks := tk } where
  keep := fun b o q => e b o (R.keep b o q)
  rest := by rw [R.rest]
  cur := R.cur.ext (e _)
  out := fun p hp => (R.out p hp).ext (e _)
  obj := fun a o q => let ⟨ob, h1, h2⟩ := R.obj a o q; ⟨ob, e _ _ h1, h2⟩
  bL := R.bL
  bO := R.bO
  bH := R.bH
  lO := R.lO
  hL := R.hL
  hO := R.hO

theorem Rel.toks (R : Rel knd Γ σ s) {tk : Nat} : Rel knd Γ σ { s with toks := tk } := R.ext (h' := s.heap) fun _ _ e => e

theorem Rel.fresh (R : Rel knd Γ σ s) : σ.h s.heap.objs.size = none := by
  cases h : σ.h s.heap.objs.size with
  | none => rfl
  | some o => obtain ⟨ob, h1, _⟩ := R.obj _ _ h; exact absurd (Heap.lt_size h1) (Nat.lt_irrefl _)
theorem Rel.freshB (R : Rel knd Γ σ s) : Γ.B s.heap.objs.size = none := by
  cases h : Γ.B s.heap.objs.size with
  | none => rfl
  | some o => exact absurd (Heap.lt_size (R.keep _ _ h)) (Nat.lt_irrefl _)
theorem Rel.freshL (R : Rel knd Γ σ s) : s.heap.objs.size ≠ Γ.L := fun e => by
  obtain ⟨o, ho⟩ := R.cur.get
  exact absurd (Heap.lt_size ho) (e ▸ Nat.lt_irrefl _)
theorem Rel.freshO (R : Rel knd Γ σ s) : ∀ p ∈ Γ.outs, s.heap.objs.size ≠ p.1 := fun p hp e => by
  obtain ⟨o, ho⟩ := (R.out p hp).get
  exact absurd (Heap.lt_size ho) (e ▸ Nat.lt_irrefl _)

theorem Rel.new (R : Rel knd Γ σ s) {h' : Heap} {tk : Nat} {a : Addr} {o : O K} {ob : Obj} (hb : Γ.B a = none) (hl : a ≠ Γ.L) (ho : ∀ p ∈ Γ.outs, a ≠ p.1)
    (e : ∀ b o, b ≠ a → s.heap.get? b = some o → h'.get? b = some o) (g : h'.get? a = some ob) (io : o.is knd ob) : Rel knd Γ (σ.set a o) { s with heap := h', toks := tk } where
  keep := fun b o q => e b o (fun x => by rw [x, hb] at q; cases q) (R.keep b o q)
  rest := by rw [R.rest]
  cur := R.cur.ext fun o q => e _ _ (fun x => hl x.symm) q
  out := fun p hp => (R.out p hp).ext fun o q => e _ _ (fun x => ho p hp x.symm) q
  obj := fun b o' q => by
    simp only [MS.set, put] at q
    split at q
    · rename_i x; subst x; cases q; exact ⟨ob, g, io⟩
    · rename_i x; obtain ⟨ob, h1, h2⟩ := R.obj b o' q; exact ⟨ob, e _ _ x h1, h2⟩
  bL := R.bL
  bO := R.bO
  bH := fun b o' q => by
    simp only [MS.set, put] at q
    split at q
    · rename_i x; subst x; exact hb
    · exact R.bH b o' q
  lO := R.lO
  hL := by show put _ _ _ _ = _; simp only [put]; rw [if_neg (fun x => hl x.symm)]; exact R.hL
  hO := fun p hp => by show put _ _ _ _ = _; simp only [put]; rw [if_neg (fun x => ho p hp x.symm)]; exact R.hO p hp

theorem Rel.push (R : Rel knd Γ σ s) {o : O K} {ob : Obj} (io : o.is knd ob) {tk : Nat} (hf : ob.isFreed = false := by rfl) : Rel knd Γ (σ.set s.heap.objs.size o) { s with heap := s.heap.push ob, toks := tk } :=
  R.new R.freshB R.freshL R.freshO (fun _ _ _ e => Heap.get?_push_of_some _ e) (Heap.get?_push_size _ hf) io

theorem Rel.change (R : Rel knd Γ σ s) {h' : Heap} {tk : Nat} {a : Addr} {o₁ o : O K} {ob : Obj} (ha : σ.h a = some o₁)
    (e : ∀ b o, b ≠ a → s.heap.get? b = some o → h'.get? b = some o) (g : h'.get? a = some ob) (io : o.is knd ob) : Rel knd Γ (σ.set a o) { s with heap := h', toks := tk } :=
  R.new (R.bH a _ ha) (fun x => by rw [x, R.hL] at ha; cases ha) (fun p hp x => by rw [x, R.hO p hp] at ha; cases ha) e g io

theorem Rel.named (R : Rel knd Γ σ s) {h' : Heap} {tk : Nat} {m' : Str → Option V} (e : Heap.SameBut Γ.L s.heap h') (n : NsAt h' Γ.L m') : Rel knd Γ ⟨m', σ.h⟩ { s with heap := h', toks := tk } where
  keep := fun b o q => (e.2 b (fun x => by rw [x, R.bL] at q; cases q)).trans (R.keep b o q)
  rest := by rw [R.rest]
  cur := n
  out := fun p hp => (R.out p hp).at (e.2 _ (R.lO p hp))
  obj := fun b o' q => let ⟨ob, h1, h2⟩ := R.obj b o' q; ⟨ob, (e.2 b (fun x => by rw [x, R.hL] at q; cases q)).trans h1, h2⟩
  bL := R.bL
  bO := R.bO
  bH := R.bH
  lO := R.lO
  hL := R.hL
  hO := R.hO

theorem Rel.less (R : Rel knd Γ σ s) {σ' : MS K} (h1 : ∀ a o, σ'.h a = some o → σ.h a = some o) (h2 : ∀ x v, σ'.m x = some v → σ.m x = some v) : Rel knd Γ σ' s where
  keep := R.keep
  rest := R.rest
  cur := let ⟨m', n, q⟩ := R.cur; ⟨m', n, fun x v e => q x v (h2 x v e)⟩
  out := R.out
  obj := fun a o q => R.obj a o (h1 a o q)
  bL := R.bL
  bO := R.bO
  bH := fun a o q => R.bH a o (h1 a o q)
  lO := R.lO
  hL := by cases h : σ'.h Γ.L with
    | none => rfl
    | some o => have := h1 _ _ h; rw [R.hL] at this; cases this
  hO := fun p hp => by cases h : σ'.h p.1 with
    | none => rfl
    | some o => have := h1 _ _ h; rw [R.hO p hp] at this; cases this

theorem freeze_sub {base : Heap} {B : Addr → Option Obj} {a : Addr} {ob : Obj} (sub : ∀ b o, base.get? b = some o → B b = some o) (h : B a = none) : ∀ b o, base.get? b = some o → put B a ob b = some o := by
  intro b o e
  have := sub b o e
  simp only [put]; split
  · rename_i x; rw [x, h] at this; cases this
  · exact this
noncomputable def Fx.freeze (Γ : Fx) (a : Addr) (ob : Obj) (h : Γ.B a = none) : Fx :=
  { Γ with B := put Γ.B a ob, sub := freeze_sub Γ.sub h }
theorem Rel.freeze (R : Rel knd Γ σ s) {a : Addr} {ob : Obj} (g : s.heap.get? a = some ob) (hb : Γ.B a = none) (hl : a ≠ Γ.L) (ho : ∀ p ∈ Γ.outs, a ≠ p.1) (hh : σ.h a = none) : Rel knd (Γ.freeze a ob hb) σ s where
  keep := fun b o q => by
    simp only [Fx.freeze, put] at q; split at q
    · rename_i x; cases q; rw [x]; exact g
    · exact R.keep b o q
  rest := R.rest
  cur := R.cur
  out := R.out
  obj := R.obj
  bL := by simp only [Fx.freeze, put]; rw [if_neg (fun x => hl x.symm)]; exact R.bL
  bO := fun p hp => by simp only [Fx.freeze, put]; rw [if_neg (fun x => ho p hp x.symm)]; exact R.bO p hp
  bH := fun b o q => by simp only [Fx.freeze, put]; rw [if_neg (fun x => by rw [x, hh] at q; cases q)]; exact R.bH b o q
  lO := R.lO
  hL := R.hL
  hO := R.hO
theorem Rel.thaw {a : Addr} {ob : Obj} {hb : Γ.B a = none} (R : Rel knd (Γ.freeze a ob hb) σ s) : Rel knd Γ σ s where
  keep := fun b o q => R.keep b o (by simp only [Fx.freeze, put]; rw [if_neg (fun x => by rw [x, hb] at q; cases q)]; exact q)
  rest := R.rest
  cur := R.cur
  out := R.out
  obj := R.obj
  bL := by have := R.bL; simp only [Fx.freeze, put] at this; split at this; cases this; exact this
  bO := fun p hp => by have := R.bO p hp; simp only [Fx.freeze, put] at this; split at this; cases this; exact this
  bH := fun b o q => by have := R.bH b o q; simp only [Fx.freeze, put] at this; split at this; cases this; exact this
  lO := R.lO
  hL := R.hL
  hO := R.hO

noncomputable def mwp (knd : KeyKind prog w K) (Γ : Fx) (A : Around) {α : Type} (c : Sem α) (Q : α → MS K → Prop) (σ : MS K) : Prop :=
  ∀ s (E : Value → Shared → Prop), Rel knd Γ σ s → wpAny (model prog w) A c (fun a s' => ∃ σ', Rel knd Γ σ' s' ∧ Q a σ') E s

variable {A : Around} {α β : Type}
theorem mwp_mono {c : Sem α} {Q Q' : α → MS K → Prop} (h : mwp knd Γ A c Q σ) (q : ∀ a σ, Q a σ → Q' a σ) : mwp knd Γ A c Q' σ :=
  fun s E R => wpAny_mono (h s E R) (fun _ _ ⟨σ', R', h'⟩ => ⟨σ', R', q _ _ h'⟩) fun _ _ e => e
theorem mwp_pure {a : α} {Q : α → MS K → Prop} (h : Q a σ) : mwp knd Γ A (pure a) Q σ := fun _ _ R => wpAny_pure ⟨σ, R, h⟩
theorem mwp_bind {c : Sem α} {f : α → Sem β} {Q : β → MS K → Prop} (h : mwp knd Γ A c (fun a σ' => mwp knd Γ A (f a) Q σ') σ) : mwp knd Γ A (c >>= f) Q σ :=
  fun s E R => wpAny_bind (wpAny_mono (h s E R) (fun _ s' ⟨_, R', h'⟩ => h' s' E R') fun _ _ e => e)
end
section
variable {prog : Program} {w : World} {K : Type} [DecidableEq K]
@[reducible] noncomputable def seqQ (knd : KeyKind prog w K) (Γ : Fx) (A : Around) (rest : List Stmt) (env : Env) (Q : Flow → MS K → Prop) : Flow → MS K → Prop := fun f σ' => match f with | .next => mwp knd Γ A (execs rest env) Q σ' | f => Q f σ'
@[reducible] noncomputable def loopQ (N : MS K → Prop) (Q : Flow → MS K → Prop) : Flow → MS K → Prop := fun f σ => match f with
  | .next | .cont => N σ
  | .brk => Q .next σ
  | .ret v => Q (.ret v) σ
@[reducible] noncomputable def ifQ (knd : KeyKind prog w K) (Γ : Fx) (A : Around) (body orelse : List Stmt) (env : Env) (Q : Flow → MS K → Prop) : Bool → MS K → Prop := fun b σ' => if b then mwp knd Γ A (execs body env) Q σ' else mwp knd Γ A (execs orelse env) Q σ'
@[reducible] noncomputable def whileQ (knd : KeyKind prog w K) (Γ : Fx) (A : Around) (body orelse : List Stmt) (env : Env) (N : MS K → Prop) (Q : Flow → MS K → Prop) : Bool → MS K → Prop := fun b σ' => if b then mwp knd Γ A (execs body env) (loopQ N Q) σ' else mwp knd Γ A (execs orelse env) Q σ'
@[reducible] noncomputable def funQ (m : Str → Option V) (Q : Value → MS K → Prop) : Flow → MS K → Prop := fun fl σ' => ∃ h', (∀ a o, h' a = some o → σ'.h a = some o) ∧ Q (match fl with | .ret v => v | _ => .none) ⟨m, h'⟩
theorem itrue {c : Prop} [Decidable c] {P R : Prop} (h : c) (k : P) : if c then P else R := by rw [if_pos h]; exact k
theorem ifalse {c : Prop} [Decidable c] {P R : Prop} (h : ¬ c) (k : R) : if c then P else R := by rw [if_neg h]; exact k
end
end Mine
end
section
open PySem PySem.W PyProof.Rows
set_option maxHeartbeats 400000
namespace Mine
section
variable {prog : Program} {w : World} {K : Type} [DecidableEq K] {knd : PySem.KeyKind prog w K} {Γ : Fx} {σ : MS K} {A : Around} {env : Env} {α : Type}

theorem mwp.use {c : Sem α} {Q : α → MS K → Prop} {P : α → Shared → Prop} {E : Value → Shared → Prop} {s : Shared} (h : mwp knd Γ A c Q σ) (R : Rel knd Γ σ s)
    (k : ∀ a s' σ', Rel knd Γ σ' s' → Q a σ' → P a s') : wpAny (model prog w) A c P E s :=
  wpAny_mono (h s E R) (fun a s' ⟨σ', R', q⟩ => k a s' σ' R' q) fun _ _ e => e

theorem m_nil {Q : Flow → MS K → Prop} (h : Q .next σ) : mwp knd Γ A (execs [] env) Q σ := fun _ _ R => wpAny_execs_nil ⟨σ, R, h⟩
theorem m_cons {st : Stmt} {rest : List Stmt} {Q : Flow → MS K → Prop} (h : mwp knd Γ A (exec st env) (seqQ knd Γ A rest env Q) σ) :
    mwp knd Γ A (execs (st :: rest) env) Q σ := fun s E R => wpAny_execs_cons (h.use R fun f s' σ' R' q => by
  cases f with
  | next => exact q s' E R'
  | brk => exact ⟨σ', R', q⟩
  | cont => exact ⟨σ', R', q⟩
  | ret v => exact ⟨σ', R', q⟩)
theorem m_If {test : Expr} {body orelse : List Stmt} {pos : Pos} {Q : Flow → MS K → Prop}
    (h : mwp knd Γ A (isTrue test env (eval test env)) (ifQ knd Γ A body orelse env Q) σ) :
    mwp knd Γ A (exec (.If test body orelse pos) env) Q σ := fun s E R => wpAny_If (h.use R fun b s' σ' R' q => by
  cases b with
  | true => exact q s' E R'
  | false => exact q s' E R')
theorem m_Return {e : Expr} {pos : Pos} {Q : Flow → MS K → Prop} (h : mwp knd Γ A (eval e env) (fun v => Q (.ret v)) σ) : mwp knd Γ A (exec (.Return (some e) pos) env) Q σ :=
  fun s E R => wpAny_Return_some (h s E R)
theorem m_Break {pos : Pos} {Q : Flow → MS K → Prop} (h : Q .brk σ) : mwp knd Γ A (exec (.Break pos) env) Q σ := fun _ _ R => wpAny_Break ⟨σ, R, h⟩
theorem m_Continue {pos : Pos} {Q : Flow → MS K → Prop} (h : Q .cont σ) : mwp knd Γ A (exec (.Continue pos) env) Q σ := fun _ _ R => wpAny_Continue ⟨σ, R, h⟩
theorem m_Expr {e : Expr} {pos : Pos} {Q : Flow → MS K → Prop} (h : mwp knd Γ A (eval e env) (fun _ => Q .next) σ)
    (hi : interactive env = false := by rfl) (hs : swapsWith e none pos.line env = pure false := by rfl) : mwp knd Γ A (exec (.Expr e pos) env) Q σ :=
  fun s E R => wpAny_Expr_any (h s E R) hi hs
theorem m_AssignName {x : Str} {pos' pos : Pos} {value : Expr} {Q : Flow → MS K → Prop} (h : mwp knd Γ A (eval value env) (fun v σ' => mwp knd Γ A (storeName env x v) (fun _ => Q .next) σ') σ)
    (hs : swapsWith value (some (.Name x pos')) pos.line env = pure false := by rfl) : mwp knd Γ A (exec (.Assign [.Name x pos'] value pos) env) Q σ :=
  fun s E R => wpAny_Assign_Name (h.use R fun v s' σ' R' q => q s' E R') hs
theorem m_AssignSub {o i : Expr} {pos' pos : Pos} {value : Expr} {Q : Flow → MS K → Prop}
    (h : mwp knd Γ A (eval value env) (fun v σ₁ => mwp knd Γ A (eval o env) (fun ov σ₂ => mwp knd Γ A (eval i env) (fun iv σ₃ => mwp knd Γ A (setItem ov iv v) (fun _ => Q .next) σ₃) σ₂) σ₁) σ)
    (hs : swapsWith value (some (.Subscript o i pos')) pos.line env = pure false := by rfl) : mwp knd Γ A (exec (.Assign [.Subscript o i pos'] value pos) env) Q σ :=
  fun s E R => wpAny_Assign_Subscript (h.use R fun v s' σ' R' q => q.use R' fun v s' σ' R' q => q.use R' fun v s' σ' R' q => q s' E R') hs
theorem m_AssignAttr {o : Expr} {attr : Str} {pos' pos : Pos} {value : Expr} {Q : Flow → MS K → Prop}
    (h : mwp knd Γ A (eval value env) (fun v σ₁ => mwp knd Γ A (eval o env) (fun ov σ₂ => mwp knd Γ A (setAttr ov attr v) (fun _ => Q .next) σ₂) σ₁) σ)
    (hs : swapsWith value (some (.Attribute o attr pos')) pos.line env = pure false := by rfl) : mwp knd Γ A (exec (.Assign [.Attribute o attr pos'] value pos) env) Q σ :=
  fun s E R => plainObj_wpAny_Assign_Attribute (h.use R fun v s' σ' R' q => q.use R' fun v s' σ' R' q => q s' E R') hs
theorem m_Assign2 {t₁ t₂ value : Expr} {pos : Pos} {Q : Flow → MS K → Prop}
    (h : mwp knd Γ A (eval value env) (fun v σ₁ => mwp knd Γ A (assign t₁ env v) (fun _ σ₂ => mwp knd Γ A (assign t₂ env v) (fun _ => Q .next) σ₂) σ₁) σ)
    (he : (assignEach [t₁, t₂] env).map (·.2) = [assign t₁ env, assign t₂ env] := by rfl)
    (hw : swappedStores [t₁, t₂] value env = pure none := by rfl) : mwp knd Γ A (exec (.Assign [t₁, t₂] value pos) env) Q σ :=
  fun s E R => wpAny_Assign_two (h.use R fun v s' σ' R' q => q.use R' fun v s' σ' R' q => q s' E R') he hw
theorem m_assignName {x : Str} {pos : Pos} {v : Value} {Q : Unit → MS K → Prop} (h : mwp knd Γ A (storeName env x v) Q σ) : mwp knd Γ A (assign (.Name x pos) env v) Q σ :=
  fun s E R => wpAny_assign_Name (h s E R)
theorem m_assignSub {o i : Expr} {pos : Pos} {v : Value} {Q : Unit → MS K → Prop}
    (h : mwp knd Γ A (eval o env) (fun ov σ₂ => mwp knd Γ A (eval i env) (fun iv σ₃ => mwp knd Γ A (setItem ov iv v) Q σ₃) σ₂) σ) : mwp knd Γ A (assign (.Subscript o i pos) env v) Q σ := fun s E R => by
  rw [arm_assign_Subscript]
  refine wpAny_bind (wpAny_holding (h.use R fun ov s' σ' R' q => wpAny_bind (wpAny_holding (q.use R' fun iv s' σ' R' q => wpAny_bind (wpAny_standAt (wpAny_bind (wpAny_holding (q.use R' fun _ s' σ' R' q => ?_))))))))
  exact wpAny_releaseD ⟨σ', R', q⟩
theorem m_AugName {x : Str} {pos' pos : Pos} {op : Operator} {value : Expr} {Q : Flow → MS K → Prop}
    (h : mwp knd Γ A (loadName env x) (fun old σ₁ => mwp knd Γ A (eval value env) (fun v σ₂ => mwp knd Γ A (inplaceOp op old v) (fun r σ₃ => mwp knd Γ A (storeName env x r) (fun _ => Q .next) σ₃) σ₂) σ₁) σ) :
    mwp knd Γ A (exec (.AugAssign (.Name x pos') op value pos) env) Q σ :=
  fun s E R => wpAny_AugAssign_Name (h.use R fun v s' σ' R' q => q.use R' fun v s' σ' R' q => q.use R' fun v s' σ' R' q => q s' E R')
theorem m_AugAttr {o value : Expr} {attr : Str} {tpos pos : Pos} {op : Operator} {Q : Flow → MS K → Prop}
    (h : mwp knd Γ A (eval o env) (fun ov σ₁ => mwp knd Γ A (getAttr ov attr true) (fun old σ₂ => mwp knd Γ A (eval value env) (fun v σ₃ => mwp knd Γ A (inplaceOp op old v) (fun new σ₄ =>
      mwp knd Γ A (setAttr ov attr new) (fun _ => Q .next) σ₄) σ₃) σ₂) σ₁) σ) : mwp knd Γ A (exec (.AugAssign (.Attribute o attr tpos) op value pos) env) Q σ :=
  fun s E R => wpAny_AugAssign_AttributeAny (h.use R fun v s' σ' R' q => q.use R' fun v s' σ' R' q => q.use R' fun v s' σ' R' q => q.use R' fun v s' σ' R' q => q s' E R')

theorem m_int {i : Int} {k : Nat} {pos : Pos} {Q : Value → MS K → Prop} (h : ∀ t, Q (.int i t) σ) : mwp knd Γ A (eval (.Constant (.int i) k pos) env) Q σ := fun s _ R => wpAny_Constant_int ⟨σ, R.toks, h _⟩
theorem m_str {x : Str} {k : Nat} {pos : Pos} {Q : Value → MS K → Prop} (h : ∀ t, Q (.str x t) σ) : mwp knd Γ A (eval (.Constant (.str x) k pos) env) Q σ := fun s _ R => Calls.Constant_str ⟨σ, R.toks, h _⟩
theorem m_bool {b : Bool} {k : Nat} {pos : Pos} {Q : Value → MS K → Prop} (h : Q (.bool b) σ) : mwp knd Γ A (eval (.Constant (.bool b) k pos) env) Q σ := fun s _ R => wpAny_Constant_bool ⟨σ, R, h⟩
theorem m_none {k : Nat} {pos : Pos} {Q : Value → MS K → Prop} (h : Q .none σ) : mwp knd Γ A (eval (.Constant .none k pos) env) Q σ := fun s _ R => wpAny_Constant_none ⟨σ, R, h⟩
theorem m_BinOp {l r : Expr} {op : Operator} {pos : Pos} {Q : Value → MS K → Prop}
    (h : mwp knd Γ A (eval l env) (fun a σ₁ => mwp knd Γ A (eval r env) (fun b σ₂ => mwp knd Γ A (binaryOp op a b) Q σ₂) σ₁) σ) : mwp knd Γ A (eval (.BinOp l op r pos) env) Q σ :=
  fun s E R => wpAny_BinOp (h.use R fun v s' σ' R' q => q.use R' fun v s' σ' R' q => q s' E R')
theorem m_UnaryOp {x : Expr} {op : UnaryOp} {pos : Pos} {Q : Value → MS K → Prop} (h : mwp knd Γ A (eval x env) (fun a σ₁ => mwp knd Γ A (unaryOp op a) Q σ₁) σ) : mwp knd Γ A (eval (.UnaryOp op x pos) env) Q σ :=
  fun s E R => wpAny_UnaryOp (h.use R fun v s' σ' R' q => q s' E R')
theorem m_Compare {l r : Expr} {op : CmpOp} {pos : Pos} {Q : Value → MS K → Prop}
    (h : mwp knd Γ A (eval l env) (fun a σ₁ => mwp knd Γ A (eval r env) (fun b σ₂ => mwp knd Γ A (compareOp op a b) Q σ₂) σ₁) σ) (hm : behindInMarks op r = false := by with_unfolding_all rfl) :
    mwp knd Γ A (eval (.Compare l [op] [r] pos) env) Q σ :=
  fun s E R => wpAny_Compare1 (h.use R fun v s' σ' R' q => q.use R' fun v s' σ' R' q => q s' E R') hm
theorem m_isCompare {l r : Expr} {op : CmpOp} {pos : Pos} {whole : Sem Value} {Q : Bool → MS K → Prop}
    (h : mwp knd Γ A (eval l env) (fun a σ₁ => mwp knd Γ A (eval r env) (fun b σ₂ => mwp knd Γ A (compareOp op a b) (fun c σ₃ => mwp knd Γ A (truthy c) Q σ₃) σ₂) σ₁) σ) (hm : behindInMarks op r = false := by with_unfolding_all rfl) :
    mwp knd Γ A (isTrue (.Compare l [op] [r] pos) env whole) Q σ :=
  fun s E R => wpAny_isTrue_Compare1 (h.use R fun v s' σ' R' q => q.use R' fun v s' σ' R' q => q.use R' fun v s' σ' R' q => q s' E R') hm
theorem m_isNot {x : Expr} {pos : Pos} {whole : Sem Value} {Q : Bool → MS K → Prop} (h : mwp knd Γ A (isTrue x env (eval x env)) (fun b => Q (!b)) σ) : mwp knd Γ A (isTrue (.UnaryOp .Not x pos) env whole) Q σ :=
  fun s E R => wpAny_isTrue_Not (h s E R)
theorem m_isBoolOp {op : BoolOp} {values : List Expr} {pos : Pos} {whole : Sem Value} {Q : Bool → MS K → Prop} (h : mwp knd Γ A (allTrue op values env) Q σ) : mwp knd Γ A (isTrue (.BoolOp op values pos) env whole) Q σ :=
  fun s E R => wpAny_isTrue_BoolOp (h s E R)
theorem m_isValue {e : Expr} {whole : Sem Value} {Q : Bool → MS K → Prop} (h : mwp knd Γ A whole (fun v σ' => mwp knd Γ A (truthy v) Q σ') σ)
    (he : isTrue e env whole = (do let v ← whole; standAt e.pos; holding [v] (truthy v)) := by rfl) : mwp knd Γ A (isTrue e env whole) Q σ :=
  fun s E R => wpAny_isTrue_value (h.use R fun v s' σ' R' q => q s' E R') he
theorem m_andNil {Q : Bool → MS K → Prop} (h : Q true σ) : mwp knd Γ A (allTrue .And [] env) Q σ := fun _ _ R => wpAny_allTrue_And_nil ⟨σ, R, h⟩
theorem m_orNil {Q : Bool → MS K → Prop} (h : Q false σ) : mwp knd Γ A (allTrue .Or [] env) Q σ := fun _ _ R => wpAny_allTrue_Or_nil ⟨σ, R, h⟩
theorem m_andCons {x : Expr} {rest : List Expr} {Q : Bool → MS K → Prop} (h : mwp knd Γ A (isTrue x env (eval x env)) (fun b σ' => if b then mwp knd Γ A (allTrue .And rest env) Q σ' else Q false σ') σ) :
    mwp knd Γ A (allTrue .And (x :: rest) env) Q σ := fun s E R => wpAny_allTrue_And_cons (h.use R fun b s' σ' R' q => by
  cases b with
  | true => exact q s' E R'
  | false => exact ⟨σ', R', q⟩)
theorem m_orCons {x : Expr} {rest : List Expr} {Q : Bool → MS K → Prop} (h : mwp knd Γ A (isTrue x env (eval x env)) (fun b σ' => if b then Q true σ' else mwp knd Γ A (allTrue .Or rest env) Q σ') σ) :
    mwp knd Γ A (allTrue .Or (x :: rest) env) Q σ := fun s E R => wpAny_allTrue_Or_cons (h.use R fun b s' σ' R' q => by
  cases b with
  | true => exact ⟨σ', R', q⟩
  | false => exact q s' E R')
theorem m_or2 {x y : Expr} {pos : Pos} {Q : Value → MS K → Prop} (h : mwp knd Γ A (eval x env) (fun v σ₁ => mwp knd Γ A (truthy v) (fun t σ₂ => if t then Q v σ₂ else mwp knd Γ A (eval y env) Q σ₂) σ₁) σ) :
    mwp knd Γ A (eval (.BoolOp .Or [x, y] pos) env) Q σ := fun s E R => wpAny_Or2 (h.use R fun v s' σ' R' q => q.use R' fun t s' σ' R' q => by
  cases t with
  | true => exact ⟨σ', R', q⟩
  | false => exact q s' E R')
theorem m_IfExp {test body orelse : Expr} {pos : Pos} {Q : Value → MS K → Prop}
    (h : mwp knd Γ A (isTrue test env (eval test env)) (fun b σ' => if b then mwp knd Γ A (eval body env) Q σ' else mwp knd Γ A (eval orelse env) Q σ') σ) : mwp knd Γ A (eval (.IfExp test body orelse pos) env) Q σ :=
  fun s E R => wpAny_IfExp (h.use R fun b s' σ' R' q => by
  cases b with
  | true => exact q s' E R'
  | false => exact q s' E R')
theorem m_Named {target value : Expr} {pos : Pos} {Q : Value → MS K → Prop} (h : mwp knd Γ A (eval value env) (fun v σ₁ => mwp knd Γ A (assign target env v) (fun _ σ₂ => Q v σ₂) σ₁) σ) :
    mwp knd Γ A (eval (.NamedExpr target value pos) env) Q σ := fun s E R => wpAny_NamedExpr (h.use R fun v s' σ' R' q => q s' E R')
theorem m_Attr {value : Expr} {attr : Str} {pos : Pos} {Q : Value → MS K → Prop} (h : mwp knd Γ A (eval value env) (fun o σ₁ => mwp knd Γ A (getAttr o attr true) Q σ₁) σ)
    (he : eval (.Attribute value attr pos) env = (do
      let o ← eval value env
      standAt pos.atName
      let r ← holding [o] (getAttr o attr true)
      letTemporaryGo value o r
      pure r) := by with_unfolding_all rfl) : mwp knd Γ A (eval (.Attribute value attr pos) env) Q σ := fun s E R => Attribute_any_ (h.use R fun v s' σ' R' q => q s' E R') he
theorem m_Sub {value slice : Expr} {pos : Pos} {Q : Value → MS K → Prop} (h : mwp knd Γ A (eval value env) (fun o σ₁ => mwp knd Γ A (eval slice env) (fun i σ₂ => mwp knd Γ A (subscriptTail value slice o i) Q σ₂) σ₁) σ) :
    mwp knd Γ A (eval (.Subscript value slice pos) env) Q σ := fun s E R => Subscript_ (h.use R fun v s' σ' R' q => q.use R' fun v s' σ' R' q => q s' E R')
theorem m_Call {func : Expr} {args : List Expr} {pos : Pos} {Q : Value → MS K → Prop} (h : mwp knd Γ A (eval func env) (fun f σ₁ => mwp knd Γ A (callWith pos f [] (backTo pos (starEach args env)) []) Q σ₁) σ)
    (he : eval (.Call func args [] pos) env = (do callWith pos (← eval func env) [] (backTo pos (starEach args env)) (backToKw pos (keywordEach [] env))) := by rfl) :
    mwp knd Γ A (eval (.Call func args [] pos) env) Q σ := fun s E R => Call_ (h.use R fun v s' σ' R' q => q s' E R') he
theorem m_CallKw {x : Str} {np pos : Pos} {args : List Expr} {kws : List Keyword} {Q : Value → MS K → Prop}
    (h : mwp knd Γ A (eval (.Name x np) env) (fun f σ₁ => mwp knd Γ A (callWith pos f [] (backTo pos (starEach args env)) (backToKw pos (keywordEach kws env))) Q σ₁) σ) :
    mwp knd Γ A (eval (.Call (.Name x np) args kws pos) env) Q σ := fun s E R => wpAny_Call_ofName (h.use R fun v s' σ' R' q => q s' E R')
theorem m_Method {o : Expr} {name : Str} {apos pos : Pos} {args : List Expr} {pl : Sem Bool} {Q : Value → MS K → Prop}
    (h : mwp knd Γ A (eval o env) (fun ov σ₁ => mwp knd Γ A (getMethod ov name pl) (fun fx σ₂ => mwp knd Γ A (callWith pos fx.1 fx.2 (backTo pos (starEach args env)) []) Q σ₂) σ₁) σ)
    (he : eval (.Call (.Attribute o name apos) args [] pos) env = (do
      let ov ← eval o env
      standAt apos.atName
      let (f, first) ← holding [ov] (getMethod ov name pl)
      callWith pos f first (backTo pos (starEach args env)) []) := by rfl) : mwp knd Γ A (eval (.Call (.Attribute o name apos) args [] pos) env) Q σ :=
  fun s E R => MethodCall_ (h.use R fun v s' σ' R' q => q.use R' fun v s' σ' R' q => q s' E R') he
theorem m_spl0 {Q : List Value → MS K → Prop} (h : Q [] σ) : mwp knd Γ A (spliced []) Q σ := fun _ _ R => Calls.spliced_nil ⟨σ, R, h⟩
theorem m_spl {x : Sem Value} {rest : List (Bool × Sem Value)} {Q : List Value → MS K → Prop} (h : mwp knd Γ A x (fun v σ₁ => mwp knd Γ A (spliced rest) (fun vs σ₂ => Q (v :: vs) σ₂) σ₁) σ) :
    mwp knd Γ A (spliced ((false, x) :: rest)) Q σ := fun s E R => Calls.spliced_cons (h.use R fun v s' σ' R' q => q s' E R')
theorem m_List {elts : List Expr} {pos : Pos} {Q : Value → MS K → Prop} (h : mwp knd Γ A (spliced (backTo pos (starEach elts env))) (fun vs σ₁ => mwp knd Γ A (newList vs) Q σ₁) σ) : mwp knd Γ A (eval (.List elts pos) env) Q σ :=
  fun s E R => List_ (h.use R fun v s' σ' R' q => q s' E R')
theorem m_Tuple {elts : List Expr} {k : Nat} {pos : Pos} {Q : Value → MS K → Prop} (h : mwp knd Γ A (spliced (backTo pos (starEach elts env))) (fun vs σ₁ => mwp knd Γ A (newTuple vs) Q σ₁) σ) : mwp knd Γ A (eval (.Tuple elts k pos) env) Q σ :=
  fun s E R => Tuple_ (h.use R fun v s' σ' R' q => q s' E R')

theorem m_load {x : Str} {v : V} {Q : Value → MS K → Prop} (hm : σ.m x = some v) (h : ∀ v', v.is v' → Q v' σ) (hk : env.scope.kind = .function := by rfl) (hl : env.kindOf x = some .local := by rfl) (he : env.locals = Γ.L := by rfl) :
    mwp knd Γ A (loadName env x) Q σ := fun s E R => by
  obtain ⟨m', n, q⟩ := R.cur
  obtain ⟨v', e, iv⟩ := q x v hm
  rw [← he] at n
  exact wpAny_loadName_local hk hl n e ⟨σ, R, h v' iv⟩
theorem m_Name {x : Str} {pos : Pos} {Q : Value → MS K → Prop} (h : mwp knd Γ A (loadName env x) Q σ) (hd : (x == ("__debug__" : Str)) = false := by decide) : mwp knd Γ A (eval (.Name x pos) env) Q σ :=
  fun s E R => wpAny_Name (h s E R) hd
theorem m_store {x : Str} {v : V} {v' : Value} {Q : Unit → MS K → Prop} (hv : v.is v') (h : Q () (σ.store x v)) (hk : env.scope.kind = .function := by rfl) (hl : env.kindOf x = some .local := by rfl) (he : env.locals = Γ.L := by rfl) :
    mwp knd Γ A (storeName env x v') Q σ := fun s E R => by
  obtain ⟨m', n, q⟩ := R.cur
  rw [← he] at n
  refine wpAny_storeName_local hl n (fun h' n' sb => ?_) (by rw [hk]; rfl)
  rw [he] at n' sb
  refine ⟨_, R.named sb ⟨_, n', fun y u e => ?_⟩, h⟩
  simp only [putS] at e
  split at e
  · rename_i z; cases e; rw [if_pos z]; exact ⟨_, rfl, hv⟩
  · rename_i z; rw [if_neg z]; exact q y u e
theorem is_cell {h : Heap} {c : Addr} {v : Option Value} {o : Obj} (e : h.get? c = some o) (d : o.data = .cell v) : h.IsCell c v := ⟨o, e, d⟩
theorem m_loadCell {x : Str} {c : Addr} {v : V} {Q : Value → MS K → Prop} (hm : σ.h c = some (.cell (some v))) (h : ∀ v', v.is v' → Q v' σ) (hk : env.scope.kind = .function := by rfl) (hl : env.kindOf x = some .cell := by rfl) (he : env.cells.lookup x = some c := by rfl) :
    mwp knd Γ A (loadName env x) Q σ := fun s E R => by
  obtain ⟨o, e, v', d, iv⟩ := R.obj c _ hm
  cases v' with
  | none => exact iv.elim
  | some v' => exact wpAny_loadName_cell hk hl he (is_cell e d) ⟨σ, R, h v' iv⟩
theorem m_storeCell {x : Str} {c : Addr} {v₀ : Option V} {v : V} {v' : Value} {Q : Unit → MS K → Prop} (hv : v.is v') (hm : σ.h c = some (.cell v₀)) (h : Q () (σ.set c (.cell (some v)))) (hk : env.scope.kind = .function := by rfl) (hl : env.kindOf x = some .cell := by rfl) (he : env.cells.lookup x = some c := by rfl) :
    mwp knd Γ A (storeName env x v') Q σ := fun s E R => by
  obtain ⟨o, e, v₁, d, iv⟩ := R.obj c _ hm
  refine wpAny_storeName_cell hk hl he (is_cell e d) fun h' ⟨o', e', d'⟩ sb => ⟨_, R.change (o := .cell (some v)) hm (fun b o hb q => (sb.2 b hb).trans q) e' ⟨_, d', hv⟩, h⟩
theorem m_global {x : Str} {v : Value} {mg : Str → Option Value} {Q : Value → MS K → Prop} (hg : Γ.base.Ns mainGlobals mg) (hv : mg x = some v) (h : Q v σ) (hk : env.scope.kind = .function := by rfl) (hl : env.kindOf x = some .globalImplicit := by rfl)
    (he : env.globals = mainGlobals := by rfl) : mwp knd Γ A (loadName env x) Q σ := fun s E R => by
  have n : s.heap.Ns env.globals mg := he ▸ hg.keeps fun b o e => R.keep b o (Γ.sub b o e)
  have : loadName env x = loadGlobal env x := by unfold loadName; simp [hk, hl, ScopeKind.isAnnotationScope, Env.blockKind]
  rw [this]
  exact Calls.loadGlobal_global n hv ⟨σ, R, h⟩
theorem m_builtin {x : Str} {v : Value} {mg mb : Str → Option Value} {Q : Value → MS K → Prop} (hg : Γ.base.Ns mainGlobals mg) (hm : mg x = none) (hb : Γ.base.Ns builtinsNs mb) (hv : mb x = some v) (h : Q v σ)
    (hk : env.scope.kind = .function := by rfl) (hl : env.kindOf x = some .globalImplicit := by rfl) (he : env.globals = mainGlobals := by rfl) (hf : env.builtins = builtinsNs := by rfl) : mwp knd Γ A (loadName env x) Q σ := fun s E R => by
  have n : s.heap.Ns env.globals mg := he ▸ hg.keeps fun b o e => R.keep b o (Γ.sub b o e)
  have n' : s.heap.Ns env.builtins mb := hf ▸ hb.keeps fun b o e => R.keep b o (Γ.sub b o e)
  have : loadName env x = loadGlobal env x := by unfold loadName; simp [hk, hl, ScopeKind.isAnnotationScope, Env.blockKind]
  rw [this]
  exact Calls.loadGlobal_builtin n hm n' hv ⟨σ, R, h⟩

variable {a b : Int} {t u : Tok} {Q : Value → MS K → Prop} {QB : Bool → MS K → Prop}
theorem m_add (h : ∀ t, Q (.int (a + b) t) σ) : mwp knd Γ A (binaryOp .Add (.int a t) (.int b u)) Q σ := fun _ _ R => PyProof.Rows.add_int ⟨σ, R.toks, h _⟩
theorem m_sub (h : ∀ t, Q (.int (a - b) t) σ) : mwp knd Γ A (binaryOp .Sub (.int a t) (.int b u)) Q σ := fun _ _ R => PyProof.Rows.sub_int ⟨σ, R.toks, h _⟩
theorem m_mul (hm : IntMulOk a b) (h : ∀ t, Q (.int (a * b) t) σ) : mwp knd Γ A (binaryOp .Mult (.int a t) (.int b u)) Q σ := fun _ _ R => PyProof.Rows.mul_int ⟨σ, R.toks, h _⟩ hm
theorem m_and (h : ∀ t, Q (.int (Builtin.bitAnd a b) t) σ) : mwp knd Γ A (binaryOp .BitAnd (.int a t) (.int b u)) Q σ := fun _ _ R => PyProof.Rows.and_int ⟨σ, R.toks, h _⟩
theorem m_or (h : ∀ t, Q (.int (Builtin.bitOr a b) t) σ) : mwp knd Γ A (binaryOp .BitOr (.int a t) (.int b u)) Q σ := fun _ _ R => PyProof.Rows.or_int ⟨σ, R.toks, h _⟩
theorem m_xor (h : ∀ t, Q (.int (Builtin.bitXor a b) t) σ) : mwp knd Γ A (binaryOp .BitXor (.int a t) (.int b u)) Q σ := fun _ _ R => PyProof.Rows.xor_int ⟨σ, R.toks, h _⟩
theorem m_mod (hb : b ≠ 0) (h : ∀ t, Q (.int (a.fmod b) t) σ) : mwp knd Γ A (binaryOp .Mod (.int a t) (.int b u)) Q σ := fun _ _ R => PyProof.Rows.mod_int' hb ⟨σ, R.toks, h _⟩
theorem m_div (hb : b ≠ 0) (hp : Builtin.divisionGoesByPylong a b = false) (h : ∀ t, Q (.int (a.fdiv b) t) σ) : mwp knd Γ A (binaryOp .FloorDiv (.int a t) (.int b u)) Q σ := fun _ _ R => PyProof.Rows.floordiv_int hb ⟨σ, R.toks, h _⟩ (.inl hp)
theorem m_shl (hn : 0 ≤ b) (hn2 : b ≤ 1000000) (ha : a.natAbs < 2 ^ 64) (h : ∀ t, Q (.int (a * 2 ^ b.toNat) t) σ) : mwp knd Γ A (binaryOp .LShift (.int a t) (.int b u)) Q σ := fun _ _ R => PyProof.Rows.lshift_int_small hn hn2 ha ⟨σ, R.toks, h _⟩
theorem m_shr (hn : 0 ≤ b) (h : ∀ t, Q (.int (a.fdiv (2 ^ b.toNat)) t) σ) : mwp knd Γ A (binaryOp .RShift (.int a t) (.int b u)) Q σ := fun _ _ R => PyProof.Rows.rshift_int hn ⟨σ, R.toks, h _⟩
theorem m_pow (hn : 0 ≤ b) (hsz : (Builtin.Int.intBits a : Int) * b ≤ 2 ^ 27) (h : ∀ t, Q (.int (a ^ b.toNat) t) σ) : mwp knd Γ A (binaryOp .Pow (.int a t) (.int b u)) Q σ := fun _ _ R => PyProof.Rows.pow_int hn hsz ⟨σ, R.toks, h _⟩
theorem m_iadd (h : ∀ t, Q (.int (a + b) t) σ) : mwp knd Γ A (inplaceOp .Add (.int a t) (.int b u)) Q σ := fun _ _ R => iadd_int ⟨σ, R.toks, h _⟩
theorem m_isub (h : ∀ t, Q (.int (a - b) t) σ) : mwp knd Γ A (inplaceOp .Sub (.int a t) (.int b u)) Q σ := fun _ _ R => isub_int ⟨σ, R.toks, h _⟩
theorem m_eqi (h : Q (.bool (a == b)) σ) : mwp knd Γ A (compareOp .Eq (.int a t) (.int b u)) Q σ := fun _ _ R => PyProof.Rows.eq_int ⟨σ, R, h⟩
theorem m_nei (h : Q (.bool (a != b)) σ) : mwp knd Γ A (compareOp .NotEq (.int a t) (.int b u)) Q σ := fun _ _ R => PyProof.Rows.ne_int ⟨σ, R, h⟩
theorem m_lti (h : Q (.bool (decide (a < b))) σ) : mwp knd Γ A (compareOp .Lt (.int a t) (.int b u)) Q σ := fun _ _ R => PyProof.Rows.lt_int ⟨σ, R, h⟩
theorem m_gti (h : Q (.bool (decide (b < a))) σ) : mwp knd Γ A (compareOp .Gt (.int a t) (.int b u)) Q σ := fun _ _ R => PyProof.Rows.gt_int ⟨σ, R, h⟩
theorem m_gei (h : Q (.bool (decide (b ≤ a))) σ) : mwp knd Γ A (compareOp .GtE (.int a t) (.int b u)) Q σ := fun _ _ R => PyProof.Rows.ge_int ⟨σ, R, h⟩
theorem m_trInt (h : QB (a != 0) σ) : mwp knd Γ A (truthy (.int a t)) QB σ := fun _ _ R => PyProof.Rows.truthy_int ⟨σ, R, h⟩
theorem m_trBool {c : Bool} (h : QB c σ) : mwp knd Γ A (truthy (.bool c)) QB σ := fun _ _ R => wpAny_truthy_bool ⟨σ, R, h⟩
theorem m_trNone (h : QB false σ) : mwp knd Γ A (truthy .none) QB σ := fun _ _ R => truthy_none ⟨σ, R, h⟩
theorem m_is {x y : Value} (hp : plainIs x y = true) (h : Q (.bool (x == y)) σ) : mwp knd Γ A (compareOp .Is x y) Q σ := fun _ _ R => wpAny_is_plain hp ⟨σ, R, h⟩
theorem m_isnot {x y : Value} (hp : plainIs x y = true) (h : Q (.bool (!(x == y))) σ) : mwp knd Γ A (compareOp .IsNot x y) Q σ := fun _ _ R => wpAny_isNot_plain hp ⟨σ, R, h⟩
variable {x y : Str}
theorem m_eqs (h : Q (.bool (x == y)) σ) : mwp knd Γ A (compareOp .Eq (.str x t) (.str y u)) Q σ := fun _ _ R => PyProof.Rows.eq_str ⟨σ, R, h⟩
theorem m_nes (h : Q (.bool (x != y)) σ) : mwp knd Γ A (compareOp .NotEq (.str x t) (.str y u)) Q σ := fun _ _ R => PyProof.Rows.ne_str ⟨σ, R, h⟩
theorem m_trStr (hfit : ¬ (x.length : Int) ≥ 2 ^ 63) (h : QB ((x.length : Int) != 0) σ) : mwp knd Γ A (truthy (.str x t)) QB σ := fun _ _ R => PySem.P.truthy_str hfit ⟨σ, R.toks, h⟩
end
end Mine
end
section
open PySem PySem.W PyProof.Rows
set_option maxHeartbeats 400000
namespace Mine

structure Dp (A : Around) (n : Nat) : Prop where
  hd : A.handled = none
  dp : A.depth + 3 * n < recursionLimit
  un : A.units + 40 * n < cLine
theorem Dp.deeper {A : Around} {n : Nat} (h : Dp A (n + 1)) (env : Env) : Dp (A.deeper env) n :=
  ⟨h.hd, by have := h.dp; show A.depth + 1 + 3 * n < _; omega, by have := h.un; show A.units + 3 + 40 * n < _; omega⟩
theorem Dp.le {A : Around} {n m : Nat} (h : Dp A n) (hm : m ≤ n) : Dp A m := ⟨h.hd, by have := h.dp; omega, by have := h.un; omega⟩
theorem Dp.room {A : Around} {n : Nat} (h : Dp A n) : A.depth < recursionLimit := by have := h.dp; omega

noncomputable def Fx.enter (Γ : Fx) (L : Addr) (m : Str → Option V) : Fx := { Γ with L := L, outs := (Γ.L, m) :: Γ.outs }

inductive BindsAre : List (Str × V) → List (Str × Value) → Prop
  | nil : BindsAre [] []
  | cons {x v v' r r'} : V.is v v' → BindsAre r r' → BindsAre ((x, v) :: r) ((x, v') :: r')
theorem BindsAre.append {a a' b b'} (h : BindsAre a a') (k : BindsAre b b') : BindsAre (a ++ b) (a' ++ b') := by
  induction h with
  | nil => exact k
  | cons h _ ih => exact .cons h ih
theorem BindsAre.reverse {a a'} (h : BindsAre a a') : BindsAre a.reverse a'.reverse := by
  induction h with
  | nil => exact .nil
  | cons h _ ih => simp only [List.reverse_cons]; exact ih.append (.cons h .nil)
theorem BindsAre.lookup {a a'} (h : BindsAre a a') {x : Str} {v : V} (e : a.lookup x = some v) : ∃ v', a'.lookup x = some v' ∧ v.is v' := by
  induction h with
  | nil => cases e
  | @cons y v v' r r' h _ ih =>
    simp only [List.lookup_cons] at e ⊢
    cases hx : x == y with
    | true => rw [hx] at e; simp at e; subst e; exact ⟨_, rfl, h⟩
    | false => rw [hx] at e; exact ih e

section
variable {prog : Program} {w : World} {K : Type} [DecidableEq K] {knd : PySem.KeyKind prog w K} {Γ : Fx} {σ : MS K} {A : Around} {env : Env} {α : Type}

theorem Rel.leave {L : Addr} {m : Str → Option V} {s : Shared} {σ' : MS K} (R : Rel knd (Γ.enter L m) σ' s) (bL : Γ.B Γ.L = none) (bO : ∀ p ∈ Γ.outs, Γ.B p.1 = none) (lO : ∀ p ∈ Γ.outs, p.1 ≠ Γ.L) : Rel knd Γ ⟨m, σ'.h⟩ s where
  keep := R.keep
  rest := R.rest
  cur := R.out (Γ.L, m) (.head _)
  out := fun p hp => R.out p (.tail _ hp)
  obj := R.obj
  bL := bL
  bO := bO
  bH := R.bH
  lO := lO
  hL := R.hO (Γ.L, m) (.head _)
  hO := fun p hp => R.hO p (.tail _ hp)

theorem Rel.entered {s : Shared} (R : Rel knd Γ σ s) {L : Addr} {h' : Heap} {tk : Nat} {m' : Str → Option V} (hL : s.heap.get? L = none) (hn : NsAt h' L m') (e : ∀ b o, s.heap.get? b = some o → h'.get? b = some o) :
    Rel knd (Γ.enter L σ.m) ⟨m', σ.h⟩ { s with heap := h', toks := tk } where
  keep := fun b o q => e b o (R.keep b o q)
  rest := by rw [R.rest]; rfl
  cur := hn
  out := fun p hp => by
    rcases List.mem_cons.mp hp with rfl | hp
    · exact R.cur.ext (e _)
    · exact (R.out p hp).ext (e _)
  obj := fun a o q => let ⟨ob, h1, h2⟩ := R.obj a o q; ⟨ob, e _ _ h1, h2⟩
  bL := by
    cases h : Γ.B L with
    | none => exact h
    | some o => have := R.keep _ _ h; rw [hL] at this; cases this
  bO := fun p hp => by
    rcases List.mem_cons.mp hp with rfl | hp
    · exact R.bL
    · exact R.bO p hp
  bH := R.bH
  lO := fun p hp x => by
    rcases List.mem_cons.mp hp with rfl | hp
    · obtain ⟨o, ho⟩ := R.cur.get
      have x' : Γ.L = L := x
      rw [x', hL] at ho; cases ho
    · obtain ⟨o, ho⟩ := (R.out p hp).get
      have x' : p.1 = L := x
      rw [x', hL] at ho; cases ho
  hL := by
    show σ.h L = none
    cases h : σ.h L with
    | none => rfl
    | some o => obtain ⟨ob, h1, _⟩ := R.obj _ _ h; rw [hL] at h1; cases h1
  hO := fun p hp => by
    rcases List.mem_cons.mp hp with rfl | hp
    · exact R.hL
    · exact R.hO p hp

theorem m_While {test : Expr} {body orelse : List Stmt} {pos : Pos} {Q : Flow → MS K → Prop} (I : Nat → MS K → Prop) {n : Nat} (h0 : I n σ)
    (turn : ∀ n σ, I n σ → mwp knd Γ A (isTrue test env (eval test env)) (whileQ knd Γ A body orelse env (fun σ₂ => ∃ m, m < n ∧ I m σ₂) Q) σ) : mwp knd Γ A (exec (.While test body orelse pos) env) Q σ := fun s E R => by
  refine wpAny_While (codeAny_whileLoop (fun n s => ∃ σ, Rel knd Γ σ s ∧ I n σ) (fun n s ⟨σ, R, hI⟩ => ?_) n ⟨σ, R, h0⟩)
  refine (turn n σ hI).use R fun b s₁ σ₁ R₁ q => ?_
  cases b with
  | true =>
    simp only [if_true] at q ⊢
    refine q.use R₁ fun f s₂ σ₂ R₂ q => ?_
    cases f with
    | next => obtain ⟨m, hm, hi⟩ := q; exact ⟨m, hm, σ₂, R₂, hi⟩
    | cont => obtain ⟨m, hm, hi⟩ := q; exact ⟨m, hm, σ₂, R₂, hi⟩
    | brk => exact ⟨σ₂, R₂, q⟩
    | ret v => exact ⟨σ₂, R₂, q⟩
  | false =>
    simp only [Bool.false_eq_true, if_false] at q ⊢
    exact q.use R₁ fun f s₂ σ₂ R₂ q => ⟨σ₂, R₂, q⟩

structure Yields (knd : PySem.KeyKind prog w K) (A : Around) (x : Value) (xs : List V) (ok : MS K → Prop) (It : Nat → Obj → Prop) : Prop where
  start : ∀ (Γ : Fx) (σ : MS K) (s : Shared) (Q : Value → Shared → Prop) (E : Value → Shared → Prop), Rel knd Γ σ s → ok σ →
    (∀ I h' tk ob, s.heap.get? I = none → (∀ b o, s.heap.get? b = some o → h'.get? b = some o) → h'.get? I = some ob → It 0 ob → Q (.ref I) { s with heap := h', toks := tk }) → wpAny (model prog w) A (pyIter x) Q E s
  again : ∀ (Γ : Fx) (σ : MS K) (s : Shared) (Q : Value → Shared → Prop) (E : Value → Shared → Prop) (I : Addr) (ob : Obj), Rel knd Γ σ s → ok σ → s.heap.get? I = some ob → It 0 ob → Q (.ref I) s → wpAny (model prog w) A (pyIter (.ref I)) Q E s
  item : ∀ (Γ : Fx) (σ : MS K) (s : Shared) (Q : Option Value → Shared → Prop) (E : Value → Shared → Prop) (I : Addr) (ob : Obj) (i : Nat) (v : V), Rel knd Γ σ s → ok σ → σ.h I = none → s.heap.get? I = some ob → It i ob → xs[i]? = some v →
    (∀ v' h' tk ob', v.is v' → (∀ b o, b ≠ I → s.heap.get? b = some o → h'.get? b = some o) → h'.get? I = some ob' → It (i + 1) ob' → Q (some v') { s with heap := h', toks := tk }) → wpAny (model prog w) A (pyNext (.ref I)) Q E s
  done : ∀ (Γ : Fx) (σ : MS K) (s : Shared) (Q : Option Value → Shared → Prop) (E : Value → Shared → Prop) (I : Addr) (ob : Obj), Rel knd Γ σ s → ok σ → σ.h I = none → s.heap.get? I = some ob → It xs.length ob →
    (∀ h' tk, (∀ b o, b ≠ I → s.heap.get? b = some o → h'.get? b = some o) → Q none { s with heap := h', toks := tk }) → wpAny (model prog w) A (pyNext (.ref I)) Q E s

theorem Rel.extBut {s : Shared} (R : Rel knd Γ σ s) {h' : Heap} {tk : Nat} {I : Addr} (hb : Γ.B I = none) (hl : I ≠ Γ.L) (ho : ∀ p ∈ Γ.outs, I ≠ p.1) (hh : σ.h I = none) (e : ∀ b o, b ≠ I → s.heap.get? b = some o → h'.get? b = some o) :
    Rel knd Γ σ { s with heap := h', toks := tk } where
  keep := fun b o q => e b o (fun x => by rw [x, hb] at q; cases q) (R.keep b o q)
  rest := by rw [R.rest]
  cur := R.cur.ext fun o q => e _ _ (fun x => hl x.symm) q
  out := fun p hp => (R.out p hp).ext fun o q => e _ _ (fun x => ho p hp x.symm) q
  obj := fun a o q => let ⟨ob, h1, h2⟩ := R.obj a o q; ⟨ob, e _ _ (fun x => by rw [x, hh] at q; cases q) h1, h2⟩
  bL := R.bL
  bO := R.bO
  bH := R.bH
  lO := R.lO
  hL := R.hL
  hO := R.hO

inductive ForQ (knd : PySem.KeyKind prog w K) (Γ : Fx) (A : Around) (env : Env) (x : Str) (body : List Stmt) (Q : Flow → MS K → Prop) (v : Value) (σ₁ : MS K) : Prop
  | mk (xs : List V) (ok : MS K → Prop) (It : Nat → Obj → Prop) (Y : Yields knd A v xs ok It) (J : Nat → MS K → Prop) (j0 : J 0 σ₁) (jok : ∀ i σ, J i σ → ok σ)
      (step : ∀ i y σ I ob hb, xs[i]? = some y → J i σ → mwp knd (Γ.freeze I ob hb) A (execs body env) (loopQ (J (i + 1)) Q) (σ.store x y)) (fin : ∀ σ, J xs.length σ → Q .next σ)
inductive ForGQ (knd : PySem.KeyKind prog w K) (Γ : Fx) (A : Around) (env : Env) (x : Str) (body : List Stmt) (Q : Flow → MS K → Prop) (v : Value) (σ₁ : MS K) : Prop
  | mk (xs : List V) (ok : MS K → Prop) (It : Nat → Obj → Prop) (Y : Yields knd A v xs ok It) (J : Nat → MS K → Prop) (j0 : J 0 σ₁) (jok : ∀ i σ, J i σ → ok σ)
      (step : ∀ i y v' σ I ob hb, xs[i]? = some y → y.is v' → J i σ → mwp knd (Γ.freeze I ob hb) A (storeName env x v') (fun _ => mwp knd (Γ.freeze I ob hb) A (execs body env) (loopQ (J (i + 1)) Q)) σ) (fin : ∀ σ, J xs.length σ → Q .next σ)
theorem m_ForG {x : Str} {px pos : Pos} {iter : Expr} {body : List Stmt} {Q : Flow → MS K → Prop} (h : mwp knd Γ A (eval iter env) (ForGQ knd Γ A env x body Q) σ) (hs : ∀ x, foldedSetIterable iter env x = pure x := by intro _; rfl) :
    mwp knd Γ A (exec (.For (.Name x px) iter body [] pos) env) Q σ := fun s E R => by
  refine wpAny_For (h.use R fun v s₁ σ₁ R₁ ⟨xs, ok, It, Y, J, j0, jok, step, fin⟩ => Y.start Γ σ₁ s₁ _ _ R₁ (jok _ _ j0) fun I h' tk ob hI ext gI i0 => ?_) hs
  have R₂ := R₁.ext (tk := tk) ext
  have fr : ∀ b, s₁.heap.get? b ≠ none → b ≠ I := fun b hb x => hb (x ▸ hI)
  have bI : Γ.B I = none := by
    cases q : Γ.B I with
    | none => rfl
    | some o => exact absurd rfl (fr I (by rw [R₁.keep _ _ q]; intro z; cases z))
  have lI : I ≠ Γ.L := fun x => by obtain ⟨o, ho⟩ := R₁.cur.get; rw [← x, hI] at ho; cases ho
  have oI : ∀ p ∈ Γ.outs, I ≠ p.1 := fun p hp x => by obtain ⟨o, ho⟩ := (R₁.out p hp).get; rw [← x, hI] at ho; cases ho
  have hI' : ∀ σ s ob, Rel knd (Γ.freeze I ob bI) σ s → σ.h I = none := fun σ s ob R => by
    cases q : σ.h I with
    | none => rfl
    | some o => have := R.bH _ _ q; simp only [Fx.freeze, put] at this; simp at this
  have h1 : σ₁.h I = none := by
    cases q : σ₁.h I with
    | none => rfl
    | some o => obtain ⟨ob, h1, _⟩ := R₁.obj _ _ q; rw [hI] at h1; cases h1
  refine codeAny_forLoop (fun k s' => ∃ i σ ob, Rel knd (Γ.freeze I ob bI) σ s' ∧ J i σ ∧ It i ob ∧ s'.heap.get? I = some ob ∧ i ≤ xs.length ∧ k = xs.length + 1 - i) ?_ (xs.length + 1) ⟨0, σ₁, ob, R₂.freeze gI bI lI oI h1, j0, i0, gI, Nat.zero_le _, rfl⟩
  rintro k s' ⟨i, σ', ob, R', hJ, hi, gI', hle, rfl⟩
  have hI1 := hI' _ _ _ R'
  by_cases hlt : i < xs.length
  · obtain ⟨y, hy⟩ : ∃ y, xs[i]? = some y := ⟨xs[i], by simp [hlt]⟩
    refine Y.item Γ σ' s' _ _ I ob i y R'.thaw (jok _ _ hJ) hI1 gI' hi hy fun v' h₁ tk₁ ob₁ hv e₁ g₁ i₁ => ?_
    have R₃ : Rel knd (Γ.freeze I ob₁ bI) σ' { s' with heap := h₁, toks := tk₁ } := (R'.thaw.extBut bI lI oI hI1 e₁).freeze g₁ bI lI oI hI1
    refine wpAny_assign_Name ?_
    refine (step i y v' σ' I ob₁ bI hy hv hJ).use R₃ fun _ s₂ σ₂ R₄ q => ?_
    refine q.use R₄ fun f s₃ σ₃ R₅ q => ?_
    cases f with
    | next => exact ⟨xs.length + 1 - (i + 1), by omega, i + 1, σ₃, ob₁, R₅, q, i₁, R₅.keep I ob₁ (by simp [Fx.freeze, put]), hlt, rfl⟩
    | cont => exact ⟨xs.length + 1 - (i + 1), by omega, i + 1, σ₃, ob₁, R₅, q, i₁, R₅.keep I ob₁ (by simp [Fx.freeze, put]), hlt, rfl⟩
    | brk => exact ⟨σ₃, R₅.thaw, q⟩
    | ret v => exact ⟨σ₃, R₅.thaw, q⟩
  · have hin : i = xs.length := by omega
    subst hin
    refine Y.done Γ σ' s' _ _ I ob R'.thaw (jok _ _ hJ) hI1 gI' hi fun h₁ tk₁ e₁ => wpAny_execs_nil ?_
    exact ⟨σ', R'.thaw.extBut bI lI oI hI1 e₁, fin σ' hJ⟩
theorem m_For {x : Str} {px pos : Pos} {iter : Expr} {body : List Stmt} {Q : Flow → MS K → Prop} (h : mwp knd Γ A (eval iter env) (ForQ knd Γ A env x body Q) σ)
    (hs : ∀ x, foldedSetIterable iter env x = pure x := by intro _; rfl) (hk : env.scope.kind = .function := by rfl) (hl : env.kindOf x = some .local := by rfl) (he : env.locals = Γ.L := by rfl) :
    mwp knd Γ A (exec (.For (.Name x px) iter body [] pos) env) Q σ :=
  m_ForG (mwp_mono h fun v σ₁ ⟨xs, ok, It, Y, J, j0, jok, step, fin⟩ => ⟨xs, ok, It, Y, J, j0, jok, fun i y v' σ I ob hb hy hv hJ => m_store hv (step i y σ I ob hb hy hJ) hk hl he, fin⟩) hs
end
end Mine
end
section
open PySem PySem.W PyProof.Rows
set_option maxHeartbeats 400000
namespace Mine
section
variable {prog : Program} {w : World} {K : Type} [DecidableEq K] {knd : PySem.KeyKind prog w K} {Γ : Fx} {σ : MS K} {A : Around} {env : Env} {α : Type} {s : Shared}

theorem Rel.listX (R : Rel knd Γ σ s) {a : Addr} {xs : List V} (h : σ.h a = some (.list xs)) : ∃ vs n, s.heap.get? a = some { cls := .type "list", data := .seq vs n } ∧ Are xs vs.toList := by
  obtain ⟨o, e, vs, n, d, q⟩ := R.obj a _ h
  exact ⟨vs, n, d ▸ e, q⟩
theorem Rel.tupleX (R : Rel knd Γ σ s) {a : Addr} {xs : List V} (h : σ.h a = some (.tuple xs)) : ∃ vs n, s.heap.get? a = some { cls := .type "tuple", data := .seq vs n } ∧ Are xs vs.toList := by
  obtain ⟨o, e, vs, n, d, q⟩ := R.obj a _ h
  exact ⟨vs, n, d ▸ e, q⟩
theorem Rel.list (R : Rel knd Γ σ s) {a : Addr} {xs : List V} (h : σ.h a = some (.list xs)) : ∃ vs, s.heap.IsList a vs ∧ Are xs vs.toList := by
  obtain ⟨vs, n, e, q⟩ := R.listX h
  exact ⟨vs, ⟨_, e, rfl, n, rfl⟩, q⟩
theorem Rel.tuple (R : Rel knd Γ σ s) {a : Addr} {xs : List V} (h : σ.h a = some (.tuple xs)) : ∃ vs, s.heap.IsTuple a vs ∧ Are xs vs.toList := by
  obtain ⟨vs, n, e, q⟩ := R.tupleX h
  exact ⟨vs, ⟨_, e, rfl, n, rfl⟩, q⟩
theorem Rel.dict (R : Rel knd Γ σ s) {a : Addr} {kvs : List (K × V)} {ep : Nat} (h : σ.h a = some (.dict kvs ep)) : ∃ kvs', s.heap.DictAt knd a kvs' ep ∧ PairsAre kvs kvs' := by
  obtain ⟨o, e, es, kvs', x, d, k, p, n, q⟩ := R.obj a _ h
  exact ⟨kvs', ⟨o, es, e, x, d, k, p, n⟩, q⟩
theorem PairsAre.length : ∀ {a : List (K × V)} {b : List (K × Value)}, PairsAre a b → a.length = b.length
  | [], [], _ => rfl
  | (_, _) :: r, (_, _) :: r', h => by simp [PairsAre.length h.2.2]
  | [], _ :: _, h => h.elim
  | _ :: _, [], h => h.elim
theorem PairsAre.get : ∀ {a : List (K × V)} {b : List (K × Value)} {i : Nat} {k : K} {v : V}, PairsAre a b → a[i]? = some (k, v) → ∃ v', b[i]? = some (k, v') ∧ v.is v'
  | (_, _) :: r, (_, _) :: r', 0, _, _, h, e => by simp at e; obtain ⟨rfl, rfl⟩ := e; obtain ⟨rfl, h2, _⟩ := h; exact ⟨_, rfl, h2⟩
  | (_, _) :: r, (_, _) :: r', i + 1, _, _, h, e => by simpa using PairsAre.get h.2.2 (by simpa using e)
  | [], _, _, _, _, _, e => by simp at e
  | _ :: _, [], _, _, _, h, _ => h.elim

theorem noneAt {h : Heap} : h.get? h.objs.size = none := by
  cases q : h.get? h.objs.size with
  | none => rfl
  | some o => exact absurd (Heap.lt_size q) (Nat.lt_irrefl _)

theorem yields_list (hh : A.handled = none) {ax : Addr} {xs : List V} : Yields knd A (.ref ax) xs (fun σ => σ.h ax = some (.list xs)) (fun i ob => ob.cls = .type "list_iterator" ∧ ob.data = .fields #[.ref ax, .int i 0]) where
  start := fun Γ σ s Q E R ok k => by
    obtain ⟨vs, hl, _⟩ := R.list ok
    exact wpAny_pyIter_list hl (k _ _ s.toks _ noneAt (fun b o e => Heap.get?_push_of_some _ e) (Heap.get?_push_size _ rfl) ⟨rfl, rfl⟩)
  again := fun Γ σ s Q E I ob R ok g i q => wpAny_pyIter_listiter (i := 0) (l := ax) ⟨ob, g, i.1, i.2⟩ q
  item := fun Γ σ s Q E I ob i v R ok hI g it hv k => by
    obtain ⟨vs, hl, ar⟩ := R.list ok
    obtain ⟨v', e, iv⟩ := ar.get hv
    exact wpAny_pyNext_list_item (i := i) (l := ax) ⟨ob, g, it.1, it.2⟩ hl (by simpa using e) fun h' ⟨o', g', c', d'⟩ sb => k v' h' s.toks o' iv (fun b o hb q => (sb.2 b hb).trans q) g' ⟨c', d'⟩
  done := fun Γ σ s Q E I ob R ok hI g it k => by
    obtain ⟨vs, hl, ar⟩ := R.list ok
    exact wpAny_pyNext_list_end hh (i := xs.length) (l := ax) ⟨ob, g, it.1, it.2⟩ hl (by simp [ar.length]) fun h' e => k h' s.toks fun b o hb q => e b o hb q

theorem yields_tuple (hh : A.handled = none) {ax : Addr} {xs : List V} : Yields knd A (.ref ax) xs (fun σ => σ.h ax = some (.tuple xs)) (fun i ob => ob.cls = .type "tuple_iterator" ∧ ob.data = .fields #[.ref ax, .int i 0]) where
  start := fun Γ σ s Q E R ok k => by
    obtain ⟨vs, hl, _⟩ := R.tuple ok
    exact wpAny_pyIter_tuple hl (k _ _ s.toks _ noneAt (fun b o e => Heap.get?_push_of_some _ e) (Heap.get?_push_size _ rfl) ⟨rfl, rfl⟩)
  again := fun Γ σ s Q E I ob R ok g i q => wpAny_pyIter_tupleiter (i := 0) (t := ax) ⟨ob, g, i.1, i.2⟩ q
  item := fun Γ σ s Q E I ob i v R ok hI g it hv k => by
    obtain ⟨vs, hl, ar⟩ := R.tuple ok
    obtain ⟨v', e, iv⟩ := ar.get hv
    exact wpAny_pyNext_tuple_item (i := i) (t := ax) ⟨ob, g, it.1, it.2⟩ hl (by simpa using e) fun h' ⟨o', g', c', d'⟩ sb => k v' h' s.toks o' iv (fun b o hb q => (sb.2 b hb).trans q) g' ⟨c', d'⟩
  done := fun Γ σ s Q E I ob R ok hI g it k => by
    obtain ⟨vs, hl, ar⟩ := R.tuple ok
    exact wpAny_pyNext_tuple_end hh (i := xs.length) (t := ax) ⟨ob, g, it.1, it.2⟩ hl (by simp [ar.length]) fun h' e => k h' s.toks fun b o hb q => e b o hb q

theorem yields_bytes (hh : A.handled = none) {b : Array UInt8} {t : Tok} : Yields knd A (.bytes b t) (b.toList.map fun c => .int (c.toNat : Int)) (fun _ => True) (fun i ob => ob.cls = .type "bytes_iterator" ∧ ob.data = .fields #[.bytes b t, .int i 0]) where
  start := fun Γ σ s Q E R ok k => KBw.pyIter_bytes (k _ _ s.toks _ noneAt (fun b o e => Heap.get?_push_of_some _ e) (Heap.get?_push_size _ rfl) ⟨rfl, rfl⟩)
  again := fun Γ σ s Q E I ob R ok g i q => KBw.pyIter_self (i := 0) (b := b) (t := t) ⟨ob, g, i.1, i.2⟩ q
  item := fun Γ σ s Q E I ob i v R ok hI g it hv k => by
    rw [List.getElem?_map] at hv
    cases hc : b.toList[i]? with
    | none => rw [hc] at hv; cases hv
    | some c =>
      rw [hc] at hv; cases hv
      exact KBw.next_item (i := i) (b := b) (t := t) ⟨ob, g, it.1, it.2⟩ (by simpa using hc) fun h' ⟨o', g', c', d'⟩ sb => k _ h' _ o' ⟨_, rfl⟩ (fun b o hb q => (sb.2 b hb).trans q) g' ⟨c', d'⟩
  done := fun Γ σ s Q E I ob R ok hI g it k => by
    exact KBw.next_end hh (i := b.size) (b := b) (t := t) ⟨ob, g, it.1, by simpa using it.2⟩ (by simp) fun h' e => k h' s.toks fun b o hb q => e b o hb q

theorem yields_range (hh : A.handled = none) {r : Addr} {a b c : Int} (n : Nat) (hs : Builtin.Range.small a b c = true) (hn : Builtin.Range.rangeSize a b c = (n : Int)) :
    Yields knd A (.ref r) ((List.range n).map fun i => V.int (a + (i : Nat) * c)) (fun σ => σ.h r = some (.range a b c)) (fun i ob => ob = { cls := .type "range_iterator", dict := none, data := .fields #[rawInt (a + (i : Int) * c), rawInt ((n : Int) - i), rawInt c], slots := #[] }) where
  start := fun Γ σ s Q E R ok k => by
    obtain ⟨o, e, t, u, v, rfl⟩ := R.obj r _ ok
    refine wpAny_pyIter_range e hs (k _ _ s.toks _ noneAt (fun b o e => Heap.get?_push_of_some _ e) (Heap.get?_push_size _ rfl) ?_)
    rw [hn]; simp
  again := fun Γ σ s Q E I ob R ok g i q => by subst i; exact wpAny_pyIter_rangeiter g q
  item := fun Γ σ s Q E I ob i v R ok hI g it hv k => by
    subst it
    have hi : i < n := by
      rcases Nat.lt_or_ge i n with h | h
      · exact h
      · simp [h] at hv
    have hv' : v = .int (a + (i : Int) * c) := by simp [hi] at hv; exact hv.symm
    subst hv'
    refine wpAny_pyNext_range_item g (by omega) fun h' it' sb => k _ h' _ _ ⟨_, rfl⟩ (fun b o hb q => (sb.2 b hb).trans q) it' ?_
    have e1 : a + ((i + 1 : Nat) : Int) * c = a + (i : Int) * c + c := by push_cast; rw [Int.add_mul, Int.one_mul, Int.add_assoc]
    have e2 : (n : Int) - ((i + 1 : Nat) : Int) = (n : Int) - (i : Int) - 1 := by push_cast; omega
    rw [e1, e2]
  done := fun Γ σ s Q E I ob R ok hI g it k => by
    subst it
    exact wpAny_pyNext_range_end hh g (by simp) fun h' e => k h' s.toks fun b o hb q => e b o hb q

theorem yields_keys (hh : A.handled = none) {kv : K → V} (hkv : ∀ k v, knd.is k v = true → (kv k).is v) {d : Addr} {kvs : List (K × V)} {ep : Nat} (hd : (d == sysModules) = false) :
    Yields knd A (.ref d) (kvs.map fun p => kv p.1) (fun σ => σ.h d = some (.dict kvs ep)) (fun i ob => ob.cls = .type "dict_keyiterator" ∧ ob.data = .fields #[.ref d, .int i 0, .int kvs.length 0, .int ep 0]) where
  start := fun Γ σ s Q E R ok k => by
    obtain ⟨kvs', hm, pa⟩ := R.dict ok
    exact wpAny_pyIter_dict hd hm (k _ _ s.toks _ noneAt (fun b o e => Heap.get?_push_of_some _ e) (Heap.get?_push_size _ rfl) ⟨rfl, by rw [pa.length]; rfl⟩)
  again := fun Γ σ s Q E I ob R ok g i q => wpAny_pyIter_keyiter (i := 0) (d := d) ⟨ob, g, i.1, i.2⟩ q
  item := fun Γ σ s Q E I ob i v R ok hI g it hv k => by
    obtain ⟨kvs', hm, pa⟩ := R.dict ok
    rw [List.getElem?_map] at hv
    cases hc : kvs[i]? with
    | none => rw [hc] at hv; cases hv
    | some p =>
      obtain ⟨k0, v0⟩ := p
      rw [hc] at hv; cases hv
      obtain ⟨v', e, iv⟩ := pa.get hc
      refine wpAny_pyNext_dict_item (i := i) (d := d) (ep := ep) ⟨ob, g, it.1, by rw [← pa.length]; exact it.2⟩ hm e fun key h' hk ⟨o', g', c', d'⟩ sb => k _ h' s.toks o' (hkv _ _ hk) (fun b o hb q => (sb.2 b hb).trans q) g' ⟨c', by rw [pa.length]; exact d'⟩
  done := fun Γ σ s Q E I ob R ok hI g it k => by
    obtain ⟨kvs', hm, pa⟩ := R.dict ok
    exact wpAny_pyNext_dict_end hh (i := kvs.length) (d := d) (ep := ep) ⟨ob, g, it.1, by rw [← pa.length]; simpa using it.2⟩ hm (by simp [pa.length]) fun h' e => k h' s.toks fun b o hb q => e b o hb q

theorem yields_values (hh : A.handled = none) {v d : Addr} {kvs : List (K × V)} {ep : Nat} :
    Yields knd A (.ref v) (kvs.map (·.2)) (fun σ => σ.h d = some (.dict kvs ep) ∧ σ.h v = some (.values d)) (fun i ob => ob.cls = .type "dict_valueiterator" ∧ ob.data = .fields #[.ref d, .int i 0, .int kvs.length 0, .int ep 0]) where
  start := fun Γ σ s Q E R ok k => by
    obtain ⟨kvs', hm, pa⟩ := R.dict ok.1
    obtain ⟨o, e, c, dd⟩ := R.obj v _ ok.2
    exact wpAny_pyIter_values ⟨o, e, c, dd⟩ hm (k _ _ s.toks _ noneAt (fun b o e => Heap.get?_push_of_some _ e) (Heap.get?_push_size _ rfl) ⟨rfl, by rw [pa.length]; rfl⟩)
  again := fun Γ σ s Q E I ob R ok g i q => wpAny_pyIter_valiter (i := 0) (d := d) ⟨ob, g, i.1, i.2⟩ q
  item := fun Γ σ s Q E I ob i v R ok hI g it hv k => by
    obtain ⟨kvs', hm, pa⟩ := R.dict ok.1
    rw [List.getElem?_map] at hv
    cases hc : kvs[i]? with
    | none => rw [hc] at hv; cases hv
    | some p =>
      obtain ⟨k0, v0⟩ := p
      rw [hc] at hv; cases hv
      obtain ⟨v', e, iv⟩ := pa.get hc
      refine wpAny_pyNext_values_item (i := i) (d := d) (ep := ep) ⟨ob, g, it.1, by rw [← pa.length]; exact it.2⟩ hm e fun h' ⟨o', g', c', d'⟩ sb => k _ h' s.toks o' iv (fun b o hb q => (sb.2 b hb).trans q) g' ⟨c', by rw [pa.length]; exact d'⟩
  done := fun Γ σ s Q E I ob R ok hI g it k => by
    obtain ⟨kvs', hm, pa⟩ := R.dict ok.1
    exact wpAny_pyNext_values_end hh (i := kvs.length) (d := d) (ep := ep) ⟨ob, g, it.1, by rw [← pa.length]; simpa using it.2⟩ hm (by simp [pa.length]) fun h' e => k h' s.toks fun b o hb q => e b o hb q
end
end Mine
end
section
open PySem PySem.W PyProof.Rows
set_option maxHeartbeats 400000
namespace Mine
section
variable {prog : Program} {w : World} {K : Type} [DecidableEq K] {knd : PySem.KeyKind prog w K} {Γ : Fx} {σ : MS K} {A : Around} {env : Env} {α : Type} {s : Shared}

abbrev cenvOf (scope : Scope) (env : Env) (C : Addr) (cl : List (Str × Addr)) : Env :=
  { scope := relabel scope env, locals := C, globals := env.globals, cells := cl, qual := env.qual, func := none, code := env.code, frame := env.frame, builtins := env.builtins }

noncomputable def mTests (knd : PySem.KeyKind prog w K) (Γ : Fx) (A : Around) (cenv : Env) : List Expr → (Bool → MS K → Prop) → MS K → Prop
  | [], Q, σ => Q true σ
  | [c], Q, σ => mwp knd Γ A (isTrue c cenv (eval c cenv)) Q σ
  | _, _, _ => False

theorem mTests.use {cenv : Env} {ifs : List Expr} {Q : Bool → MS K → Prop} {P : Bool → Shared → Prop} {E : Value → Shared → Prop} (h : mTests knd Γ A cenv ifs Q σ) (R : Rel knd Γ σ s) (k : ∀ b s' σ', Rel knd Γ σ' s' → Q b σ' → P b s') :
    wpAny (model prog w) A (forIn ifs true fun c r => if r = true then do let ok ← isTrue c cenv (eval c cenv); pure (ForInStep.yield ok) else pure (ForInStep.yield r)) P E s := by
  match ifs, h with
  | [], h => exact wpAny_tests_nil (k _ _ _ R h)
  | [c], h => exact wpAny_tests_one (mwp.use h R k)
  | _ :: _ :: _, h => exact h.elim

theorem Rel.own {a : Addr} {ob : Obj} {hb : Γ.B a = none} {o : O K} (R : Rel knd (Γ.freeze a ob hb) σ s) (io : o.is knd ob) : Rel knd Γ (σ.set a o) s := by
  have g : s.heap.get? a = some ob := R.keep a ob (by simp [Fx.freeze, put])
  have R' := R.thaw
  have hl : a ≠ Γ.L := fun x => by have := R.bL; simp only [Fx.freeze, put] at this; rw [if_pos x.symm] at this; cases this
  have ho : ∀ p ∈ Γ.outs, a ≠ p.1 := fun p hp x => by have := R.bO p hp; simp only [Fx.freeze, put] at this; rw [if_pos x.symm] at this; cases this
  have := R'.new (h' := s.heap) (tk := s.toks) (o := o) hb hl ho (fun _ _ _ e => e) g io
  exact this

theorem Rel.frozenH {a : Addr} {ob : Obj} {hb : Γ.B a = none} (R : Rel knd (Γ.freeze a ob hb) σ s) : σ.h a = none := by
  cases q : σ.h a with
  | none => rfl
  | some o => have := R.bH _ _ q; simp only [Fx.freeze, put] at this; simp at this
theorem Rel.frozenG {a : Addr} {ob : Obj} {hb : Γ.B a = none} (R : Rel knd (Γ.freeze a ob hb) σ s) : s.heap.get? a = some ob := R.keep a ob (by simp [Fx.freeze, put])

theorem freeze_none {a b : Addr} {ob : Obj} {hb : Γ.B a = none} (h : Γ.B b = none) (hne : b ≠ a) : (Γ.freeze a ob hb).B b = none := by
  simp only [Fx.freeze, put]; rw [if_neg hne]; exact h

inductive CompQ (knd : PySem.KeyKind prog w K) (Γ : Fx) (A : Around) (env : Env) (elt : Expr) (x : Str) (ifs : List Expr) (scope : Scope) (cl : List (Str × Addr)) (F : MS K → List V → (Addr → Option (O K)) → Addr → Prop) (v : Value) (σ₁ : MS K) : Prop
  | mk (xs : List V) (ok : MS K → Prop) (It : Nat → Obj → Prop) (Y : Yields knd A v xs ok It) (hlen : xs.length ≤ sizeLine) (J : Nat → List V → (Addr → Option (O K)) → Prop) (j0 : J 0 [] σ₁.h) (jok : ∀ i ys hp m, J i ys hp → ok ⟨m, hp⟩) (jlen : ∀ i ys hp, J i ys hp → ys.length ≤ i)
      (step : ∀ i y ys hp C I ob hb D od hd, xs[i]? = some y → J i ys hp →
        mTests knd (((Γ.enter C σ₁.m).freeze I ob hb).freeze D od hd) A (cenvOf scope env C cl) ifs (fun b σ₂ => if b then mwp knd (((Γ.enter C σ₁.m).freeze I ob hb).freeze D od hd) A (eval elt (cenvOf scope env C cl)) (fun e σ₃ => ∃ e', V.is e' e ∧ J (i + 1) (ys ++ [e']) σ₃.h) σ₂
          else J (i + 1) ys σ₂.h) ⟨fun z => if z = x then some y else none, hp⟩)
      (fin : ∀ ys hp D, J xs.length ys hp → hp D = none → F σ₁ ys hp D)
theorem comp_core {elt iter : Expr} {x : Str} {px : Pos} {ifs : List Expr} {scope : Scope} {pos pos' : Pos} {cl : List (Str × Addr)} {use : Option (Value → Sem Unit)} {Q : Value → MS K → Prop} {E : Value → Shared → Prop}
    (hclos : closureFor scope env = pure cl) (hcell : ∀ y ∈ scope.names, y.2 ≠ .cell) (hkind : scope.kind = .function) (hnames : ∀ y ∈ scope.names, y.2 = .local → scope.names.lookup y.1 = some .local)
    (hx : (relabel scope env).names.lookup x = some .local) (hs : ∀ x, foldedSetIterable iter env x = pure x)
    (h : mwp knd Γ A (eval iter env) (CompQ knd Γ A env elt x ifs scope cl (fun σ₁ ys hp D => match use with
        | none => Q (.ref D) ⟨σ₁.m, put hp D (.list ys)⟩
        | some u => ∀ C oc hc, mwp knd (Γ.freeze C oc hc) A (u (.ref D)) (fun _ σ' => Q .none σ') ⟨σ₁.m, put hp D (.list ys)⟩)) σ)
    (R : Rel knd Γ σ s) :
    wpAny (model prog w) A (comprehension (.ListComp elt [⟨.Name x px, iter, ifs, 0⟩] scope pos) scope env pos' (newList []) false (eval iter env) use) (fun a s' => ∃ σ', Rel knd Γ σ' s' ∧ Q a σ') E s := by
  refine wpAny_comprehension_free rfl hs hclos hkind hnames (h.use R fun v s₁ σ₁ R₁ ⟨xs, ok, It, Y, hlen, J, j0, jok, jlen, step, fin⟩ => Y.start Γ σ₁ s₁ _ _ R₁ (jok _ _ _ σ₁.m j0) fun I h' tk ob hI ext gI i0 => ?_)
  -- the accumulator
  have R₂ : Rel knd Γ σ₁ { s₁ with heap := h', toks := tk } := R₁.ext ext
  have bI : Γ.B I = none := by
    cases q : Γ.B I with
    | none => rfl
    | some o => have := R₁.keep _ _ q; rw [hI] at this; cases this
  have lI : I ≠ Γ.L := fun x => by obtain ⟨o, ho⟩ := R₁.cur.get; rw [← x, hI] at ho; cases ho
  have oI : ∀ p ∈ Γ.outs, I ≠ p.1 := fun p hp x => by obtain ⟨o, ho⟩ := (R₁.out p hp).get; rw [← x, hI] at ho; cases ho
  have h1 : σ₁.h I = none := by
    cases q : σ₁.h I with
    | none => rfl
    | some o => obtain ⟨ob, h1, _⟩ := R₁.obj _ _ q; rw [hI] at h1; cases h1
  refine wpAny_newObj_type ?_ (by size_fits)
  generalize hD : ({ s₁ with heap := h', toks := tk } : Shared).heap.objs.size = D
  have gD : (h'.push { cls := .type "list", data := .seq (#[] : Array Value) }).get? D = some { cls := .type "list", data := .seq #[] } := by rw [← hD]; exact Heap.get?_push_size _ rfl
  have hDn : h'.get? D = none := by rw [← hD]; exact noneAt
  have hDI : D ≠ I := fun x => by rw [x, gI] at hDn; cases hDn
  refine wpAny_newFunctionEnv hcell (fun x hx => (nomatch hx)) (fun h₄ ns sb => ?_) hkind
  -- the comprehension's own frame
  generalize hC : ({ s₁ with heap := h'.push { cls := .type "list", data := .seq #[] }, toks := tk } : Shared).heap.objs.size = C at ns sb
  have hCn : (h'.push { cls := .type "list", data := .seq (#[] : Array Value) }).get? C = none := by rw [← hC]; exact noneAt
  have hCD : D ≠ C := fun x => by rw [← x, gD] at hCn; cases hCn
  have hCI : I ≠ C := fun x => by rw [← x, Heap.get?_push_of_some _ gI] at hCn; cases hCn
  have ext4 : ∀ b o, (h'.push { cls := .type "list", data := .seq (#[] : Array Value) }).get? b = some o → h₄.get? b = some o := fun b o e =>
    (sb.2 b (fun x => by rw [x, hCn] at e; cases e)).trans (Heap.get?_push_of_some _ e)
  have R₃ : Rel knd Γ σ₁ { s₁ with heap := h'.push { cls := .type "list", data := .seq (#[] : Array Value) }, toks := tk } := R₂.ext (fun b o e => Heap.get?_push_of_some _ e)
  have R₄ : Rel knd (Γ.enter C σ₁.m) ⟨fun _ => none, σ₁.h⟩ { s₁ with heap := h₄, toks := tk } := R₃.entered hCn ⟨_, ns, fun _ _ e => nomatch e⟩ ext4
  have bI' : (Γ.enter C σ₁.m).B I = none := bI
  have oI' : ∀ p ∈ (Γ.enter C σ₁.m).outs, I ≠ p.1 := fun p hp => by
    rcases List.mem_cons.mp hp with rfl | hp
    · exact lI
    · exact oI p hp
  have bD : Γ.B D = none := by
    cases q : Γ.B D with
    | none => rfl
    | some o => have := R₂.keep _ _ q; rw [hDn] at this; cases this
  have lD : D ≠ Γ.L := fun x => by obtain ⟨o, ho⟩ := R₂.cur.get; rw [← x, hDn] at ho; cases ho
  have oD' : ∀ p ∈ (Γ.enter C σ₁.m).outs, D ≠ p.1 := fun p hp => by
    rcases List.mem_cons.mp hp with rfl | hp
    · exact lD
    · exact fun x => by obtain ⟨o, ho⟩ := (R₂.out p hp).get; rw [← x, hDn] at ho; cases ho
  have hDh : σ₁.h D = none := by
    cases q : σ₁.h D with
    | none => rfl
    | some o => obtain ⟨ob, h1, _⟩ := R₂.obj _ _ q; rw [hDn] at h1; cases h1
  have bDI : ∀ oi, ((Γ.enter C σ₁.m).freeze I oi bI').B D = none := fun oi => freeze_none bD hDI
  -- the loop
  have loop : codeAny (model prog w) A (.compLoop (.ListComp elt [⟨.Name x px, iter, ifs, 0⟩] scope pos) 0 (.ref I) (.ref D) (cenvOf scope env C cl)) (compPost (model prog w) A E use (fun a s' => ∃ σ', Rel knd Γ σ' s' ∧ Q a σ') (.ref D) C) { s₁ with heap := h₄, toks := tk } := by
    refine codeAny_compLoop_tests (fun k s' => ∃ i ys hp m oi od, Rel knd (((Γ.enter C σ₁.m).freeze I oi bI').freeze D od (bDI oi)) ⟨m, hp⟩ s' ∧ J i ys hp ∧ It i oi ∧ (O.list ys : O K).is knd od ∧ i ≤ xs.length ∧ k = xs.length + 1 - i) ?_ (xs.length + 1)
      ⟨0, [], σ₁.h, _, ob, _, (R₄.freeze (ext4 _ _ (Heap.get?_push_of_some _ gI)) bI' hCI oI' h1).freeze (ext4 _ _ gD) (bDI ob) hCD oD' hDh, j0, i0, ⟨_, _, rfl, .nil⟩, Nat.zero_le _, rfl⟩
    rintro k s' ⟨i, ys, hp, m, oi, od, R', hJ, hi, hod, hle, rfl⟩
    have RI := R'.thaw
    have Rb := RI.thaw
    by_cases hlt : i < xs.length
    · obtain ⟨y, hy⟩ : ∃ y, xs[i]? = some y := ⟨xs[i], by simp [hlt]⟩
      refine Y.item _ ⟨m, hp⟩ s' _ _ I oi i y Rb (jok _ _ _ _ hJ) RI.frozenH RI.frozenG hi hy fun v' h₁ tk₁ ob₁ hv e₁ g₁ i₁ => ?_
      have Ra : Rel knd ((Γ.enter C σ₁.m).freeze I ob₁ bI') ⟨m, hp⟩ { s' with heap := h₁, toks := tk₁ } := (Rb.extBut bI' hCI oI' RI.frozenH e₁).freeze g₁ bI' hCI oI' RI.frozenH
      have Rf : Rel knd (((Γ.enter C σ₁.m).freeze I ob₁ bI').freeze D od (bDI ob₁)) ⟨m, hp⟩ { s' with heap := h₁, toks := tk₁ } := Ra.freeze (e₁ _ _ hDI R'.frozenG) (bDI ob₁) hCD oD' R'.frozenH
      refine wpAny_assign_Name ?_
      refine (m_store (knd := knd) (Γ := ((Γ.enter C σ₁.m).freeze I ob₁ bI').freeze D od (bDI ob₁)) (env := cenvOf scope env C cl) (x := x) (Q := fun _ σ₂ => σ₂ = MS.store ⟨m, hp⟩ x y) hv rfl hkind hx rfl).use Rf ?_
      rintro _ s₂ σ₂ R₅ rfl
      have R₆ := R₅.less (σ' := ⟨fun z => if z = x then some y else none, hp⟩) (fun _ _ e => e) (fun z v e => by
        show putS m x y z = some v
        simp only [putS]
        dsimp only at e
        split at e
        · rename_i q; rw [if_pos q]; exact e
        · cases e)
      refine (step i y ys hp C I ob₁ bI' D od (bDI ob₁) hy hJ).use R₆ fun b s₃ σ₃ R₇ q => ?_
      cases b with
      | false =>
        simp only [Bool.false_eq_true, if_false] at q ⊢
        exact ⟨xs.length + 1 - (i + 1), by omega, i + 1, ys, σ₃.h, σ₃.m, ob₁, od, R₇, q, i₁, hod, hlt, rfl⟩
      | true =>
        simp only [if_true] at q ⊢
        refine q.use R₇ fun e s₄ σ₄ R₈ ⟨e', he', hJ'⟩ => ?_
        obtain ⟨vs, n, rfl, ar⟩ := hod
        have Rt := R₈.thaw
        refine append_at (its := vs) (n := n) R₈.frozenG (fun h₉ sb₉ g₉ => ?_) (by
          have a1 := jlen _ _ _ hJ
          have a2 := ar.length
          have a3 : vs.toList.length = vs.size := Array.length_toList
          rw [← a3, ← a2]
          exact Nat.le_trans a1 (Nat.le_trans (Nat.le_of_lt hlt) hlen))
        refine ⟨xs.length + 1 - (i + 1), by omega, i + 1, ys ++ [e'], σ₄.h, σ₄.m, ob₁, { cls := .type "list", data := .seq (vs.push e) (n + 1) }, ?_, hJ', i₁, ⟨vs.push e, n + 1, rfl, by simpa using ar.push he'⟩, hlt, rfl⟩
        exact (Rt.extBut (bDI ob₁) hCD oD' R₈.frozenH (fun b o hb q => (sb₉.2 b hb).trans q)).freeze g₉ (bDI ob₁) hCD oD' R₈.frozenH
    · have hin : i = xs.length := by omega
      subst hin
      refine Y.done _ ⟨m, hp⟩ s' _ _ I oi Rb (jok _ _ _ _ hJ) RI.frozenH RI.frozenG hi fun h₁ tk₁ e₁ => ?_
      have Ra : Rel knd (Γ.enter C σ₁.m) ⟨m, hp⟩ { s' with heap := h₁, toks := tk₁ } := Rb.extBut bI' hCI oI' RI.frozenH e₁
      have Rd : Rel knd ((Γ.enter C σ₁.m).freeze D od bD) ⟨m, hp⟩ { s' with heap := h₁, toks := tk₁ } := Ra.freeze (e₁ _ _ hDI R'.frozenG) bD hCD oD' R'.frozenH
      have Ro := Rd.own hod
      have Rl : Rel knd Γ ⟨σ₁.m, put hp D (.list ys)⟩ { s' with heap := h₁, toks := tk₁ } := Ro.leave R.bL R.bO R.lO
      have bC : Γ.B C = none := Ro.bL
      have lC : C ≠ Γ.L := fun x => Ro.lO (Γ.L, σ₁.m) (.head _) x.symm
      have oC : ∀ p ∈ Γ.outs, C ≠ p.1 := fun p hp x => Ro.lO p (.tail _ hp) x.symm
      have hCh : put hp D (O.list ys) C = none := Ro.hL
      obtain ⟨mC, nC, _⟩ := Ra.cur
      have fq := fin ys hp D hJ R'.frozenH
      cases use with
      | none => exact ⟨mC, nC, fun h'' sb'' => ⟨_, Rl.extBut (tk := tk₁) bC lC oC hCh fun b o hb q => (sb''.2 b hb).trans q, fq⟩⟩
      | some u =>
        obtain ⟨oc, esC, epC, gC, rC⟩ := id nC
        have Rz : Rel knd (Γ.freeze C oc bC) ⟨σ₁.m, put hp D (.list ys)⟩ { s' with heap := h₁, toks := tk₁ } := Rl.freeze gC bC lC oC hCh
        refine (fq C oc bC).use Rz fun _ s₉ σ₉ R₉ q => ⟨mC, ⟨oc, esC, epC, R₉.frozenG, rC⟩, fun h'' sb'' => ⟨σ₉, ?_, q⟩⟩
        exact R₉.thaw.extBut (tk := s₉.toks) bC lC oC R₉.frozenH fun b o hb q => (sb''.2 b hb).trans q
  refine codeAny_compStart_list loop ?_
  exact Y.again Γ σ₁ _ _ _ I ob (by
    have := R₄.leave R.bL R.bO R.lO
    exact this) (jok _ _ _ _ j0) (ext4 _ _ (Heap.get?_push_of_some _ gI)) i0 loop

theorem m_ListComp {elt iter : Expr} {x : Str} {px : Pos} {ifs : List Expr} {scope : Scope} {pos : Pos} {cl : List (Str × Addr)} {Q : Value → MS K → Prop}
    (h : mwp knd Γ A (eval iter env) (CompQ knd Γ A env elt x ifs scope cl (fun σ₁ ys hp D => Q (.ref D) ⟨σ₁.m, put hp D (.list ys)⟩)) σ)
    (hclos : closureFor scope env = pure cl := by rfl) (hcell : ∀ y ∈ scope.names, y.2 ≠ .cell := by decide) (hkind : scope.kind = .function := by rfl) (hnames : ∀ y ∈ scope.names, y.2 = .local → scope.names.lookup y.1 = some .local := by decide)
    (hx : (relabel scope env).names.lookup x = some .local := by rfl) (hs : ∀ x, foldedSetIterable iter env x = pure x := by intro _; rfl) :
    mwp knd Γ A (eval (.ListComp elt [⟨.Name x px, iter, ifs, 0⟩] scope pos) env) Q σ := fun s E R => by
  rw [eval_ListComp]
  exact comp_core (use := none) hclos hcell hkind hnames hx hs h R

theorem m_AssignComp {elt iter : Expr} {x y : Str} {px py spos : Pos} {ifs : List Expr} {scope : Scope} {pos : Pos} {cl : List (Str × Addr)} {Q : Flow → MS K → Prop}
    (h : mwp knd Γ A (eval iter env) (CompQ knd Γ A env elt x ifs scope cl (fun σ₁ ys hp D => Q .next (MS.store ⟨σ₁.m, put hp D (.list ys)⟩ y (.ref D)))) σ)
    (hsw : swapsWith (.ListComp elt [⟨.Name x px, iter, ifs, 0⟩] scope pos) (some (.Name y py)) spos.line env = pure true := by rfl)
    (hclos : closureFor scope env = pure cl := by rfl) (hcell : ∀ y ∈ scope.names, y.2 ≠ .cell := by decide) (hkind : scope.kind = .function := by rfl) (hnames : ∀ y ∈ scope.names, y.2 = .local → scope.names.lookup y.1 = some .local := by decide)
    (hx : (relabel scope env).names.lookup x = some .local := by rfl) (hs : ∀ x, foldedSetIterable iter env x = pure x := by intro _; rfl)
    (hk : env.scope.kind = .function := by rfl) (hy : env.kindOf y = some .local := by rfl) (he : env.locals = Γ.L := by rfl) :
    mwp knd Γ A (exec (.Assign [.Name y py] (.ListComp elt [⟨.Name x px, iter, ifs, 0⟩] scope pos) spos) env) Q σ := fun s E R => by
  rw [exec_Assign_Name_used _ _ _ _ hsw]
  refine wpAny_bind (wpAny_standAt (wpAny_bind ?_))
  show wpAny _ A (do let _ ← comprehension (.ListComp elt [⟨.Name x px, iter, ifs, 0⟩] scope pos) scope env _ (newList []) false (eval iter env) (some (assign (.Name y py) env))) _ _ s
  refine wpAny_bind (wpAny_mono (comp_core (Γ := Γ) (Q := fun _ σ' => Q .next σ') (use := some (assign (.Name y py) env)) hclos hcell hkind hnames hx hs ?_ R) (fun _ s' hq => wpAny_pure (wpAny_pure hq)) fun _ _ e => e)
  refine mwp_mono h fun v σ₁ ⟨xs, ok, It, Y, hlen, J, j0, jok, jlen, step, fin⟩ => ⟨xs, ok, It, Y, hlen, J, j0, jok, jlen, step, fun ys hp D hJ hD C oc hc => ?_⟩
  exact m_assignName (m_store (v := .ref D) rfl (fin ys hp D hJ hD) hk hy he)
end
end Mine
end
section
open PySem PySem.W PyProof.Rows
set_option maxHeartbeats 400000
namespace Mine
section
variable {prog : Program} {w : World} {K : Type} [DecidableEq K] {knd : PySem.KeyKind prog w K} {Γ : Fx} {σ : MS K} {A : Around} {env : Env} {α : Type} {s : Shared} {Q : Value → MS K → Prop} {QB : Bool → MS K → Prop} {QU : Unit → MS K → Prop}

theorem m_newList {vs : List Value} {xs : List V} (ar : Are xs vs) (hsz : xs.length ≤ sizeLine) (h : ∀ D, σ.h D = none → Q (.ref D) (σ.set D (.list xs))) : mwp knd Γ A (newList vs) Q σ := fun s E R =>
  wpAny_newObj_type ⟨_, R.push (o := .list xs) (tk := s.toks) ⟨_, _, rfl, by simpa using ar⟩, h _ R.fresh⟩ (by show vs.toArray.size ≤ sizeLine; rw [List.size_toArray, ← ar.length]; exact hsz)
theorem m_newTuple {vs : List Value} {xs : List V} (ar : Are xs vs) (hsz : xs.length ≤ sizeLine) (h : ∀ D, σ.h D = none → Q (.ref D) (σ.set D (.tuple xs))) : mwp knd Γ A (newTuple vs) Q σ := fun s E R =>
  wpAny_newObj_type ⟨_, R.push (o := .tuple xs) (tk := s.toks) ⟨_, _, rfl, by simpa using ar⟩, h _ R.fresh⟩ (by show vs.toArray.size ≤ sizeLine; rw [List.size_toArray, ← ar.length]; exact hsz)

variable {l l' : Addr} {xs ys : List V} {t u : Tok}
theorem Are.size {vs : Array Value} (ar : Are xs vs.toList) : vs.size = xs.length := by have := ar.length; rw [Array.length_toList] at this; exact this.symm
theorem m_append {x : V} {v : Value} (hl : σ.h l = some (.list xs)) (hv : x.is v) (hsz : xs.length ≤ sizeLine) (h : Q .none (σ.set l (.list (xs ++ [x])))) : mwp knd Γ A (call (.builtin "list.append") [.ref l, v]) Q σ := fun s E R => by
  obtain ⟨vs, n, e, ar⟩ := R.listX hl
  exact append_at e (fun h' sb g => ⟨_, R.change (tk := s.toks) (o := .list (xs ++ [x])) hl (fun b o hb q => (sb.2 b hb).trans q) g ⟨_, _, rfl, by simpa using ar.push hv⟩, h⟩) (by rw [ar.size]; exact hsz)
theorem Are.pop {x : V} {vs : Array Value} (ar : Are (xs ++ [x]) vs.toList) : ∃ v, vs[vs.size - 1]? = some v ∧ x.is v ∧ Are xs vs.pop.toList := by
  have hs := ar.size
  obtain ⟨v, e, iv⟩ := ar.get (i := xs.length) (x := x) (by simp)
  refine ⟨v, ?_, iv, ?_⟩
  · rw [hs]; simpa using e
  · have := ar.take xs.length
    simp only [List.take_left'] at this
    have e2 : vs.pop.toList = vs.toList.take xs.length := by
      rw [Array.toList_pop, List.dropLast_eq_take]
      congr 1
      simp at hs
      simp [hs]
    rw [e2]; exact this
theorem m_pop {x : V} (hl : σ.h l = some (.list (xs ++ [x]))) (hsz : xs.length < sizeLine) (h : ∀ v, x.is v → Q v (σ.set l (.list xs))) : mwp knd Γ A (call (.builtin "list.pop") [.ref l]) Q σ := fun s E R => by
  obtain ⟨vs, n, e, ar⟩ := R.listX hl
  obtain ⟨v, e1, iv, ar'⟩ := ar.pop
  exact Copied.pop_at e e1 (fun h' sb g => ⟨_, R.change (tk := s.toks) (o := .list xs) hl (fun b o hb q => (sb.2 b hb).trans q) g ⟨_, _, rfl, ar'⟩, h v iv⟩) (by rw [ar.size]; simp; omega)
theorem m_getList {x : V} {k : Int} (hl : σ.h l = some (.list xs)) (h0 : 0 ≤ k) (hf : k < 2 ^ 63) (hx : xs[k.toNat]? = some x) (h : ∀ v, x.is v → Q v σ) : mwp knd Γ A (getItem (.ref l) (.int k t)) Q σ := fun s E R => by
  obtain ⟨vs, e, ar⟩ := R.list hl
  obtain ⟨v, e1, iv⟩ := ar.get hx
  exact wpAny_getItem_list e h0 hf (by simpa using e1) ⟨σ, R, h v iv⟩
theorem m_getListNeg {x : V} {k : Int} (hl : σ.h l = some (.list xs)) (h0 : k < 0) (h1 : -(xs.length : Int) ≤ k) (hf : -(2 ^ 63) ≤ k) (hx : xs[(k + xs.length).toNat]? = some x) (h : ∀ v, x.is v → Q v σ) : mwp knd Γ A (getItem (.ref l) (.int k t)) Q σ := fun s E R => by
  obtain ⟨vs, e, ar⟩ := R.list hl
  obtain ⟨v, e1, iv⟩ := ar.get hx
  exact wpAny_getItem_list_neg e h0 (by rw [ar.size]; exact h1) hf (by rw [ar.size]; simpa using e1) ⟨σ, R, h v iv⟩
theorem m_setList {x : V} {v : Value} {k : Int} (hl : σ.h l = some (.list xs)) (h0 : 0 ≤ k) (hf : k < 2 ^ 63) (hn : k < xs.length) (hv : x.is v) (h : QU () (σ.set l (.list (xs.set k.toNat x)))) : mwp knd Γ A (setItem (.ref l) (.int k t) v) QU σ := fun s E R => by
  obtain ⟨vs, n, e, ar⟩ := R.listX hl
  have hl' : s.heap.IsList l vs := ⟨_, e, rfl, n, rfl⟩
  unfold setItem
  try with_reducible refine wpAny_holding ?_
  first | refine wpAny_bind (wpAny_pure ?_) | skip
  refine wpAny_bind (wpAny_sequenceKey hl'.typeIs (by decide) ?_)
  refine wpAny_bind (wpAny_callSpecial?_slot (name := Str.ofString "__setitem__") hl'.typeIs slot_list_setitem
    (wpAny_call_entry slot_list_setitem hl'.typeIs entry_list_setitem ?_ (args_list_setitem _ _ _)))
  show wpAny _ _ (Builtin.List.listSubscript? (.int k t) >>= _) _ _ s
  refine wpAny_bind (wpAny_listSubscript_int (fitsIndex_of h0 hf) ?_)
  clear hf
  obtain ⟨j, rfl⟩ := Int.eq_ofNat_of_zero_le h0
  have hj : j < vs.size := by rw [ar.size]; omega
  have hx' : vs[j]? = some vs[j] := Array.getElem?_eq_getElem hj
  show wpAny _ _ ((seqItemAt l j >>= fun r => pure (r.map (j, ·))) >>= _) _ _ s
  refine wpAny_bind (wpAny_bind (wpAny_seqItemAt e rfl (wpAny_pure ?_)))
  rw [hx']
  show wpAny _ _ (setSeqItemAt l j v >>= _) _ _ s
  have e2 : Obj.mapSeq (·.setIfInBounds j v) ({ cls := .type "list", data := .seq vs n } : Obj) = { cls := .type "list", data := .seq (vs.setIfInBounds j v) n } := by simp [Obj.mapSeq]
  have hg : (s.heap.update l (Obj.mapSeq (·.setIfInBounds j v))).get? l = some { cls := .type "list", data := .seq (vs.setIfInBounds j v) n } := by
    rw [Heap.get?_update_self _ e (by rw [e2]; rfl), e2]
  have fin : ∃ σ', Rel knd Γ σ' { s with heap := s.heap.update l (Obj.mapSeq (·.setIfInBounds j v)) } ∧ QU () σ' :=
    ⟨_, R.change (tk := s.toks) (o := .list (xs.set j x)) hl (fun b o hb q => ((Heap.SameBut.update s.heap l _).2 b hb).trans q) hg ⟨_, _, rfl, by simpa using ar.set j hv⟩, h⟩
  refine wpAny_bind (wpAny_setSeqItemAt e rfl ?_)
  first
    | exact wpAny_bind (wpAny_pure (wpAny_pure ⟨.none, rfl, wpAny_pure fin⟩))
    | exact wpAny_pure ⟨.none, rfl, wpAny_pure fin⟩
theorem m_lenList (hl : σ.h l = some (.list xs)) (hf : xs.length < 2 ^ 62) (h : ∀ t, Q (.int xs.length t) σ) : mwp knd Γ A (call (.builtin "len") [.ref l]) Q σ := fun s E R => by
  obtain ⟨vs, e, ar⟩ := R.list hl
  have := ar.size
  exact PyProof.Rows.len_list e (by rw [this]; omega) ⟨σ, R.toks, by rw [this]; exact h _⟩
theorem m_lenTuple (hl : σ.h l = some (.tuple xs)) (hf : xs.length < 2 ^ 62) (h : ∀ t, Q (.int xs.length t) σ) : mwp knd Γ A (call (.builtin "len") [.ref l]) Q σ := fun s E R => by
  obtain ⟨vs, e, ar⟩ := R.tuple hl
  have := ar.size
  exact PyProof.Rows.len_tuple e (by rw [this]; omega) ⟨σ, R.toks, by rw [this]; exact h _⟩
theorem m_lenStr {x : Str} (hf : x.length < 2 ^ 62) (h : ∀ t, Q (.int x.length t) σ) : mwp knd Γ A (call (.builtin "len") [.str x t]) Q σ := fun s E R => PyProof.Rows.len_str (by omega) ⟨σ, R.toks, h _⟩
theorem m_trList (hl : σ.h l = some (.list xs)) (hf : xs.length < 2 ^ 62) (h : QB (!xs.isEmpty) σ) : mwp knd Γ A (truthy (.ref l)) QB σ := fun s E R => by
  obtain ⟨vs, e, ar⟩ := R.list hl
  have := ar.size
  refine wpAny_truthy_list e (by rw [this]; omega) ⟨σ, R.toks, ?_⟩
  have e2 : vs.isEmpty = xs.isEmpty := by
    cases vs with | mk l => cases l <;> cases xs <;> simp at this ⊢
  rw [e2]; exact h
theorem m_notinInts {ns : List Int} {k : Int} (hl : σ.h l = some (.list (ns.map .int))) (h : Q (.bool (!(ns.any (· == k)))) σ) : mwp knd Γ A (compareOp .NotIn (.int k t) (.ref l)) Q σ := fun s E R => by
  obtain ⟨vs, e, ar⟩ := R.list hl
  exact notin_list_ints (vs := vs.toList) (by simpa using e) ar.ints ⟨σ, R, h⟩

theorem m_range1 {n : Int} (h : ∀ D, σ.h D = none → Q (.ref D) (σ.set D (.range 0 n 1))) : mwp knd Γ A (call (.type "range") [.int n t]) Q σ := fun s E R =>
  call_range_1 ⟨_, R.push (o := .range 0 n 1) ⟨_, _, _, rfl⟩, h _ R.fresh⟩
theorem m_range3 {a b c : Int} {v : Tok} (hc : c ≠ 0) (hp : Builtin.divisionGoesByPylong (b - a) c = false) (h : ∀ D, σ.h D = none → Q (.ref D) (σ.set D (.range a b c))) : mwp knd Γ A (call (.type "range") [.int a t, .int b u, .int c v]) Q σ := fun s E R =>
  call_range_3 hc ⟨_, R.push (o := .range a b c) ⟨_, _, _, rfl⟩, h _ R.fresh⟩ (.inl hp)
theorem are_items {acc : Array Value} {n : Nat} {a c : Int} (h : ItemsOf (fun i v => ∃ t, v = Value.int (a + (i : Nat) * c) t) acc n) : Are ((List.range n).map fun i => V.int (a + (i : Nat) * c)) acc.toList := by
  have : ∀ (l : List Value) (k : Nat), (∀ j v, l[j]? = some v → ∃ t, v = Value.int (a + ((k + j : Nat) : Int) * c) t) → Are ((List.range l.length).map fun i => V.int (a + ((k + i : Nat) : Int) * c)) l := by
    intro l
    induction l with
    | nil => intro k _; exact .nil
    | cons v r ih =>
      intro k hv
      rw [List.length_cons, List.range_succ_eq_map, List.map_cons, List.map_map]
      refine .cons (by obtain ⟨t, e⟩ := hv 0 v rfl; exact ⟨t, by simpa using e⟩) ?_
      have := ih (k + 1) (fun j v h => by
        obtain ⟨t, e⟩ := hv (j + 1) v (by simpa using h)
        exact ⟨t, by rw [e]; congr 3; omega⟩)
      have e2 : ((fun i => V.int (a + ((k + i : Nat) : Int) * c)) ∘ Nat.succ) = fun i => V.int (a + ((k + 1 + i : Nat) : Int) * c) := by
        funext i; simp only [Function.comp]; congr 3; omega
      rw [e2]; exact this
  have h2 := this acc.toList 0 (fun j v e => by
    obtain ⟨t, e'⟩ := h.2 j v (by simpa using e)
    exact ⟨t, by simpa using e'⟩)
  rw [Array.length_toList, h.1] at h2
  simpa using h2
theorem m_listRange {r : Addr} {a b c : Int} {n : Nat} (hh : A.handled = none) (hr : σ.h r = some (.range a b c)) (hs : Builtin.Range.small a b c = true) (hn : Builtin.Range.rangeSize a b c = n) (hlen : n ≤ 2 ^ 24)
    (h : ∀ D, σ.h D = none → Q (.ref D) (σ.set D (.list ((List.range n).map fun i => V.int (a + (i : Nat) * c))))) : mwp knd Γ A (call (.type "list") [.ref r]) Q σ := fun s E R => by
  obtain ⟨o, e, t, u, v, rfl⟩ := R.obj r _ hr
  refine call_list_range hh e hs hn hlen fun h' tk acc c' hk hg hi => ?_
  exact ⟨_, R.new (o := .list ((List.range n).map fun i => V.int (a + (i : Nat) * c))) R.freshB R.freshL R.freshO (fun b o _ q => hk b o q) hg ⟨_, _, rfl, are_items hi⟩, h _ R.fresh⟩
theorem m_min {a b : Int} (hh : A.handled = none) (h : ∀ t, Q (.int (min a b) t) σ) : mwp knd Γ A (call (.builtin "min") [.int a t, .int b u]) Q σ := fun s E R =>
  min_two_ints hh fun h' tk hk => ⟨σ, R.ext hk, by
    by_cases c : b < a
    · rw [if_pos c]; have : min a b = b := by omega
      rw [← this]; exact h _
    · rw [if_neg c]; have : min a b = a := by omega
      rw [← this]; exact h _⟩
theorem m_chr {i : Int} (h0 : 0 ≤ i) (h1 : i ≤ 1114111) (h : ∀ t, Q (.str ⟨#[i.toNat]⟩ t) σ) : mwp knd Γ A (call (.builtin "chr") [.int i t]) Q σ := fun s E R => chr_of_range h0 h1 ⟨σ, R.toks, h _⟩
theorem m_bytes {ns : List Int} (hh : A.handled = none) (hl : σ.h l = some (.list (ns.map .int))) (hr : ∀ n ∈ ns, 0 ≤ n ∧ n < 256) (hz : ns.length ≤ sizeLine) (h : ∀ t, Q (.bytes (byteArr ns) t) σ) : mwp knd Γ A (call (.type "bytes") [.ref l]) Q σ := fun s E R => by
  obtain ⟨vs, e, ar⟩ := R.list hl
  exact call_bytes_ints (vs := vs.toList) (by simpa using e) ar.ints hr (by rw [← ar.length]; simpa using hz) hh fun h' t k hk => ⟨σ, R.ext hk, h t⟩
theorem m_tupleList (hl : σ.h l = some (.list xs)) (hsz : xs.length ≤ sizeLine) (h : ∀ D, σ.h D = none → Q (.ref D) (σ.set D (.tuple xs))) : mwp knd Γ A (call (.type "tuple") [.ref l]) Q σ := fun s E R => by
  obtain ⟨vs, e, ar⟩ := R.list hl
  refine call_tuple_list e (fun h' hk => ?_) (by rw [ar.size]; exact hsz)
  have R' : Rel knd Γ σ { s with heap := h' } := R.ext (tk := s.toks) hk
  exact ⟨_, R'.push (o := .tuple xs) (tk := s.toks) ⟨_, _, rfl, ar⟩, h _ R'.fresh⟩
theorem m_typeOf {x : V} {v : Value} {T : String} (hx : ∀ s, Rel knd Γ σ s → s.TypeIs v T) (hb : (Value.type T == Value.type "builtin_function_or_method") = false) (h : Q (.type T) σ) : mwp knd Γ A (call (.type "type") [v]) Q σ := fun s E R =>
  call_type_of (hx s R) hb ⟨σ, R, h⟩
end
end Mine
end
section
open PySem PySem.W PyProof.Rows PySem.SeqAt
set_option maxHeartbeats 400000
namespace Mine
section
variable {prog : Program} {w : World} {K : Type} [DecidableEq K] {knd : PySem.KeyKind prog w K} {Γ : Fx} {σ : MS K} {A : Around} {env : Env} {α : Type} {s : Shared} {Q : Value → MS K → Prop} {QB : Bool → MS K → Prop} {QU : Unit → MS K → Prop}
variable {l l' : Addr} {xs ys : List V} {t u : Tok}

theorem m_addLists (hl : σ.h l = some (.list xs)) (hb : σ.h l' = some (.list ys)) (hsz : xs.length + ys.length ≤ sizeLine) (h : ∀ D, σ.h D = none → Q (.ref D) (σ.set D (.list (xs ++ ys)))) : mwp knd Γ A (binaryOp .Add (.ref l) (.ref l')) Q σ := fun s E R => by
  obtain ⟨vs, n, e, ar⟩ := R.listX hl
  obtain ⟨us, n', e', ar'⟩ := R.listX hb
  refine concat_meets ⟨_, e, rfl⟩ ⟨_, e', rfl⟩ noFill_list_add seq_list_add PySem.F.slot_list_add PySem.F.entry_list_add (PySem.F.args_list_add_2 _ _) (list_addW l l' vs us n n' none none #[] #[] (by rw [ar.size, ar'.size]; exact hsz)) ⟨e, e', ?_⟩
  exact ⟨_, R.push (o := .list (xs ++ ys)) (tk := s.toks) ⟨_, _, rfl, by simpa using ar.append ar'⟩, h _ R.fresh⟩

theorem are_rep {vs : Array Value} (ar : Are xs vs.toList) : ∀ k : Nat, Are (List.replicate k xs).flatten (List.foldl (fun x1 x2 => x1 ++ x2) #[] (List.replicate k vs)).toList := by
  intro k
  have gen : ∀ (k : Nat) (a : Array Value) (zs : List V), Are zs a.toList → Are (zs ++ (List.replicate k xs).flatten) (List.foldl (fun x1 x2 => x1 ++ x2) a (List.replicate k vs)).toList := by
    intro k
    induction k with
    | zero => intro a zs h; simpa using h
    | succ k ih =>
      intro a zs h
      rw [List.replicate_succ, List.flatten_cons, List.replicate_succ, List.foldl_cons, ← List.append_assoc]
      exact ih (a ++ vs) (zs ++ xs) (by simpa using h.append ar)
  simpa using gen k #[] [] .nil
theorem m_mulList {k : Int} (hl : σ.h l = some (.list xs)) (hne : xs ≠ []) (hlo : 0 ≤ k) (hhi : k < 2 ^ 60) (hsz : xs.length * k.toNat ≤ 2 ^ 24) (h : ∀ D, σ.h D = none → Q (.ref D) (σ.set D (.list (List.replicate k.toNat xs).flatten))) : mwp knd Γ A (binaryOp .Mult (.ref l) (.int k u)) Q σ := fun s E R => by
  obtain ⟨vs, n, e, ar⟩ := R.listX hl
  have hs := ar.size
  have he : vs.isEmpty = false := by
    cases xs with
    | nil => exact absurd rfl hne
    | cons a r => cases vs with | mk l => cases l with
      | nil => simp at hs
      | cons _ _ => rfl
  have hz : vs.size * k.toNat ≤ 2 ^ 24 := by rw [hs]; exact hsz
  refine wpAny_binaryOp_repeat_ref (T := "list") (U := "int") (by decide) ⟨_, e, rfl⟩ (fun s' => typeIs_int s' k u) noFill_list_mul F.fills_int_mul F.slot_int_rmul repeat_list F.slot_int_index.lookup
    (call_meets F.slot_int_rmul (typeIs_int s k u) F.entry_int_rmul (F.args_int_rmul_2 _ _) (int___rmul___int_list k u l vs n)
      ⟨e, rfl, ⟨_, e, rfl⟩, call_meets F.slot_list_mul ⟨_, e, rfl⟩ F.entry_list_mul (F.args_list_mul_2 _ _)
        (AutoListH.list___mul___list_int_3 l vs n k u (by simp [Builtin.List.listFitsIndex]; omega) (by omega) (by simp [Builtin.List.listTooLong, sizeLine]; omega)) ⟨e, ?_⟩⟩)
  rw [he]
  exact ⟨_, R.push (o := .list (List.replicate k.toNat xs).flatten) (tk := s.toks) ⟨_, _, rfl, are_rep ar _⟩, h _ R.fresh⟩

theorem eqAt_int {a b : Int} : EqAt A s (.int a t) (.int b u) (a == b) := EqAt.int_int a t b u
theorem are_eqInts {A : Around} : ∀ {as bs : List Int} {vs us : List Value}, Are (as.map .int) vs → Are (bs.map .int) us → ∀ j (h1 : j < vs.length) (h2 : j < us.length) , EqAt A s vs[j] us[j] (as.getD j 0 == bs.getD j 0) := by
  intro as bs vs us h h' j h1 h2
  have e1 := h.length
  have e2 := h'.length
  simp only [List.length_map] at e1 e2
  obtain ⟨v, g1, t, i1⟩ := h.get (i := j) (x := .int (as.getD j 0)) (by simp [List.getElem?_map, List.getD, show j < as.length by omega])
  obtain ⟨u, g2, t', i2⟩ := h'.get (i := j) (x := .int (bs.getD j 0)) (by simp [List.getElem?_map, List.getD, show j < bs.length by omega])
  rw [List.getElem?_eq_getElem h1] at g1
  rw [List.getElem?_eq_getElem h2] at g2
  cases g1; cases g2
  rw [i1, i2]
  exact eqAt_int
theorem all_getD {as bs : List Int} (h : as.length = bs.length) : ((List.range as.length).all fun j => as.getD j 0 == bs.getD j 0) = decide (as = bs) := by
  by_cases e : as = bs
  · subst e; simp
  · rw [decide_eq_false e, Bool.eq_false_iff]
    intro hall
    apply e
    rw [List.all_eq_true] at hall
    apply List.ext_getElem h
    intro i h1 h2
    have := hall i (by simpa using h1)
    simpa [List.getD, h1, h2] using this
theorem rc_ints {as bs : List Int} {l l' : Addr} {vs us : Array Value} (hl : s.heap.IsList l vs) (hb : s.heap.IsList l' us) (ar : Are (as.map .int) vs.toList) (ar' : Are (bs.map .int) us.toList) (hu : A.units < cLine) : RcAt A s (.ref l) (.ref l') (decide (as = bs)) := by
  have e1 := ar.size
  have e2 := ar'.size
  simp only [List.length_map] at e1 e2
  by_cases hsz : as.length = bs.length
  · have := RcAt.lists (e := fun j => as.getD j 0 == bs.getD j 0) hl hb (by rw [e1, e2, hsz]) hu (fun j h1 h2 => by
      have := are_eqInts (A := A.in1) (s := s) ar ar' j (by simpa using h1) (by simpa using h2)
      simpa using this)
    rw [e1, all_getD hsz] at this
    exact this
  · have hne : as ≠ bs := fun h => hsz (by rw [h])
    rw [decide_eq_false hne]
    exact RcAt.lists_lengths hl hb (by rw [e1, e2]; simpa using hsz) hu
theorem m_eqInts {as bs : List Int} (hu : A.units < cLine) (hl : σ.h l = some (.list (as.map .int))) (hb : σ.h l' = some (.list (bs.map .int))) (h : Q (.bool (decide (as = bs))) σ) : mwp knd Γ A (compareOp .Eq (.ref l) (.ref l')) Q σ := fun s E R => by
  obtain ⟨vs, e, ar⟩ := R.list hl
  obtain ⟨us, e', ar'⟩ := R.list hb
  exact rc_ints e e' ar ar' hu _ _ _ _ ⟨σ, R, h⟩
theorem m_neInts {as bs : List Int} (hu : A.units < cLine) (hl : σ.h l = some (.list (as.map .int))) (hb : σ.h l' = some (.list (bs.map .int))) (h : Q (.bool (!decide (as = bs))) σ) : mwp knd Γ A (compareOp .NotEq (.ref l) (.ref l')) Q σ := fun s E R => by
  obtain ⟨vs, e, ar⟩ := R.list hl
  obtain ⟨us, e', ar'⟩ := R.list hb
  have e1 := ar.size
  have e2 := ar'.size
  simp only [List.length_map] at e1 e2
  by_cases hsz : as.length = bs.length
  · have := RcNeAt.lists (A := A) (e := fun j => as.getD j 0 == bs.getD j 0) e e' (by rw [e1, e2, hsz]) hu (fun j h1 h2 => by
      have := are_eqInts (A := A.in1) (s := s) ar ar' j (by simpa using h1) (by simpa using h2)
      simpa using this)
    rw [e1, all_getD hsz] at this
    exact this _ _ _ _ ⟨σ, R, h⟩
  · have hne : as ≠ bs := fun h => hsz (by rw [h])
    rw [decide_eq_false hne] at h
    exact RcNeAt.lists_lengths (A := A) e e' (by rw [e1, e2]; simpa using hsz) hu _ _ _ _ ⟨σ, R, h⟩

theorem m_tail {value slice : Expr} {o i : Value} {ops : List Value} {T id : String} (hT : ∀ s, Rel knd Γ σ s → s.TypeIs o T) (hl : typeLookup (.type T) "__getitem__" = pure (some (.builtin id))) (hg : mwp knd Γ A (getItem o i) Q σ)
    (hs : subscripted slice false o i = operate ops (getItem o i)) : mwp knd Γ A (subscriptTail value slice o i) Q σ := fun s E R => tail_any (hT s R) hl (hg s E R) hs
theorem m_tailList {value slice : Expr} {k : Int} (hl : σ.h l = some (.list xs)) (hg : mwp knd Γ A (getItem (.ref l) (.int k t)) Q σ)
    (hs : subscripted slice false (.ref l) (.int k t) = operate [.ref l, .int k t] (getItem (.ref l) (.int k t)) := by with_unfolding_all rfl) : mwp knd Γ A (subscriptTail value slice (.ref l) (.int k t)) Q σ :=
  m_tail (fun s R => by obtain ⟨vs, e, _⟩ := R.list hl; exact e.typeIs) slot_list_getitem.lookup hg hs
theorem m_tailStr {value slice : Expr} {x : Str} {k : Int} {c : Nat} (hr : (decide (k < -(2 ^ 63 : Int)) || decide (k ≥ 2 ^ 63)) = false) (hc : (seqIndex? k x.length).bind (x.cps[·]?) = some c) (h : ∀ t, Q (.str ⟨#[c]⟩ t) σ)
    (hs : subscripted slice false (.str x t) (.int k u) = operate [.str x t, .int k u] (getItem (.str x t) (.int k u)) := by with_unfolding_all rfl) : mwp knd Γ A (subscriptTail value slice (.str x t) (.int k u)) Q σ :=
  m_tail (fun s R => typeIs_str _ _ _) F.slot_str_getitem.lookup (fun s E R => PyProof.Rows.getItem_str hr hc ⟨σ, R.toks, h _⟩) hs
theorem m_tailDict {value slice : Expr} {d : Addr} {kvs : List (K × V)} {ep : Nat} {key : Value} (hd : σ.h d = some (.dict kvs ep)) (hg : mwp knd Γ A (getItem (.ref d) key) Q σ)
    (hs : subscripted slice false (.ref d) key = operate [.ref d, key] (getItem (.ref d) key) := by with_unfolding_all rfl) : mwp knd Γ A (subscriptTail value slice (.ref d) key) Q σ :=
  m_tail (fun s R => by obtain ⟨kvs', ⟨o, es, e, x, _⟩, _⟩ := R.dict hd; exact ⟨o, e, x.1⟩) slot_dict_getitem.lookup hg hs

noncomputable def SliceAt (knd : PySem.KeyKind prog w K) (Q : Value → MS K → Prop) (o vl vu : Value) (σ : MS K) : Prop :=
  (∃ x t lo hi, o = .str x t ∧ IsPart vl lo ∧ IsPart vu hi ∧ x.length ≤ sizeLine ∧ ∀ t', Q (.str (Txt.slice x lo hi) t') σ) ∨
  (∃ l xs, o = .ref l ∧ σ.h l = some (.list xs) ∧ xs.length ≤ sizeLine ∧ ((∃ b t, vl = .none ∧ vu = .int (b : Nat) t ∧ ∀ D, σ.h D = none → Q (.ref D) (σ.set D (.list (xs.take b)))) ∨ (∃ a t, vl = .int (a : Nat) t ∧ vu = .none ∧ ∀ D, σ.h D = none → Q (.ref D) (σ.set D (.list (xs.drop a))))))

theorem slice_push (R : Rel knd Γ σ s) {vl vu : Value} : KeptH fun h => Rel knd Γ σ { s with heap := h } := fun h ob R' => R'.ext (tk := s.toks) fun _ _ e => Heap.get?_push_of_some _ e

theorem eval_SubSlice (value : Expr) (lower upper : Option Expr) (p pos : Pos) (env : Env) {M : Model} {A : Around} {E : Value → Shared → Prop} {s : Shared} {Q : Value → Shared → Prop}
    (h : wpAny M A (eval value env) (fun o s₁ => wpAny M A (evalPart lower env) (fun vl s₂ => wpAny M A (evalPart upper env) (fun vu s₃ =>
      wpAny M A (subscriptTail value (.Slice lower upper none p) o (.ref s₃.heap.objs.size)) Q E { s₃ with heap := s₃.heap.push { cls := .type "slice", data := .fields #[vl, vu, .none] } }) E s₂) E s₁) E s) :
    wpAny M A (eval (.Subscript value (.Slice lower upper none p) pos) env) Q E s :=
  Subscript_ (wpAny_mono h (fun o s₁ h₁ => wpAny_Slice (wpAny_mono h₁ (fun vl s₂ h₂ => wpAny_mono h₂ (fun vu s₃ h₃ => wpAny_evalPart_none h₃) fun _ _ e => e) fun _ _ e => e)) fun _ _ e => e)

theorem m_SubSlice {value : Expr} {lower upper : Option Expr} {p pos : Pos}
    (h : mwp knd Γ A (eval value env) (fun o σ₁ => mwp knd Γ A (evalPart lower env) (fun vl σ₂ => mwp knd Γ A (evalPart upper env) (fun vu σ₃ => SliceAt knd Q o vl vu σ₃) σ₂) σ₁) σ) :
    mwp knd Γ A (eval (.Subscript value (.Slice lower upper none p) pos) env) Q σ := fun s E R => by
  refine eval_SubSlice _ _ _ _ _ _ (h.use R fun o s₁ σ₁ R₁ q => q.use R₁ fun vl s₂ σ₂ R₂ q => q.use R₂ fun vu s₃ σ₃ R₃ q => ?_)
  rcases q with ⟨x, t, lo, hi, rfl, pl, pu, hsz, hq⟩ | ⟨l, xs, rfl, hl, hsz, q⟩
  · have kp : KeptH fun h => Rel knd Γ σ₃ { s₃ with heap := h } := slice_push R₃ (vl := vl) (vu := vu)
    have fin : ∀ (lo hi : Option Int), (∀ t', Q (.str (Txt.slice x lo hi) t') σ₃) → ∀ h' t' k, Rel knd Γ σ₃ { s₃ with heap := h' } → ∃ σ', Rel knd Γ σ' { s₃ with heap := h', toks := k } ∧ Q (.str (Txt.slice x lo hi) t') σ' := fun lo hi hq h' t' k R' => ⟨σ₃, R'.toks, hq t'⟩
    cases pl with
    | none => cases pu with
      | none => exact tail_of_ItemOn (SBH.sliceItem_nn (P := fun h => Rel knd Γ σ₃ { s₃ with heap := h }) kp R₃ (fin _ _ hq) hsz) (by with_unfolding_all rfl) (by intro _; unfold letTemporaryGo; split <;> first | rfl | (rename_i e; cases e))
      | int j tj => exact tail_of_ItemOn (SBH.sliceItem_ns (P := fun h => Rel knd Γ σ₃ { s₃ with heap := h }) kp R₃ (fin _ _ hq) hsz) (by with_unfolding_all rfl) (by intro _; unfold letTemporaryGo; split <;> first | rfl | (rename_i e; cases e))
    | int i ti => cases pu with
      | none => exact tail_of_ItemOn (SBH.sliceItem_sn (P := fun h => Rel knd Γ σ₃ { s₃ with heap := h }) kp R₃ (fin _ _ hq) hsz) (by with_unfolding_all rfl) (by intro _; unfold letTemporaryGo; split <;> first | rfl | (rename_i e; cases e))
      | int j tj => exact tail_of_ItemOn (SBH.sliceItem_ss (P := fun h => Rel knd Γ σ₃ { s₃ with heap := h }) kp R₃ (fin _ _ hq) hsz) (by with_unfolding_all rfl) (by intro _; unfold letTemporaryGo; split <;> first | rfl | (rename_i e; cases e))
  · obtain ⟨vs, e, ar⟩ := R₃.list hl
    have R₄ : Rel knd Γ σ₃ { s₃ with heap := s₃.heap.push { cls := .type "slice", data := .fields #[vl, vu, .none] } } := R₃.ext (tk := s₃.toks) fun _ _ e => Heap.get?_push_of_some _ e
    have e4 : (s₃.heap.push { cls := .type "slice", data := .fields #[vl, vu, .none] }).IsList l vs := e.push _
    rcases q with ⟨b, t, rfl, rfl, hq⟩ | ⟨a, t, rfl, rfl, hq⟩
    · refine tail_any (T := "list") e4.typeIs slot_list_getitem.lookup ?_ (by with_unfolding_all rfl)
      refine wpAny_getItem_list_slice (items := vs) e4 ⟨_, Heap.get?_push_size _ rfl, rfl, rfl⟩ .none (.int _ t) .none (by intro z; cases z) ?_ (by rw [ar.size]; exact hsz)
      refine ⟨_, R₄.push (o := .list (xs.take b)) (tk := s₃.toks) ⟨_, _, rfl, ?_⟩, hq _ ?_⟩
      · rw [slicePick_upto']; simpa using ar.take b
      · exact R₄.fresh
    · refine tail_any (T := "list") e4.typeIs slot_list_getitem.lookup ?_ (by with_unfolding_all rfl)
      refine wpAny_getItem_list_slice (items := vs) e4 ⟨_, Heap.get?_push_size _ rfl, rfl, rfl⟩ (.int _ t) .none .none (by intro z; cases z) ?_ (by rw [ar.size]; exact hsz)
      refine ⟨_, R₄.push (o := .list (xs.drop a)) (tk := s₃.toks) ⟨_, _, rfl, ?_⟩, hq _ ?_⟩
      · rw [slicePick_from']; simpa using ar.drop a
      · exact R₄.fresh
theorem m_part0 (h : Q .none σ) : mwp knd Γ A (evalPart none env) Q σ := fun s E R => wpAny_evalPart_none ⟨σ, R, h⟩
theorem m_part {e : Expr} (h : mwp knd Γ A (eval e env) Q σ) : mwp knd Γ A (evalPart (some e) env) Q σ := fun s E R => wpAny_evalPart_some (h s E R)

theorem m_lower {x : Str} (hf : x.length ≤ 5592405) (h : ∀ t, Q (.str (Txt.lower x) t) σ) : mwp knd Γ A (call (.builtin "str.lower") [.str x t]) Q σ := fun s E R => SCL.lower hf fun _ => ⟨σ, R.toks, h _⟩
theorem are_strs {ss : List Str} {vs : List Value} (h : Are (ss.map .str) vs) : StrsAre vs ss := by
  induction ss generalizing vs with
  | nil => cases h; exact .nil
  | cons x xs ih =>
    cases h with
    | cons a b => obtain ⟨t, rfl⟩ := a; exact .cons _ _ (ih b)
theorem m_join {x : Str} {ss : List Str} (hl : σ.h l = some (.list (ss.map .str))) (hx : x.length ≤ 16) (hw : (ss.map (·.length)).sum + ss.length ≤ 1048576) (h : ∀ t, Q (.str (Txt.join x ss) t) σ) : mwp knd Γ A (call (.builtin "str.join") [.str x t, .ref l]) Q σ := fun s E R => by
  obtain ⟨vs, e, ar⟩ := R.list hl
  exact join_listW e (are_strs ar) hx hw fun t' k => ⟨σ, R.toks, h t'⟩
end
end Mine
end
section
open PySem PySem.W PyProof.Rows PySem.SeqAt
set_option maxHeartbeats 400000
namespace Mine
section
variable {prog : Program} {w : World} {K : Type} [DecidableEq K] {knd : PySem.KeyKind prog w K} {Γ : Fx} {σ : MS K} {A : Around} {env : Env} {α : Type} {s : Shared} {Q : Value → MS K → Prop} {QB : Bool → MS K → Prop} {QU : Unit → MS K → Prop}
variable {KK : Frag} {t u : Tok}

noncomputable def others (h : Heap) (L d : Addr) : List (Addr × Obj) := (List.range h.objs.size).filterMap fun b => if b = L ∨ b = d then none else (h.get? b).map fun o => (b, o)
theorem mem_others {h : Heap} {L d b : Addr} {o : Obj} : (b, o) ∈ others h L d ↔ b ≠ L ∧ b ≠ d ∧ h.get? b = some o := by
  unfold others
  rw [List.mem_filterMap]
  constructor
  · rintro ⟨c, hc, e⟩
    split at e
    · cases e
    · rename_i q
      cases g : h.get? c with
      | none => rw [g] at e; cases e
      | some o' => rw [g] at e; simp at e; obtain ⟨rfl, rfl⟩ := e; exact ⟨fun x => q (.inl x), fun x => q (.inr x), g⟩
  · rintro ⟨h1, h2, g⟩
    exact ⟨b, List.mem_range.mpr (Heap.lt_size g), by rw [if_neg (by rintro (x | x); exact h1 x; exact h2 x), g]; rfl⟩
noncomputable def noHeap : Heap := { objs := #[] }
theorem noHeap_get (b : Addr) : noHeap.get? b = none := by simp [noHeap, Heap.get?]
theorem bridge_F {h : Heap} {L : Addr} {m : Str → Option Value} (n : h.Ns L m) : Fr noHeap L h m := ⟨n, fun b o e => (by rw [noHeap_get] at e; cases e), Nat.zero_le _⟩
theorem bridge_N {h : Heap} {L d : Addr} {od : Obj} (hd : h.get? d = some od) (hne : d ≠ L) : News noHeap L h (others h L d ++ (d, od) :: []) := fun p hp => by
  rcases List.mem_append.mp hp with h1 | h1
  · obtain ⟨b, o⟩ := p
    obtain ⟨a1, a2, a3⟩ := mem_others.mp h1
    exact ⟨a3, a1, noHeap_get _⟩
  · rw [List.mem_singleton] at h1; subst h1; exact ⟨hd, hne, noHeap_get _⟩
theorem bridge_off {h : Heap} {L d : Addr} : ∀ p ∈ others h L d, p.1 ≠ d := fun p hp => by obtain ⟨b, o⟩ := p; exact (mem_others.mp hp).2.1

theorem Rel.newN (R : Rel knd Γ σ s) {h' : Heap} {tk : Nat} {a : Addr} {o : O K} {ob : Obj} (hb : Γ.B a = none) (hl : a ≠ Γ.L) (ho : ∀ p ∈ Γ.outs, a ≠ p.1)
    (e : ∀ b o, b ≠ Γ.L → b ≠ a → s.heap.get? b = some o → h'.get? b = some o) (n : NsAt h' Γ.L σ.m) (g : h'.get? a = some ob) (io : o.is knd ob) : Rel knd Γ (σ.set a o) { s with heap := h', toks := tk } where
  keep := fun b o q => e b o (fun x => by rw [x, R.bL] at q; cases q) (fun x => by rw [x, hb] at q; cases q) (R.keep b o q)
  rest := by rw [R.rest]
  cur := n
  out := fun p hp => (R.out p hp).ext fun o q => e _ _ (R.lO p hp) (fun x => ho p hp x.symm) q
  obj := fun b o' q => by
    simp only [MS.set, put] at q
    split at q
    · rename_i x; subst x; cases q; exact ⟨ob, g, io⟩
    · rename_i x; obtain ⟨ob, h1, h2⟩ := R.obj b o' q; exact ⟨ob, e _ _ (fun z => by rw [z, R.hL] at q; cases q) x h1, h2⟩
  bL := R.bL
  bO := R.bO
  bH := fun b o' q => by
    simp only [MS.set, put] at q
    split at q
    · rename_i x; subst x; exact hb
    · exact R.bH b o' q
  lO := R.lO
  hL := by show put _ _ _ _ = _; simp only [put]; rw [if_neg (fun x => hl x.symm)]; exact R.hL
  hO := fun p hp => by show put _ _ _ _ = _; simp only [put]; rw [if_neg (fun x => ho p hp x.symm)]; exact R.hO p hp

theorem Rel.bridged (R : Rel knd Γ σ s) {h' : Heap} {tk : Nat} {d : Addr} {o₁ o : O K} {od' : Obj} {m' : Str → Option Value} (hd : σ.h d = some o₁) (q : ∀ x v, σ.m x = some v → ∃ v', m' x = some v' ∧ v.is v')
    (F' : Fr noHeap Γ.L h' m') (N' : News noHeap Γ.L h' (others s.heap Γ.L d ++ (d, od') :: [])) (io : o.is knd od') : Rel knd Γ (σ.set d o) { s with heap := h', toks := tk } :=
  R.newN (R.bH d _ hd) (fun x => by rw [x, R.hL] at hd; cases hd) (fun p hp x => by rw [x, R.hO p hp] at hd; cases hd)
    (fun b o h1 h2 g => (N' (b, o) (List.mem_append_left _ (mem_others.mpr ⟨h1, h2, g⟩))).1) ⟨m', F'.ns, q⟩ (N' (d, od') (List.mem_append_right _ (.head _))).1 io

theorem Rel.kin (R : Rel knd Γ σ s) (X : KK.In Γ.base) : KK.In s.heap := X.keeps fun b o e => R.keep b o (Γ.sub b o e)
theorem Rel.inst (R : Rel knd Γ σ s) {x C dx : Addr} {sl : List (Option V)} {fs : List (Str × V)} (hx : σ.h x = some (.inst C dx sl)) (hd : σ.h dx = some (.idict fs)) :
    ∃ sl' es n, InstAt s.heap x ⟨.ref C, some dx, .plain, sl'⟩ C (some (dictOf es n)) ∧ SlotsAre sl sl'.toList ∧ FieldsAre fs es := by
  obtain ⟨o, e, sl', rfl, hs⟩ := R.obj x _ hx
  obtain ⟨o', e', es, n, rfl, hf⟩ := R.obj dx _ hd
  exact ⟨sl', es, n, ⟨e, rfl, rfl, e'⟩, hs, hf⟩

theorem FieldsAre.get : ∀ {fs : List (Str × V)} {es : List DictEntry} {name : Str} {v : V}, FieldsAre fs es → fs.lookup name = some v → ∃ v', getL name es = some (some v') ∧ v.is v'
  | (k, x) :: r, e :: r', name, v, h, hl => by
    obtain ⟨⟨t, hk⟩, hx, hr⟩ := h
    rw [List.lookup_cons] at hl
    unfold getL
    rw [List.find?_cons]
    have hs : e.key.isStr name = (k == name) := by rw [hk]; rfl
    rw [hs]
    cases hq : name == k with
    | true =>
      rw [hq] at hl; simp at hl; subst hl
      have : (k == name) = true := by rw [beq_iff_eq] at hq ⊢; exact hq.symm
      rw [this]; exact ⟨_, rfl, hx⟩
    | false =>
      rw [hq] at hl
      have : (k == name) = false := by
        cases z : k == name with
        | false => rfl
        | true => rw [beq_iff_eq] at z; subst z; simp at hq
      rw [this]
      obtain ⟨v', e1, iv⟩ := hr.get hl
      refine ⟨v', ?_, iv⟩
      rw [← e1]
      unfold getL
      rw [List.any_cons]
      have z : e.refKey = false := by simp [DictEntry.refKey, hk]
      rw [z, Bool.false_or]
  | [], _, _, _, _, hl => by cases hl
  | _ :: _, [], _, _, h, _ => h.elim
theorem FieldsAre.miss : ∀ {fs : List (Str × V)} {es : List DictEntry} {name : Str}, FieldsAre fs es → fs.lookup name = none → getL name es = some none
  | [], [], _, _, _ => rfl
  | (k, x) :: r, e :: r', name, h, hl => by
    obtain ⟨⟨t, hk⟩, hx, hr⟩ := h
    rw [List.lookup_cons] at hl
    cases hq : name == k with
    | true => rw [hq] at hl; cases hl
    | false =>
      rw [hq] at hl
      have ih := hr.miss hl
      have : (k == name) = false := by
        cases z : k == name with
        | false => rfl
        | true => rw [beq_iff_eq] at z; subst z; simp at hq
      rw [← ih]
      unfold getL
      have hs : e.key.isStr name = false := by rw [hk]; exact this
      rw [List.find?_cons, hs, List.any_cons]
      have z : e.refKey = false := by simp [DictEntry.refKey, hk]
      rw [z, Bool.false_or]
  | [], _ :: _, _, h, _ => h.elim
  | _ :: _, [], _, h, _ => h.elim
noncomputable def putF (name : Str) (v : V) : List (Str × V) → List (Str × V)
  | [] => [(name, v)]
  | (k, x) :: r => if k == name then (k, v) :: r else (k, x) :: putF name v r
theorem FieldsAre.put {name : Str} {v : V} {v' : Value} {hs : Int} {tk : Tok} (hv : v.is v') : ∀ {fs : List (Str × V)} {es : List DictEntry}, FieldsAre fs es → FieldsAre (putF name v fs) (putL name hs (.str name tk) v' es)
  | [], [], _ => ⟨⟨tk, rfl⟩, hv, trivial⟩
  | (k, x) :: r, e :: r', h => by
    obtain ⟨⟨t, hk⟩, hx, hr⟩ := h
    unfold putF putL
    have z : e.key.isStr name = (k == name) := by rw [hk]; rfl
    rw [z]
    cases hq : k == name with
    | true => simp only [if_true]; exact ⟨⟨t, hk⟩, hv, hr⟩
    | false => simp only [Bool.false_eq_true, if_false]; exact ⟨⟨t, hk⟩, hx, hr.put hv⟩
  | [], _ :: _, h => h.elim
  | _ :: _, [], h => h.elim
theorem FieldsAre.length : ∀ {fs : List (Str × V)} {es : List DictEntry}, FieldsAre fs es → fs.length = es.length
  | [], [], _ => rfl
  | (k, x) :: r, e :: r', h => by simp [h.2.2.length]
  | [], _ :: _, h => h.elim
  | _ :: _, [], h => h.elim

noncomputable def handedV : V → Bool
  | .fn (.builtin i) => (withoutEnding? i "#data").isNone
  | _ => true
theorem handed_of {v : V} {v' : Value} (h : handedV v = true) (hv : v.is v') : handedIn v' = true := by
  cases v with
  | fn r => cases hv; cases v' <;> first | rfl | exact h
  | none => cases hv; rfl
  | bool b => cases hv; rfl
  | int i => obtain ⟨t, rfl⟩ := hv; rfl
  | str x => obtain ⟨t, rfl⟩ := hv; rfl
  | bytes b => obtain ⟨t, rfl⟩ := hv; rfl
  | ref a => cases hv; rfl

variable {x C dx : Addr} {sl : List (Option V)} {fs : List (Str × V)} {name : Str}
theorem m_attr {v : V} {at_ : Option Value} (X : KK.In Γ.base) (hx : σ.h x = some (.inst C dx sl)) (hd : σ.h dx = some (.idict fs)) (hl : fs.lookup name = some v) (h : ∀ v', v.is v' → Q v' σ)
    (hv : handedV v = true := by rfl) (hg : plainGet KK C name = true := by k_is) (hh : hasDictIn KK C = true := by k_is) (ha : findIn KK (.ref C) name = some at_ := by k_is) (hn : noGet KK at_ = true := by k_is) {expr : Bool} :
    mwp knd Γ A (getAttr (.ref x) name expr) Q σ := fun s E R => by
  obtain ⟨sl', es, n, I, _, hf⟩ := R.inst hx hd
  obtain ⟨v', e1, iv⟩ := hf.get hl
  exact get_value (R.kin X) I (plainGet_of hg).1 (findObj_own hh ha hn e1) (handed_of hv iv) ⟨σ, R.toks, h v' iv⟩
theorem m_setAttr {v : V} {v' : Value} (X : KK.In Γ.base) (hx : σ.h x = some (.inst C dx sl)) (hd : σ.h dx = some (.idict fs)) (hv : v.is v') (hz : fs.length ≤ 900) (h : QU () (σ.set dx (.idict (putF name v fs))))
    (hs : findIn KK (.ref C) "__setattr__" = some (some (.builtin "object.__setattr__")) := by k_is) (hp : plainOver KK C = true := by k_is) (ht : takerIn KK C name = some none := by k_is) (hh : hasDictIn KK C = true := by k_is) :
    mwp knd Γ A (setAttr (.ref x) name v') QU σ := fun s E R => by
  obtain ⟨sl', es, n, I, _, hf⟩ := R.inst hx hd
  obtain ⟨m', nm, q⟩ := R.cur
  have gd : s.heap.get? dx = some (dictOf es n) := I.dict
  have hne : dx ≠ Γ.L := fun z => by rw [z, R.hL] at hd; cases hd
  have hl : (lookIn name (dictOf es n)).isSome = true := by
    rw [lookIn_dict]
    cases z : fs.lookup name with
    | none => rw [hf.miss z]; rfl
    | some v => obtain ⟨v', e, _⟩ := hf.get z; rw [e]; rfl
  refine set_plain (R.kin X) I hs (osa_dict (s := { s with toks := s.toks + 1 }) (bridge_F nm) (bridge_N gd hne) (R.kin X) I rfl hp ht hh hl bridge_off (fun p hp => nomatch hp) (putName_dict ..) rfl ?_ fun h' F' N' => ?_)
  · have := (hf.put (name := name) (hs := PyData.keyHash w.params name) (tk := s.toks + 1) hv).length
    rw [← this]
    have : ∀ fs : List (Str × V), (putF name v fs).length ≤ fs.length + 1 := by
      intro fs
      induction fs with
      | nil => simp [putF]
      | cons p r ih =>
        obtain ⟨k, x⟩ := p
        unfold putF
        split
        · simp
        · simp; exact ih
    have := this fs
    omega
  · exact ⟨_, R.bridged (o := .idict (putF name v fs)) hd q F' N' ⟨_, _, rfl, hf.put hv⟩, h⟩

theorem SlotsAre.get : ∀ {sl : List (Option V)} {sl' : List (Option Value)} {i : Nat} {v : V}, SlotsAre sl sl' → sl[i]? = some (some v) → ∃ v', sl'[i]? = some (some v') ∧ v.is v'
  | x :: r, y :: r', 0, v, h, e => by
    simp at e; subst e
    cases y with
    | none => exact h.1.elim
    | some y => exact ⟨y, rfl, h.1⟩
  | x :: r, y :: r', i + 1, v, h, e => by simpa using h.2.get (by simpa using e)
  | [], _, _, _, _, e => by simp at e
  | _ :: _, [], _, _, h, _ => h.elim
theorem SlotsAre.length : ∀ {sl : List (Option V)} {sl' : List (Option Value)}, SlotsAre sl sl' → sl.length = sl'.length
  | [], [], _ => rfl
  | x :: r, y :: r', h => by simp [h.2.length]
  | [], _ :: _, h => h.elim
  | _ :: _, [], h => h.elim
theorem SlotsAre.set : ∀ {sl : List (Option V)} {sl' : List (Option Value)} (i : Nat) {v : V} {v' : Value}, SlotsAre sl sl' → v.is v' → SlotsAre (sl.set i (some v)) (sl'.set i (some v'))
  | [], [], _, _, _, _, _ => trivial
  | x :: r, y :: r', 0, _, _, h, hv => ⟨hv, h.2⟩
  | x :: r, y :: r', i + 1, _, _, h, hv => ⟨h.1, h.2.set i hv⟩
  | [], _ :: _, _, _, _, h, _ => h.elim
  | _ :: _, [], _, _, _, h, _ => h.elim
theorem SlotsAre.pad : ∀ {sl : List (Option V)} {sl' : List (Option Value)} (k : Nat), SlotsAre sl sl' → SlotsAre (sl ++ List.replicate k none) (sl' ++ List.replicate k none)
  | [], [], 0, _ => trivial
  | [], [], k + 1, _ => ⟨trivial, SlotsAre.pad (sl := []) (sl' := []) k trivial⟩
  | x :: r, y :: r', k, h => ⟨h.1, h.2.pad k⟩
  | [], _ :: _, _, h => h.elim
  | _ :: _, [], _, h => h.elim
theorem m_slot {v : V} {p : Addr} {i : Nat} (X : KK.In Γ.base) (hx : σ.h x = some (.inst C dx sl)) (hd : σ.h dx = some (.idict fs)) (hl : sl[i]? = some (some v)) (h : ∀ v', v.is v' → Q v' σ)
    (hp : slotIn KK p C = some i) (ha : findIn KK (.ref C) name = some (some (.ref p)) := by k_is) (hv : handedV v = true := by rfl) (hg : plainGet KK C name = true := by k_is) (hc : isClsIn KK C = true := by k_is)
    (hn : specialIn KK (.ref p) "__get__" = some (some (.builtin "member_descriptor.__get__")) := by k_is) (ht : takesIn KK (.ref p) = some true := by k_is) {expr : Bool} :
    mwp knd Γ A (getAttr (.ref x) name expr) Q σ := fun s E R => by
  obtain ⟨sl', es, n, I, hs, _⟩ := R.inst hx hd
  obtain ⟨v', e1, iv⟩ := hs.get hl
  refine get_bind (R.kin X) I (plainGet_of hg).1 (findObj_data hc ha hn ht) (plainGet_of hg).2 (wpAny_call (slot_get (s := { s with toks := s.toks + 1 }) (R.kin X) I hp (v := v') ?_ (handed_on (handed_of hv iv) ⟨σ, R.toks, h v' iv⟩)))
  show (sl'[i]?).join = some v'
  rw [← Array.getElem?_toList, e1]; rfl
noncomputable def putSl (i : Nat) (v : V) (sl : List (Option V)) : List (Option V) := (sl ++ List.replicate (i + 1 - sl.length) none).set i (some v)
theorem m_setSlot {v : V} {v' : Value} {p : Addr} {i : Nat} (X : KK.In Γ.base) (hx : σ.h x = some (.inst C dx sl)) (hd : σ.h dx = some (.idict fs)) (hv : v.is v') (hz : i < 1000) (h : QU () (σ.set x (.inst C dx (putSl i v sl))))
    (hi : slotIn KK p C = some i) (ht : takerIn KK C name = some (some (.ref p)) := by k_is) (hs : findIn KK (.ref C) "__setattr__" = some (some (.builtin "object.__setattr__")) := by k_is) (hp : plainOver KK C = true := by k_is)
    (hT : typeIn KK (.ref p) = some (.type "member_descriptor") := by k_is) :
    mwp knd Γ A (setAttr (.ref x) name v') QU σ := fun s E R => by
  obtain ⟨sl', es, n, I, hsl, _⟩ := R.inst hx hd
  obtain ⟨m', nm, q⟩ := R.cur
  have hne : x ≠ Γ.L := fun z => by rw [z, R.hL] at hx; cases hx
  refine set_plain (R.kin X) I hs (osa_descr (s := { s with toks := s.toks + 1 }) KF.slot_mset (R.kin X) I hp ht hT (slot_set (s := { s with toks := s.toks + 1 }) (bridge_F nm) (bridge_N I.at_ hne) (R.kin X) I hi hz bridge_off (fun p hp => nomatch hp) rfl rfl fun h' F' N' => ?_))
  refine ⟨_, R.bridged (o := .inst C dx (putSl i v sl)) hx q F' N' ⟨_, rfl, ?_⟩, h⟩
  have e2 : ((sl' ++ Array.replicate (i + 1 - sl'.size) none).setIfInBounds i (some v')).toList = (sl'.toList ++ List.replicate (i + 1 - sl'.toList.length) none).set i (some v') := by simp
  show SlotsAre (putSl i v sl) _
  rw [e2, ← hsl.length]
  exact (hsl.pad _).set i hv
theorem m_method {f : Addr} {pl : Sem Bool} {Q : Value × List Value → MS K → Prop} (X : KK.In Γ.base) (hx : σ.h x = some (.inst C dx sl)) (hd : σ.h dx = some (.idict fs)) (hl : fs.lookup name = none) (h : Q (.ref f, [.ref x]) σ)
    (hf : findIn KK (.ref C) name = some (some (.ref f)) := by k_is) (hg : plainGet KK C name = true := by k_is) (ht : isFn KK (.ref f) = true := by k_is) : mwp knd Γ A (getMethod (.ref x) name pl) Q σ := fun s E R => by
  obtain ⟨sl', es, n, I, hs, hf'⟩ := R.inst hx hd
  refine method_fn (R.kin X) I (plainGet_of hg).1 (plainGet_of hg).2 hf (beq_iff_eq.mp ht) ?_ ⟨σ, R, h⟩
  show (lookIn name (dictOf es n)).map _ = _
  rw [lookIn_dict, hf'.miss hl]; rfl
end
end Mine
end
section
open PySem PySem.W PyProof.Rows PySem.SeqAt
set_option maxHeartbeats 400000
namespace Mine
section
variable {prog : Program} {w : World} {K : Type} [DecidableEq K] {knd : PySem.KeyKind prog w K} {Γ : Fx} {σ : MS K} {A : Around} {env : Env} {α : Type} {s : Shared} {Q : Value → MS K → Prop} {QB : Bool → MS K → Prop} {QU : Unit → MS K → Prop}
variable {KK : Frag} {t u : Tok}

noncomputable def mcode (knd : PySem.KeyKind prog w K) (Γ : Fx) (A : Around) (c : Code) (Q : Value → MS K → Prop) (σ : MS K) : Prop :=
  ∀ s (E : Value → Shared → Prop), Rel knd Γ σ s → codeAny (model prog w) A c (fun r s' => match r with | .ok (.ret v) => ∃ σ', Rel knd Γ σ' s' ∧ Q v σ' | .ok _ => False | .error e => E e s') s
theorem m_code {f : Value} {args : List Value} {kws : List (Str × Value)} (h : mcode knd Γ A (.call f ⟨args, kws⟩) Q σ) : mwp knd Γ A (call f args kws) Q σ := fun s E R => wpAny_call (h s E R)
noncomputable def Fits (Γ : Fx) (A : Around) : Prop := ∃ es, A.frames = some es ∧ ∀ e ∈ es, e.scope.kind ≠ .module ∧ ∃ L, e.frame = some L ∧ (L = Γ.L ∨ ∃ p ∈ Γ.outs, p.1 = L)
theorem Fits.deeper {L : Addr} {m : Str → Option V} (h : Fits Γ A) {e : Env} (hk : e.scope.kind = .function := by rfl) (hf : e.frame = some L := by rfl) : Fits (Γ.enter L m) (A.deeper e) := by
  obtain ⟨es, h1, h2⟩ := h
  refine ⟨e :: es, by show A.frames.map _ = _; rw [h1]; rfl, fun e' he => ?_⟩
  rcases List.mem_cons.mp he with rfl | he
  · exact ⟨by rw [hk]; decide, L, hf, .inl rfl⟩
  · obtain ⟨a, L', b, c⟩ := h2 e' he
    refine ⟨a, L', b, .inr ?_⟩
    rcases c with c | ⟨p, hp, c⟩
    · exact ⟨(Γ.L, m), .head _, c.symm⟩
    · exact ⟨p, .tail _ hp, c⟩
theorem c_def {f : Addr} {args : List Value} {kws : List (Str × Value)} {name qual : Str} {params : Arguments} {body : List Stmt} {scope : Scope} {dV kV doc pm cdv ct oc : Value} {an od : Option Addr} {osl : Array (Option Value)} {n : Nat}
    (hA : Dp A n) (X : KK.In Γ.base) (hlim : Γ.base.NoLimit)
    (h : mwp knd Γ A.in1 (bindArgs (fnOf name qual params body scope dV kV doc pm an cdv ct) ⟨args, kws⟩) (fun binds σ₁ => (∀ x ∈ binds, scope.names.lookup x.1 = some .local) ∧ ∃ bs, BindsAre bs binds ∧
      ∀ L', mwp knd (Γ.enter L' σ₁.m) (A.deeper (envOf qual scope L' f cdv)) (execs body (envOf qual scope L' f cdv)) (fun fl σ' => Q (match fl with | .ret v => v | _ => .none) ⟨σ₁.m, σ'.h⟩) ⟨fun x => bs.reverse.lookup x, σ₁.h⟩) σ)
    (ho : KK.lookup f = some ⟨oc, od, .func (fnOf name qual params body scope dV kV doc pm an cdv ct), osl⟩ := by k_is) (hcd : codeIn KK cdv qual = true := by k_is)
    (hco : scope.isCoroutine = false := by rfl) (hgen : scope.isGenerator = false := by rfl) (hk : scope.kind = .function := by rfl) (hcell : ∀ x ∈ scope.names, x.2 ≠ .cell := by decide) :
    mcode knd Γ A (.call (.ref f) ⟨args, kws⟩) Q σ := fun s E R => by
  have kb : ∀ b o, Γ.base.get? b = some o → s.heap.get? b = some o := fun b o e => R.keep b o (Γ.sub b o e)
  refine codeAny_call_function hA.room (kb _ _ (X _ _ ho)) rfl hco hgen rfl ((codeRec_of X hcd).keeps kb) (h.use R fun binds s₁ σ₁ R₁ ⟨hl, bs, ba, hb⟩ => ?_)
  refine wpAny_newFunctionEnv hcell hl (fun h₁ ns sb => ?_) hk
  have kb₁ : ∀ b o, Γ.base.get? b = some o → s₁.heap.get? b = some o := fun b o e => R₁.keep b o (Γ.sub b o e)
  have ext : ∀ b o, s₁.heap.get? b = some o → h₁.get? b = some o := fun b o e => (sb.2 b (Nat.ne_of_lt (Heap.lt_size e))).trans (Heap.get?_push_of_some _ e)
  refine ⟨(hlim.keeps kb₁).keeps ext, codeAny_func ?_⟩
  have R₂ : Rel knd (Γ.enter s₁.heap.objs.size σ₁.m) ⟨fun x => bs.reverse.lookup x, σ₁.h⟩ { s₁ with heap := h₁, toks := s₁.toks + binds.length } :=
    R₁.entered noneAt ⟨_, ns, fun x v e => ba.reverse.lookup e⟩ ext
  refine (hb s₁.heap.objs.size).use R₂ fun fl s' σ' R' q => ?_
  exact ⟨_, R'.leave R.bL R.bO R.lO, q⟩

theorem c_make {C fI : Addr} {args : List Value} {kws : List (Str × Value)} (X : KK.In Γ.base)
    (h : ∀ x dx, σ.h x = none → σ.h dx = none → x ≠ dx → mcode knd Γ (A.under (.builtin "type.__call__" ⟨.ref C :: args, kws⟩)) (.call (.ref fI) ⟨.ref x :: args, kws⟩) (fun v σ' => v = .none ∧ Q (.ref x) σ') ((σ.set dx (.idict [])).set x (.inst C dx [])))
    (hi : findIn KK (.ref C) "__init__" = some (some (.ref fI)) := by k_is) (hm : makesIn KK C = true := by k_is) (hf : isFn KK (.ref fI) = true := by k_is) : mwp knd Γ A (call (.ref C) args kws) Q σ := fun s E R => by
  obtain ⟨m', nm, q⟩ := R.cur
  refine wpAny_call (make_K (bridge_F nm) (fun p hp => by
    obtain ⟨b, o⟩ := p
    obtain ⟨a1, a2, a3⟩ := mem_others.mp hp
    exact ⟨a3, a1, noHeap_get _⟩) (news := others s.heap Γ.L Γ.L) (R.kin X) hm hi (beq_iff_eq.mp hf) fun x dx h' F' N' lt lt2 => ?_)
  have gx := (N' (x, instObj C dx) (.head _)).1
  have gd := (N' (dx, emptyDict) (.tail _ (.head _))).1
  have nx := (N' (x, instObj C dx) (.head _)).2.1
  have nd := (N' (dx, emptyDict) (.tail _ (.head _))).2.1
  have keepAll : ∀ b o, b ≠ Γ.L → s.heap.get? b = some o → h'.get? b = some o := fun b o h1 g => (N' (b, o) (.tail _ (.tail _ (mem_others.mpr ⟨h1, h1, g⟩)))).1
  have old : ∀ b o, b ≠ Γ.L → s.heap.get? b = some o → b < dx := fun b o h1 g => lt (b, o) (mem_others.mpr ⟨h1, h1, g⟩)
  have fd : s.heap.get? dx = none := by
    cases z : s.heap.get? dx with
    | none => rfl
    | some o => exact absurd (old dx o nd z) (Nat.lt_irrefl _)
  have fx : s.heap.get? x = none := by
    cases z : s.heap.get? x with
    | none => rfl
    | some o => exact absurd (old x o nx z) (Nat.not_lt.mpr (Nat.le_of_lt lt2))
  have bd : Γ.B dx = none := by
    cases z : Γ.B dx with
    | none => rfl
    | some o => have := R.keep _ _ z; rw [fd] at this; cases this
  have bx : Γ.B x = none := by
    cases z : Γ.B x with
    | none => rfl
    | some o => have := R.keep _ _ z; rw [fx] at this; cases this
  have od : ∀ p ∈ Γ.outs, dx ≠ p.1 := fun p hp z => by obtain ⟨o, ho⟩ := (R.out p hp).get; rw [← z, fd] at ho; cases ho
  have ox : ∀ p ∈ Γ.outs, x ≠ p.1 := fun p hp z => by obtain ⟨o, ho⟩ := (R.out p hp).get; rw [← z, fx] at ho; cases ho
  have hd : σ.h dx = none := by
    cases z : σ.h dx with
    | none => rfl
    | some o => obtain ⟨ob, h1, _⟩ := R.obj _ _ z; rw [fd] at h1; cases h1
  have hx : σ.h x = none := by
    cases z : σ.h x with
    | none => rfl
    | some o => obtain ⟨ob, h1, _⟩ := R.obj _ _ z; rw [fx] at h1; cases h1
  have R₁ : Rel knd Γ (σ.set dx (.idict [])) { s with heap := h' } := R.newN (tk := s.toks) bd nd od (fun b o h1 _ g => keepAll b o h1 g) ⟨m', F'.ns, q⟩ gd ⟨[], 0, rfl, trivial⟩
  have R₂ : Rel knd Γ ((σ.set dx (.idict [])).set x (.inst C dx [])) { s with heap := h' } := R₁.newN (h' := h') (tk := s.toks) bx nx ox (fun b o _ _ g => g) ⟨m', F'.ns, q⟩ gx ⟨#[], rfl, trivial⟩
  refine codeAny_mono (h x dx hx hd (fun z => absurd lt2 (z ▸ Nat.lt_irrefl _)) _ E R₂) fun r s' z => ?_
  rcases r with e | (_ | _ | _ | v)
  · exact z
  · exact z.elim
  · exact z.elim
  · exact z.elim
  · obtain ⟨σ', R', rfl, q'⟩ := z; exact ⟨rfl, σ', R', q'⟩
theorem Dp.make {C : Addr} {args : List Value} {kws : List (Str × Value)} {n : Nat} (h : Dp A (n + 1)) : Dp (A.under (.builtin "type.__call__" ⟨.ref C :: args, kws⟩)) n :=
  ⟨h.hd, by have := h.dp; show A.depth + 1 + _ < _; omega, by have := h.un; show A.units + 1 + _ < _; omega⟩
theorem m_callK {f : Value} {first : List Value} {e : Expr} {rest : List Expr} {pos : Pos} (X : KK.In Γ.base) (h : mwp knd Γ A (spliced (backTo pos (starEach (e :: rest) env))) (fun vs σ₁ => mwp knd Γ A (call f (first ++ vs)) Q σ₁) σ)
    (hk : keepIn KK f = true := by k_is) (he : starEach (e :: rest) env = (false, eval e env) :: starEach rest env := by rfl) (hplain : (backTo pos (starEach rest env)).any (·.1) = false := by rfl) :
    mwp knd Γ A (callWith pos f first (backTo pos (starEach (e :: rest) env)) []) Q σ := fun s E R =>
  callWith_K X hk (h.use R fun vs s₁ σ₁ R₁ q => ⟨R₁.kin X, q s₁ E R₁⟩) he hplain
theorem m_callK0 {f : Value} {first : List Value} {pos : Pos} (X : KK.In Γ.base) (h : mwp knd Γ A (call f (first ++ [])) Q σ) (hk : keepIn KK f = true := by k_is) :
    mwp knd Γ A (callWith pos f first (backTo pos (starEach [] env)) []) Q σ := fun s E R => callWith_K0 (R.kin X) hk (h s E R)
theorem m_callB {id : String} {first : List Value} {e : Expr} {rest : List Expr} {pos : Pos} (h : mwp knd Γ A (spliced (backTo pos (starEach (e :: rest) env))) (fun vs σ₁ => mwp knd Γ A (call (.builtin id) (first ++ vs)) Q σ₁) σ)
    (he : starEach (e :: rest) env = (false, eval e env) :: starEach rest env := by rfl) (hplain : (backTo pos (starEach rest env)).any (·.1) = false := by rfl) :
    mwp knd Γ A (callWith pos (.builtin id) first (backTo pos (starEach (e :: rest) env)) []) Q σ := fun s E R => by
  refine Calls.callWith_builtin (by rw [he]; show (false || _) = false; rw [Bool.false_or]; exact hplain) ?_
  rw [he]
  refine Calls.evalArgs_plain ?_
  have := h.use (E := E) R (fun vs s₁ σ₁ R₁ q => q s₁ E R₁)
  rw [he] at this
  exact this
theorem m_callB0 {id : String} {first : List Value} {pos : Pos} (h : mwp knd Γ A (call (.builtin id) (first ++ [])) Q σ) : mwp knd Γ A (callWith pos (.builtin id) first (backTo pos (starEach [] env)) []) Q σ := fun s E R =>
  Calls.callWith_builtin rfl (evalArgs_nil3 (h s E R))
theorem m_callT {T : String} {e : Expr} {rest : List Expr} {pos : Pos} (h : mwp knd Γ A (spliced (backTo pos (starEach (e :: rest) env))) (fun vs σ₁ => mwp knd Γ A (call (.type T) vs) Q σ₁) σ)
    (he : starEach (e :: rest) env = (false, eval e env) :: starEach rest env := by rfl) (hplain : (backTo pos (starEach rest env)).any (·.1) = false := by rfl) :
    mwp knd Γ A (callWith pos (.type T) [] (backTo pos (starEach (e :: rest) env)) []) Q σ := fun s E R => PyProof.Rows.callWith_type1 (h.use R fun vs s₁ σ₁ R₁ q => q s₁ E R₁) he hplain
theorem m_callT0 {T : String} {pos : Pos} (h : mwp knd Γ A (call (.type T) []) Q σ) : mwp knd Γ A (callWith pos (.type T) [] (backTo pos (starEach [] env)) []) Q σ := fun s E R => callWith_type0 (h s E R)

variable {l d : Addr} {xs : List V} {kvs : List (K × V)} {ep : Nat} {pl : Sem Bool} {QM : Value × List Value → MS K → Prop}
theorem m_methList {name : Str} {id : String} (hl : σ.h l = some (.list xs)) (slot : Slot "list" name id) (hty : typeOf (.builtin id) = pure (.type "method_descriptor")) (h : QM (.builtin id, [.ref l]) σ) : mwp knd Γ A (getMethod (.ref l) name pl) QM σ := fun s E R => by
  obtain ⟨vs, n, e, _⟩ := R.listX hl
  exact getMethod_builtin ⟨_, e, rfl⟩ PySem.F.plainAttrs_list slot hty (fun a z => by cases z; exact ⟨_, e, rfl⟩) ⟨σ, R, h⟩
theorem m_methDict {name : Str} {id : String} (hd : σ.h d = some (.dict kvs ep)) (slot : Slot "dict" name id) (hty : typeOf (.builtin id) = pure (.type "method_descriptor")) (h : QM (.builtin id, [.ref d]) σ) : mwp knd Γ A (getMethod (.ref d) name pl) QM σ := fun s E R => by
  obtain ⟨kvs', ⟨o, es, e, x, _⟩, _⟩ := R.dict hd
  exact getMethod_builtin ⟨o, e, x.1⟩ PySem.F.plainAttrs_dict slot hty (fun a z => by cases z; exact ⟨_, e, x.2.1⟩) ⟨σ, R, h⟩

theorem Rel.mapOf (R : Rel knd Γ σ s) (hd : σ.h d = some (.dict kvs ep)) : ∃ kvs', s.heap.DictOf knd d kvs' ∧ PairsAre kvs kvs' := by
  obtain ⟨kvs', ⟨o, es, e, x⟩, pa⟩ := R.dict hd
  exact ⟨kvs', ⟨o, es, ep, e, x⟩, pa⟩
noncomputable def dGet (kvs : List (K × V)) (k : K) : Option V := (kvs.find? fun p => p.1 = k).map (·.2)
theorem PairsAre.find : ∀ {a : List (K × V)} {b : List (K × Value)} {k : K}, PairsAre a b → match dGet a k with | some v => ∃ v', PySem.valueAt b k = some v' ∧ v.is v' | none => PySem.valueAt b k = none
  | [], [], _, _ => rfl
  | (k0, x) :: r, (k1, y) :: r', k, h => by
    obtain ⟨rfl, hx, hr⟩ := h
    unfold dGet PySem.valueAt
    rw [List.find?_cons, List.find?_cons]
    by_cases e : k0 = k
    · simp only [e, decide_true]; exact ⟨y, rfl, hx⟩
    · simp only [e, decide_false]; exact PairsAre.find hr
  | [], _ :: _, _, h => h.elim
  | _ :: _, [], _, h => h.elim
noncomputable def dPut (kvs : List (K × V)) (k : K) (v : V) : List (K × V) := if kvs.any (fun kv => kv.1 = k) then kvs.map (fun kv => if kv.1 = k then (kv.1, v) else kv) else kvs ++ [(k, v)]
theorem PairsAre.any : ∀ {a : List (K × V)} {b : List (K × Value)} {k : K}, PairsAre a b → a.any (fun kv => kv.1 = k) = b.any (fun kv => kv.1 = k)
  | [], [], _, _ => rfl
  | (k0, x) :: r, (k1, y) :: r', k, h => by obtain ⟨rfl, hx, hr⟩ := h; rw [List.any_cons, List.any_cons, PairsAre.any hr]
  | [], _ :: _, _, h => h.elim
  | _ :: _, [], _, h => h.elim
theorem PairsAre.mapPut {k : K} {v : V} {v' : Value} (hv : v.is v') : ∀ {a : List (K × V)} {b : List (K × Value)}, PairsAre a b → PairsAre (a.map (fun kv => if kv.1 = k then (kv.1, v) else kv)) (b.map (fun kv => if kv.1 = k then (kv.1, v') else kv))
  | [], [], _ => trivial
  | (k0, x) :: r, (k1, y) :: r', h => by
    obtain ⟨rfl, hx, hr⟩ := h
    rw [List.map_cons, List.map_cons]
    by_cases e : k0 = k
    · simp only [e, if_true]; exact ⟨rfl, hv, PairsAre.mapPut hv hr⟩
    · simp only [e, if_false]; exact ⟨rfl, hx, PairsAre.mapPut hv hr⟩
  | [], _ :: _, h => h.elim
  | _ :: _, [], h => h.elim
theorem PairsAre.app {k : K} {v : V} {v' : Value} (hv : v.is v') : ∀ {a : List (K × V)} {b : List (K × Value)}, PairsAre a b → PairsAre (a ++ [(k, v)]) (b ++ [(k, v')])
  | [], [], _ => ⟨rfl, hv, trivial⟩
  | (k0, x) :: r, (k1, y) :: r', h => ⟨h.1, h.2.1, PairsAre.app hv h.2.2⟩
  | [], _ :: _, h => h.elim
  | _ :: _, [], h => h.elim
theorem PairsAre.put {a : List (K × V)} {b : List (K × Value)} {k : K} {v : V} {v' : Value} (h : PairsAre a b) (hv : v.is v') : PairsAre (dPut a k v) (PySem.stored b k v') := by
  unfold dPut PySem.stored
  rw [h.any]
  split
  · exact h.mapPut hv
  · exact h.app hv
theorem PairsAre.del {k : K} : ∀ {a : List (K × V)} {b : List (K × Value)}, PairsAre a b → PairsAre (a.filter fun kv => decide (kv.1 ≠ k)) (PySem.without b k)
  | [], [], _ => trivial
  | (k0, x) :: r, (k1, y) :: r', h => by
    obtain ⟨rfl, hx, hr⟩ := h
    unfold PySem.without
    rw [List.filter_cons, List.filter_cons]
    by_cases e : k0 = k
    · simp only [e, ne_eq, not_true, decide_false]; exact PairsAre.del hr
    · simp only [e, ne_eq, not_false_iff, decide_true, if_true]; exact ⟨rfl, hx, PairsAre.del hr⟩
  | [], _ :: _, h => h.elim
  | _ :: _, [], h => h.elim
theorem notSys (R : Rel knd Γ σ s) (hs : ∃ o, Γ.base.get? sysModules = some o) {o : O K} (hd : σ.h d = some o) : (d == sysModules) = false := by
  obtain ⟨ob, e⟩ := hs
  cases z : d == sysModules with
  | false => rfl
  | true =>
    rw [beq_iff_eq] at z
    subst z
    have := R.bH _ _ hd
    rw [Γ.sub _ _ e] at this; cases this
theorem m_dict0 {pos : Pos} (h : ∀ D, σ.h D = none → Q (.ref D) (σ.set D (.dict [] 0))) : mwp knd Γ A (eval (.Dict [] [] pos) env) Q σ := fun s E R =>
  wpAny_Dict_empty ⟨_, R.push (o := .dict [] 0) (tk := s.toks) ⟨#[], [], ⟨rfl, rfl, rfl⟩, rfl, fun _ h => by simp at h, .nil, .nil, trivial⟩, h _ R.fresh⟩
theorem m_dictGetItem {k : K} {key : Value} {v : V} (hd : σ.h d = some (.dict kvs ep)) (hk : knd.is k key = true) (hv : dGet kvs k = some v) (h : ∀ v', v.is v' → Q v' σ) : mwp knd Γ A (getItem (.ref d) key) Q σ := fun s E R => by
  obtain ⟨kvs', dm, pa⟩ := R.mapOf hd
  have := pa.find (k := k)
  rw [hv] at this
  obtain ⟨v', e, iv⟩ := this
  exact wpAny_getItem_of hk dm.mapOf e ⟨σ, R.toks, h v' iv⟩
theorem m_dictSetItem {k : K} {key v' : Value} {v : V} (hd : σ.h d = some (.dict kvs ep)) (hk : knd.is k key = true) (hv : v.is v') (hsz : kvs.length ≤ sizeLine) (h : ∀ ep', QU () (σ.set d (.dict (dPut kvs k v) ep'))) : mwp knd Γ A (setItem (.ref d) key v') QU σ := fun s E R => by
  obtain ⟨kvs', dm, pa⟩ := R.mapOf hd
  refine wpAny_setItem_pairs hk dm (fun h' ⟨o, es, ep', g, x⟩ sb => ?_) (by rw [← pa.length]; exact hsz)
  exact ⟨_, R.change (o := .dict (dPut kvs k v) ep') hd (fun b o hb q => (sb.2 b hb).trans q) g ⟨es, _, x.1, x.2.1, x.2.2.1, x.2.2.2.1, x.2.2.2.2, pa.put hv⟩, h ep'⟩
theorem m_dictDel {k : K} {key : Value} (hd : σ.h d = some (.dict kvs ep)) (hk : knd.is k key = true) (hv : (dGet kvs k).isSome = true) (hsz : kvs.length ≤ sizeLine) (h : ∀ ep', QU () (σ.set d (.dict (kvs.filter fun kv => decide (kv.1 ≠ k)) ep'))) :
    mwp knd Γ A (delItem (.ref d) key) QU σ := fun s E R => by
  obtain ⟨kvs', dm, pa⟩ := R.mapOf hd
  have hT : s.TypeIs (.ref d) "dict" := dm.mapOf.typeIs
  refine wpAny_delItem_slot hT (by decide) F.slot_dict_delitem (call_meetsIn F.slot_dict_delitem hT F.entry_dict_delitem (F.args_dict_delitem_2 _ _) (meets_dict_delitem_pairs knd d hk) ⟨kvs', dm, by rw [← pa.length]; exact hsz, ?_, fun h' ⟨o, es, ep', g, x⟩ sb => ?_⟩)
  · have := pa.find (k := k)
    cases z : dGet kvs k with
    | none => rw [z] at hv; cases hv
    | some v => rw [z] at this; obtain ⟨v', e, _⟩ := this; rw [e]; rfl
  · exact ⟨_, R.change (o := .dict (kvs.filter fun kv => decide (kv.1 ≠ k)) ep') hd (fun b o hb q => (sb.2 b hb).trans q) g ⟨es, _, x.1, x.2.1, x.2.2.1, x.2.2.2.1, x.2.2.2.2, pa.del⟩, h ep'⟩
theorem m_dictGet {k : K} {key : Value} (hsys : ∃ o, Γ.base.get? sysModules = some o) (hd : σ.h d = some (.dict kvs ep)) (hk : knd.is k key = true) (h : ∀ v', ((dGet kvs k).getD .none).is v' → Q v' σ) : mwp knd Γ A (call (.builtin "dict.get") [.ref d, key]) Q σ := fun s E R => by
  obtain ⟨kvs', dm, pa⟩ := R.mapOf hd
  have hT : s.TypeIs (.ref d) "dict" := dm.mapOf.typeIs
  refine call_meetsIn F.slot_dict_get hT F.entry_dict_get (F.args_dict_get_2 _ _) (meets_dict_get knd d hk (notSys R hsys hd)) ⟨_, dm.mapOf, σ, R.toks, h _ ?_⟩
  have := pa.find (k := k)
  cases z : dGet kvs k with
  | none => rw [z] at this; rw [this]; rfl
  | some v => rw [z] at this; obtain ⟨v', e, iv⟩ := this; rw [e]; exact iv
theorem m_dictIn {k : K} {key : Value} (hsys : ∃ o, Γ.base.get? sysModules = some o) (hd : σ.h d = some (.dict kvs ep)) (hk : knd.is k key = true) (h : Q (.bool (dGet kvs k).isSome) σ) : mwp knd Γ A (compareOp .In key (.ref d)) Q σ := fun s E R => by
  obtain ⟨kvs', dm, pa⟩ := R.mapOf hd
  refine wpAny_in_of hk (notSys R hsys hd) dm.mapOf ⟨σ, R.toks, ?_⟩
  have := pa.find (k := k)
  cases z : dGet kvs k with
  | none => rw [z] at this h; rw [this]; exact h
  | some v => rw [z] at this h; obtain ⟨v', e, iv⟩ := this; rw [e]; exact h
theorem m_dictValues (hsys : ∃ o, Γ.base.get? sysModules = some o) (hd : σ.h d = some (.dict kvs ep)) (h : ∀ D, σ.h D = none → Q (.ref D) (σ.set D (.values d))) : mwp knd Γ A (call (.builtin "dict.values") [.ref d]) Q σ := fun s E R => by
  obtain ⟨kvs', dm, pa⟩ := R.mapOf hd
  have hT : s.TypeIs (.ref d) "dict" := dm.mapOf.typeIs
  exact call_meetsIn F.slot_dict_values hT F.entry_dict_values (F.args_dict_values_1 _) (meets_dict_values knd d (notSys R hsys hd)) ⟨⟨_, dm⟩, _, R.push (o := .values d) (tk := s.toks) ⟨rfl, rfl⟩, h _ R.fresh⟩
theorem m_dictItems (hsys : ∃ o, Γ.base.get? sysModules = some o) (hd : σ.h d = some (.dict kvs ep)) (h : ∀ D, σ.h D = none → Q (.ref D) (σ.set D (.items d))) : mwp knd Γ A (call (.builtin "dict.items") [.ref d]) Q σ := fun s E R => by
  obtain ⟨kvs', dm, pa⟩ := R.mapOf hd
  have hT : s.TypeIs (.ref d) "dict" := dm.mapOf.typeIs
  exact call_meetsIn F.slot_dict_items hT F.entry_dict_items (F.args_dict_items_1 _) (meets_dict_items knd d (notSys R hsys hd)) ⟨⟨_, dm⟩, _, R.push (o := .items d) (tk := s.toks) ⟨rfl, rfl⟩, h _ R.fresh⟩

variable {S : K → Bool} {n : Nat} {a : Addr}
theorem Rel.setOf (R : Rel knd Γ σ s) (hs : σ.h a = some (.set S n)) : s.heap.SetOf knd a S n := by
  obtain ⟨o, e, es, ep, t, x⟩ := R.obj a _ hs
  exact ⟨o, es, ep, t, e, x⟩
theorem m_setNew (h : ∀ D, σ.h D = none → Q (.ref D) (σ.set D (.set (fun _ => false) 0))) : mwp knd Γ A (call (.type "set") []) Q σ := fun s E R =>
  call_set_0 fun led => ⟨_, R.push (o := .set (fun _ => false) 0) (tk := s.toks) ⟨#[], 0, _, ⟨rfl, rfl, rfl⟩, rfl, (fun e he => by simp at he), (fun k => by simp), (by decide), (by rfl), rfl⟩, h _ R.fresh⟩
theorem m_setIn {k : K} {key : Value} (hs : σ.h a = some (.set S n)) (hk : knd.is k key = true) (hsc : key.scannable = true) (h : Q (.bool (S k)) σ) : mwp knd Γ A (compareOp .In key (.ref a)) Q σ := fun s E R =>
  wpAny_inSet_of hk hsc (R.setOf hs) ⟨σ, R.toks, h⟩
theorem m_setAdd {k : K} {key : Value} (hs : σ.h a = some (.set S n)) (hk : knd.is k key = true) (hsc : key.scannable = true) (hroom : n + 1 < scanBound) (h : Q .none (σ.set a (.set (fun k' => S k' || decide (k' = k)) (if S k then n else n + 1)))) :
    mwp knd Γ A (call (.builtin "set.add") [.ref a, key]) Q σ := fun s E R =>
  call_set_add hk hsc (R.setOf hs) hroom fun h' sb ⟨o, es, ep, t, g, x⟩ => ⟨_, R.change (o := .set (fun k' => S k' || decide (k' = k)) (if S k then n else n + 1)) hs (fun b o hb q => (sb.2 b hb).trans q) g ⟨es, ep, t, x⟩, h⟩
end
end Mine
end
section
open PySem PySem.W PyProof.Rows PySem.SeqAt
namespace Mine
theorem slot_li_ga : Slot "list_iterator" "__getattribute__" "object.__getattribute__" :=
  .of (owner := "object") (n := "__getattribute__") (by rw [typeLookup_type, builtinLookup_eq_fast]; kernel_rfl) (by decide +kernel) (by decide +kernel) (by decide +kernel)
    (by first | exact .inl (by decide +kernel) | exact .inr (by decide +kernel)) (by rw [isSubtype_type]; kernel_rfl)
theorem slot_wd_get : Slot "wrapper_descriptor" "__get__" "wrapper_descriptor.__get__" :=
  .of (owner := "wrapper_descriptor") (n := "__get__") (by rw [typeLookup_type, builtinLookup_eq_fast]; kernel_rfl) (by decide +kernel) (by decide +kernel) (by decide +kernel)
    (by first | exact .inl (by decide +kernel) | exact .inr (by decide +kernel)) (by rw [isSubtype_type]; kernel_rfl)
theorem entry_wd_get : entryFor table "wrapper_descriptor.__get__" = some Builtin.«wrapper_descriptor.__get__» := entryFor_of_tree (by kernel_rfl)
theorem args_wd_get (a b c : Value) : argsOk "wrapper_descriptor.__get__" ⟨[a, b, c], []⟩ := by unfold argsOk; kernel_rfl
theorem type_li_next : typeOf (.builtin "list_iterator.__next__") = pure (.type "wrapper_descriptor") := by kernel_rfl
open Builtin.ObjectAttr in
set_option maxHeartbeats 1000000 in
theorem getAttr_next {prog : Program} {w : World} {A : Around} {E : Value → Shared → Prop} {s : Shared} {it : Addr} {vs : Array Value} {Q : Value → Shared → Prop}
    (hx : s.heap.get? it = some { cls := .type "list_iterator", data := .fields vs }) (hQ : ∀ tk, Q (.ref s.heap.objs.size) { s with heap := s.heap.push { cls := .type "method-wrapper", data := .fields #[.builtin "list_iterator.__next__", .ref it] }, toks := tk }) : wpAny (model prog w) A (getAttr (.ref it) "__next__" true) Q E s := by
  obtain ⟨hp, g, d, tk, os⟩ := s
  have hT : ∀ tk', (⟨hp, g, d, tk', os⟩ : Shared).TypeIs (.ref it) "list_iterator" := fun _ => ⟨_, hx, rfl⟩
  have f1 := slot_li_ga.lookup
  have f2 := slot_li_ga.bind (.ref it)
  have f3 := slot_listiter_next.lookup
  have fk : builtinKind "list_iterator.__next__" = some .slot := by decide +kernel
  have g1 : typeLookup (.type "wrapper_descriptor") "__get__" = pure (some (.builtin "wrapper_descriptor.__get__")) := by rw [typeLookup_type, builtinLookup_eq_fast]; kernel_rfl
  have g2 : typeLookup (.type "wrapper_descriptor") "__set__" = pure none := by rw [typeLookup_type, builtinLookup_eq_fast]; kernel_rfl
  have g3 : typeLookup (.type "wrapper_descriptor") "__delete__" = pure none := by rw [typeLookup_type, builtinLookup_eq_fast]; kernel_rfl
  have k1 : (".".intercalate (("list_iterator.__next__".cutAt '.').dropLast)) = "list_iterator" := by decide +kernel
  have k2 : isSubtype (.type "list_iterator") (.type "list_iterator") = pure true := by rw [isSubtype_type]; kernel_rfl
  unfold getAttr getAttrBy
  repeat (any_goals (first | assumption | exact hT _ | ((with_reducible show wpAny _ _ (call (Value.builtin "object.__getattribute__") _ _) _ _ _); refine wpAny_call_entry slot_li_ga (hT _) F.entry_object_getattribute ?_ (F.args_object_getattribute_2 _ _); unfold Builtin.«object.__getattribute__»)  | wp_step))
  repeat' (first | (simp only [fk, k1, k2]; fail_if_success done) | assumption | exact hT _ | ((with_reducible show wpAny _ _ (call (Value.builtin "wrapper_descriptor.__get__") _ _) _ _ _); refine wpAny_call_entry slot_wd_get type_li_next entry_wd_get ?_ (args_wd_get _ _ _); unfold Builtin.«wrapper_descriptor.__get__») | wp_step)
  refine ⟨_, rfl, ?_⟩
  refine wpAny_pure ⟨_, rfl, wpAny_pure (hQ _)⟩
set_option maxHeartbeats 400000
section
variable {prog : Program} {w : World} {K : Type} [DecidableEq K] {knd : PySem.KeyKind prog w K} {Γ : Fx} {σ : MS K} {A : Around} {env : Env} {α : Type} {s : Shared} {Q : Value → MS K → Prop} {QB : Bool → MS K → Prop} {QU : Unit → MS K → Prop} {QF : Flow → MS K → Prop}
variable {l it nx : Addr} {xs : List V} {i : Nat}

theorem m_nextAttr (hi : σ.h it = some (.liter l i)) (h : ∀ n, σ.h n = none → Q (.ref n) (σ.set n (.nxt it))) : mwp knd Γ A (getAttr (.ref it) "__next__" true) Q σ := fun s E R => by
  obtain ⟨o, e, rfl⟩ := R.obj _ _ hi
  exact getAttr_next e fun tk => ⟨_, R.push (o := .nxt it) rfl, h _ R.fresh⟩

theorem m_iterList (hl : σ.h l = some (.list xs)) (h : ∀ n, σ.h n = none → Q (.ref n) (σ.set n (.liter l 0))) : mwp knd Γ A (call (.builtin "iter") [.ref l]) Q σ := fun s E R => by
  obtain ⟨vs, e, _⟩ := R.list hl
  refine Calls.call_function_entry (by decide +kernel) (by decide +kernel) kdk_entry_iter (kdk_args_iter _) ?_
  unfold Builtin.«iter»
  refine wpAny_bind (m := someArgs "iter" 1 2 _) (wpAny_of_eq (a := [Value.ref l]) (by first | rfl | kernel_rfl!) ?_)
  show wpAny _ _ (pyIter (.ref l) >>= _) _ _ _
  refine wpAny_bind (wpAny_pyIter_list e ?_)
  exact wpAny_pure ⟨_, rfl, _, R.push (o := .liter l 0) (tk := s.toks) rfl, h _ R.fresh⟩

theorem entry_lin : entryFor table "list_iterator.__next__" = some Builtin.«list_iterator.__next__» := entry_listiter_next
theorem check_lin {a : Addr} : checkBoundCall "list_iterator.__next__" ⟨[.ref a], []⟩ = pure () := by first | kernel_rfl | rfl
theorem quiet_lin {a : Addr} : (Code.builtin "list_iterator.__next__" ⟨[.ref a], []⟩).quiet = true := by first | rfl | decide +kernel | kernel_rfl

noncomputable def MS.del (σ : MS K) (a : Addr) : MS K := ⟨σ.m, fun b => if b = a then none else σ.h b⟩
noncomputable def NewExc (Γ : Fx) (σ : MS K) (h : Heap) (T : String) (a : Addr) : Prop := (∃ vs, h.get? a = some { cls := .type T, data := .fields vs } ∧ vs[1]? = some .none) ∧ Γ.B a = none ∧ a ≠ Γ.L ∧ (∀ p ∈ Γ.outs, a ≠ p.1) ∧ σ.h a = none

theorem call_next {E : Value → Shared → Prop} {P : Value → Shared → Prop} (R : Rel knd Γ σ s) (hn : σ.h nx = some (.nxt it)) (hi : σ.h it = some (.liter l i)) (hl : σ.h l = some (.list xs)) (hh : A.handled = none)
    (h1 : ∀ v v' s', xs[i]? = some v → v.is v' → Rel knd Γ (σ.set it (.liter l (i + 1))) s' → P v' s')
    (h2 : ∀ a s', xs[i]? = none → Rel knd Γ (σ.del it) s' → NewExc Γ (σ.del it) s'.heap "StopIteration" a → E (.ref a) s') : wpAny (model prog w) A (call (.ref nx) []) P E s := by
  obtain ⟨on, en, rfl⟩ := R.obj _ _ hn
  obtain ⟨o, ho, rfl⟩ := R.obj _ _ hi
  have hd : ({ cls := .type "list_iterator", data := .fields #[.ref l, .int i 0] } : Obj).data = .fields #[.ref l, .int i 0] := rfl
  obtain ⟨vs, nl, hol, are⟩ := R.listX hl
  refine wpAny_call (codeAny_of_tree ?_)
  show wpAny _ A.in1 (callAny (.ref nx) ⟨[], []⟩) _ _ s
  simp only [callAny]
  refine wpAny_bind (wpAny_load en ?_)
  simp only [show (Value.type "method-wrapper" == Value.type "method" || Value.type "method-wrapper" == Value.type "builtin_function_or_method" || Value.type "method-wrapper" == Value.type "method-wrapper") = true by decide, if_true]
  refine KFB.if_so (by decide) ?_
  refine wpAny_bind (wpAny_of_eq (a := ()) check_lin ?_)
  refine wpAny_bind (wpAny_pure (wpAny_pure ?_))
  refine ⟨quiet_lin, codeAny_builtin entry_lin ?_⟩
  show wpAny _ _ (field (.ref it) 0 >>= _) _ _ s
  refine wpAny_bind (wpAny_field ho hd (x := .ref l) rfl ?_)
  show wpAny _ _ (if (Value.ref l == Value.none) = true then _ else _) _ _ s
  rw [if_neg (show ¬ ((Value.ref l == Value.none) = true) from Bool.false_ne_true)]
  show wpAny _ _ (field (.ref it) 1 >>= _) _ _ s
  refine wpAny_bind (wpAny_field ho hd (x := .int i 0) rfl ?_)
  show wpAny _ _ (seqItems? (.ref l) >>= _) _ _ s
  refine wpAny_bind (wpAny_seqItems hol rfl ?_)
  cases hx : xs[i]? with
  | some v =>
    obtain ⟨v', e', iv⟩ := are.get hx
    have e' : vs[i]? = some v' := by rw [← Array.getElem?_toList]; exact e'
    simp only [Int.toNat_natCast, e']
    refine wpAny_bind (wpAny_setField ho hd (by simp) (wpAny_pure (h1 v v' _ hx iv ?_)))
    refine R.change (tk := s.toks) hi (fun b o' hb q => (Heap.get?_update_other _ _ (Ne.symm hb)).trans q) (Heap.get?_update_self _ ho (Obj.isFreed_of_fields (Obj.data_mapFields hd _))) (by
      show Obj.mapFields _ _ = _
      unfold Obj.mapFields
      simp [rawInt])
  | none =>
    have e' : vs[i]? = none := by
      have e1 : xs.length ≤ i := List.getElem?_eq_none_iff.mp hx
      rw [are.length] at e1
      exact Array.getElem?_eq_none_iff.mpr e1
    simp only [Int.toNat_natCast, e']
    refine wpAny_bind (wpAny_rule (wpAny_bind (wpAny_setField ho hd (by simp) ?_)))
    have R' : Rel knd Γ (σ.del it) { s with heap := s.heap.update it (Obj.mapFields (·.setIfInBounds 0 Value.none)) } := by
      have hdl : (σ.del it).h it = none := by show (if it = it then none else _) = _; rw [if_pos rfl]
      have R1 : Rel knd Γ (σ.del it) s := R.less (fun a o q => by
        have q : (if a = it then none else σ.h a) = some o := q
        split at q
        · cases q
        · exact q) fun _ _ e => e
      exact R1.extBut (tk := s.toks) (R.bH _ _ hi) (fun x => by rw [x, R.hL] at hi; cases hi) (fun p hp x => by rw [x, R.hO p hp] at hi; cases hi) hdl fun b o' hb q => (Heap.get?_update_other _ _ (Ne.symm hb)).trans q
    show wpAny _ _ (newExc (.type "StopIteration") [] >>= _) _ _ _
    refine wpAny_bind ?_
    simp only [newExc, newTuple]
    refine wpAny_bind (wpAny_newObj_type ?_ (by size_fits))
    refine wpAny_bind (m := firstArgMember _ _) (wpAny_of_eq (a := Value.none) (by first | rfl | (simp only [firstArgMember]; rfl)) ?_)
    refine wpAny_newObj_type ?_ (by size_fits)
    simp only [raiseNew]
    refine wpAny_bind (wpAny_handled ?_)
    have hu : ∀ c, (A.under c).handled = none := fun c => hh
    simp only [hu]
    refine wpAny_bind (wpAny_pure (wpAny_throw ?_))
    have R2 := R'.ext (h' := (s.heap.update it (Obj.mapFields (·.setIfInBounds 0 Value.none))).push { cls := Value.type "tuple", data := Data.seq #[] }) (tk := s.toks) fun b o q => Heap.get?_push_of_some _ q
    have R3 := R2.ext (h' := ((s.heap.update it (Obj.mapFields (·.setIfInBounds 0 Value.none))).push { cls := Value.type "tuple", data := Data.seq #[] }).push { cls := Value.type "StopIteration", data := Data.fields (#[Value.ref (s.heap.update it (Obj.mapFields fun x => x.setIfInBounds 0 Value.none)).objs.size, Value.none, Value.none, Value.none, Value.bool false, Value.none] ++ ownMembersOf (Value.type "StopIteration") []) }) (tk := s.toks) fun b o q => Heap.get?_push_of_some _ q
    exact h2 _ _ hx R3 ⟨⟨_, Heap.get?_push_size _ rfl, rfl⟩, R2.freshB, R2.freshL, R2.freshO, R2.fresh⟩

theorem NsAt.slots {h h' : Heap} {L : Addr} {m} {S : List Addr} (x : NsAt h L m) (y : Heap.SlotsOnly S h h') : NsAt h' L m := by
  obtain ⟨m', ⟨o, es, ep, ho, r⟩, q⟩ := x
  obtain ⟨sl, e⟩ := y.2.2 L o ho
  exact ⟨m', ⟨_, es, ep, e, r⟩, q⟩
theorem Rel.slots (R : Rel knd Γ σ s) {h' : Heap} {S : List Addr} (y : Heap.SlotsOnly S s.heap h') (hS : ∀ b ∈ S, b = Γ.L ∨ ∃ p ∈ Γ.outs, p.1 = b) : Rel knd Γ σ { s with heap := h' } where
  keep := fun b o q => (y.2.1 b (fun hb => by
    rcases hS b hb with rfl | ⟨p, hp, rfl⟩
    · rw [R.bL] at q; cases q
    · rw [R.bO p hp] at q; cases q)).trans (R.keep b o q)
  rest := by rw [R.rest]
  cur := R.cur.slots y
  out := fun p hp => (R.out p hp).slots y
  obj := fun a o q => let ⟨ob, h1, h2⟩ := R.obj a o q; ⟨ob, (y.2.1 a (fun hb => by
    rcases hS a hb with rfl | ⟨p, hp, rfl⟩
    · rw [R.hL] at q; cases q
    · rw [R.hO p hp] at q; cases q)).trans h1, h2⟩
  bL := R.bL
  bO := R.bO
  bH := R.bH
  lO := R.lO
  hL := R.hL
  hO := R.hO

theorem Fits.fun (F : Fits Γ A) (R : Rel knd Γ σ s) {l : List Env} (hl : A.frames = some l) : s.heap.FunFrames Γ.base l ∧ ∀ b ∈ l.filterMap (·.frame), b = Γ.L ∨ ∃ p ∈ Γ.outs, p.1 = b := by
  obtain ⟨es, he, hf⟩ := F
  rw [hl] at he; cases he
  clear hl
  have key : ∀ L, (L = Γ.L ∨ ∃ p ∈ Γ.outs, p.1 = L) → Γ.base.get? L = none ∧ ∃ o, s.heap.get? L = some o ∧ ∀ vs, o.data ≠ .fields vs := by
    intro L hL
    have nb : ∀ L, Γ.B L = none → Γ.base.get? L = none := fun L e => by
      cases h : Γ.base.get? L with
      | none => rfl
      | some o => rw [Γ.sub _ _ h] at e; cases e
    have un : ∀ {L m}, NsAt s.heap L m → ∃ o, s.heap.get? L = some o ∧ ∀ vs, o.data ≠ .fields vs := fun ⟨m', ⟨o, es, ep, ho, hd, _⟩, _⟩ => ⟨o, ho, fun vs q => by rw [hd] at q; cases q⟩
    rcases hL with rfl | ⟨p, hp, rfl⟩
    · exact ⟨nb _ R.bL, un R.cur⟩
    · exact ⟨nb _ (R.bO p hp), un (R.out p hp)⟩
  induction l with
  | nil => exact ⟨trivial, fun b hb => by simp at hb⟩
  | cons e r ih =>
    obtain ⟨i1, i2⟩ := ih fun e' he' => hf e' (List.mem_cons_of_mem _ he')
    obtain ⟨k, L, hL, hw⟩ := hf e List.mem_cons_self
    obtain ⟨n1, o, n2, n3⟩ := key L hw
    refine ⟨⟨k, ⟨L, o, hL, n1, n2, n3⟩, i1⟩, fun b hb => ?_⟩
    rw [List.filterMap_cons, hL] at hb
    rcases List.mem_cons.mp hb with e | hb
    · subst e; exact hw
    · exact i2 b hb

noncomputable def OldExc (Γ : Fx) (σ : MS K) (h : Heap) (c : Value) (a : Addr) : Prop := ∃ T oe vs oT ts, (h.get? a = some oe ∧ oe.cls = c ∧ oe.data = .fields vs ∧ vs[1]? = some (.ref T) ∧ h.get? T = some oT ∧ oT.data = .fields ts ∧ 3 < ts.size ∧ T ≠ a) ∧
  (Γ.B a = none ∧ a ≠ Γ.L ∧ (∀ p ∈ Γ.outs, a ≠ p.1) ∧ σ.h a = none) ∧ (Γ.B T = none ∧ T ≠ Γ.L ∧ (∀ p ∈ Γ.outs, T ≠ p.1) ∧ σ.h T = none)

theorem note_new {T : String} {a : Addr} {outer : List Env} {E : Value → Shared → Prop} {P : Unit → Shared → Prop} (F : Fits Γ A) (hfr : A.frames = some (env :: outer)) (hL : env.frame = some Γ.L) (R : Rel knd Γ σ s) (x : NewExc Γ σ s.heap T a)
    (h : ∀ s', Rel knd Γ σ s' → OldExc Γ σ s'.heap (.type T) a → P () s') : wpAny (model prog w) A (noteFrame (.ref a) env) P E s := by
  obtain ⟨⟨vs, he, h1⟩, x1, x2, x3, x4⟩ := x
  obtain ⟨ff, fs⟩ := F.fun R hfr
  unfold noteFrame
  simp only [hL]
  refine wpAny_bind (wpAny_field he rfl h1 ?_)
  rw [if_neg (show ¬ ((Value.none != Value.none) = true) from by decide)]
  refine wpAny_bind (wpAny_frameOf_fun hfr ff hL fun h₁ hs₁ => ?_)
  refine wpAny_bind (wpAny_entryPlaceOf fun pl hpl => ?_)
  unfold EntryCells.newEntry newFields
  refine wpAny_bind (wpAny_newObj_type ?_ (hpl.sizeOk5 _ _ _ _ _))
  have R1 := R.slots hs₁ fs
  have he₁ : h₁.get? a = some _ := (hs₁.2.1 a fun hm => by
    rcases fs a hm with e | ⟨p, hp, e⟩
    · exact x2 e
    · exact x3 p hp e.symm).trans he
  have R2 := R1.ext (h' := h₁.push { cls := .type "traceback", dict := none, data := .fields ([Value.none, .ref Γ.L, .none, rawInt Γ.L, .none] ++ (if pl.isEmpty then List.replicate 6 Value.none else pl)).toArray }) (tk := s.toks) fun b o q => Heap.get?_push_of_some _ q
  have hTe : h₁.objs.size ≠ a := Nat.ne_of_gt (Heap.lt_size he₁)
  have he₂ := Heap.get?_push_of_some (h := h₁) { cls := .type "traceback", dict := none, data := .fields ([Value.none, .ref Γ.L, .none, rawInt Γ.L, .none] ++ (if pl.isEmpty then List.replicate 6 Value.none else pl)).toArray } he₁
  refine wpAny_setField he₂ rfl (Array.getElem?_eq_some_iff.mp h1).1 (h _ (R2.extBut (tk := s.toks) (I := a) x1 x2 x3 x4 fun b o hb q => (Heap.get?_update_other _ _ (Ne.symm hb)).trans q) ?_)
  refine ⟨h₁.objs.size, _, _, _, _, ⟨Heap.get?_update_self _ he₂ (Obj.isFreed_of_fields (Obj.data_mapFields rfl _)), Obj.cls_mapFields _ _, Obj.data_mapFields rfl _, ?_, (Heap.get?_update_other _ _ (Ne.symm hTe)).trans (Heap.get?_push_size h₁ rfl), rfl, ?_, hTe⟩, ⟨x1, x2, x3, x4⟩, ⟨R1.freshB, R1.freshL, R1.freshO, R1.fresh⟩⟩
  · simp [(Array.getElem?_eq_some_iff.mp h1).1]
  · simp

theorem flight_old {c : Value} {a : Addr} {E : Value → Shared → Prop} {P : Unit → Shared → Prop} (R : Rel knd Γ σ s) (x : OldExc Γ σ s.heap c a)
    (h : ∀ s', Rel knd Γ σ s' → OldExc Γ σ s'.heap c a → P () s') : wpAny (model prog w) A (setFlight (.ref a) none) P E s := by
  obtain ⟨T, oe, vs, oT, ts, ⟨he, hc, hd, h1, hT, hdT, h3, hTe⟩, xa, x1, x2, x3, x4⟩ := x
  unfold setFlight
  refine wpAny_bind (wpAny_field he hd h1 ?_)
  rw [if_pos (show (Value.ref T != Value.none) = true from by simp)]
  refine wpAny_setField hT hdT h3 (h _ (R.extBut (tk := s.toks) (I := T) x1 x2 x3 x4 fun b o hb q => (Heap.get?_update_other _ _ (Ne.symm hb)).trans q) ?_)
  exact ⟨T, oe, vs, _, _, ⟨(Heap.get?_update_other _ _ hTe).trans he, hc, hd, h1, Heap.get?_update_self _ hT (Obj.isFreed_of_fields (Obj.data_mapFields hdT _)), Obj.data_mapFields hdT _, by simpa using h3, hTe⟩, xa, x1, x2, x3, x4⟩

theorem callWith_nx {pos : Pos} {E : Value → Shared → Prop} {P : Value → Shared → Prop} (R : Rel knd Γ σ s) (hn : σ.h nx = some (.nxt it)) (h : wpAny (model prog w) A (call (.ref nx) []) P E s) : wpAny (model prog w) A (callWith pos (.ref nx) [] (backTo pos (starEach [] env)) []) P E s := by
  obtain ⟨on, en, rfl⟩ := R.obj _ _ hn
  unfold callWith
  refine wpAny_bind (wpAny_holding (evalArgs_nil3 (wpAny_bind (wpAny_standAt ?_))))
  refine wpAny_bind (m := keeperOf (.ref nx)) ?_
  unfold keeperOf
  refine wpAny_bind (wpAny_load en ?_)
  refine wpAny_pure ?_
  show wpAny _ _ (call (.ref nx) [] [] >>= _) _ _ _
  exact wpAny_bind (wpAny_mono h (fun r s₂ hr => wpAny_bind (wpAny_holding (wpAny_point (wpAny_pure hr)))) fun _ _ x => x)

theorem st_exc : isSubtype (.type "StopIteration") (.type "BaseException") = pure true := by rw [isSubtype_type]; kernel_rfl
theorem st_nt : isSubtype (.type ((Manifest.find? "StopIteration").elim "type" fun x => x.metatype)) (.type "tuple") = pure false := by rw [isSubtype_type]; kernel_rfl
theorem st_st : isSubtype (.type "StopIteration") (.type "StopIteration") = pure true := by rw [isSubtype_type]; kernel_rfl

theorem m_TryNext {x : Str} {func : Expr} {mg mb : Str → Option Value} (hg : Γ.base.Ns mainGlobals mg) (hm : mg "StopIteration" = none) (hb : Γ.base.Ns builtinsNs mb) (hv : mb "StopIteration" = some (.type "StopIteration")) {p0 p1 p2 p3 p4 p5 p6 : Pos} {b₀ : Stmt} {suite : List Stmt} {outer : List Env} (F : Fits Γ A) (hfr : A.frames = some (env :: outer)) (hL : env.frame = some Γ.L) (hh : A.handled = none)
    (h : mwp knd Γ A (eval func env) (fun f σ₁ => ∃ nx it l i xs, f = .ref nx ∧ σ₁.h nx = some (.nxt it) ∧ σ₁.h it = some (.liter l i) ∧ σ₁.h l = some (.list xs) ∧
      (∀ v v', xs[i]? = some v → v.is v' → mwp knd Γ A (storeName env x v') (fun _ σ₂ => QF .brk σ₂) (σ₁.set it (.liter l (i + 1)))) ∧
      (xs[i]? = none → ∀ e, mwp knd Γ (A.mark (some (.ref e))) (execs (b₀ :: suite) env) QF (σ₁.del it))) σ)
    (hs : swapsWith (.Call func [] [] p2) (some (.Name x p1)) p3.line env = pure false := by rfl)
    (he : eval (.Call func [] [] p2) env = (do callWith p2 (← eval func env) [] (backTo p2 (starEach [] env)) (backToKw p2 (keywordEach [] env))) := by rfl)
    (hk : env.scope.kind = .function := by rfl) (hl : env.kindOf "StopIteration" = some .globalImplicit := by rfl) (hge : env.globals = mainGlobals := by rfl) (hf : env.builtins = builtinsNs := by rfl) :
    mwp knd Γ A (exec (.Try [.Assign [.Name x p1] (.Call func [] [] p2) p3, .Break p4] [.ExceptHandler (some (.Name "StopIteration" p0)) none (b₀ :: suite) p5] [] [] p6) env) QF σ := fun s E R => by
  refine wpAny_Try_except ?_
  refine wpAny_execs_cons (wpAny_Assign_Name (Call_ (h.use R fun f s₁ σ₁ R₁ q => ?_) he) hs)
  obtain ⟨nx, it, l, i, xs, rfl, q1, q2, q3, q4, q5⟩ := q
  refine callWith_nx R₁ q1 (call_next R₁ q1 q2 q3 hh (fun v v' s₂ e1 e2 R₂ => ?_) fun a s₂ e1 R₂ X => ?_)
  · refine (q4 v v' e1 e2).use R₂ fun _ s₃ σ₃ R₃ q => ?_
    refine wpAny_execs_cons (wpAny_Break ?_)
    exact ⟨σ₃, R₃, q⟩
  · refine note_new F hfr hL R₂ X fun s₃ R₃ X₃ => flight_old R₃ X₃ fun s₄ R₄ X₄ => ?_
    have k2 := q5 e1 a
    refine wpAny_handleBy_builtin (X := "StopIteration") (T := "StopIteration") (b := true) st_exc st_nt st_st ?_
    have n : s₄.heap.Ns env.globals mg := hge ▸ hg.keeps fun b o e => R₄.keep b o (Γ.sub b o e)
    have n' : s₄.heap.Ns env.builtins mb := hf ▸ hb.keeps fun b o e => R₄.keep b o (Γ.sub b o e)
    have : loadName env "StopIteration" = loadGlobal env "StopIteration" := by unfold loadName; simp [hk, hl, ScopeKind.isAnnotationScope, Env.blockKind]
    refine wpAny_Name ?_ (by decide)
    rw [this]
    refine Calls.loadGlobal_builtin n hm n' hv ⟨rfl, ?_, ?_⟩
    · obtain ⟨_, oe, _, _, _, ⟨he, hc, _⟩, _⟩ := X₄
      exact ⟨oe, he, hc⟩
    · rw [if_pos rfl]
      exact flight_old R₄ X₄ fun s₅ R₅ X₅ => k2 s₅ _ R₅
end
end Mine
end
section
open PySem PySem.W PyProof.Rows PySem.SeqAt
set_option maxHeartbeats 400000
namespace Mine
noncomputable def names (l : List (Str × V)) : Str → Option V := fun x => (l.find? fun p => x = p.1).map (·.2)
noncomputable def Sub (f g : Str → Option V) : Prop := ∀ x v, f x = some v → g x = some v
theorem Sub.nil {g : Str → Option V} : Sub (names []) g := fun x v e => by cases e
theorem Sub.cons {g : Str → Option V} {a : Str} {v : V} {l : List (Str × V)} (h : g a = some v) (r : Sub (names l) g) : Sub (names ((a, v) :: l)) g := fun x u e => by
  unfold names at e
  rw [List.find?_cons] at e
  by_cases q : x = a
  · simp only [q, decide_true, Option.map_some, Option.some.injEq] at e; rw [q, ← e]; exact h
  · simp only [q, decide_false] at e; exact r x u e

structure Here (KK : Frag) (p : Program) (loose : List Str) (mg mb : Str → Option Value) (b : Heap) : Prop where
  X : KK.In b
  T : TopRead p loose mg mb b
  sys : ∃ o, b.get? sysModules = some o

section
variable {prog : Program} {w : World} {K : Type} [DecidableEq K] {knd : PySem.KeyKind prog w K} {Γ : Fx} {σ : MS K} {A : Around} {env : Env} {α : Type} {s : Shared} {Q : Value → MS K → Prop} {QB : Bool → MS K → Prop} {QU : Unit → MS K → Prop} {QF : Flow → MS K → Prop}
variable {KK : Frag} {p : Program} {loose : List Str} {mg mb : Str → Option Value} {t u : Tok}

theorem m_weak {c : Sem α} {Q : α → MS K → Prop} {m' : Str → Option V} {h' : Addr → Option (O K)} (hm : Sub m' σ.m) (hh : ∀ a o, h' a = some o → σ.h a = some o) (h : mwp knd Γ A c Q ⟨m', h'⟩) : mwp knd Γ A c Q σ :=
  fun s E R => h s E (R.less hh hm)

theorem m_gK {x : Str} {v : Value} (Z : Here KK p loose mg mb Γ.base) (h : Q v σ) (e : nsIn KK mainGlobals x = some (some v) := by k_is) (hk : env.scope.kind = .function := by rfl) (hl : env.kindOf x = some .globalImplicit := by rfl)
    (he : env.globals = mainGlobals := by rfl) : mwp knd Γ A (loadName env x) Q σ := m_global Z.T.g (mg_of Z.X Z.T.g e) h hk hl he
theorem m_gB {x : Str} {v : Value} (Z : Here KK p loose mg mb Γ.base) (h : Q v σ) (e : nsIn KK mainGlobals x = some none := by k_is) (hv : bootBuiltins x = some v := by rfl) (hn : x ≠ "__name__" := by decide) (hk : env.scope.kind = .function := by rfl) (hl : env.kindOf x = some .globalImplicit := by rfl)
    (he : env.globals = mainGlobals := by rfl) (hf : env.builtins = builtinsNs := by rfl) : mwp knd Γ A (loadName env x) Q σ :=
  m_builtin Z.T.g (mg_none_of Z.X Z.T.g e) Z.T.b ((Z.T.builtins x hn).trans hv) h hk hl he hf

end
end Mine
end
section
open PySem PySem.W PyProof.Rows PySem.SeqAt
set_option maxHeartbeats 400000
namespace Mine
section
variable {prog : Program} {w : World} {K : Type} [DecidableEq K] {knd : PySem.KeyKind prog w K} {Γ : Fx} {σ : MS K} {A : Around} {env : Env} {α : Type} {s : Shared} {Q : Value → MS K → Prop} {QB : Bool → MS K → Prop} {QU : Unit → MS K → Prop} {QF : Flow → MS K → Prop}
variable {KK : Frag} {p : Program} {loose : List Str} {mg mb : Str → Option Value} {t u : Tok}

theorem m_sti {x : Str} {i : Int} {Q : Unit → MS K → Prop} (h : Q () (σ.store x (.int i))) (hk : env.scope.kind = .function := by rfl) (hl : env.kindOf x = some .local := by rfl) (he : env.locals = Γ.L := by rfl) : mwp knd Γ A (storeName env x (.int i t)) Q σ := m_store (v := .int i) ⟨_, rfl⟩ h hk hl he
theorem m_sts {x : Str} {i : Str} {Q : Unit → MS K → Prop} (h : Q () (σ.store x (.str i))) (hk : env.scope.kind = .function := by rfl) (hl : env.kindOf x = some .local := by rfl) (he : env.locals = Γ.L := by rfl) : mwp knd Γ A (storeName env x (.str i t)) Q σ := m_store (v := .str i) ⟨_, rfl⟩ h hk hl he
theorem m_stb {x : Str} {i : Bool} {Q : Unit → MS K → Prop} (h : Q () (σ.store x (.bool i))) (hk : env.scope.kind = .function := by rfl) (hl : env.kindOf x = some .local := by rfl) (he : env.locals = Γ.L := by rfl) : mwp knd Γ A (storeName env x (.bool i)) Q σ := m_store (v := .bool i) rfl h hk hl he
theorem m_str' {x : Str} {i : Addr} {Q : Unit → MS K → Prop} (h : Q () (σ.store x (.ref i))) (hk : env.scope.kind = .function := by rfl) (hl : env.kindOf x = some .local := by rfl) (he : env.locals = Γ.L := by rfl) : mwp knd Γ A (storeName env x (.ref i)) Q σ := m_store (v := .ref i) rfl h hk hl he
theorem m_stn {x : Str} {Q : Unit → MS K → Prop} (h : Q () (σ.store x .none)) (hk : env.scope.kind = .function := by rfl) (hl : env.kindOf x = some .local := by rfl) (he : env.locals = Γ.L := by rfl) : mwp knd Γ A (storeName env x .none) Q σ := m_store (v := .none) rfl h hk hl he
theorem m_sty {x : Str} {b : Array UInt8} {Q : Unit → MS K → Prop} (h : Q () (σ.store x (.bytes b))) (hk : env.scope.kind = .function := by rfl) (hl : env.kindOf x = some .local := by rfl) (he : env.locals = Γ.L := by rfl) : mwp knd Γ A (storeName env x (.bytes b t)) Q σ := m_store (v := .bytes b) ⟨_, rfl⟩ h hk hl he
theorem m_stf {x : Str} {r : Value} {Q : Unit → MS K → Prop} (h : Q () (σ.store x (.fn r))) (hk : env.scope.kind = .function := by rfl) (hl : env.kindOf x = some .local := by rfl) (he : env.locals = Γ.L := by rfl) : mwp knd Γ A (storeName env x r) Q σ := m_store (v := .fn r) rfl h hk hl he
theorem m_ciI {x : Str} {c : Addr} {i : Int} (hm : σ.h c = some (.cell (some (.int i)))) (h : ∀ t, Q (.int i t) σ) (hk : env.scope.kind = .function := by rfl) (hl : env.kindOf x = some .cell := by rfl) (he : env.cells.lookup x = some c := by rfl) : mwp knd Γ A (loadName env x) Q σ := m_loadCell hm (fun v' ⟨t, e⟩ => e ▸ h t) hk hl he
theorem m_ciR {x : Str} {c : Addr} {i : Addr} (hm : σ.h c = some (.cell (some (.ref i)))) (h : Q (.ref i) σ) (hk : env.scope.kind = .function := by rfl) (hl : env.kindOf x = some .cell := by rfl) (he : env.cells.lookup x = some c := by rfl) : mwp knd Γ A (loadName env x) Q σ := m_loadCell hm (fun v' e => (show v' = _ from e) ▸ h) hk hl he
theorem m_bind0 {fd : FuncData} {args : Args} {binds : List (Str × Value)} {Q : List (Str × Value) → MS K → Prop} (e : bindArgs fd args = pure binds) (h : Q binds σ) : mwp knd Γ A (bindArgs fd args) Q σ := fun s E R => by
  rw [e]; exact wpAny_pure ⟨σ, R, h⟩

theorem m_methStr {name : Str} {id : String} {x : Str} {pl : Sem Bool} {QM : Value × List Value → MS K → Prop} (slot : Slot "str" name id) (hty : typeOf (.builtin id) = pure (.type "method_descriptor")) (h : QM (.builtin id, [.str x t]) σ) : mwp knd Γ A (getMethod (.str x t) name pl) QM σ := fun s E R =>
  getMethod_builtin (typeIs_str _ _ _) PySem.F.plainAttrs_str slot hty (fun a z => by cases z) ⟨σ, R, h⟩

theorem mcode_less {c : Code} {Q' : Value → MS K → Prop} (h : mcode knd Γ A c Q' σ) (q : ∀ v σ', Q' v σ' → ∃ σ'', (∀ a o, σ''.h a = some o → σ'.h a = some o) ∧ (∀ x v, σ''.m x = some v → σ'.m x = some v) ∧ Q v σ'') : mcode knd Γ A c Q σ := fun s E R => codeAny_mono (h s E R) fun r s' z => by
  rcases r with e | (_ | _ | _ | v)
  · exact z
  · exact z
  · exact z
  · exact z
  · obtain ⟨σ', R', q'⟩ := z
    obtain ⟨σ'', h1, h2, h3⟩ := q v σ' q'
    exact ⟨σ'', R'.less h1 h2, h3⟩
theorem m_post {c : Sem α} {Q Q' : α → MS K → Prop} (h : mwp knd Γ A c Q' σ) (q : ∀ v σ', Q' v σ' → ∃ σ'', (∀ a o, σ''.h a = some o → σ'.h a = some o) ∧ (∀ x v, σ''.m x = some v → σ'.m x = some v) ∧ Q v σ'') : mwp knd Γ A c Q σ := fun s E R =>
  h.use R fun v s' σ' R' q' => let ⟨σ'', h1, h2, h3⟩ := q v σ' q'; ⟨σ'', R'.less h1 h2, h3⟩
theorem binds_zip : ∀ {ns : List Str} {vs : List V} {vals : List Value}, Are vs vals → BindsAre (ns.zip vs) (ns.zip vals)
  | [], _, _, _ => by simp only [List.zip_nil_left]; exact .nil
  | _ :: _, [], _, h => by cases h; exact .nil
  | n :: ns, v :: vs, _, h => by cases h with | cons h1 h2 => exact .cons h1 (binds_zip h2)
theorem m_splE {e : Expr} {rest : List Expr} {pos : Pos} {Q : List Value → MS K → Prop} (h : mwp knd Γ A (eval e env) (fun v σ₁ => mwp knd Γ A (spliced (backTo pos (starEach rest env))) (fun vs σ₂ => Q (v :: vs) σ₂) σ₁) σ)
    (he : starEach (e :: rest) env = (false, eval e env) :: starEach rest env := by rfl) : mwp knd Γ A (spliced (backTo pos (starEach (e :: rest) env))) Q σ := by
  rw [he]; exact m_spl h
theorem m_splE0 {pos : Pos} {Q : List Value → MS K → Prop} (h : Q [] σ) : mwp knd Γ A (spliced (backTo pos (starEach [] env))) Q σ := m_spl0 h
theorem noPylong {x y : Int} (h : y.natAbs < 2 ^ 64) : Builtin.divisionGoesByPylong x y = false := by
  unfold Builtin.divisionGoesByPylong
  have : ¬ ((if y == 0 then 0 else y.natAbs.log2 / 30 + 1) > 300) := by
    split
    · omega
    · rename_i e
      have h0 : y.natAbs ≠ 0 := by simpa using e
      have : y.natAbs.log2 < 64 := (Nat.log2_lt h0).mpr h
      omega
  simp only [decide_eq_false this, Bool.false_and]
theorem ite_of {c : Prop} [Decidable c] {P R : Prop} (h1 : c → P) (h2 : ¬ c → R) : if c then P else R := by
  by_cases h : c
  · rw [if_pos h]; exact h1 h
  · rw [if_neg h]; exact h2 h
theorem m_callZ {f : Value} {first : List Value} {e : Expr} {rest : List Expr} {pos : Pos} (Z : Here KK p loose mg mb Γ.base) (h : mwp knd Γ A (spliced (backTo pos (starEach (e :: rest) env))) (fun vs σ₁ => mwp knd Γ A (call f (first ++ vs)) Q σ₁) σ)
    (hk : keepIn KK f = true := by k_is) (he : starEach (e :: rest) env = (false, eval e env) :: starEach rest env := by rfl) (hplain : (backTo pos (starEach rest env)).any (·.1) = false := by rfl) :
    mwp knd Γ A (callWith pos f first (backTo pos (starEach (e :: rest) env)) []) Q σ := m_callK Z.X h hk he hplain
theorem m_callZ0 {f : Value} {first : List Value} {pos : Pos} (Z : Here KK p loose mg mb Γ.base) (h : mwp knd Γ A (call f (first ++ [])) Q σ) (hk : keepIn KK f = true := by k_is) :
    mwp knd Γ A (callWith pos f first (backTo pos (starEach [] env)) []) Q σ := m_callK0 Z.X h hk
theorem c_fun {f : Addr} {args : List Value} {kws : List (Str × Value)} {name qual : Str} {params : Arguments} {body : List Stmt} {scope : Scope} {dV kV doc pm cdv ct oc : Value} {an od : Option Addr} {osl : Array (Option Value)} {n : Nat} (ns : List Str) (vs : List V) {vals : List Value}
    (Z : Here KK p loose mg mb Γ.base) (hA : Dp A n)
    (hv : Are vs vals)
    (h : ∀ L', mwp knd (Γ.enter L' σ.m) (A.deeper (envOf qual scope L' f cdv)) (execs body (envOf qual scope L' f cdv)) (funQ σ.m Q) ⟨fun x => (ns.zip vs).reverse.lookup x, σ.h⟩)
    (ho : KK.lookup f = some ⟨oc, od, .func (fnOf name qual params body scope dV kV doc pm an cdv ct), osl⟩ := by k_is)
    (hb : bindArgs (fnOf name qual params body scope dV kV doc pm an cdv ct) ⟨args, kws⟩ = pure (ns.zip vals) := by rfl) (hcd : codeIn KK cdv qual = true := by k_is)
    (hlk : ∀ x ∈ ns, scope.names.lookup x = some .local := by decide)
    (hco : scope.isCoroutine = false := by rfl) (hgen : scope.isGenerator = false := by rfl) (hk : scope.kind = .function := by rfl) (hcell : ∀ x ∈ scope.names, x.2 ≠ .cell := by decide) :
    mcode knd Γ A (.call (.ref f) ⟨args, kws⟩) Q σ :=
  mcode_less (c_def (Q := fun v σ' => ∃ h', (∀ a o, h' a = some o → σ'.h a = some o) ∧ σ'.m = σ.m ∧ Q v ⟨σ.m, h'⟩) hA Z.X Z.T.nolimit (m_bind0 hb ⟨fun x hx => hlk x.1 (List.of_mem_zip (a := x.1) (b := x.2) hx).1, _, binds_zip hv, fun L' => mwp_mono (h L') fun fl σ' ⟨h', q1, q2⟩ => ⟨h', q1, rfl, q2⟩⟩) ho hcd hco hgen hk hcell)
    fun v σ' ⟨h', q1, q2, q3⟩ => ⟨⟨σ.m, h'⟩, q1, fun x v e => by rw [q2]; exact e, q3⟩
theorem m_abs {c : Sem α} {Q : α → MS K → Prop} (h : ∀ Q' : α → MS K → Prop, (∀ a σ, Q a σ → Q' a σ) → mwp knd Γ A c Q' σ) : mwp knd Γ A c Q σ := h Q fun _ _ e => e
end

end Mine
end
section
open PySem PySem.W PyProof.Rows PySem.SeqAt PySem.Builtin PySem.Builtin.Str
set_option maxHeartbeats 400000
namespace Mine
noncomputable def T (l : List Nat) : Str := ⟨l.toArray⟩
theorem T_len (l : List Nat) : (T l).length = l.length := by show l.toArray.size = _; simp
theorem T_inj {a b : List Nat} (h : T a = T b) : a = b := by
  have : (T a).cps = (T b).cps := by rw [h]
  simpa [T] using this
theorem T_beq (a b : List Nat) : (T a == T b) = decide (a = b) := by
  by_cases h : a = b
  · subst h; simp
  · rw [decide_eq_false h]; exact beq_eq_false_iff_ne.mpr fun e => h (T_inj e)
theorem T_bne (a b : List Nat) : (T a != T b) = decide (a ≠ b) := by
  rw [bne, T_beq]; simp
theorem T_app (a b : List Nat) : T a ++ T b = T (a ++ b) := by
  show (Str.mk _ : Str) = Str.mk _
  simp [T]
theorem range_pick (l : List Nat) (lo n : Nat) (h : lo + n ≤ l.length) : ((List.range n).map fun (k : Nat) => ((lo : Int) + 1 * (k : Int)).toNat).filterMap (fun i => l.toArray[i]?) = (l.drop lo).take n := by
  induction n with
  | zero => simp
  | succ n ih =>
    rw [List.range_succ, List.map_append, List.filterMap_append, ih (by omega)]
    have e : ((lo : Int) + 1 * (n : Int)).toNat = lo + n := by omega
    simp only [List.map_cons, List.map_nil, List.filterMap_cons, e, List.filterMap_nil, List.getElem?_toArray]
    rw [List.getElem?_eq_getElem (by omega)]
    rw [List.take_add_one, List.getElem?_drop, List.getElem?_eq_getElem (by omega)]
    rfl
theorem slice_of {l : List Nat} {a b : Option Int} {lo n : Nat} (h : lo + n ≤ l.length) (e : strSliceIndices a b 1 l.length = (List.range n).map fun (k : Nat) => ((lo : Int) + 1 * (k : Int)).toNat) : Txt.slice (T l) a b = T ((l.drop lo).take n) := by
  unfold Txt.slice
  rw [T_len, e]
  split
  · rename_i q
    simp at q
    have : lo = 0 := by omega
    subst this; subst q; simp
  · show (Str.mk _ : Str) = Str.mk _
    congr 1
    rw [show (T l).cps = l.toArray from rfl, range_pick l lo n h]
theorem slice_drop {l : List Nat} {k : Nat} (h : k ≤ l.length) : Txt.slice (T l) (some (k : Int)) none = T (l.drop k) := by
  rw [slice_of (lo := k) (n := l.length - k) (by omega)]
  · rw [List.take_of_length_le (by simp)]
  · unfold strSliceIndices sliceRange
    simp only [show (1 : Int) > 0 by decide, if_true, show ¬ ((k : Int) < 0) by omega, if_false, Int.ediv_one]
    have e1 : max (0 : Int) (min (k : Int) (l.length : Int)) = k := by omega
    rw [e1]
    congr 2
    split <;> omega
theorem slice_none (l : List Nat) : Txt.slice (T l) none none = T l := by
  rw [slice_of (lo := 0) (n := l.length) (by omega)]
  · simp
  · unfold strSliceIndices sliceRange
    simp only [show (1 : Int) > 0 by decide, if_true, Int.ediv_one]
    congr 2
    split <;> omega
theorem slice_neg {l : List Nat} {k : Nat} (h0 : 0 < k) (h : k ≤ l.length) : Txt.slice (T l) none (some (-(k : Int))) = T (l.take (l.length - k)) := by
  rw [slice_of (lo := 0) (n := l.length - k) (by omega)]
  · simp
  · unfold strSliceIndices sliceRange
    simp only [show (1 : Int) > 0 by decide, if_true, show (-(k : Int) < 0) by omega, Int.ediv_one]
    have e1 : max (0 : Int) (min (-(k : Int) + l.length) (l.length : Int)) = ((l.length - k : Nat) : Int) := by omega
    rw [e1]
    congr 2
    split <;> omega
theorem at_pos {l : List Nat} {k c : Nat} (h : l[k]? = some c) : (seqIndex? (k : Int) (T l).length).bind ((T l).cps[·]?) = some c := by
  have hk := (List.getElem?_eq_some_iff.mp h).1
  rw [T_len]; unfold seqIndex?
  simp only [show ¬ ((k : Int) < 0) by omega, if_false]
  rw [if_pos (by simp; omega)]
  show l.toArray[((k : Int)).toNat]? = _
  simpa using h
theorem at_neg {l : List Nat} {k c : Nat} (hk : k < l.length) (h : l[l.length - k - 1]? = some c) : (seqIndex? (-(k : Int) - 1) (T l).length).bind ((T l).cps[·]?) = some c := by
  rw [T_len]; unfold seqIndex?
  simp only [show (-(k : Int) - 1 < 0) by omega, if_true]
  rw [if_pos (by simp; omega)]
  show l.toArray[((-(k : Int) - 1 + l.length)).toNat]? = _
  rw [show (-(k : Int) - 1 + l.length).toNat = l.length - k - 1 by omega]
  simpa using h

noncomputable def sCost (a b : Str) : Int := if a == b then 0 else if Txt.lower a == Txt.lower b then 1 else 2
noncomputable def sc (x y : Nat) : Int := sCost (T [x]) (T [y])
noncomputable def inner (x : Nat) : List Nat → List Int → Int → Int → Int → List Int × Int × Int
  | c :: a, r :: row, d, res, mn =>
    let res' := min (min res r + 2) (d + sc x c)
    let q := inner x a row r res' (if res' < mn then res' else mn)
    (res' :: q.1, q.2)
  | _, _, _, res, mn => ([], res, mn)
noncomputable def rows (a : List Nat) (mx : Int) : List Nat → Nat → List Int → Int → Int
  | [], _, _, res => res
  | x :: b, k, row, res =>
    let q := inner x a row (2 * k) (2 * k) 9223372036854775807
    if q.2.2 > mx then mx + 1 else rows a mx b (k + 1) q.1 q.2.1
noncomputable def stripP : List Nat → List Nat → List Nat × List Nat
  | x :: a, y :: b => if x = y then stripP a b else (x :: a, y :: b)
  | a, b => (a, b)
noncomputable def stripS (a b : List Nat) : List Nat × List Nat := let q := stripP a.reverse b.reverse; (q.1.reverse, q.2.reverse)
noncomputable def row0 (n : Nat) : List Int := (List.range n).map fun i : Nat => 2 + (i : Int) * 2
noncomputable def levC (a b : List Nat) (mx : Int) : Int :=
  if ((b.length : Int) - a.length) * 2 > mx then mx + 1 else rows a mx b 0 (row0 a.length) 0
noncomputable def levB (a b : List Nat) (mx : Int) : Int :=
  if a = [] ∨ b = [] then 2 * ((a.length : Int) + b.length) else
  if a.length > 40 ∨ b.length > 40 then mx + 1 else
  if b.length < a.length then levC b a mx else levC a b mx
noncomputable def lev (a b : List Nat) (mx : Int) : Int :=
  if a = b then 0 else
  let q := stripP a b
  let r := stripS q.1 q.2
  levB r.1 r.2 mx
end Mine
end
section
open PySem PySem.W PyProof.Rows PySem.SeqAt
set_option maxHeartbeats 400000
namespace Mine
section
variable {prog : Program} {w : World} {K : Type} [DecidableEq K] {knd : PySem.KeyKind prog w K} {Γ : Fx} {σ : MS K} {A : Around} {env : Env} {α : Type} {s : Shared} {Q : Value → MS K → Prop} {QB : Bool → MS K → Prop} {QU : Unit → MS K → Prop} {QF : Flow → MS K → Prop}
variable {KK : Frag} {p : Program} {loose : List Str} {mg mb : Str → Option Value} {t u : Tok} {l : Addr}

theorem m_unpack {c : Addr} {xs : List V} {Q : List Value → MS K → Prop} {n : Nat} (hh : A.handled = none) (hc : σ.h c = some (.tuple xs)) (hn : n = xs.length) (h : ∀ vs, Are xs vs → Q vs σ) : mwp knd Γ A (unpackItems (.ref c) n none) Q σ := fun s E R => by
  obtain ⟨vs, k, e, ar⟩ := R.tupleX hc
  have hs : n = vs.size := by rw [hn, ar.length]; simp
  subst hs
  refine unpackItems_tuple hh ⟨_, e, rfl, k, rfl⟩ fun h' he => ⟨σ, ?_, h _ ar⟩
  exact R.ext (tk := s.toks) fun b o q => he b o (Nat.ne_of_lt (Heap.lt_size q)) q

theorem m_swap2 {x y : Str} {value : Expr} {k : Nat} {p1 p2 p3 p5 : Pos} {v1 v2 : V} (hh : A.handled = none)
    (h : mwp knd Γ A (eval value env) (fun v σ₁ => ∃ c, v = .ref c ∧ σ₁.h c = some (.tuple [v1, v2]) ∧ QF .next ((σ₁.store y v2).store x v1)) σ)
    (hs : swapsWithSole [.Tuple [.Name x p1, .Name y p2] k p3] value p5.line env = pure false := by rfl)
    (hw : swappedStores [.Tuple [.Name x p1, .Name y p2] k p3] value env = pure (some [x, y]) := by rfl)
    (hk : env.scope.kind = .function := by rfl) (hlx : env.kindOf x = some .local := by rfl) (hly : env.kindOf y = some .local := by rfl) (he : env.locals = Γ.L := by rfl) :
    mwp knd Γ A (exec (.Assign [.Tuple [.Name x p1, .Name y p2] k p3] value p5) env) QF σ := fun s E R => by
  refine Assign_Tuple_swapped (names := [x, y]) (h.use R fun v s₁ σ₁ R₁ q => ?_) hs hw
  obtain ⟨c, rfl, hc, q⟩ := q
  refine (m_unpack (Q := fun vs σ₂ => Are [v1, v2] vs ∧ σ₂ = σ₁) hh hc rfl fun vs ar => ⟨ar, rfl⟩).use R₁ fun vs s₂ σ₂ R₂ q₂ => ?_
  obtain ⟨ar, rfl⟩ := q₂
  obtain ⟨a1, a2, rfl, i1, i2⟩ : ∃ a1 a2, vs = [a1, a2] ∧ v1.is a1 ∧ v2.is a2 := by
    cases ar with | cons i1 ar => cases ar with | cons i2 ar => cases ar; exact ⟨_, _, rfl, i1, i2⟩
  show wpAny _ _ (holding _ (bindName env y _) >>= fun _ => (holding _ (bindName env x _) >>= fun _ => pure ())) _ _ _
  refine wpAny_bind (wpAny_holding (bindName_ ((m_store (knd := knd) (Q := fun _ σ' => σ' = σ₂.store y v2) i2 rfl hk hly he).use R₂ fun _ s₃ σ₃ R₃ e => ?_)))
  subst e
  refine wpAny_bind (wpAny_holding (bindName_ ((m_store (knd := knd) (Q := fun _ σ' => σ' = (σ₂.store y v2).store x v1) i1 rfl hk hlx he).use R₃ fun _ s₄ σ₄ R₄ e => ?_)))
  subst e
  exact wpAny_pure ⟨_, R₄, q⟩

theorem slS {l l' : List Nat} {vl vu : Value} {lo hi : Option Int} (p1 : IsPart vl lo) (p2 : IsPart vu hi) (hsz : l.length ≤ 1000) (e : Txt.slice (T l) lo hi = T l') (h : ∀ t, Q (.str (T l') t) σ) : SliceAt knd Q (.str (T l) t) vl vu σ :=
  .inl ⟨_, _, lo, hi, rfl, p1, p2, by rw [T_len]; exact Nat.le_trans hsz (by decide), fun t' => e ▸ h t'⟩
theorem m_trT {l : List Nat} (hsz : l.length ≤ 1000) (h : QB (decide (l ≠ [])) σ) : mwp knd Γ A (truthy (.str (T l) t)) QB σ := by
  refine m_trStr (by rw [T_len]; omega) ?_
  have : (((T l).length : Int) != 0) = decide (l ≠ []) := by
    rw [T_len]; cases l with
    | nil => rfl
    | cons a r => simp; omega
  rw [this]; exact h
theorem m_lenT {l : List Nat} (hsz : l.length ≤ 1000) (h : ∀ t, Q (.int l.length t) σ) : mwp knd Γ A (call (.builtin "len") [.str (T l) t]) Q σ := m_lenStr (by rw [T_len]; omega) fun t' => by rw [T_len]; exact h t'
theorem m_atT {value slice : Expr} {l : List Nat} {k : Nat} {c : Nat} (hk : k ≤ 1000) (hc : l[k]? = some c) (h : ∀ t, Q (.str (T [c]) t) σ)
    (hs : subscripted slice false (.str (T l) t) (.int (k : Int) u) = operate [.str (T l) t, .int (k : Int) u] (getItem (.str (T l) t) (.int (k : Int) u)) := by with_unfolding_all rfl) : mwp knd Γ A (subscriptTail value slice (.str (T l) t) (.int (k : Int) u)) Q σ :=
  m_tailStr (by simp; omega) (at_pos hc) h hs
theorem m_atTneg {value slice : Expr} {l : List Nat} {k : Nat} {c : Nat} {z : Int} (hz : z = -(k : Int) - 1) (hk : k < l.length) (hl : l.length ≤ 1000) (hc : l[l.length - k - 1]? = some c) (h : ∀ t, Q (.str (T [c]) t) σ)
    (hs : subscripted slice false (.str (T l) t) (.int z u) = operate [.str (T l) t, .int z u] (getItem (.str (T l) t) (.int z u)) := by with_unfolding_all rfl) : mwp knd Γ A (subscriptTail value slice (.str (T l) t) (.int z u)) Q σ := by
  subst hz
  exact m_tailStr (by simp; omega) (at_neg hk hc) h hs
theorem slS_post {l : List Nat} {j : Nat} {k : Nat} {pos : Pos} (hj : j ≤ l.length) (hl : l.length ≤ 1000) (h : ∀ t, Q (.str (T (l.take (l.length - j))) t) σ) :
    if (-(j : Int) != 0) = true then SliceAt knd Q (.str (T l) t) .none (.int (-(j : Int)) u) σ else mwp knd Γ A (eval (.Constant .none k pos) env) (fun vu σ₃ => SliceAt knd Q (.str (T l) t) .none vu σ₃) σ := by
  refine ite_of (fun e => ?_) fun e => ?_
  · exact slS .none (.int _ _) hl (slice_neg (by simp at e; omega) hj) h
  · refine m_none (slS .none .none hl ?_ h)
    rw [slice_none]; simp at e; subst e; simp
theorem put_same {β : Type} {f : Addr → Option β} {a : Addr} {x : β} : put f a x a = some x := by simp [put]
theorem put_other {β : Type} {f : Addr → Option β} {a b : Addr} {x : β} (h : b ≠ a) : put f a x b = f b := by simp [put, h]
theorem put_sub {β : Type} {f : Addr → Option β} {a : Addr} {x : β} (h : f a = none) : ∀ b o, f b = some o → put f a x b = some o := fun b o e => by
  rw [put_other fun q => by rw [q, h] at e; cases e]; exact e
theorem put_put {β : Type} {f : Addr → Option β} {a : Addr} {x y : β} : put (put f a x) a y = put f a y := by funext b; unfold put; split <;> simp_all

theorem put_mono {β : Type} {f g : Addr → Option β} {a : Addr} {x : β} (h : ∀ b o, f b = some o → g b = some o) : ∀ b o, put f a x b = some o → put g a x b = some o := fun b o e => by
  unfold put at *; split at e
  · rename_i q; rw [if_pos q]; exact e
  · rename_i q; rw [if_neg q]; exact h b o e

theorem m_frame {c : Sem α} {Q : α → MS K → Prop} {D : Addr} {o : O K} (hD : σ.h D = none) (h : ∀ ob hb, mwp knd (Γ.freeze D ob hb) A c Q σ) : mwp knd Γ A c (fun v σ' => ∃ σ₀, σ' = σ₀.set D o ∧ σ₀.h D = none ∧ Q v σ₀) (σ.set D o) := fun s E R => by
  have hd : (σ.set D o).h D = some o := put_same
  obtain ⟨ob, g, io⟩ := R.obj _ _ hd
  have R₀ : Rel knd Γ σ s := R.less (put_sub hD) fun _ _ e => e
  have bD := R.bH _ _ hd
  have lD : D ≠ Γ.L := fun x => by have := R.hL; rw [← x, hd] at this; cases this
  have oD : ∀ p ∈ Γ.outs, D ≠ p.1 := fun p hp x => by have := R.hO p hp; rw [← x, hd] at this; cases this
  refine (h ob bD).use (R₀.freeze g bD lD oD hD) fun v s' σ' R' q => ?_
  have g' : s'.heap.get? D = some ob := R'.keep D ob (by simp [Fx.freeze, put])
  have n' : σ'.h D = none := by
    cases z : σ'.h D with
    | none => rfl
    | some o => have := R'.bH _ _ z; simp [Fx.freeze, put] at this
  refine ⟨σ'.set D o, ?_, σ', rfl, n', q⟩
  have := R'.thaw.new (a := D) (o := o) (ob := ob) (h' := s'.heap) (tk := s'.toks) bD lD oD (fun _ _ _ e => e) g' io
  exact this

inductive ForFQ (knd : PySem.KeyKind prog w K) (Γ : Fx) (A : Around) (env : Env) (x : Str) (body : List Stmt) (QF : Flow → MS K → Prop) (v : Value) (σ₁ : MS K) : Prop
  | mk (D : Addr) (o : O K) (σ₀ : MS K) (xs : List V) (It : Nat → Obj → Prop) (e : σ₁ = MS.set σ₀ D o) (hD : σ₀.h D = none) (Y : Yields knd A v xs (fun σ => σ.h D = some o) It) (J : Nat → MS K → Prop) (j0 : J 0 σ₀)
      (step : ∀ i y σ I ob hb ob2 hb2, xs[i]? = some y → J i σ → mwp knd ((Γ.freeze I ob hb).freeze D ob2 hb2) A (execs body env) (loopQ (J (i + 1)) QF) (σ.store x y)) (fin : ∀ σ, J xs.length σ → QF .next σ)
theorem m_ForF {x : Str} {px pos : Pos} {iter : Expr} {body : List Stmt} (h : mwp knd Γ A (eval iter env) (ForFQ knd Γ A env x body QF) σ)
    (hs : ∀ x, foldedSetIterable iter env x = pure x := by intro _; rfl) (hk : env.scope.kind = .function := by rfl) (hl : env.kindOf x = some .local := by rfl) (he : env.locals = Γ.L := by rfl) :
    mwp knd Γ A (exec (.For (.Name x px) iter body [] pos) env) QF σ := by
  refine m_post (Q' := fun f σ' => ∃ D o σ₀, σ' = MS.set σ₀ D o ∧ σ₀.h D = none ∧ QF f σ₀) ?_ ?_
  · refine m_For (mwp_mono h ?_) hs hk hl he
    rintro v _ ⟨D, o, σ₀, xs, It, rfl, hD, Y, J, j0, step, fin⟩
    refine ⟨xs, _, It, Y, fun i σ' => ∃ σ₀, σ' = MS.set σ₀ D o ∧ σ₀.h D = none ∧ J i σ₀, ⟨σ₀, rfl, hD, j0⟩, ?_, ?_, ?_⟩
    · rintro i _ ⟨σ₀, rfl, _, _⟩; exact put_same
    · rintro i y _ I ob hb hy ⟨σ₀, rfl, hD, j⟩
      refine mwp_mono (m_frame (σ := σ₀.store x y) (D := D) (o := o) hD fun ob2 hb2 => step i y σ₀ I ob hb ob2 hb2 hy j) ?_
      rintro f _ ⟨σ₂, rfl, h2, q⟩
      cases f with
      | next => exact ⟨σ₂, rfl, h2, q⟩
      | cont => exact ⟨σ₂, rfl, h2, q⟩
      | brk => exact ⟨D, o, σ₂, rfl, h2, q⟩
      | ret v => exact ⟨D, o, σ₂, rfl, h2, q⟩
    · rintro _ ⟨σ₀, rfl, h2, j⟩; exact ⟨D, o, σ₀, rfl, h2, fin σ₀ j⟩
  · rintro f _ ⟨D, o, σ₀, rfl, h2, q⟩
    exact ⟨σ₀, put_sub h2, fun _ _ e => e, q⟩
theorem range_small {n : Nat} (h : n < 2 ^ 31) : Builtin.Range.small 0 n 1 = true ∧ Builtin.Range.rangeSize 0 n 1 = n := by
  have e : Builtin.Range.rangeSize 0 n 1 = n := by unfold Builtin.Range.rangeSize; split <;> (try split) <;> omega
  refine ⟨?_, e⟩
  unfold Builtin.Range.small
  rw [e]
  simp [Builtin.Range.rangeFitsLong]
  omega
theorem range_item {n i : Nat} {y : V} (h : ((List.range n).map fun i : Nat => V.int (0 + (i : Nat) * 1))[i]? = some y) : i < n ∧ y = .int (i : Int) := by
  rw [List.getElem?_map] at h
  by_cases hi : i < n
  · rw [List.getElem?_range hi] at h; simp at h; exact ⟨hi, h.symm⟩
  · rw [List.getElem?_eq_none (by simp; omega)] at h; cases h
theorem m_atL {value slice : Expr} {l : Addr} {xs : List V} {v : V} {k : Nat} (hl : σ.h l = some (.list xs)) (hk : k ≤ 2 ^ 60) (hx : xs[k]? = some v) (h : ∀ v', v.is v' → Q v' σ)
    (hs : subscripted slice false (.ref l) (.int (k : Int) t) = operate [.ref l, .int (k : Int) t] (getItem (.ref l) (.int (k : Int) t)) := by with_unfolding_all rfl) : mwp knd Γ A (subscriptTail value slice (.ref l) (.int (k : Int) t)) Q σ :=
  m_tailList hl (m_getList hl (by omega) (by omega) (by simpa using hx) h) hs
theorem m_atLi {value slice : Expr} {l : Addr} {xs : List V} {z : Int} {k : Nat} (hl : σ.h l = some (.list xs)) (hk : k ≤ 2 ^ 60) (hx : xs[k]? = some (.int z)) (h : ∀ t, Q (.int z t) σ)
    (hs : subscripted slice false (.ref l) (.int (k : Int) t) = operate [.ref l, .int (k : Int) t] (getItem (.ref l) (.int (k : Int) t)) := by with_unfolding_all rfl) : mwp knd Γ A (subscriptTail value slice (.ref l) (.int (k : Int) t)) Q σ :=
  m_atL hl hk hx (fun v' ⟨t, e⟩ => e ▸ h t) hs
theorem m_atLr {value slice : Expr} {l z : Addr} {xs : List V} {k : Nat} (hl : σ.h l = some (.list xs)) (hk : k ≤ 2 ^ 60) (hx : xs[k]? = some (.ref z)) (h : Q (.ref z) σ)
    (hs : subscripted slice false (.ref l) (.int (k : Int) t) = operate [.ref l, .int (k : Int) t] (getItem (.ref l) (.int (k : Int) t)) := by with_unfolding_all rfl) : mwp knd Γ A (subscriptTail value slice (.ref l) (.int (k : Int) t)) Q σ :=
  m_atL hl hk hx (fun v' e => (show v' = _ from e) ▸ h) hs
theorem m_setL {l : Addr} {xs : List V} {x : V} {v : Value} {k : Nat} (hl : σ.h l = some (.list xs)) (hk : k ≤ 2 ^ 60) (hn : k < xs.length) (hv : x.is v) (h : QU () (σ.set l (.list (xs.set k x)))) : mwp knd Γ A (setItem (.ref l) (.int (k : Int) t) v) QU σ :=
  m_setList hl (by omega) (by omega) (by omega) hv (by simpa using h)
theorem m_then {c : Sem Flow} {P : MS K → Prop} (h : mwp knd Γ A c (fun fl σ' => fl = .next ∧ P σ') σ) (k : ∀ σ', P σ' → QF .next σ') : mwp knd Γ A c QF σ := fun s E R =>
  h.use R fun fl s' σ' R' ⟨e, q⟩ => ⟨σ', R', e ▸ k σ' q⟩
noncomputable def Fit (σ : MS K) (m : Str → Option V) (h : Addr → Option (O K)) : Prop := Sub m σ.m ∧ ∀ a o, h a = some o → σ.h a = some o
theorem m_fit {c : Sem α} {Q : α → MS K → Prop} {m' : Str → Option V} {h' : Addr → Option (O K)} (f : Fit σ m' h') (h : mwp knd Γ A c Q ⟨m', h'⟩) : mwp knd Γ A c Q σ := m_weak f.1 f.2 h
theorem m_fitS {c : Sem α} {Q : α → MS K → Prop} {m' : Str → Option V} {h' : Addr → Option (O K)} {x : Str} {y : V} (f : Fit σ m' h') (h : mwp knd Γ A c Q ⟨putS m' x y, h'⟩) : mwp knd Γ A c Q (σ.store x y) :=
  m_weak (σ := σ.store x y) (fun z v e => by
    have e : putS m' x y z = some v := e
    show putS σ.m x y z = some v
    unfold putS at *; split at e
    · rename_i q; rw [if_pos q]; exact e
    · rename_i q; rw [if_neg q]; exact f.1 z v e) f.2 h
end
end Mine
end
section
open PySem PySem.W PyProof.Rows PySem.SeqAt
set_option maxHeartbeats 400000
namespace Mine
section
variable {prog : Program} {w : World} {K : Type} [DecidableEq K] {knd : PySem.KeyKind prog w K} {Γ : Fx} {σ : MS K} {A : Around} {env : Env} {α : Type} {s : Shared} {Q : Value → MS K → Prop} {QB : Bool → MS K → Prop} {QU : Unit → MS K → Prop} {QF : Flow → MS K → Prop}
variable {KK : Frag} {p : Program} {loose : List Str} {mg mb : Str → Option Value} {t u : Tok} {l : Addr}

theorem m_atB {value slice : Expr} {bs : List UInt8} {k : Int} (hf : bs.length ≤ 1099511627776) (h0 : 0 ≤ k) (h1 : k < bs.length) (h : ∀ t, Q (.int (bs.getD k.toNat 0).toNat t) σ)
    (hs : subscripted slice false (.bytes bs.toArray t) (.int k u) = operate [.bytes bs.toArray t, .int k u] (getItem (.bytes bs.toArray t) (.int k u)) := by with_unfolding_all rfl) : mwp knd Γ A (subscriptTail value slice (.bytes bs.toArray t) (.int k u)) Q σ :=
  m_tail (fun s R => typeIs_bytes _ _ _) FB.slot_bytes_getitem.lookup (fun s E R => getItem_bytes hf h0 h1 ⟨σ, R.toks, h _⟩) hs

theorem m_evalAll0 {Q : List Value → MS K → Prop} (h : Q [] σ) : mwp knd Γ A (evalAll []) Q σ := fun s E R => wpAny_pure ⟨σ, R, h⟩
theorem m_evalAll {x : Sem Value} {rest : List (Sem Value)} {Q : List Value → MS K → Prop} (h : mwp knd Γ A x (fun v σ₁ => mwp knd Γ A (evalAll rest) (fun vs σ₂ => Q (v :: vs) σ₂) σ₁) σ) : mwp knd Γ A (evalAll (x :: rest)) Q σ := fun s E R => by
  unfold evalAll
  exact wpAny_bind (h.use R fun v s₁ σ₁ R₁ q => wpAny_bind (wpAny_holding (q.use R₁ fun vs s₂ σ₂ R₂ q => wpAny_pure ⟨σ₂, R₂, q⟩)))
theorem m_kwOne {e : Expr} {pos : Pos} (h : mwp knd Γ A (eval e env) Q σ) : mwp knd Γ A (do let v ← eval e env; standAt pos; pure v) Q σ := fun s E R =>
  wpAny_bind (h.use R fun v s₁ σ₁ R₁ q => wpAny_bind (wpAny_standAt (wpAny_pure ⟨σ₁, R₁, q⟩)))
theorem m_callZkw1 {f : Value} {first : List Value} {e v : Expr} {rest : List Expr} {pos kp : Pos} {k : Str} (Z : Here KK p loose mg mb Γ.base)
    (h : mwp knd Γ A (spliced (backTo pos (starEach (e :: rest) env))) (fun vs σ₁ => mwp knd Γ A (eval v env) (fun x σ₂ => mwp knd Γ A (call f (first ++ vs) [(k, x)]) Q σ₂) σ₁) σ)
    (hk : keepIn KK f = true := by k_is) (he : starEach (e :: rest) env = (false, eval e env) :: starEach rest env := by rfl) (hplain : ((backTo pos (starEach (e :: rest) env)).any (·.1) || (backToKw pos (keywordEach [⟨some k, v, kp⟩] env)).any (·.1.isNone)) = false := by rfl)
    (hkw : keywordEach [⟨some k, v, kp⟩] env = [(some k, eval v env)] := by rfl) :
    mwp knd Γ A (callWith pos f first (backTo pos (starEach (e :: rest) env)) (backToKw pos (keywordEach [⟨some k, v, kp⟩] env))) Q σ := fun s E R => by
  refine callWith_KW Z.X hk (by rw [hkw]; rfl) (h.use R fun vs s₁ σ₁ R₁ q => ?_) hplain he
  rw [hkw]
  show wpAny _ _ (evalAll [do let v ← eval v env; standAt pos; pure v]) _ _ _
  refine (m_evalAll (Q := fun ks σ₂ => ∃ x, ks = [x] ∧ mwp knd Γ A (call f (first ++ vs) [(k, x)]) Q σ₂) (m_kwOne (mwp_mono q fun x σ₂ q => m_evalAll0 ⟨x, rfl, q⟩))).use R₁ fun ks s₂ σ₂ R₂ q => ?_
  obtain ⟨x, rfl, q⟩ := q
  exact ⟨R₂.kin Z.X, q s₂ E R₂⟩

theorem m_bindD {fd : FuncData} {args : Args} {binds : List (Str × Value)} {d : Addr} {oc : Value} {od : Option Addr} {osl : Array (Option Value)} {items : Array Value} {n : Nat} {kont : Option (Array Value) → Sem (List (Str × Value))} {Q : List (Str × Value) → MS K → Prop} (X : KK.In Γ.base)
    (ho : KK.lookup d = some ⟨oc, od, .seq items n, osl⟩) (h₁ : bindArgs fd args = seqItems? (.ref d) >>= kont) (h₂ : kont (some items) = pure binds) (h : Q binds σ) : mwp knd Γ A (bindArgs fd args) Q σ := fun s E R => by
  rw [h₁]
  refine wpAny_bind (wpAny_seqItems (R.keep _ _ (Γ.sub _ _ (X _ _ ho))) rfl ?_)
  rw [h₂]; exact wpAny_pure ⟨σ, R, h⟩
theorem c_funD {f : Addr} {args : List Value} {kws : List (Str × Value)} {name qual : Str} {params : Arguments} {body : List Stmt} {scope : Scope} {kV doc pm cdv ct oc oc' : Value} {an od od' : Option Addr} {osl osl' : Array (Option Value)} {n : Nat} (ns : List Str) (vs : List V) {vals : List Value}
    {d : Addr} {items : Array Value} {n' : Nat} {kont : Option (Array Value) → Sem (List (Str × Value))}
    (Z : Here KK p loose mg mb Γ.base) (hA : Dp A n)
    (hv : Are vs vals)
    (h : ∀ L', mwp knd (Γ.enter L' σ.m) (A.deeper (envOf qual scope L' f cdv)) (execs body (envOf qual scope L' f cdv)) (funQ σ.m Q) ⟨fun x => (ns.zip vs).reverse.lookup x, σ.h⟩)
    (ho : KK.lookup f = some ⟨oc, od, .func (fnOf name qual params body scope (.ref d) kV doc pm an cdv ct), osl⟩ := by k_is)
    (hd : KK.lookup d = some ⟨oc', od', .seq items n', osl'⟩ := by k_is)
    (hb : bindArgs (fnOf name qual params body scope (.ref d) kV doc pm an cdv ct) ⟨args, kws⟩ = seqItems? (.ref d) >>= kont := by rfl) (hb2 : kont (some items) = pure (ns.zip vals) := by rfl) (hcd : codeIn KK cdv qual = true := by k_is)
    (hlk : ∀ x ∈ ns, scope.names.lookup x = some .local := by decide)
    (hco : scope.isCoroutine = false := by rfl) (hgen : scope.isGenerator = false := by rfl) (hk : scope.kind = .function := by rfl) (hcell : ∀ x ∈ scope.names, x.2 ≠ .cell := by decide) :
    mcode knd Γ A (.call (.ref f) ⟨args, kws⟩) Q σ :=
  mcode_less (c_def (Q := fun v σ' => ∃ h', (∀ a o, h' a = some o → σ'.h a = some o) ∧ σ'.m = σ.m ∧ Q v ⟨σ.m, h'⟩) hA Z.X Z.T.nolimit (m_bindD Z.X hd hb hb2 ⟨fun x hx => hlk x.1 (List.of_mem_zip (a := x.1) (b := x.2) hx).1, _, binds_zip hv, fun L' => mwp_mono (h L') fun fl σ' ⟨h', q1, q2⟩ => ⟨h', q1, rfl, q2⟩⟩) ho hcd hco hgen hk hcell)
    fun v σ' ⟨h', q1, q2, q3⟩ => ⟨⟨σ.m, h'⟩, q1, fun x v e => by rw [q2]; exact e, q3⟩
end
end Mine
end
section
open PySem PySem.W PyProof.Rows PySem.SeqAt
set_option maxHeartbeats 400000
namespace Mine
section
variable {prog : Program} {w : World} {K : Type} [DecidableEq K] {knd : PySem.KeyKind prog w K} {Γ : Fx} {σ : MS K} {A : Around} {env : Env} {α : Type} {s : Shared} {Q : Value → MS K → Prop} {QB : Bool → MS K → Prop} {QU : Unit → MS K → Prop} {QF : Flow → MS K → Prop}
variable {KK : Frag} {p : Program} {loose : List Str} {mg mb : Str → Option Value} {t u : Tok} {l : Addr}

inductive CompAt (knd : PySem.KeyKind prog w K) (Γ : Fx) (A : Around) (env : Env) (elt : Expr) (x : Str) (ifs : List Expr) (scope : Scope) (cl : List (Str × Addr)) (v : Value) (σ₁ : MS K) (R : List V → Prop) : Prop
  | mk (xs : List V) (ok : MS K → Prop) (It : Nat → Obj → Prop) (Y : Yields knd A v xs ok It) (hsz : xs.length ≤ sizeLine) (hok : ∀ σ : MS K, (∀ a o, σ₁.h a = some o → σ.h a = some o) → ok σ) (P : V → Bool) (f : V → V)
    (step : ∀ y ∈ xs, ∀ C I ob hb D od hd, mTests knd (((Γ.enter C σ₁.m).freeze I ob hb).freeze D od hd) A (cenvOf scope env C cl) ifs (fun b σ₂ => b = P y ∧
      if b then mwp knd (((Γ.enter C σ₁.m).freeze I ob hb).freeze D od hd) A (eval elt (cenvOf scope env C cl)) (fun e σ₃ => (∀ a o, σ₁.h a = some o → σ₃.h a = some o) ∧ (f y).is e) σ₂ else (∀ a o, σ₁.h a = some o → σ₂.h a = some o)) ⟨fun z => if z = x then some y else none, σ₁.h⟩)
    (fin : R ((xs.filter P).map f))

theorem mTests_mono {cenv : Env} {ifs : List Expr} {Q Q' : Bool → MS K → Prop} (h : mTests knd Γ A cenv ifs Q σ) (q : ∀ b σ', Q b σ' → Q' b σ') : mTests knd Γ A cenv ifs Q' σ := by
  match ifs, h with
  | [], h => exact q _ _ h
  | [c], h => exact mwp_mono h q
theorem mTests_weak {cenv : Env} {ifs : List Expr} {Q : Bool → MS K → Prop} {m : Str → Option V} {hp h0 : Addr → Option (O K)} (hs : ∀ a o, h0 a = some o → hp a = some o) (hq : ∀ b h', ifs = [] → (∀ a o, h0 a = some o → h' a = some o) → Q b ⟨m, h0⟩ → Q b ⟨m, h'⟩) (h : mTests knd Γ A cenv ifs Q ⟨m, h0⟩) : mTests knd Γ A cenv ifs Q ⟨m, hp⟩ := by
  match ifs, h with
  | [], h => exact hq true hp rfl hs h
  | [c], h => exact m_weak (σ := ⟨m, hp⟩) (fun _ _ e => e) hs h

theorem comp_J {elt : Expr} {x : Str} {ifs : List Expr} {scope : Scope} {cl : List (Str × Addr)} {v : Value} {σ₁ : MS K} {R : List V → Prop} (h : CompAt knd Γ A env elt x ifs scope cl v σ₁ R) :
    CompQ knd Γ A env elt x ifs scope cl (fun σ₁ ys hp _ => (∀ a o, σ₁.h a = some o → hp a = some o) ∧ R ys) v σ₁ := by
  obtain ⟨xs, ok, It, Y, hsz, hok, P, f, step, fin⟩ := h
  refine ⟨xs, ok, It, Y, hsz, fun i ys hp => (∀ a o, σ₁.h a = some o → hp a = some o) ∧ ys = ((xs.take i).filter P).map f, ⟨fun _ _ e => e, by simp⟩, fun i ys hp m hj => hok _ hj.1, ?_, ?_, ?_⟩
  · rintro i ys hp ⟨_, rfl⟩
    rw [List.length_map]
    exact Nat.le_trans (List.length_filter_le _ _) (by rw [List.length_take]; omega)
  · rintro i y ys hp C I ob hb D od hd hy ⟨hs, rfl⟩
    have hmem := List.mem_of_getElem? hy
    have ht : xs.take (i + 1) = xs.take i ++ [y] := by rw [List.take_add_one, hy]; rfl
    refine mTests_weak hs (fun b h' e1 hs' q => ?_) (mTests_mono (step y hmem C I ob hb D od hd) ?_)
    · subst e1
      cases b with
      | true =>
        simp only [if_true] at q ⊢
        exact m_weak (σ := ⟨_, h'⟩) (fun _ _ e => e) hs' q
      | false => simp only [Bool.false_eq_true, if_false] at q ⊢; exact ⟨fun a o e => hs' a o (q.1 a o e), q.2⟩
    · rintro b σ₂ ⟨rfl, q⟩
      cases hb : P y with
      | true =>
        rw [hb] at q
        simp only [if_true] at q ⊢
        exact mwp_mono q fun e σ₃ ⟨q1, q2⟩ => ⟨_, q2, q1, by rw [ht, List.filter_append]; simp [hb]⟩
      | false =>
        rw [hb] at q
        simp only [Bool.false_eq_true, if_false] at q ⊢
        exact ⟨q, by rw [ht, List.filter_append]; simp [hb]⟩
  · rintro ys hp D ⟨hs, rfl⟩ _
    exact ⟨hs, by rw [List.take_length]; exact fin⟩
theorem m_Comp {elt iter : Expr} {x : Str} {px : Pos} {ifs : List Expr} {scope : Scope} {pos : Pos} {cl : List (Str × Addr)}
    (h : mwp knd Γ A (eval iter env) (fun v σ₁ => CompAt knd Γ A env elt x ifs scope cl v σ₁ fun ys => ∀ D, σ₁.h D = none → Q (.ref D) (σ₁.set D (.list ys))) σ)
    (hclos : closureFor scope env = pure cl := by rfl) (hcell : ∀ y ∈ scope.names, y.2 ≠ .cell := by decide) (hkind : scope.kind = .function := by rfl) (hnames : ∀ y ∈ scope.names, y.2 = .local → scope.names.lookup y.1 = some .local := by decide)
    (hx : (relabel scope env).names.lookup x = some .local := by rfl) (hs : ∀ x, foldedSetIterable iter env x = pure x := by intro _; rfl) :
    mwp knd Γ A (eval (.ListComp elt [⟨.Name x px, iter, ifs, 0⟩] scope pos) env) Q σ := by
  refine m_post (Q' := fun v σ' => ∃ (σ₁ : MS K) (D : Addr) (ys : List V) (hp : Addr → Option (O K)), v = .ref D ∧ σ' = ⟨σ₁.m, put hp D (.list ys)⟩ ∧ hp D = none ∧ (∀ a o, σ₁.h a = some o → hp a = some o) ∧ ∀ D, σ₁.h D = none → Q (.ref D) (σ₁.set D (.list ys))) (m_ListComp (mwp_mono h fun v σ₁ q => ?_) hclos hcell hkind hnames hx hs) ?_
  · obtain ⟨xs, ok, It, Y, h1, J, j0, h2, h3, h4, h5⟩ := comp_J q
    exact ⟨xs, ok, It, Y, h1, J, j0, h2, h3, h4, fun ys hp D hj hD => ⟨σ₁, D, ys, hp, rfl, rfl, hD, (h5 ys hp D hj hD).1, (h5 ys hp D hj hD).2⟩⟩
  · rintro v _ ⟨σ₁, D, ys, hp, rfl, rfl, hD, hs', q⟩
    have hD1 : σ₁.h D = none := by
      cases z : σ₁.h D with
      | none => rfl
      | some o => rw [hs' _ _ z] at hD; cases hD
    exact ⟨σ₁.set D (.list ys), put_mono hs', fun _ _ e => e, q D hD1⟩
theorem m_AComp {elt iter : Expr} {x y : Str} {px py spos : Pos} {ifs : List Expr} {scope : Scope} {pos : Pos} {cl : List (Str × Addr)}
    (h : mwp knd Γ A (eval iter env) (fun v σ₁ => CompAt knd Γ A env elt x ifs scope cl v σ₁ fun ys => ∀ D, σ₁.h D = none → QF .next ((σ₁.set D (.list ys)).store y (.ref D))) σ)
    (hsw : swapsWith (.ListComp elt [⟨.Name x px, iter, ifs, 0⟩] scope pos) (some (.Name y py)) spos.line env = pure true := by rfl)
    (hclos : closureFor scope env = pure cl := by rfl) (hcell : ∀ y ∈ scope.names, y.2 ≠ .cell := by decide) (hkind : scope.kind = .function := by rfl) (hnames : ∀ y ∈ scope.names, y.2 = .local → scope.names.lookup y.1 = some .local := by decide)
    (hx : (relabel scope env).names.lookup x = some .local := by rfl) (hs : ∀ x, foldedSetIterable iter env x = pure x := by intro _; rfl)
    (hk : env.scope.kind = .function := by rfl) (hy : env.kindOf y = some .local := by rfl) (he : env.locals = Γ.L := by rfl) :
    mwp knd Γ A (exec (.Assign [.Name y py] (.ListComp elt [⟨.Name x px, iter, ifs, 0⟩] scope pos) spos) env) QF σ := by
  refine m_post (Q' := fun fl σ' => ∃ (σ₁ : MS K) (D : Addr) (ys : List V) (hp : Addr → Option (O K)), fl = .next ∧ σ' = MS.store ⟨σ₁.m, put hp D (.list ys)⟩ y (.ref D) ∧ hp D = none ∧ (∀ a o, σ₁.h a = some o → hp a = some o) ∧ ∀ D, σ₁.h D = none → QF .next ((σ₁.set D (.list ys)).store y (.ref D))) (m_AssignComp (mwp_mono h fun v σ₁ q => ?_) hsw hclos hcell hkind hnames hx hs hk hy he) ?_
  · obtain ⟨xs, ok, It, Y, h1, J, j0, h2, h3, h4, h5⟩ := comp_J q
    exact ⟨xs, ok, It, Y, h1, J, j0, h2, h3, h4, fun ys hp D hj hD => ⟨σ₁, D, ys, hp, rfl, rfl, hD, (h5 ys hp D hj hD).1, (h5 ys hp D hj hD).2⟩⟩
  · rintro v _ ⟨σ₁, D, ys, hp, rfl, rfl, hD, hs', q⟩
    have hD1 : σ₁.h D = none := by
      cases z : σ₁.h D with
      | none => rfl
      | some o => rw [hs' _ _ z] at hD; cases hD
    exact ⟨(σ₁.set D (.list ys)).store y (.ref D), put_mono hs', fun _ _ e => e, q D hD1⟩
end
end Mine
end
section
open PySem PySem.W PyProof.Rows PySem.SeqAt
set_option maxHeartbeats 400000
namespace Mine
theorem cells_names : ∀ (names : List (Str × NameKind)) (n : Nat) (acc : List (Str × Addr)), (cellsFrom n names acc).map (·.1) = ((names.filter fun p => p.2 == .cell).map (·.1)).reverse ++ acc.map (·.1)
  | [], _, _ => rfl
  | (a, k) :: r, n, acc => by
    unfold cellsFrom
    cases hk : (k == NameKind.cell) with
    | true =>
      rw [if_pos (by rfl), cells_names r, List.filter_cons, if_pos (by exact hk)]
      simp
    | false =>
      rw [if_neg (by decide), cells_names r, List.filter_cons, if_neg (by simp [hk])]
theorem lookup_nodup {β : Type} : ∀ {l : List (Str × β)}, (l.map (·.1)).Nodup → ∀ p ∈ l, l.lookup p.1 = some p.2
  | [], _, p, hp => by cases hp
  | (a, b) :: r, h, p, hp => by
    rw [List.map_cons, List.nodup_cons] at h
    rcases List.mem_cons.mp hp with rfl | hp
    · simp [List.lookup]
    · have hne : p.1 ≠ a := fun e => h.1 (List.mem_map.mpr ⟨p, hp, e⟩)
      rw [List.lookup_cons, show (p.1 == a) = false from beq_eq_false_iff_ne.mpr hne]
      exact lookup_nodup h.2 p hp
noncomputable def bindLV (kindOf : Str → Option NameKind) : List (Str × V) → (Str → Option V) → Str → Option V
  | [], m => m
  | (n, v) :: r, m => bindLV kindOf r (if kindOf n = some .local then fun y => if y = n then some v else m y else m)
noncomputable def bindCV (kindOf : Str → Option NameKind) : List (Str × V) → (Str → Option V) → Str → Option V
  | [], m => m
  | (n, v) :: r, m => bindCV kindOf r (if kindOf n = some .local then m else fun y => if y = n then some v else m y)
theorem bindL_is (kd : Str → Option NameKind) : ∀ {bs : List (Str × V)} {binds : List (Str × Value)} {m : Str → Option V} {m' : Str → Option Value}, BindsAre bs binds → (∀ x v, m x = some v → ∃ v', m' x = some v' ∧ v.is v') →
    ∀ x v, bindLV kd bs m x = some v → ∃ v', bindL kd binds m' x = some v' ∧ v.is v'
  | [], _, m, m', h, q => by cases h; exact q
  | (n, v) :: r, _, m, m', h, q => by
    cases h with
    | cons h1 h2 =>
      intro x0 u0; unfold bindLV bindL; revert x0 u0
      refine bindL_is kd h2 ?_
      by_cases c : kd n = some .local
      · rw [if_pos c, if_pos c]
        intro x u e
        by_cases d : x = n
        · rw [if_pos d] at e; cases e; exact ⟨_, if_pos d, h1⟩
        · rw [if_neg d] at e; obtain ⟨v', e1, e2⟩ := q x u e; exact ⟨v', by rw [if_neg d]; exact e1, e2⟩
      · rw [if_neg c, if_neg c]; exact q
theorem bindC_is (kd : Str → Option NameKind) : ∀ {bs : List (Str × V)} {binds : List (Str × Value)} {m : Str → Option V} {m' : Str → Option Value}, BindsAre bs binds → (∀ x, OptIs (m x) (m' x)) → ∀ x, OptIs (bindCV kd bs m x) (bindC kd binds m' x)
  | [], _, m, m', h, q => by cases h; exact q
  | (n, v) :: r, _, m, m', h, q => by
    cases h with
    | cons h1 h2 =>
      intro x0; unfold bindCV bindC; revert x0
      refine bindC_is kd h2 ?_
      by_cases c : kd n = some .local
      · rw [if_pos c, if_pos c]; exact q
      · rw [if_neg c, if_neg c]
        intro x
        show OptIs (if x = n then some v else m x) (if x = n then some _ else m' x)
        by_cases d : x = n
        · rw [if_pos d, if_pos d]; exact h1
        · rw [if_neg d, if_neg d]; exact q x
noncomputable def putC {K : Type} (cm : Str → Option V) : List (Str × Addr) → (Addr → Option (O K)) → Addr → Option (O K)
  | [], h => h
  | (n, c) :: r, h => put (putC cm r h) c (.cell (cm n))
section
variable {prog : Program} {w : World} {K : Type} [DecidableEq K] {knd : PySem.KeyKind prog w K} {Γ : Fx} {σ : MS K} {A : Around} {env : Env} {α : Type} {s : Shared} {Q : Value → MS K → Prop} {QB : Bool → MS K → Prop} {QU : Unit → MS K → Prop} {QF : Flow → MS K → Prop}
variable {KK : Frag} {p : Program} {loose : List Str} {mg mb : Str → Option Value} {t u : Tok} {l : Addr}
theorem Rel.addCells {cm : Str → Option V} : ∀ {cs : List (Str × Addr)}, Rel knd Γ σ s → (∀ p ∈ cs, (∃ o v', s.heap.get? p.2 = some o ∧ o.data = .cell v' ∧ OptIs (cm p.1) v') ∧ Γ.B p.2 = none ∧ p.2 ≠ Γ.L ∧ ∀ q ∈ Γ.outs, p.2 ≠ q.1) → Rel knd Γ ⟨σ.m, putC cm cs σ.h⟩ s
  | [], R, _ => R
  | (n, c) :: r, R, h => by
    have R1 := Rel.addCells R fun p hp => h p (List.mem_cons_of_mem _ hp)
    obtain ⟨⟨o, v', g, d, iv⟩, b1, b2, b3⟩ := h (n, c) List.mem_cons_self
    exact R1.new (a := c) (o := .cell (cm n)) (ob := o) (h' := s.heap) (tk := s.toks) b1 b2 b3 (fun _ _ _ e => e) g ⟨v', d, iv⟩

theorem c_funC {f : Addr} {args : List Value} {name qual : Str} {params : Arguments} {body : List Stmt} {scope : Scope} {dV kV doc pm cdv ct oc : Value} {an od : Option Addr} {osl : Array (Option Value)} {n : Nat} (ns : List Str) (vs : List V) {vals : List Value}
    (Z : Here KK p loose mg mb Γ.base) (hA : Dp A n)
    (hv : Are vs vals)
    (h : ∀ L', (∀ a o, σ.h a = some o → a < L') → mwp knd (Γ.enter L' σ.m) (A.deeper (envOfC qual scope L' f cdv)) (execs body (envOfC qual scope L' f cdv)) (funQ σ.m Q)
      ⟨bindLV (fun x => scope.names.lookup x) (ns.zip vs) fun _ => none, putC (bindCV (fun x => scope.names.lookup x) (ns.zip vs) fun _ => none) (cellsFrom (L' + 1) scope.names []) σ.h⟩)
    (ho : KK.lookup f = some ⟨oc, od, .func (fnOf name qual params body scope dV kV doc pm an cdv ct), osl⟩ := by k_is)
    (hb : bindArgs (fnOf name qual params body scope dV kV doc pm an cdv ct) ⟨args, []⟩ = pure (ns.zip vals) := by rfl) (hcd : codeIn KK cdv qual = true := by k_is)
    (hlk : ∀ x ∈ ns, scope.names.lookup x = some .local ∨ (scope.names.lookup x = some .cell ∧ x ∈ (scope.names.filter fun p => p.2 == .cell).map (·.1)) := by decide)
    (hnd : (((scope.names.filter fun p => p.2 == .cell).map (·.1)).reverse).Nodup := by decide)
    (hco : scope.isCoroutine = false := by rfl) (hgen : scope.isGenerator = false := by rfl) (hk : scope.kind = .function := by rfl) :
    mcode knd Γ A (.call (.ref f) ⟨args, []⟩) Q σ := fun s E R => by
  have kb : ∀ b o, Γ.base.get? b = some o → s.heap.get? b = some o := fun b o e => R.keep b o (Γ.sub b o e)
  have hcn : ∀ L, (cellsFrom L scope.names []).map (·.1) = ((scope.names.filter fun p => p.2 == .cell).map (·.1)).reverse := fun L => by rw [cells_names]; simp
  have hnd' : ∀ L, ((cellsFrom L scope.names []).map (·.1)).Nodup := fun L => by rw [hcn]; exact hnd
  refine codeAny_call_cells hA.room (kb _ _ (Z.X _ _ ho)) rfl (Z.T.nolimit.keeps kb) ((codeRec_of Z.X hcd).keeps kb) rfl hb rfl (fun x hx => ?_) (fun s₁ x => ?_) hco hgen hk
  · rcases hlk x.1 (List.of_mem_zip (a := x.1) (b := x.2) hx).1 with h1 | ⟨h1, h2⟩
    · exact .inl h1
    · refine .inr ⟨h1, ?_⟩
      have : x.1 ∈ (cellsFrom (s.heap.objs.size + 1) scope.names []).map (·.1) := by rw [hcn]; exact List.mem_reverse.mpr h2
      obtain ⟨q, hq, e⟩ := List.mem_map.mp this
      have := lookup_nodup (hnd' _) q hq
      rw [e] at this
      show (List.lookup x.1 (cellsFrom (s.heap.objs.size + 1) scope.names [])).isSome = true
      rw [this]; rfl
  · obtain ⟨hh, tk, es⟩ := x.toInCall.same
    have R₁ : Rel knd (Γ.enter s.heap.objs.size σ.m) ⟨bindLV (fun x => scope.names.lookup x) (ns.zip vs) fun _ => none, σ.h⟩ s₁ := by
      have := R.entered (L := s.heap.objs.size) (h' := s₁.heap) (tk := s₁.toks) noneAt ⟨_, x.toInCall.ns, bindL_is (m := fun _ => none) (m' := fun _ => none) _ (binds_zip hv) fun _ _ e => by cases e⟩ x.toInCall.keep
      rw [es] at this ⊢; exact this
    have R₂ := R₁.addCells (cm := bindCV (fun x => scope.names.lookup x) (ns.zip vs) fun _ => none) (cs := cellsFrom (s.heap.objs.size + 1) scope.names []) (fun q hq => by
      have hc := x.cell q.1 q.2 (lookup_nodup (hnd' _) q hq)
      have ha := x.above q.1 q.2 hq
      have ha : s.heap.objs.size < q.2 := ha
      obtain ⟨o, g, d⟩ := hc
      refine ⟨⟨o, _, g, d, bindC_is (m := fun _ => none) (m' := fun _ => none) _ (binds_zip hv) (fun _ => trivial) q.1⟩, ?_, Nat.ne_of_gt ha, ?_⟩
      · show Γ.B q.2 = none
        cases z : Γ.B q.2 with
        | none => rfl
        | some o => exact absurd (Heap.lt_size (R.keep _ _ z)) (Nat.not_lt.mpr (Nat.le_of_lt ha))
      · intro r hr e
        rcases List.mem_cons.mp hr with rfl | hr
        · obtain ⟨o, ho⟩ := R.cur.get; have e : q.2 = Γ.L := e; exact absurd (Heap.lt_size ho) (Nat.not_lt.mpr (e ▸ Nat.le_of_lt ha))
        · obtain ⟨o, ho⟩ := (R.out r hr).get; exact absurd (Heap.lt_size ho) (Nat.not_lt.mpr (e ▸ Nat.le_of_lt ha)))
    have hlt : ∀ a o, σ.h a = some o → a < s.heap.objs.size := fun a o e => by obtain ⟨ob, g, _⟩ := R.obj _ _ e; exact Heap.lt_size g
    refine (h s.heap.objs.size hlt).use R₂ fun fl s' σ' R' q => ?_
    obtain ⟨h', q1, q2⟩ := q
    exact ⟨_, (R'.leave R.bL R.bO R.lO).less (σ' := ⟨σ.m, h'⟩) q1 fun _ _ e => e, q2⟩
end
end Mine
end
section
open PySem PySem.W PyProof.Rows PySem.SeqAt
set_option maxHeartbeats 400000
namespace Mine
theorem and_nat (a b : Nat) : Builtin.bitAnd (a : Int) (b : Int) = ((a &&& b : Nat) : Int) := by
  unfold Builtin.bitAnd
  rfl
theorem or_nat (a b : Nat) : Builtin.bitOr (a : Int) (b : Int) = ((a ||| b : Nat) : Int) := by
  unfold Builtin.bitOr Builtin.bitNot Builtin.bitAnd
  rw [decide_eq_false (show ¬ (0 : Int) ≤ -(a : Int) - 1 by omega), decide_eq_false (show ¬ (0 : Int) ≤ -(b : Int) - 1 by omega)]
  unfold Builtin.bitNot
  have e1 : (-(-(a : Int) - 1) - 1).toNat = a := by omega
  have e2 : (-(-(b : Int) - 1) - 1).toNat = b := by omega
  simp only [e1, e2]
  omega
theorem or_add {a b : Int} (k : Nat) (h : 0 ≤ a) (h0 : 0 ≤ b) (hb : b < (2 ^ k : Nat)) : Builtin.bitOr (a * (2 ^ k : Nat)) b = a * (2 ^ k : Nat) + b := by
  obtain ⟨n, rfl⟩ := Int.eq_ofNat_of_zero_le h
  obtain ⟨m, rfl⟩ := Int.eq_ofNat_of_zero_le h0
  have : ((n : Nat) : Int) * ((2 ^ k : Nat) : Int) = ((2 ^ k * n : Nat) : Int) := by rw [Nat.mul_comm]; simp
  rw [this]
  show Builtin.bitOr ((2 ^ k * n : Nat) : Int) (m : Int) = _
  rw [or_nat, ← Nat.two_pow_add_eq_or_of_lt (by exact_mod_cast hb)]
  simp
theorem and_mask {a : Int} (k : Nat) (h : 0 ≤ a) : Builtin.bitAnd a ((2 ^ k - 1 : Nat) : Int) = a % (2 ^ k : Nat) := by
  obtain ⟨n, rfl⟩ := Int.eq_ofNat_of_zero_le h
  show Builtin.bitAnd (n : Int) _ = _
  rw [and_nat, Nat.and_two_pow_sub_one_eq_mod]
  rfl

noncomputable def b64s : List UInt8 := [65, 66, 67, 68, 69, 70, 71, 72, 73, 74, 75, 76, 77, 78, 79, 80, 81, 82, 83, 84, 85, 86, 87, 88, 89, 90, 97, 98, 99, 100, 101, 102, 103, 104, 105, 106, 107, 108, 109, 110, 111, 112, 113, 114, 115, 116, 117, 118, 119, 120, 121, 122, 48, 49, 50, 51, 52, 53, 54, 55, 56, 57, 43, 47]
noncomputable def sign (k : Int) : Int := ((b64s.getD k.toNat 0).toNat : Int)
noncomputable def drain (lc : Int) (lb : Nat) : List Int × Nat :=
  if lb ≥ 12 then ([sign (lc / (2 ^ (lb - 6) : Nat) % 64), sign (lc / (2 ^ (lb - 12) : Nat) % 64)], lb - 12)
  else if lb ≥ 6 then ([sign (lc / (2 ^ (lb - 6) : Nat) % 64)], lb - 6) else ([], lb)
noncomputable def encB : List Int → Int → Nat → List Int × Int × Nat
  | [], lc, lb => ([], lc, lb)
  | b :: r, lc, lb =>
    let lc' := (lc * 256 + b) % 65536
    let d := drain lc' (lb + 8)
    let q := encB r lc' d.2
    (d.1 ++ q.1, q.2)
noncomputable def enc (bs : List Int) : List Int :=
  let q := encB bs 0 0
  if q.2.2 = 2 then q.1 ++ [sign (q.2.1 % 4 * 16), 61, 61] else if q.2.2 = 4 then q.1 ++ [sign (q.2.1 % 16 * 4), 61] else q.1
theorem drain_lt {lc : Int} {lb : Nat} (h : lb < 18) : (drain lc lb).2 < 6 := by unfold drain; split <;> (try split) <;> simp only <;> omega
theorem drain_step {lc : Int} {lb : Nat} (h : 6 ≤ lb) (h2 : lb < 18) : drain lc lb = (sign (lc / (2 ^ (lb - 6) : Nat) % 64) :: (drain lc (lb - 6)).1, (drain lc (lb - 6)).2) := by
  unfold drain
  by_cases c : lb ≥ 12
  · rw [if_pos c, if_neg (show ¬ lb - 6 ≥ 12 by omega), if_pos (show lb - 6 ≥ 6 by omega)]; simp only; rw [show lb - 6 - 6 = lb - 12 by omega]
  · rw [if_neg c, if_pos h, if_neg (show ¬ lb - 6 ≥ 12 by omega), if_neg (show ¬ lb - 6 ≥ 6 by omega)]
theorem drain_stop {lc : Int} {lb : Nat} (h : lb < 6) : drain lc lb = ([], lb) := by
  unfold drain; rw [if_neg (by omega), if_neg (by omega)]
theorem sign_ok (k : Int) : 0 ≤ sign k ∧ sign k < 256 := by
  unfold sign
  have := (b64s.getD k.toNat 0).toNat_lt
  constructor
  · exact Int.natCast_nonneg _
  · exact_mod_cast this
theorem drain_ok {lc : Int} {lb : Nat} : (∀ x ∈ (drain lc lb).1, 0 ≤ x ∧ x < 256) ∧ (drain lc lb).1.length ≤ 2 := by
  unfold drain
  split
  · simp only; exact ⟨fun x hx => by rcases List.mem_cons.mp hx with rfl | hx; exact sign_ok _; rw [List.mem_singleton.mp hx]; exact sign_ok _, by simp⟩
  · split
    · simp only; exact ⟨fun x hx => by rw [List.mem_singleton.mp hx]; exact sign_ok _, by simp⟩
    · exact ⟨fun x hx => (List.not_mem_nil hx).elim, Nat.zero_le _⟩
theorem encB_ok {bs : List Int} {lc : Int} {lb : Nat} (h1 : 0 ≤ lc) (h2 : lc < 65536) : 0 ≤ (encB bs lc lb).2.1 ∧ (encB bs lc lb).2.1 < 65536 ∧ (encB bs lc lb).1.length ≤ 2 * bs.length ∧ ∀ x ∈ (encB bs lc lb).1, 0 ≤ x ∧ x < 256 := by
  induction bs generalizing lc lb with
  | nil => exact ⟨h1, h2, by simp [encB], by simp [encB]⟩
  | cons b r ih =>
    simp only [encB]
    obtain ⟨i1, i2, i3, i4⟩ := ih (lc := (lc * 256 + b) % 65536) (lb := (drain ((lc * 256 + b) % 65536) (lb + 8)).2) (by omega) (by omega)
    have := drain_ok (lc := (lc * 256 + b) % 65536) (lb := lb + 8)
    refine ⟨i1, i2, by simp; omega, fun x hx => ?_⟩
    rcases List.mem_append.mp hx with hx | hx
    · exact this.1 x hx
    · exact i4 x hx
theorem enc_ok (bs : List Int) : ∀ x ∈ enc bs, 0 ≤ x ∧ x < 256 := by
  obtain ⟨_, _, _, i4⟩ := encB_ok (bs := bs) (lc := 0) (lb := 0) (by omega) (by omega)
  have s1 := sign_ok
  unfold enc
  simp only
  intro x hx
  split at hx
  · simp at hx; rcases hx with hx | rfl | rfl
    · exact i4 x hx
    · exact s1 _
    · omega
  · split at hx
    · simp at hx; rcases hx with hx | rfl | rfl
      · exact i4 x hx
      · exact s1 _
      · omega
    · exact i4 x hx
theorem enc_len (bs : List Int) : (enc bs).length ≤ 2 * bs.length + 3 := by
  obtain ⟨_, _, i3, _⟩ := encB_ok (bs := bs) (lc := 0) (lb := 0) (by omega) (by omega)
  unfold enc
  simp only
  split
  · simp; omega
  · split
    · simp; omega
    · omega
theorem bytes_list {bs : List Int} (h : ∀ x ∈ bs, 0 ≤ x ∧ x < 256) : (byteArr bs).toList.map (fun c => V.int (c.toNat : Int)) = bs.map V.int := by
  unfold byteArr
  rw [List.toList_toArray, List.map_map]
  refine List.map_congr_left fun x hx => ?_
  obtain ⟨h0, h1⟩ := h x hx
  show V.int _ = V.int _
  congr 1
  rw [Nat.toUInt8, UInt8.toNat_ofNat']
  omega
theorem strJoin_T : ∀ ls : List (List Nat), Str.join (T []) (ls.map T) = T ls.flatten
  | [] => rfl
  | [a] => by simp [Str.join]
  | a :: b :: r => by
    have ih := strJoin_T (b :: r)
    show T a ++ T [] ++ Str.join (T []) ((b :: r).map T) = _
    rw [ih, T_app, T_app]; simp
theorem join_T (ls : List (List Nat)) : Txt.join (Str.ofString "") (ls.map T) = T ls.flatten := by
  show Builtin.Str.glued _ _ = _
  rw [PySem.StrLaws.glued_eq_join]
  exact strJoin_T ls
theorem ones_sum : ∀ ls : List Nat, (((ls.map fun i => [i]).map T).map (·.length)).sum = ls.length
  | [] => rfl
  | a :: r => by
    rw [List.map_cons, List.map_cons, List.map_cons, List.sum_cons, ones_sum r, T_len]; simp; omega
theorem ones_flat : ∀ ls : List Nat, (ls.map fun i => [i]).flatten = ls
  | [] => rfl
  | a :: r => by rw [List.map_cons, List.flatten_cons, ones_flat r]; rfl
theorem filter_all {α : Type} : ∀ l : List α, l.filter (fun _ => true) = l
  | [] => rfl
  | a :: r => by rw [List.filter_cons, if_pos rfl, filter_all r]
end Mine
end
section
open PySem PySem.W PyProof.Rows PySem.SeqAt
set_option maxHeartbeats 400000
namespace Mine
section
variable {β : Type} {f g : Addr → Option β} {a b c : Addr} {x y : β}
theorem none_put (h : put f a x b = none) : f b = none := by
  unfold put at h; split at h
  · cases h
  · exact h
theorem ne_put (h : put f a x b = none) : b ≠ a := fun e => by rw [e, put_same] at h; cases h
theorem none_sub (s : ∀ a o, f a = some o → g a = some o) (h : g b = none) : f b = none := by
  cases z : f b with
  | none => rfl
  | some o => rw [s _ _ z] at h; cases h
theorem ne_none (h : f a = some x) (k : f b = none) : a ≠ b := fun e => by rw [e, k] at h; cases h
theorem sub_put {y : β} (h : f a = none) (e : f b = some y) : put f a x b = some y := put_sub h _ _ e
theorem put_diff {ob od : β} (h1 : f b = some ob) (h2 : f a = some od) (h3 : ob ≠ od) : put f a x b = some ob := by
  rw [put_other (fun e => h3 (by rw [e, h2] at h1; exact (Option.some.inj h1).symm))]; exact h1
end
end Mine
end
section
open PySem PySem.W PyProof.Rows PySem.SeqAt
set_option maxHeartbeats 400000
namespace Mine
section
variable {prog : Program} {w : World} {K : Type} [DecidableEq K] {knd : PySem.KeyKind prog w K} {Γ : Fx} {σ : MS K} {A : Around} {env : Env} {α : Type} {s : Shared} {Q : Value → MS K → Prop} {QB : Bool → MS K → Prop} {QU : Unit → MS K → Prop} {QF : Flow → MS K → Prop}
variable {KK : Frag} {p : Program} {loose : List Str} {mg mb : Str → Option Value} {t u : Tok} {l l' : Addr}

theorem Rel.iterNew {h' : Heap} {tk : Nat} {I : Addr} {ob : Obj} (R₁ : Rel knd Γ σ s) (hI : s.heap.get? I = none) : Γ.B I = none ∧ I ≠ Γ.L ∧ (∀ p ∈ Γ.outs, I ≠ p.1) ∧ σ.h I = none := by
  refine ⟨?_, fun x => ?_, fun p hp x => ?_, ?_⟩
  · cases q : Γ.B I with
    | none => rfl
    | some o => have := R₁.keep _ _ q; rw [hI] at this; cases this
  · obtain ⟨o, ho⟩ := R₁.cur.get; rw [← x, hI] at ho; cases ho
  · obtain ⟨o, ho⟩ := (R₁.out p hp).get; rw [← x, hI] at ho; cases ho
  · cases q : σ.h I with
    | none => rfl
    | some o => obtain ⟨ob, h1, _⟩ := R₁.obj _ _ q; rw [hI] at h1; cases h1

inductive ForIQ (knd : PySem.KeyKind prog w K) (Γ : Fx) (A : Around) (env : Env) (xk xv : Str) (kv : K → V) (body : List Stmt) (QF : Flow → MS K → Prop) (v : Value) (σ₁ : MS K) : Prop
  | mk (d vw : Addr) (kvs : List (K × V)) (ep : Nat) (e : v = .ref vw) (hd : σ₁.h d = some (.dict kvs ep)) (hvw : σ₁.h vw = some (.items d)) (J : Nat → MS K → Prop) (j0 : J 0 σ₁) (jok : ∀ i σ, J i σ → σ.h d = some (.dict kvs ep))
      (step : ∀ i k y σ I ob hb, kvs[i]? = some (k, y) → J i σ → mwp knd (Γ.freeze I ob hb) A (execs body env) (loopQ (J (i + 1)) QF) ((σ.store xk (kv k)).store xv y)) (fin : ∀ σ, J kvs.length σ → QF .next σ)
theorem m_ForItems {xk xv : Str} {pk pv pt pos : Pos} {x1 : Nat} {iter : Expr} {body : List Stmt} {kv : K → V} (hkv : ∀ k v, knd.is k v = true → (kv k).is v) (hh : A.handled = none)
    (h : mwp knd Γ A (eval iter env) (ForIQ knd Γ A env xk xv kv body QF) σ)
    (hs : ∀ x, foldedSetIterable iter env x = pure x := by intro _; rfl) (hk : env.scope.kind = .function := by rfl) (hlk : env.kindOf xk = some .local := by rfl) (hlv : env.kindOf xv = some .local := by rfl) (he : env.locals = Γ.L := by rfl) :
    mwp knd Γ A (exec (.For (.Tuple [.Name xk pk, .Name xv pv] x1 pt) iter body [] pos) env) QF σ := fun s E R => by
  refine wpAny_For (h.use R fun v s₁ σ₁ R₁ ⟨d, vw, kvs, ep, e, hd, hvw, J, j0, jok, step, fin⟩ => ?_) hs
  subst e
  obtain ⟨kvs₁, hm₁, pa₁⟩ := R₁.dict hd
  obtain ⟨ov, eov, cv, dv⟩ := R₁.obj vw _ hvw
  refine wpAny_pyIter_items ⟨ov, eov, cv, dv⟩ hm₁ ?_
  generalize hIs : s₁.heap.objs.size = I
  have hI : s₁.heap.get? I = none := by rw [← hIs]; exact noneAt
  generalize hob : ({ cls := .type "dict_itemiterator", data := .fields #[.none, .bool false, .ref d, .int 0 0, .int kvs₁.length 0, .int ep 0, .none, .none] } : Obj) = ob
  have gI : (s₁.heap.push ob).get? I = some ob := by rw [← hIs]; exact Heap.get?_push_size _ (by rw [← hob]; rfl)
  have R₂ : Rel knd Γ σ₁ { s₁ with heap := s₁.heap.push ob } := R₁.ext (tk := s₁.toks) fun b o e => Heap.get?_push_of_some _ e
  obtain ⟨bI, lI, oI, h1⟩ := R₁.iterNew (h' := s₁.heap) (tk := s₁.toks) (ob := ob) hI
  refine codeAny_forLoop_any (fun k s' => ∃ i σ ob, Rel knd (Γ.freeze I ob bI) σ s' ∧ J i σ ∧ (∃ a b, ob = { cls := .type "dict_itemiterator", dict := none, data := .fields #[.none, .bool false, .ref d, .int i 0, .int kvs.length 0, .int ep 0, a, b], slots := #[] }) ∧ s'.heap.get? I = some ob ∧ i ≤ kvs.length ∧ k = kvs.length + 1 - i) ?_ (kvs.length + 1) ⟨0, σ₁, ob, R₂.freeze gI bI lI oI h1, j0, ⟨_, _, by rw [← hob, pa₁.length]; rfl⟩, gI, Nat.zero_le _, rfl⟩
  rintro k s' ⟨i, σ', ob, R', hJ, ⟨oa, obv, rfl⟩, gI', hle, rfl⟩
  have hI1 := R'.frozenH
  obtain ⟨kvs', hm', pa⟩ := R'.dict (jok _ _ hJ)
  have hlen := pa.length
  rw [hlen] at gI'
  by_cases hlt : i < kvs.length
  · obtain ⟨⟨k0, y⟩, hy⟩ : ∃ y, kvs[i]? = some y := ⟨kvs[i], by simp [hlt]⟩
    obtain ⟨v', e', iv⟩ := pa.get hy
    refine wpAny_pyNext_items_item gI' hm' e' fun key h₁ hkey heo ht₁ hz₁ hk₁ => ?_
    refine wpAny_letOwnedTupleGo_items heo fun h₂ he₂ hs₂ => ?_
    have hTI : s'.heap.objs.size ≠ I := Nat.ne_of_gt (Heap.lt_size gI')
    have ht₂ : h₂.IsTuple s'.heap.objs.size #[key, v'] := ⟨_, (hs₂.2 _ hTI).trans ht₁, rfl, _, rfl⟩
    refine wpAny_assign_Tuple hh ht₂ rfl rfl fun h₃ hx₃ => ?_
    have e₃ : ∀ b o, b ≠ I → s'.heap.get? b = some o → h₃.get? b = some o := fun b o hb q => hx₃ b o (by rw [show h₂.objs.size = s'.heap.objs.size + 1 from hs₂.1.trans hz₁]; exact Nat.ne_of_lt (Nat.lt_succ_of_lt (Heap.lt_size q))) ((hs₂.2 b hb).trans (hk₁ b o hb q))
    have g₃ : h₃.get? I = some _ := hx₃ I _ (by rw [show h₂.objs.size = s'.heap.objs.size + 1 from hs₂.1.trans hz₁]; exact Nat.ne_of_lt (Nat.lt_succ_of_lt (Heap.lt_size gI'))) he₂
    have R₃ : Rel knd (Γ.freeze I _ bI) σ' { s' with heap := h₃ } := (R'.thaw.extBut (tk := s'.toks) bI lI oI hI1 e₃).freeze g₃ bI lI oI hI1
    show wpAny _ _ (do holding [v'] (assign (.Name xk pk) env key); do holding [] (assign (.Name xv pv) env v'); pure ()) _ _ _
    refine wpAny_bind (wpAny_holding (wpAny_assign_Name ?_))
    refine (m_store (knd := knd) (Γ := Γ.freeze I _ bI) (x := xk) (Q := fun _ σ₂ => σ₂ = σ'.store xk (kv k0)) (hkv _ _ hkey) rfl hk hlk he).use R₃ ?_
    rintro _ s₄ σ₄ R₄ rfl
    refine wpAny_bind (wpAny_holding (wpAny_assign_Name ?_))
    refine (m_store (knd := knd) (Γ := Γ.freeze I _ bI) (x := xv) (Q := fun _ σ₂ => σ₂ = (σ'.store xk (kv k0)).store xv y) iv rfl hk hlv he).use R₄ ?_
    rintro _ s₅ σ₅ R₅ rfl
    refine wpAny_pure ?_
    refine (step i k0 y σ' I _ bI hy hJ).use R₅ fun f s₃ σ₃ R₅ q => ?_
    cases f with
    | next => exact ⟨kvs.length + 1 - (i + 1), by omega, i + 1, σ₃, _, R₅, q, ⟨_, _, by rw [hlen]⟩, R₅.frozenG, hlt, rfl⟩
    | cont => exact ⟨kvs.length + 1 - (i + 1), by omega, i + 1, σ₃, _, R₅, q, ⟨_, _, by rw [hlen]⟩, R₅.frozenG, hlt, rfl⟩
    | brk => exact ⟨σ₃, R₅.thaw, q⟩
    | ret v => exact ⟨σ₃, R₅.thaw, q⟩
  · have hin : i = kvs.length := by omega
    subst hin
    refine wpAny_pyNext_items_end hh gI' hm' (by rw [List.getElem?_eq_none_iff]; omega) fun h₁ e₁ => wpAny_execs_nil ?_
    exact ⟨σ', R'.thaw.extBut (tk := s'.toks) bI lI oI hI1 e₁, fin σ' hJ⟩

noncomputable def Fx.aside (Γ : Fx) (P : Addr → Prop) [DecidablePred P] (h : Heap) : Fx :=
  { Γ with B := fun a => match Γ.B a with | some o => some o | none => if P a then h.get? a else none, sub := fun b o e => by simp only [Γ.sub b o e] }
theorem m_aside {c : Sem α} {Q : α → MS K → Prop} {h0 : Addr → Option (O K)} (hs : ∀ a o, h0 a = some o → σ.h a = some o)
    (h : ∀ B' sub', mwp knd { Γ with B := B', sub := sub' } A c Q ⟨σ.m, h0⟩) :
    mwp knd Γ A c (fun v σ' => ∃ σ₁, Q v σ₁ ∧ σ'.m = σ₁.m ∧ (∀ a o, σ₁.h a = some o → σ'.h a = some o) ∧ (∀ a o, σ.h a = some o → h0 a = none → σ'.h a = some o) ∧ (∀ a, σ.h a ≠ none → h0 a = none → σ₁.h a = none)) σ := fun s E R => by
  classical
  let P : Addr → Prop := fun a => h0 a = none ∧ σ.h a ≠ none
  have R₀ : Rel knd (Γ.aside P s.heap) ⟨σ.m, h0⟩ s := by
    refine ⟨fun b o q => ?_, R.rest, R.cur, R.out, fun a o q => R.obj a o (hs a o q), ?_, fun p hp => ?_, fun a o q => ?_, R.lO, ?_, fun p hp => ?_⟩
    · simp only [Fx.aside] at q
      cases z : Γ.B b with
      | some o' => rw [z] at q; cases q; exact R.keep _ _ z
      | none =>
        rw [z] at q; simp only at q
        split at q
        · exact q
        · cases q
    · simp only [Fx.aside]; rw [R.bL]; simp only; rw [if_neg (fun z => z.2 R.hL)]
    · simp only [Fx.aside]; rw [R.bO p hp]; simp only; rw [if_neg (fun z => z.2 (R.hO p hp))]
    · have q : h0 a = some o := q
      simp only [Fx.aside]; rw [R.bH a o (hs a o q)]; simp only; rw [if_neg (fun z => by rw [z.1] at q; cases q)]
    · cases z : h0 Γ.L with
      | none => exact z
      | some o => have := hs _ _ z; rw [R.hL] at this; cases this
    · cases z : h0 p.1 with
      | none => exact z
      | some o => have := hs _ _ z; rw [R.hO p hp] at this; cases this
  refine (h _ (Γ.aside P s.heap).sub).use R₀ fun v s' σ₁ R' q => ?_
  have hB : ∀ a, P a → ∃ ob, (Γ.aside P s.heap).B a = some ob ∧ s.heap.get? a = some ob ∧ Γ.B a = none := fun a ha => by
    cases z : σ.h a with
    | none => exact absurd z ha.2
    | some o =>
      obtain ⟨ob, g, _⟩ := R.obj a o z
      exact ⟨ob, by simp only [Fx.aside]; rw [R.bH a o z]; simp only; rw [if_pos ha]; exact g, g, R.bH a o z⟩
  have n1 : ∀ a, P a → σ₁.h a = none := fun a ha => by
    obtain ⟨ob, b1, _, _⟩ := hB a ha
    cases z : σ₁.h a with
    | none => rfl
    | some o => have := R'.bH _ _ z; have b1 : (Γ.aside P s.heap).B a = some ob := b1; exact absurd (this.symm.trans b1) (by intro k; cases k)
  refine ⟨⟨σ₁.m, fun a => match σ₁.h a with | some o => some o | none => if P a then σ.h a else none⟩, ?_, σ₁, q, rfl, fun a o e => by simp only [e], fun a o e1 e2 => ?_, fun a e1 e2 => n1 a ⟨e2, e1⟩⟩
  · refine ⟨fun b o q => R'.keep b o (by show (match Γ.B b with | some o => some o | none => _) = _; rw [q]), R'.rest, R'.cur, R'.out, fun a o q => ?_, R.bL, R.bO, fun a o q => ?_, R.lO, ?_, fun p hp => ?_⟩
    · simp only at q
      cases z : σ₁.h a with
      | some o' => rw [z] at q; cases q; exact R'.obj _ _ z
      | none =>
        rw [z] at q; simp only at q
        split at q
        · rename_i hP
          obtain ⟨ob, b1, g1, _⟩ := hB a hP
          obtain ⟨ob', g2, io⟩ := R.obj a o q
          rw [g1] at g2; cases g2
          exact ⟨ob, R'.keep a ob b1, io⟩
        · cases q
    · simp only at q
      cases z : σ₁.h a with
      | some o' =>
        have := R'.bH _ _ z
        cases k : Γ.B a with
        | none => rfl
        | some ob => have k2 : (match Γ.B a with | some o => some o | none => if P a then s.heap.get? a else none) = none := this; rw [k] at k2; cases k2
      | none =>
        rw [z] at q; simp only at q
        split at q
        · exact R.bH _ _ q
        · cases q
    · have : σ₁.h Γ.L = none := R'.hL
      simp only [this]
      rw [if_neg (fun z => z.2 R.hL)]
    · have : σ₁.h p.1 = none := R'.hO p hp
      simp only [this]
      rw [if_neg (fun z => z.2 (R.hO p hp))]
  · simp only [n1 a ⟨e2, by rw [e1]; intro z; cases z⟩]
    rw [if_pos ⟨e2, by rw [e1]; intro z; cases z⟩]; exact e1
end
end Mine
end
section
open PySem PySem.W PyProof.Rows PySem.SeqAt
set_option maxHeartbeats 400000
namespace Mine
section
variable {prog : Program} {w : World} {K : Type} [DecidableEq K] {knd : PySem.KeyKind prog w K} {Γ : Fx} {σ : MS K} {A : Around} {env : Env} {α : Type} {s : Shared} {Q : Value → MS K → Prop} {QB : Bool → MS K → Prop} {QU : Unit → MS K → Prop} {QF : Flow → MS K → Prop}
variable {KK : Frag} {p : Program} {loose : List Str} {mg mb : Str → Option Value} {t u : Tok} {l l' : Addr}

theorem m_methSet {S : K → Bool} {n : Nat} {pl : Sem Bool} {QM : Value × List Value → MS K → Prop} (hl : σ.h l = some (.set S n)) (h : QM (.builtin "set.add", [.ref l]) σ) : mwp knd Γ A (getMethod (.ref l) "add" pl) QM σ := fun s E R =>
  getMethod_set_add (R.setOf hl) ⟨σ, R, h⟩
theorem m_clear {xs : List V} (hl : σ.h l = some (.list xs)) (hsz : xs.length ≤ sizeLine) (h : Q .none (σ.set l (.list []))) : mwp knd Γ A (call (.builtin "list.clear") [.ref l]) Q σ := fun s E R => by
  obtain ⟨vs, n, e, ar⟩ := R.listX hl
  refine call_meets F.slot_list_clear ⟨_, e, rfl⟩ F.entry_list_clear (F.args_list_clear_1 _) (AutoSeq1.list_clear_list_0 l vs n (by rw [ar.size]; exact hsz)) ⟨e, ?_⟩
  have e2 : Obj.mapSeq (fun _ => #[]) ({ cls := .type "list", data := .seq vs n } : Obj) = { cls := .type "list", data := .seq #[] (if (#[] : Array Value).size == vs.size then n else n + 1) } := by
    unfold Obj.mapSeq; rfl
  exact ⟨_, R.change (tk := s.toks) (o := .list []) hl (fun b o hb q => ((Heap.SameBut.update s.heap l _).2 b hb).trans q) (by rw [Heap.get?_update_self _ e (by rw [e2]; rfl), e2]) ⟨_, _, rfl, .nil⟩, h⟩
theorem m_sortedT {ns : List Int} (hl : σ.h l = some (.tuple (ns.map .int))) (h64 : ns.length < 64) (h : ∀ (D : Addr) (ns' : List Int), ns'.Perm ns → ns'.Pairwise (· ≤ ·) → σ.h D = none → Q (.ref D) (σ.set D (.list (ns'.map .int)))) :
    mwp knd Γ A (call (.builtin "sorted") [.ref l]) Q σ := fun s E R => by
  obtain ⟨vs, n, e, ar⟩ := R.tupleX hl
  have hsz := ar.size
  rw [List.length_map] at hsz
  refine Calls.call_function_entry kind_sorted plain_sorted entry_sorted (args_sorted1 _) ?_
  unfold Builtin.«sorted»
  refine wpAny_bind (m := checkCount "sorted" 1 1 _) (wpAny_pure ?_)
  refine wpAny_bind (wpAny_collect_seq l (.inr rfl) e rfl rfl (fun h' hk => ?_) (by rw [hsz, sizeLine_eq]; omega))
  have R₁ : Rel knd Γ σ { s with heap := h' } := R.ext (tk := s.toks) hk
  have hI : IntsAre vs.toList ns := ar.ints
  refine wpAny_bind (wpAny_newList ?_ (by size_fits))
  have hoL : (h'.push (seqObj "list" vs.toList.toArray 0)).get? h'.objs.size = some (seqObj "list" vs.toList.toArray 0) := Heap.get?_push_size _ rfl
  refine wpAny_bind (wpAny_holding (wpAny_call_entry slot_list_sort ⟨_, hoL, rfl⟩ entry_list_sort (list_sort_tree hoL hI (by rw [Array.length_toList, hsz]; exact h64) fun out ns' a1 a2 a3 => ⟨_, rfl, ?_⟩) (args_list_sort _)))
  refine wpAny_pure ⟨_, rfl, ?_⟩
  obtain ⟨ep, g⟩ := sortedHeap_at (vs := vs.toList) (out := out) hoL
  refine ⟨σ.set h'.objs.size (.list (ns'.map .int)), R₁.new (tk := s.toks) R₁.freshB R₁.freshL R₁.freshO (fun b o hb q => ?_) g ⟨out, ep, rfl, Are.of_ints a1⟩, h _ ns' a2 a3 R₁.fresh⟩
  exact (sortedHeap_old hb (Nat.lt_of_lt_of_le (Heap.lt_size q) (by show h'.objs.size ≤ (h'.push _).objs.size; rw [size_push']; omega))).trans (Heap.get?_push_of_some _ q)

inductive Rows (h : Addr → Option (O K)) : List Addr → List (List Int) → Prop
  | nil : Rows h [] []
  | cons {a as xs xss} : h a = some (.list (xs.map .int)) → Rows h as xss → Rows h (a :: as) (xs :: xss)
noncomputable def Nest (h : Addr → Option (O K)) (D : Addr) (res : List (List Int)) : Prop := ∃ as, h D = some (.list (as.map .ref)) ∧ Rows h as res
theorem Rows.mono {h h' : Addr → Option (O K)} {as : List Addr} {res : List (List Int)} (r : Rows h as res) (hs : ∀ a ∈ as, ∀ o, h a = some o → h' a = some o) : Rows h' as res := by
  induction r with
  | nil => exact .nil
  | cons e _ ih => exact .cons (hs _ List.mem_cons_self _ e) (ih fun a ha => hs a (List.mem_cons_of_mem _ ha))
theorem Rows.snoc {h : Addr → Option (O K)} {as : List Addr} {res : List (List Int)} (r : Rows h as res) {a : Addr} {xs : List Int} (e : h a = some (.list (xs.map .int))) : Rows h (as ++ [a]) (res ++ [xs]) := by
  induction r with
  | nil => exact .cons e .nil
  | cons e' _ ih => exact .cons e' ih
theorem Rows.length {h : Addr → Option (O K)} {as : List Addr} {res : List (List Int)} (r : Rows h as res) : as.length = res.length := by
  induction r with
  | nil => rfl
  | cons _ _ ih => simp [ih]
theorem Rows.get {h : Addr → Option (O K)} {as : List Addr} {res : List (List Int)} (r : Rows h as res) {i : Nat} {a : Addr} (e : as[i]? = some a) : ∃ xs, res[i]? = some xs ∧ h a = some (.list (xs.map .int)) := by
  induction r generalizing i with
  | nil => simp at e
  | cons e' _ ih =>
    cases i with
    | zero => simp at e; subst e; exact ⟨_, rfl, e'⟩
    | succ i => simpa using ih (by simpa using e)
theorem are_refs {as : List Addr} {vs : List Value} (h : Are (as.map .ref) vs) : vs = as.map .ref := by
  induction as generalizing vs with
  | nil => cases h; rfl
  | cons a r ih => cases h with | cons h1 h2 => rw [ih h2]; have h1 : _ = Value.ref a := h1; rw [h1]; rfl
theorem m_neNest {D D' : Addr} {res : List (List Int)} (hu : A.units + 10 < cLine) (h1 : Nest σ.h D res) (h2 : Nest σ.h D' res) (h : Q (.bool false) σ) : mwp knd Γ A (compareOp .NotEq (.ref D) (.ref D')) Q σ := fun s E R => by
  obtain ⟨as, e1, r1⟩ := h1
  obtain ⟨bs, e2, r2⟩ := h2
  obtain ⟨vs, l1, a1⟩ := R.list e1
  obtain ⟨us, l2, a2⟩ := R.list e2
  have s1 := a1.size
  have s2 := a2.size
  rw [List.length_map] at s1 s2
  have f1 := are_refs a1
  have f2 := are_refs a2
  have := RcNeAt.lists (A := A) (s := s) (e := fun _ => true) l1 l2 (by rw [s1, s2, r1.length, r2.length]) (Nat.lt_of_le_of_lt (Nat.le_add_right _ _) hu) (fun j h1 h2 => by
    have g1 : vs[j]? = some vs[j] := Array.getElem?_eq_getElem h1
    have g2 : us[j]? = some us[j] := Array.getElem?_eq_getElem h2
    rw [← Array.getElem?_toList, f1, List.getElem?_map] at g1
    rw [← Array.getElem?_toList, f2, List.getElem?_map] at g2
    obtain ⟨a, ha, ea⟩ := Option.map_eq_some_iff.mp g1
    obtain ⟨b, hb, eb⟩ := Option.map_eq_some_iff.mp g2
    obtain ⟨xs, hx, k1⟩ := r1.get ha
    obtain ⟨ys, hy, k2⟩ := r2.get hb
    rw [hx] at hy; cases hy
    rw [← ea, ← eb]
    by_cases hab : a = b
    · subst hab; exact EqAt.same _
    · obtain ⟨vs', l1', a1'⟩ := R.list k1
      obtain ⟨us', l2', a2'⟩ := R.list k2
      have := rc_ints (A := A.in1) l1' l2' a1' a2' (by show A.units + _ < _; omega)
      rw [decide_eq_true rfl] at this
      exact EqAt.of_refs hab this)
  rw [show (!(List.range vs.size).all fun _ => true) = false by simp] at this
  exact this _ _ _ _ ⟨σ, R, h⟩

theorem m_Del {o i : Expr} {pos' pos : Pos} (h : mwp knd Γ A (eval o env) (fun ov σ₁ => mwp knd Γ A (eval i env) (fun iv σ₂ => mwp knd Γ A (delItem ov iv) (fun _ => QF .next) σ₂) σ₁) σ)
    (he : delete (.Subscript o i pos') env = (do
      let ov ← eval o env
      let iv ← holding [ov] (eval i env)
      standAt pos'
      holding [ov, iv] (delItem ov iv)
      release [ov, iv] []) := by rfl) : mwp knd Γ A (exec (.Delete [.Subscript o i pos'] pos) env) QF σ := fun s E R => by
  refine wpAny_Delete (wpAny_deleteEach_cons ?_)
  rw [he]
  exact wpAny_bind (h.use R fun ov s₁ σ₁ R₁ q => wpAny_bind (wpAny_holding (q.use R₁ fun iv s₂ σ₂ R₂ q => wpAny_bind (wpAny_standAt (wpAny_bind (wpAny_holding (q.use R₂ fun _ s₃ σ₃ R₃ q => wpAny_release (wpAny_deleteEach_nil ⟨σ₃, R₃, q⟩))))))))

theorem m_splStar {e : Expr} {pos pp : Pos} {Q : List Value → MS K → Prop} (h : mwp knd Γ A (eval e env) (fun v σ₁ => ∃ l xs, v = .ref l ∧ σ₁.h l = some (.list xs) ∧ xs.length ≤ sizeLine ∧ ∀ vs, Are xs vs → Q vs σ₁) σ) :
    mwp knd Γ A (spliced (backTo pos (starEach [.Starred e pp] env))) Q σ := fun s E R => by
  refine items_star (h.use R fun v s₁ σ₁ R₁ ⟨l, xs, ev, hl, hsz, q⟩ => ?_)
  subst ev
  obtain ⟨vs, n, e, ar⟩ := R₁.listX hl
  unfold StarOf notIterableAtAll
  refine wpAny_bind (wpAny_specialOf ⟨_, e, rfl⟩ PySem.F.slot_list_iter.lookup (wpAny_pure ⟨rfl, ?_⟩))
  refine wpAny_collect_seq l (.inl rfl) e rfl rfl (fun h' hk => ?_) (by rw [ar.size]; exact hsz)
  refine Calls.spliced_nil ⟨σ₁, R₁.ext (tk := s₁.toks) hk, ?_⟩
  rw [List.append_nil]; exact q _ ar
theorem c_funV {f : Addr} {args : List Value} {name qual : Str} {params : Arguments} {body : List Stmt} {scope : Scope} {dV kV doc pm cdv ct oc : Value} {an od : Option Addr} {osl : Array (Option Value)} {n : Nat} (ns : List Str) (vs : List V) (nv : Str) (rs : List V) {vals rest : List Value}
    (Z : Here KK p loose mg mb Γ.base) (hA : Dp A n)
    (hv : Are vs vals) (hr : Are rs rest) (hsz : rs.length ≤ sizeLine)
    (h : ∀ L' T, σ.h T = none → mwp knd (Γ.enter L' σ.m) (A.deeper (envOf qual scope L' f cdv)) (execs body (envOf qual scope L' f cdv)) (funQ σ.m Q) ⟨fun x => (ns.zip vs ++ [(nv, V.ref T)]).reverse.lookup x, put σ.h T (.tuple rs)⟩)
    (ho : KK.lookup f = some ⟨oc, od, .func (fnOf name qual params body scope dV kV doc pm an cdv ct), osl⟩ := by k_is)
    (hb : bindArgs (fnOf name qual params body scope dV kV doc pm an cdv ct) ⟨args, []⟩ = (newTuple rest >>= fun t => pure (ns.zip vals ++ [(nv, t)])) := by rfl) (hcd : codeIn KK cdv qual = true := by k_is)
    (hlk : ∀ x ∈ ns, scope.names.lookup x = some .local := by decide) (hlv : scope.names.lookup nv = some .local := by rfl)
    (hco : scope.isCoroutine = false := by rfl) (hgen : scope.isGenerator = false := by rfl) (hk : scope.kind = .function := by rfl) (hcell : ∀ x ∈ scope.names, x.2 ≠ .cell := by decide) :
    mcode knd Γ A (.call (.ref f) ⟨args, []⟩) Q σ := by
  refine mcode_less (c_def (Q := fun v σ' => ∃ h', (∀ a o, h' a = some o → σ'.h a = some o) ∧ σ'.m = σ.m ∧ Q v ⟨σ.m, h'⟩) hA Z.X Z.T.nolimit ?_ ho hcd hco hgen hk hcell)
    fun v σ' ⟨h', q1, q2, q3⟩ => ⟨⟨σ.m, h'⟩, q1, fun x v e => by rw [q2]; exact e, q3⟩
  rw [hb]
  refine mwp_bind (m_newTuple (xs := rs) hr hsz fun T hT => mwp_pure ⟨fun x hx => ?_, _, (binds_zip hv).append (.cons (v := .ref T) rfl .nil), fun L' => mwp_mono (h L' T hT) fun fl σ' ⟨h', q1, q2⟩ => ⟨h', q1, rfl, q2⟩⟩)
  rcases List.mem_append.mp hx with hx | hx
  · exact hlk x.1 (List.of_mem_zip (a := x.1) (b := x.2) hx).1
  · rw [List.mem_singleton] at hx; subst hx; exact hlv
end
end Mine
end
section
open PySem PySem.W PyProof.Rows PySem.SeqAt
set_option maxHeartbeats 400000
namespace Mine
theorem meets_bool_list (l : Addr) (items : Array Value) (hfit : (items.size : Int) < 2 ^ 63) :
    Meets (Builtin.«bool.__new__» ⟨[.type "bool", .ref l], []⟩) (fun _ R s => s.heap.IsList l items ∧ R (.ok (.ret (.bool (!items.isEmpty)))) { s with toks := s.toks + 1 + 1 }) :=
  Meets.of_wp fun prog w A R s ⟨hl, hs⟩ => by
    obtain ⟨hp, g, d, tk, os⟩ := s
    have f1 := F.conv_sub_bool
    repeat (any_goals (first | assumption | (with_reducible refine wpAny_truthy_list hl hfit ?_) | wp_step))
    all_goals first | exact ⟨_, rfl, hs⟩ | exact hs | skip
section
variable {prog : Program} {w : World} {K : Type} [DecidableEq K] {knd : PySem.KeyKind prog w K} {Γ : Fx} {σ : MS K} {A : Around} {env : Env} {α : Type} {s : Shared} {Q : Value → MS K → Prop} {QB : Bool → MS K → Prop} {QU : Unit → MS K → Prop} {QF : Flow → MS K → Prop}
variable {KK : Frag} {p : Program} {loose : List Str} {mg mb : Str → Option Value} {t u : Tok} {l l' : Addr}
theorem m_boolList {xs : List V} (hl : σ.h l = some (.list xs)) (hf : xs.length < 2 ^ 62) (h : Q (.bool (!xs.isEmpty)) σ) : mwp knd Γ A (call (.type "bool") [.ref l]) Q σ := fun s E R => by
  obtain ⟨vs, e, ar⟩ := R.list hl
  have hs := ar.size
  have e2 : vs.isEmpty = xs.isEmpty := by
    cases vs with | mk l => cases l <;> cases xs <;> simp at hs ⊢
  refine call_bool_1 (meets_bool_list l vs (by rw [hs]; omega)) ⟨e, rfl, σ, R.toks, ?_⟩
  rw [e2]; exact h
theorem m_attrI {i : Int} {x C dx : Addr} {sl : List (Option V)} {fs : List (Str × V)} {name : Str} {at_ : Option Value} (X : KK.In Γ.base) (hx : σ.h x = some (.inst C dx sl)) (hd : σ.h dx = some (.idict fs)) (hl : fs.lookup name = some (.int i)) (h : ∀ t, Q (.int i t) σ)
    (hg : plainGet KK C name = true := by k_is) (hh : hasDictIn KK C = true := by k_is) (ha : findIn KK (.ref C) name = some at_ := by k_is) (hn : noGet KK at_ = true := by k_is) {expr : Bool} :
    mwp knd Γ A (getAttr (.ref x) name expr) Q σ := m_attr X hx hd hl (fun v' ⟨t, e⟩ => e ▸ h t) rfl hg hh ha hn
theorem m_slotI {i : Int} {x C dx : Addr} {sl : List (Option V)} {fs : List (Str × V)} {name : Str} {p : Addr} {j : Nat} (X : KK.In Γ.base) (hx : σ.h x = some (.inst C dx sl)) (hd : σ.h dx = some (.idict fs)) (hp : slotIn KK p C = some j) (hl : sl[j]? = some (some (.int i))) (h : ∀ t, Q (.int i t) σ)
    (ha : findIn KK (.ref C) name = some (some (.ref p)) := by k_is) (hg : plainGet KK C name = true := by k_is) (hc : isClsIn KK C = true := by k_is)
    (hn : specialIn KK (.ref p) "__get__" = some (some (.builtin "member_descriptor.__get__")) := by k_is) (ht : takesIn KK (.ref p) = some true := by k_is) {expr : Bool} :
    mwp knd Γ A (getAttr (.ref x) name expr) Q σ := m_slot X hx hd hl (fun v' ⟨t, e⟩ => e ▸ h t) hp ha rfl hg hc hn ht
theorem m_attrR {i : Addr} {x C dx : Addr} {sl : List (Option V)} {fs : List (Str × V)} {name : Str} {at_ : Option Value} (X : KK.In Γ.base) (hx : σ.h x = some (.inst C dx sl)) (hd : σ.h dx = some (.idict fs)) (hl : fs.lookup name = some (.ref i)) (h : Q (.ref i) σ)
    (hg : plainGet KK C name = true := by k_is) (hh : hasDictIn KK C = true := by k_is) (ha : findIn KK (.ref C) name = some at_ := by k_is) (hn : noGet KK at_ = true := by k_is) {expr : Bool} :
    mwp knd Γ A (getAttr (.ref x) name expr) Q σ := m_attr X hx hd hl (fun v' e => (show v' = _ from e) ▸ h) rfl hg hh ha hn
theorem m_slotR {i : Addr} {x C dx : Addr} {sl : List (Option V)} {fs : List (Str × V)} {name : Str} {p : Addr} {j : Nat} (X : KK.In Γ.base) (hx : σ.h x = some (.inst C dx sl)) (hd : σ.h dx = some (.idict fs)) (hp : slotIn KK p C = some j) (hl : sl[j]? = some (some (.ref i))) (h : Q (.ref i) σ)
    (ha : findIn KK (.ref C) name = some (some (.ref p)) := by k_is) (hg : plainGet KK C name = true := by k_is) (hc : isClsIn KK C = true := by k_is)
    (hn : specialIn KK (.ref p) "__get__" = some (some (.builtin "member_descriptor.__get__")) := by k_is) (ht : takesIn KK (.ref p) = some true := by k_is) {expr : Bool} :
    mwp knd Γ A (getAttr (.ref x) name expr) Q σ := m_slot X hx hd hl (fun v' e => (show v' = _ from e) ▸ h) hp ha rfl hg hc hn ht
theorem m_attrN  {x C dx : Addr} {sl : List (Option V)} {fs : List (Str × V)} {name : Str} {at_ : Option Value} (X : KK.In Γ.base) (hx : σ.h x = some (.inst C dx sl)) (hd : σ.h dx = some (.idict fs)) (hl : fs.lookup name = some .none) (h : Q .none σ)
    (hg : plainGet KK C name = true := by k_is) (hh : hasDictIn KK C = true := by k_is) (ha : findIn KK (.ref C) name = some at_ := by k_is) (hn : noGet KK at_ = true := by k_is) {expr : Bool} :
    mwp knd Γ A (getAttr (.ref x) name expr) Q σ := m_attr X hx hd hl (fun v' e => (show v' = _ from e) ▸ h) rfl hg hh ha hn
inductive ForKQ (knd : PySem.KeyKind prog w K) (Γ : Fx) (A : Around) (env : Env) (x : Str) (body : List Stmt) (QF : Flow → MS K → Prop) (v : Value) (σ₁ : MS K) : Prop
  | mk (D : Addr) (o : O K) (σ₀ : MS K) (xs : List V) (It : Nat → Obj → Prop) (e : σ₁ = MS.set σ₀ D o) (hD : σ₀.h D = none) (Y : Yields knd A v xs (fun σ => σ.h D = some o) It) (J : Nat → MS K → Prop) (j0 : J 0 σ₀)
      (step : ∀ i y σ I ob hb ob2 hb2, xs[i]? = some y → J i σ → mwp knd ((Γ.freeze I ob hb).freeze D ob2 hb2) A (execs body env) (fun f σ₂ => match f with
        | .next | .cont => J (i + 1) σ₂
        | .brk => σ₂.h D = none → QF .next (σ₂.set D o)
        | .ret v => σ₂.h D = none → QF (.ret v) (σ₂.set D o)) (σ.store x y)) (fin : ∀ σ, J xs.length σ → σ.h D = none → QF .next (σ.set D o))
theorem m_ForK {x : Str} {px pos : Pos} {iter : Expr} {body : List Stmt} (h : mwp knd Γ A (eval iter env) (ForKQ knd Γ A env x body QF) σ)
    (hs : ∀ x, foldedSetIterable iter env x = pure x := by intro _; rfl) (hk : env.scope.kind = .function := by rfl) (hl : env.kindOf x = some .local := by rfl) (he : env.locals = Γ.L := by rfl) :
    mwp knd Γ A (exec (.For (.Name x px) iter body [] pos) env) QF σ := by
  refine m_For (mwp_mono h ?_) hs hk hl he
  rintro v _ ⟨D, o, σ₀, xs, It, rfl, hD, Y, J, j0, step, fin⟩
  refine ⟨xs, _, It, Y, fun i σ' => ∃ σ₀, σ' = MS.set σ₀ D o ∧ σ₀.h D = none ∧ J i σ₀, ⟨σ₀, rfl, hD, j0⟩, ?_, ?_, ?_⟩
  · rintro i _ ⟨σ₀, rfl, _, _⟩; exact put_same
  · rintro i y _ I ob hb hy ⟨σ₀, rfl, hD, j⟩
    refine mwp_mono (m_frame (σ := σ₀.store x y) (D := D) (o := o) hD fun ob2 hb2 => step i y σ₀ I ob hb ob2 hb2 hy j) ?_
    rintro f _ ⟨σ₂, rfl, h2, q⟩
    cases f with
    | next => exact ⟨σ₂, rfl, h2, q⟩
    | cont => exact ⟨σ₂, rfl, h2, q⟩
    | brk => exact q h2
    | ret v => exact q h2
  · rintro _ ⟨σ₀, rfl, h2, j⟩; exact fin σ₀ j h2
end
end Mine
end
section
open PySem PySem.W PyProof.Rows PySem.SeqAt
set_option maxHeartbeats 400000
namespace Mine
section
variable {prog : Program} {w : World} {K : Type} [DecidableEq K]
noncomputable def EvP (knd : PySem.KeyKind prog w K) (Γ : Fx) (A : Around) (env : Env) (σ : MS K) (e : Expr) (v : V) : Prop :=
  ∀ Q : Value → MS K → Prop, (∀ r, v.is r → Q r σ) → mwp knd Γ A (eval e env) Q σ
noncomputable def TvP (knd : PySem.KeyKind prog w K) (Γ : Fx) (A : Around) (env : Env) (σ : MS K) (e : Expr) (b : Bool) : Prop :=
  ∀ Q : Bool → MS K → Prop, Q b σ → mwp knd Γ A (isTrue e env (eval e env)) Q σ
end
section
variable {prog : Program} {w : World} {K : Type} [DecidableEq K] {knd : PySem.KeyKind prog w K} {Γ : Fx} {σ : MS K} {A : Around} {env : Env} {α : Type} {s : Shared} {Q : Value → MS K → Prop} {QB : Bool → MS K → Prop} {QU : Unit → MS K → Prop} {QF : Flow → MS K → Prop}
variable {KK : Frag} {p : Program} {loose : List Str} {mg mb : Str → Option Value} {t u : Tok} {pos pos' : Pos} {k : Nat} {x y z : Expr} {a b : Int} {st : Stmt} {rest : List Stmt}
theorem evI (h : EvP knd Γ A env σ x (.int a)) (k : ∀ t, Q (.int a t) σ) : mwp knd Γ A (eval x env) Q σ := h Q fun _ ⟨t, e⟩ => e ▸ k t
theorem evS {a : Str} (h : EvP knd Γ A env σ x (.str a)) (k : ∀ t, Q (.str a t) σ) : mwp knd Γ A (eval x env) Q σ := h Q fun _ ⟨t, e⟩ => e ▸ k t
theorem evY {a : Array UInt8} (h : EvP knd Γ A env σ x (.bytes a)) (k : ∀ t, Q (.bytes a t) σ) : mwp knd Γ A (eval x env) Q σ := h Q fun _ ⟨t, e⟩ => e ▸ k t
theorem evR {a : Addr} (h : EvP knd Γ A env σ x (.ref a)) (k : Q (.ref a) σ) : mwp knd Γ A (eval x env) Q σ := h Q fun v e => (show v = _ from e) ▸ k
theorem evB {a : Bool} (h : EvP knd Γ A env σ x (.bool a)) (k : Q (.bool a) σ) : mwp knd Γ A (eval x env) Q σ := h Q fun v e => (show v = _ from e) ▸ k
theorem evN (h : EvP knd Γ A env σ x .none) (k : Q .none σ) : mwp knd Γ A (eval x env) Q σ := h Q fun v e => (show v = _ from e) ▸ k
theorem evF {a : Value} (h : EvP knd Γ A env σ x (.fn a)) (k : Q a σ) : mwp knd Γ A (eval x env) Q σ := h Q fun v e => (show v = _ from e) ▸ k
theorem tvU {b : Bool} (h : TvP knd Γ A env σ x b) (k : QB b σ) : mwp knd Γ A (isTrue x env (eval x env)) QB σ := h QB k
theorem EvP.int {i : Int} : EvP knd Γ A env σ (.Constant (.int i) k pos) (.int i) := fun Q h => m_int fun t => h _ ⟨t, rfl⟩
theorem EvP.str {i : Str} : EvP knd Γ A env σ (.Constant (.str i) k pos) (.str i) := fun Q h => m_str fun t => h _ ⟨t, rfl⟩
theorem EvP.bool {i : Bool} : EvP knd Γ A env σ (.Constant (.bool i) k pos) (.bool i) := fun Q h => m_bool (h _ rfl)
theorem EvP.none : EvP knd Γ A env σ (.Constant .none k pos) .none := fun Q h => m_none (h _ rfl)
theorem EvP.nm {x : Str} {v : V} (hm : σ.m x = some v) (hk : (env.scope.kind, env.kindOf x, x == ("__debug__" : Str)) = (.function, some .local, false) := by rfl) (he : env.locals = Γ.L := by rfl) : EvP knd Γ A env σ (.Name x pos) v :=
  fun Q h => m_Name (m_load hm h (congrArg Prod.fst hk) (congrArg (·.2.1) hk) he) (congrArg (·.2.2) hk)
theorem EvP.cell {x : Str} {c : Addr} {v : V} (hm : σ.h c = some (.cell (some v))) (hk : (env.scope.kind, env.kindOf x, x == ("__debug__" : Str), env.cells.lookup x) = (.function, some .cell, false, some c) := by rfl) : EvP knd Γ A env σ (.Name x pos) v :=
  fun Q h => m_Name (m_loadCell hm h (congrArg Prod.fst hk) (congrArg (·.2.1) hk) (congrArg (·.2.2.2) hk)) (congrArg (·.2.2.1) hk)
theorem EvP.gK {x : Str} {r : Value} {v : V} (Z : Here KK p loose mg mb Γ.base) (hv : v.is r) (e : nsIn KK mainGlobals x = some (some r) := by k_is) (hk : (env.scope.kind, env.kindOf x, x == ("__debug__" : Str)) = (.function, some .globalImplicit, false) := by rfl)
    (he : env.globals = mainGlobals := by rfl) : EvP knd Γ A env σ (.Name x pos) v :=
  fun Q h => m_Name (m_gK Z (h _ hv) e (congrArg Prod.fst hk) (congrArg (·.2.1) hk) he) (congrArg (·.2.2) hk)
theorem EvP.add (h1 : EvP knd Γ A env σ x (.int a)) (h2 : EvP knd Γ A env σ y (.int b)) : EvP knd Γ A env σ (.BinOp x .Add y pos) (.int (a + b)) := fun Q h => m_BinOp (evI h1 fun _ => evI h2 fun _ => m_add fun t => h _ ⟨t, rfl⟩)
theorem EvP.sub (h1 : EvP knd Γ A env σ x (.int a)) (h2 : EvP knd Γ A env σ y (.int b)) : EvP knd Γ A env σ (.BinOp x .Sub y pos) (.int (a - b)) := fun Q h => m_BinOp (evI h1 fun _ => evI h2 fun _ => m_sub fun t => h _ ⟨t, rfl⟩)
theorem EvP.mul (h1 : EvP knd Γ A env σ x (.int a)) (h2 : EvP knd Γ A env σ y (.int b)) (hm : IntMulOk a b) : EvP knd Γ A env σ (.BinOp x .Mult y pos) (.int (a * b)) := fun Q h => m_BinOp (evI h1 fun _ => evI h2 fun _ => m_mul hm fun t => h _ ⟨t, rfl⟩)
theorem EvP.mod (h1 : EvP knd Γ A env σ x (.int a)) (h2 : EvP knd Γ A env σ y (.int b)) (hb : b ≠ 0) : EvP knd Γ A env σ (.BinOp x .Mod y pos) (.int (a.fmod b)) := fun Q h => m_BinOp (evI h1 fun _ => evI h2 fun _ => m_mod hb fun t => h _ ⟨t, rfl⟩)
theorem EvP.div (h1 : EvP knd Γ A env σ x (.int a)) (h2 : EvP knd Γ A env σ y (.int b)) (hb : b ≠ 0) (hs : b.natAbs < 2 ^ 64) : EvP knd Γ A env σ (.BinOp x .FloorDiv y pos) (.int (a.fdiv b)) := fun Q h => m_BinOp (evI h1 fun _ => evI h2 fun _ => m_div hb (noPylong hs) fun t => h _ ⟨t, rfl⟩)
theorem EvP.and (h1 : EvP knd Γ A env σ x (.int a)) (h2 : EvP knd Γ A env σ y (.int b)) : EvP knd Γ A env σ (.BinOp x .BitAnd y pos) (.int (Builtin.bitAnd a b)) := fun Q h => m_BinOp (evI h1 fun _ => evI h2 fun _ => m_and fun t => h _ ⟨t, rfl⟩)
theorem TvP.eqi (h1 : EvP knd Γ A env σ x (.int a)) (h2 : EvP knd Γ A env σ y (.int b)) (hm : behindInMarks .Eq y = false := by with_unfolding_all rfl) : TvP knd Γ A env σ (.Compare x [.Eq] [y] pos) (a == b) := fun Q h => m_isCompare (evI h1 fun _ => evI h2 fun _ => m_eqi (m_trBool h)) hm
theorem TvP.nei (h1 : EvP knd Γ A env σ x (.int a)) (h2 : EvP knd Γ A env σ y (.int b)) (hm : behindInMarks .NotEq y = false := by with_unfolding_all rfl) : TvP knd Γ A env σ (.Compare x [.NotEq] [y] pos) (a != b) := fun Q h => m_isCompare (evI h1 fun _ => evI h2 fun _ => m_nei (m_trBool h)) hm
theorem TvP.lti (h1 : EvP knd Γ A env σ x (.int a)) (h2 : EvP knd Γ A env σ y (.int b)) (hm : behindInMarks .Lt y = false := by with_unfolding_all rfl) : TvP knd Γ A env σ (.Compare x [.Lt] [y] pos) (decide (a < b)) := fun Q h => m_isCompare (evI h1 fun _ => evI h2 fun _ => m_lti (m_trBool h)) hm
theorem TvP.gti (h1 : EvP knd Γ A env σ x (.int a)) (h2 : EvP knd Γ A env σ y (.int b)) (hm : behindInMarks .Gt y = false := by with_unfolding_all rfl) : TvP knd Γ A env σ (.Compare x [.Gt] [y] pos) (decide (b < a)) := fun Q h => m_isCompare (evI h1 fun _ => evI h2 fun _ => m_gti (m_trBool h)) hm
theorem TvP.gei (h1 : EvP knd Γ A env σ x (.int a)) (h2 : EvP knd Γ A env σ y (.int b)) (hm : behindInMarks .GtE y = false := by with_unfolding_all rfl) : TvP knd Γ A env σ (.Compare x [.GtE] [y] pos) (decide (b ≤ a)) := fun Q h => m_isCompare (evI h1 fun _ => evI h2 fun _ => m_gei (m_trBool h)) hm
theorem TvP.eqs {a b : Str} (h1 : EvP knd Γ A env σ x (.str a)) (h2 : EvP knd Γ A env σ y (.str b)) (hm : behindInMarks .Eq y = false := by with_unfolding_all rfl) : TvP knd Γ A env σ (.Compare x [.Eq] [y] pos) (a == b) := fun Q h => m_isCompare (evS h1 fun _ => evS h2 fun _ => m_eqs (m_trBool h)) hm
theorem TvP.vb {b : Bool} (h1 : EvP knd Γ A env σ x (.bool b)) (he : isTrue x env (eval x env) = (do let v ← eval x env; standAt x.pos; holding [v] (truthy v)) := by rfl) : TvP knd Γ A env σ x b := fun Q h => m_isValue (evB h1 (m_trBool h)) he
theorem m_AssignE {n : Str} {v : V} (h : EvP knd Γ A env σ x v) (k : mwp knd Γ A (execs rest env) QF (σ.store n v)) (hk : (env.scope.kind, env.kindOf n) = (.function, some .local) := by rfl) (he : env.locals = Γ.L := by rfl)
    (hs : swapsWith x (some (.Name n pos')) pos.line env = pure false := by rfl) : mwp knd Γ A (execs (.Assign [.Name n pos'] x pos :: rest) env) QF σ :=
  m_cons (m_AssignName (h _ fun _ hv => m_store hv k (congrArg Prod.fst hk) (congrArg Prod.snd hk) he) hs)
theorem m_IaddE {n : Str} (h1 : σ.m n = some (.int a)) (h : EvP knd Γ A env σ x (.int b)) (k : mwp knd Γ A (execs rest env) QF (σ.store n (.int (a + b)))) (hk : (env.scope.kind, env.kindOf n) = (.function, some .local) := by rfl) (he : env.locals = Γ.L := by rfl) :
    mwp knd Γ A (execs (.AugAssign (.Name n pos') .Add x pos :: rest) env) QF σ :=
  m_cons (m_AugName (m_load h1 (fun _ ⟨_, e⟩ => e ▸ evI h fun _ => m_iadd fun t => m_store (v := .int (a + b)) ⟨t, rfl⟩ k (congrArg Prod.fst hk) (congrArg Prod.snd hk) he) (congrArg Prod.fst hk) (congrArg Prod.snd hk) he))
theorem m_IsubE {n : Str} (h1 : σ.m n = some (.int a)) (h : EvP knd Γ A env σ x (.int b)) (k : mwp knd Γ A (execs rest env) QF (σ.store n (.int (a - b)))) (hk : (env.scope.kind, env.kindOf n) = (.function, some .local) := by rfl) (he : env.locals = Γ.L := by rfl) :
    mwp knd Γ A (execs (.AugAssign (.Name n pos') .Sub x pos :: rest) env) QF σ :=
  m_cons (m_AugName (m_load h1 (fun _ ⟨_, e⟩ => e ▸ evI h fun _ => m_isub fun t => m_store (v := .int (a - b)) ⟨t, rfl⟩ k (congrArg Prod.fst hk) (congrArg Prod.snd hk) he) (congrArg Prod.fst hk) (congrArg Prod.snd hk) he))
end
end Mine
end
local macro_rules | `(tactic| walk_at "hl") => `(tactic| first | assumption | exact Mine.put_same | exact Mine.put_sub (by assumption) _ _ (by walk_at "hl") | exact (Mine.put_other (by first | assumption | exact Ne.symm (by assumption))).trans (by walk_at "hl") | exact Mine.put_diff (by walk_at "hl") (by walk_at "hl") (by intro q; cases q) | rfl)
local macro_rules | `(tactic| walk_at "ms_sub") => `(tactic| repeat (first | exact Mine.Sub.nil | refine Mine.Sub.cons (by rfl) ?_))
local macro_rules | `(tactic| walk_at "ms_fit") => `(tactic| exact ⟨by walk_at "ms_sub", fun _ _ e => e⟩)
section
open PySem PySem.W PyProof.Rows
theorem Mine.fill : (PySem.Challenge.rw_ny0306_01, Mine.hd1.heap_1) = (PySem.Challenge.rw_ny0306_01, Mine.hd1.heap_1) := by k_fill; rfl
end
section
open PySem PySem.W PyProof.Rows PySem.SeqAt
set_option maxHeartbeats 400000
namespace Mine
section
variable {prog : Program} {w : World} {K : Type} [DecidableEq K] {knd : PySem.KeyKind prog w K} {Γ : Fx} {σ : MS K} {A : Around} {env : Env} {α : Type} {s : Shared} {Q : Value → MS K → Prop} {QB : Bool → MS K → Prop} {QU : Unit → MS K → Prop} {QF : Flow → MS K → Prop}
variable {p : Program} {loose : List Str} {mg mb : Str → Option Value} {t u : Tok} {n : Nat}

theorem c_subst {a b : Str} (ha : a.length ≤ 5592405) (hb : b.length ≤ 5592405) (Z : Here (Mine.hd1.heap_1 w.params) p loose mg mb Γ.base) (hA : Dp A n) (h : ∀ t, Q (.int (sCost a b) t) σ) : mcode knd Γ A (.call (.ref 178) ⟨[.str a t, .str b u], []⟩) Q σ := by
  refine c_fun ["ch_a", "ch_b"] [.str a, .str b] Z hA (.cons ⟨t, rfl⟩ (.cons ⟨u, rfl⟩ .nil)) ?_
  intro _
  refine m_cons ?_
  refine m_If ?_
  refine tvU (TvP.eqs (EvP.nm (v := .str _) (by rfl)) (EvP.nm (v := .str _) (by rfl))) ?_
  refine ite_of (fun e => ?_) fun e => ?_
  · refine m_abs fun Zq0 hZq0 => ?_
    refine m_cons ?_
    refine m_Return ?_
    refine evI EvP.int fun _ => ?_
    refine hZq0 _ _ ?_
    have := h; unfold sCost at this; rw [if_pos e] at this; exact ⟨_, fun _ _ e => e, this _⟩
  · refine m_nil ?_
    refine m_cons ?_
    refine m_If ?_
    refine m_isCompare ?_
    refine m_abs fun Zq0 hZq0 => ?_
    refine m_Method ?_
    refine evS (EvP.nm (v := .str _) (by rfl)) fun _ => ?_
    refine m_methStr PySem.F.slot_str_lower PySem.F.type_str_lower ?_
    refine m_callB0 ?_
    refine m_lower ha fun _ => ?_
    refine hZq0 _ _ ?_
    refine m_abs fun Zq1 hZq1 => ?_
    refine m_Method ?_
    refine evS (EvP.nm (v := .str _) (by rfl)) fun _ => ?_
    refine m_methStr PySem.F.slot_str_lower PySem.F.type_str_lower ?_
    refine m_callB0 ?_
    refine m_lower hb fun _ => ?_
    refine hZq1 _ _ ?_
    refine m_eqs ?_
    refine m_trBool ?_
    refine ite_of (fun e' => ?_) fun e' => ?_
    · refine m_abs fun Zq2 hZq2 => ?_
      refine m_cons ?_
      refine m_Return ?_
      refine evI (EvP.gK (v := .int _) (by assumption) ⟨_, rfl⟩) fun _ => ?_
      refine hZq2 _ _ ?_
      have := h; unfold sCost at this; rw [if_neg e, if_pos e'] at this; exact ⟨_, fun _ _ e => e, this _⟩
    · refine m_nil ?_
      refine m_cons ?_
      refine m_Return ?_
      refine evI (EvP.gK (v := .int _) (by assumption) ⟨_, rfl⟩) fun _ => ?_
      have := h; unfold sCost at this; rw [if_neg e, if_neg e'] at this; exact ⟨_, fun _ _ e => e, this _⟩
end
end Mine
end
section
open PySem PySem.W PyProof.Rows PySem.SeqAt
set_option maxHeartbeats 1000000
namespace Mine
section
variable {prog : Program} {w : World} {K : Type} [DecidableEq K] {knd : PySem.KeyKind prog w K} {Γ : Fx} {σ : MS K} {A : Around} {env : Env} {α : Type} {s : Shared} {Q : Value → MS K → Prop} {QB : Bool → MS K → Prop} {QU : Unit → MS K → Prop} {QF : Flow → MS K → Prop}
variable {p : Program} {loose : List Str} {mg mb : Str → Option Value} {t u v : Tok} {n : Nat}

theorem stripP_eq {x : Nat} {a b : List Nat} : stripP (x :: a) (x :: b) = stripP a b := by rw [stripP, if_pos rfl]
theorem stripP_ne {x y : Nat} {a b : List Nat} (h : x ≠ y) : stripP (x :: a) (y :: b) = (x :: a, y :: b) := by rw [stripP, if_neg h]
theorem stripP_nil1 {b : List Nat} : stripP [] b = ([], b) := by simp [stripP]
theorem stripP_nil2 {b : List Nat} : stripP b [] = (b, []) := by cases b <;> simp [stripP]
theorem drop_at {l : List Nat} {k : Nat} (h : l.drop k ≠ []) : ∃ c, l[k]? = some c ∧ l.drop k = c :: l.drop (k + 1) := by
  have hk : k < l.length := by
    apply Classical.byContradiction; intro q; exact h (List.drop_eq_nil_of_le (by omega))
  skip
  exact ⟨l[k], List.getElem?_eq_getElem hk, List.drop_eq_getElem_cons hk⟩

theorem inner_length (x : Nat) : ∀ (a : List Nat) (row : List Int) (d res mn : Int), row.length = a.length → (inner x a row d res mn).1.length = a.length
  | [], [], _, _, _, _ => rfl
  | c :: a, r :: row, d, res, mn, h => by simp only [inner, List.length_cons]; rw [inner_length x a row _ _ _ (by simpa using h)]
  | [], _ :: _, _, _, _, h => by cases h
  | _ :: _, [], _, _, _, h => by cases h
theorem c_subst1 {x y : Nat} (Z : Here (Mine.hd1.heap_1 w.params) p loose mg mb Γ.base) (hA : Dp A n) (h : ∀ t, Q (.int (sc x y) t) σ) : mcode knd Γ A (.call (.ref 178) ⟨[.str (T [x]) t, .str (T [y]) u], []⟩) Q σ :=
  c_subst (by rw [T_len]; show 1 ≤ _; decide) (by rw [T_len]; show 1 ≤ _; decide) Z hA h
inductive LevPre {K : Type} (a b : List Nat) (mx : Int) (h0 : Addr → Option (O K)) (n' : Nat) (σ' : MS K) : Prop
  | mk (k : Nat) (e : n' = a.length - k) (h1 : k ≤ a.length) (h2 : k ≤ b.length) (h3 : stripP (a.drop k) (b.drop k) = stripP a b) (hf : Fit σ' (names [("a", .str (T a)), ("b", .str (T b)), ("max_cost", .int mx), ("pre", .int k)]) h0)
inductive LevPost {K : Type} (a1 b1 : List Nat) (mx : Int) (h0 : Addr → Option (O K)) (n' : Nat) (σ' : MS K) : Prop
  | mk (j : Nat) (e : n' = a1.length - j) (h1 : j ≤ a1.length) (h2 : j ≤ b1.length) (h3 : stripP (a1.reverse.drop j) (b1.reverse.drop j) = stripP a1.reverse b1.reverse) (hf : Fit σ' (names [("a", .str (T a1)), ("b", .str (T b1)), ("max_cost", .int mx), ("post", .int (-(j : Int)))]) h0)
inductive LevRow {K : Type} (a3 b3 : List Nat) (mx : Int) (r : Addr) (h0 : Addr → Option (O K)) (i : Nat) (σ' : MS K) : Prop
  | mk (row : List Int) (res : Int) (h1 : row.length = a3.length) (h2 : rows a3 mx (b3.drop i) i row res = rows a3 mx b3 0 (row0 a3.length) 0)
      (hf : Fit σ' (names [("a", .str (T a3)), ("b", .str (T b3)), ("max_cost", .int mx), ("row", .ref r), ("result", .int res)]) (put h0 r (.list (row.map V.int))))
inductive LevIn {K : Type} (a3 b3 : List Nat) (mx : Int) (r : Addr) (h0 : Addr → Option (O K)) (x : Nat) (row : List Int) (d0 : Int) (k : Nat) (σ' : MS K) : Prop
  | mk (d re mn : Int) (done : List Int) (h1 : done.length = k) (h2 : (done ++ (inner x (a3.drop k) (row.drop k) d re mn).1, (inner x (a3.drop k) (row.drop k) d re mn).2) = inner x a3 row d0 d0 9223372036854775807)
      (hf : Fit σ' (names [("a", .str (T a3)), ("b", .str (T b3)), ("max_cost", .int mx), ("row", .ref r), ("bchar", .str (T [x])), ("distance", .int d), ("result", .int re), ("minimum", .int mn)]) (put h0 r (.list ((done ++ row.drop k).map V.int))))
theorem c_lev {a b : List Nat} {mx : Int} (ha : a.length ≤ 1000) (hb : b.length ≤ 1000) (Z : Here (Mine.hd1.heap_1 w.params) p loose mg mb Γ.base) (hA : Dp A (n + 1)) (h : ∀ t, Q (.int (lev a b mx) t) σ) :
    mcode knd Γ A (.call (.ref 185) ⟨[.str (T a) t, .str (T b) u, .int mx v], []⟩) Q σ := by
  refine c_fun ["a", "b", "max_cost"] [.str (T a), .str (T b), .int mx] Z hA (.cons ⟨t, rfl⟩ (.cons ⟨u, rfl⟩ (.cons ⟨v, rfl⟩ .nil))) ?_
  intro L'
  refine m_cons ?_
  refine m_If ?_
  refine tvU (TvP.eqs (EvP.nm (v := .str _) (by rfl)) (EvP.nm (v := .str _) (by rfl))) ?_
  rw [T_beq]
  refine ite_of (fun e => ?_) fun e => ?_
  · refine m_abs fun Zq0 hZq0 => ?_
    refine m_cons ?_
    refine m_Return ?_
    refine evI EvP.int fun _ => ?_
    refine hZq0 _ _ ?_
    have := h; unfold lev at this; rw [if_pos (by simpa using e)] at this; exact ⟨_, fun _ _ e => e, this _⟩
  have hne : a ≠ b := by simpa using e
  refine m_nil ?_
  refine m_AssignE EvP.int ?_
  refine m_cons ?_
  refine m_weak (m' := names [("a", .str (T a)), ("b", .str (T b)), ("max_cost", .int mx), ("pre", .int (0 : Nat))]) (h' := σ.h) (by walk_at "ms_sub") (fun _ _ e => e) ?_
  refine m_then (P := fun σ' => ∃ k : Nat, k ≤ a.length ∧ k ≤ b.length ∧ stripP a b = (a.drop k, b.drop k) ∧ Fit σ' (names [("a", .str (T a)), ("b", .str (T b)), ("max_cost", .int mx), ("pre", .int k)]) σ.h) ?_ ?_
  · refine m_While (I := LevPre a b mx σ.h) (n := a.length) ⟨0, rfl, by omega, by omega, rfl, by walk_at "ms_fit"⟩ ?_
    rintro n' σ' ⟨k, rfl, h1, h2, h3, hf⟩
    refine m_fit hf ?_
    refine m_abs fun Zq0 hZq0 => ?_
    refine m_isBoolOp ?_
    refine m_andCons ?_
    refine m_isValue ?_
    refine m_SubSlice ?_
    refine evS (EvP.nm (v := .str _) (by rfl)) fun _ => ?_
    refine m_part ?_
    refine evI (EvP.nm (v := .int _) (by rfl)) fun _ => ?_
    refine m_part0 ?_
    refine slS (.int _ _) .none ha (slice_drop h1) fun _ => ?_
    skip
    refine m_trT (by simp; omega) ?_
    refine ite_of (fun e1 => ?_) fun e1 => ?_
    rotate_left
    · refine hZq0 _ _ ?_
      refine ifalse (by decide) ?_
      refine m_nil ?_
      refine ⟨rfl, k, h1, h2, ?_, by walk_at "ms_fit"⟩
      have : a.drop k = [] := by simpa using e1
      rw [← h3, this, stripP_nil1]
    refine m_andCons ?_
    refine m_isValue ?_
    refine m_SubSlice ?_
    refine evS (EvP.nm (v := .str _) (by rfl)) fun _ => ?_
    refine m_part ?_
    refine evI (EvP.nm (v := .int _) (by rfl)) fun _ => ?_
    refine m_part0 ?_
    refine slS (.int _ _) .none hb (slice_drop h2) fun _ => ?_
    skip
    refine m_trT (by simp; omega) ?_
    refine ite_of (fun e2 => ?_) fun e2 => ?_
    rotate_left
    · refine hZq0 _ _ ?_
      refine ifalse (by decide) ?_
      refine m_nil ?_
      refine ⟨rfl, k, h1, h2, ?_, by walk_at "ms_fit"⟩
      have : b.drop k = [] := by simpa using e2
      rw [← h3, this, stripP_nil2]
    obtain ⟨ca, q1, q2⟩ := drop_at (l := a) (k := k) (by simpa using e1)
    obtain ⟨cb, q3, q4⟩ := drop_at (l := b) (k := k) (by simpa using e2)
    have k1 := (List.getElem?_eq_some_iff.mp q1).1
    have k2 := (List.getElem?_eq_some_iff.mp q3).1
    refine m_andCons ?_
    refine m_isCompare ?_
    refine m_Sub ?_
    refine evS (EvP.nm (v := .str _) (by rfl)) fun _ => ?_
    refine evI (EvP.nm (v := .int _) (by rfl)) fun _ => ?_
    refine m_atT (by omega) q1 fun _ => ?_
    refine m_Sub ?_
    refine evS (EvP.nm (v := .str _) (by rfl)) fun _ => ?_
    refine evI (EvP.nm (v := .int _) (by rfl)) fun _ => ?_
    refine m_atT (by omega) q3 fun _ => ?_
    refine m_eqs ?_
    refine m_trBool ?_
    rw [T_beq]
    refine ite_of (fun e3 => ?_) fun e3 => ?_
    · refine m_andNil ?_
      refine hZq0 _ _ ?_
      skip
      refine itrue rfl ?_
      refine m_IaddE (by rfl) EvP.int ?_
      refine m_nil ?_
      have e3 : ca = cb := by simpa using e3
      subst e3
      skip
      refine ⟨a.length - (k + 1), by omega, k + 1, rfl, by omega, by omega, ?_, ?_⟩
      · rw [← h3, q2, q4, stripP_eq]
      · walk_at "ms_fit"
    · refine hZq0 _ _ ?_
      refine ifalse (by decide) ?_
      refine m_nil ?_
      refine ⟨rfl, k, h1, h2, ?_, by walk_at "ms_fit"⟩
      rw [← h3, q2, q4, stripP_ne (by simpa using e3)]
  rintro σ' ⟨k, hk1, hk2, hk3, hf⟩
  refine m_fit hf ?_
  refine m_cons ?_
  refine m_AssignName ?_
  refine m_SubSlice ?_
  refine evS (EvP.nm (v := .str _) (by rfl)) fun _ => ?_
  refine m_part ?_
  refine evI (EvP.nm (v := .int _) (by rfl)) fun _ => ?_
  refine m_part0 ?_
  refine slS (.int _ _) .none ha (slice_drop hk1) fun _ => ?_
  refine m_sts ?_
  refine m_cons ?_
  refine m_AssignName ?_
  refine m_SubSlice ?_
  refine evS (EvP.nm (v := .str _) (by rfl)) fun _ => ?_
  refine m_part ?_
  refine evI (EvP.nm (v := .int _) (by rfl)) fun _ => ?_
  refine m_part0 ?_
  refine slS (.int _ _) .none hb (slice_drop hk2) fun _ => ?_
  have la : (a.drop k).length ≤ 1000 := by simp; omega
  have lb : (b.drop k).length ≤ 1000 := by simp; omega
  have hlev : ∀ r, stripS (a.drop k) (b.drop k) = r → lev a b mx = levB r.1 r.2 mx := by
    intro r hr; subst hr; unfold lev; rw [if_neg hne, hk3]
  revert la lb hlev
  generalize a.drop k = a1
  generalize b.drop k = b1
  intro la lb hlev
  refine m_sts ?_
  refine m_AssignE EvP.int ?_
  refine m_cons ?_
  refine m_then (P := fun σ' => ∃ j : Nat, j ≤ a1.length ∧ j ≤ b1.length ∧ stripS a1 b1 = (a1.take (a1.length - j), b1.take (b1.length - j)) ∧ Fit σ' (names [("a", .str (T a1)), ("b", .str (T b1)), ("max_cost", .int mx), ("post", .int (-(j : Int)))]) σ.h) ?_ ?_
  · refine m_While (I := LevPost a1 b1 mx σ.h) (n := a1.length) ⟨0, rfl, by omega, by omega, rfl, by walk_at "ms_fit"⟩ ?_
    rintro n' σ' ⟨j, rfl, h1, h2, h3, hf⟩
    refine m_fit hf ?_
    refine m_abs fun Zq0 hZq0 => ?_
    refine m_isBoolOp ?_
    refine m_andCons ?_
    refine m_isValue ?_
    refine m_SubSlice ?_
    refine evS (EvP.nm (v := .str _) (by rfl)) fun _ => ?_
    refine m_part0 ?_
    refine m_part ?_
    refine m_or2 ?_
    refine evI (EvP.nm (v := .int _) (by rfl)) fun _ => ?_
    refine m_trInt ?_
    refine slS_post h1 la fun _ => ?_
    skip
    refine m_trT (by simp; omega) ?_
    refine ite_of (fun e1 => ?_) fun e1 => ?_
    rotate_left
    · refine hZq0 _ _ ?_
      refine ifalse (by decide) ?_
      refine m_nil ?_
      refine ⟨rfl, j, h1, h2, ?_, by walk_at "ms_fit"⟩
      have e1 : a1.take (a1.length - j) = [] := Classical.byContradiction fun q => e1 (decide_eq_true q)
      unfold stripS
      rw [← h3, List.drop_reverse, List.drop_reverse, e1, List.reverse_nil, stripP_nil1]; simp
    refine m_andCons ?_
    refine m_isValue ?_
    refine m_SubSlice ?_
    refine evS (EvP.nm (v := .str _) (by rfl)) fun _ => ?_
    refine m_part0 ?_
    refine m_part ?_
    refine m_or2 ?_
    refine evI (EvP.nm (v := .int _) (by rfl)) fun _ => ?_
    refine m_trInt ?_
    refine slS_post h2 lb fun _ => ?_
    skip
    refine m_trT (by simp; omega) ?_
    refine ite_of (fun e2 => ?_) fun e2 => ?_
    rotate_left
    · refine hZq0 _ _ ?_
      refine ifalse (by decide) ?_
      refine m_nil ?_
      refine ⟨rfl, j, h1, h2, ?_, by walk_at "ms_fit"⟩
      have e2 : b1.take (b1.length - j) = [] := Classical.byContradiction fun q => e2 (decide_eq_true q)
      unfold stripS
      rw [← h3, List.drop_reverse, List.drop_reverse, e2, List.reverse_nil, stripP_nil2]; simp
    obtain ⟨ca, q1, q2⟩ := drop_at (l := a1.reverse) (k := j) (by rw [List.drop_reverse]; simpa using e1)
    obtain ⟨cb, q3, q4⟩ := drop_at (l := b1.reverse) (k := j) (by rw [List.drop_reverse]; simpa using e2)
    have k1 := (List.getElem?_eq_some_iff.mp q1).1
    have k2 := (List.getElem?_eq_some_iff.mp q3).1
    rw [List.length_reverse] at k1 k2
    rw [List.getElem?_reverse k1] at q1
    rw [List.getElem?_reverse k2] at q3
    refine m_andCons ?_
    refine m_isCompare ?_
    refine m_Sub ?_
    refine evS (EvP.nm (v := .str _) (by rfl)) fun _ => ?_
    refine evI (EvP.sub (EvP.nm (v := .int _) (by rfl)) EvP.int) fun _ => ?_
    refine m_atTneg (k := j) rfl k1 la (by rw [show a1.length - j - 1 = a1.length - 1 - j by omega]; exact q1) fun _ => ?_
    refine m_Sub ?_
    refine evS (EvP.nm (v := .str _) (by rfl)) fun _ => ?_
    refine evI (EvP.sub (EvP.nm (v := .int _) (by rfl)) EvP.int) fun _ => ?_
    refine m_atTneg (k := j) rfl k2 lb (by rw [show b1.length - j - 1 = b1.length - 1 - j by omega]; exact q3) fun _ => ?_
    refine m_eqs ?_
    refine m_trBool ?_
    rw [T_beq]
    refine ite_of (fun e3 => ?_) fun e3 => ?_
    · refine m_andNil ?_
      refine hZq0 _ _ ?_
      skip
      refine itrue rfl ?_
      refine m_IsubE (by rfl) EvP.int ?_
      refine m_nil ?_
      have e3 : ca = cb := by simpa using e3
      subst e3
      skip
      refine ⟨a1.length - (j + 1), by omega, j + 1, rfl, by omega, by omega, ?_, ?_⟩
      · rw [← h3, q2, q4, stripP_eq]
      · rw [show -(((j + 1 : Nat) : Int)) = -(j : Int) - 1 by omega]; walk_at "ms_fit"
    · refine hZq0 _ _ ?_
      refine ifalse (by decide) ?_
      refine m_nil ?_
      refine ⟨rfl, j, h1, h2, ?_, by walk_at "ms_fit"⟩
      unfold stripS
      rw [← h3, q2, q4, stripP_ne (by simpa using e3), ← q2, ← q4, List.drop_reverse, List.drop_reverse]; simp
  rintro σ' ⟨j, hj1, hj2, hj3, hf⟩
  have hlev := hlev _ hj3
  refine m_fit hf ?_
  refine m_cons ?_
  refine m_AssignName ?_
  refine m_SubSlice ?_
  refine evS (EvP.nm (v := .str _) (by rfl)) fun _ => ?_
  refine m_part0 ?_
  refine m_part ?_
  refine m_or2 ?_
  refine evI (EvP.nm (v := .int _) (by rfl)) fun _ => ?_
  refine m_trInt ?_
  refine slS_post hj1 la fun _ => ?_
  refine m_sts ?_
  refine m_cons ?_
  refine m_AssignName ?_
  refine m_SubSlice ?_
  refine evS (EvP.nm (v := .str _) (by rfl)) fun _ => ?_
  refine m_part0 ?_
  refine m_part ?_
  refine m_or2 ?_
  refine evI (EvP.nm (v := .int _) (by rfl)) fun _ => ?_
  refine m_trInt ?_
  refine slS_post hj2 lb fun _ => ?_
  have la2 : (a1.take (a1.length - j)).length ≤ 1000 := by simp; omega
  have lb2 : (b1.take (b1.length - j)).length ≤ 1000 := by simp; omega
  simp only at hlev
  revert la2 lb2 hlev
  generalize a1.take (a1.length - j) = a2
  generalize b1.take (b1.length - j) = b2
  intro hlev la2 lb2
  rw [hlev] at h
  have hA1 : ∀ e, Dp (A.deeper e) n := fun e => hA.deeper e
  refine m_sts ?_
  skip
  refine m_weak (m' := names [("a", .str (T a2)), ("b", .str (T b2)), ("max_cost", .int mx)]) (h' := σ.h) (by walk_at "ms_sub") (fun _ _ e => e) ?_
  refine m_cons ?_
  refine m_If ?_
  refine m_isBoolOp ?_
  refine m_orCons ?_
  refine m_abs fun Zq0 hZq0 => ?_
  refine m_isNot ?_
  refine m_isValue ?_
  refine evS (EvP.nm (v := .str _) (by rfl)) fun _ => ?_
  refine m_trT la2 ?_
  refine hZq0 _ _ ?_
  by_cases hnil : a2 = [] ∨ b2 = []
  · have h : ∀ t, Q (.int (2 * ((a2.length : Int) + b2.length)) t) σ := by unfold levB at h; rw [if_pos hnil] at h; exact h
    by_cases ha0 : a2 = []
    · skip
      refine itrue (by simp [ha0]) ?_
      skip
      skip
      refine itrue rfl ?_
      refine m_abs fun Zq1 hZq1 => ?_
      refine m_cons ?_
      refine m_Return ?_
      refine m_BinOp ?_
      refine evI (EvP.gK (v := .int _) (by assumption) ⟨_, rfl⟩) fun _ => ?_
      refine m_BinOp ?_
      refine m_abs fun Zq2 hZq2 => ?_
      refine m_Call ?_
      refine m_Name ?_
      first | refine m_gK (by assumption) ?_ | refine m_gB (by assumption) ?_
      refine m_callB ?_
      refine m_splE ?_
      refine evS (EvP.nm (v := .str _) (by rfl)) fun _ => ?_
      refine m_splE0 ?_
      refine m_lenT la2 fun _ => ?_
      refine hZq2 _ _ ?_
      refine m_abs fun Zq3 hZq3 => ?_
      refine m_Call ?_
      refine m_Name ?_
      first | refine m_gK (by assumption) ?_ | refine m_gB (by assumption) ?_
      refine m_callB ?_
      refine m_splE ?_
      refine evS (EvP.nm (v := .str _) (by rfl)) fun _ => ?_
      refine m_splE0 ?_
      refine m_lenT lb2 fun _ => ?_
      refine hZq3 _ _ ?_
      refine m_add fun _ => ?_
      first | refine m_mul (by first | exact IntMulOk.of_right (by decide) | exact IntMulOk.of_left (by decide) | assumption) fun _ => ?_ | refine m_mul ?_ fun _ => ?_
      refine hZq1 _ _ ?_
      exact ⟨_, fun _ _ e => e, h _⟩
    · skip
      refine ifalse (by simp; exact ha0) ?_
      refine m_orCons ?_
      refine m_abs fun Zq1 hZq1 => ?_
      refine m_isNot ?_
      refine m_isValue ?_
      refine evS (EvP.nm (v := .str _) (by rfl)) fun _ => ?_
      refine m_trT lb2 ?_
      refine hZq1 _ _ ?_
      skip
      refine itrue (by simp; rcases hnil with q | q; exact absurd q ha0; exact q) ?_
      skip
      skip
      refine itrue rfl ?_
      refine m_abs fun Zq2 hZq2 => ?_
      refine m_cons ?_
      refine m_Return ?_
      refine m_BinOp ?_
      refine evI (EvP.gK (v := .int _) (by assumption) ⟨_, rfl⟩) fun _ => ?_
      refine m_BinOp ?_
      refine m_abs fun Zq3 hZq3 => ?_
      refine m_Call ?_
      refine m_Name ?_
      first | refine m_gK (by assumption) ?_ | refine m_gB (by assumption) ?_
      refine m_callB ?_
      refine m_splE ?_
      refine evS (EvP.nm (v := .str _) (by rfl)) fun _ => ?_
      refine m_splE0 ?_
      refine m_lenT la2 fun _ => ?_
      refine hZq3 _ _ ?_
      refine m_abs fun Zq4 hZq4 => ?_
      refine m_Call ?_
      refine m_Name ?_
      first | refine m_gK (by assumption) ?_ | refine m_gB (by assumption) ?_
      refine m_callB ?_
      refine m_splE ?_
      refine evS (EvP.nm (v := .str _) (by rfl)) fun _ => ?_
      refine m_splE0 ?_
      refine m_lenT lb2 fun _ => ?_
      refine hZq4 _ _ ?_
      refine m_add fun _ => ?_
      first | refine m_mul (by first | exact IntMulOk.of_right (by decide) | exact IntMulOk.of_left (by decide) | assumption) fun _ => ?_ | refine m_mul ?_ fun _ => ?_
      refine hZq2 _ _ ?_
      exact ⟨_, fun _ _ e => e, h _⟩
  skip
  refine ifalse (by simp; exact fun q => hnil (.inl q)) ?_
  refine m_orCons ?_
  refine m_abs fun Zq1 hZq1 => ?_
  refine m_isNot ?_
  refine m_isValue ?_
  refine evS (EvP.nm (v := .str _) (by rfl)) fun _ => ?_
  refine m_trT lb2 ?_
  refine hZq1 _ _ ?_
  skip
  refine ifalse (by simp; exact fun q => hnil (.inr q)) ?_
  refine m_orNil ?_
  skip
  refine ifalse (by decide) ?_
  refine m_nil ?_
  refine m_cons ?_
  refine m_If ?_
  refine m_isBoolOp ?_
  refine m_orCons ?_
  refine m_abs fun Zq2 hZq2 => ?_
  refine m_isCompare ?_
  refine m_Call ?_
  refine m_Name ?_
  first | refine m_gK (by assumption) ?_ | refine m_gB (by assumption) ?_
  refine m_callB ?_
  refine m_splE ?_
  refine evS (EvP.nm (v := .str _) (by rfl)) fun _ => ?_
  refine m_splE0 ?_
  refine m_lenT la2 fun _ => ?_
  refine evI (EvP.gK (v := .int _) (by assumption) ⟨_, rfl⟩) fun _ => ?_
  refine m_gti ?_
  refine m_trBool ?_
  refine hZq2 _ _ ?_
  have hl40 : (40 : Int) < (a2.length : Int) ↔ 40 < a2.length := by omega
  by_cases h40 : a2.length > 40 ∨ b2.length > 40
  · have h : ∀ t, Q (.int (mx + 1) t) σ := by unfold levB at h; rw [if_neg hnil, if_pos h40] at h; exact h
    by_cases ha0 : a2.length > 40
    · skip
      refine itrue (by simp; omega) ?_
      skip
      skip
      refine itrue rfl ?_
      refine m_abs fun Zq3 hZq3 => ?_
      refine m_cons ?_
      refine m_Return ?_
      refine evI (EvP.add (EvP.nm (v := .int _) (by rfl)) EvP.int) fun _ => ?_
      refine hZq3 _ _ ?_
      exact ⟨_, fun _ _ e => e, h _⟩
    · skip
      refine ifalse (by simp; omega) ?_
      refine m_orCons ?_
      refine m_abs fun Zq3 hZq3 => ?_
      refine m_isCompare ?_
      refine m_Call ?_
      refine m_Name ?_
      first | refine m_gK (by assumption) ?_ | refine m_gB (by assumption) ?_
      refine m_callB ?_
      refine m_splE ?_
      refine evS (EvP.nm (v := .str _) (by rfl)) fun _ => ?_
      refine m_splE0 ?_
      refine m_lenT lb2 fun _ => ?_
      refine evI (EvP.gK (v := .int _) (by assumption) ⟨_, rfl⟩) fun _ => ?_
      refine m_gti ?_
      refine m_trBool ?_
      refine hZq3 _ _ ?_
      skip
      refine itrue (by simp; omega) ?_
      skip
      skip
      refine itrue rfl ?_
      refine m_abs fun Zq4 hZq4 => ?_
      refine m_cons ?_
      refine m_Return ?_
      refine evI (EvP.add (EvP.nm (v := .int _) (by rfl)) EvP.int) fun _ => ?_
      refine hZq4 _ _ ?_
      exact ⟨_, fun _ _ e => e, h _⟩
  skip
  refine ifalse (by simp; omega) ?_
  refine m_orCons ?_
  refine m_abs fun Zq3 hZq3 => ?_
  refine m_isCompare ?_
  refine m_Call ?_
  refine m_Name ?_
  first | refine m_gK (by assumption) ?_ | refine m_gB (by assumption) ?_
  refine m_callB ?_
  refine m_splE ?_
  refine evS (EvP.nm (v := .str _) (by rfl)) fun _ => ?_
  refine m_splE0 ?_
  refine m_lenT lb2 fun _ => ?_
  refine evI (EvP.gK (v := .int _) (by assumption) ⟨_, rfl⟩) fun _ => ?_
  refine m_gti ?_
  refine m_trBool ?_
  refine hZq3 _ _ ?_
  skip
  refine ifalse (by simp; omega) ?_
  refine m_orNil ?_
  skip
  refine ifalse (by decide) ?_
  refine m_nil ?_
  skip
  obtain ⟨a3, b3, hab, la3, lb3, hle, ha3⟩ : ∃ a3 b3, (a3, b3) = (if b2.length < a2.length then (b2, a2) else (a2, b2)) ∧ a3.length ≤ 40 ∧ b3.length ≤ 40 ∧ a3.length ≤ b3.length ∧ lev a b mx = levC a3 b3 mx := by
    by_cases hlt : b2.length < a2.length
    · skip
      refine ⟨b2, a2, by rw [if_pos hlt], by omega, by omega, by omega, ?_⟩
      rw [hlev]; unfold levB; rw [if_neg hnil, if_neg h40, if_pos hlt]
    · skip
      refine ⟨a2, b2, by rw [if_neg hlt], by omega, by omega, by omega, ?_⟩
      rw [hlev]; unfold levB; rw [if_neg hnil, if_neg h40, if_neg hlt]
  rw [← hlev, ha3] at h
  refine m_cons (m_then (P := fun σ' => Fit σ' (names [("a", .str (T a3)), ("b", .str (T b3)), ("max_cost", .int mx)]) σ.h) ?_ ?_)
  · refine m_If ?_
    refine m_abs fun Zq4 hZq4 => ?_
    refine m_isCompare ?_
    refine m_Call ?_
    refine m_Name ?_
    first | refine m_gK (by assumption) ?_ | refine m_gB (by assumption) ?_
    refine m_callB ?_
    refine m_splE ?_
    refine evS (EvP.nm (v := .str _) (by rfl)) fun _ => ?_
    refine m_splE0 ?_
    refine m_lenT lb2 fun _ => ?_
    refine m_Call ?_
    refine m_Name ?_
    first | refine m_gK (by assumption) ?_ | refine m_gB (by assumption) ?_
    refine m_callB ?_
    refine m_splE ?_
    refine evS (EvP.nm (v := .str _) (by rfl)) fun _ => ?_
    refine m_splE0 ?_
    refine m_lenT la2 fun _ => ?_
    refine m_lti ?_
    refine m_trBool ?_
    refine hZq4 _ _ ?_
    refine ite_of (fun e => ?_) fun e => ?_
    · rw [if_pos (by simpa using e)] at hab
      obtain ⟨rfl, rfl⟩ : a3 = b2 ∧ b3 = a2 := by simpa using hab
      refine m_cons (m_swap2 (hA1 _).hd (v1 := .str (T a3)) (v2 := .str (T b3)) ?_)
      refine m_Tuple ?_
      refine m_splE ?_
      refine evS (EvP.nm (v := .str _) (by rfl)) fun _ => ?_
      refine m_splE ?_
      refine evS (EvP.nm (v := .str _) (by rfl)) fun _ => ?_
      refine m_splE0 ?_
      refine m_newTuple (xs := [.str (T a3), .str (T b3)]) (.cons ⟨_, rfl⟩ (.cons ⟨_, rfl⟩ .nil)) (by show 2 ≤ sizeLine; decide) fun D hD => ?_
      skip
      refine ⟨D, rfl, by simp [MS.set, put], ?_⟩
      refine m_nil ?_
      refine ⟨rfl, by walk_at "ms_sub", fun a o e => ?_⟩
      show put σ.h D _ a = _
      unfold put; rw [if_neg (fun q => by rw [q, hD] at e; cases e)]; exact e
    · rw [if_neg (by simpa using e)] at hab
      obtain ⟨rfl, rfl⟩ : a3 = a2 ∧ b3 = b2 := by simpa using hab
      refine m_nil ?_
      exact ⟨rfl, by walk_at "ms_sub", fun _ _ e => e⟩
  intro σ' hf
  refine m_fit hf ?_
  refine m_cons ?_
  refine m_If ?_
  refine m_isCompare ?_
  refine m_BinOp ?_
  refine m_BinOp ?_
  refine m_abs fun Zq4 hZq4 => ?_
  refine m_Call ?_
  refine m_Name ?_
  first | refine m_gK (by assumption) ?_ | refine m_gB (by assumption) ?_
  refine m_callB ?_
  refine m_splE ?_
  refine evS (EvP.nm (v := .str _) (by rfl)) fun _ => ?_
  refine m_splE0 ?_
  refine m_lenT (by omega) fun _ => ?_
  refine hZq4 _ _ ?_
  refine m_abs fun Zq5 hZq5 => ?_
  refine m_Call ?_
  refine m_Name ?_
  first | refine m_gK (by assumption) ?_ | refine m_gB (by assumption) ?_
  refine m_callB ?_
  refine m_splE ?_
  refine evS (EvP.nm (v := .str _) (by rfl)) fun _ => ?_
  refine m_splE0 ?_
  refine m_lenT (by omega) fun _ => ?_
  refine hZq5 _ _ ?_
  refine m_sub fun _ => ?_
  refine evI (EvP.gK (v := .int _) (by assumption) ⟨_, rfl⟩) fun _ => ?_
  first | refine m_mul (by first | exact IntMulOk.of_right (by decide) | exact IntMulOk.of_left (by decide) | assumption) fun _ => ?_ | refine m_mul ?_ fun _ => ?_
  refine evI (EvP.nm (v := .int _) (by rfl)) fun _ => ?_
  refine m_gti ?_
  refine m_trBool ?_
  refine ite_of (fun e => ?_) fun e => ?_
  · refine m_abs fun Zq6 hZq6 => ?_
    refine m_cons ?_
    refine m_Return ?_
    refine evI (EvP.add (EvP.nm (v := .int _) (by rfl)) EvP.int) fun _ => ?_
    refine hZq6 _ _ ?_
    unfold levC at h; rw [if_pos (by simpa using e)] at h; exact ⟨_, fun _ _ e => e, h _⟩
  have h : ∀ t, Q (.int (rows a3 mx b3 0 (row0 a3.length) 0) t) σ := by
    unfold levC at h; rw [if_neg (by simpa using e)] at h; exact h
  refine m_nil ?_
  refine m_cons ?_
  refine m_AssignName ?_
  refine m_Call ?_
  refine m_Name ?_
  first | refine m_gK (by assumption) ?_ | refine m_gB (by assumption) ?_
  refine m_callT ?_
  refine m_splE ?_
  refine m_abs fun Zq6 hZq6 => ?_
  refine m_Call ?_
  refine m_Name ?_
  first | refine m_gK (by assumption) ?_ | refine m_gB (by assumption) ?_
  refine m_callT ?_
  refine m_splE ?_
  refine evI (EvP.gK (v := .int _) (by assumption) ⟨_, rfl⟩) fun _ => ?_
  refine m_splE ?_
  refine m_BinOp ?_
  refine evI (EvP.gK (v := .int _) (by assumption) ⟨_, rfl⟩) fun _ => ?_
  refine m_BinOp ?_
  refine m_abs fun Zq7 hZq7 => ?_
  refine m_Call ?_
  refine m_Name ?_
  first | refine m_gK (by assumption) ?_ | refine m_gB (by assumption) ?_
  refine m_callB ?_
  refine m_splE ?_
  refine evS (EvP.nm (v := .str _) (by rfl)) fun _ => ?_
  refine m_splE0 ?_
  refine m_lenT (by omega) fun _ => ?_
  refine hZq7 _ _ ?_
  refine evI EvP.int fun _ => ?_
  refine m_add fun _ => ?_
  first | refine m_mul (by first | exact IntMulOk.of_right (by decide) | exact IntMulOk.of_left (by decide) | assumption) fun _ => ?_ | refine m_mul ?_ fun _ => ?_
  refine m_splE ?_
  refine evI (EvP.gK (v := .int _) (by assumption) ⟨_, rfl⟩) fun _ => ?_
  refine m_splE0 ?_
  refine m_range3 (by decide) (noPylong (by decide)) fun D hD => ?_
  refine hZq6 _ _ ?_
  refine m_splE0 ?_
  have hsz : Builtin.Range.rangeSize 2 (2 * ((a3.length : Int) + 1)) 2 = (a3.length : Nat) := by
    unfold Builtin.Range.rangeSize; split <;> (try split) <;> omega
  have hsm : Builtin.Range.small 2 (2 * ((a3.length : Int) + 1)) 2 = true := by
    unfold Builtin.Range.small
    rw [hsz]
    simp [Builtin.Range.rangeFitsLong]
    omega
  refine m_listRange (hA1 _).hd (by simp [MS.set, put]) hsm hsz (by omega) fun r hr => ?_
  have hr : σ.h r = none := by
    cases z : σ.h r with
    | none => rfl
    | some o => exact absurd (put_sub hD r o z) (by rw [show put σ.h D _ r = none from hr]; simp)
  refine m_str' ?_
  refine m_AssignE EvP.int ?_
  refine m_cons ?_
  refine m_weak (m' := names [("a", .str (T a3)), ("b", .str (T b3)), ("max_cost", .int mx), ("row", .ref r), ("result", .int 0)]) (h' := put σ.h r (.list ((row0 a3.length).map V.int))) (by walk_at "ms_sub") (by
    unfold row0; rw [List.map_map]; exact put_mono (put_sub hD)) ?_
  refine m_ForF ?_
  refine m_Call ?_
  refine m_Name ?_
  first | refine m_gK (by assumption) ?_ | refine m_gB (by assumption) ?_
  refine m_callT ?_
  refine m_splE ?_
  refine m_abs fun Zq8 hZq8 => ?_
  refine m_Call ?_
  refine m_Name ?_
  first | refine m_gK (by assumption) ?_ | refine m_gB (by assumption) ?_
  refine m_callB ?_
  refine m_splE ?_
  refine evS (EvP.nm (v := .str _) (by rfl)) fun _ => ?_
  refine m_splE0 ?_
  refine m_lenT (by omega) fun _ => ?_
  refine hZq8 _ _ ?_
  refine m_splE0 ?_
  refine m_range1 fun D2 hD2 => ?_
  skip
  refine ⟨D2, _, _, _, _, rfl, hD2, yields_range (hA1 _).hd b3.length (range_small (by omega)).1 (range_small (by omega)).2, LevRow a3 b3 mx r σ.h, ?_, ?_, ?_⟩
  · skip
    exact ⟨_, _, by simp [row0], rfl, by walk_at "ms_fit"⟩
  · rintro i y σ' I ob hb ob2 hb2 hy ⟨row, res, hrow, hrows, hf⟩
    obtain ⟨hi, rfl⟩ := range_item hy
    refine m_fitS hf ?_
    obtain ⟨x, hx, hx2⟩ := drop_at (l := b3) (k := i) (by simp; omega)
    refine m_abs fun Zq9 hZq9 => ?_
    refine m_cons ?_
    refine m_AssignName ?_
    refine m_Sub ?_
    refine evS (EvP.nm (v := .str _) (by rfl)) fun _ => ?_
    refine evI (EvP.nm (v := .int _) (by rfl)) fun _ => ?_
    refine m_atT (by omega) hx fun _ => ?_
    refine m_sts ?_
    refine m_cons ?_
    refine m_Assign2 ?_
    refine evI (EvP.mul (EvP.nm (v := .int _) (by rfl)) (EvP.gK (v := .int _) (by assumption) ⟨_, rfl⟩) (by first | exact IntMulOk.of_right (by decide) | exact IntMulOk.of_left (by decide) | assumption)) fun _ => ?_
    refine m_assignName ?_
    refine m_sti ?_
    refine m_assignName ?_
    refine m_sti ?_
    refine m_AssignE EvP.int ?_
    refine m_cons ?_
    refine m_weak (m' := names [("a", .str (T a3)), ("b", .str (T b3)), ("max_cost", .int mx), ("row", .ref r), ("bchar", .str (T [x])), ("distance", .int (i * 2)), ("result", .int (i * 2)), ("minimum", .int 9223372036854775807)]) (h' := put σ.h r (.list (row.map V.int))) (by walk_at "ms_sub") (fun _ _ e => e) ?_
    refine m_then (P := fun σ' => Fit σ' (names [("a", .str (T a3)), ("b", .str (T b3)), ("max_cost", .int mx), ("row", .ref r), ("result", .int (inner x a3 row (2 * i) (2 * i) 9223372036854775807).2.1), ("minimum", .int (inner x a3 row (2 * i) (2 * i) 9223372036854775807).2.2)]) (put σ.h r (.list ((inner x a3 row (2 * i) (2 * i) 9223372036854775807).1.map V.int)))) ?_ ?_
    · refine m_ForF ?_
      refine m_abs fun Zq10 hZq10 => ?_
      refine m_Call ?_
      refine m_Name ?_
      first | refine m_gK (by assumption) ?_ | refine m_gB (by assumption) ?_
      refine m_callT ?_
      refine m_splE ?_
      refine m_abs fun Zq11 hZq11 => ?_
      refine m_Call ?_
      refine m_Name ?_
      first | refine m_gK (by assumption) ?_ | refine m_gB (by assumption) ?_
      refine m_callB ?_
      refine m_splE ?_
      refine evS (EvP.nm (v := .str _) (by rfl)) fun _ => ?_
      refine m_splE0 ?_
      refine m_lenT (by omega) fun _ => ?_
      refine hZq11 _ _ ?_
      refine m_splE0 ?_
      refine m_range1 fun D3 hD3 => ?_
      refine hZq10 _ _ ?_
      refine ⟨D3, _, _, _, _, rfl, hD3, yields_range (hA1 _).hd a3.length (range_small (by omega)).1 (range_small (by omega)).2, LevIn a3 b3 mx r σ.h x row (2 * i), ?_, ?_, ?_⟩
      · skip
        refine ⟨i * 2, i * 2, _, [], rfl, by rw [Int.mul_comm]; rfl, by walk_at "ms_fit"⟩
      · rintro k y σ' I3 ob3 hb3 ob4 hb4 hy3 ⟨d, re, mn, done, hdone, hin, hf⟩
        obtain ⟨hk, rfl⟩ := range_item hy3
        refine m_fitS hf ?_
        obtain ⟨c, hc, hc2⟩ := drop_at (l := a3) (k := k) (by simp; omega)
        refine m_abs fun Zq12 hZq12 => ?_
        refine m_cons ?_
        refine m_AssignName ?_
        refine m_BinOp ?_
        refine evI (EvP.nm (v := .int _) (by rfl)) fun _ => ?_
        refine m_abs fun Zq13 hZq13 => ?_
        refine m_Call ?_
        refine m_Name ?_
        first | refine m_gK (by assumption) ?_ | refine m_gB (by assumption) ?_
        refine m_callZ (by assumption) ?_
        refine m_splE ?_
        refine evS (EvP.nm (v := .str _) (by rfl)) fun _ => ?_
        refine m_splE ?_
        refine m_Sub ?_
        refine evS (EvP.nm (v := .str _) (by rfl)) fun _ => ?_
        refine evI (EvP.nm (v := .int _) (by rfl)) fun _ => ?_
        refine m_atT (by omega) hc fun _ => ?_
        refine m_splE0 ?_
        refine m_code (c_subst1 Z ((hA1 _).le (Nat.zero_le _)) fun _ => ?_)
        refine hZq13 _ _ ?_
        refine m_add fun _ => ?_
        refine m_sti ?_
        refine m_cons ?_
        refine m_AssignName ?_
        refine m_Sub ?_
        refine evR (EvP.nm (v := .ref _) (by rfl)) ?_
        refine evI (EvP.nm (v := .int _) (by rfl)) fun _ => ?_
        have hk' : k < row.length := by omega
        have hrk : row.drop k = row[k] :: row.drop (k + 1) := List.drop_eq_getElem_cons hk'
        refine m_atLi (z := row[k]) put_same (by omega) ?_ fun _ => ?_
        · rw [List.getElem?_map, List.getElem?_append_right (by omega), hdone, hrk]; simp
        refine m_sti ?_
        refine m_cons ?_
        refine m_AssignName ?_
        refine m_BinOp ?_
        refine m_abs fun Zq14 hZq14 => ?_
        refine m_Call ?_
        refine m_Name ?_
        first | refine m_gK (by assumption) ?_ | refine m_gB (by assumption) ?_
        refine m_callB ?_
        refine m_splE ?_
        refine evI (EvP.nm (v := .int _) (by rfl)) fun _ => ?_
        refine m_splE ?_
        refine evI (EvP.nm (v := .int _) (by rfl)) fun _ => ?_
        refine m_splE0 ?_
        refine m_min (hA1 _).hd fun _ => ?_
        refine hZq14 _ _ ?_
        refine evI (EvP.gK (v := .int _) (by assumption) ⟨_, rfl⟩) fun _ => ?_
        refine m_add fun _ => ?_
        refine m_sti ?_
        refine m_cons ?_
        refine m_AssignName ?_
        refine m_abs fun Zq15 hZq15 => ?_
        refine m_Call ?_
        refine m_Name ?_
        first | refine m_gK (by assumption) ?_ | refine m_gB (by assumption) ?_
        refine m_callB ?_
        refine m_splE ?_
        refine evI (EvP.nm (v := .int _) (by rfl)) fun _ => ?_
        refine m_splE ?_
        refine evI (EvP.nm (v := .int _) (by rfl)) fun _ => ?_
        refine m_splE0 ?_
        refine m_min (hA1 _).hd fun _ => ?_
        refine hZq15 _ _ ?_
        refine m_sti ?_
        refine m_cons ?_
        refine m_AssignSub ?_
        refine evI (EvP.nm (v := .int _) (by rfl)) fun _ => ?_
        refine evR (EvP.nm (v := .ref _) (by rfl)) ?_
        refine evI (EvP.nm (v := .int _) (by rfl)) fun _ => ?_
        refine m_setL (x := .int (min (min re row[k] + 2) (d + sc x c))) put_same (by omega) (by simp; omega) ⟨_, rfl⟩ ?_
        refine m_cons ?_
        refine m_If ?_
        refine tvU (TvP.lti (EvP.nm (v := .int _) (by rfl)) (EvP.nm (v := .int _) (by rfl))) ?_
        have hin2 := hin
        rw [hc2, hrk] at hin2
        simp only [inner] at hin2
        have hset : ((done ++ row.drop k).map V.int).set k (.int (min (min re row[k] + 2) (d + sc x c))) = ((done ++ [min (min re row[k] + 2) (d + sc x c)]) ++ row.drop (k + 1)).map V.int := by
          rw [hrk, List.map_append, List.map_cons, List.set_append_right _ _ (by simp; omega)]; simp [hdone]
        rw [hset]
        refine ite_of (fun e => ?_) fun e => ?_
        · refine m_AssignE (EvP.nm (v := .int _) (by rfl)) ?_
          refine m_nil ?_
          refine m_nil ?_
          refine hZq12 _ _ ?_
          skip
          refine ⟨_, _, _, done ++ [min (min re row[k] + 2) (d + sc x c)], by simp [hdone], ?_, ⟨by walk_at "ms_sub", ?_⟩⟩
          · rw [← hin2, if_pos (by simpa using e)]; simp
          · intro b o q
            show put (put σ.h r _) r _ b = some o
            rw [put_put]; exact q
        · refine m_nil ?_
          refine m_nil ?_
          refine hZq12 _ _ ?_
          skip
          refine ⟨_, _, _, done ++ [min (min re row[k] + 2) (d + sc x c)], by simp [hdone], ?_, ⟨by walk_at "ms_sub", ?_⟩⟩
          · rw [← hin2, if_neg (by simpa using e)]; simp
          · intro b o q
            show put (put σ.h r _) r _ b = some o
            rw [put_put]; exact q
      · rintro σ' ⟨d, re, mn, done, hdone, hin, hf⟩
        skip
        refine ⟨rfl, ?_⟩
        rw [List.length_map, List.length_range, List.drop_eq_nil_of_le (by simp)] at hin
        have hin : inner x a3 row (2 * i) (2 * i) 9223372036854775807 = (done, re, mn) := by rw [← hin]; simp [inner]
        rw [hin]
        skip
        refine ⟨fun z v q => hf.1 z v ?_, fun z v q => hf.2 z v ?_⟩
        · revert q; exact (show Sub (names _) (names _) by walk_at "ms_sub") z v
        · rw [List.length_map, List.length_range, List.drop_eq_nil_of_le (by omega), List.append_nil]; exact q
    intro σ' hf
    refine m_fit hf ?_
    refine m_cons ?_
    refine m_If ?_
    refine tvU (TvP.gti (EvP.nm (v := .int _) (by rfl)) (EvP.nm (v := .int _) (by rfl))) ?_
    have hlen := inner_length x a3 row (2 * i) (2 * i) 9223372036854775807 (by omega)
    rw [hx2] at hrows
    simp only [rows] at hrows
    refine ite_of (fun e => ?_) fun e => ?_
    · refine m_abs fun Zq10 hZq10 => ?_
      refine m_cons ?_
      refine m_Return ?_
      refine evI (EvP.add (EvP.nm (v := .int _) (by rfl)) EvP.int) fun _ => ?_
      refine hZq10 _ _ ?_
      refine hZq9 _ _ ?_
      skip
      refine ⟨σ.h, put_sub hr, ?_⟩
      rw [if_pos (by simpa using e)] at hrows
      rw [← hrows] at h
      exact h _
    · refine m_nil ?_
      refine m_nil ?_
      refine hZq9 _ _ ?_
      rw [if_neg (by simpa using e)] at hrows
      skip
      refine ⟨_, _, ?_, hrows, by walk_at "ms_fit"⟩
      omega
  · rintro σ' ⟨row, res, hrow, hrows, hf⟩
    refine m_fit hf ?_
    refine m_cons ?_
    refine m_Return ?_
    refine evI (EvP.nm (v := .int _) (by rfl)) fun _ => ?_
    skip
    refine ⟨σ.h, put_sub hr, ?_⟩
    rw [List.length_map, List.length_range, List.drop_eq_nil_of_le (by simp)] at hrows
    rw [← hrows] at h
    exact h _
end
end Mine
end
section
open PySem PySem.W PyProof.Rows PySem.SeqAt
set_option maxHeartbeats 1000000
namespace Mine
section
variable {prog : Program} {w : World} {K : Type} [DecidableEq K] {knd : PySem.KeyKind prog w K} {Γ : Fx} {σ : MS K} {A : Around} {env : Env} {α : Type} {s : Shared} {Q : Value → MS K → Prop} {QB : Bool → MS K → Prop} {QU : Unit → MS K → Prop} {QF : Flow → MS K → Prop}
variable {p : Program} {loose : List Str} {mg mb : Str → Option Value} {t u v : Tok} {n : Nat}

theorem c_buffer {b : Array UInt8} (Z : Here (Mine.hd1.heap_1 w.params) p loose mg mb Γ.base) (hA : Dp A n) (h : ∀ t, Q (.bytes b t) σ) : mcode knd Γ A (.call (.ref 148) ⟨[.bytes b t], []⟩) Q σ := by
  refine c_fun ["data"] [.bytes b] Z hA (.cons ⟨t, rfl⟩ .nil) ?_
  intro L'
  refine m_cons ?_
  refine m_AssignName ?_
  refine m_Call ?_
  refine m_Name ?_
  first | refine m_gK (by assumption) ?_ | refine m_gB (by assumption) ?_
  refine m_callT ?_
  refine m_splE ?_
  refine evY (EvP.nm (v := .bytes _) (by rfl)) fun _ => ?_
  refine m_splE0 ?_
  refine m_typeOf (x := .bytes b) (fun s R => typeIs_bytes _ _ _) (by decide) ?_
  refine m_stf ?_
  refine m_cons ?_
  refine m_If ?_
  refine m_isCompare ?_
  refine evF (EvP.nm (v := .fn _) (by rfl)) ?_
  refine m_Name ?_
  first | refine m_gK (by assumption) ?_ | refine m_gB (by assumption) ?_
  refine m_is (by rfl) ?_
  refine m_trBool ?_
  skip
  refine itrue (by decide) ?_
  refine m_abs fun Zq0 hZq0 => ?_
  refine m_cons ?_
  refine m_Return ?_
  refine evY (EvP.nm (v := .bytes _) (by rfl)) fun _ => ?_
  refine hZq0 _ _ ?_
  exact ⟨_, fun _ _ e => e, h _⟩
theorem c_truth {b : Bool} (Z : Here (Mine.hd1.heap_1 w.params) p loose mg mb Γ.base) (hA : Dp A n) (h : Q (.bool b) σ) : mcode knd Γ A (.call (.ref 155) ⟨[.bool b], []⟩) Q σ := by
  refine c_fun ["x"] [.bool b] Z hA (.cons rfl .nil) ?_
  intro L'
  refine m_cons ?_
  refine m_AssignName ?_
  refine m_Call ?_
  refine m_Name ?_
  first | refine m_gK (by assumption) ?_ | refine m_gB (by assumption) ?_
  refine m_callT ?_
  refine m_splE ?_
  refine evB (EvP.nm (v := .bool _) (by rfl)) ?_
  refine m_splE0 ?_
  refine m_typeOf (x := .bool b) (fun s R => PySem.typeIs_bool _ _) (by decide) ?_
  cases b
  · refine m_stf ?_
    refine m_cons ?_
    refine m_If ?_
    refine m_isBoolOp ?_
    refine m_orCons ?_
    refine m_abs fun Zq0 hZq0 => ?_
    refine m_isCompare ?_
    refine evB (EvP.nm (v := .bool _) (by rfl)) ?_
    refine evN EvP.none ?_
    refine m_is (by rfl) ?_
    refine m_trBool ?_
    refine hZq0 _ _ ?_
    skip
    refine ifalse (by decide) ?_
    refine m_orCons ?_
    refine m_abs fun Zq1 hZq1 => ?_
    refine m_isCompare ?_
    refine evF (EvP.nm (v := .fn _) (by rfl)) ?_
    refine m_Name ?_
    first | refine m_gK (by assumption) ?_ | refine m_gB (by assumption) ?_
    refine m_is (by rfl) ?_
    refine m_trBool ?_
    refine hZq1 _ _ ?_
    skip
    refine itrue (by decide) (itrue (by decide) ?_)
    refine m_abs fun Zq2 hZq2 => ?_
    refine m_cons ?_
    refine m_Return ?_
    refine m_IfExp ?_
    refine tvU (TvP.vb (EvP.nm (v := .bool _) (by rfl))) ?_
    skip
    refine ifalse (by decide) ?_
    refine evB EvP.bool ?_
    refine hZq2 _ _ ?_
    exact ⟨_, fun _ _ e => e, h⟩
  · refine m_stf ?_
    refine m_cons ?_
    refine m_If ?_
    refine m_isBoolOp ?_
    refine m_orCons ?_
    refine m_abs fun Zq0 hZq0 => ?_
    refine m_isCompare ?_
    refine evB (EvP.nm (v := .bool _) (by rfl)) ?_
    refine evN EvP.none ?_
    refine m_is (by rfl) ?_
    refine m_trBool ?_
    refine hZq0 _ _ ?_
    skip
    refine ifalse (by decide) ?_
    refine m_orCons ?_
    refine m_abs fun Zq1 hZq1 => ?_
    refine m_isCompare ?_
    refine evF (EvP.nm (v := .fn _) (by rfl)) ?_
    refine m_Name ?_
    first | refine m_gK (by assumption) ?_ | refine m_gB (by assumption) ?_
    refine m_is (by rfl) ?_
    refine m_trBool ?_
    refine hZq1 _ _ ?_
    skip
    refine itrue (by decide) (itrue (by decide) ?_)
    refine m_abs fun Zq2 hZq2 => ?_
    refine m_cons ?_
    refine m_Return ?_
    refine m_IfExp ?_
    refine tvU (TvP.vb (EvP.nm (v := .bool _) (by rfl))) ?_
    skip
    refine itrue (by decide) ?_
    refine evB EvP.bool ?_
    refine hZq2 _ _ ?_
    exact ⟨_, fun _ _ e => e, h⟩

inductive B2For {K : Type} (bs : List Int) (o : Addr) (h0 : Addr → Option (O K)) (i : Nat) (σ' : MS K) : Prop
  | mk (lc : Int) (lb : Nat) (done : List Int) (h1 : 0 ≤ lc) (h2 : lc < 65536) (h3 : lb < 6) (h4 : done.length ≤ 2 * i) (h5 : (done ++ (encB (bs.drop i) lc lb).1, (encB (bs.drop i) lc lb).2) = encB bs 0 0)
      (hf : Fit σ' (names [("newline", .bool false), ("bin_data", .bytes (byteArr bs)), ("out", .ref o), ("leftbits", .int (lb : Nat)), ("leftchar", .int lc)]) (put h0 o (.list (done.map V.int))))
inductive B2W {K : Type} (bs : List Int) (o : Addr) (h0 : Addr → Option (O K)) (done : List Int) (lc' : Int) (lb : Nat) (n' : Nat) (σ' : MS K) : Prop
  | mk (outs : List Int) (k1 : n' < 18) (k2 : outs.length ≤ 14 - n') (k3 : (outs ++ (drain lc' n').1, (drain lc' n').2) = drain lc' (lb + 8))
      (hf : Fit σ' (names [("newline", .bool false), ("bin_data", .bytes (byteArr bs)), ("out", .ref o), ("leftbits", .int (n' : Nat)), ("leftchar", .int lc')]) (put h0 o (.list ((done ++ outs).map V.int))))
theorem c_b2a {bs : List Int} (hb : ∀ x ∈ bs, 0 ≤ x ∧ x < 256) (hl : bs.length ≤ 100) (Z : Here (Mine.hd1.heap_1 w.params) p loose mg mb Γ.base) (hA : Dp A (n + 1)) (h : ∀ t, Q (.bytes (byteArr (enc bs)) t) σ) :
    mcode knd Γ A (.call (.ref 163) ⟨[.bytes (byteArr bs) t], [("newline", .bool false)]⟩) Q σ := by
  refine c_fun ["data", "newline"] [.bytes (byteArr bs), .bool false] Z hA (.cons ⟨t, rfl⟩ (.cons rfl .nil)) ?_
  intro L'
  have hA1 : ∀ e, Dp (A.deeper e) n := fun e => hA.deeper e
  refine m_cons ?_
  refine m_AssignName ?_
  refine m_Call ?_
  refine m_Name ?_
  first | refine m_gK (by assumption) ?_ | refine m_gB (by assumption) ?_
  refine m_callZ (by assumption) ?_
  refine m_splE ?_
  refine evY (EvP.nm (v := .bytes _) (by rfl)) fun _ => ?_
  refine m_splE0 ?_
  refine m_code (c_buffer Z (hA1 _) fun _ => ?_)
  refine m_sty ?_
  refine m_cons ?_
  refine m_AssignName ?_
  refine m_Call ?_
  refine m_Name ?_
  first | refine m_gK (by assumption) ?_ | refine m_gB (by assumption) ?_
  refine m_callZ (by assumption) ?_
  refine m_splE ?_
  refine evB (EvP.nm (v := .bool _) (by rfl)) ?_
  refine m_splE0 ?_
  refine m_code (c_truth Z (hA1 _) ?_)
  refine m_stb ?_
  refine m_cons ?_
  refine m_AssignName ?_
  refine m_List ?_
  refine m_splE0 ?_
  refine m_newList .nil (by decide) fun o ho => ?_
  have ho : σ.h o = none := ho
  refine m_str' ?_
  refine m_AssignE EvP.int ?_
  refine m_AssignE EvP.int ?_
  refine m_cons ?_
  have hbl : (byteArr bs).toList.map (fun c => V.int (c.toNat : Int)) = bs.map V.int := bytes_list hb
  refine m_then (P := fun σ' => Fit σ' (names [("newline", .bool false), ("out", .ref o), ("leftbits", .int ((encB bs 0 0).2.2 : Nat)), ("leftchar", .int (encB bs 0 0).2.1)]) (put σ.h o (.list ((encB bs 0 0).1.map V.int)))) ?_ ?_
  · refine m_For ?_
    refine evY (EvP.nm (v := .bytes _) (by rfl)) fun _ => ?_
    refine ⟨_, _, _, yields_bytes (hA1 _).hd, B2For bs o σ.h, ?_, fun _ _ _ => trivial, ?_, ?_⟩
    · skip
      exact ⟨0, 0, [], by omega, by omega, by omega, by simp, by simp, by walk_at "ms_fit"⟩
    · rintro i y σ' I ob hbI hy ⟨lc, lb, done, h1, h2, h3, h4, h5, hf⟩
      rw [hbl, List.getElem?_map] at hy
      obtain ⟨b, hbi, rfl⟩ : ∃ b, bs[i]? = some b ∧ y = .int b := by
        cases z : bs[i]? with
        | none => rw [z] at hy; cases hy
        | some b => rw [z] at hy; exact ⟨b, rfl, by simpa using hy.symm⟩
      obtain ⟨hb0, hb1⟩ := hb b (List.mem_of_getElem? hbi)
      refine m_fitS hf ?_
      refine m_abs fun Zq0 hZq0 => ?_
      refine m_cons ?_
      refine m_AssignName ?_
      refine m_BinOp ?_
      refine m_BinOp ?_
      refine m_BinOp ?_
      refine evI (EvP.nm (v := .int _) (by rfl)) fun _ => ?_
      refine evI EvP.int fun _ => ?_
      refine m_shl (by omega) (by omega) (by omega) fun _ => ?_
      refine evI (EvP.nm (v := .int _) (by rfl)) fun _ => ?_
      refine m_or fun _ => ?_
      refine evI EvP.int fun _ => ?_
      refine m_and fun _ => ?_
      refine m_sti ?_
      refine m_AssignE (EvP.add (EvP.nm (v := .int _) (by rfl)) EvP.int) ?_
      refine m_cons ?_
      have e1 : Builtin.bitAnd (Builtin.bitOr (lc * 2 ^ (8 : Int).toNat) b) 65535 = (lc * 256 + b) % 65536 := by
        have e := or_add (a := lc) (b := b) 8 h1 hb0 (by simpa using hb1)
        have e2 := and_mask (a := lc * 256 + b) 16 (by omega)
        rw [show (lc * 2 ^ (8 : Int).toNat : Int) = lc * ((2 ^ 8 : Nat) : Int) from rfl, e]
        exact e2
      rw [e1]
      refine m_weak (m' := names [("newline", .bool false), ("bin_data", .bytes (byteArr bs)), ("out", .ref o), ("leftbits", .int ((lb + 8 : Nat) : Int)), ("leftchar", .int ((lc * 256 + b) % 65536))]) (h' := put σ.h o (.list (done.map V.int))) (by walk_at "ms_sub") (fun _ _ e => e) ?_
      have hd : bs.drop i = b :: bs.drop (i + 1) := by
        have hi := (List.getElem?_eq_some_iff.mp hbi)
        rw [List.drop_eq_getElem_cons hi.1, hi.2]
      rw [hd] at h5
      simp only [encB] at h5
      have g1 : 0 ≤ (lc * 256 + b) % 65536 := by omega
      have g2 : (lc * 256 + b) % 65536 < 65536 := by omega
      revert h5 g1 g2
      generalize (lc * 256 + b) % 65536 = lc'
      intro h5 g1 g2
      refine m_then (P := fun σ' => Fit σ' (names [("newline", .bool false), ("bin_data", .bytes (byteArr bs)), ("out", .ref o), ("leftbits", .int ((drain lc' (lb + 8)).2 : Nat)), ("leftchar", .int lc')]) (put σ.h o (.list ((done ++ (drain lc' (lb + 8)).1).map V.int)))) ?_ ?_
      · refine m_While (I := B2W bs o σ.h done lc' lb) (n := lb + 8) ⟨[], by omega, by simp, by simp, by rw [List.append_nil]; walk_at "ms_fit"⟩ ?_
        rintro n' σ' ⟨outs, k1, k2, k3, hf⟩
        refine m_fit hf ?_
        refine tvU (TvP.gei (EvP.nm (v := .int _) (by rfl)) EvP.int) ?_
        refine ite_of (fun e => ?_) fun e => ?_
        · have e : 6 ≤ n' := by simp at e; omega
          refine m_abs fun Zq1 hZq1 => ?_
          refine m_cons ?_
          refine m_Expr ?_
          refine m_Method ?_
          refine evR (EvP.nm (v := .ref _) (by rfl)) ?_
          refine m_methList (by walk_at "hl") PySem.F.slot_list_append PySem.F.type_list_append ?_
          refine m_callB ?_
          refine m_splE ?_
          refine m_Sub ?_
          refine m_Name ?_
          first | refine m_gK (by assumption) ?_ | refine m_gB (by assumption) ?_
          refine m_BinOp ?_
          refine m_BinOp ?_
          refine evI (EvP.nm (v := .int _) (by rfl)) fun _ => ?_
          refine evI (EvP.sub (EvP.nm (v := .int _) (by rfl)) EvP.int) fun _ => ?_
          refine m_shr (by omega) fun _ => ?_
          refine evI EvP.int fun _ => ?_
          refine m_and fun _ => ?_
          have e2 : Builtin.bitAnd (lc'.fdiv (2 ^ ((n' : Int) - 6).toNat)) 63 = lc' / (2 ^ (n' - 6) : Nat) % 64 := by
            rw [show ((n' : Int) - 6).toNat = n' - 6 by omega, Int.fdiv_eq_ediv_of_nonneg _ (Int.le_of_lt (Int.pow_pos (by decide)))]
            have := and_mask (a := lc' / (2 ^ (n' - 6) : Nat)) 6 (Int.ediv_nonneg g1 (Int.natCast_nonneg _))
            simpa using this
          rw [e2]
          have e3 : 0 ≤ lc' / (2 ^ (n' - 6) : Nat) % 64 ∧ lc' / (2 ^ (n' - 6) : Nat) % 64 < 64 := by omega
          refine m_atB (bs := b64s) (by decide) e3.1 (by simpa [b64s] using e3.2) fun _ => ?_
          refine m_splE0 ?_
          refine m_append (x := .int (sign (lc' / (2 ^ (n' - 6) : Nat) % 64))) put_same ⟨_, rfl⟩ ?_ ?_
          · simp; exact Nat.le_trans (show done.length + outs.length ≤ 1000 by have := (List.getElem?_eq_some_iff.mp hbi).1; omega) (by decide)
          refine m_AssignE (EvP.sub (EvP.nm (v := .int _) (by rfl)) EvP.int) ?_
          refine m_nil ?_
          refine hZq1 _ _ ?_
          refine ⟨n' - 6, by omega, outs ++ [sign (lc' / (2 ^ (n' - 6) : Nat) % 64)], by omega, by simp; omega, ?_, ?_, ?_⟩
          · rw [← k3, drain_step e k1]; simp
          · rw [show (((n' - 6 : Nat) : Int)) = (n' : Int) - 6 by omega]; walk_at "ms_sub"
          · intro b o q
            show put (put σ.h _ _) _ _ b = some o
            rw [put_put]; simpa using q
        · have e : n' < 6 := by simp at e; omega
          refine m_nil ?_
          rw [drain_stop e] at k3
          rw [← k3]
          skip
          refine ⟨rfl, ?_⟩
          rw [List.append_nil]
          walk_at "ms_fit"
      intro σ' hf
      refine m_fit hf ?_
      refine m_nil ?_
      refine hZq0 _ _ ?_
      refine ⟨lc', (drain lc' (lb + 8)).2, done ++ (drain lc' (lb + 8)).1, g1, g2, drain_lt (by omega), ?_, ?_, by walk_at "ms_fit"⟩
      · have : (drain lc' (lb + 8)).1.length ≤ 2 := by unfold drain; split <;> (try split) <;> simp
        simp; omega
      · rw [← h5]; simp
    · rintro σ' ⟨lc, lb, done, h1, h2, h3, h4, h5, hf⟩
      rw [hbl, List.length_map, List.drop_eq_nil_of_le (by omega)] at h5
      simp only [encB, List.append_nil] at h5
      rw [← h5]
      skip
      refine ⟨rfl, fun z v q => hf.1 z v ?_, hf.2⟩
      revert q; exact (show Sub (names _) (names _) by walk_at "ms_sub") z v
  have hq := encB_ok (bs := bs) (lc := 0) (lb := 0) (by omega) (by omega)
  have henc := enc_ok bs
  have hlen := enc_len bs
  unfold enc at h henc hlen
  revert hq h henc hlen
  generalize encB bs 0 0 = q
  obtain ⟨outs, lc, lb⟩ := q
  intro h hq henc hlen
  simp only at h henc hlen hq
  intro σ' hf
  refine m_fit hf ?_
  refine m_cons ?_
  refine m_If ?_
  refine tvU (TvP.eqi (EvP.nm (v := .int _) (by rfl)) EvP.int) ?_
  refine ite_of (fun e => ?_) fun e => ?_
  · have e : lb = 2 := by simp at e; omega
    rw [if_pos e] at h henc hlen
    refine m_abs fun Zq0 hZq0 => ?_
    refine m_cons ?_
    refine m_Expr ?_
    refine m_Method ?_
    refine evR (EvP.nm (v := .ref _) (by rfl)) ?_
    refine m_methList (by walk_at "hl") PySem.F.slot_list_append PySem.F.type_list_append ?_
    refine m_callB ?_
    refine m_splE ?_
    refine m_Sub ?_
    refine m_Name ?_
    first | refine m_gK (by assumption) ?_ | refine m_gB (by assumption) ?_
    refine m_BinOp ?_
    refine evI (EvP.and (EvP.nm (v := .int _) (by rfl)) EvP.int) fun _ => ?_
    refine evI EvP.int fun _ => ?_
    have e2 : Builtin.bitAnd lc 3 = lc % 4 := and_mask 2 hq.1
    rw [e2]
    refine m_shl (by omega) (by omega) (by omega) fun _ => ?_
    skip
    rw [show lc % 4 * 2 ^ (4 : Int).toNat = lc % 4 * 16 from rfl]
    refine m_atB (bs := b64s) (by decide) (by omega) (by show _ < (64 : Int); omega) fun _ => ?_
    refine m_splE0 ?_
    refine m_append (x := .int (sign (lc % 4 * 16))) put_same ⟨_, rfl⟩ ?_ ?_
    · simp; exact Nat.le_trans (show outs.length ≤ 1000 by omega) (by decide)
    refine m_cons ?_
    refine m_Expr ?_
    refine m_Method ?_
    refine evR (EvP.nm (v := .ref _) (by rfl)) ?_
    refine m_methList (by walk_at "hl") PySem.F.slot_list_append PySem.F.type_list_append ?_
    refine m_callB ?_
    refine m_splE ?_
    refine evI EvP.int fun _ => ?_
    refine m_splE0 ?_
    refine m_append (x := .int 61) put_same ⟨_, rfl⟩ ?_ ?_
    · simp; exact Nat.le_trans (show outs.length + 1 ≤ 1000 by omega) (by decide)
    refine m_cons ?_
    refine m_Expr ?_
    refine m_Method ?_
    refine evR (EvP.nm (v := .ref _) (by rfl)) ?_
    refine m_methList (by walk_at "hl") PySem.F.slot_list_append PySem.F.type_list_append ?_
    refine m_callB ?_
    refine m_splE ?_
    refine evI EvP.int fun _ => ?_
    refine m_splE0 ?_
    refine m_append (x := .int 61) put_same ⟨_, rfl⟩ ?_ ?_
    · simp; exact Nat.le_trans (show outs.length + 1 + 1 ≤ 1000 by omega) (by decide)
    refine m_nil ?_
    refine hZq0 _ _ ?_
    refine m_cons ?_
    refine m_If ?_
    refine tvU (TvP.vb (EvP.nm (v := .bool _) (by rfl))) ?_
    skip
    refine ifalse (by decide) ?_
    refine m_nil ?_
    refine m_cons ?_
    refine m_Return ?_
    refine m_Call ?_
    refine m_Name ?_
    first | refine m_gK (by assumption) ?_ | refine m_gB (by assumption) ?_
    refine m_callT ?_
    refine m_splE ?_
    refine evR (EvP.nm (v := .ref _) (by rfl)) ?_
    refine m_splE0 ?_
    refine m_bytes (ns := outs ++ [sign (lc % 4 * 16), 61, 61]) (hA1 _).hd (put_same.trans (by simp)) henc (Nat.le_trans (show _ ≤ 1000 by omega) (by decide)) fun _ => ?_
    skip
    refine ⟨σ.h, fun a o' e => ?_, h _⟩
    show put (put (put (put σ.h _ _) _ _) _ _) _ _ a = some o'
    rw [put_put, put_put, put_put]; exact put_sub ho a o' e
  rw [if_neg (show ¬ lb = 2 by simp at e; omega)] at h henc hlen
  refine m_abs fun Zq0 hZq0 => ?_
  refine m_cons ?_
  refine m_If ?_
  refine tvU (TvP.eqi (EvP.nm (v := .int _) (by rfl)) EvP.int) ?_
  refine ite_of (fun e => ?_) fun e => ?_
  · have e : lb = 4 := by simp at e; omega
    rw [if_pos e] at h henc hlen
    refine m_abs fun Zq1 hZq1 => ?_
    refine m_cons ?_
    refine m_Expr ?_
    refine m_Method ?_
    refine evR (EvP.nm (v := .ref _) (by rfl)) ?_
    refine m_methList (by walk_at "hl") PySem.F.slot_list_append PySem.F.type_list_append ?_
    refine m_callB ?_
    refine m_splE ?_
    refine m_Sub ?_
    refine m_Name ?_
    first | refine m_gK (by assumption) ?_ | refine m_gB (by assumption) ?_
    refine m_BinOp ?_
    refine evI (EvP.and (EvP.nm (v := .int _) (by rfl)) EvP.int) fun _ => ?_
    refine evI EvP.int fun _ => ?_
    have e2 : Builtin.bitAnd lc 15 = lc % 16 := and_mask 4 hq.1
    rw [e2]
    refine m_shl (by omega) (by omega) (by omega) fun _ => ?_
    skip
    rw [show lc % 16 * 2 ^ (2 : Int).toNat = lc % 16 * 4 from rfl]
    refine m_atB (bs := b64s) (by decide) (by omega) (by show _ < (64 : Int); omega) fun _ => ?_
    refine m_splE0 ?_
    refine m_append (x := .int (sign (lc % 16 * 4))) put_same ⟨_, rfl⟩ ?_ ?_
    · simp; exact Nat.le_trans (show outs.length ≤ 1000 by omega) (by decide)
    refine m_cons ?_
    refine m_Expr ?_
    refine m_Method ?_
    refine evR (EvP.nm (v := .ref _) (by rfl)) ?_
    refine m_methList (by walk_at "hl") PySem.F.slot_list_append PySem.F.type_list_append ?_
    refine m_callB ?_
    refine m_splE ?_
    refine evI EvP.int fun _ => ?_
    refine m_splE0 ?_
    refine m_append (x := .int 61) put_same ⟨_, rfl⟩ ?_ ?_
    · simp; exact Nat.le_trans (show outs.length + 1 ≤ 1000 by omega) (by decide)
    refine m_nil ?_
    refine hZq1 _ _ ?_
    refine m_nil ?_
    refine hZq0 _ _ ?_
    refine m_cons ?_
    refine m_If ?_
    refine tvU (TvP.vb (EvP.nm (v := .bool _) (by rfl))) ?_
    skip
    refine ifalse (by decide) ?_
    refine m_nil ?_
    refine m_cons ?_
    refine m_Return ?_
    refine m_Call ?_
    refine m_Name ?_
    first | refine m_gK (by assumption) ?_ | refine m_gB (by assumption) ?_
    refine m_callT ?_
    refine m_splE ?_
    refine evR (EvP.nm (v := .ref _) (by rfl)) ?_
    refine m_splE0 ?_
    refine m_bytes (ns := outs ++ [sign (lc % 16 * 4), 61]) (hA1 _).hd (put_same.trans (by simp)) henc (Nat.le_trans (show _ ≤ 1000 by omega) (by decide)) fun _ => ?_
    skip
    refine ⟨σ.h, fun a o' e => ?_, h _⟩
    show put (put (put σ.h _ _) _ _) _ _ a = some o'
    rw [put_put, put_put]; exact put_sub ho a o' e
  · rw [if_neg (show ¬ lb = 4 by simp at e; omega)] at h henc hlen
    refine m_nil ?_
    refine m_nil ?_
    refine hZq0 _ _ ?_
    refine m_cons ?_
    refine m_If ?_
    refine tvU (TvP.vb (EvP.nm (v := .bool _) (by rfl))) ?_
    skip
    refine ifalse (by decide) ?_
    refine m_nil ?_
    refine m_cons ?_
    refine m_Return ?_
    refine m_Call ?_
    refine m_Name ?_
    first | refine m_gK (by assumption) ?_ | refine m_gB (by assumption) ?_
    refine m_callT ?_
    refine m_splE ?_
    refine evR (EvP.nm (v := .ref _) (by rfl)) ?_
    refine m_splE0 ?_
    refine m_bytes (ns := outs) (hA1 _).hd put_same henc (Nat.le_trans (show _ ≤ 1000 by omega) (by decide)) fun _ => ?_
    skip
    exact ⟨σ.h, put_sub ho, h _⟩

theorem c_b64 {bs : List Int} (hb : ∀ x ∈ bs, 0 ≤ x ∧ x < 256) (hl : bs.length ≤ 100) (Z : Here (Mine.hd1.heap_1 w.params) p loose mg mb Γ.base) (hA : Dp A (n + 2)) (h : ∀ t, Q (.bytes (byteArr (enc bs)) t) σ) :
    mcode knd Γ A (.call (.ref 171) ⟨[.bytes (byteArr bs) t], []⟩) Q σ := by
  refine c_funD ["s", "altchars"] [.bytes (byteArr bs), .none] Z hA (.cons ⟨t, rfl⟩ (.cons rfl .nil)) ?_
  intro L'
  have hA1 : ∀ e, Dp (A.deeper e) (n + 1) := fun e => hA.deeper e
  refine m_cons ?_
  refine m_AssignName ?_
  refine m_CallKw ?_
  refine m_Name ?_
  first | refine m_gK (by assumption) ?_ | refine m_gB (by assumption) ?_
  refine m_callZkw1 Z ?_
  refine m_splE ?_
  refine evY (EvP.nm (v := .bytes _) (by rfl)) fun _ => ?_
  refine m_splE0 ?_
  refine evB EvP.bool ?_
  refine m_code (c_b2a hb hl Z (hA1 _) fun _ => ?_)
  refine m_sty ?_
  refine m_cons ?_
  refine m_If ?_
  refine m_isCompare ?_
  refine evN (EvP.nm (v := .none) (by rfl)) ?_
  refine evN EvP.none ?_
  refine m_isnot (by rfl) ?_
  refine m_trBool ?_
  skip
  refine ifalse (by decide) ?_
  refine m_nil ?_
  refine m_cons ?_
  refine m_Return ?_
  refine evY (EvP.nm (v := .bytes _) (by rfl)) fun _ => ?_
  exact ⟨_, fun _ _ e => e, h _⟩
end
end Mine
end
section
open PySem PySem.W PyProof.Rows PySem.SeqAt
set_option maxHeartbeats 1000000
namespace Mine
section
variable {prog : Program} {w : World} {K : Type} [DecidableEq K] {knd : PySem.KeyKind prog w K} {Γ : Fx} {σ : MS K} {A : Around} {env : Env} {α : Type} {s : Shared} {Q : Value → MS K → Prop} {QB : Bool → MS K → Prop} {QU : Unit → MS K → Prop} {QF : Flow → MS K → Prop}
variable {p : Program} {loose : List Str} {mg mb : Str → Option Value} {t u v : Tok} {n : Nat} {l : Addr}

noncomputable def number (ps : List Int) : Int := ps.foldl (fun n x => n * 64 + x) 0
theorem c_octets {ps : List Int} (hl : σ.h l = some (.list (ps.map V.int))) (Z : Here (Mine.hd1.heap_1 w.params) p loose mg mb Γ.base) (hA : Dp A n)
    (h : ∀ D, σ.h D = none → Q (.ref D) (σ.set D (.list ([(number ps).fdiv 65536, ((number ps).fdiv 256).fmod 256, (number ps).fmod 256].map V.int)))) : mcode knd Γ A (.call (.ref 197) ⟨[.ref l], []⟩) Q σ := by
  refine c_fun ["places"] [.ref l] Z hA (.cons rfl .nil) ?_
  intro L'
  have hh : ∀ e, (A.deeper e).handled = none := fun e => hA.hd
  refine m_AssignE EvP.int ?_
  refine m_cons ?_
  refine m_then (P := fun σ' => Fit σ' (names [("number", .int (number ps))]) σ.h) ?_ ?_
  · refine m_For ?_
    refine evR (EvP.nm (v := .ref _) (by rfl)) ?_
    refine ⟨_, _, _, yields_list (hh _), fun i σ' => Fit σ' (names [("places", .ref l), ("number", .int (number (ps.take i)))]) σ.h, by walk_at "ms_fit", fun i σ' hf => hf.2 _ _ hl, ?_, ?_⟩
    · rintro i y σ' I ob hb hy hf
      rw [List.getElem?_map] at hy
      obtain ⟨b, hbi, rfl⟩ : ∃ b, ps[i]? = some b ∧ y = .int b := by
        cases z : ps[i]? with
        | none => rw [z] at hy; cases hy
        | some b => rw [z] at hy; exact ⟨b, rfl, by simpa using hy.symm⟩
      refine m_fitS hf ?_
      refine m_AssignE (EvP.add (EvP.mul (EvP.nm (v := .int _) (by rfl)) EvP.int (by first | exact IntMulOk.of_right (by decide) | exact IntMulOk.of_left (by decide) | assumption)) (EvP.nm (v := .int _) (by rfl))) ?_
      refine m_nil ?_
      have e : number (ps.take (i + 1)) = number (ps.take i) * 64 + b := by
        unfold number; rw [List.take_add_one, hbi]; simp
      show Fit _ _ _
      rw [e]
      walk_at "ms_fit"
    · intro σ' hf
      rw [List.length_map, List.take_length] at hf
      skip
      refine ⟨rfl, fun z v q => hf.1 z v ?_, hf.2⟩
      revert q; exact (show Sub (names _) (names _) by walk_at "ms_sub") z v
  intro σ' hf
  refine m_fit hf ?_
  refine m_cons ?_
  refine m_Return ?_
  refine m_List ?_
  refine m_splE ?_
  refine evI (EvP.div (EvP.nm (v := .int _) (by rfl)) EvP.int (by first | decide | assumption) (by first | decide | assumption)) fun _ => ?_
  refine m_splE ?_
  refine evI (EvP.mod (EvP.div (EvP.nm (v := .int _) (by rfl)) EvP.int (by first | decide | assumption) (by first | decide | assumption)) EvP.int (by first | decide | assumption)) fun _ => ?_
  refine m_splE ?_
  refine evI (EvP.mod (EvP.nm (v := .int _) (by rfl)) EvP.int (by first | decide | assumption)) fun _ => ?_
  refine m_splE0 ?_
  refine m_newList (xs := [(number ps).fdiv 65536, ((number ps).fdiv 256).fmod 256, (number ps).fmod 256].map V.int) (.cons ⟨_, rfl⟩ (.cons ⟨_, rfl⟩ (.cons ⟨_, rfl⟩ .nil))) (by show 3 ≤ sizeLine; decide) fun D hD => ?_
  skip
  exact ⟨_, fun _ _ e => e, h D hD⟩
theorem c_text {bs : List Int} (hb : ∀ x ∈ bs, 0 ≤ x ∧ x < 256) (hl : bs.length ≤ 1000) (Z : Here (Mine.hd1.heap_1 w.params) p loose mg mb Γ.base) (hA : Dp A n)
    (h : ∀ t, Q (.str (T (bs.map Int.toNat)) t) σ) : mcode knd Γ A (.call (.ref 202) ⟨[.bytes (byteArr bs) t], []⟩) Q σ := by
  refine c_fun ["writing"] [.bytes (byteArr bs)] Z hA (.cons ⟨t, rfl⟩ .nil) ?_
  intro L'
  have hh : ∀ e, (A.deeper e).handled = none := fun e => hA.hd
  refine m_cons ?_
  refine m_If ?_
  refine m_isCompare ?_
  refine m_abs fun Zq0 hZq0 => ?_
  refine m_Call ?_
  refine m_Name ?_
  first | refine m_gK (by assumption) ?_ | refine m_gB (by assumption) ?_
  refine m_callT ?_
  refine m_splE ?_
  refine evY (EvP.nm (v := .bytes _) (by rfl)) fun _ => ?_
  refine m_splE0 ?_
  refine m_typeOf (x := .bytes (byteArr bs)) (fun s R => typeIs_bytes _ _ _) (by decide) ?_
  refine hZq0 _ _ ?_
  refine m_Name ?_
  first | refine m_gK (by assumption) ?_ | refine m_gB (by assumption) ?_
  refine m_isnot (by rfl) ?_
  refine m_trBool ?_
  skip
  refine ifalse (by decide) ?_
  refine m_nil ?_
  refine m_cons ?_
  refine m_Return ?_
  refine m_Method ?_
  refine evS EvP.str fun _ => ?_
  refine m_methStr PySem.F.slot_str_join PySem.F.type_str_join ?_
  refine m_callB ?_
  refine m_splE ?_
  refine m_Comp ?_
  refine evY (EvP.nm (v := .bytes _) (by rfl)) fun _ => ?_
  refine ⟨_, _, _, yields_bytes (hh _), ?_, fun _ _ => trivial, fun _ => true, fun y => match y with | .int i => .str (T [i.toNat]) | y => y, ?_, ?_⟩
  · rw [bytes_list hb, List.length_map]; exact Nat.le_trans hl (by decide)
  · intro y hy C I ob hbI D od hd
    rw [bytes_list hb] at hy
    obtain ⟨i, hi, rfl⟩ := List.mem_map.mp hy
    refine ⟨rfl, ?_⟩
    skip
    refine itrue rfl ?_
    refine m_Call ?_
    refine m_Name ?_
    first | refine m_gK (by assumption) ?_ | refine m_gB (by assumption) ?_
    refine m_callB ?_
    refine m_splE ?_
    refine evI (EvP.nm (v := .int _) (by rfl)) fun _ => ?_
    refine m_splE0 ?_
    refine m_chr (by have := hb i hi; omega) (by have := hb i hi; omega) fun _ => ?_
    skip
    exact ⟨fun _ _ e => e, ⟨_, rfl⟩⟩
  intro D hD
  have el : List.map (fun y => match y with | V.int i => V.str (T [i.toNat]) | y => y) (List.filter (fun x => true) (List.map (fun c => V.int (c.toNat : Int)) (byteArr bs).toList)) = (((bs.map Int.toNat).map fun i => [i]).map T).map V.str := by
    rw [bytes_list hb, filter_all, List.map_map, List.map_map, List.map_map, List.map_map]; rfl
  rw [el]
  refine m_splE0 ?_
  refine m_join put_same (by decide) ?_ fun _ => ?_
  · rw [ones_sum]; simp only [List.length_map]; omega
  skip
  refine ⟨σ.h, put_sub hD, ?_⟩
  rw [join_T, ones_flat]
  exact h _
end
end Mine
end
section
open PySem PySem.W PyProof.Rows PySem.SeqAt
set_option maxHeartbeats 1000000
namespace Mine
section
variable {prog : Program} {w : World} {K : Type} [DecidableEq K] {knd : PySem.KeyKind prog w K} {Γ : Fx} {σ : MS K} {A : Around} {env : Env} {α : Type} {s : Shared} {Q : Value → MS K → Prop} {QB : Bool → MS K → Prop} {QU : Unit → MS K → Prop} {QF : Flow → MS K → Prop}
variable {p : Program} {loose : List Str} {mg mb : Str → Option Value} {t u v : Tok} {n : Nat} {l : Addr}

noncomputable def places (ms : List Int) (mask : Int) : List Int :=
  match ms with
  | [a, b, c, d] => [a + 26 * (mask.fdiv 1).fmod 2, b + 26 * (mask.fdiv 2).fmod 2, if mask.fdiv 4 == 1 then 52 + c.fmod 12 else c, d]
  | _ => []
theorem c_places {a b c d : Int} {mask : Int} (hl : σ.h l = some (.list ([a, b, c, d].map V.int))) (Z : Here (Mine.hd1.heap_1 w.params) p loose mg mb Γ.base) (hA : Dp A n)
    (h : ∀ D, σ.h D = none → Q (.ref D) (σ.set D (.list ((places [a, b, c, d] mask).map V.int)))) : mcode knd Γ A (.call (.ref 190) ⟨[.ref l, .int mask t], []⟩) Q σ := by
  refine c_funC ["marks", "mask"] [.ref l, .int mask] Z hA (.cons rfl (.cons ⟨t, rfl⟩ .nil)) ?_
  intro L' hlt
  have hh : ∀ e, (A.deeper e).handled = none := fun e => hA.hd
  obtain ⟨hp, ehp⟩ : ∃ hp, hp = put (put σ.h (L' + 1) (.cell (some (.ref l)))) (L' + 1 + 1) (.cell (some (.int mask))) := ⟨_, rfl⟩
  have f1 : hp (L' + 1) = some (.cell (some (.ref l))) := by rw [ehp, put_other (by simp), put_same]
  have f2 : hp (L' + 1 + 1) = some (.cell (some (.int mask))) := by rw [ehp, put_same]
  have f4 : ∀ a o, σ.h a = some o → hp a = some o := fun a o e => by
    have := hlt a o e
    rw [ehp, put_other (Nat.ne_of_lt (Nat.lt_of_lt_of_le this (Nat.le_add_right L' 2))), put_other (Nat.ne_of_lt (Nat.lt_of_lt_of_le this (Nat.le_add_right L' 1)))]; exact e
  have f3 := f4 _ _ hl
  refine m_weak (m' := fun _ => none) (h' := hp) (fun _ _ e => by cases e) (by rw [ehp]; exact fun _ _ e => e) ?_
  clear ehp
  refine m_cons (m_AComp ?_)
  refine m_abs fun Zq0 hZq0 => ?_
  refine m_Call ?_
  refine m_Name ?_
  first | refine m_gK (by assumption) ?_ | refine m_gB (by assumption) ?_
  refine m_callT ?_
  refine m_splE ?_
  refine evI EvP.int fun _ => ?_
  refine m_splE0 ?_
  refine m_range1 fun R hR => ?_
  refine hZq0 _ _ ?_
  refine ⟨_, _, _, yields_range (hh _) 2 (by decide) (by decide), by decide, fun σ' hs => hs _ _ put_same, fun _ => true, fun y => match y with | .int 0 => .int (a + 26 * (mask.fdiv 1).fmod 2) | _ => .int (b + 26 * (mask.fdiv 2).fmod 2), ?_, ?_⟩
  · intro y hy C I ob hb D od hd
    skip
    refine ⟨rfl, ?_⟩
    skip
    refine itrue rfl ?_
    have hy : y = .int ((0 : Nat) : Int) ∨ y = .int ((1 : Nat) : Int) := by
      simp [List.range_succ] at hy; simpa using hy
    have f1' : put hp R (O.range 0 2 1) (L' + 1) = some (.cell (some (.ref l))) := put_sub hR _ _ f1
    have f2' : put hp R (O.range 0 2 1) (L' + 1 + 1) = some (.cell (some (.int mask))) := put_sub hR _ _ f2
    have f3' : put hp R (O.range 0 2 1) l = _ := put_sub hR _ _ f3
    rcases hy with rfl | rfl
    · refine m_BinOp ?_
      refine m_Sub ?_
      refine m_Name ?_
      refine m_ciR (c := L' + 1) (by walk_at "hl") ?_
      refine evI (EvP.nm (v := .int _) (by rfl)) fun _ => ?_
      refine m_atLi (k := 0) f3' (by decide) rfl fun _ => ?_
      refine m_BinOp ?_
      refine evI EvP.int fun _ => ?_
      refine m_BinOp ?_
      refine m_BinOp ?_
      refine m_Name ?_
      refine m_ciI (c := L' + 1 + 1) (by walk_at "hl") fun _ => ?_
      refine m_BinOp ?_
      refine evI EvP.int fun _ => ?_
      refine evI (EvP.nm (v := .int _) (by rfl)) fun _ => ?_
      refine m_pow (by decide) (by decide) fun _ => ?_
      first | refine m_div (by first | decide | assumption) (noPylong (by first | decide | assumption)) fun _ => ?_ | refine m_div ?_ ?_ fun _ => ?_
      refine evI EvP.int fun _ => ?_
      refine m_mod (by first | decide | assumption) fun _ => ?_
      first | refine m_mul (by first | exact IntMulOk.of_right (by decide) | exact IntMulOk.of_left (by decide) | assumption) fun _ => ?_ | refine m_mul ?_ fun _ => ?_
      refine m_add fun _ => ?_
      exact ⟨fun _ _ e => e, _, rfl⟩
    · refine m_BinOp ?_
      refine m_Sub ?_
      refine m_Name ?_
      refine m_ciR (c := L' + 1) (by walk_at "hl") ?_
      refine evI (EvP.nm (v := .int _) (by rfl)) fun _ => ?_
      refine m_atLi (k := 1) f3' (by decide) rfl fun _ => ?_
      refine m_BinOp ?_
      refine evI EvP.int fun _ => ?_
      refine m_BinOp ?_
      refine m_BinOp ?_
      refine m_Name ?_
      refine m_ciI (c := L' + 1 + 1) (by walk_at "hl") fun _ => ?_
      refine m_BinOp ?_
      refine evI EvP.int fun _ => ?_
      refine evI (EvP.nm (v := .int _) (by rfl)) fun _ => ?_
      refine m_pow (by decide) (by decide) fun _ => ?_
      first | refine m_div (by first | decide | assumption) (noPylong (by first | decide | assumption)) fun _ => ?_ | refine m_div ?_ ?_ fun _ => ?_
      refine evI EvP.int fun _ => ?_
      refine m_mod (by first | decide | assumption) fun _ => ?_
      first | refine m_mul (by first | exact IntMulOk.of_right (by decide) | exact IntMulOk.of_left (by decide) | assumption) fun _ => ?_ | refine m_mul ?_ fun _ => ?_
      refine m_add fun _ => ?_
      exact ⟨fun _ _ e => e, _, rfl⟩
  intro D hD
  have f1' : put hp R (O.range 0 2 1) (L' + 1) = some (.cell (some (.ref l))) := put_sub hR _ _ f1
  have f2' : put hp R (O.range 0 2 1) (L' + 1 + 1) = some (.cell (some (.int mask))) := put_sub hR _ _ f2
  have f3' : put hp R (O.range 0 2 1) l = _ := put_sub hR _ _ f3
  have hD : put hp R (O.range 0 2 1) D = none := hD
  have nD : l ≠ D := ne_none f3' hD
  refine m_cons ?_
  refine m_If ?_
  refine m_isCompare ?_
  refine m_BinOp ?_
  refine m_Name ?_
  refine m_ciI (c := L' + 1 + 1) (by walk_at "hl") fun _ => ?_
  refine evI EvP.int fun _ => ?_
  first | refine m_div (by first | decide | assumption) (noPylong (by first | decide | assumption)) fun _ => ?_ | refine m_div ?_ ?_ fun _ => ?_
  refine evI EvP.int fun _ => ?_
  refine m_eqi ?_
  refine m_trBool ?_
  refine ite_of (fun e => ?_) fun e => ?_
  · refine m_abs fun Zq1 hZq1 => ?_
    refine m_cons ?_
    refine m_Expr ?_
    refine m_Method ?_
    refine evR (EvP.nm (v := .ref _) (by rfl)) ?_
    refine m_methList (by walk_at "hl") PySem.F.slot_list_append PySem.F.type_list_append ?_
    refine m_callB ?_
    refine m_splE ?_
    refine m_BinOp ?_
    refine evI EvP.int fun _ => ?_
    refine m_BinOp ?_
    refine m_Sub ?_
    refine m_Name ?_
    refine m_ciR (c := L' + 1) (by walk_at "hl") ?_
    refine evI EvP.int fun _ => ?_
    refine m_atLi (k := 2) (by walk_at "hl") (by decide) rfl fun _ => ?_
    refine evI EvP.int fun _ => ?_
    refine m_mod (by first | decide | assumption) fun _ => ?_
    refine m_add fun _ => ?_
    refine m_splE0 ?_
    refine m_append (x := .int (52 + c.fmod 12)) put_same ⟨_, rfl⟩ (by show 2 ≤ sizeLine; decide) ?_
    refine m_nil ?_
    refine hZq1 _ _ ?_
    refine m_cons ?_
    refine m_Return ?_
    refine m_BinOp ?_
    refine evR (EvP.nm (v := .ref _) (by rfl)) ?_
    refine m_List ?_
    refine m_splE ?_
    refine m_Sub ?_
    refine m_Name ?_
    refine m_ciR (c := L' + 1) (by walk_at "hl") ?_
    refine evI EvP.int fun _ => ?_
    refine m_atLi (k := 3) (by walk_at "hl") (by decide) rfl fun _ => ?_
    refine m_splE0 ?_
    refine m_newList (xs := [.int d]) (.cons ⟨_, rfl⟩ .nil) (by show 1 ≤ sizeLine; decide) fun D2 hD2 => ?_
    skip
    have h2 : put (put hp R (O.range 0 2 1)) D (O.list [.int (a + 26 * (mask.fdiv 1).fmod 2), .int (b + 26 * (mask.fdiv 2).fmod 2), .int (52 + c.fmod 12)]) D2 = none := by
      have := hD2; exact (congrFun put_put.symm D2).trans this
    refine m_addLists (l := D) (xs := [.int (a + 26 * (mask.fdiv 1).fmod 2), .int (b + 26 * (mask.fdiv 2).fmod 2), .int (52 + c.fmod 12)]) (by walk_at "hl") put_same (by show 4 ≤ sizeLine; decide) fun D3 hD3 => ?_
    skip
    have n1 := none_put hD3
    have n2 := none_put n1
    have n3 := none_put n2
    have n4 := none_put n3
    refine ⟨_, ?_, h D3 (none_sub f4 n4)⟩
    have ep : places [a, b, c, d] mask = [a + 26 * (mask.fdiv 1).fmod 2, b + 26 * (mask.fdiv 2).fmod 2, 52 + c.fmod 12, d] := by unfold places; simp only; rw [if_pos e]
    rw [ep]
    exact put_mono fun x o z => put_sub hD2 _ _ ((put_other (ne_none (put_sub hR _ _ (f4 x o z)) hD)).trans (sub_put hD (put_sub hR _ _ (f4 x o z))))
  · refine m_abs fun Zq1 hZq1 => ?_
    refine m_cons ?_
    refine m_Expr ?_
    refine m_Method ?_
    refine evR (EvP.nm (v := .ref _) (by rfl)) ?_
    refine m_methList (by walk_at "hl") PySem.F.slot_list_append PySem.F.type_list_append ?_
    refine m_callB ?_
    refine m_splE ?_
    refine m_Sub ?_
    refine m_Name ?_
    refine m_ciR (c := L' + 1) (by walk_at "hl") ?_
    refine evI EvP.int fun _ => ?_
    refine m_atLi (k := 2) (by walk_at "hl") (by decide) rfl fun _ => ?_
    refine m_splE0 ?_
    refine m_append (x := .int (c)) put_same ⟨_, rfl⟩ (by show 2 ≤ sizeLine; decide) ?_
    refine m_nil ?_
    refine hZq1 _ _ ?_
    refine m_cons ?_
    refine m_Return ?_
    refine m_BinOp ?_
    refine evR (EvP.nm (v := .ref _) (by rfl)) ?_
    refine m_List ?_
    refine m_splE ?_
    refine m_Sub ?_
    refine m_Name ?_
    refine m_ciR (c := L' + 1) (by walk_at "hl") ?_
    refine evI EvP.int fun _ => ?_
    refine m_atLi (k := 3) (by walk_at "hl") (by decide) rfl fun _ => ?_
    refine m_splE0 ?_
    refine m_newList (xs := [.int d]) (.cons ⟨_, rfl⟩ .nil) (by show 1 ≤ sizeLine; decide) fun D2 hD2 => ?_
    skip
    have h2 : put (put hp R (O.range 0 2 1)) D (O.list [.int (a + 26 * (mask.fdiv 1).fmod 2), .int (b + 26 * (mask.fdiv 2).fmod 2), .int (c)]) D2 = none := by
      have := hD2; exact (congrFun put_put.symm D2).trans this
    refine m_addLists (l := D) (xs := [.int (a + 26 * (mask.fdiv 1).fmod 2), .int (b + 26 * (mask.fdiv 2).fmod 2), .int (c)]) (by walk_at "hl") put_same (by show 4 ≤ sizeLine; decide) fun D3 hD3 => ?_
    skip
    have n1 := none_put hD3
    have n2 := none_put n1
    have n3 := none_put n2
    have n4 := none_put n3
    refine ⟨_, ?_, h D3 (none_sub f4 n4)⟩
    have ep : places [a, b, c, d] mask = [a + 26 * (mask.fdiv 1).fmod 2, b + 26 * (mask.fdiv 2).fmod 2, c, d] := by unfold places; simp only; rw [if_neg e]
    rw [ep]
    exact put_mono fun x o z => put_sub hD2 _ _ ((put_other (ne_none (put_sub hR _ _ (f4 x o z)) hD)).trans (sub_put hD (put_sub hR _ _ (f4 x o z))))
end
end Mine
end
section
open PySem PySem.W PyProof.Rows PySem.SeqAt
set_option maxHeartbeats 1000000
namespace Mine

noncomputable def msk (ms : List Int) (i : Int) : Int := ms.getD i.toNat 0
noncomputable def under (ms left : List Int) (j : Int) : List Int := left.filter fun i => i != j && Builtin.bitAnd (msk ms i) (msk ms j) == msk ms i
noncomputable def lowOf (ms left : List Int) : List Int := left.filter fun j => decide (under ms left j = [])
noncomputable def leftOf (ms left : List Int) : List Int := left.filter fun j => !(lowOf ms left).any (· == j)
noncomputable def roundsF (ms : List Int) : Nat → List Int → List (List Int) → Option (List (List Int))
  | 0, left, due => if left = [] then some due else none
  | n + 1, left, due => if left = [] then some due else roundsF ms n (leftOf ms left) (due ++ [lowOf ms left])

section
variable {K : Type} [DecidableEq K] {h : Addr → Option (O K)} {as : List Addr} {res : List (List Int)} {X : Addr} {o : O K}
theorem Rows.fresh (r : Rows h as res) (hX : h X = none) : Rows (put h X o) as res := r.mono fun _ _ _ e => sub_put hX e
theorem Rows.other (r : Rows h as res) (hX : ∀ a ∈ as, a ≠ X) : Rows (put h X o) as res := r.mono fun a ha _ e => (put_other (hX a ha)).trans e
theorem Rows.mem (r : Rows h as res) : ∀ a ∈ as, ∃ xs, h a = some (.list xs) := by
  induction r with
  | nil => intro a ha; cases ha
  | cons e _ ih =>
    intro a ha
    rcases List.mem_cons.mp ha with rfl | ha
    · skip
      exact ⟨_, e⟩
    · exact ih a ha
theorem Rows.diff (r : Rows h as res) {ox : O K} (hX : h X = some ox) (hne : ∀ xs, ox ≠ .list xs) : Rows (put h X o) as res := r.other fun a ha e => by
  obtain ⟨xs, e2⟩ := r.mem a ha
  rw [e, hX] at e2; exact hne xs (Option.some.inj e2)
theorem sub_upd {f g : Addr → Option (O K)} (hX : f X = none) (hs : ∀ a o, f a = some o → g a = some o) : ∀ a o', f a = some o' → put g X o a = some o' := fun a o' e =>
  (put_other (fun q => by rw [q, hX] at e; cases e)).trans (hs a o' e)
structure RSt (h0 hq : Addr → Option (O K)) (L' l Dd Dl Dw : Addr) (as : List Addr) (due : List (List Int)) (left low : List Int) (vj : Option V) : Prop where
  sub : ∀ a o, h0 a = some o → hq a = some o
  c1 : hq (L' + 1) = some (.cell (some (.ref l)))
  c2 : hq (L' + 1 + 1) = some (.cell (some (.ref Dw)))
  c3 : hq (L' + 1 + 1 + 1) = some (.cell vj)
  dl : hq Dl = some (.list (left.map V.int))
  dd : hq Dd = some (.list (as.map .ref))
  dw : hq Dw = some (.list (low.map V.int))
  rows : Rows hq as due
  na : ∀ a ∈ as, a ≠ Dw
  n1 : Dw ≠ Dl
  n2 : Dw ≠ Dd
  hw : h0 Dw = none
section
variable {h0 hq : Addr → Option (O K)} {L' l Dd Dl Dw : Addr} {due : List (List Int)} {left low : List Int} {vj : Option V}
theorem RSt.setJ (r : RSt h0 hq L' l Dd Dl Dw as due left low vj) (hx : h0 (L' + 1 + 1 + 1) = none) {v' : Option V} : RSt h0 (put hq (L' + 1 + 1 + 1) (.cell v')) L' l Dd Dl Dw as due left low v' :=
  ⟨sub_upd hx r.sub, (put_other (by simp)).trans r.c1, (put_other (by simp)).trans r.c2, put_same, put_diff r.dl r.c3 (by intro q; cases q), put_diff r.dd r.c3 (by intro q; cases q), put_diff r.dw r.c3 (by intro q; cases q), r.rows.diff r.c3 (fun _ q => by cases q), r.na, r.n1, r.n2, r.hw⟩
theorem RSt.setLow (r : RSt h0 hq L' l Dd Dl Dw as due left low vj) {low' : List Int} : RSt h0 (put hq Dw (.list (low'.map V.int))) L' l Dd Dl Dw as due left low' vj :=
  ⟨sub_upd r.hw r.sub, put_diff r.c1 r.dw (by intro q; cases q), put_diff r.c2 r.dw (by intro q; cases q), put_diff r.c3 r.dw (by intro q; cases q), (put_other (Ne.symm r.n1)).trans r.dl, (put_other (Ne.symm r.n2)).trans r.dd, put_same, r.rows.other r.na, r.na, r.n1, r.n2, r.hw⟩
end
theorem filt_ints {P : V → Bool} {P' : Int → Bool} (hP : ∀ i, P (.int i) = P' i) : ∀ left : List Int, List.map (fun y => y) ((left.map V.int).filter P) = (left.filter P').map V.int
  | [] => rfl
  | i :: r => by
    rw [List.map_cons, List.filter_cons, List.filter_cons, hP]
    cases P' i with
    | true => simp only [if_true, List.map_cons]; rw [filt_ints hP r]
    | false => simp only [Bool.false_eq_true, if_false]; rw [filt_ints hP r]
end
section
variable {prog : Program} {w : World} {K : Type} [DecidableEq K] {knd : PySem.KeyKind prog w K} {Γ : Fx} {σ : MS K} {A : Around} {env : Env} {α : Type} {s : Shared} {Q : Value → MS K → Prop} {QB : Bool → MS K → Prop} {QU : Unit → MS K → Prop} {QF : Flow → MS K → Prop}
variable {p : Program} {loose : List Str} {mg mb : Str → Option Value} {t u v : Tok} {n : Nat} {l : Addr}

inductive RoundW {K : Type} (ms : List Int) (res : List (List Int)) (l L' Dd : Addr) (h0 : Addr → Option (O K)) (n' : Nat) (σ' : MS K) : Prop
  | mk (hp' : Addr → Option (O K)) (due : List (List Int)) (left : List Int) (Dl : Addr) (as : List Addr) (vlow vj : Option V) (k1 : n' ≤ 1000) (k2 : due.length + n' ≤ 1000) (k3 : left.length ≤ 1000) (k4 : roundsF ms n' left due = some res) (hf : Fit σ' (names [("due", .ref Dd), ("left", .ref Dl)]) hp') (hsub : ∀ a o, h0 a = some o → hp' a = some o)
      (c1 : hp' (L' + 1) = some (.cell (some (.ref l)))) (c2 : hp' (L' + 1 + 1) = some (.cell vlow)) (c3 : hp' (L' + 1 + 1 + 1) = some (.cell vj)) (d1 : hp' Dl = some (.list (left.map V.int))) (d2 : hp' Dd = some (.list (as.map .ref))) (rw : Rows hp' as due) (n1 : ∀ a ∈ as, a ≠ Dd) (n2 : Dl ≠ Dd)
      (hl : ∀ j ∈ left, ∃ k : Nat, j = (k : Int) ∧ k < ms.length)
theorem c_rounds {ms : List Int} {N : Nat} {res : List (List Int)} (hlen : ms.length ≤ 1000) (hN : N ≤ 1000) (hres : roundsF ms N (((List.range ms.length).map fun i : Nat => (i : Int))) [] = some res) (hl : σ.h l = some (.list (ms.map V.int))) (Z : Here (Mine.hd1.heap_1 w.params) p loose mg mb Γ.base) (hA : Dp A (n + 1))
    (h : ∀ D h', (∀ a o, σ.h a = some o → h' a = some o) → Nest h' D res → σ.h D = none → Q (.ref D) ⟨σ.m, h'⟩) : mcode knd Γ A (.call (.ref 207) ⟨[.ref l], []⟩) Q σ := by
  refine c_funC ["masks"] [.ref l] Z hA (.cons rfl .nil) ?_
  intro L' hlt
  have hh : ∀ e, (A.deeper e).handled = none := fun e => hA.hd
  have hu : ∀ e, (A.deeper e).units < cLine := fun e => by have := hA.un; show A.units + 3 < _; omega
  have hx1 : σ.h (L' + 1) = none := by cases z : σ.h (L' + 1) with | none => rfl | some o => exact absurd (hlt _ _ z) (Nat.not_lt.mpr (Nat.le_add_right _ _))
  have hx2 : σ.h (L' + 1 + 1) = none := by cases z : σ.h (L' + 1 + 1) with | none => rfl | some o => exact absurd (hlt _ _ z) (Nat.not_lt.mpr (Nat.le_add_right L' 2))
  have hx3 : σ.h (L' + 1 + 1 + 1) = none := by cases z : σ.h (L' + 1 + 1 + 1) with | none => rfl | some o => exact absurd (hlt _ _ z) (Nat.not_lt.mpr (Nat.le_add_right L' 3))
  obtain ⟨hp, ehp⟩ : ∃ hp, hp = put (put (put σ.h (L' + 1) (.cell (some (.ref l)))) (L' + 1 + 1) (.cell none)) (L' + 1 + 1 + 1) (.cell none) := ⟨_, rfl⟩
  have f1 : hp (L' + 1) = some (.cell (some (.ref l))) := by rw [ehp, put_other (by simp), put_other (by simp), put_same]
  have f2 : hp (L' + 1 + 1) = some (.cell none) := by rw [ehp, put_other (by simp), put_same]
  have f3 : hp (L' + 1 + 1 + 1) = some (.cell none) := by rw [ehp, put_same]
  have f4 : ∀ a o, σ.h a = some o → hp a = some o := by rw [ehp]; exact sub_upd hx3 (sub_upd hx2 (sub_upd hx1 fun _ _ e => e))
  refine m_weak (m' := fun _ => none) (h' := hp) (fun _ _ e => by cases e) (by rw [ehp]; exact fun _ _ e => e) ?_
  clear ehp
  have f5 := f4 _ _ hl
  refine m_cons ?_
  refine m_AssignName ?_
  refine m_List ?_
  refine m_splE0 ?_
  refine m_newList .nil (by decide) fun Dd hDd => ?_
  have hDd : hp Dd = none := hDd
  refine m_str' ?_
  refine m_cons ?_
  refine m_AssignName ?_
  refine m_Call ?_
  refine m_Name ?_
  first | refine m_gK (by assumption) ?_ | refine m_gB (by assumption) ?_
  refine m_callT ?_
  refine m_splE ?_
  refine m_abs fun Zq0 hZq0 => ?_
  refine m_Call ?_
  refine m_Name ?_
  first | refine m_gK (by assumption) ?_ | refine m_gB (by assumption) ?_
  refine m_callT ?_
  refine m_splE ?_
  refine m_Call ?_
  refine m_Name ?_
  first | refine m_gK (by assumption) ?_ | refine m_gB (by assumption) ?_
  refine m_callB ?_
  refine m_splE ?_
  refine m_Name ?_
  refine m_ciR (c := L' + 1) (by walk_at "hl") ?_
  refine m_splE0 ?_
  refine m_lenList (by walk_at "hl") (by rw [List.length_map]; omega) fun _ => ?_
  refine m_splE0 ?_
  rw [List.length_map]
  refine m_range1 fun R hR => ?_
  have hR : put hp Dd (.list []) R = none := hR
  refine hZq0 _ _ ?_
  refine m_splE0 ?_
  refine m_listRange (hh _) put_same (range_small (n := ms.length) (by omega)).1 (range_small (by omega)).2 (by omega) fun Dl hDl => ?_
  have hDl : put (put hp Dd (.list [])) R (.range 0 ms.length 1) Dl = none := hDl
  have el : (List.range ms.length).map (fun i : Nat => V.int (0 + (i : Nat) * 1)) = ((List.range ms.length).map fun i : Nat => (i : Int)).map V.int := by
    rw [List.map_map]; congr 1; funext i; simp
  rw [el]
  have hleft : ∀ j ∈ (List.range ms.length).map (fun i : Nat => (i : Int)), ∃ k : Nat, j = (k : Int) ∧ k < ms.length := fun j hj => by
    obtain ⟨k, hk, rfl⟩ := List.mem_map.mp hj; exact ⟨k, rfl, List.mem_range.mp hk⟩
  have hll : ((List.range ms.length).map (fun i : Nat => (i : Int))).length ≤ 1000 := by simpa using hlen
  revert hres hleft hll
  generalize (List.range ms.length).map (fun i : Nat => (i : Int)) = left₀
  intro hres hleft hll
  refine m_str' ?_
  refine m_cons ?_
  have hsubD : σ.h Dd = none := none_sub f4 hDd
  refine m_then (P := fun σ' => ∃ hp' as, Fit σ' (names [("due", .ref Dd)]) hp' ∧ (∀ a o, σ.h a = some o → hp' a = some o) ∧ hp' Dd = some (.list (as.map .ref)) ∧ Rows hp' as res) ?_ ?_
  · refine m_While (I := RoundW ms res l L' Dd σ.h) (n := N) ⟨_, [], left₀, Dl, [], none, none, hN, by simpa using hN, hll, hres, by walk_at "ms_fit", ?_, by walk_at "hl", by walk_at "hl", by walk_at "hl", put_same, by walk_at "hl", .nil, (fun _ h => nomatch h), ?_, hleft⟩ ?_
    · exact fun a o e => sub_put hDl (sub_put hR (sub_put hDd (f4 a o e)))
    · exact fun e => by rw [e] at hDl; exact ne_put (none_put hDl) rfl
    · rintro n' σ' ⟨hp', due, left, Dl, as, vlow, vj, g0, gd, gl, g1, hf, g2, g3, g4, g5, g6, g7, g8, g9, gDD, g10⟩
      refine m_fit hf ?_
      refine m_abs fun Zq1 hZq1 => ?_
      refine m_isCompare ?_
      refine evR (EvP.nm (v := .ref _) (by rfl)) ?_
      refine m_List ?_
      refine m_splE0 ?_
      refine m_newList .nil (by decide) fun De hDe => ?_
      skip
      refine m_neInts (as := left) (bs := []) (hu _) (by walk_at "hl") put_same ?_
      refine m_trBool ?_
      refine hZq1 _ _ ?_
      refine ite_of (fun e => ?_) fun e => ?_
      · have hne : left ≠ [] := by simpa using e
        refine m_weak (m' := names [("due", .ref Dd), ("left", .ref Dl)]) (h' := hp') (by walk_at "ms_sub") (put_sub hDe) ?_
        clear hDe De
        refine m_abs fun Zq2 hZq2 => ?_
        refine m_cons ?_
        refine m_AssignName ?_
        refine m_List ?_
        refine m_splE0 ?_
        refine m_newList .nil (by decide) fun Dw hDw => ?_
        have hDw : hp' Dw = none := hDw
        refine m_storeCell (v := .ref _) (c := L' + 1 + 1) rfl (by walk_at "hl") ?_
        refine m_cons ?_
        obtain ⟨hq0, ehq⟩ : ∃ hq, hq = put (put hp' Dw (.list [])) (L' + 1 + 1) (.cell (some (.ref Dw))) := ⟨_, rfl⟩
        have r0 : RSt σ.h hq0 L' l Dd Dl Dw as due left [] vj := by
          rw [ehq]
          have z2 : put hp' Dw (.list []) (L' + 1 + 1) = some (.cell vlow) := sub_put hDw g4
          exact ⟨sub_upd hx2 fun a o e => sub_put hDw (g2 a o e), (put_other (by simp)).trans (sub_put hDw g3), put_same, (put_other (by simp)).trans (sub_put hDw g5), put_diff (sub_put hDw g6) z2 (by intro q; cases q), put_diff (sub_put hDw g7) z2 (by intro q; cases q),
            put_diff put_same z2 (by intro q; cases q), (g8.fresh hDw).diff z2 (fun _ q => by cases q), fun a ha e => (by obtain ⟨xs, e2⟩ := g8.mem a ha; rw [e, hDw] at e2; cases e2), (ne_none g6 hDw).symm, (ne_none g7 hDw).symm, none_sub g2 hDw⟩
        refine m_weak (m' := names [("due", .ref Dd), ("left", .ref Dl)]) (h' := hq0) (by walk_at "ms_sub") (by rw [ehq]; exact fun _ _ e => e) ?_
        clear ehq
        refine m_then (P := fun (σ' : MS K) => ∃ hq vj', Fit σ' (names [("due", .ref Dd), ("left", .ref Dl)]) hq ∧ RSt σ.h hq L' l Dd Dl Dw as due left (lowOf ms left) vj') ?_ ?_
        · refine m_ForG ?_
          refine evR (EvP.nm (v := .ref _) (by rfl)) ?_
          refine ⟨_, _, _, yields_list (hh _), fun i (σ' : MS K) => ∃ (hq : Addr → Option (O K)) (vj' : Option V), Fit σ' (names [("due", .ref Dd), ("left", .ref Dl)]) hq ∧ RSt σ.h hq L' l Dd Dl Dw as due left ((left.take i).filter fun j => decide (under ms left j = [])) vj', ⟨hq0, vj, by walk_at "ms_fit", by simpa using r0⟩, fun i σ' ⟨hq, vj', hf, r⟩ => hf.2 _ _ r.dl, ?_, ?_⟩
          · rintro i y v' σ'' I ob hb hy iv ⟨hq, vj', hf, r⟩
            rw [List.getElem?_map] at hy
            obtain ⟨j, hj, rfl⟩ : ∃ b, left[i]? = some b ∧ y = .int b := by
              cases z : left[i]? with
              | none => rw [z] at hy; cases hy
              | some b => rw [z] at hy; exact ⟨b, rfl, by simpa using hy.symm⟩
            obtain ⟨tj, rfl⟩ := iv
            refine m_fit hf ?_
            obtain ⟨kj, ekj, hkj⟩ := g10 j (List.mem_of_getElem? hj)
            have c3 := r.c3
            refine m_storeCell (v := .int _) (c := L' + 1 + 1 + 1) ⟨_, rfl⟩ (by walk_at "hl") ?_
            refine m_abs fun Zq3 hZq3 => ?_
            refine m_cons ?_
            refine m_If ?_
            refine m_isCompare ?_
            have r1 := r.setJ hx3 (v' := some (.int j))
            refine m_weak (m' := names [("due", .ref Dd), ("left", .ref Dl)]) (h' := put hq (L' + 1 + 1 + 1) (.cell (some (.int j)))) (by walk_at "ms_sub") (fun _ _ e => e) ?_
            revert r1
            generalize put hq (L' + 1 + 1 + 1) (.cell (some (.int j))) = hq1
            intro r1
            clear r hf c3
            have c1 := r1.c1
            have c3 := r1.c3
            have dl := r1.dl
            have d5 := r1.sub _ _ hl
            refine m_Comp ?_
            refine evR (EvP.nm (v := .ref _) (by rfl)) ?_
            refine ⟨_, _, _, yields_list (hh _), by rw [List.length_map]; exact Nat.le_trans gl (by decide), fun σ' hs => hs _ _ dl, fun y => match y with | .int i => i != j && Builtin.bitAnd (msk ms i) (msk ms j) == msk ms i | _ => false, fun y => y, ?_, ?_⟩
            · intro y hy C I ob hb D od hd
              obtain ⟨i1, hi1, rfl⟩ := List.mem_map.mp hy
              obtain ⟨ki, eki, hki⟩ := g10 i1 hi1
              subst ekj eki
              refine (?_ : mwp knd _ _ _ _ _)
              refine m_abs fun Zq4 hZq4 => ?_
              refine m_isBoolOp ?_
              refine m_andCons ?_
              refine tvU (TvP.nei (EvP.nm (v := .int _) (by rfl)) (EvP.cell c3)) ?_
              refine ite_of (fun e => ?_) fun e => ?_
              · refine m_andCons ?_
                refine m_abs fun Zq5 hZq5 => ?_
                refine m_isCompare ?_
                refine m_BinOp ?_
                refine m_Sub ?_
                refine evR (EvP.cell c1) ?_
                refine evI (EvP.nm (v := .int _) (by rfl)) fun _ => ?_
                refine m_atLi (z := msk ms ki) d5 (by omega) (by rw [List.getElem?_map]; simp [msk, hki]) fun _ => ?_
                refine m_Sub ?_
                refine evR (EvP.cell c1) ?_
                refine evI (EvP.cell c3) fun _ => ?_
                refine m_atLi (z := msk ms kj) d5 (by omega) (by rw [List.getElem?_map]; simp [msk, hkj]) fun _ => ?_
                refine m_and fun _ => ?_
                refine m_Sub ?_
                refine evR (EvP.cell c1) ?_
                refine evI (EvP.nm (v := .int _) (by rfl)) fun _ => ?_
                refine m_atLi (z := msk ms ki) d5 (by omega) (by rw [List.getElem?_map]; simp [msk, hki]) fun _ => ?_
                refine m_eqi ?_
                refine m_trBool ?_
                refine hZq5 _ _ ?_
                refine ite_of (fun e' => ?_) fun e' => ?_
                · refine m_andNil ?_
                  refine hZq4 _ _ ?_
                  skip
                  refine ⟨by simp only [e, e', Bool.and_self], ?_⟩
                  skip
                  refine itrue rfl ?_
                  refine evI (EvP.nm (v := .int _) (by rfl)) fun _ => ?_
                  exact ⟨fun _ _ e => e, _, rfl⟩
                · refine hZq4 _ _ ?_
                  refine ⟨by simp only [e, Bool.eq_false_iff.mpr e', Bool.and_false], ?_⟩
                  skip
                  refine ifalse (by decide) ?_
                  exact fun _ _ e => e
              · refine hZq4 _ _ ?_
                refine ⟨by simp only [Bool.eq_false_iff.mpr e, Bool.false_and], ?_⟩
                skip
                refine ifalse (by decide) ?_
                exact fun _ _ e => e
            rw [filt_ints (P' := fun i => i != j && Builtin.bitAnd (msk ms i) (msk ms j) == msk ms i) (fun _ => rfl)]
            intro Dc hDc
            have hDc : hq1 Dc = none := hDc
            refine m_List ?_
            refine m_splE0 ?_
            refine m_newList .nil (by decide) fun De hDe => ?_
            skip
            refine m_eqInts (as := under ms left j) (bs := []) (hu _) (sub_put hDe put_same) put_same ?_
            refine m_trBool ?_
            have htk : left.take (i + 1) = left.take i ++ [j] := by rw [List.take_add_one, hj]; rfl
            have c2 := r1.c2
            have dw := r1.dw
            refine ite_of (fun e => ?_) fun e => ?_
            · refine m_weak (m' := names [("due", .ref Dd), ("left", .ref Dl)]) (h' := hq1) (by walk_at "ms_sub") (fun a o e => sub_put hDe (sub_put hDc e)) ?_
              refine m_abs fun Zq4 hZq4 => ?_
              refine m_cons ?_
              refine m_Expr ?_
              refine m_Method ?_
              refine evR (EvP.cell c2) ?_
              refine m_methList (by walk_at "hl") PySem.F.slot_list_append PySem.F.type_list_append ?_
              refine m_callB ?_
              refine m_splE ?_
              refine evI (EvP.cell c3) fun _ => ?_
              refine m_splE0 ?_
              refine m_append (x := .int j) dw ⟨_, rfl⟩ ?_ ?_
              · rw [List.length_map]; exact Nat.le_trans (Nat.le_trans (List.length_filter_le _ _) (by rw [List.length_take]; omega)) (show 1000 ≤ sizeLine by decide)
              refine m_nil ?_
              refine hZq4 _ _ ?_
              refine m_nil ?_
              refine hZq3 _ _ ?_
              refine ⟨_, some (.int j), by walk_at "ms_fit", ?_⟩
              have e := of_decide_eq_true e
              have := r1.setLow (low' := (left.take (i + 1)).filter fun j => decide (under ms left j = []))
              have e3 : (left.take (i + 1)).filter (fun j => decide (under ms left j = [])) = (left.take i).filter (fun j => decide (under ms left j = [])) ++ [j] := by rw [htk, List.filter_append]; simp [e]
              rw [e3, List.map_append] at this
              rw [e3]; exact this
            · refine m_weak (m' := names [("due", .ref Dd), ("left", .ref Dl)]) (h' := hq1) (by walk_at "ms_sub") (fun a o e => sub_put hDe (sub_put hDc e)) ?_
              refine m_nil ?_
              refine m_nil ?_
              refine hZq3 _ _ ?_
              refine ⟨_, some (.int j), by walk_at "ms_fit", ?_⟩
              have e : ¬ under ms left j = [] := by simpa using e
              simpa [e, htk, List.filter_append] using r1
          · rintro σ'' ⟨hq, vj', hf, r⟩
            rw [List.length_map, List.take_length] at r
            skip
            exact ⟨rfl, hq, vj', hf, r⟩
        · rintro σ'' ⟨hq, vj', hf, r⟩
          refine m_fit hf ?_
          have c2 := r.c2
          have dd := r.dd
          refine m_cons ?_
          refine m_Expr ?_
          refine m_Method ?_
          refine evR (EvP.nm (v := .ref _) (by rfl)) ?_
          refine m_methList (by walk_at "hl") PySem.F.slot_list_append PySem.F.type_list_append ?_
          refine m_callB ?_
          refine m_splE ?_
          refine evR (EvP.cell c2) ?_
          refine m_splE0 ?_
          refine m_append (x := .ref Dw) dd rfl ?_ ?_
          · rw [List.length_map, r.rows.length]; exact Nat.le_trans (show due.length ≤ 1000 by omega) (by decide)
          refine m_cons ?_
          obtain ⟨hq1, ehq⟩ : ∃ hq1 : Addr → Option (O K), hq1 = put hq Dd (.list (as.map .ref ++ [.ref Dw])) := ⟨_, rfl⟩
          have b1 : hq1 (L' + 1) = some (.cell (some (.ref l))) := by rw [ehq]; exact put_diff r.c1 r.dd (by intro q; cases q)
          have b2 : hq1 (L' + 1 + 1) = some (.cell (some (.ref Dw))) := by rw [ehq]; exact put_diff r.c2 r.dd (by intro q; cases q)
          have b3 : hq1 (L' + 1 + 1 + 1) = some (.cell vj') := by rw [ehq]; exact put_diff r.c3 r.dd (by intro q; cases q)
          have b4 : hq1 Dl = some (.list (left.map V.int)) := by rw [ehq]; exact (put_other gDD).trans r.dl
          have b5 : hq1 Dw = some (.list ((lowOf ms left).map V.int)) := by rw [ehq]; exact (put_other r.n2).trans r.dw
          have b6 : hq1 Dd = some (.list ((as ++ [Dw]).map .ref)) := by rw [ehq, put_same]; simp
          have b7 : Rows hq1 (as ++ [Dw]) (due ++ [lowOf ms left]) := by
            refine Rows.snoc ?_ b5
            rw [ehq]; exact r.rows.other g9
          have b8 : ∀ a o, σ.h a = some o → hq1 a = some o := by rw [ehq]; exact sub_upd hsubD r.sub
          have b9 : ∀ a ∈ as ++ [Dw], a ≠ Dd := fun a ha => by
            rcases List.mem_append.mp ha with ha | ha
            · exact g9 a ha
            · rw [List.mem_singleton.mp ha]; exact r.n2
          refine m_weak (m' := names [("due", .ref Dd), ("left", .ref Dl)]) (h' := hq1) (by walk_at "ms_sub") (by rw [ehq]; exact fun _ _ e => e) ?_
          refine m_AComp ?_
          refine evR (EvP.nm (v := .ref _) (by rfl)) ?_
          refine ⟨_, _, _, yields_list (hh _), by rw [List.length_map]; exact Nat.le_trans gl (by decide), fun σ' hs => hs _ _ b4, fun y => match y with | .int j => !(lowOf ms left).any (· == j) | _ => false, fun y => y, ?_, ?_⟩
          · intro y hy C I ob hb D od hd
            obtain ⟨i1, hi1, rfl⟩ := List.mem_map.mp hy
            refine (?_ : mwp knd _ _ _ _ _)
            refine m_abs fun Zq3 hZq3 => ?_
            refine m_isCompare ?_
            refine evI (EvP.nm (v := .int _) (by rfl)) fun _ => ?_
            refine evR (EvP.cell b2) ?_
            refine m_notinInts b5 ?_
            refine m_trBool ?_
            refine hZq3 _ _ ?_
            refine ⟨rfl, ite_of (fun e => ?_) fun e => ?_⟩
            · refine evI (EvP.nm (v := .int _) (by rfl)) fun _ => ?_
              skip
              exact ⟨fun _ _ e => e, _, rfl⟩
            · exact fun _ _ e => e
          rw [filt_ints (P' := fun j => !(lowOf ms left).any (· == j)) (fun _ => rfl)]
          intro Dn hDn
          have hDn : hq1 Dn = none := hDn
          refine m_nil ?_
          refine hZq2 _ _ ?_
          cases n' with
          | zero => rw [roundsF, if_neg hne] at g1; cases g1
          | succ n' =>
            rw [roundsF, if_neg hne] at g1
            skip
            refine ⟨n', Nat.lt_succ_self _, put hq1 Dn (.list ((leftOf ms left).map V.int)), _, leftOf ms left, Dn, _, _, _, by omega, by simp; omega, Nat.le_trans (List.length_filter_le _ _) gl, g1, by walk_at "ms_fit", fun a o e => sub_put hDn (b8 a o e), sub_put hDn b1, sub_put hDn b2, sub_put hDn b3, put_same, sub_put hDn b6, b7.fresh hDn, b9, (ne_none b6 hDn).symm, ?_⟩
            intro j hj
            exact g10 j (List.mem_filter.mp hj).1
      · have hne : left = [] := by simpa using e
        refine m_nil ?_
        refine ⟨rfl, put hp' De (.list []), as, by walk_at "ms_fit", fun a o e => sub_put hDe (g2 a o e), sub_put hDe g7, ?_⟩
        have : due = res := by
          cases n' with
          | zero => rw [roundsF, if_pos hne] at g1; exact Option.some.inj g1
          | succ n' => rw [roundsF, if_pos hne] at g1; exact Option.some.inj g1
        rw [← this]
        exact g8.fresh hDe
  · rintro σ' ⟨hp', as, hf, g2, g7, g8⟩
    refine m_fit hf ?_
    refine m_cons ?_
    refine m_Return ?_
    refine evR (EvP.nm (v := .ref _) (by rfl)) ?_
    exact ⟨hp', fun _ _ e => e, h Dd hp' g2 ⟨as, g7, g8⟩ hsubD⟩
end
end Mine
end
section
open PySem PySem.W PyProof.Rows PySem.SeqAt
set_option maxHeartbeats 1000000
namespace Mine
abbrev Ky := Int
abbrev kyV : Ky → V := V.int
abbrev kyVal : Ky → Tok → Value := Value.int
abbrev kyK (prog : Program) (w : World) : PySem.KeyKind prog w Ky := PySem.intKind prog w
theorem ky_is {prog : Program} {w : World} {k : Ky} {t : Tok} : (kyK prog w).is k (kyVal k t) = true := by simp [kyK, PySem.intKind, kyVal, Value.isInt]
theorem ky_out {prog : Program} {w : World} (k : Ky) (v : Value) (h : (kyK prog w).is k v = true) : (kyV k).is v := by
  cases v with
  | int i t => simp [kyK, PySem.intKind, Value.isInt] at h; exact ⟨t, by rw [h]⟩
  | _ => simp [kyK, PySem.intKind, Value.isInt] at h
theorem ky_inj {k k' : Ky} (h : kyV k = kyV k') : k = k' := by cases h; rfl

theorem rn {x : Addr} : ¬ (Value.ref x == Value.none) = true := Bool.false_ne_true
theorem nn : (Value.none == Value.none) = true := rfl
theorem map_get {α β : Type} {f : α → β} {l : List α} {i : Nat} {y : β} (h : (l.map f)[i]? = some y) : ∃ k, l[i]? = some k ∧ y = f k := by
  rw [List.getElem?_map] at h
  cases z : l[i]? with
  | none => rw [z] at h; cases h
  | some b => rw [z] at h; exact ⟨b, rfl, by simpa using h.symm⟩
theorem take_snoc {α : Type} {l : List α} {i : Nat} {k : α} (h : l[i]? = some k) : l.take (i + 1) = l.take i ++ [k] := by rw [List.take_add_one, h]; rfl
theorem put_comm {β : Type} {f : Addr → Option β} {a b : Addr} {x y : β} (h : a ≠ b) : put (put f a x) b y = put (put f b y) a x := by
  funext c; unfold put; by_cases e : c = b
  · subst e; simp [Ne.symm h]
  · simp [e]
abbrev cTS : Addr := 137
abbrev cNI : Addr := 40

structure SS where
  ord : List Ky
  np : Ky → Int
  su : Ky → List Ky
  rd : Option (List Ky)
  po : Int
  fi : Int
structure Ad where
  x : Addr
  dx : Addr
  dd : Addr
  ra : Addr
  aN : Ky → Addr
  aD : Ky → Addr
  aL : Ky → Addr
noncomputable def rdV (ra : Addr) : Option (List Ky) → V
  | none => .none
  | some _ => .ref ra
noncomputable def fieldsOf (a : Ad) (S : SS) : List (Str × V) := [("_node2info", .ref a.dd), ("_ready_nodes", rdV a.ra S.rd), ("_npassedout", .int S.po), ("_nfinished", .int S.fi)]
noncomputable def nodeOf (a : Ad) (k : Ky) (n : Int) : O Ky := .inst cNI (a.aD k) [some (kyV k), some (.int n), some (.ref (a.aL k))]
structure Rep (a : Ad) (S : SS) (h : Addr → Option (O Ky)) : Prop where
  hx : h a.x = some (.inst cTS a.dx [])
  hdx : h a.dx = some (.idict (fieldsOf a S))
  hdd : ∃ ep, h a.dd = some (.dict (S.ord.map fun k => (k, V.ref (a.aN k))) ep)
  nd : S.ord.Nodup
  hN : ∀ k ∈ S.ord, h (a.aN k) = some (nodeOf a k (S.np k))
  hD : ∀ k ∈ S.ord, h (a.aD k) = some (.idict []) ∧ a.aD k ≠ a.dx
  hL : ∀ k ∈ S.ord, h (a.aL k) = some (.list ((S.su k).map kyV))
  iL : ∀ k ∈ S.ord, ∀ k' ∈ S.ord, a.aL k = a.aL k' → k = k'
  hra : ∀ l, S.rd = some l → h a.ra = some (.list (l.map kyV)) ∧ ∀ k ∈ S.ord, a.aL k ≠ a.ra
  xN : ∀ k ∈ S.ord, a.aN k ≠ a.x
noncomputable def upd {α : Type} (f : Ky → α) (k : Ky) (v : α) : Ky → α := fun j => if j = k then v else f j
theorem upd_same {α : Type} {f : Ky → α} {k : Ky} {v : α} : upd f k v k = v := if_pos rfl
theorem upd_other {α : Type} {f : Ky → α} {k j : Ky} {v : α} (h : j ≠ k) : upd f k v j = f j := if_neg h

section
variable {a : Ad} {S : SS} {h : Addr → Option (O Ky)} {X : Addr} {o : O Ky} {k : Ky}
theorem Rep.mono (r : Rep a S h) {h' : Addr → Option (O Ky)} (hs : ∀ b o, h b = some o → h' b = some o) : Rep a S h' :=
  ⟨hs _ _ r.hx, hs _ _ r.hdx, let ⟨ep, e⟩ := r.hdd; ⟨ep, hs _ _ e⟩, r.nd, fun k hk => hs _ _ (r.hN k hk), fun k hk => ⟨hs _ _ (r.hD k hk).1, (r.hD k hk).2⟩, fun k hk => hs _ _ (r.hL k hk), r.iL, fun l e => ⟨hs _ _ (r.hra l e).1, (r.hra l e).2⟩, r.xN⟩
theorem Rep.fresh (r : Rep a S h) (hX : h X = none) : Rep a S (put h X o) := r.mono fun _ _ e => sub_put hX e
theorem Rep.iN (r : Rep a S h) {k k' : Ky} (hk : k ∈ S.ord) (hk' : k' ∈ S.ord) (e : a.aN k = a.aN k') : k = k' := by
  have h1 := r.hN k hk
  have h2 := r.hN k' hk'
  rw [e, h2] at h1
  have := Option.some.inj h1
  unfold nodeOf at this
  injection this with _ _ q
  injection q with q _
  injection q with q
  exact (ky_inj q).symm
theorem Rep.setNp (r : Rep a S h) (hk : k ∈ S.ord) (v : Int) : Rep a { S with np := upd S.np k v } (put h (a.aN k) (nodeOf a k v)) := by
  have hn := r.hN k hk
  refine ⟨(put_other (Ne.symm (r.xN k hk))).trans r.hx, put_diff r.hdx hn (by intro q; cases q), ?_, r.nd, fun k' hk' => ?_, fun k' hk' => ⟨put_diff (r.hD k' hk').1 hn (by intro q; cases q), (r.hD k' hk').2⟩,
    fun k' hk' => put_diff (r.hL k' hk') hn (by intro q; cases q), r.iL, fun l e => ⟨put_diff (r.hra l e).1 hn (by intro q; cases q), (r.hra l e).2⟩, r.xN⟩
  · obtain ⟨ep, e⟩ := r.hdd; exact ⟨ep, put_diff e hn (by intro q; cases q)⟩
  · by_cases e : k' = k
    · subst e; rw [put_same]; show some (nodeOf a k' v) = some (nodeOf a k' (upd S.np k' v k')); rw [upd_same]
    · rw [put_other (fun q => e (r.iN hk' hk q))]; show _ = some (nodeOf a k' (upd S.np k v k')); rw [upd_other e]; exact r.hN k' hk'
theorem Rep.setRd (r : Rep a S h) {l l' : List Ky} (e : S.rd = some l) : Rep a { S with rd := some l' } (put h a.ra (.list (l'.map kyV))) := by
  obtain ⟨hr, hn⟩ := r.hra l e
  refine ⟨put_diff r.hx hr (by intro q; cases q), ?_, ?_, r.nd, fun k' hk' => put_diff (r.hN k' hk') hr (by intro q; cases q), fun k' hk' => ⟨put_diff (r.hD k' hk').1 hr (by intro q; cases q), (r.hD k' hk').2⟩,
    fun k' hk' => (put_other (hn k' hk')).trans (r.hL k' hk'), r.iL, fun l2 e2 => ⟨?_, hn⟩, r.xN⟩
  · rw [put_diff r.hdx hr (by intro q; cases q)]; unfold fieldsOf; rw [e]; rfl
  · obtain ⟨ep, e⟩ := r.hdd; exact ⟨ep, put_diff e hr (by intro q; cases q)⟩
  · have e2 : some l' = some l2 := e2
    cases e2; exact put_same
theorem Rep.setPo (r : Rep a S h) (po : Int) : Rep a { S with po := po } (put h a.dx (.idict (fieldsOf a { S with po := po }))) := by
  have hd := r.hdx
  refine ⟨put_diff r.hx hd (by intro q; cases q), put_same, ?_, r.nd, fun k' hk' => put_diff (r.hN k' hk') hd (by intro q; cases q), fun k' hk' => ⟨(put_other (r.hD k' hk').2).trans (r.hD k' hk').1, (r.hD k' hk').2⟩,
    fun k' hk' => put_diff (r.hL k' hk') hd (by intro q; cases q), r.iL, fun l e => ⟨put_diff (r.hra l e).1 hd (by intro q; cases q), (r.hra l e).2⟩, r.xN⟩
  obtain ⟨ep, e⟩ := r.hdd; exact ⟨ep, put_diff e hd (by intro q; cases q)⟩
theorem Rep.setFi (r : Rep a S h) (fi : Int) : Rep a { S with fi := fi } (put h a.dx (.idict (fieldsOf a { S with fi := fi }))) := by
  have hd := r.hdx
  refine ⟨put_diff r.hx hd (by intro q; cases q), put_same, ?_, r.nd, fun k' hk' => put_diff (r.hN k' hk') hd (by intro q; cases q), fun k' hk' => ⟨(put_other (r.hD k' hk').2).trans (r.hD k' hk').1, (r.hD k' hk').2⟩,
    fun k' hk' => put_diff (r.hL k' hk') hd (by intro q; cases q), r.iL, fun l e => ⟨put_diff (r.hra l e).1 hd (by intro q; cases q), (r.hra l e).2⟩, r.xN⟩
  obtain ⟨ep, e⟩ := r.hdd; exact ⟨ep, put_diff e hd (by intro q; cases q)⟩
theorem Rep.mkRd (r : Rep a S h) (e : S.rd = none) {D : Addr} (hD : h D = none) (l : List Ky) :
    Rep { a with ra := D } { S with rd := some l } (put (put h D (.list (l.map kyV))) a.dx (.idict (fieldsOf { a with ra := D } { S with rd := some l }))) := by
  have hd : put h D (.list (l.map kyV)) a.dx = _ := sub_put hD r.hdx
  refine ⟨put_diff (sub_put hD r.hx) hd (by intro q; cases q), put_same, ?_, r.nd, fun k' hk' => put_diff (sub_put hD (r.hN k' hk')) hd (by unfold nodeOf; intro q; cases q), fun k' hk' => ⟨(put_other (r.hD k' hk').2).trans (sub_put hD (r.hD k' hk').1), (r.hD k' hk').2⟩,
    fun k' hk' => put_diff (sub_put hD (r.hL k' hk')) hd (by intro q; cases q), r.iL, fun l2 e2 => ⟨?_, fun k' hk' => ne_none (r.hL k' hk') hD⟩, r.xN⟩
  · obtain ⟨ep, e⟩ := r.hdd; exact ⟨ep, put_diff (sub_put hD e) hd (by intro q; cases q)⟩
  · have e2 : some l = some l2 := e2
    cases e2; exact put_diff put_same hd (by intro q; cases q)
theorem Rep.appSu (r : Rep a S h) (hk : k ∈ S.ord) (l' : List Ky) : Rep a { S with su := upd S.su k l' } (put h (a.aL k) (.list (l'.map kyV))) := by
  have hn := r.hL k hk
  refine ⟨put_diff r.hx hn (by intro q; cases q), put_diff r.hdx hn (by intro q; cases q), ?_, r.nd, fun k' hk' => put_diff (r.hN k' hk') hn (by intro q; cases q), fun k' hk' => ⟨put_diff (r.hD k' hk').1 hn (by intro q; cases q), (r.hD k' hk').2⟩,
    fun k' hk' => ?_, r.iL, fun l e => ⟨(put_other (Ne.symm ((r.hra l e).2 k hk))).trans (r.hra l e).1, (r.hra l e).2⟩, r.xN⟩
  · obtain ⟨ep, e⟩ := r.hdd; exact ⟨ep, put_diff e hn (by intro q; cases q)⟩
  · by_cases e : k' = k
    · subst e; rw [put_same]; show _ = some (O.list ((upd S.su k' l' k').map kyV)); rw [upd_same]
    · rw [put_other (fun q => e (r.iL k' hk' k hk q))]; show _ = some (O.list ((upd S.su k l' k').map kyV)); rw [upd_other e]; exact r.hL k' hk'
theorem dGet_ord {f : Ky → V} : ∀ {l : List Ky} {k : Ky}, dGet (l.map fun k => (k, f k)) k = if k ∈ l then some (f k) else none
  | [], k => rfl
  | b :: r, k => by
    unfold dGet
    rw [List.map_cons, List.find?_cons]
    by_cases e : b = k
    · subst e; simp
    · have := dGet_ord (f := f) (l := r) (k := k)
      unfold dGet at this
      simp only [e, decide_false]
      rw [this]
      simp [Ne.symm e]
end
end Mine
end
section
open PySem PySem.W PyProof.Rows PySem.SeqAt
set_option maxHeartbeats 1000000
namespace Mine
section
variable {prog : Program} {w : World} {Γ : Fx} {σ : MS Ky} {A : Around} {env : Env} {α : Type} {s : Shared} {Q : Value → MS Ky → Prop} {QB : Bool → MS Ky → Prop} {QU : Unit → MS Ky → Prop} {QF : Flow → MS Ky → Prop}
variable {p : Program} {loose : List Str} {mg mb : Str → Option Value} {t u v : Tok} {n : Nat} {l : Addr} {a : Ad} {S : SS} {k : Ky}

theorem c_is_active {l : List Ky} (r : Rep a S σ.h) (hr : S.rd = some l) (hsz : l.length ≤ 1000) (Z : Here (Mine.hd1.heap_1 w.params) p loose mg mb Γ.base) (hA : Dp A n)
    (h : Q (.bool (decide (S.fi < S.po) || !l.isEmpty)) σ) : mcode (kyK prog w) Γ A (.call (.ref 106) ⟨[.ref a.x], []⟩) Q σ := by
  refine c_fun ["self"] [.ref a.x] Z hA (.cons rfl .nil) ?_
  intro L'
  have hx := r.hx
  have hdx := r.hdx
  have hra := (r.hra l hr).1
  unfold fieldsOf at hdx
  rw [hr] at hdx
  refine m_cons ?_
  refine m_If ?_
  refine m_isCompare ?_
  refine m_Attr ?_
  refine evR (EvP.nm (v := .ref _) (by rfl)) ?_
  first | refine m_attrR (Here.X (by assumption)) (by walk_at "hl") (by walk_at "hl") (by rfl) ?_ | refine m_attrI (Here.X (by assumption)) (by walk_at "hl") (by walk_at "hl") (by rfl) fun _ => ?_ | refine m_attrN (Here.X (by assumption)) (by walk_at "hl") (by walk_at "hl") (by rfl) ?_
  refine evN EvP.none ?_
  refine m_is (by rfl) ?_
  refine m_trBool ?_
  skip
  refine ifalse rn ?_
  refine m_nil ?_
  refine m_cons ?_
  refine m_Return ?_
  refine m_or2 ?_
  refine m_Compare ?_
  refine m_Attr ?_
  refine evR (EvP.nm (v := .ref _) (by rfl)) ?_
  first | refine m_attrR (Here.X (by assumption)) (by walk_at "hl") (by walk_at "hl") (by rfl) ?_ | refine m_attrI (Here.X (by assumption)) (by walk_at "hl") (by walk_at "hl") (by rfl) fun _ => ?_ | refine m_attrN (Here.X (by assumption)) (by walk_at "hl") (by walk_at "hl") (by rfl) ?_
  refine m_Attr ?_
  refine evR (EvP.nm (v := .ref _) (by rfl)) ?_
  first | refine m_attrR (Here.X (by assumption)) (by walk_at "hl") (by walk_at "hl") (by rfl) ?_ | refine m_attrI (Here.X (by assumption)) (by walk_at "hl") (by walk_at "hl") (by rfl) fun _ => ?_ | refine m_attrN (Here.X (by assumption)) (by walk_at "hl") (by walk_at "hl") (by rfl) ?_
  refine m_lti ?_
  refine m_trBool ?_
  refine ite_of (fun e => ?_) fun e => ?_
  · skip
    rw [e, Bool.true_or] at h
    skip
    refine ⟨_, fun _ _ e => e, ?_⟩
    show Q (.bool (decide (S.fi < S.po))) σ
    rw [e]; exact h
  · refine m_Call ?_
    refine m_Name ?_
    first | refine m_gK (by assumption) ?_ | refine m_gB (by assumption) ?_
    refine m_callT ?_
    refine m_splE ?_
    refine m_Attr ?_
    refine evR (EvP.nm (v := .ref _) (by rfl)) ?_
    first | refine m_attrR (Here.X (by assumption)) (by walk_at "hl") (by walk_at "hl") (by rfl) ?_ | refine m_attrI (Here.X (by assumption)) (by walk_at "hl") (by walk_at "hl") (by rfl) fun _ => ?_ | refine m_attrN (Here.X (by assumption)) (by walk_at "hl") (by walk_at "hl") (by rfl) ?_
    refine m_splE0 ?_
    refine m_boolList hra (by rw [List.length_map]; omega) ?_
    skip
    rw [Bool.eq_false_iff.mpr e, Bool.false_or] at h
    skip
    refine ⟨_, fun _ _ e => e, ?_⟩
    have e2 : (l.map kyV).isEmpty = l.isEmpty := by cases l <;> rfl
    rw [e2]; exact h

noncomputable def outNp (np : Ky → Int) (l : List Ky) : Ky → Int := fun k => if k ∈ l then -1 else np k
theorem outNp_nil {np : Ky → Int} : outNp np [] = np := by funext k; simp [outNp]
theorem outNp_snoc {np : Ky → Int} {l : List Ky} {k : Ky} : upd (outNp np l) k (-1) = outNp np (l ++ [k]) := by
  funext j; unfold upd outNp
  by_cases e : j = k
  · subst e; simp
  · simp [e]

theorem c_get_ready {l : List Ky} (r : Rep a S σ.h) (hr : S.rd = some l) (hsz : l.length ≤ 1000) (hin : ∀ k ∈ l, k ∈ S.ord) (Z : Here (Mine.hd1.heap_1 w.params) p loose mg mb Γ.base) (hA : Dp A n)
    (h : ∀ T h', Rep a { S with np := outNp S.np l, rd := some [], po := S.po + l.length } h' → h' T = none → σ.h T = none → Q (.ref T) ⟨σ.m, put h' T (.tuple (l.map kyV))⟩) : mcode (kyK prog w) Γ A (.call (.ref 99) ⟨[.ref a.x], []⟩) Q σ := by
  refine c_fun ["self"] [.ref a.x] Z hA (.cons rfl .nil) ?_
  intro L'
  have hh : ∀ e, (A.deeper e).handled = none := fun e => hA.hd
  have hx := r.hx
  have hdx := r.hdx
  have hra := (r.hra l hr).1
  unfold fieldsOf at hdx
  rw [hr] at hdx
  refine m_cons ?_
  refine m_If ?_
  refine m_isCompare ?_
  refine m_Attr ?_
  refine evR (EvP.nm (v := .ref _) (by rfl)) ?_
  first | refine m_attrR (Here.X (by assumption)) (by walk_at "hl") (by walk_at "hl") (by rfl) ?_ | refine m_attrI (Here.X (by assumption)) (by walk_at "hl") (by walk_at "hl") (by rfl) fun _ => ?_ | refine m_attrN (Here.X (by assumption)) (by walk_at "hl") (by walk_at "hl") (by rfl) ?_
  refine evN EvP.none ?_
  refine m_is (by rfl) ?_
  refine m_trBool ?_
  skip
  refine ifalse rn ?_
  refine m_nil ?_
  refine m_cons ?_
  refine m_AssignName ?_
  refine m_Call ?_
  refine m_Name ?_
  first | refine m_gK (by assumption) ?_ | refine m_gB (by assumption) ?_
  refine m_callT ?_
  refine m_splE ?_
  refine m_Attr ?_
  refine evR (EvP.nm (v := .ref _) (by rfl)) ?_
  first | refine m_attrR (Here.X (by assumption)) (by walk_at "hl") (by walk_at "hl") (by rfl) ?_ | refine m_attrI (Here.X (by assumption)) (by walk_at "hl") (by walk_at "hl") (by rfl) fun _ => ?_ | refine m_attrN (Here.X (by assumption)) (by walk_at "hl") (by walk_at "hl") (by rfl) ?_
  refine m_splE0 ?_
  refine m_tupleList hra (by rw [List.length_map]; exact Nat.le_trans hsz (by decide)) fun T hT => ?_
  have hT : σ.h T = none := hT
  refine m_str' ?_
  refine m_cons ?_
  refine m_AssignName ?_
  refine m_Attr ?_
  refine evR (EvP.nm (v := .ref _) (by rfl)) ?_
  first | refine m_attrR (Here.X (by assumption)) (by walk_at "hl") (by walk_at "hl") (by rfl) ?_ | refine m_attrI (Here.X (by assumption)) (by walk_at "hl") (by walk_at "hl") (by rfl) fun _ => ?_ | refine m_attrN (Here.X (by assumption)) (by walk_at "hl") (by walk_at "hl") (by rfl) ?_
  refine m_str' ?_
  refine m_cons ?_
  refine m_weak (m' := names [("self", .ref a.x), ("result", .ref T), ("n2i", .ref a.dd)]) (h' := put σ.h T (.tuple (l.map kyV))) (by walk_at "ms_sub") (fun _ _ e => e) ?_
  refine m_then (P := fun σ' => ∃ hp, Fit σ' (names [("self", .ref a.x), ("result", .ref T)]) (put hp T (.tuple (l.map kyV))) ∧ hp T = none ∧ Rep a { S with np := outNp S.np l } hp) ?_ ?_
  · refine m_ForK ?_
    refine evR (EvP.nm (v := .ref _) (by rfl)) ?_
    refine ⟨T, .tuple (l.map kyV), ⟨names [("self", .ref a.x), ("result", .ref T), ("n2i", .ref a.dd)], σ.h⟩, _, _, rfl, hT, yields_tuple (hh _), fun i σ' => ∃ hp, Fit σ' (names [("self", .ref a.x), ("result", .ref T), ("n2i", .ref a.dd)]) hp ∧ Rep a { S with np := outNp S.np (l.take i) } hp, ?_, ?_, ?_⟩
    · skip
      exact ⟨σ.h, by walk_at "ms_fit", by rw [List.take_zero, outNp_nil]; exact r⟩
    · rintro i y σ' I ob hb ob2 hb2 hy ⟨hp, hf, r'⟩
      obtain ⟨k, hk, rfl⟩ := map_get hy
      have hko := hin k (List.mem_of_getElem? hk)
      refine m_fitS hf ?_
      obtain ⟨ep, hdd⟩ := r'.hdd
      have hN := r'.hN k hko
      have hD := (r'.hD k hko).1
      unfold nodeOf at hN
      refine m_abs fun Zq0 hZq0 => ?_
      refine m_cons ?_
      refine m_AssignAttr ?_
      refine evI (EvP.gK (v := .int _) (by assumption) ⟨_, rfl⟩) fun _ => ?_
      refine m_Sub ?_
      refine evR (EvP.nm (v := .ref _) (by rfl)) ?_
      refine evI (EvP.nm (v := .int _) (by rfl)) fun _ => ?_
      refine m_tailDict hdd (m_dictGetItem hdd ky_is (v := .ref (a.aN k)) (by rw [dGet_ord (f := fun k => V.ref (a.aN k)), if_pos hko]) fun v' hv' => ?_)
      cases hv'
      refine m_setSlot (i := 1) (v := .int (-1)) Z.X hN hD ⟨_, rfl⟩ (by decide) ?_ (p := 42) (by first | k_is | rfl | decide)
      refine m_nil ?_
      refine hZq0 _ _ ?_
      refine ⟨_, by walk_at "ms_fit", ?_⟩
      have := r'.setNp hko (-1)
      rw [outNp_snoc, ← take_snoc hk] at this
      exact this
    · rintro σ' ⟨hp, hf, r'⟩ hn
      rw [List.length_map, List.take_length] at r'
      skip
      refine ⟨rfl, hp, ⟨fun z v q => hf.1 z v ?_, put_mono hf.2⟩, none_sub hf.2 hn, r'⟩
      revert q; exact (show Sub (names _) (names _) by walk_at "ms_sub") z v
  · rintro σ' ⟨hp, hf, hTn, r'⟩
    refine m_fit hf ?_
    have hx := sub_put (x := .tuple (l.map kyV)) hTn r'.hx
    have hdx := r'.hdx
    unfold fieldsOf at hdx
    rw [hr] at hdx
    have hdx := sub_put (x := .tuple (l.map kyV)) hTn hdx
    have hra := sub_put (x := .tuple (l.map kyV)) hTn (r'.hra l hr).1
    refine m_cons ?_
    refine m_Expr ?_
    refine m_Method ?_
    refine m_Attr ?_
    refine evR (EvP.nm (v := .ref _) (by rfl)) ?_
    first | refine m_attrR (Here.X (by assumption)) (by walk_at "hl") (by walk_at "hl") (by rfl) ?_ | refine m_attrI (Here.X (by assumption)) (by walk_at "hl") (by walk_at "hl") (by rfl) fun _ => ?_ | refine m_attrN (Here.X (by assumption)) (by walk_at "hl") (by walk_at "hl") (by rfl) ?_
    refine m_methList (by walk_at "hl") PySem.F.slot_list_clear PySem.F.type_list_clear ?_
    refine m_callB0 ?_
    refine m_clear hra (by rw [List.length_map]; exact Nat.le_trans hsz (by decide)) ?_
    refine m_cons ?_
    refine m_AugAttr ?_
    refine evR (EvP.nm (v := .ref _) (by rfl)) ?_
    first | refine m_attrR (Here.X (by assumption)) (by walk_at "hl") (by walk_at "hl") (by rfl) ?_ | refine m_attrI (Here.X (by assumption)) (by walk_at "hl") (by walk_at "hl") (by rfl) fun _ => ?_ | refine m_attrN (Here.X (by assumption)) (by walk_at "hl") (by walk_at "hl") (by rfl) ?_
    refine m_abs fun Zq0 hZq0 => ?_
    refine m_Call ?_
    refine m_Name ?_
    first | refine m_gK (by assumption) ?_ | refine m_gB (by assumption) ?_
    refine m_callB ?_
    refine m_splE ?_
    refine evR (EvP.nm (v := .ref _) (by rfl)) ?_
    refine m_splE0 ?_
    refine m_lenTuple (xs := l.map kyV) (by walk_at "hl") (by rw [List.length_map]; omega) fun _ => ?_
    refine hZq0 _ _ ?_
    refine m_iadd fun _ => ?_
    refine m_setAttr (v := .int (S.po + l.length)) Z.X (by walk_at "hl") (by walk_at "hl") ⟨_, by rw [List.length_map]⟩ (by show 4 ≤ 900; decide) ?_
    refine m_cons ?_
    refine m_Return ?_
    refine evR (EvP.nm (v := .ref _) (by rfl)) ?_
    have r2 := r'.setRd (l' := []) (show ({ S with np := outNp S.np l } : SS).rd = some l from hr)
    have r3 := r2.setPo (S.po + l.length)
    have n1 : T ≠ a.ra := (ne_none (r'.hra l hr).1 hTn).symm
    have n2 : T ≠ a.dx := (ne_none r'.hdx hTn).symm
    refine ⟨_, ?_, h T _ r3 (by rw [put_other n2, put_other n1]; exact hTn) hT⟩
    intro b o e
    rw [put_comm (Ne.symm n2), put_comm (Ne.symm n1)] at e
    exact e

noncomputable def tellOne (S : SS) (s : Ky) : SS := { S with np := upd S.np s (S.np s - 1), rd := if S.np s - 1 = 0 then S.rd.map (· ++ [s]) else S.rd }
noncomputable def tellAll (S : SS) (l : List Ky) : SS := l.foldl tellOne S
noncomputable def doneOne (S : SS) (k : Ky) : SS := { tellAll { S with np := upd S.np k (-2) } (S.su k) with fi := S.fi + 1 }

theorem tell_snoc {S : SS} {m : List Ky} {s : Ky} : tellAll S (m ++ [s]) = tellOne (tellAll S m) s := by unfold tellAll; rw [List.foldl_append]; rfl
theorem tell_ord : ∀ (m : List Ky) (S : SS), (tellAll S m).ord = S.ord
  | [], _ => rfl
  | s :: m, S => tell_ord m (tellOne S s)
theorem tell_su : ∀ (m : List Ky) (S : SS), (tellAll S m).su = S.su
  | [], _ => rfl
  | s :: m, S => tell_su m (tellOne S s)
theorem tell_po : ∀ (m : List Ky) (S : SS), (tellAll S m).po = S.po
  | [], _ => rfl
  | s :: m, S => tell_po m (tellOne S s)
theorem tell_fi : ∀ (m : List Ky) (S : SS), (tellAll S m).fi = S.fi
  | [], _ => rfl
  | s :: m, S => tell_fi m (tellOne S s)
theorem tell_rd : ∀ (m : List Ky) (S : SS) (l : List Ky), S.rd = some l → ∃ l', (tellAll S m).rd = some l' ∧ l'.length ≤ l.length + m.length
  | [], S, l, h => ⟨l, h, by simp⟩
  | s :: m, S, l, h => by
    by_cases e : S.np s - 1 = 0
    · obtain ⟨l', h1, h2⟩ := tell_rd m (tellOne S s) (l ++ [s]) (by show (if S.np s - 1 = 0 then S.rd.map (· ++ [s]) else S.rd) = _; rw [if_pos e, h]; rfl)
      skip
      exact ⟨l', h1, by simp at h2 ⊢; omega⟩
    · obtain ⟨l', h1, h2⟩ := tell_rd m (tellOne S s) l (by show (if S.np s - 1 = 0 then S.rd.map (· ++ [s]) else S.rd) = _; rw [if_neg e, h])
      skip
      exact ⟨l', h1, by simp; omega⟩

theorem c_done {l : List Ky} (r : Rep a S σ.h) (hr : S.rd = some l) (hk : k ∈ S.ord) (hnp : S.np k = -1) (hsz : l.length + (S.su k).length ≤ 1000) (hin : ∀ s ∈ S.su k, s ∈ S.ord) (Z : Here (Mine.hd1.heap_1 w.params) p loose mg mb Γ.base) (hA : Dp A n)
    (h : ∀ h', Rep a (doneOne S k) h' → Q .none ⟨σ.m, h'⟩) : mcode (kyK prog w) Γ A (.call (.ref 120) ⟨[.ref a.x, kyVal k t], []⟩) Q σ := by
  refine c_funV ["self"] [.ref a.x] "nodes" [kyV k] Z hA (.cons rfl .nil) (.cons ⟨t, rfl⟩ .nil) (by show 1 ≤ sizeLine; decide) ?_
  intro L' T hT
  have hh : ∀ e, (A.deeper e).handled = none := fun e => hA.hd
  have hx := r.hx
  have hdx := r.hdx
  unfold fieldsOf at hdx
  rw [hr] at hdx
  refine m_cons ?_
  refine m_If ?_
  refine m_isCompare ?_
  refine m_Attr ?_
  refine evR (EvP.nm (v := .ref _) (by rfl)) ?_
  first | refine m_attrR (Here.X (by assumption)) (by walk_at "hl") (by walk_at "hl") (by rfl) ?_ | refine m_attrI (Here.X (by assumption)) (by walk_at "hl") (by walk_at "hl") (by rfl) fun _ => ?_ | refine m_attrN (Here.X (by assumption)) (by walk_at "hl") (by walk_at "hl") (by rfl) ?_
  refine evN EvP.none ?_
  refine m_is (by rfl) ?_
  refine m_trBool ?_
  skip
  refine ifalse rn ?_
  refine m_nil ?_
  refine m_cons ?_
  refine m_AssignName ?_
  refine m_Attr ?_
  refine evR (EvP.nm (v := .ref _) (by rfl)) ?_
  first | refine m_attrR (Here.X (by assumption)) (by walk_at "hl") (by walk_at "hl") (by rfl) ?_ | refine m_attrI (Here.X (by assumption)) (by walk_at "hl") (by walk_at "hl") (by rfl) fun _ => ?_ | refine m_attrN (Here.X (by assumption)) (by walk_at "hl") (by walk_at "hl") (by rfl) ?_
  refine m_str' ?_
  refine m_cons ?_
  refine m_weak (m' := names [("self", .ref a.x), ("nodes", .ref T), ("n2i", .ref a.dd)]) (h' := put σ.h T (.tuple [kyV k])) (by walk_at "ms_sub") (fun _ _ e => e) ?_
  refine m_then (P := fun σ' => Rep a (doneOne S k) σ'.h) ?_ ?_
  · refine m_ForF ?_
    refine evR (EvP.nm (v := .ref _) (by rfl)) ?_
    refine ⟨T, .tuple [kyV k], ⟨names [("self", .ref a.x), ("nodes", .ref T), ("n2i", .ref a.dd)], σ.h⟩, _, _, rfl, hT, yields_tuple (hh _), fun i σ' => if i = 0 then Fit σ' (names [("self", .ref a.x), ("n2i", .ref a.dd)]) σ.h else Rep a (doneOne S k) σ'.h, ?_, ?_, ?_⟩
    · exact (if_pos rfl).mpr (by walk_at "ms_fit")
    · rintro i y σ' I ob hb ob2 hb2 hy hf
      obtain ⟨rfl, rfl⟩ : i = 0 ∧ y = kyV k := by
        cases i with
        | zero => simpa using hy.symm
        | succ i => simp at hy
      have hf : Fit σ' (names [("self", .ref a.x), ("n2i", .ref a.dd)]) σ.h := hf
      refine m_fitS hf ?_
      clear hf hx hdx
      have hx := r.hx
      obtain ⟨ep, hdd⟩ := r.hdd
      have hN := r.hN k hk
      have hD := (r.hD k hk).1
      unfold nodeOf at hN
      rw [hnp] at hN
      refine m_abs fun Zq0 hZq0 => ?_
      refine m_cons ?_
      refine m_If ?_
      refine m_isCompare ?_
      refine m_Named ?_
      refine m_abs fun Zq1 hZq1 => ?_
      refine m_Method ?_
      refine evR (EvP.nm (v := .ref _) (by rfl)) ?_
      refine m_methDict (by walk_at "hl") PySem.F.slot_dict_get PySem.F.type_dict_get ?_
      refine m_callB ?_
      refine m_splE ?_
      refine evI (EvP.nm (v := .int _) (by rfl)) fun _ => ?_
      refine m_splE0 ?_
      refine m_dictGet Z.sys hdd ky_is fun v' hv' => ?_
      rw [dGet_ord (f := fun k => V.ref (a.aN k)), if_pos hk] at hv'
      cases hv'
      refine hZq1 _ _ ?_
      refine m_assignName ?_
      refine m_str' ?_
      refine evN EvP.none ?_
      refine m_is (by rfl) ?_
      refine m_trBool ?_
      skip
      refine ifalse rn ?_
      refine m_nil ?_
      refine m_cons ?_
      refine m_AssignName ?_
      refine m_Attr ?_
      refine evR (EvP.nm (v := .ref _) (by rfl)) ?_
      refine m_slotI (p := 42) (j := 1) (Here.X (by assumption)) (by walk_at "hl") (by walk_at "hl") (by first | k_is | rfl) (by rfl) fun _ => ?_
      refine m_sti ?_
      refine m_cons ?_
      refine m_If ?_
      refine tvU (TvP.nei (EvP.nm (v := .int _) (by rfl)) (EvP.gK (v := .int _) (by assumption) ⟨_, rfl⟩)) ?_
      skip
      refine ifalse (by decide) ?_
      refine m_nil ?_
      refine m_cons ?_
      refine m_AssignAttr ?_
      refine evI (EvP.gK (v := .int _) (by assumption) ⟨_, rfl⟩) fun _ => ?_
      refine evR (EvP.nm (v := .ref _) (by rfl)) ?_
      refine m_setSlot (i := 1) (v := .int (-2)) Z.X hN hD ⟨_, rfl⟩ (by decide) ?_ (p := 42) (by first | k_is | rfl)
      refine m_cons ?_
      have r1 : Rep a { S with np := upd S.np k (-2) } (put σ.h (a.aN k) (nodeOf a k (-2))) := r.setNp hk (-2)
      refine m_weak (m' := names [("self", .ref a.x), ("n2i", .ref a.dd), ("nodeinfo", .ref (a.aN k))]) (h' := put σ.h (a.aN k) (nodeOf a k (-2))) (by walk_at "ms_sub") (fun _ _ e => e) ?_
      revert r1
      generalize put σ.h (a.aN k) (nodeOf a k (-2)) = hp1
      intro r1
      clear hx hdd hN hD
      have hN := r1.hN k hk
      have hD := (r1.hD k hk).1
      unfold nodeOf at hN
      refine m_then (P := fun σ' => ∃ hp, Fit σ' (names [("self", .ref a.x)]) hp ∧ Rep a (tellAll { S with np := upd S.np k (-2) } (S.su k)) hp) ?_ ?_
      · refine m_For ?_
        refine m_Attr ?_
        refine evR (EvP.nm (v := .ref _) (by rfl)) ?_
        refine m_slotR (p := 43) (j := 2) (Here.X (by assumption)) (by walk_at "hl") (by walk_at "hl") (by first | k_is | rfl) (by rfl) ?_
        refine ⟨_, _, _, yields_list (hh _) (xs := (S.su k).map kyV), fun i σ' => ∃ hp, Fit σ' (names [("self", .ref a.x), ("n2i", .ref a.dd), ("nodeinfo", .ref (a.aN k))]) hp ∧ Rep a (tellAll { S with np := upd S.np k (-2) } ((S.su k).take i)) hp, ⟨hp1, by walk_at "ms_fit", r1⟩, ?_, ?_, ?_⟩
        · rintro i σ' ⟨hp, hf, r2⟩
          have := r2.hL k (by rw [tell_ord]; exact hk)
          rw [tell_su] at this
          exact hf.2 _ _ this
        · rintro i y σ' I ob hb hy ⟨hp, hf, r2⟩
          obtain ⟨s, hs, rfl⟩ := map_get hy
          have hso : s ∈ S.ord := hin s (List.mem_of_getElem? hs)
          refine m_fitS hf ?_
          clear hf
          have hS2 : tellAll { S with np := upd S.np k (-2) } ((S.su k).take (i + 1)) = tellOne (tellAll { S with np := upd S.np k (-2) } ((S.su k).take i)) s := by rw [take_snoc hs, tell_snoc]
          obtain ⟨l2, hr2, hz2⟩ := tell_rd ((S.su k).take i) { S with np := upd S.np k (-2) } l hr
          have ho2 := tell_ord ((S.su k).take i) { S with np := upd S.np k (-2) }
          have hz3 : ((S.su k).take i).length ≤ (S.su k).length := by rw [List.length_take]; omega
          revert r2 hr2 ho2 hS2
          generalize tellAll { S with np := upd S.np k (-2) } ((S.su k).take i) = S2
          intro r2 hS2 hr2 ho2
          have hso2 : s ∈ S2.ord := by rw [ho2]; exact hso
          obtain ⟨ep, hdd⟩ := r2.hdd
          have hN := r2.hN s hso2
          have hD := (r2.hD s hso2).1
          unfold nodeOf at hN
          refine m_abs fun Zq2 hZq2 => ?_
          refine m_cons ?_
          refine m_AssignName ?_
          refine m_Sub ?_
          refine evR (EvP.nm (v := .ref _) (by rfl)) ?_
          refine evI (EvP.nm (v := .int _) (by rfl)) fun _ => ?_
          refine m_tailDict hdd (m_dictGetItem hdd ky_is (v := .ref (a.aN s)) (by rw [dGet_ord (f := fun k => V.ref (a.aN k)), if_pos hso2]) fun v' hv' => ?_)
          cases hv'
          refine m_str' ?_
          refine m_cons ?_
          refine m_AugAttr ?_
          refine evR (EvP.nm (v := .ref _) (by rfl)) ?_
          refine m_slotI (p := 42) (j := 1) (Here.X (by assumption)) (by walk_at "hl") (by walk_at "hl") (by first | k_is | rfl) (by rfl) fun _ => ?_
          refine evI EvP.int fun _ => ?_
          refine m_isub fun _ => ?_
          refine m_setSlot (i := 1) (v := .int (S2.np s - 1)) Z.X hN hD ⟨_, rfl⟩ (by decide) ?_ (p := 42) (by first | k_is | rfl)
          refine m_cons ?_
          refine m_If ?_
          refine m_isCompare ?_
          refine m_Attr ?_
          refine evR (EvP.nm (v := .ref _) (by rfl)) ?_
          refine m_slotI (p := 42) (j := 1) (Here.X (by assumption)) (by walk_at "hl") (by walk_at "hl") (by first | k_is | rfl) (by rfl) fun _ => ?_
          refine evI EvP.int fun _ => ?_
          refine m_eqi ?_
          refine m_trBool ?_
          have r3 := r2.setNp hso2 (S2.np s - 1)
          refine ite_of (fun e => ?_) fun e => ?_
          · have e : S2.np s - 1 = 0 := by simpa using e
            refine m_weak (m' := names [("self", .ref a.x), ("n2i", .ref a.dd), ("nodeinfo", .ref (a.aN k)), ("successor", kyV s)]) (h' := put hp (a.aN s) (nodeOf a s (S2.np s - 1))) (by walk_at "ms_sub") (fun _ _ e => e) ?_
            revert r3
            generalize put hp (a.aN s) (nodeOf a s (S2.np s - 1)) = hp2
            intro r3
            have hx := r3.hx
            have hdx := r3.hdx
            have hra := (r3.hra l2 hr2).1
            unfold fieldsOf at hdx
            have hdx : hp2 a.dx = some (O.idict [("_node2info", V.ref a.dd), ("_ready_nodes", rdV a.ra S2.rd), ("_npassedout", V.int S2.po), ("_nfinished", V.int S2.fi)]) := hdx
            rw [hr2] at hdx
            refine m_abs fun Zq3 hZq3 => ?_
            refine m_cons ?_
            refine m_Expr ?_
            refine m_Method ?_
            refine m_Attr ?_
            refine evR (EvP.nm (v := .ref _) (by rfl)) ?_
            first | refine m_attrR (Here.X (by assumption)) (by walk_at "hl") (by walk_at "hl") (by rfl) ?_ | refine m_attrI (Here.X (by assumption)) (by walk_at "hl") (by walk_at "hl") (by rfl) fun _ => ?_ | refine m_attrN (Here.X (by assumption)) (by walk_at "hl") (by walk_at "hl") (by rfl) ?_
            refine m_methList (by walk_at "hl") PySem.F.slot_list_append PySem.F.type_list_append ?_
            refine m_callB ?_
            refine m_splE ?_
            refine evI (EvP.nm (v := .int _) (by rfl)) fun _ => ?_
            refine m_splE0 ?_
            refine m_append (x := kyV s) hra ⟨_, rfl⟩ ?_ ?_
            · rw [List.length_map]; exact Nat.le_trans (show l2.length ≤ 1000 by omega) (by decide)
            refine m_nil ?_
            refine hZq3 _ _ ?_
            refine m_nil ?_
            refine hZq2 _ _ ?_
            refine ⟨_, by walk_at "ms_fit", ?_⟩
            have r4 := r3.setRd (l' := l2 ++ [s]) (show ({ S2 with np := upd S2.np s (S2.np s - 1) } : SS).rd = some l2 from hr2)
            rw [hS2]
            have e4 : tellOne S2 s = { S2 with np := upd S2.np s (S2.np s - 1), rd := some (l2 ++ [s]) } := by unfold tellOne; rw [if_pos e, hr2]; rfl
            rw [e4]
            rw [List.map_append] at r4
            exact r4
          · have e : ¬ S2.np s - 1 = 0 := by simpa using e
            refine m_nil ?_
            refine m_nil ?_
            refine hZq2 _ _ ?_
            refine ⟨put hp (a.aN s) (nodeOf a s (S2.np s - 1)), by walk_at "ms_fit", ?_⟩
            rw [hS2]
            have e4 : tellOne S2 s = { S2 with np := upd S2.np s (S2.np s - 1) } := by unfold tellOne; rw [if_neg e]
            rw [e4]; exact r3
        · rintro σ' ⟨hp, hf, r2⟩
          rw [List.length_map, List.take_length] at r2
          skip
          refine ⟨rfl, hp, ⟨fun z v q => hf.1 z v ?_, hf.2⟩, r2⟩
          revert q; exact (show Sub (names _) (names _) by walk_at "ms_sub") z v
      · rintro σ' ⟨hp, hf, r2⟩
        refine m_fit hf ?_
        have hx := r2.hx
        have hdx := r2.hdx
        unfold fieldsOf at hdx
        refine m_cons ?_
        refine m_AugAttr ?_
        refine evR (EvP.nm (v := .ref _) (by rfl)) ?_
        first | refine m_attrR (Here.X (by assumption)) (by walk_at "hl") (by walk_at "hl") (by rfl) ?_ | refine m_attrI (Here.X (by assumption)) (by walk_at "hl") (by walk_at "hl") (by rfl) fun _ => ?_ | refine m_attrN (Here.X (by assumption)) (by walk_at "hl") (by walk_at "hl") (by rfl) ?_
        refine evI EvP.int fun _ => ?_
        refine m_iadd fun _ => ?_
        refine m_setAttr (v := .int (S.fi + 1)) Z.X (by walk_at "hl") (by walk_at "hl") ⟨_, by rw [tell_fi]⟩ (by show 4 ≤ 900; decide) ?_
        refine m_nil ?_
        refine hZq0 _ _ ?_
        have r3 := r2.setFi (S.fi + 1)
        exact r3
    · intro σ' hf
      skip
      exact ⟨rfl, hf⟩
  · intro σ' r'
    refine m_nil ?_
    exact ⟨_, fun _ _ e => e, h _ r'⟩
end
end Mine
end
section
open PySem PySem.W PyProof.Rows PySem.SeqAt
set_option maxHeartbeats 1000000
namespace Mine
theorem dPut_new {f : Ky → V} {l : List Ky} {k : Ky} {v : V} (h : k ∉ l) : dPut (l.map fun k => (k, f k)) k v = l.map (fun k => (k, f k)) ++ [(k, v)] := by
  unfold dPut
  rw [if_neg]
  intro e
  rw [List.any_eq_true] at e
  obtain ⟨p, hp, e⟩ := e
  obtain ⟨j, hj, rfl⟩ := List.mem_map.mp hp
  exact h (by simpa using (of_decide_eq_true e) ▸ hj)
noncomputable def SS.mk1 (S : SS) (k : Ky) : SS := { S with ord := S.ord ++ [k], np := upd S.np k 0, su := upd S.su k [] }
noncomputable def Ad.mk1 (a : Ad) (k : Ky) (x2 dx2 D : Addr) : Ad := { a with aN := upd a.aN k x2, aD := upd a.aD k dx2, aL := upd a.aL k D }
theorem Rep.newNode {a : Ad} {S : SS} {h h3 : Addr → Option (O Ky)} {k : Ky} {x2 dx2 D : Addr} {ep : Nat} (r : Rep a S h) (hk : k ∉ S.ord) (hs : ∀ b o, h b = some o → h3 b = some o) (n1 : h x2 = none) (n2 : h dx2 = none) (n3 : h D = none)
    (e1 : h3 x2 = some (.inst cNI dx2 [some (kyV k), some (.int 0), some (.ref D)])) (e2 : h3 dx2 = some (.idict [])) (e3 : h3 D = some (.list [])) :
    Rep (a.mk1 k x2 dx2 D) (S.mk1 k) (put h3 a.dd (.dict ((S.ord.map fun k => (k, V.ref (a.aN k))) ++ [(k, .ref x2)]) ep)) := by
  obtain ⟨ep0, hdd⟩ := r.hdd
  have hd3 := hs _ _ hdd
  have old : ∀ {k'}, k' ∈ S.ord → k' ≠ k := fun hk' e => hk (e ▸ hk')
  refine ⟨put_diff (hs _ _ r.hx) hd3 (by intro q; cases q), put_diff (hs _ _ r.hdx) hd3 (by intro q; cases q), ⟨ep, ?_⟩, ?_, ?_, ?_, ?_, ?_, ?_, ?_⟩
  · show put _ a.dd _ a.dd = _
    rw [put_same]
    show _ = some (O.dict ((S.ord ++ [k]).map fun k' => (k', V.ref (upd a.aN k x2 k'))) ep)
    rw [List.map_append]
    congr 3
    · refine List.map_congr_left fun k' hk' => ?_
      rw [upd_other (old hk')]
    · simp [upd_same]
  · show (S.ord ++ [k]).Nodup
    rw [List.nodup_append]
    skip
    exact ⟨r.nd, by simp, fun a ha b hb => by rw [List.mem_singleton.mp hb]; exact old ha⟩
  · intro k' hk'
    rcases List.mem_append.mp hk' with hk' | hk'
    · show put _ a.dd _ (upd a.aN k x2 k') = some (O.inst cNI (upd a.aD k dx2 k') [some (kyV k'), some (.int (upd S.np k 0 k')), some (.ref (upd a.aL k D k'))])
      rw [upd_other (old hk'), upd_other (old hk'), upd_other (old hk'), upd_other (old hk')]
      exact put_diff (hs _ _ (r.hN k' hk')) hd3 (by intro q; cases q)
    · rw [List.mem_singleton.mp hk']
      show put _ a.dd _ (upd a.aN k x2 k) = some (O.inst cNI (upd a.aD k dx2 k) [some (kyV k), some (.int (upd S.np k 0 k)), some (.ref (upd a.aL k D k))])
      rw [upd_same, upd_same, upd_same, upd_same]
      exact put_diff e1 hd3 (by intro q; cases q)
  · intro k' hk'
    rcases List.mem_append.mp hk' with hk' | hk'
    · show put _ a.dd _ (upd a.aD k dx2 k') = _ ∧ upd a.aD k dx2 k' ≠ a.dx
      rw [upd_other (old hk')]
      skip
      exact ⟨put_diff (hs _ _ (r.hD k' hk').1) hd3 (by intro q; cases q), (r.hD k' hk').2⟩
    · rw [List.mem_singleton.mp hk']
      show put _ a.dd _ (upd a.aD k dx2 k) = _ ∧ upd a.aD k dx2 k ≠ a.dx
      rw [upd_same]
      skip
      exact ⟨put_diff e2 hd3 (by intro q; cases q), (ne_none r.hdx n2).symm⟩
  · intro k' hk'
    rcases List.mem_append.mp hk' with hk' | hk'
    · show put _ a.dd _ (upd a.aL k D k') = some (O.list ((upd S.su k [] k').map kyV))
      rw [upd_other (old hk'), upd_other (old hk')]
      exact put_diff (hs _ _ (r.hL k' hk')) hd3 (by intro q; cases q)
    · rw [List.mem_singleton.mp hk']
      show put _ a.dd _ (upd a.aL k D k) = some (O.list ((upd S.su k [] k).map kyV))
      rw [upd_same, upd_same]
      exact put_diff e3 hd3 (by intro q; cases q)
  · intro k1 h1 k2 h2
    show upd a.aL k D k1 = upd a.aL k D k2 → k1 = k2
    rcases List.mem_append.mp h1 with h1 | h1 <;> rcases List.mem_append.mp h2 with h2 | h2
    · rw [upd_other (old h1), upd_other (old h2)]; exact r.iL k1 h1 k2 h2
    · rw [List.mem_singleton.mp h2, upd_other (old h1), upd_same]; exact fun e => absurd e (ne_none (r.hL k1 h1) n3)
    · rw [List.mem_singleton.mp h1, upd_other (old h2), upd_same]; exact fun e => absurd e.symm (ne_none (r.hL k2 h2) n3)
    · rw [List.mem_singleton.mp h1, List.mem_singleton.mp h2]; exact fun _ => rfl
  · intro l e
    obtain ⟨g1, g2⟩ := r.hra l e
    refine ⟨put_diff (hs _ _ g1) hd3 (by intro q; cases q), fun k' hk' => ?_⟩
    show upd a.aL k D k' ≠ a.ra
    rcases List.mem_append.mp hk' with hk' | hk'
    · rw [upd_other (old hk')]; exact g2 k' hk'
    · rw [List.mem_singleton.mp hk', upd_same]; exact (ne_none g1 n3).symm
  · intro k' hk'
    show upd a.aN k x2 k' ≠ a.x
    rcases List.mem_append.mp hk' with hk' | hk'
    · rw [upd_other (old hk')]; exact r.xN k' hk'
    · rw [List.mem_singleton.mp hk', upd_same]; exact (ne_none r.hx n1).symm
section
variable {prog : Program} {w : World} {Γ : Fx} {σ : MS Ky} {A : Around} {env : Env} {α : Type} {s : Shared} {Q : Value → MS Ky → Prop} {QB : Bool → MS Ky → Prop} {QU : Unit → MS Ky → Prop} {QF : Flow → MS Ky → Prop}
variable {p : Program} {loose : List Str} {mg mb : Str → Option Value} {t u v : Tok} {n : Nat} {l : Addr} {a : Ad} {S : SS} {k : Ky}

theorem c_nodeInit {x2 dx2 : Addr} (h1 : σ.h x2 = some (.inst cNI dx2 [])) (h2 : σ.h dx2 = some (.idict [])) (Z : Here (Mine.hd1.heap_1 w.params) p loose mg mb Γ.base) (hA : Dp A n)
    (h : ∀ D, σ.h D = none → Q .none ⟨σ.m, put (put σ.h D (.list [])) x2 (.inst cNI dx2 [some (kyV k), some (.int 0), some (.ref D)])⟩) : mcode (kyK prog w) Γ A (.call (.ref 36) ⟨[.ref x2, kyVal k t], []⟩) Q σ := by
  refine c_fun ["self", "node"] [.ref x2, kyV k] Z hA (.cons rfl (.cons ⟨t, rfl⟩ .nil)) ?_
  intro L'
  have n12 : dx2 ≠ x2 := fun e => by rw [e, h1] at h2; cases h2
  refine m_cons ?_
  refine m_AssignAttr ?_
  refine evI (EvP.nm (v := .int _) (by rfl)) fun _ => ?_
  refine evR (EvP.nm (v := .ref _) (by rfl)) ?_
  refine m_setSlot (i := 0) (v := kyV k) Z.X h1 h2 ⟨_, rfl⟩ (by decide) ?_ (p := 41) (by first | k_is | rfl)
  refine m_cons ?_
  refine m_AssignAttr ?_
  refine evI EvP.int fun _ => ?_
  refine evR (EvP.nm (v := .ref _) (by rfl)) ?_
  refine m_setSlot (i := 1) (v := .int 0) (sl := [some (kyV k)]) Z.X put_same (by walk_at "hl") ⟨_, rfl⟩ (by decide) ?_ (p := 42) (by first | k_is | rfl)
  refine m_cons ?_
  refine m_AssignAttr ?_
  refine m_List ?_
  refine m_splE0 ?_
  refine m_newList .nil (by decide) fun D hD => ?_
  have nD : x2 ≠ D := ne_none put_same hD
  have hD0 : σ.h D = none := none_put (none_put hD)
  refine evR (EvP.nm (v := .ref _) (by rfl)) ?_
  refine m_setSlot (i := 2) (v := .ref D) (sl := [some (kyV k), some (.int 0)]) Z.X ((put_other nD).trans put_same) (by walk_at "hl") rfl (by decide) ?_ (p := 43) (by first | k_is | rfl)
  refine m_nil ?_
  refine ⟨_, ?_, h D hD0⟩
  intro b o e
  show put (put (put (put σ.h x2 _) x2 _) D _) x2 _ b = some o
  rw [put_put, put_comm nD, put_put]
  exact e

noncomputable def SS.ens (S : SS) (k : Ky) : SS := if k ∈ S.ord then S else S.mk1 k
theorem c_get_nodeinfo (r : Rep a S σ.h) (hsz : S.ord.length ≤ 1000) (Z : Here (Mine.hd1.heap_1 w.params) p loose mg mb Γ.base) (hA : Dp A (n + 2))
    (h : ∀ a' h', a'.x = a.x → Rep a' (S.ens k) h' → Q (.ref (a'.aN k)) ⟨σ.m, h'⟩) : mcode (kyK prog w) Γ A (.call (.ref 80) ⟨[.ref a.x, kyVal k t], []⟩) Q σ := by
  refine c_fun ["self", "node"] [.ref a.x, kyV k] Z hA (.cons rfl (.cons ⟨t, rfl⟩ .nil)) ?_
  intro L'
  have hx := r.hx
  have hdx := r.hdx
  obtain ⟨ep, hdd⟩ := r.hdd
  unfold fieldsOf at hdx
  refine m_cons ?_
  refine m_If ?_
  refine m_isCompare ?_
  refine m_Named ?_
  refine m_abs fun Zq0 hZq0 => ?_
  refine m_Method ?_
  refine m_Attr ?_
  refine evR (EvP.nm (v := .ref _) (by rfl)) ?_
  first | refine m_attrR (Here.X (by assumption)) (by walk_at "hl") (by walk_at "hl") (by rfl) ?_ | refine m_attrI (Here.X (by assumption)) (by walk_at "hl") (by walk_at "hl") (by rfl) fun _ => ?_ | refine m_attrN (Here.X (by assumption)) (by walk_at "hl") (by walk_at "hl") (by rfl) ?_
  refine m_methDict (by walk_at "hl") PySem.F.slot_dict_get PySem.F.type_dict_get ?_
  refine m_callB ?_
  refine m_splE ?_
  refine evI (EvP.nm (v := .int _) (by rfl)) fun _ => ?_
  refine m_splE0 ?_
  refine m_dictGet Z.sys hdd ky_is fun v' hv' => ?_
  rw [dGet_ord (f := fun k => V.ref (a.aN k))] at hv'
  by_cases hk : k ∈ S.ord
  · rw [if_pos hk] at hv'
    cases hv'
    refine hZq0 _ _ ?_
    refine m_assignName ?_
    refine m_str' ?_
    refine evN EvP.none ?_
    refine m_is (by rfl) ?_
    refine m_trBool ?_
    skip
    refine ifalse rn ?_
    refine m_nil ?_
    refine m_cons ?_
    refine m_Return ?_
    refine evR (EvP.nm (v := .ref _) (by rfl)) ?_
    exact ⟨_, fun _ _ e => e, h a _ rfl (by unfold SS.ens; rw [if_pos hk]; exact r)⟩
  · rw [if_neg hk] at hv'
    cases hv'
    refine hZq0 _ _ ?_
    refine m_assignName ?_
    refine m_stn ?_
    refine evN EvP.none ?_
    refine m_is (by rfl) ?_
    refine m_trBool ?_
    skip
    refine itrue nn ?_
    refine m_abs fun Zq1 hZq1 => ?_
    refine m_cons ?_
    refine m_Assign2 ?_
    refine m_Call ?_
    refine m_Name ?_
    first | refine m_gK (by assumption) ?_ | refine m_gB (by assumption) ?_
    refine m_callZ (by assumption) ?_
    refine m_splE ?_
    refine evI (EvP.nm (v := .int _) (by rfl)) fun _ => ?_
    refine m_splE0 ?_
    refine c_make (fI := 36) Z.X fun x2 dx2 n1 n2 n12 => ?_
    have n1 : σ.h x2 = none := n1
    have n2 : σ.h dx2 = none := n2
    refine c_nodeInit (k := k) put_same ((put_other (Ne.symm n12)).trans put_same) Z (hA.deeper _).make fun D hD => ⟨rfl, ?_⟩
    have nD1 : x2 ≠ D := ne_none put_same hD
    have hD : put σ.h dx2 (.idict []) D = none := none_put hD
    have nD2 : dx2 ≠ D := ne_none put_same hD
    have n3 : σ.h D = none := none_put hD
    obtain ⟨h3, eh3⟩ : ∃ h3 : Addr → Option (O Ky), h3 = put (put (put (put σ.h dx2 (.idict [])) x2 (.inst cNI dx2 [])) D (.list [])) x2 (.inst cNI dx2 [some (kyV k), some (.int 0), some (.ref D)]) := ⟨_, rfl⟩
    have e1 : h3 x2 = some (.inst cNI dx2 [some (kyV k), some (.int 0), some (.ref D)]) := by rw [eh3]; exact put_same
    have e2 : h3 dx2 = some (.idict []) := by rw [eh3, put_other (Ne.symm n12), put_other nD2, put_other (Ne.symm n12), put_same]
    have e3 : h3 D = some (.list []) := by rw [eh3, put_other (Ne.symm nD1), put_same]
    have hs : ∀ b o, σ.h b = some o → h3 b = some o := by rw [eh3]; exact sub_upd n1 (sub_upd n3 (sub_upd n1 (sub_upd n2 fun _ _ e => e)))
    refine m_weak (m' := names [("self", .ref a.x), ("node", kyV k)]) (h' := h3) (by walk_at "ms_sub") (by rw [eh3]; exact fun _ _ e => e) ?_
    clear eh3
    have hx := hs _ _ hx
    have hdx := hs _ _ hdx
    have hdd3 := hs _ _ hdd
    refine m_assignSub ?_
    refine m_Attr ?_
    refine evR (EvP.nm (v := .ref _) (by rfl)) ?_
    first | refine m_attrR (Here.X (by assumption)) (by walk_at "hl") (by walk_at "hl") (by rfl) ?_ | refine m_attrI (Here.X (by assumption)) (by walk_at "hl") (by walk_at "hl") (by rfl) fun _ => ?_ | refine m_attrN (Here.X (by assumption)) (by walk_at "hl") (by walk_at "hl") (by rfl) ?_
    refine evI (EvP.nm (v := .int _) (by rfl)) fun _ => ?_
    refine m_dictSetItem hdd3 ky_is (v := .ref x2) rfl (by rw [List.length_map]; exact Nat.le_trans hsz (by decide)) fun ep' => ?_
    rw [dPut_new (f := fun k => V.ref (a.aN k)) hk]
    refine m_assignName ?_
    refine m_str' ?_
    refine m_nil ?_
    refine hZq1 _ _ ?_
    refine m_cons ?_
    refine m_Return ?_
    refine evR (EvP.nm (v := .ref _) (by rfl)) ?_
    have r2 := r.newNode (ep := ep') hk hs n1 n2 n3 e1 e2 e3
    refine ⟨_, fun _ _ e => e, ?_⟩
    have := h (a.mk1 k x2 dx2 D) _ rfl (by unfold SS.ens; rw [if_neg hk]; exact r2)
    rw [show (a.mk1 k x2 dx2 D).aN k = x2 from upd_same] at this
    exact this

noncomputable def linkOne (k : Ky) (S : SS) (q : Ky) : SS := { S.ens q with su := upd (S.ens q).su q ((S.ens q).su q ++ [k]) }
noncomputable def SS.add (S : SS) (k : Ky) (ps : List Ky) : SS := ps.foldl (linkOne k) { S.ens k with np := upd (S.ens k).np k ((S.ens k).np k + ps.length) }

theorem ens_mem {S : SS} {k : Ky} : k ∈ (S.ens k).ord := by unfold SS.ens; split <;> simp_all [SS.mk1]
theorem ens_rd {S : SS} {k : Ky} : (S.ens k).rd = S.rd := by unfold SS.ens; split <;> simp [SS.mk1]
theorem ens_po {S : SS} {k : Ky} : (S.ens k).po = S.po := by unfold SS.ens; split <;> simp [SS.mk1]
theorem ens_fi {S : SS} {k : Ky} : (S.ens k).fi = S.fi := by unfold SS.ens; split <;> simp [SS.mk1]
theorem ens_len {S : SS} {k : Ky} : (S.ens k).ord.length ≤ S.ord.length + 1 := by unfold SS.ens; split <;> simp [SS.mk1]
theorem ens_su {S : SS} {k : Ky} {B : Nat} (h : ∀ j ∈ S.ord, (S.su j).length ≤ B) : ∀ j ∈ (S.ens k).ord, ((S.ens k).su j).length ≤ B := by
  unfold SS.ens
  split
  · exact h
  · rename_i hk
    intro j hj
    rcases List.mem_append.mp hj with hj | hj
    · show (upd S.su k [] j).length ≤ B
      rw [upd_other (show j ≠ k from fun e => hk (e ▸ hj))]; exact h j hj
    · rw [List.mem_singleton.mp hj]; show (upd S.su k [] k).length ≤ B; rw [upd_same]; simp
theorem link_size {k : Ky} : ∀ (ps : List Ky) (S : SS) (B : Nat), (∀ j ∈ S.ord, (S.su j).length ≤ B) →
    (ps.foldl (linkOne k) S).ord.length ≤ S.ord.length + ps.length ∧ (∀ j ∈ (ps.foldl (linkOne k) S).ord, ((ps.foldl (linkOne k) S).su j).length ≤ B + ps.length) ∧ (ps.foldl (linkOne k) S).rd = S.rd ∧ (ps.foldl (linkOne k) S).po = S.po ∧ (ps.foldl (linkOne k) S).fi = S.fi
  | [], S, B, h => ⟨by simp, by simpa using h, rfl, rfl, rfl⟩
  | q :: ps, S, B, h => by
    have h1 : ∀ j ∈ (linkOne k S q).ord, ((linkOne k S q).su j).length ≤ B + 1 := by
      intro j hj
      have := ens_su h j hj
      show (upd (S.ens q).su q ((S.ens q).su q ++ [k]) j).length ≤ B + 1
      by_cases e : j = q
      · subst e; rw [upd_same]; simp; exact this
      · rw [upd_other e]; omega
    obtain ⟨a1, a2, a3, a4, a5⟩ := link_size ps (linkOne k S q) (B + 1) h1
    have hl : (linkOne k S q).ord.length ≤ S.ord.length + 1 := ens_len
    refine ⟨?_, ?_, a3.trans ens_rd, a4.trans ens_po, a5.trans ens_fi⟩
    · rw [List.foldl_cons, List.length_cons]; omega
    · intro j hj
      rw [List.foldl_cons] at hj ⊢
      have := a2 j hj
      rw [List.length_cons]; omega

theorem c_add {ps : List Ky} {vals : List Value} (r : Rep a S σ.h) (hr : S.rd = none) (hsz : S.ord.length + ps.length ≤ 900) (hsu : ∀ k ∈ S.ord, (S.su k).length + ps.length ≤ 1000) (hv : Are (ps.map kyV) vals) (Z : Here (Mine.hd1.heap_1 w.params) p loose mg mb Γ.base) (hA : Dp A (n + 3))
    (h : ∀ a' h', a'.x = a.x → Rep a' (S.add k ps) h' → Q .none ⟨σ.m, h'⟩) : mcode (kyK prog w) Γ A (.call (.ref 87) ⟨.ref a.x :: kyVal k t :: vals, []⟩) Q σ := by
  refine c_funV ["self", "node"] [.ref a.x, kyV k] "predecessors" (ps.map kyV) Z hA (.cons rfl (.cons ⟨t, rfl⟩ .nil)) hv (by rw [List.length_map]; exact Nat.le_trans (show ps.length ≤ 1000 by omega) (by decide)) ?_ (hb := ?_)
  rotate_left
  · cases vals with
    | nil => rfl
    | cons v vs => rfl
  intro L' T hT
  have hh : ∀ e, (A.deeper e).handled = none := fun e => hA.hd
  have hx := r.hx
  have hdx := r.hdx
  unfold fieldsOf at hdx
  rw [hr] at hdx
  refine m_cons ?_
  refine m_If ?_
  refine m_isCompare ?_
  refine m_Attr ?_
  refine evR (EvP.nm (v := .ref _) (by rfl)) ?_
  first | refine m_attrR (Here.X (by assumption)) (by walk_at "hl") (by walk_at "hl") (by rfl) ?_ | refine m_attrI (Here.X (by assumption)) (by walk_at "hl") (by walk_at "hl") (by rfl) fun _ => ?_ | refine m_attrN (Here.X (by assumption)) (by walk_at "hl") (by walk_at "hl") (by rfl) ?_
  refine evN EvP.none ?_
  refine m_isnot (by rfl) ?_
  refine m_trBool ?_
  skip
  refine ifalse (by decide) ?_
  refine m_nil ?_
  refine m_cons ?_
  refine m_AssignName ?_
  refine m_Method ?_
  refine evR (EvP.nm (v := .ref _) (by rfl)) ?_
  refine m_method (Here.X (by assumption)) (by walk_at "hl") (by walk_at "hl") (by rfl) ?_
  refine m_callZ (by assumption) ?_
  refine m_splE ?_
  refine evI (EvP.nm (v := .int _) (by rfl)) fun _ => ?_
  refine m_splE0 ?_
  refine m_weak (σ := MS.mk _ _) (m' := names [("self", .ref a.x), ("node", kyV k), ("predecessors", .ref T)]) (h' := put σ.h T (.tuple (ps.map kyV))) (by walk_at "ms_sub") (fun _ _ e => e) ?_
  refine mwp_mono (m_frame (σ := ⟨names [("self", .ref a.x), ("node", kyV k), ("predecessors", .ref T)], σ.h⟩) (D := T) (o := .tuple (ps.map kyV)) (Q := fun v σ' => ∃ a', a'.x = a.x ∧ v = .ref (a'.aN k) ∧ Rep a' (S.ens k) σ'.h ∧ σ'.m = names [("self", .ref a.x), ("node", kyV k), ("predecessors", .ref T)]) hT fun ob hb => m_code ?_) ?_
  · exact c_get_nodeinfo (k := k) (a := a) (S := S) r (by omega) Z (hA.deeper _) fun a' h' e r' => ⟨a', e, rfl, r', rfl⟩
  rintro v ⟨m0, h0⟩ ⟨σ₀, e0, hn, a1, ea, rfl, r1, em⟩
  obtain ⟨m1, h1⟩ := σ₀
  have em : m1 = _ := em
  subst em
  cases e0
  have hT1 : h1 T = none := hn
  have r1 : Rep a1 (S.ens k) h1 := r1
  have hN := r1.hN k ens_mem
  have hD := (r1.hD k ens_mem).1
  unfold nodeOf at hN
  refine m_str' ?_
  refine m_cons ?_
  refine m_AugAttr ?_
  refine evR (EvP.nm (v := .ref _) (by rfl)) ?_
  refine m_slotI (p := 42) (j := 1) (Here.X (by assumption)) (by walk_at "hl") (by walk_at "hl") (by first | k_is | rfl) (by rfl) fun _ => ?_
  refine m_abs fun Zq0 hZq0 => ?_
  refine m_Call ?_
  refine m_Name ?_
  first | refine m_gK (by assumption) ?_ | refine m_gB (by assumption) ?_
  refine m_callB ?_
  refine m_splE ?_
  refine evR (EvP.nm (v := .ref _) (by rfl)) ?_
  refine m_splE0 ?_
  refine m_lenTuple (xs := ps.map kyV) put_same (by rw [List.length_map]; omega) fun _ => ?_
  refine hZq0 _ _ ?_
  refine m_iadd fun _ => ?_
  refine m_setSlot (i := 1) (v := .int ((S.ens k).np k + ps.length)) Z.X (sub_put hT1 hN) (sub_put hT1 hD) ⟨_, by rw [List.length_map]⟩ (by decide) ?_ (p := 42) (by first | k_is | rfl)
  refine m_cons ?_
  have r2 := r1.setNp (ens_mem (S := S) (k := k)) ((S.ens k).np k + ps.length)
  have nT : T ≠ a1.aN k := (ne_none (r1.hN k ens_mem) hT1).symm
  have hT2 : put h1 (a1.aN k) (nodeOf a1 k ((S.ens k).np k + ps.length)) T = none := (put_other nT).trans hT1
  refine m_weak (m' := names [("self", .ref a.x), ("node", kyV k), ("predecessors", .ref T)]) (h' := put (put h1 (a1.aN k) (nodeOf a1 k ((S.ens k).np k + ps.length))) T (.tuple (ps.map kyV))) (by walk_at "ms_sub") (by rw [put_comm (Ne.symm nT)]; exact fun _ _ e => e) ?_
  revert r2 hT2
  generalize put h1 (a1.aN k) (nodeOf a1 k ((S.ens k).np k + ps.length)) = hp2
  intro r2 hT2
  clear hN hD r1 nT hT1 hn hx hdx
  have hsu2 : ∀ j ∈ (S.ens k).ord, ((S.ens k).su j).length ≤ 1000 - ps.length := ens_su fun j hj => by have := hsu j hj; omega
  have hol := ens_len (S := S) (k := k)
  have hrd2 : (S.ens k).rd = none := ens_rd.trans hr
  have hps : ps.length ≤ 1000 := by omega
  obtain ⟨S2, eS2⟩ : ∃ S2 : SS, S2 = { S.ens k with np := upd (S.ens k).np k ((S.ens k).np k + ps.length) } := ⟨_, rfl⟩
  have hadd : S.add k ps = ps.foldl (linkOne k) S2 := by rw [eS2]; rfl
  rw [← eS2] at r2
  have hsu2 : ∀ j ∈ S2.ord, (S2.su j).length ≤ 1000 - ps.length := by rw [eS2]; exact hsu2
  have hol : S2.ord.length ≤ S.ord.length + 1 := by rw [eS2]; exact hol
  clear eS2
  refine m_then (P := fun σ' => ∃ a', a'.x = a.x ∧ Rep a' (ps.foldl (linkOne k) S2) σ'.h) ?_ ?_
  · refine m_ForF ?_
    refine evR (EvP.nm (v := .ref _) (by rfl)) ?_
    refine ⟨T, .tuple (ps.map kyV), ⟨names [("self", .ref a.x), ("node", kyV k), ("predecessors", .ref T)], hp2⟩, _, _, rfl, hT2, yields_tuple (hh _), fun i σ' => ∃ a' hp, a'.x = a.x ∧ Fit σ' (names [("self", .ref a.x), ("node", kyV k)]) hp ∧ Rep a' ((ps.take i).foldl (linkOne k) S2) hp, ⟨a1, hp2, ea, by walk_at "ms_fit", r2⟩, ?_, ?_⟩
    · rintro i y σ' I ob hb ob2 hb2 hy ⟨a3, hp3, ea3, hf, r3⟩
      obtain ⟨q, hq, rfl⟩ := map_get hy
      have hi := (List.getElem?_eq_some_iff.mp hq).1
      refine m_fitS hf ?_
      clear hf
      have hS3 : (ps.take (i + 1)).foldl (linkOne k) S2 = linkOne k ((ps.take i).foldl (linkOne k) S2) q := by rw [take_snoc hq, List.foldl_append]; rfl
      obtain ⟨b1, b2, b3, _, _⟩ := link_size (k := k) (ps.take i) S2 _ hsu2
      have hti : (ps.take i).length = i := by rw [List.length_take]; omega
      rw [hti] at b1 b2
      revert r3 hS3 b1 b2 b3
      generalize (ps.take i).foldl (linkOne k) S2 = S3
      intro r3 hS3 b1 b2 b3
      have hx := r3.hx
      have hdx := r3.hdx
      unfold fieldsOf at hdx
      rw [ea3] at hx
      refine m_abs fun Zq1 hZq1 => ?_
      refine m_cons ?_
      refine m_AssignName ?_
      refine m_abs fun Zq2 hZq2 => ?_
      refine m_Method ?_
      refine evR (EvP.nm (v := .ref _) (by rfl)) ?_
      refine m_method (Here.X (by assumption)) (by walk_at "hl") (by walk_at "hl") (by rfl) ?_
      refine m_callZ (by assumption) ?_
      refine m_splE ?_
      refine evI (EvP.nm (v := .int _) (by rfl)) fun _ => ?_
      refine m_splE0 ?_
      refine m_code ?_
      rw [show ([Value.ref a.x] : List Value) = [.ref a3.x] by rw [ea3]]
      refine c_get_nodeinfo (k := q) r3 (by omega) Z (hA.deeper _) fun a4 h4 ea4 r4 => ?_
      have hN := r4.hN q ens_mem
      have hD := (r4.hD q ens_mem).1
      have hL := r4.hL q ens_mem
      unfold nodeOf at hN
      refine hZq2 _ _ ?_
      refine m_str' ?_
      refine m_cons ?_
      refine m_Expr ?_
      refine m_Method ?_
      refine m_Attr ?_
      refine evR (EvP.nm (v := .ref _) (by rfl)) ?_
      refine m_slotR (p := 43) (j := 2) (Here.X (by assumption)) (by walk_at "hl") (by walk_at "hl") (by first | k_is | rfl) (by rfl) ?_
      refine m_methList (by walk_at "hl") PySem.F.slot_list_append PySem.F.type_list_append ?_
      refine m_callB ?_
      refine m_splE ?_
      refine evI (EvP.nm (v := .int _) (by rfl)) fun _ => ?_
      refine m_splE0 ?_
      refine m_append (x := kyV k) hL ⟨_, rfl⟩ ?_ ?_
      · have := ens_su b2 q ens_mem
        rw [List.length_map]; exact Nat.le_trans (show _ ≤ 1000 by omega) (by decide)
      refine m_nil ?_
      refine hZq1 _ _ ?_
      refine ⟨a4, _, ea4.trans ea3, by walk_at "ms_fit", ?_⟩
      have r5 := r4.appSu (ens_mem (S := S3) (k := q)) ((S3.ens q).su q ++ [k])
      rw [hS3]
      rw [List.map_append] at r5
      exact r5
    · rintro σ' ⟨a', hp, ea', hf, r'⟩
      rw [List.length_map, List.take_length] at r'
      skip
      exact ⟨rfl, a', ea', r'.mono hf.2⟩
  · rintro σ' ⟨a', ea', r'⟩
    refine m_nil ?_
    rw [← hadd] at r'
    skip
    exact ⟨_, fun _ _ e => e, h a' _ ea' r'⟩
end
end Mine
end
section
open PySem PySem.W PyProof.Rows PySem.SeqAt
set_option maxHeartbeats 400000
namespace Mine
section
variable {prog : Program} {w : World} {K : Type} [DecidableEq K] {knd : PySem.KeyKind prog w K} {Γ : Fx} {σ : MS K} {A : Around} {env : Env} {α : Type} {s : Shared} {Q : Value → MS K → Prop} {QB : Bool → MS K → Prop} {QU : Unit → MS K → Prop} {QF : Flow → MS K → Prop}
variable {KK : Frag} {p : Program} {loose : List Str} {mg mb : Str → Option Value} {t u : Tok} {l l' : Addr}
theorem m_neg {a : Int} (h : ∀ t, Q (.int (-a) t) σ) : mwp knd Γ A (unaryOp .USub (.int a t)) Q σ := fun _ _ R => PyProof.Rows.neg_int ⟨σ, R.toks, h _⟩
theorem m_bound {x C dx f : Addr} {sl : List (Option V)} {fs : List (Str × V)} {name : Str} (X : KK.In Γ.base) (hx : σ.h x = some (.inst C dx sl)) (hd : σ.h dx = some (.idict fs)) (hl : fs.lookup name = none) (h : ∀ q, σ.h q = none → Q (.ref q) (σ.set q (.bound f x)))
    (hg : plainGet KK C name = true := by k_is) (hh : hasDictIn KK C = true := by k_is) (ha : findIn KK (.ref C) name = some (some (.ref f)) := by k_is) (hf : isFn KK (.ref f) = true := by k_is)
    (hgf : specialIn KK (.ref f) "__get__" = some (some (.builtin "function.__get__")) := by k_is) (ht : takesIn KK (.ref f) = some false := by k_is) (hc : copiedNames.contains name = false := by decide) {expr : Bool} : mwp knd Γ A (getAttr (.ref x) name expr) Q σ := fun s E R => by
  obtain ⟨sl', es, n, I, _, hfs⟩ := R.inst hx hd
  exact get_bind (R.kin X) I (plainGet_of hg).1 (findObj_fn hh ha hgf ht hc (by show lookIn name (dictOf es n) = _; rw [lookIn_dict, hfs.miss hl])) (plainGet_of hg).2
    (wpAny_call (fn_get (s := { s with toks := s.toks + 1 }) (R.kin X) (beq_iff_eq.mp hf) (handed_on rfl ⟨_, R.push (o := .bound f x) rfl, h _ R.fresh⟩)))
theorem m_callMstar {q f x : Addr} {first : List Value} {e : Expr} {rest : List Expr} {pos : Pos} (Z : Here KK p loose mg mb Γ.base) (h : mwp knd Γ A (spliced (backTo pos (starEach (e :: rest) env))) (fun vs σ₁ => σ₁.h q = some (.bound f x) ∧ mwp knd Γ A (call (.ref q) (first ++ vs)) Q σ₁) σ)
    (hf : fnIn KK f = true := by k_is) (he : starEach (e :: rest) env = (false, eval e env) :: starEach rest env := by rfl) (hst : (backTo pos (starEach rest env)).any (·.1) = true := by rfl) :
    mwp knd Γ A (callWith pos (.ref q) first (backTo pos (starEach (e :: rest) env)) []) Q σ := fun s E R => by
  have h2 := h.use (E := E) R (fun vs s₁ σ₁ R₁ z => (show MethP KK q f (.ref x) s₁.heap ∧ wpAny (model prog w) A (call (.ref q) (first ++ vs)) (fun a s' => ∃ σ', Rel knd Γ σ' s' ∧ Q a σ') E s₁ from by
    obtain ⟨z1, z2⟩ := z
    obtain ⟨ob, g, eo⟩ := R₁.obj _ _ z1
    have eo : ob = _ := eo
    subst eo
    exact ⟨⟨g, R₁.kin Z.X⟩, z2 s₁ E R₁⟩))
  rw [he] at h2 ⊢
  exact ks_call (by show (false || (backTo pos (starEach rest env)).any (·.1)) = true; rw [hst]; rfl) (keeps_M hf) (Calls.evalArgs_plain h2)
theorem m_MethodStar {o : Expr} {name : Str} {apos pos : Pos} {args : List Expr} (h : mwp knd Γ A (eval o env) (fun ov σ₁ => mwp knd Γ A (getAttr ov name true) (fun f σ₂ => mwp knd Γ A (callWith pos f [] (backTo pos (starEach args env)) []) Q σ₂) σ₁) σ)
    (he : eval (.Call (.Attribute o name apos) args [] pos) env = (do
      let ov ← eval o env
      standAt apos.atName
      let (f, first) ← holding [ov] (do pure (← getAttr ov name true, []))
      callWith pos f first (backTo pos (starEach args env)) []) := by rfl) : mwp knd Γ A (eval (.Call (.Attribute o name apos) args [] pos) env) Q σ := fun s E R => by
  rw [he]
  exact wpAny_bind (h.use R fun ov s₁ σ₁ R₁ q => wpAny_bind (wpAny_standAt (wpAny_bind (wpAny_holding (wpAny_bind (q.use R₁ fun f s₂ σ₂ R₂ q => wpAny_pure (q s₂ E R₂)))))))
theorem m_callBound {q f x : Addr} {vs : List Value} (hq : σ.h q = some (.bound f x)) (h : mcode knd Γ A (.call (.ref f) ⟨.ref x :: vs, []⟩) Q σ) : mwp knd Γ A (call (.ref q) vs) Q σ := fun s E R => by
  obtain ⟨ob, g, eo⟩ := R.obj _ _ hq
  have eo : ob = _ := eo
  subst eo
  exact wpAny_call (method_call g (h s E R))
end
end Mine
end
section
open PySem PySem.W PyProof.Rows PySem.SeqAt
set_option maxHeartbeats 1000000
namespace Mine
noncomputable def SS0 : SS := ⟨[], fun _ => 0, fun _ => [], none, 0, 0⟩
noncomputable def addG (S : SS) (g : Ky × Addr × List Ky) : SS := S.add g.1 g.2.2
noncomputable def build (G : List (Ky × Addr × List Ky)) : SS := G.foldl addG SS0
theorem add_size {S : SS} {k : Ky} {ps : List Ky} {B : Nat} (h : ∀ j ∈ S.ord, (S.su j).length ≤ B) : (S.add k ps).ord.length ≤ S.ord.length + ps.length + 1 ∧ (∀ j ∈ (S.add k ps).ord, ((S.add k ps).su j).length ≤ B + ps.length) ∧ (S.add k ps).rd = S.rd ∧ (S.add k ps).po = S.po ∧ (S.add k ps).fi = S.fi := by
  obtain ⟨h1, h2, h3, h4, h5⟩ := link_size (k := k) ps { S.ens k with np := upd (S.ens k).np k ((S.ens k).np k + ps.length) } B (ens_su h)
  have hl := ens_len (S := S) (k := k)
  skip
  refine ⟨?_, h2, h3.trans ens_rd, h4.trans ens_po, h5.trans ens_fi⟩
  have : (S.add k ps).ord.length ≤ (S.ens k).ord.length + ps.length := h1
  omega
theorem addG_size : ∀ (G : List (Ky × Addr × List Ky)) (S : SS) (B : Nat), (∀ j ∈ S.ord, (S.su j).length ≤ B) → (∀ g ∈ G, g.2.2.length ≤ 10) →
    (G.foldl addG S).ord.length ≤ S.ord.length + 11 * G.length ∧ (∀ j ∈ (G.foldl addG S).ord, ((G.foldl addG S).su j).length ≤ B + 10 * G.length) ∧ (G.foldl addG S).rd = S.rd
  | [], S, B, h, _ => ⟨by simp, by simpa using h, rfl⟩
  | g :: G, S, B, h, hg => by
    obtain ⟨a1, a2, a3, _, _⟩ := add_size (k := g.1) (ps := g.2.2) h
    have := hg g List.mem_cons_self
    obtain ⟨b1, b2, b3⟩ := addG_size G (addG S g) (B + 10) (fun j hj => by have : ((addG S g).su j).length ≤ B + g.2.2.length := a2 j hj; omega) fun g' hg' => hg g' (List.mem_cons_of_mem _ hg')
    rw [List.foldl_cons, List.length_cons]
    skip
    refine ⟨?_, fun j hj => ?_, b3.trans a3⟩
    · have : (addG S g).ord.length ≤ S.ord.length + g.2.2.length + 1 := a1
      omega
    · have := b2 j hj; omega
section
variable {prog : Program} {w : World} {Γ : Fx} {σ : MS Ky} {A : Around} {env : Env} {α : Type} {s : Shared} {Q : Value → MS Ky → Prop} {QB : Bool → MS Ky → Prop} {QU : Unit → MS Ky → Prop} {QF : Flow → MS Ky → Prop}
variable {p : Program} {loose : List Str} {mg mb : Str → Option Value} {t u v : Tok} {n : Nat} {l : Addr} {a : Ad} {S : SS} {k : Ky}

theorem c_init {h0 : Addr → Option (O Ky)} {x dx dN : Addr} {ep : Nat} {G : List (Ky × Addr × List Ky)} (hσ : σ.h = put (put h0 dx (.idict [])) x (.inst cTS dx [])) (nx : h0 x = none) (nd : h0 dx = none) (nxd : x ≠ dx)
    (hG : h0 dN = some (.dict (G.map fun g => (g.1, V.ref g.2.1)) ep)) (hl : ∀ g ∈ G, h0 g.2.1 = some (.list (g.2.2.map kyV)) ∧ g.2.2.length ≤ 10) (hGl : G.length ≤ 40) (Z : Here (Mine.hd1.heap_1 w.params) p loose mg mb Γ.base) (hA : Dp A (n + 4))
    (h : ∀ a h1 hq, a.x = x → Rep a (build G) h1 → (∀ b o, h0 b = some o → hq b = some o) → (∀ b o, h1 b = some o → hq b = some o) → (∀ b, h0 b ≠ none → h1 b = none) → Q .none ⟨σ.m, hq⟩) :
    mcode (kyK prog w) Γ A (.call (.ref 73) ⟨[.ref x, .ref dN], []⟩) Q σ := by
  refine c_funD ["self", "graph"] [.ref x, .ref dN] Z hA (.cons rfl (.cons rfl .nil)) ?_
  intro L'
  have hh : ∀ e, (A.deeper e).handled = none := fun e => hA.hd
  rw [hσ]
  have hx : put (put h0 dx (.idict [])) x (.inst cTS dx []) x = some (.inst cTS dx []) := put_same
  have hdx : put (put h0 dx (.idict [])) x (.inst cTS dx []) dx = some (.idict []) := (put_other (Ne.symm nxd)).trans put_same
  refine m_cons ?_
  refine m_AssignAttr ?_
  refine m_dict0 fun dd hdd => ?_
  refine evR (EvP.nm (v := .ref _) (by rfl)) ?_
  refine m_setAttr (v := .ref dd) Z.X (by walk_at "hl") (by walk_at "hl") rfl (by decide) ?_
  refine m_cons ?_
  refine m_AssignAttr ?_
  refine evN EvP.none ?_
  refine evR (EvP.nm (v := .ref _) (by rfl)) ?_
  have hdd : put (put h0 dx (.idict [])) x (.inst cTS dx []) dd = none := hdd
  have ndx : dd ≠ x := ne_put hdd
  have ndd : dd ≠ dx := ne_put (none_put hdd)
  have hd0 : h0 dd = none := none_put (none_put hdd)
  refine m_setAttr (v := .none) Z.X (by walk_at "hl") put_same rfl (by show 1 ≤ 900; decide) ?_
  refine m_cons ?_
  refine m_AssignAttr ?_
  refine evI EvP.int fun _ => ?_
  refine evR (EvP.nm (v := .ref _) (by rfl)) ?_
  refine m_setAttr (v := .int 0) Z.X (by walk_at "hl") put_same ⟨_, rfl⟩ (by show 2 ≤ 900; decide) ?_
  refine m_cons ?_
  refine m_AssignAttr ?_
  refine evI EvP.int fun _ => ?_
  refine evR (EvP.nm (v := .ref _) (by rfl)) ?_
  refine m_setAttr (v := .int 0) Z.X (by walk_at "hl") put_same ⟨_, rfl⟩ (by show 3 ≤ 900; decide) ?_
  refine m_cons ?_
  refine m_If ?_
  refine m_isCompare ?_
  refine evR (EvP.nm (v := .ref _) (by rfl)) ?_
  refine evN EvP.none ?_
  refine m_isnot (by rfl) ?_
  refine m_trBool ?_
  skip
  refine itrue (show (!(Value.ref dN == Value.none)) = true from rfl) ?_
  obtain ⟨a0, ea0⟩ : ∃ a0 : Ad, a0 = ⟨x, dx, dd, 0, fun _ => 0, fun _ => 0, fun _ => 0⟩ := ⟨_, rfl⟩
  obtain ⟨hp, ehp⟩ : ∃ hp : Addr → Option (O Ky), hp = put (put (put (put h0 dx (.idict [])) x (.inst cTS dx [])) dd (.dict [] 0)) dx (.idict (fieldsOf a0 SS0)) := ⟨_, rfl⟩
  obtain ⟨h1, eh1⟩ : ∃ h1 : Addr → Option (O Ky), h1 = put (put (put (fun _ => none) x (.inst cTS dx [])) dd (.dict [] 0)) dx (.idict (fieldsOf a0 SS0)) := ⟨_, rfl⟩
  refine m_weak (m' := names [("self", .ref x), ("graph", .ref dN)]) (h' := hp) (by walk_at "ms_sub") (by rw [ehp, ea0]; intro b o e; refine Eq.trans ?_ e; show put (put (put (put (put (put (put h0 dx _) x _) dd _) dx _) dx _) dx _) dx _ b = _; rw [put_put, put_put, put_put]; rfl) ?_
  have r1 : Rep a0 SS0 h1 := by
    rw [eh1, ea0]
    skip
    exact ⟨(put_other nxd).trans ((put_other (Ne.symm ndx)).trans put_same), put_same, ⟨0, (put_other ndd).trans put_same⟩, List.nodup_nil, nofun, nofun, nofun, nofun, nofun, nofun⟩
  have s0 : ∀ b o, h0 b = some o → hp b = some o := by rw [ehp]; exact sub_upd nd (sub_upd hd0 (sub_upd nx (sub_upd nd fun _ _ e => e)))
  have s1 : ∀ b o, h1 b = some o → hp b = some o := by
    rw [ehp, eh1]; exact put_mono (put_mono (put_mono fun _ _ e => by cases e))
  have dj : ∀ b, h0 b ≠ none → h1 b = none := by
    intro b hb
    rw [eh1, put_other (show b ≠ dx from fun e => hb (e ▸ nd)), put_other (show b ≠ dd from fun e => hb (e ▸ hd0)), put_other (show b ≠ x from fun e => hb (e ▸ nx))]
  have ex0 : a0.x = x := by rw [ea0]
  clear ehp eh1 ea0 hdd hx hdx
  refine m_abs fun Zq0 hZq0 => ?_
  refine m_cons ?_
  refine m_then (P := fun σ' => ∃ a h1, a.x = x ∧ Rep a (build G) h1 ∧ (∀ b o, h0 b = some o → σ'.h b = some o) ∧ (∀ b o, h1 b = some o → σ'.h b = some o) ∧ ∀ b, h0 b ≠ none → h1 b = none) ?_ ?_
  · refine m_ForItems (kv := kyV) ky_out (hh _) ?_
    have hG' := s0 _ _ hG
    refine m_abs fun Zq1 hZq1 => ?_
    refine m_Method ?_
    refine evR (EvP.nm (v := .ref _) (by rfl)) ?_
    refine m_methDict (by walk_at "hl") PySem.F.slot_dict_items PySem.F.type_dict_items ?_
    refine m_callB0 ?_
    refine m_dictItems Z.sys hG' fun vw hvw => ?_
    have hvw : hp vw = none := hvw
    refine hZq1 _ _ ?_
    refine ⟨dN, vw, _, ep, rfl, sub_put hvw hG', put_same, fun i σ' => ∃ a h1 hp, a.x = x ∧ Rep a ((G.take i).foldl addG SS0) h1 ∧ Fit σ' (names [("self", .ref x)]) hp ∧ (∀ b o, h0 b = some o → hp b = some o) ∧ (∀ b o, h1 b = some o → hp b = some o) ∧ ∀ b, h0 b ≠ none → h1 b = none,
      ⟨a0, h1, hp, ex0, r1, ⟨by walk_at "ms_sub", put_sub hvw⟩, s0, s1, dj⟩, ?_, ?_, ?_⟩
    · rintro i σ' ⟨a, h1, hp, _, _, hf, q0, _, _⟩; exact hf.2 _ _ (q0 _ _ hG)
    · rintro i k y σ' I ob hb hy ⟨a, h1, hp, ex, r, hf, q0, q1, qd⟩
      obtain ⟨g, hg, eg⟩ := map_get hy
      cases eg
      have hgl := hl g (List.mem_of_getElem? hg)
      refine m_weak (m' := names [("self", .ref x), ("node", kyV g.1), ("predecessors", .ref g.2.1)]) (h' := hp) ?_ hf.2 ?_
      · refine Sub.cons (hf.1 "self" _ rfl) (by walk_at "ms_sub")
      clear hf
      have hx := q1 _ _ r.hx
      have hdx := q1 _ _ r.hdx
      rw [ex] at hx
      unfold fieldsOf at hdx
      refine m_abs fun Zq2 hZq2 => ?_
      refine m_cons ?_
      refine m_Expr ?_
      refine m_MethodStar ?_
      refine evR (EvP.nm (v := .ref _) (by rfl)) ?_
      refine m_bound (f := 87) (Here.X (by assumption)) (by walk_at "hl") (by walk_at "hl") (by rfl) fun qb hqb => ?_
      have hqb : hp qb = none := hqb
      refine m_callMstar (f := 87) (x := x) Z ?_
      refine m_splE ?_
      refine evI (EvP.nm (v := .int _) (by rfl)) fun _ => ?_
      refine m_splStar ?_
      refine evR (EvP.nm (v := .ref _) (by rfl)) ?_
      refine ⟨_, _, rfl, sub_put hqb (q0 _ _ hgl.1), by rw [List.length_map]; exact Nat.le_trans hgl.2 (by decide), fun vs hvs => ⟨put_same, ?_⟩⟩
      have h1q : h1 qb = none := none_sub q1 hqb
      obtain ⟨z1, z2, z3⟩ := addG_size (G.take i) SS0 0 (fun j hj => by cases hj) fun g' hg' => (hl g' (List.mem_of_mem_take hg')).2
      have hti : (G.take i).length ≤ 40 := Nat.le_trans (by rw [List.length_take]; omega) hGl
      have z1 : ((G.take i).foldl addG SS0).ord.length ≤ 11 * (G.take i).length := by simpa [SS0] using z1
      have hg10 := hgl.2
      refine mwp_mono (m_aside (h0 := put h1 qb (.bound 87 x)) (Q := fun v σ' => ∃ a', a'.x = x ∧ Rep a' ((G.take (i + 1)).foldl addG SS0) σ'.h ∧ σ'.m = names [("self", .ref x), ("node", kyV g.1), ("predecessors", .ref g.2.1)]) (put_mono q1) fun B' sub' => m_callBound put_same ?_) ?_
      · rw [← ex]
        refine c_add (k := g.1) (ps := g.2.2) (a := a) (S := (G.take i).foldl addG SS0) (r.fresh h1q) z3 (by omega) (fun j hj => by have := z2 j hj; omega) hvs Z (hA.deeper _) fun a' h' ea r' => ⟨a', ea, ?_, rfl⟩
        rw [take_snoc hg, List.foldl_append]; exact r'
      · rintro v σ' ⟨σ₁, ⟨a', ea, r', em⟩, em', k1, k2, k3⟩
        rw [em] at em'
        obtain ⟨m1, hp1⟩ := σ'
        cases em'
        refine m_nil ?_
        refine hZq2 _ _ ?_
        have hne : ∀ b, h0 b ≠ none → hp b ≠ none ∧ b ≠ qb := fun b hb => by
          cases z : h0 b with
          | none => exact absurd z hb
          | some o => have := q0 b o z; exact ⟨by rw [this]; exact nofun, ne_none this hqb⟩
        skip
        refine ⟨a', σ₁.h, hp1, ea, r', by walk_at "ms_fit", fun b o e => ?_, k1, fun b hb => ?_⟩
        · obtain ⟨_, nb⟩ := hne b (by rw [e]; exact nofun)
          exact k2 b o ((put_other nb).trans (q0 b o e)) ((put_other nb).trans (qd b (by rw [e]; exact nofun)))
        · obtain ⟨nh, nb⟩ := hne b hb
          exact k3 b (by show put hp qb _ b ≠ none; rw [put_other nb]; exact nh) ((put_other nb).trans (qd b hb))
    · rintro σ' ⟨a, h1, hp, ex, r, hf, q0, q1, qd⟩
      rw [List.length_map, List.take_length] at r
      skip
      exact ⟨rfl, a, h1, ex, r, fun b o e => hf.2 _ _ (q0 b o e), fun b o e => hf.2 _ _ (q1 b o e), qd⟩
  · rintro σ' ⟨a, h1, ex, r, q0, q1, qd⟩
    refine m_nil ?_
    refine hZq0 _ _ ?_
    refine m_nil ?_
    exact ⟨_, fun _ _ e => e, h a h1 _ ex r q0 q1 qd⟩
end
end Mine
end
section
open PySem PySem.W PyProof.Rows PySem.SeqAt
set_option maxHeartbeats 1000000
namespace Mine
structure En where
  k : Ky
  c : Nat
  nx : Addr
  it : Addr
structure Dfs (h0 : Addr → Option (O Ky)) (aL : Ky → Addr) (Ds Di De Dd : Addr) (ks : List Ky) (nxs : List Addr) (tp : List En) (seen : Ky → Bool) (n : Nat) (dl : List (Ky × V)) (hp : Addr → Option (O Ky)) : Prop where
  sub : ∀ b o, h0 b = some o → hp b = some o
  hs : hp Ds = some (.list (ks.map kyV))
  hi : hp Di = some (.list (nxs.map V.ref))
  he : hp De = some (.set seen n)
  hd : ∃ ep, hp Dd = some (.dict dl ep)
  its : ∀ e ∈ tp, hp e.nx = some (.nxt e.it) ∧ hp e.it = some (.liter (aL e.k) e.c) ∧ h0 e.it = none
  nit : (tp.map (·.it)).Nodup
  nSI : Ds ≠ Di
  n0 : h0 Ds = none ∧ h0 Di = none ∧ h0 De = none ∧ h0 Dd = none
section
variable {h0 hp : Addr → Option (O Ky)} {aL : Ky → Addr} {Ds Di De Dd X : Addr} {ks : List Ky} {nxs : List Addr} {tp : List En} {seen : Ky → Bool} {n : Nat} {dl : List (Ky × V)} {o : O Ky}
theorem Dfs.fresh (d : Dfs h0 aL Ds Di De Dd ks nxs tp seen n dl hp) (hX : hp X = none) : Dfs h0 aL Ds Di De Dd ks nxs tp seen n dl (put hp X o) :=
  ⟨fun b o e => sub_put hX (d.sub b o e), sub_put hX d.hs, sub_put hX d.hi, sub_put hX d.he, let ⟨ep, e⟩ := d.hd; ⟨ep, sub_put hX e⟩, fun e he => ⟨sub_put hX (d.its e he).1, sub_put hX (d.its e he).2.1, (d.its e he).2.2⟩, d.nit, d.nSI, d.n0⟩
theorem Dfs.setSeen (d : Dfs h0 aL Ds Di De Dd ks nxs tp seen n dl hp) {seen' : Ky → Bool} {n' : Nat} : Dfs h0 aL Ds Di De Dd ks nxs tp seen' n' dl (put hp De (.set seen' n')) :=
  ⟨sub_upd d.n0.2.2.1 d.sub, put_diff d.hs d.he (by intro q; cases q), put_diff d.hi d.he (by intro q; cases q), put_same, let ⟨ep, e⟩ := d.hd; ⟨ep, put_diff e d.he (by intro q; cases q)⟩,
    fun e he => ⟨put_diff (d.its e he).1 d.he (by intro q; cases q), put_diff (d.its e he).2.1 d.he (by intro q; cases q), (d.its e he).2.2⟩, d.nit, d.nSI, d.n0⟩
theorem Dfs.setD (d : Dfs h0 aL Ds Di De Dd ks nxs tp seen n dl hp) {dl' : List (Ky × V)} {ep : Nat} : Dfs h0 aL Ds Di De Dd ks nxs tp seen n dl' (put hp Dd (.dict dl' ep)) := by
  obtain ⟨ep0, e0⟩ := d.hd
  exact ⟨sub_upd d.n0.2.2.2 d.sub, put_diff d.hs e0 (by intro q; cases q), put_diff d.hi e0 (by intro q; cases q), put_diff d.he e0 (by intro q; cases q), ⟨ep, put_same⟩,
    fun e he => ⟨put_diff (d.its e he).1 e0 (by intro q; cases q), put_diff (d.its e he).2.1 e0 (by intro q; cases q), (d.its e he).2.2⟩, d.nit, d.nSI, d.n0⟩
theorem Dfs.setKs (d : Dfs h0 aL Ds Di De Dd ks nxs tp seen n dl hp) {ks' : List Ky} : Dfs h0 aL Ds Di De Dd ks' nxs tp seen n dl (put hp Ds (.list (ks'.map kyV))) :=
  ⟨sub_upd d.n0.1 d.sub, put_same, (put_other (Ne.symm d.nSI)).trans d.hi, put_diff d.he d.hs (by intro q; cases q), let ⟨ep, e⟩ := d.hd; ⟨ep, put_diff e d.hs (by intro q; cases q)⟩,
    fun e he => ⟨put_diff (d.its e he).1 d.hs (by intro q; cases q), put_diff (d.its e he).2.1 d.hs (by intro q; cases q), (d.its e he).2.2⟩, d.nit, d.nSI, d.n0⟩
theorem Dfs.setNxs (d : Dfs h0 aL Ds Di De Dd ks nxs tp seen n dl hp) {nxs' : List Addr} : Dfs h0 aL Ds Di De Dd ks nxs' tp seen n dl (put hp Di (.list (nxs'.map V.ref))) :=
  ⟨sub_upd d.n0.2.1 d.sub, (put_other d.nSI).trans d.hs, put_same, put_diff d.he d.hi (by intro q; cases q), let ⟨ep, e⟩ := d.hd; ⟨ep, put_diff e d.hi (by intro q; cases q)⟩,
    fun e he => ⟨put_diff (d.its e he).1 d.hi (by intro q; cases q), put_diff (d.its e he).2.1 d.hi (by intro q; cases q), (d.its e he).2.2⟩, d.nit, d.nSI, d.n0⟩
theorem Dfs.enter (d : Dfs h0 aL Ds Di De Dd ks nxs tp seen n dl hp) {k : Ky} {it nx : Addr} (h1 : hp it = none) (h2 : put hp it (.liter (aL k) 0) nx = none) :
    Dfs h0 aL Ds Di De Dd ks nxs (⟨k, 0, nx, it⟩ :: tp) seen n dl (put (put hp it (.liter (aL k) 0)) nx (.nxt it)) := by
  have d2 := (d.fresh (o := .liter (aL k) 0) h1).fresh (o := .nxt it) h2
  refine ⟨d2.sub, d2.hs, d2.hi, d2.he, d2.hd, fun e he => ?_, ?_, d.nSI, d.n0⟩
  · rcases List.mem_cons.mp he with rfl | he
    · exact ⟨put_same, sub_put h2 put_same, none_sub d.sub h1⟩
    · exact d2.its e he
  · rw [List.map_cons, List.nodup_cons]
    refine ⟨fun hm => ?_, d.nit⟩
    obtain ⟨e, he, q⟩ := List.mem_map.mp hm
    have q : e.it = it := q
    have := (d.its e he).2.1
    rw [q, h1] at this; cases this
theorem Dfs.step {e : En} (d : Dfs h0 aL Ds Di De Dd ks nxs (e :: tp) seen n dl hp) : Dfs h0 aL Ds Di De Dd ks nxs (⟨e.k, e.c + 1, e.nx, e.it⟩ :: tp) seen n dl (put hp e.it (.liter (aL e.k) (e.c + 1))) := by
  have ht := (d.its e List.mem_cons_self)
  refine ⟨sub_upd ht.2.2 d.sub, put_diff d.hs ht.2.1 (by intro q; cases q), put_diff d.hi ht.2.1 (by intro q; cases q), put_diff d.he ht.2.1 (by intro q; cases q), let ⟨ep, q⟩ := d.hd; ⟨ep, put_diff q ht.2.1 (by intro q; cases q)⟩, fun e' he => ?_, d.nit, d.nSI, d.n0⟩
  rcases List.mem_cons.mp he with rfl | he
  · exact ⟨put_diff ht.1 ht.2.1 (by intro q; cases q), put_same, ht.2.2⟩
  · obtain ⟨i1, i2, i3⟩ := d.its e' (List.mem_cons_of_mem _ he)
    refine ⟨put_diff i1 ht.2.1 (by intro q; cases q), (put_other fun q => ?_).trans i2, i3⟩
    have := d.nit
    rw [List.map_cons, List.nodup_cons] at this
    exact this.1 (List.mem_map.mpr ⟨e', he, q⟩)
theorem Dfs.drop {e : En} (d : Dfs h0 aL Ds Di De Dd ks nxs (e :: tp) seen n dl hp) : Dfs h0 aL Ds Di De Dd ks nxs tp seen n dl (fun b => if b = e.it then none else hp b) := by
  have ht := (d.its e List.mem_cons_self)
  have ne : ∀ {b o}, hp b = some o → o ≠ .liter (aL e.k) e.c → (if b = e.it then none else hp b) = some o := fun {b o} h1 h2 => by
    rw [if_neg (fun q => h2 (by rw [q, ht.2.1] at h1; exact (Option.some.inj h1).symm))]; exact h1
  refine ⟨fun b o q => ?_, ne d.hs (by intro q; cases q), ne d.hi (by intro q; cases q), ne d.he (by intro q; cases q), let ⟨ep, q⟩ := d.hd; ⟨ep, ne q (by intro q; cases q)⟩, fun e' he => ?_, (List.nodup_cons.mp d.nit).2, d.nSI, d.n0⟩
  · show (if b = e.it then none else hp b) = some o
    rw [if_neg (fun z => by rw [z, ht.2.2] at q; cases q)]; exact d.sub b o q
  · obtain ⟨i1, i2, i3⟩ := d.its e' (List.mem_cons_of_mem _ he)
    refine ⟨ne i1 (by intro q; cases q), ?_, i3⟩
    rw [if_neg fun q => (List.nodup_cons.mp d.nit).1 (List.mem_map.mpr ⟨e', he, q⟩)]; exact i2
end

noncomputable def GoodFrom (su : Ky → List Ky) (fin : List Ky) (x : Ky) : List En → Prop
  | [] => True
  | e :: r => (1 ≤ e.c ∧ (su e.k)[e.c - 1]? = some x ∧ ∀ j s, j < e.c - 1 → (su e.k)[j]? = some s → s ∈ fin) ∧ GoodFrom su fin e.k r
noncomputable def Topo (su : Ky → List Ky) (fin : List Ky) : Prop := ∃ rk : Ky → Nat, (∀ k ∈ fin, rk k < fin.length) ∧ ∀ k ∈ fin, ∀ s ∈ su k, s ∈ fin ∧ rk s < rk k
theorem GoodFrom.mono {su : Ky → List Ky} {fin fin' : List Ky} (h : ∀ k ∈ fin, k ∈ fin') : ∀ {x : Ky} {tp : List En}, GoodFrom su fin x tp → GoodFrom su fin' x tp
  | _, [], _ => trivial
  | _, e :: r, ⟨⟨h1, h2, h3⟩, h4⟩ => ⟨⟨h1, h2, fun j s hj hs => h s (h3 j s hj hs)⟩, h4.mono h⟩
theorem Topo.snoc {su : Ky → List Ky} {fin : List Ky} {k : Ky} (t : Topo su fin) (hk : ∀ s ∈ su k, s ∈ fin) (hn : k ∉ fin) : Topo su (fin ++ [k]) := by
  obtain ⟨rk, h1, h2⟩ := t
  refine ⟨fun j => if j = k then fin.length else rk j, fun j hj => ?_, fun j hj s hs => ?_⟩
  · rw [List.length_append, List.length_singleton]
    show (if j = k then _ else _) < _
    split
    · omega
    · rename_i q
      rcases List.mem_append.mp hj with hj | hj
      · have := h1 j hj; omega
      · exact absurd (List.mem_singleton.mp hj) q
  · show s ∈ fin ++ [k] ∧ (if s = k then _ else _) < (if j = k then _ else _)
    rcases List.mem_append.mp hj with hj | hj
    · obtain ⟨a1, a2⟩ := h2 j hj s hs
      have e1 : s ≠ k := fun q => hn (q ▸ a1)
      have e2 : j ≠ k := fun q => hn (q ▸ hj)
      rw [if_neg e1, if_neg e2]
      exact ⟨List.mem_append_left _ a1, a2⟩
    · have ej := List.mem_singleton.mp hj
      subst ej
      have hs' := hk s hs
      have e1 : s ≠ j := fun q => hn (q ▸ hs')
      rw [if_neg e1, if_pos rfl]
      exact ⟨List.mem_append_left _ hs', h1 s hs'⟩
noncomputable def unsum (ord : List Ky) (seen : Ky → Bool) (f : Ky → Nat) : Nat := ((ord.filter fun k => !seen k).map f).sum
theorem unsum_see {seen : Ky → Bool} {f : Ky → Nat} {k : Ky} (hs : seen k = false) : ∀ {ord : List Ky}, ord.Nodup → k ∈ ord → unsum ord seen f = unsum ord (fun j => seen j || decide (j = k)) f + f k
  | [], _, h => by cases h
  | j :: r, nd, h => by
    have nd' := List.nodup_cons.mp nd
    unfold unsum
    rw [List.filter_cons, List.filter_cons]
    by_cases e : j = k
    · subst e
      have e2 : r.filter (fun k => !(seen k || decide (k = j))) = r.filter fun k => !seen k := by
        refine List.filter_congr fun x hx => ?_
        have : x ≠ j := fun q => nd'.1 (q ▸ hx)
        simp [this]
      rw [if_pos (by simp [hs]), if_neg (by simp), e2, List.map_cons, List.sum_cons]; omega
    · have hk : k ∈ r := by rcases List.mem_cons.mp h with q | q; exact absurd q.symm e; exact q
      have ih := unsum_see (f := f) hs nd'.2 hk
      unfold unsum at ih
      cases z : seen j with
      | true => rw [if_neg (by simp [z]), if_neg (by simp [z])]; exact ih
      | false =>
        rw [if_pos (by simp [z]), if_pos (by simp [e, z]), List.map_cons, List.map_cons, List.sum_cons, List.sum_cons, ih]; omega
noncomputable def stsum (su : Ky → List Ky) (tp : List En) : Nat := (tp.map fun e => (su e.k).length - e.c + 1).sum
end Mine
end
section
open PySem PySem.W PyProof.Rows PySem.SeqAt
set_option maxHeartbeats 1000000
namespace Mine
theorem dGet_nil {k : Ky} : dGet ([] : List (Ky × V)) k = none := rfl
theorem dGet_cons {j k : Ky} {v : V} {dl : List (Ky × V)} : dGet ((j, v) :: dl) k = if j = k then some v else dGet dl k := by
  unfold dGet; rw [List.find?_cons]
  by_cases e : j = k
  · simp [e]
  · simp [e]
theorem dGet_app {k j : Ky} {v : V} : ∀ {dl : List (Ky × V)}, dGet (dl ++ [(k, v)]) j = if (dGet dl j).isSome then dGet dl j else if k = j then some v else none
  | [] => by rw [List.nil_append, dGet_cons, dGet_nil]; simp
  | (a, b) :: r => by
    rw [List.cons_append, dGet_cons, dGet_cons]
    by_cases e : a = j
    · simp [e]
    · rw [if_neg e, if_neg e]; exact dGet_app
theorem dGet_any {k : Ky} : ∀ {dl : List (Ky × V)}, dl.any (fun kv => kv.1 = k) = (dGet dl k).isSome
  | [] => rfl
  | (a, b) :: r => by
    rw [List.any_cons, dGet_cons, dGet_any]
    by_cases e : a = k
    · simp [e]
    · simp [e]
theorem dPut_new' {k : Ky} {v : V} {dl : List (Ky × V)} (h : dGet dl k = none) : dPut dl k v = dl ++ [(k, v)] := by
  unfold dPut
  rw [if_neg]
  rw [dGet_any, h]; exact Bool.false_ne_true
theorem dGet_filter {k j : Ky} : ∀ {dl : List (Ky × V)}, dGet (dl.filter fun kv => decide (kv.1 ≠ k)) j = if j = k then none else dGet dl j
  | [] => by rw [List.filter_nil, dGet_nil]; split <;> rfl
  | (a, b) :: r => by
    rw [List.filter_cons]
    by_cases e : a = k
    · subst e
      rw [if_neg (by simp), dGet_filter, dGet_cons]
      by_cases q : j = a
      · rw [if_pos q, if_pos q]
      · rw [if_neg q, if_neg q, if_neg (Ne.symm q)]
    · rw [if_pos (by simpa using e), dGet_cons, dGet_cons, dGet_filter]
      by_cases q : j = k
      · subst q; rw [if_pos rfl, if_neg e, if_pos rfl]
      · rw [if_neg q, if_neg q]
theorem unsum_none {ord : List Ky} : 0 + unsum ord (fun _ => false) (fun _ => 1) = ord.length := by
  unfold unsum
  induction ord with
  | nil => rfl
  | cons a r ih => rw [List.filter_cons, if_pos (by rfl), List.map_cons, List.sum_cons, List.length_cons]; omega
structure Log (S : SS) (tp : List En) (fin : List Ky) (seen : Ky → Bool) (n : Nat) (dl : List (Ky × V)) : Prop where
  sn : ∀ k, seen k = true ↔ (k ∈ fin ∨ k ∈ tp.map (·.k))
  topo : Topo S.su fin
  nk : (tp.map (·.k)).Nodup
  dj : ∀ k ∈ fin, k ∉ tp.map (·.k)
  ino : ∀ e ∈ tp, e.k ∈ S.ord
  cnt : n + unsum S.ord seen (fun _ => 1) = S.ord.length
  d1 : ∀ k, (dGet dl k).isSome = true → k ∈ tp.map (·.k)
  d2 : ∀ (j : Nat) (e : En), tp[j]? = some e → dGet dl e.k = some (.int (((tp.length - 1 - j : Nat)) : Int))
  d3 : dl.length ≤ n
  tl : tp.length ≤ n
section
variable {S : SS} {tp : List En} {fin : List Ky} {seen : Ky → Bool} {n : Nat} {dl : List (Ky × V)} {e : En}
theorem Log.le (g : Log S tp fin seen n dl) : n ≤ S.ord.length := by have := g.cnt; omega
theorem Log.start : Log S [] [] (fun _ => false) 0 [] :=
  ⟨fun k => by simp, ⟨fun _ => 0, fun k hk => (by cases hk), fun k hk => (by cases hk)⟩, List.nodup_nil, fun k hk => (by cases hk), fun e he => (by cases he), unsum_none, fun k h => (by cases h), fun j e h => by simp at h, by simp, by simp⟩
theorem Log.step (g : Log S (e :: tp) fin seen n dl) {c nx it} : Log S (⟨e.k, c, nx, it⟩ :: tp) fin seen n dl :=
  ⟨g.sn, g.topo, g.nk, g.dj, fun e' he => by
    rcases List.mem_cons.mp he with rfl | he
    · exact g.ino e List.mem_cons_self
    · exact g.ino e' (List.mem_cons_of_mem _ he), g.cnt, g.d1, fun j e' h => by
    cases j with
    | zero => simp at h; subst h; exact g.d2 0 e rfl
    | succ j => exact g.d2 (j + 1) e' (by simpa using h), g.d3, g.tl⟩
theorem Log.push (g : Log S tp fin seen n dl) (nd : S.ord.Nodup) {k : Ky} (hk : k ∈ S.ord) (hs : seen k = false) {nx it : Addr} :
    Log S (⟨k, 0, nx, it⟩ :: tp) fin (fun j => seen j || decide (j = k)) (n + 1) (dPut dl k (.int (tp.length : Nat))) := by
  have hn : k ∉ fin ∧ k ∉ tp.map (·.k) := by
    constructor
    · intro q; have := (g.sn k).mpr (.inl q); rw [hs] at this; cases this
    · intro q; have := (g.sn k).mpr (.inr q); rw [hs] at this; cases this
  have hd : dGet dl k = none := by
    cases z : dGet dl k with
    | none => rfl
    | some v => exact absurd (g.d1 k (by rw [z]; rfl)) hn.2
  rw [dPut_new' hd]
  refine ⟨fun j => ?_, g.topo, ?_, fun j hj => ?_, fun e he => ?_, ?_, fun j hj => ?_, fun j e he => ?_, by rw [List.length_append]; have := g.d3; simp; exact this, by have := g.tl; simp; exact this⟩
  · rw [Bool.or_eq_true, g.sn j, decide_eq_true_eq, List.map_cons, List.mem_cons]
    constructor
    · rintro ((h | h) | h)
      · exact .inl h
      · exact .inr (.inr h)
      · exact .inr (.inl h)
    · rintro (h | h | h)
      · exact .inl (.inl h)
      · exact .inr h
      · exact .inl (.inr h)
  · rw [List.map_cons, List.nodup_cons]; exact ⟨hn.2, g.nk⟩
  · rw [List.map_cons, List.mem_cons]
    rintro (h | h)
    · exact hn.1 ((show j = k from h) ▸ hj)
    · exact g.dj j hj h
  · rcases List.mem_cons.mp he with rfl | he
    · exact hk
    · exact g.ino e he
  · have := unsum_see (f := fun _ => 1) hs nd hk
    have := g.cnt
    omega
  · rw [dGet_app] at hj
    rw [List.map_cons, List.mem_cons]
    by_cases q : j = k
    · exact .inl q
    · refine .inr (g.d1 j ?_)
      cases z : dGet dl j with
      | none => rw [z, if_neg (by simp), if_neg (Ne.symm q)] at hj; cases hj
      | some v => rfl
  · rw [dGet_app]
    cases j with
    | zero =>
      simp at he
      subst he
      rw [hd, if_neg (by simp), if_pos rfl]; simp
    | succ j =>
      have he : tp[j]? = some e := by simpa using he
      have := g.d2 j e he
      rw [this, if_pos (by rfl), List.length_cons]
      have hl := (List.getElem?_eq_some_iff.mp he).1
      congr 2
      omega
theorem Log.pop (g : Log S (e :: tp) fin seen n dl) (h : ∀ s ∈ S.su e.k, s ∈ fin) : Log S tp (fin ++ [e.k]) seen n (dl.filter fun kv => decide (kv.1 ≠ e.k)) := by
  have nk := List.nodup_cons.mp g.nk
  have hf : e.k ∉ fin := fun q => g.dj _ q (by rw [List.map_cons]; exact List.mem_cons_self)
  refine ⟨fun k => ?_, g.topo.snoc h hf, nk.2, fun k hk hm => ?_, fun e' he => g.ino e' (List.mem_cons_of_mem _ he), g.cnt, fun k hk => ?_, fun j e' he => ?_, Nat.le_trans (List.length_filter_le _ _) g.d3, by have := g.tl; rw [List.length_cons] at this; omega⟩
  · rw [g.sn k, List.map_cons, List.mem_cons, List.mem_append, List.mem_singleton]
    constructor
    · rintro (q | q | q)
      · exact .inl (.inl q)
      · exact .inl (.inr q)
      · exact .inr q
    · rintro ((q | q) | q)
      · exact .inl q
      · exact .inr (.inl q)
      · exact .inr (.inr q)
  · rcases List.mem_append.mp hk with hk | hk
    · exact g.dj k hk (by rw [List.map_cons]; exact List.mem_cons_of_mem _ hm)
    · rw [List.mem_singleton.mp hk] at hm; exact nk.1 hm
  · rw [dGet_filter] at hk
    by_cases q : k = e.k
    · rw [if_pos q] at hk; cases hk
    · rw [if_neg q] at hk
      have := g.d1 k hk
      rw [List.map_cons, List.mem_cons] at this
      exact this.resolve_left q
  · have hm : e'.k ∈ tp.map (·.k) := List.mem_map.mpr ⟨e', List.mem_of_getElem? he, rfl⟩
    rw [dGet_filter, if_neg (show ¬ e'.k = e.k from fun q => nk.1 (by show e.k ∈ _; rw [← q]; exact hm))]
    have := g.d2 (j + 1) e' (by simpa using he)
    rw [this, List.length_cons]
    congr 2
    omega
end
end Mine
end
section
open PySem PySem.W PyProof.Rows PySem.SeqAt
set_option maxHeartbeats 1000000
namespace Mine
noncomputable def Acyc (S : SS) : Prop := ∃ rk : Ky → Nat, ∀ k ∈ S.ord, ∀ s ∈ S.su k, rk s < rk k
noncomputable def InGood (su : Ky → List Ky) (fin : List Ky) : List En → Prop
  | [] => True
  | e :: r => (∀ j s, j < e.c → (su e.k)[j]? = some s → s ∈ fin) ∧ GoodFrom su fin e.k r
noncomputable def nxsOf (tp : List En) : List Addr := (tp.map (·.nx)).reverse
noncomputable def ksOf (tp : List En) : List Ky := (tp.map (·.k)).reverse
noncomputable def mu (S : SS) (seen : Ky → Bool) (tp : List En) : Nat := unsum S.ord seen (fun k => (S.su k).length + 2) + stsum S.su tp
inductive CyR (S : SS) (h0 : Addr → Option (O Ky)) (v : Value) (σ' : MS Ky) : Prop
  | mk (D : Addr) (xs : List V) (e : v = .ref D) (h1 : ¬ Acyc S) (h2 : xs ≠ []) (h3 : xs.length ≤ 2000) (h4 : h0 D = none) (h5 : ∀ b o, h0 b = some o → σ'.h b = some o) (h6 : σ'.h D = some (.list xs))
inductive CyFor (S : SS) (a : Ad) (h0 : Addr → Option (O Ky)) (Ds Di De Dd : Addr) (i : Nat) (σ' : MS Ky) : Prop
  | mk (hp : Addr → Option (O Ky)) (fin : List Ky) (seen : Ky → Bool) (n : Nat) (dl : List (Ky × V)) (hf : Fit σ' (names [("n2i", .ref a.dd), ("stack", .ref Ds), ("itstack", .ref Di), ("seen", .ref De), ("node2stacki", .ref Dd)]) hp) (d : Dfs h0 a.aL Ds Di De Dd [] [] [] seen n dl hp) (g : Log S [] fin seen n dl) (se : ∀ k ∈ S.ord.take i, seen k = true)
inductive CyP1 (S : SS) (a : Ad) (h0 : Addr → Option (O Ky)) (Ds Di De Dd : Addr) (seen : Ky → Bool) (k : Ky) (σ' : MS Ky) : Prop
  | mk (hp : Addr → Option (O Ky)) (fin : List Ky) (seen' : Ky → Bool) (n : Nat) (dl : List (Ky × V)) (hf : Fit σ' (names [("n2i", .ref a.dd), ("stack", .ref Ds), ("itstack", .ref Di), ("seen", .ref De), ("node2stacki", .ref Dd)]) hp) (d : Dfs h0 a.aL Ds Di De Dd [] [] [] seen' n dl hp) (g : Log S [] fin seen' n dl) (hs : ∀ j, seen j = true → seen' j = true) (hk : seen' k = true)
inductive CyW1 (S : SS) (a : Ad) (h0 : Addr → Option (O Ky)) (Ds Di De Dd : Addr) (seen : Ky → Bool) (k : Ky) (m : Nat) (σ' : MS Ky) : Prop
  | mk (hp : Addr → Option (O Ky)) (tp : List En) (fin : List Ky) (seen' : Ky → Bool) (n : Nat) (dl : List (Ky × V)) (x : Ky) (hf : Fit σ' (names [("n2i", .ref a.dd), ("stack", .ref Ds), ("itstack", .ref Di), ("seen", .ref De), ("node2stacki", .ref Dd), ("node", kyV x)]) hp) (d : Dfs h0 a.aL Ds Di De Dd ((tp.map (·.k)).reverse) ((tp.map (·.nx)).reverse) tp seen' n dl hp) (g : Log S tp fin seen' n dl) (gf : GoodFrom S.su fin x tp) (hxo : x ∈ S.ord)
    (hs : ∀ j, seen j = true → seen' j = true) (t0 : tp = [] → seen' x = false ∧ x = k) (t1 : tp ≠ [] → seen' k = true) (hm : m = mu S seen' tp)
inductive CyP2 (S : SS) (a : Ad) (h0 : Addr → Option (O Ky)) (Ds Di De Dd : Addr) (seen : Ky → Bool) (k : Ky) (m0 : Nat) (σ' : MS Ky) : Prop
  | mk (hp : Addr → Option (O Ky)) (tp' : List En) (fin : List Ky) (seen'' : Ky → Bool) (n : Nat) (dl : List (Ky × V)) (hf : Fit σ' (names [("n2i", .ref a.dd), ("stack", .ref Ds), ("itstack", .ref Di), ("seen", .ref De), ("node2stacki", .ref Dd)]) hp) (d : Dfs h0 a.aL Ds Di De Dd ((tp'.map (·.k)).reverse) ((tp'.map (·.nx)).reverse) tp' seen'' n dl hp) (g : Log S tp' fin seen'' n dl) (ig : InGood S.su fin tp')
    (hs : ∀ j, seen j = true → seen'' j = true) (hk : seen'' k = true) (hm : mu S seen'' tp' ≤ m0)
inductive CyW2 (S : SS) (a : Ad) (h0 : Addr → Option (O Ky)) (Ds Di De Dd : Addr) (seen : Ky → Bool) (k : Ky) (m0 : Nat) (m : Nat) (σ' : MS Ky) : Prop
  | mk (hp : Addr → Option (O Ky)) (tp' : List En) (fin : List Ky) (seen'' : Ky → Bool) (n : Nat) (dl : List (Ky × V)) (hf : Fit σ' (names [("n2i", .ref a.dd), ("stack", .ref Ds), ("itstack", .ref Di), ("seen", .ref De), ("node2stacki", .ref Dd)]) hp) (d : Dfs h0 a.aL Ds Di De Dd (ksOf tp') (nxsOf tp') tp' seen'' n dl hp) (g : Log S tp' fin seen'' n dl) (ig : InGood S.su fin tp')
    (hs : ∀ j, seen j = true → seen'' j = true) (hk : seen'' k = true) (hm : mu S seen'' tp' ≤ m0) (hm' : m = mu S seen'' tp')
theorem GoodFrom.rank' {su : Ky → List Ky} {fin ord : List Ky} {rk : Ky → Nat} (hr : ∀ k ∈ ord, ∀ s ∈ su k, rk s < rk k) : ∀ {x : Ky} {tp : List En}, (∀ e ∈ tp, e.k ∈ ord) → GoodFrom su fin x tp → ∀ e ∈ tp, rk x < rk e.k
  | _, [], _, _, e, he => by cases he
  | x, e :: r, hin, ⟨⟨h1, h2, h3⟩, h4⟩, e', he => by
    have h5 := hr e.k (hin e List.mem_cons_self) x (List.mem_of_getElem? h2)
    rcases List.mem_cons.mp he with rfl | he
    · exact h5
    · exact Nat.lt_trans h5 (h4.rank' hr (fun e he => hin e (List.mem_cons_of_mem _ he)) e' he)
section
variable {prog : Program} {w : World} {Γ : Fx} {σ : MS Ky} {A : Around} {env : Env} {α : Type} {s : Shared} {Q : Value → MS Ky → Prop} {QB : Bool → MS Ky → Prop} {QU : Unit → MS Ky → Prop} {QF : Flow → MS Ky → Prop}
variable {p : Program} {loose : List Str} {mg mb : Str → Option Value} {t u v : Tok} {n : Nat} {l : Addr} {a : Ad} {S : SS} {k : Ky}
theorem m_notSys {α : Type} {c : Sem α} {Q : α → MS Ky → Prop} {d : Addr} {o : O Ky} (hs : ∃ o, Γ.base.get? sysModules = some o) (hd : σ.h d = some o) (h : (d == sysModules) = false → mwp (kyK prog w) Γ A c Q σ) : mwp (kyK prog w) Γ A c Q σ := by
  unfold mwp at *
  exact fun s E R => h (notSys R hs hd) s E R
theorem m_then' {c : Sem Flow} {P : MS Ky → Prop} {R : Value → MS Ky → Prop} (h : mwp (kyK prog w) Γ A c (fun fl σ' => (fl = .next ∧ P σ') ∨ ∃ v, fl = .ret v ∧ R v σ') σ) (k : ∀ σ', P σ' → QF .next σ') (k2 : ∀ v σ', R v σ' → QF (.ret v) σ') : mwp (kyK prog w) Γ A c QF σ :=
  mwp_mono h fun fl σ' z => by
    rcases z with ⟨rfl, z⟩ | ⟨v, rfl, z⟩
    · exact k σ' z
    · exact k2 v σ' z
theorem c_find_cycle (r : Rep a S σ.h) (hcl : ∀ k ∈ S.ord, ∀ s ∈ S.su k, s ∈ S.ord) (hsz : S.ord.length ≤ 1000) (F : Fits Γ A) (Z : Here (Mine.hd1.heap_1 w.params) p loose mg mb Γ.base) (hA : Dp A (n + 1))
    (h1 : Acyc S → Q .none σ) (h2 : ¬ Acyc S → ∀ D xs, xs ≠ [] → xs.length ≤ 2000 → σ.h D = none → Q (.ref D) (σ.set D (.list xs))) : mcode (kyK prog w) Γ A (.call (.ref 127) ⟨[.ref a.x], []⟩) Q σ := by
  refine c_fun ["self"] [.ref a.x] Z hA (.cons rfl .nil) ?_
  intro L'
  have hh : ∀ e, (A.deeper e).handled = none := fun e => hA.hd
  obtain ⟨outer, hfr, _⟩ := id F
  have hx := r.hx
  have hdx := r.hdx
  obtain ⟨ep, hdd⟩ := r.hdd
  unfold fieldsOf at hdx
  refine m_notSys (d := a.dd) Z.sys hdd fun hsys => ?_
  refine m_cons ?_
  refine m_AssignName ?_
  refine m_Attr ?_
  refine evR (EvP.nm (v := .ref _) (by rfl)) ?_
  first | refine m_attrR (Here.X (by assumption)) (by walk_at "hl") (by walk_at "hl") (by rfl) ?_ | refine m_attrI (Here.X (by assumption)) (by walk_at "hl") (by walk_at "hl") (by rfl) fun _ => ?_ | refine m_attrN (Here.X (by assumption)) (by walk_at "hl") (by walk_at "hl") (by rfl) ?_
  refine m_str' ?_
  refine m_cons ?_
  refine m_AssignName ?_
  refine m_List ?_
  refine m_splE0 ?_
  refine m_newList .nil (by decide) fun Ds hDs => ?_
  have hDs : σ.h Ds = none := hDs
  refine m_str' ?_
  refine m_cons ?_
  refine m_AssignName ?_
  refine m_List ?_
  refine m_splE0 ?_
  refine m_newList .nil (by decide) fun Di hDi => ?_
  have hDi : put σ.h Ds (.list []) Di = none := hDi
  refine m_str' ?_
  refine m_cons ?_
  refine m_AssignName ?_
  refine m_Call ?_
  refine m_Name ?_
  first | refine m_gK (by assumption) ?_ | refine m_gB (by assumption) ?_
  refine m_callT0 ?_
  refine m_setNew fun De hDe => ?_
  have hDe : put (put σ.h Ds (.list [])) Di (.list []) De = none := hDe
  refine m_str' ?_
  refine m_cons ?_
  refine m_AssignName ?_
  refine m_dict0 fun Dd hDd => ?_
  have hDd : put (put (put σ.h Ds (.list [])) Di (.list [])) De (.set (fun _ => false) 0) Dd = none := hDd
  refine m_str' ?_
  refine m_cons ?_
  have d0 : Dfs σ.h a.aL Ds Di De Dd [] [] [] (fun _ => false) 0 [] (put (put (put (put σ.h Ds (.list [])) Di (.list [])) De (.set (fun _ => false) 0)) Dd (.dict [] 0)) :=
    ⟨fun b o e => sub_put hDd (sub_put hDe (sub_put hDi (sub_put hDs e))), sub_put hDd (sub_put hDe (sub_put hDi put_same)), sub_put hDd (sub_put hDe put_same), sub_put hDd put_same, ⟨0, put_same⟩, fun e he => (by cases he), List.nodup_nil, (ne_put hDi).symm,
      hDs, none_put hDi, none_put (none_put hDe), none_put (none_put (none_put hDd))⟩
  refine m_weak (m' := names [("n2i", .ref a.dd), ("stack", .ref Ds), ("itstack", .ref Di), ("seen", .ref De), ("node2stacki", .ref Dd)]) (h' := put (put (put (put σ.h Ds (.list [])) Di (.list [])) De (.set (fun _ => false) 0)) Dd (.dict [] 0)) (by walk_at "ms_sub") (fun _ _ e => e) ?_
  revert d0
  generalize put (put (put (put σ.h Ds (.list [])) Di (.list [])) De (.set (fun _ => false) 0)) Dd (.dict [] 0) = hp0
  intro d0
  clear hDs hDi hDe hDd
  refine m_For ?_
  refine evR (EvP.nm (v := .ref _) (by rfl)) ?_
  refine ⟨_, _, _, yields_keys (hh _) ky_out hsys (kvs := S.ord.map fun k => (k, V.ref (a.aN k))) (ep := ep), CyFor S a σ.h Ds Di De Dd, ⟨hp0, [], _, 0, [], by walk_at "ms_fit", d0, Log.start, fun k hk => by simp at hk⟩, ?_, ?_, ?_⟩
  · rintro i σ' ⟨hp, fin, seen, n', dl, hf, d, g, _⟩; exact hf.2 _ _ (d.sub _ _ hdd)
  · rintro i y σ' I ob hb hy ⟨hp, fin, seen, n', dl, hf, d, g, hse⟩
    rw [List.map_map] at hy
    obtain ⟨k, hk, ey⟩ := map_get hy
    have ey : y = kyV k := ey
    subst ey
    have hko := List.mem_of_getElem? hk
    refine m_fitS hf ?_
    have he := d.he
    refine m_abs fun Zq0 hZq0 => ?_
    refine m_cons ?_
    refine m_If ?_
    refine m_isCompare ?_
    refine evI (EvP.nm (v := .int _) (by rfl)) fun _ => ?_
    refine evR (EvP.nm (v := .ref _) (by rfl)) ?_
    refine m_setIn he ky_is rfl ?_
    refine m_trBool ?_
    refine ite_of (fun e => ?_) fun e => ?_
    · refine m_abs fun Zq1 hZq1 => ?_
      refine m_cons ?_
      refine m_Continue ?_
      refine hZq1 _ _ ?_
      refine hZq0 _ _ ?_
      skip
      refine ⟨hp, fin, seen, n', dl, by walk_at "ms_fit", d, g, fun j hj => ?_⟩
      rw [take_snoc hk] at hj
      rcases List.mem_append.mp hj with hj | hj
      · exact hse j hj
      · rw [List.mem_singleton.mp hj]; exact e
    have hns : seen k = false := Bool.eq_false_iff.mpr e
    refine m_nil ?_
    refine m_cons ?_
    refine m_then' (P := CyP1 S a σ.h Ds Di De Dd seen k) (R := CyR S σ.h) ?_ ?_ ?_
    · refine m_While (I := CyW1 S a σ.h Ds Di De Dd seen k) (n := mu S seen []) ⟨hp, [], fin, seen, n', dl, k, by walk_at "ms_fit", d, g, trivial, hko, fun _ e => e, fun _ => ⟨hns, rfl⟩, fun e => absurd rfl e, rfl⟩ ?_
      rintro m σ' ⟨hp, tp, fin, seen', n', dl, x, hf, d, g, gf, hxo, hse', ht0, ht1, rfl⟩
      refine m_fit hf ?_
      have he := d.he
      obtain ⟨epd, hd⟩ := d.hd
      refine m_abs fun Zq1 hZq1 => ?_
      refine m_isValue ?_
      refine evB EvP.bool ?_
      refine m_trBool ?_
      refine hZq1 _ _ ?_
      skip
      refine itrue rfl ?_
      refine m_cons ?_
      refine m_then' (P := CyP2 S a σ.h Ds Di De Dd seen k (mu S seen' tp))
        (R := CyR S σ.h) ?_ ?_ (fun v σ' z => .inr ⟨v, rfl, z⟩)
      · refine m_If ?_
        refine m_abs fun Zq2 hZq2 => ?_
        refine m_isCompare ?_
        refine evI (EvP.nm (v := .int _) (by rfl)) fun _ => ?_
        refine evR (EvP.nm (v := .ref _) (by rfl)) ?_
        refine m_setIn he ky_is rfl ?_
        refine m_trBool ?_
        refine hZq2 _ _ ?_
        refine ite_of (fun e => ?_) fun e => ?_
        · refine m_abs fun Zq3 hZq3 => ?_
          refine m_cons ?_
          refine m_If ?_
          refine m_isCompare ?_
          refine evI (EvP.nm (v := .int _) (by rfl)) fun _ => ?_
          refine evR (EvP.nm (v := .ref _) (by rfl)) ?_
          refine m_dictIn Z.sys hd ky_is ?_
          refine m_trBool ?_
          have htp : tp ≠ [] := fun q => by have := (ht0 q).1; rw [e] at this; cases this
          refine ite_of (fun e2 => ?_) fun e2 => ?_
          · have hm := g.d1 x e2
            obtain ⟨ee, hee, eq⟩ := List.mem_map.mp hm
            have eq : ee.k = x := eq
            obtain ⟨jj, hjj⟩ := List.mem_iff_getElem?.mp hee
            have hv := g.d2 jj ee hjj
            rw [eq] at hv
            have hac : ¬ Acyc S := fun ⟨rk, hr⟩ => by
              have := gf.rank' hr g.ino ee hee
              rw [eq] at this; exact Nat.lt_irrefl _ this
            have hs := d.hs
            have htl := g.tl
            have hnl := g.le
            refine m_abs fun Zq4 hZq4 => ?_
            refine m_cons ?_
            refine m_Return ?_
            refine m_BinOp ?_
            refine m_SubSlice ?_
            refine evR (EvP.nm (v := .ref _) (by rfl)) ?_
            refine m_part ?_
            refine m_Sub ?_
            refine evR (EvP.nm (v := .ref _) (by rfl)) ?_
            refine evI (EvP.nm (v := .int _) (by rfl)) fun _ => ?_
            refine m_tailDict hd (m_dictGetItem hd ky_is hv fun v' hv' => ?_)
            obtain ⟨tv, rfl⟩ := hv'
            refine m_part0 ?_
            refine .inr ⟨Ds, _, rfl, hs, ?_, .inr ⟨_, _, rfl, rfl, fun D1 hD1 => ?_⟩⟩
            · rw [List.length_map, List.length_reverse, List.length_map]; exact Nat.le_trans (show tp.length ≤ 1000 by omega) (by decide)
            refine m_List ?_
            refine m_splE ?_
            refine evI (EvP.nm (v := .int _) (by rfl)) fun _ => ?_
            refine m_splE0 ?_
            refine m_newList (xs := [kyV x]) (.cons ⟨_, rfl⟩ .nil) (by show 1 ≤ sizeLine; decide) fun D2 hD2 => ?_
            have hD1 : hp D1 = none := hD1
            have hD2 : put hp D1 _ D2 = none := hD2
            skip
            refine m_addLists (l := D1) (l' := D2) (sub_put hD2 put_same) put_same ?_ fun D3 hD3 => ?_
            · rw [List.length_drop, List.length_map, List.length_reverse, List.length_map]
              exact Nat.le_trans (show tp.length - (tp.length - 1 - jj) + 1 ≤ 2000 by omega) (by decide)
            have hD3 : put (put hp D1 _) D2 _ D3 = none := hD3
            refine hZq4 _ _ ?_
            refine hZq3 _ _ ?_
            refine .inr ⟨_, rfl, D3, _, rfl, hac, ?_, ?_, none_sub d.sub (none_put (none_put hD3)), fun b o e => sub_put hD3 (sub_put hD2 (sub_put hD1 (d.sub b o e))), put_same⟩
            · exact List.append_ne_nil_of_right_ne_nil _ (by simp)
            · rw [List.length_append, List.length_drop, List.length_map, List.length_reverse, List.length_map, List.length_singleton]; omega
          · refine m_nil ?_
            refine m_nil ?_
            refine hZq3 _ _ ?_
            have hxf : x ∈ fin := by
              rcases (g.sn x).mp e with q | q
              · exact q
              · obtain ⟨ee, hee, eq⟩ := List.mem_map.mp q
                obtain ⟨jj, hjj⟩ := List.mem_iff_getElem?.mp hee
                have hv := g.d2 jj ee hjj
                have eq : ee.k = x := eq
                rw [eq] at hv
                rw [hv] at e2; exact absurd rfl e2
            skip
            refine .inl ⟨rfl, hp, tp, fin, seen', n', dl, by walk_at "ms_fit", d, g, ?_, hse', ht1 htp, Nat.le_refl _⟩
            cases tp with
            | nil => trivial
            | cons ee rr =>
              obtain ⟨⟨q1, q2, q3⟩, q4⟩ := gf
              skip
              refine ⟨fun j s hj hs => ?_, q4⟩
              by_cases z : j = ee.c - 1
              · subst z; rw [q2] at hs; cases hs; exact hxf
              · exact q3 j s (by omega) hs
        · have hns' : seen' x = false := Bool.eq_false_iff.mpr e
          refine m_abs fun Zq3 hZq3 => ?_
          refine m_cons ?_
          refine m_Expr ?_
          refine m_Method ?_
          refine evR (EvP.nm (v := .ref _) (by rfl)) ?_
          first | refine m_methSet (by walk_at "hl") ?_ | refine m_method (Here.X (by assumption)) (by walk_at "hl") (by walk_at "hl") (by rfl) ?_
          refine m_callB ?_
          refine m_splE ?_
          refine evI (EvP.nm (v := .int _) (by rfl)) fun _ => ?_
          refine m_splE0 ?_
          refine m_setAdd he ky_is rfl (by have := g.le; show n' + 1 < 4096; omega) ?_
          rw [hns', if_neg (by decide)]
          have d1 := d.setSeen (seen' := fun k' => seen' k' || decide (k' = x)) (n' := n' + 1)
          refine m_weak (m' := names [("n2i", .ref a.dd), ("stack", .ref Ds), ("itstack", .ref Di), ("seen", .ref De), ("node2stacki", .ref Dd), ("node", kyV x)]) (h' := put hp De (.set (fun k' => seen' k' || decide (k' = x)) (n' + 1))) (by walk_at "ms_sub") (fun _ _ e => e) ?_
          revert d1
          generalize put hp De (.set (fun k' => seen' k' || decide (k' = x)) (n' + 1)) = hp1
          intro d1
          have hi := d1.hi
          have hdd1 := d1.sub _ _ hdd
          have hN := r.hN x hxo
          unfold nodeOf at hN
          have hN := d1.sub _ _ hN
          have hD := d1.sub _ _ (r.hD x hxo).1
          have hL := d1.sub _ _ (r.hL x hxo)
          have htl := g.tl
          have hnl := g.le
          refine m_cons ?_
          refine m_Expr ?_
          refine m_Method ?_
          refine evR (EvP.nm (v := .ref _) (by rfl)) ?_
          refine m_methList (by walk_at "hl") PySem.F.slot_list_append PySem.F.type_list_append ?_
          refine m_callB ?_
          refine m_splE ?_
          refine m_Attr ?_
          refine m_abs fun Zq4 hZq4 => ?_
          refine m_Call ?_
          refine m_Name ?_
          first | refine m_gK (by assumption) ?_ | refine m_gB (by assumption) ?_
          refine m_callB ?_
          refine m_splE ?_
          refine m_Attr ?_
          refine m_Sub ?_
          refine evR (EvP.nm (v := .ref _) (by rfl)) ?_
          refine evI (EvP.nm (v := .int _) (by rfl)) fun _ => ?_
          refine m_tailDict hdd1 (m_dictGetItem hdd1 ky_is (v := .ref (a.aN x)) (by rw [dGet_ord (f := fun k => V.ref (a.aN k)), if_pos hxo]) fun v' hv' => ?_)
          cases hv'
          refine m_slotR (p := 43) (j := 2) (Here.X (by assumption)) (by walk_at "hl") (by walk_at "hl") (by first | k_is | rfl) (by rfl) ?_
          refine m_splE0 ?_
          refine m_iterList hL fun it hit => ?_
          have hit : hp1 it = none := hit
          refine hZq4 _ _ ?_
          refine m_nextAttr (by walk_at "hl") fun _ _ => ?_
          refine m_splE0 ?_
          rename_i nx hnx
          have hnx : put hp1 it (.liter (a.aL x) 0) nx = none := hnx
          skip
          have d2 := d1.enter (k := x) hit hnx
          refine m_weak (m' := names [("n2i", .ref a.dd), ("stack", .ref Ds), ("itstack", .ref Di), ("seen", .ref De), ("node2stacki", .ref Dd), ("node", kyV x)]) (h' := put (put hp1 it (.liter (a.aL x) 0)) nx (.nxt it)) (by walk_at "ms_sub") (fun _ _ e => e) ?_
          revert d2
          generalize put (put hp1 it (.liter (a.aL x) 0)) nx (.nxt it) = hp2
          intro d2
          have hi2 := d2.hi
          refine m_append (x := .ref nx) hi2 rfl ?_ ?_
          · rw [List.length_map, List.length_reverse, List.length_map]; exact Nat.le_trans (show tp.length ≤ 1000 by omega) (by decide)
          have d3 := d2.setNxs (nxs' := nxsOf (⟨x, 0, nx, it⟩ :: tp))
          have e3 : ((tp.map (·.nx)).reverse).map V.ref ++ [V.ref nx] = (nxsOf (⟨x, 0, nx, it⟩ :: tp)).map V.ref := by simp [nxsOf]
          rw [e3]
          refine m_weak (m' := names [("n2i", .ref a.dd), ("stack", .ref Ds), ("itstack", .ref Di), ("seen", .ref De), ("node2stacki", .ref Dd), ("node", kyV x)]) (h' := put hp2 Di (.list ((nxsOf (⟨x, 0, nx, it⟩ :: tp)).map V.ref))) (by walk_at "ms_sub") (fun _ _ e => e) ?_
          revert d3
          generalize put hp2 Di (.list ((nxsOf (⟨x, 0, nx, it⟩ :: tp)).map V.ref)) = hp3
          intro d3
          have hs3 := d3.hs
          obtain ⟨ep3, hd3⟩ := d3.hd
          refine m_cons ?_
          refine m_AssignSub ?_
          refine m_abs fun Zq5 hZq5 => ?_
          refine m_Call ?_
          refine m_Name ?_
          first | refine m_gK (by assumption) ?_ | refine m_gB (by assumption) ?_
          refine m_callB ?_
          refine m_splE ?_
          refine evR (EvP.nm (v := .ref _) (by rfl)) ?_
          refine m_splE0 ?_
          refine m_lenList hs3 (by rw [List.length_map, List.length_reverse, List.length_map]; omega) fun _ => ?_
          rw [List.length_map, List.length_reverse, List.length_map]
          refine hZq5 _ _ ?_
          refine evR (EvP.nm (v := .ref _) (by rfl)) ?_
          refine evI (EvP.nm (v := .int _) (by rfl)) fun _ => ?_
          refine m_dictSetItem hd3 ky_is (v := .int (tp.length : Nat)) ⟨_, rfl⟩ (by have := g.d3; exact Nat.le_trans (show dl.length ≤ 1000 by omega) (by decide)) fun ep4 => ?_
          have d4 := d3.setD (dl' := dPut dl x (.int (tp.length : Nat))) (ep := ep4)
          refine m_weak (m' := names [("n2i", .ref a.dd), ("stack", .ref Ds), ("itstack", .ref Di), ("seen", .ref De), ("node2stacki", .ref Dd), ("node", kyV x)]) (h' := put hp3 Dd (.dict (dPut dl x (.int (tp.length : Nat))) ep4)) (by walk_at "ms_sub") (fun _ _ e => e) ?_
          revert d4
          generalize put hp3 Dd (.dict (dPut dl x (.int (tp.length : Nat))) ep4) = hp4
          intro d4
          have hs4 := d4.hs
          refine m_cons ?_
          refine m_Expr ?_
          refine m_Method ?_
          refine evR (EvP.nm (v := .ref _) (by rfl)) ?_
          refine m_methList (by walk_at "hl") PySem.F.slot_list_append PySem.F.type_list_append ?_
          refine m_callB ?_
          refine m_splE ?_
          refine evI (EvP.nm (v := .int _) (by rfl)) fun _ => ?_
          refine m_splE0 ?_
          refine m_append (x := kyV x) hs4 ⟨_, rfl⟩ ?_ ?_
          · rw [List.length_map, List.length_reverse, List.length_map]; exact Nat.le_trans (show tp.length ≤ 1000 by omega) (by decide)
          have d5 := d4.setKs (ks' := ksOf (⟨x, 0, nx, it⟩ :: tp))
          have e5 : ((tp.map (·.k)).reverse).map kyV ++ [kyV x] = (ksOf (⟨x, 0, nx, it⟩ :: tp)).map kyV := by simp [ksOf]
          rw [e5]
          refine m_nil ?_
          refine hZq3 _ _ ?_
          refine .inl ⟨rfl, _, ⟨x, 0, nx, it⟩ :: tp, fin, _, _, _, by walk_at "ms_fit", d5, g.push r.nd hxo hns', ⟨fun j s hj => absurd hj (Nat.not_lt_zero _), gf⟩, fun j hj => by rw [hse' j hj]; rfl, ?_, ?_⟩
          · by_cases q : tp = []
            · rw [(ht0 q).2]; simp
            · rw [ht1 q]; rfl
          · unfold mu
            have := unsum_see (f := fun k => (S.su k).length + 2) hns' r.nd hxo
            rw [this]
            unfold stsum
            rw [List.map_cons, List.sum_cons]
            simp only
            omega
      · rintro σ' ⟨hp, tp', fin, seen'', n', dl, hf, d, g, ig, hse'', hk'', hmu⟩
        refine m_fit hf ?_
        clear hf
        refine m_abs fun Zq2 hZq2 => ?_
        refine m_cons ?_
        refine m_While (I := CyW2 S a σ.h Ds Di De Dd seen k (mu S seen' tp)) (n := mu S seen'' tp') ⟨hp, tp', fin, seen'', n', dl, by walk_at "ms_fit", d, g, ig, hse'', hk'', hmu, rfl⟩ ?_
        clear hmu hk'' hse'' ig g d dl n' seen'' fin tp' hp
        rintro m σ' ⟨hp, tp', fin, seen'', n', dl, hf, d, g, ig, hse'', hk'', hmu, rfl⟩
        refine m_fit hf ?_
        clear hf
        have hs := d.hs
        have hi := d.hi
        have htl := g.tl
        have hnl := g.le
        refine m_abs fun Zq3 hZq3 => ?_
        refine m_isValue ?_
        refine evR (EvP.nm (v := .ref _) (by rfl)) ?_
        refine m_trList hs (by unfold ksOf; rw [List.length_map, List.length_reverse, List.length_map]; omega) ?_
        cases tp' with
        | nil =>
          refine hZq3 _ _ ?_
          refine ifalse (by simp [ksOf]) ?_
          refine m_abs fun Zq4 hZq4 => ?_
          refine m_cons ?_
          refine m_Break ?_
          refine hZq4 _ _ ?_
          refine hZq2 _ _ ?_
          exact .inl ⟨rfl, hp, fin, seen'', n', dl, by walk_at "ms_fit", d, g, hse'', hk''⟩
        | cons e rr =>
          refine hZq3 _ _ ?_
          refine itrue (by simp [ksOf]) ?_
          refine m_cons ?_
          refine m_TryNext (mg := mg) (mb := mb) (outer := outer) (by exact Z.T.g) (by exact mg_none_of Z.X Z.T.g (by k_is)) (by exact Z.T.b) (by exact (Z.T.builtins "StopIteration" (by decide)).trans (by rfl)) (by exact F.deeper (L := L') (m := σ.m)) (by show A.frames.map _ = _; rw [hfr]; rfl) (by rfl) (by exact hh _) ?_
          refine m_Sub ?_
          refine evR (EvP.nm (v := .ref _) (by rfl)) ?_
          refine m_UnaryOp ?_
          refine evI EvP.int fun _ => ?_
          refine m_neg fun _ => ?_
          skip
          have enx : nxsOf (e :: rr) = nxsOf rr ++ [e.nx] := by simp [nxsOf]
          have eks : ksOf (e :: rr) = ksOf rr ++ [e.k] := by simp [ksOf]
          have hi' := hi
          rw [enx, List.map_append] at hi'
          have hlr : ((nxsOf rr).map V.ref).length = rr.length := by simp [nxsOf]
          refine m_tailList hi' (m_getListNeg (x := .ref e.nx) hi' (by decide) (by rw [List.length_append, hlr, List.length_map, List.length_singleton]; omega) (by decide) (by rw [List.length_append, hlr, List.length_map, List.length_singleton, show ((-1 : Int) + ((rr.length + 1 : Nat) : Int)).toNat = rr.length by omega, ← hlr, List.getElem?_append_right (Nat.le_refl _)]; simp) fun v' hv' => ?_)
          cases hv'
          obtain ⟨i1, i2, i3⟩ := d.its e List.mem_cons_self
          have hek := g.ino e List.mem_cons_self
          have hL := d.sub _ _ (r.hL e.k hek)
          skip
          refine ⟨e.nx, e.it, a.aL e.k, e.c, (S.su e.k).map kyV, rfl, i1, i2, hL, fun v v' hv iv => ?_, fun hv exc => ?_⟩
          · obtain ⟨y, hy, rfl⟩ := map_get hv
            obtain ⟨ty, rfl⟩ := iv
            refine m_sti ?_
            refine m_nil ?_
            refine hZq2 _ _ ?_
            have hlt := (List.getElem?_eq_some_iff.mp hy).1
            skip
            refine ⟨mu S seen'' (⟨e.k, e.c + 1, e.nx, e.it⟩ :: rr), ?_, put hp e.it (.liter (a.aL e.k) (e.c + 1)), ⟨e.k, e.c + 1, e.nx, e.it⟩ :: rr, fin, seen'', n', dl, y, by walk_at "ms_fit", d.step, g.step, ⟨⟨by simp, by simpa using hy, fun j s hj hs => ig.1 j s (by simpa using hj) hs⟩, ig.2⟩, hcl e.k hek y (List.mem_of_getElem? hy), hse'', (fun q => nomatch q), fun _ => hk'', rfl⟩
            refine Nat.lt_of_lt_of_le ?_ hmu
            unfold mu stsum
            rw [List.map_cons, List.sum_cons, List.map_cons, List.sum_cons]
            simp only
            omega
          · have hall : ∀ s ∈ S.su e.k, s ∈ fin := fun s hs => by
              obtain ⟨j, hj⟩ := List.mem_iff_getElem?.mp hs
              have h1 := (List.getElem?_eq_some_iff.mp hj).1
              have h2 : (S.su e.k).length ≤ e.c := by simpa using hv
              exact ig.1 j s (by omega) hj
            have dd := d.drop
            refine m_weak (m' := names [("n2i", .ref a.dd), ("stack", .ref Ds), ("itstack", .ref Di), ("seen", .ref De), ("node2stacki", .ref Dd)]) (h' := fun b => if b = e.it then none else hp b) (by walk_at "ms_sub") (fun _ _ e => e) ?_
            revert dd
            generalize (fun b => if b = e.it then none else hp b) = hp1
            intro dd
            clear hs hi hi' i1 i2 i3 hL d
            have hs := dd.hs
            rw [eks, List.map_append] at hs
            obtain ⟨epd, hd⟩ := dd.hd
            refine m_cons (m_Del ?_)
            refine evR (EvP.nm (v := .ref _) (by rfl)) ?_
            refine m_abs fun Zq4 hZq4 => ?_
            refine m_Method ?_
            refine evR (EvP.nm (v := .ref _) (by rfl)) ?_
            refine m_methList (by walk_at "hl") PySem.F.slot_list_pop PySem.F.type_list_pop ?_
            refine m_callB0 ?_
            refine m_pop (x := kyV e.k) hs ?_ fun v' hv' => ?_
            · rw [List.length_map]; unfold ksOf; rw [List.length_reverse, List.length_map]
              exact Nat.lt_of_lt_of_le (show rr.length < 1001 by rw [List.length_cons] at htl; omega) (by decide)
            obtain ⟨tv, rfl⟩ := hv'
            have d2 := dd.setKs (ks' := ksOf rr)
            refine hZq4 _ _ ?_
            refine m_weak (m' := names [("n2i", .ref a.dd), ("stack", .ref Ds), ("itstack", .ref Di), ("seen", .ref De), ("node2stacki", .ref Dd)]) (h' := put hp1 Ds (.list ((ksOf rr).map kyV))) (by walk_at "ms_sub") (fun _ _ e => e) ?_
            revert d2
            generalize put hp1 Ds (.list ((ksOf rr).map kyV)) = hp2
            intro d2
            obtain ⟨epd2, hd2⟩ := d2.hd
            refine m_dictDel hd2 ky_is (by rw [g.d2 0 e rfl]; rfl) (by have := g.d3; exact Nat.le_trans (show dl.length ≤ 1000 by omega) (by decide)) fun ep3 => ?_
            have d3 := d2.setD (dl' := dl.filter fun kv => decide (kv.1 ≠ e.k)) (ep := ep3)
            refine m_weak (m' := names [("n2i", .ref a.dd), ("stack", .ref Ds), ("itstack", .ref Di), ("seen", .ref De), ("node2stacki", .ref Dd)]) (h' := put hp2 Dd (.dict (dl.filter fun kv => decide (kv.1 ≠ e.k)) ep3)) (by walk_at "ms_sub") (fun _ _ e => e) ?_
            revert d3
            generalize put hp2 Dd (.dict (dl.filter fun kv => decide (kv.1 ≠ e.k)) ep3) = hp3
            intro d3
            have hi3 := d3.hi
            rw [enx, List.map_append] at hi3
            refine m_abs fun Zq5 hZq5 => ?_
            refine m_cons ?_
            refine m_Expr ?_
            refine m_Method ?_
            refine evR (EvP.nm (v := .ref _) (by rfl)) ?_
            refine m_methList (by walk_at "hl") PySem.F.slot_list_pop PySem.F.type_list_pop ?_
            refine m_callB0 ?_
            refine m_pop (x := .ref e.nx) hi3 ?_ fun v' hv' => ?_
            · rw [List.length_map]; unfold nxsOf; rw [List.length_reverse, List.length_map]
              exact Nat.lt_of_lt_of_le (show rr.length < 1001 by rw [List.length_cons] at htl; omega) (by decide)
            have d4 := d3.setNxs (nxs' := nxsOf rr)
            refine m_nil ?_
            refine hZq5 _ _ ?_
            refine m_nil ?_
            refine ⟨mu S seen'' rr, ?_, _, rr, fin ++ [e.k], seen'', n', _, by walk_at "ms_fit", d4, g.pop hall, ?_, hse'', hk'', ?_, rfl⟩
            · unfold mu stsum
              rw [List.map_cons, List.sum_cons]; omega
            · cases rr with
              | nil => trivial
              | cons e2 r2 =>
                obtain ⟨⟨q1, q2, q3⟩, q4⟩ := ig.2
                skip
                refine ⟨fun j s hj hs => ?_, q4.mono fun z hz => List.mem_append_left _ hz⟩
                by_cases z : j = e2.c - 1
                · subst z; rw [q2] at hs; cases hs; exact List.mem_append_right _ List.mem_cons_self
                · exact List.mem_append_left _ (q3 j s (by omega) hs)
            · refine Nat.le_trans ?_ hmu
              unfold mu stsum
              rw [List.map_cons, List.sum_cons]; omega
    · rintro σ' ⟨hp, fin, seen', n', dl, hf, d, g, h3, h4⟩
      refine m_fit hf ?_
      refine m_nil ?_
      refine hZq0 _ _ ?_
      refine ⟨hp, fin, seen', n', dl, by walk_at "ms_fit", d, g, fun j hj => ?_⟩
      rw [take_snoc hk] at hj
      rcases List.mem_append.mp hj with hj | hj
      · exact h3 j (hse j hj)
      · rw [List.mem_singleton.mp hj]; exact h4
    · rintro v σ' ⟨D, xs, rfl, q1, q2, q3, q4, q5, q6⟩
      refine hZq0 _ _ ?_
      refine ⟨put σ.h D (.list xs), fun b o e => ?_, h2 q1 D xs q2 q3 q4⟩
      unfold put at e; split at e
      · rename_i z; cases e; rw [z]; exact q6
      · exact q5 b o e
  · rintro σ' ⟨hp, fin, seen, n', dl, hf, d, g, hse⟩
    refine m_fit hf ?_
    refine m_cons ?_
    refine m_Return ?_
    refine evN EvP.none ?_
    refine ⟨σ.h, d.sub, h1 ?_⟩
    obtain ⟨rk, t1, t2⟩ := g.topo
    skip
    refine ⟨rk, fun k hk s hs => ?_⟩
    have : seen k = true := hse k (by rw [List.length_map, List.length_map, List.take_length]; exact hk)
    have hf := (g.sn k).mp this
    simp at hf
    exact (t2 k hf s hs).2
end
end Mine
end
section
open PySem PySem.W PyProof.Rows PySem.SeqAt
set_option maxHeartbeats 400000
namespace Mine
section
variable {prog : Program} {w : World} {K : Type} [DecidableEq K] {knd : PySem.KeyKind prog w K} {Γ : Fx} {σ : MS K} {A : Around} {env : Env} {α : Type} {s : Shared} {Q : Value → MS K → Prop} {QB : Bool → MS K → Prop} {QU : Unit → MS K → Prop} {QF : Flow → MS K → Prop}
variable {KK : Frag} {p : Program} {loose : List Str} {mg mb : Str → Option Value} {t u : Tok} {l l' : Addr}
inductive CompIQ (ι : Type) (knd : PySem.KeyKind prog w K) (Γ : Fx) (A : Around) (env : Env) (elt : Expr) (x : Str) (ifs : List Expr) (scope : Scope) (cl : List (Str × Addr)) (Q : Value → MS K → Prop) (v : Value) (σ₁ : MS K) : Prop
  | mk (L : List ι) (g : ι → V) (ok : MS K → Prop) (It : Nat → Obj → Prop) (Y : Yields knd A v (L.map g) ok It) (hsz : L.length ≤ sizeLine) (hok : ∀ σ : MS K, (∀ a o, σ₁.h a = some o → σ.h a = some o) → ok σ) (P : ι → Bool) (f : ι → V)
      (step : ∀ y ∈ L, ∀ C I ob hb D od hd, mTests knd (((Γ.enter C σ₁.m).freeze I ob hb).freeze D od hd) A (cenvOf scope env C cl) ifs (fun b σ₂ => b = P y ∧
        if b then mwp knd (((Γ.enter C σ₁.m).freeze I ob hb).freeze D od hd) A (eval elt (cenvOf scope env C cl)) (fun e σ₃ => (∀ a o, σ₁.h a = some o → σ₃.h a = some o) ∧ (f y).is e) σ₂ else (∀ a o, σ₁.h a = some o → σ₂.h a = some o)) ⟨fun z => if z = x then some (g y) else none, σ₁.h⟩)
      (fin : ∀ D, σ₁.h D = none → Q (.ref D) (σ₁.set D (.list ((L.filter P).map f))))
theorem m_CompI {ι : Type} {elt iter : Expr} {x : Str} {px : Pos} {ifs : List Expr} {scope : Scope} {pos : Pos} {cl : List (Str × Addr)}
    (h : mwp knd Γ A (eval iter env) (CompIQ ι knd Γ A env elt x ifs scope cl Q) σ)
    (hclos : closureFor scope env = pure cl := by rfl) (hcell : ∀ y ∈ scope.names, y.2 ≠ .cell := by decide) (hkind : scope.kind = .function := by rfl) (hnames : ∀ y ∈ scope.names, y.2 = .local → scope.names.lookup y.1 = some .local := by decide)
    (hx : (relabel scope env).names.lookup x = some .local := by rfl) (hs : ∀ x, foldedSetIterable iter env x = pure x := by intro _; rfl) :
    mwp knd Γ A (eval (.ListComp elt [⟨.Name x px, iter, ifs, 0⟩] scope pos) env) Q σ := by
  refine m_post (Q' := fun v σ' => ∃ (σ₁ : MS K) (D : Addr) (ys : List V) (hp : Addr → Option (O K)), v = .ref D ∧ σ' = ⟨σ₁.m, put hp D (.list ys)⟩ ∧ hp D = none ∧ (∀ a o, σ₁.h a = some o → hp a = some o) ∧ ∀ D, σ₁.h D = none → Q (.ref D) (σ₁.set D (.list ys))) (m_ListComp (mwp_mono h fun v σ₁ q => ?_) hclos hcell hkind hnames hx hs) ?_
  · obtain ⟨L, gg, ok, It, Y, hsz, hok, P, f, step, fin⟩ := q
    refine ⟨_, ok, It, Y, by rw [List.length_map]; exact hsz, fun i ys hp => (∀ a o, σ₁.h a = some o → hp a = some o) ∧ ys = ((L.take i).filter P).map f, ⟨fun _ _ e => e, by simp⟩, fun i ys hp m hj => hok _ hj.1, ?_, ?_, ?_⟩
    · rintro i ys hp ⟨_, rfl⟩
      rw [List.length_map]
      exact Nat.le_trans (List.length_filter_le _ _) (by rw [List.length_take]; omega)
    · rintro i y ys hp C I ob hb D od hd hy ⟨hs, rfl⟩
      rw [List.getElem?_map] at hy
      obtain ⟨z, hz, rfl⟩ := Option.map_eq_some_iff.mp hy
      have hmem := List.mem_of_getElem? hz
      have ht : L.take (i + 1) = L.take i ++ [z] := by rw [List.take_add_one, hz]; rfl
      refine mTests_weak hs (fun b h' e1 hs' q => ?_) (mTests_mono (step z hmem C I ob hb D od hd) ?_)
      · subst e1
        cases b with
        | true =>
          simp only [if_true] at q ⊢
          exact m_weak (σ := ⟨_, h'⟩) (fun _ _ e => e) hs' q
        | false => simp only [Bool.false_eq_true, if_false] at q ⊢; exact ⟨fun a o e => hs' a o (q.1 a o e), q.2⟩
      · rintro b σ₂ ⟨rfl, q⟩
        cases hb : P z with
        | true =>
          rw [hb] at q
          simp only [if_true] at q ⊢
          exact mwp_mono q fun e σ₃ ⟨q1, q2⟩ => ⟨_, q2, q1, by rw [ht, List.filter_append]; simp [hb]⟩
        | false =>
          rw [hb] at q
          simp only [Bool.false_eq_true, if_false] at q ⊢
          exact ⟨q, by rw [ht, List.filter_append]; simp [hb]⟩
    · rintro ys hp D ⟨hs, rfl⟩ hD
      rw [List.length_map, List.take_length]
      exact ⟨σ₁, D, _, hp, rfl, rfl, hD, hs, fin⟩
  · rintro v _ ⟨σ₁, D, ys, hp, rfl, rfl, hD, hs', q⟩
    have hD1 : σ₁.h D = none := by
      cases z : σ₁.h D with
      | none => rfl
      | some o => rw [hs' _ _ z] at hD; cases hD
    exact ⟨σ₁.set D (.list ys), put_mono hs', fun _ _ e => e, q D hD1⟩
end
end Mine
end
section
open PySem PySem.W PyProof.Rows PySem.SeqAt
set_option maxHeartbeats 1000000
namespace Mine
section
variable {prog : Program} {w : World} {Γ : Fx} {σ : MS Ky} {A : Around} {env : Env} {α : Type} {s : Shared} {Q : Value → MS Ky → Prop} {QB : Bool → MS Ky → Prop} {QU : Unit → MS Ky → Prop} {QF : Flow → MS Ky → Prop}
variable {p : Program} {loose : List Str} {mg mb : Str → Option Value} {t u v : Tok} {n : Nat} {l : Addr} {a : Ad} {S : SS} {k : Ky}
noncomputable def SS.prep (S : SS) : SS := { S with rd := some (S.ord.filter fun k => S.np k == 0) }
theorem c_prepare (r : Rep a S σ.h) (hr : S.rd = none) (hcl : ∀ k ∈ S.ord, ∀ s ∈ S.su k, s ∈ S.ord) (hsz : S.ord.length ≤ 1000) (hac : Acyc S) (F : Fits Γ A) (Z : Here (Mine.hd1.heap_1 w.params) p loose mg mb Γ.base) (hA : Dp A (n + 2))
    (h : ∀ a' h', a'.x = a.x → Rep a' S.prep h' → Q .none ⟨σ.m, h'⟩) : mcode (kyK prog w) Γ A (.call (.ref 92) ⟨[.ref a.x], []⟩) Q σ := by
  refine c_fun ["self"] [.ref a.x] Z hA (.cons rfl .nil) ?_
  intro L'
  have hh : ∀ e, (A.deeper e).handled = none := fun e => hA.hd
  have hx := r.hx
  have hdx := r.hdx
  obtain ⟨ep, hdd⟩ := r.hdd
  unfold fieldsOf at hdx
  rw [hr] at hdx
  refine m_cons ?_
  refine m_If ?_
  refine m_isCompare ?_
  refine m_Attr ?_
  refine evR (EvP.nm (v := .ref _) (by rfl)) ?_
  first | refine m_attrR (Here.X (by assumption)) (by walk_at "hl") (by walk_at "hl") (by rfl) ?_ | refine m_attrI (Here.X (by assumption)) (by walk_at "hl") (by walk_at "hl") (by rfl) fun _ => ?_ | refine m_attrN (Here.X (by assumption)) (by walk_at "hl") (by walk_at "hl") (by rfl) ?_
  refine evN EvP.none ?_
  refine m_isnot (by rfl) ?_
  refine m_trBool ?_
  skip
  refine ifalse (by decide) ?_
  refine m_nil ?_
  refine m_cons ?_
  refine m_AssignAttr ?_
  refine m_CompI (ι := Ky) ?_
  refine m_abs fun Zq0 hZq0 => ?_
  refine m_Method ?_
  refine m_Attr ?_
  refine evR (EvP.nm (v := .ref _) (by rfl)) ?_
  first | refine m_attrR (Here.X (by assumption)) (by walk_at "hl") (by walk_at "hl") (by rfl) ?_ | refine m_attrI (Here.X (by assumption)) (by walk_at "hl") (by walk_at "hl") (by rfl) fun _ => ?_ | refine m_attrN (Here.X (by assumption)) (by walk_at "hl") (by walk_at "hl") (by rfl) ?_
  refine m_methDict (by walk_at "hl") PySem.F.slot_dict_values PySem.F.type_dict_values ?_
  refine m_callB0 ?_
  refine m_dictValues Z.sys hdd fun vw hvw => ?_
  have hvw : σ.h vw = none := hvw
  refine hZq0 _ _ ?_
  have yv := fun e => yields_values (knd := kyK prog w) (A := A.deeper e) (hh e) (v := vw) (d := a.dd) (kvs := S.ord.map fun k => (k, V.ref (a.aN k))) (ep := ep)
  have em : (S.ord.map fun k => (k, V.ref (a.aN k))).map (·.2) = S.ord.map fun k => V.ref (a.aN k) := by rw [List.map_map]; rfl
  rw [em] at yv
  skip
  refine ⟨S.ord, fun k => V.ref (a.aN k), _, _, yv _, Nat.le_trans hsz (by decide), fun σ' hs => ⟨hs _ _ (sub_put hvw hdd), hs _ _ put_same⟩, fun k => S.np k == 0, kyV, ?_, ?_⟩
  · intro y hy C I ob hb D od hd
    refine (?_ : mwp (kyK prog w) _ _ _ _ _)
    have hN := r.hN y hy
    unfold nodeOf at hN
    have hN := sub_put (x := O.values a.dd) hvw hN
    have hD := sub_put (x := O.values a.dd) hvw (r.hD y hy).1
    refine m_abs fun Zq1 hZq1 => ?_
    refine m_isCompare ?_
    refine m_Attr ?_
    refine evR (EvP.nm (v := .ref _) (by rfl)) ?_
    refine m_slotI (p := 42) (j := 1) (Here.X (by assumption)) (by walk_at "hl") (by walk_at "hl") (by first | k_is | rfl) (by rfl) fun _ => ?_
    refine evI EvP.int fun _ => ?_
    refine m_eqi ?_
    refine m_trBool ?_
    refine hZq1 _ _ ?_
    refine ⟨rfl, ite_of (fun e => ?_) fun e => ?_⟩
    · refine m_Attr ?_
      refine evR (EvP.nm (v := .ref _) (by rfl)) ?_
      first | refine m_slotI (p := 41) (j := 0) (Here.X (by assumption)) (by walk_at "hl") (by walk_at "hl") (by first | k_is | rfl) (by rfl) fun _ => ?_ | refine m_slotS (p := 41) (j := 0) (Here.X (by assumption)) (by walk_at "hl") (by walk_at "hl") (by first | k_is | rfl) (by rfl) fun _ => ?_
      skip
      exact ⟨fun _ _ e => e, _, rfl⟩
    · exact fun _ _ e => e
  intro D hD
  have hD : put σ.h vw (.values a.dd) D = none := hD
  refine evR (EvP.nm (v := .ref _) (by rfl)) ?_
  refine m_setAttr (v := .ref D) Z.X (by walk_at "hl") (by walk_at "hl") rfl (by show 4 ≤ 900; decide) ?_
  refine m_cons ?_
  refine m_AssignName ?_
  refine m_Method ?_
  refine evR (EvP.nm (v := .ref _) (by rfl)) ?_
  refine m_method (Here.X (by assumption)) (by walk_at "hl") (by walk_at "hl") (by rfl) ?_
  refine m_callZ0 (by assumption) ?_
  have r2 := r.mkRd hr (none_put hD) (S.ord.filter fun k => S.np k == 0)
  have nvw : vw ≠ D := (ne_put hD).symm
  have nvx : vw ≠ a.dx := (ne_none r.hdx hvw).symm
  refine m_weak (m' := names [("self", .ref a.x)]) (h' := put (put σ.h D (.list ((S.ord.filter fun k => S.np k == 0).map kyV))) a.dx (.idict (fieldsOf { a with ra := D } { S with rd := some (S.ord.filter fun k => S.np k == 0) }))) (by walk_at "ms_sub") ?_ ?_
  · intro b o e
    show put (put (put σ.h vw _) D _) a.dx _ b = some o
    rw [put_comm nvw, put_comm nvx]
    refine sub_put ?_ e
    rw [put_other nvx, put_other nvw]; exact hvw
  revert r2
  generalize put (put σ.h D (.list ((S.ord.filter fun k => S.np k == 0).map kyV))) a.dx (.idict (fieldsOf { a with ra := D } { S with rd := some (S.ord.filter fun k => S.np k == 0) })) = hp2
  intro r2
  clear hx hdx hdd
  have hx := r2.hx
  have hdx := r2.hdx
  unfold fieldsOf at hdx
  skip
  refine m_code (c_find_cycle (a := { a with ra := D }) (S := S.prep) r2 hcl hsz (F.deeper (L := L') (m := σ.m)) Z (hA.deeper _) (fun _ => ?_) fun q => absurd hac q)
  refine m_stn ?_
  refine m_cons ?_
  refine m_If ?_
  refine m_isValue ?_
  refine evN (EvP.nm (v := .none) (by rfl)) ?_
  refine m_trNone ?_
  skip
  refine ifalse (by decide) ?_
  refine m_nil ?_
  refine m_nil ?_
  exact ⟨_, fun _ _ e => e, h { a with ra := D } _ rfl r2⟩
end
end Mine
end
section
open PySem PySem.W PyProof.Rows PySem.SeqAt
set_option maxHeartbeats 1000000
namespace Mine
theorem tell_np : ∀ (m : List Ky) (S : SS), m.Nodup → ∀ j, (tellAll S m).np j = if j ∈ m then S.np j - 1 else S.np j
  | [], S, _, j => by simp [tellAll]
  | s :: m, S, nd, j => by
    have nd' := List.nodup_cons.mp nd
    have ih := tell_np m (tellOne S s) nd'.2 j
    have e : tellAll S (s :: m) = tellAll (tellOne S s) m := rfl
    rw [e, ih]
    show (if j ∈ m then upd S.np s (S.np s - 1) j - 1 else upd S.np s (S.np s - 1) j) = _
    by_cases q : j = s
    · subst q
      rw [if_neg nd'.1, upd_same, if_pos List.mem_cons_self]
    · rw [upd_other q]
      simp [q]
theorem tell_rd' : ∀ (m : List Ky) (S : SS) (r : List Ky), m.Nodup → S.rd = some r → (tellAll S m).rd = some (r ++ m.filter fun j => S.np j - 1 == 0)
  | [], S, r, _, h => by simp [tellAll, h]
  | s :: m, S, r, nd, h => by
    have nd' := List.nodup_cons.mp nd
    have e : tellAll S (s :: m) = tellAll (tellOne S s) m := rfl
    have ef : m.filter (fun j => (tellOne S s).np j - 1 == 0) = m.filter fun j => S.np j - 1 == 0 := by
      refine List.filter_congr fun j hj => ?_
      show (upd S.np s (S.np s - 1) j - 1 == 0) = _
      rw [upd_other (show j ≠ s from fun q => nd'.1 (q ▸ hj))]
    rw [e]
    by_cases q : S.np s - 1 = 0
    · rw [tell_rd' m (tellOne S s) (r ++ [s]) nd'.2 (by show (if S.np s - 1 = 0 then S.rd.map (· ++ [s]) else S.rd) = _; rw [if_pos q, h]; rfl), ef, List.filter_cons, if_pos (by simpa using q)]
      simp
    · rw [tell_rd' m (tellOne S s) r nd'.2 (by show (if S.np s - 1 = 0 then S.rd.map (· ++ [s]) else S.rd) = _; rw [if_neg q, h]), ef, List.filter_cons, if_neg (by simpa using q)]
theorem filter_drop {P : Ky → Bool} {k : Ky} : ∀ {l : List Ky}, l.Nodup → k ∈ l → P k = true → (l.filter P).length = (l.filter fun i => P i && decide (i ≠ k)).length + 1
  | [], _, h, _ => by cases h
  | j :: r, nd, h, hp => by
    have nd' := List.nodup_cons.mp nd
    rw [List.filter_cons, List.filter_cons]
    by_cases e : j = k
    · subst e
      rw [if_pos hp, if_neg (by simp), List.length_cons]
      congr 2
      refine List.filter_congr fun i hi => ?_
      have : i ≠ j := fun q => nd'.1 (q ▸ hi)
      simp [this]
    · have hk : k ∈ r := by rcases List.mem_cons.mp h with q | q; exact absurd q.symm e; exact q
      have ih := filter_drop nd'.2 hk hp
      by_cases z : P j = true
      · rw [if_pos z, if_pos (by simp [z, e]), List.length_cons, List.length_cons, ih]
      · rw [if_neg z, if_neg (by simp [z]), ih]

section
variable (pre : Ky → Ky → Bool)
structure Graph (S : SS) : Prop where
  nd : S.ord.Nodup
  su : ∀ k ∈ S.ord, (S.su k).Nodup ∧ ∀ j, j ∈ S.su k ↔ (j ∈ S.ord ∧ pre k j = true)
structure SI (S : SS) (left : List Ky) : Prop where
  g : Graph pre S
  lf : ∀ k ∈ left, k ∈ S.ord
  nl : left.Nodup
  up : ∀ k ∈ left, ∀ j ∈ S.ord, pre k j = true → j ∈ left
  np : ∀ k ∈ left, S.np k = ((left.filter fun i => pre i k).length : Int)
  rd : ∃ l, S.rd = some l ∧ l.Nodup ∧ ∀ k, k ∈ l ↔ (k ∈ left ∧ ∀ i ∈ left, pre i k = false)
  fp : S.fi = S.po
structure MI (S : SS) (left l todo : List Ky) : Prop where
  g : Graph pre S
  lf : ∀ k ∈ left, k ∈ S.ord
  nl : left.Nodup
  up : ∀ k ∈ left, ∀ j ∈ S.ord, pre k j = true → j ∈ left
  ll : ∀ k, k ∈ l ↔ (k ∈ left ∧ ∀ i ∈ left, pre i k = false)
  tl : ∀ k ∈ todo, k ∈ l
  nt : todo.Nodup
  out : ∀ k ∈ todo, S.np k = -1
  np : ∀ j ∈ left, j ∉ l → S.np j = ((left.filter fun i => pre i j && (decide (i ∉ l) || decide (i ∈ todo))).length : Int)
  rd : ∃ r, S.rd = some r ∧ r.Nodup ∧ ∀ j, j ∈ r ↔ (j ∈ left ∧ j ∉ l ∧ ∀ i ∈ left, (i ∉ l ∨ i ∈ todo) → pre i j = false)
  fp : S.fi + todo.length = S.po
variable {pre}
noncomputable def readyS (S : SS) (l : List Ky) : SS := { S with np := outNp S.np l, rd := some [], po := S.po + l.length }
theorem SI.ready {S : SS} {left l : List Ky} (h : SI pre S left) (hl : S.rd = some l) : MI pre (readyS S l) left l l := by
  obtain ⟨l', e, n1, n2⟩ := h.rd
  rw [hl] at e; cases e
  refine ⟨⟨h.g.nd, h.g.su⟩, h.lf, h.nl, h.up, n2, fun k hk => hk, n1, fun k hk => ?_, fun j hj hjl => ?_, ⟨[], rfl, List.nodup_nil, fun j => ?_⟩, ?_⟩
  · show (if k ∈ l then _ else _) = _; rw [if_pos hk]
  · show (if j ∈ l then _ else _) = _
    rw [if_neg hjl, h.np j hj]
    congr 2
    refine List.filter_congr fun i hi => ?_
    by_cases q : i ∈ l <;> simp [q]
  · constructor
    · intro q; cases q
    · rintro ⟨a1, a2, a3⟩
      exact absurd ((n2 j).mpr ⟨a1, fun i hi => a3 i hi (by by_cases q : i ∈ l; exact .inr q; exact .inl q)⟩) a2
  · show S.fi + _ = S.po + _; rw [h.fp]
theorem MI.done {S : SS} {left l todo : List Ky} {k : Ky} (h : MI pre S left l (k :: todo)) : MI pre (doneOne S k) left l todo := by
  have hkl := h.tl k List.mem_cons_self
  have hkL := ((h.ll k).mp hkl).1
  have hko := h.lf k hkL
  have nt := List.nodup_cons.mp h.nt
  obtain ⟨sn, sm⟩ := h.g.su k hko
  obtain ⟨r, er, n1, n2⟩ := h.rd
  have hord : (doneOne S k).ord = S.ord := tell_ord _ _
  have hsu : (doneOne S k).su = S.su := tell_su _ _
  -- successors lie in left, not in l
  have hs1 : ∀ j ∈ S.su k, j ∈ left ∧ j ∉ l := fun j hj => by
    obtain ⟨j1, j2⟩ := (sm j).mp hj
    refine ⟨h.up k hkL j j1 j2, fun q => ?_⟩
    have := ((h.ll j).mp q).2 k hkL
    rw [j2] at this; cases this
  have hks : k ∉ S.su k := fun q => (hs1 k q).2 hkl
  have hnp : ∀ j, (doneOne S k).np j = if j ∈ S.su k then upd S.np k (-2) j - 1 else upd S.np k (-2) j := fun j => tell_np (S.su k) { S with np := upd S.np k (-2) } sn j
  have hrd : (doneOne S k).rd = some (r ++ (S.su k).filter fun j => upd S.np k (-2) j - 1 == 0) := tell_rd' (S.su k) { S with np := upd S.np k (-2) } r sn er
  -- the count behind
  have cnt : ∀ j ∈ left, j ∉ l → ((left.filter fun i => pre i j && (decide (i ∉ l) || decide (i ∈ k :: todo))).length : Int) = ((left.filter fun i => pre i j && (decide (i ∉ l) || decide (i ∈ todo))).length : Int) + (if j ∈ S.su k then 1 else 0) := fun j hj hjl => by
    by_cases q : j ∈ S.su k
    · have hp := ((sm j).mp q).2
      rw [if_pos q, filter_drop h.nl hkL (P := fun i => pre i j && (decide (i ∉ l) || decide (i ∈ k :: todo))) (by simp [hp])]
      have : (left.filter fun i => (pre i j && (decide (i ∉ l) || decide (i ∈ k :: todo))) && decide (i ≠ k)) = left.filter fun i => pre i j && (decide (i ∉ l) || decide (i ∈ todo)) := by
        refine List.filter_congr fun i hi => ?_
        by_cases z : i = k
        · subst z; simp [hkl, nt.1]
        · simp [z]
      rw [this]; push_cast; rfl
    · have hp : pre k j = false := by
        cases z : pre k j with
        | false => rfl
        | true => exact absurd ((sm j).mpr ⟨h.lf j hj, z⟩) q
      rw [if_neg q, Int.add_zero]
      congr 2
      refine List.filter_congr fun i hi => ?_
      by_cases z : i = k
      · subst z; simp [hp]
      · simp [z]
  refine ⟨⟨by rw [hord]; exact h.g.nd, by rw [hord, hsu]; exact h.g.su⟩, by rw [hord]; exact h.lf, h.nl, by rw [hord]; exact h.up, h.ll, fun j hj => h.tl j (List.mem_cons_of_mem _ hj), nt.2, fun j hj => ?_, fun j hj hjl => ?_, ⟨_, hrd, ?_, fun j => ?_⟩, ?_⟩
  · have hjl := h.tl j (List.mem_cons_of_mem _ hj)
    rw [hnp j, if_neg (fun q => (hs1 j q).2 hjl), upd_other (show j ≠ k from fun q => nt.1 (q ▸ hj))]
    exact h.out j (List.mem_cons_of_mem _ hj)
  · have hjk : j ≠ k := fun q => hjl (q ▸ hkl)
    rw [hnp j, upd_other hjk]
    have c := cnt j hj hjl
    rw [← h.np j hj hjl] at c
    split
    · rename_i q; rw [if_pos q] at c; omega
    · rename_i q; rw [if_neg q] at c; omega
  · rw [List.nodup_append]
    refine ⟨n1, sn.filter _, fun i hi j hj => ?_⟩
    rintro rfl
    obtain ⟨q1, q2⟩ := List.mem_filter.mp hj
    have := ((n2 i).mp hi).2.2 k hkL (.inr List.mem_cons_self)
    rw [((sm i).mp q1).2] at this; cases this
  · rw [List.mem_append, n2 j, List.mem_filter]
    constructor
    · rintro (⟨a1, a2, a3⟩ | ⟨a1, a2⟩)
      · exact ⟨a1, a2, fun i hi q => a3 i hi (q.imp id (List.mem_cons_of_mem _))⟩
      · obtain ⟨b1, b2⟩ := hs1 j a1
        have hjk : j ≠ k := fun q => b2 (q ▸ hkl)
        rw [upd_other hjk, h.np j b1 b2] at a2
        have c := cnt j b1 b2
        rw [if_pos a1] at c
        have a2 : ((left.filter fun i => pre i j && (decide (i ∉ l) || decide (i ∈ k :: todo))).length : Int) - 1 = 0 := by simpa using a2
        have z : (left.filter fun i => pre i j && (decide (i ∉ l) || decide (i ∈ todo))).length = 0 := by omega
        rw [List.length_eq_zero_iff, List.filter_eq_nil_iff] at z
        refine ⟨b1, b2, fun i hi q => ?_⟩
        have := z i hi
        cases pz : pre i j with
        | false => rfl
        | true =>
          refine absurd ?_ this
          rcases q with q | q <;> simp [pz, q]
    · rintro ⟨a1, a2, a3⟩
      by_cases q : j ∈ S.su k
      · refine .inr ⟨q, ?_⟩
        have hjk : j ≠ k := fun q => a2 (q ▸ hkl)
        rw [upd_other hjk, h.np j a1 a2]
        have c := cnt j a1 a2
        rw [if_pos q] at c
        have z : (left.filter fun i => pre i j && (decide (i ∉ l) || decide (i ∈ todo))) = [] := by
          rw [List.filter_eq_nil_iff]
          intro i hi
          by_cases w : i ∉ l ∨ i ∈ todo
          · rw [a3 i hi w]; simp
          · have w1 : i ∈ l := by by_cases z : i ∈ l; exact z; exact absurd (.inl z) w
            have w2 : i ∉ todo := fun z => w (.inr z)
            simp [w1, w2]
        rw [z] at c
        simp only [List.length_nil] at c
        rw [c]; rfl
      · refine .inl ⟨a1, a2, fun i hi w => ?_⟩
        rcases w with w | w
        · exact a3 i hi (.inl w)
        · rcases List.mem_cons.mp w with w | w
          · rw [w]
            cases z : pre k j with
            | false => rfl
            | true => exact absurd ((sm j).mpr ⟨h.lf j a1, z⟩) q
          · exact a3 i hi (.inr w)
  · have e1 : (doneOne S k).fi = S.fi + 1 := rfl
    have e2 : (doneOne S k).po = S.po := tell_po _ _
    have := h.fp
    rw [List.length_cons] at this
    rw [e1, e2]; push_cast at this; omega
theorem MI.end {S : SS} {left l left' : List Ky} (h : MI pre S left l []) (hl' : left'.Nodup ∧ ∀ k, k ∈ left' ↔ (k ∈ left ∧ k ∉ l)) : SI pre S left' := by
  obtain ⟨r, er, n1, n2⟩ := h.rd
  refine ⟨h.g, fun k hk => h.lf k ((hl'.2 k).mp hk).1, hl'.1, fun k hk j hj hp => ?_, fun k hk => ?_, ⟨r, er, n1, fun k => ?_⟩, by have := h.fp; simpa using this⟩
  · obtain ⟨a1, a2⟩ := (hl'.2 k).mp hk
    refine (hl'.2 j).mpr ⟨h.up k a1 j hj hp, fun q => ?_⟩
    have := ((h.ll j).mp q).2 k a1
    rw [hp] at this; cases this
  · obtain ⟨a1, a2⟩ := (hl'.2 k).mp hk
    rw [h.np k a1 a2]
    congr 1
    refine List.Perm.length_eq ((List.perm_ext_iff_of_nodup (h.nl.filter _) (hl'.1.filter _)).mpr fun i => ?_)
    rw [List.mem_filter, List.mem_filter, hl'.2 i]
    simp
    constructor
    · rintro ⟨q1, q2, q3⟩; exact ⟨⟨q1, q3⟩, q2⟩
    · rintro ⟨⟨q1, q3⟩, q2⟩; exact ⟨q1, q2, q3⟩
  · rw [n2 k, hl'.2 k]
    constructor
    · rintro ⟨a1, a2, a3⟩
      exact ⟨⟨a1, a2⟩, fun i hi => a3 i ((hl'.2 i).mp hi).1 (.inl ((hl'.2 i).mp hi).2)⟩
    · rintro ⟨⟨a1, a2⟩, a3⟩
      refine ⟨a1, a2, fun i hi w => ?_⟩
      rcases w with w | w
      · exact a3 i ((hl'.2 i).mpr ⟨hi, w⟩)
      · cases w
end
end Mine
end
section
open PySem PySem.W PyProof.Rows PySem.SeqAt
set_option maxHeartbeats 1000000
namespace Mine
noncomputable def Zer (S : SS) : Prop := ∀ j, j ∉ S.ord → S.su j = [] ∧ S.np j = 0
theorem upd_self {α : Type} {f : Ky → α} {k : Ky} {v : α} (h : f k = v) : upd f k v = f := by
  funext j; unfold upd; split
  · rename_i e; rw [e, h]
  · rfl
section
variable {S : SS} {k : Ky}
theorem ens_su' (z : Zer S) : (S.ens k).su = S.su := by
  unfold SS.ens; split
  · rfl
  · rename_i h; exact upd_self (z k h).1
theorem ens_np' (z : Zer S) : (S.ens k).np = S.np := by
  unfold SS.ens; split
  · rfl
  · rename_i h; exact upd_self (z k h).2
theorem ens_ord {j : Ky} : j ∈ (S.ens k).ord ↔ (j ∈ S.ord ∨ j = k) := by
  unfold SS.ens; split
  · rename_i h
    exact ⟨.inl, fun q => q.elim id fun e => e ▸ h⟩
  · show j ∈ S.ord ++ [k] ↔ _
    rw [List.mem_append, List.mem_singleton]
theorem ens_nd (nd : S.ord.Nodup) : (S.ens k).ord.Nodup := by
  unfold SS.ens; split
  · exact nd
  · rename_i h
    show (S.ord ++ [k]).Nodup
    rw [List.nodup_append]
    exact ⟨nd, by simp, fun a ha b hb => by rw [List.mem_singleton.mp hb]; exact fun e => h (e ▸ ha)⟩
theorem ens_zer (z : Zer S) : Zer (S.ens k) := fun j hj => by
  rw [ens_su' z, ens_np' z]
  exact z j fun q => hj (ens_ord.mpr (.inl q))
end
theorem link_all {k : Ky} : ∀ (ps : List Ky) (S : SS), ps.Nodup → Zer S → S.ord.Nodup →
    (ps.foldl (linkOne k) S).ord.Nodup ∧ (∀ j, j ∈ (ps.foldl (linkOne k) S).ord ↔ (j ∈ S.ord ∨ j ∈ ps)) ∧ (∀ j, (ps.foldl (linkOne k) S).su j = if j ∈ ps then S.su j ++ [k] else S.su j) ∧ (ps.foldl (linkOne k) S).np = S.np ∧ Zer (ps.foldl (linkOne k) S)
  | [], S, _, z, nd => ⟨nd, fun j => by simp, fun j => by simp, rfl, z⟩
  | q :: ps, S, np, z, nd => by
    have np' := List.nodup_cons.mp np
    have hsu : (linkOne k S q).su = upd S.su q (S.su q ++ [k]) := by show upd (S.ens q).su q ((S.ens q).su q ++ [k]) = _; rw [ens_su' z]
    have hnp : (linkOne k S q).np = S.np := ens_np' z
    have ho : ∀ j, j ∈ (linkOne k S q).ord ↔ (j ∈ S.ord ∨ j = q) := fun j => ens_ord
    have z1 : Zer (linkOne k S q) := fun j hj => by
      have hj' : ¬ (j ∈ S.ord ∨ j = q) := fun e => hj ((ho j).mpr e)
      rw [hsu, hnp, upd_other (show j ≠ q from fun e => hj' (.inr e))]
      exact z j fun e => hj' (.inl e)
    obtain ⟨a1, a2, a3, a4, a5⟩ := link_all ps (linkOne k S q) np'.2 z1 (ens_nd nd)
    rw [List.foldl_cons]
    refine ⟨a1, fun j => ?_, fun j => ?_, a4.trans hnp, a5⟩
    · rw [a2 j, ho j, List.mem_cons]
      constructor
      · rintro ((h | h) | h)
        · exact .inl h
        · exact .inr (.inl h)
        · exact .inr (.inr h)
      · rintro (h | h | h)
        · exact .inl (.inl h)
        · exact .inl (.inr h)
        · exact .inr h
    · rw [a3 j, hsu]
      by_cases e : j = q
      · subst e; rw [if_neg np'.1, upd_same, if_pos List.mem_cons_self]
      · rw [upd_other e]
        by_cases h : j ∈ ps
        · rw [if_pos h, if_pos (List.mem_cons_of_mem _ h)]
        · rw [if_neg h, if_neg (by simp [e, h])]
theorem add_all {k : Ky} {ps : List Ky} {S : SS} (np : ps.Nodup) (z : Zer S) (nd : S.ord.Nodup) (hk : S.np k = 0) :
    (S.add k ps).ord.Nodup ∧ (∀ j, j ∈ (S.add k ps).ord ↔ (j ∈ S.ord ∨ j = k ∨ j ∈ ps)) ∧ (∀ j, (S.add k ps).su j = if j ∈ ps then S.su j ++ [k] else S.su j) ∧ (∀ j, (S.add k ps).np j = if j = k then (ps.length : Int) else S.np j) ∧ Zer (S.add k ps) := by
  have z1 : Zer { S.ens k with np := upd (S.ens k).np k ((S.ens k).np k + ps.length) } := fun j hj => by
    have hj : j ∉ (S.ens k).ord := hj
    have hj' : ¬ (j ∈ S.ord ∨ j = k) := fun e => hj (ens_ord.mpr e)
    refine ⟨(ens_zer z j hj).1, ?_⟩
    show upd (S.ens k).np k _ j = 0
    rw [upd_other (show j ≠ k from fun e => hj' (.inr e))]; exact (ens_zer z j hj).2
  obtain ⟨a1, a2, a3, a4, a5⟩ := link_all (k := k) ps _ np z1 (ens_nd nd)
  refine ⟨a1, fun j => ?_, fun j => ?_, fun j => ?_, a5⟩
  · show j ∈ (List.foldl (linkOne k) { S.ens k with np := upd (S.ens k).np k ((S.ens k).np k + ps.length) } ps).ord ↔ _
    rw [a2 j]
    show (j ∈ (S.ens k).ord ∨ _) ↔ _
    rw [ens_ord, or_assoc]
  · show (List.foldl (linkOne k) { S.ens k with np := upd (S.ens k).np k ((S.ens k).np k + ps.length) } ps).su j = _
    rw [a3 j]
    show (if _ then (S.ens k).su j ++ [k] else (S.ens k).su j) = _
    rw [ens_su' z]
  · show (List.foldl (linkOne k) { S.ens k with np := upd (S.ens k).np k ((S.ens k).np k + ps.length) } ps).np j = _
    rw [a4]
    show upd (S.ens k).np k ((S.ens k).np k + ps.length) j = _
    rw [ens_np' z, hk]
    by_cases e : j = k
    · subst e; rw [upd_same, if_pos rfl]; omega
    · rw [upd_other e, if_neg e]
theorem build_all : ∀ (G : List (Ky × Addr × List Ky)) (S : SS), (∀ g ∈ G, g.2.2.Nodup) → (G.map (·.1)).Nodup → Zer S → S.ord.Nodup → (∀ g ∈ G, S.np g.1 = 0) →
    (G.foldl addG S).ord.Nodup ∧ (∀ j, j ∈ (G.foldl addG S).ord ↔ (j ∈ S.ord ∨ ∃ g ∈ G, j = g.1 ∨ j ∈ g.2.2)) ∧ (∀ j, (G.foldl addG S).su j = S.su j ++ (G.filter fun g => decide (j ∈ g.2.2)).map (·.1)) ∧
      (∀ g ∈ G, (G.foldl addG S).np g.1 = g.2.2.length) ∧ (∀ j, j ∉ G.map (·.1) → (G.foldl addG S).np j = S.np j)
  | [], S, _, _, _, nd, _ => ⟨nd, fun j => by simp, fun j => by simp, fun g hg => (by cases hg), fun j _ => rfl⟩
  | g :: G, S, h1, h2, z, nd, h3 => by
    have h2' := List.nodup_cons.mp h2
    obtain ⟨a1, a2, a3, a4, a5⟩ := add_all (k := g.1) (h1 g List.mem_cons_self) z nd (h3 g List.mem_cons_self)
    have ne : ∀ g' ∈ G, g'.1 ≠ g.1 := fun g' hg' e => h2'.1 (List.mem_map.mpr ⟨g', hg', e⟩)
    obtain ⟨b1, b2, b3, b4, b5⟩ := build_all G (addG S g) (fun g' hg' => h1 g' (List.mem_cons_of_mem _ hg')) h2'.2 a5 a1 (fun g' hg' => by
      show (S.add g.1 g.2.2).np g'.1 = 0
      rw [a4, if_neg (ne g' hg')]; exact h3 g' (List.mem_cons_of_mem _ hg'))
    rw [List.foldl_cons]
    refine ⟨b1, fun j => ?_, fun j => ?_, fun g' hg' => ?_, fun j hj => ?_⟩
    · rw [b2 j]
      show (j ∈ (S.add g.1 g.2.2).ord ∨ _) ↔ _
      rw [a2 j]
      constructor
      · rintro ((h | h) | ⟨g', hg', h⟩)
        · exact .inl h
        · exact .inr ⟨g, List.mem_cons_self, h⟩
        · exact .inr ⟨g', List.mem_cons_of_mem _ hg', h⟩
      · rintro (h | ⟨g', hg', h⟩)
        · exact .inl (.inl h)
        · rcases List.mem_cons.mp hg' with rfl | hg'
          · exact .inl (.inr h)
          · exact .inr ⟨g', hg', h⟩
    · rw [b3 j]
      show (S.add g.1 g.2.2).su j ++ _ = _
      rw [a3 j, List.filter_cons]
      by_cases e : j ∈ g.2.2
      · rw [if_pos e, if_pos (by simpa using e)]; simp
      · rw [if_neg e, if_neg (by simpa using e)]
    · rcases List.mem_cons.mp hg' with rfl | hg'
      · rw [b5 _ h2'.1]
        show (S.add g'.1 g'.2.2).np g'.1 = _
        rw [a4, if_pos rfl]
      · exact b4 g' hg'
    · rw [List.map_cons, List.mem_cons] at hj
      rw [b5 j (fun q => hj (.inr q))]
      show (S.add g.1 g.2.2).np j = _
      rw [a4, if_neg (fun q => hj (.inl q))]
theorem build_SI {pre : Ky → Ky → Bool} {G : List (Ky × Addr × List Ky)} {left : List Ky} (h1 : ∀ g ∈ G, g.2.2.Nodup) (h2 : G.map (·.1) = left) (h3 : left.Nodup) (h4 : ∀ g ∈ G, ∀ i, i ∈ g.2.2 ↔ (i ∈ left ∧ pre i g.1 = true)) :
    SI pre (build G).prep left ∧ (∀ j, j ∈ (build G).ord ↔ j ∈ left) ∧ (build G).rd = none ∧ Graph pre (build G) := by
  obtain ⟨a1, a2, a3, a4, a5⟩ := build_all G SS0 h1 (by rw [h2]; exact h3) (fun j _ => ⟨rfl, rfl⟩) List.nodup_nil (fun _ _ => rfl)
  have hord : ∀ j, j ∈ (build G).ord ↔ j ∈ left := fun j => by
    show j ∈ (G.foldl addG SS0).ord ↔ _
    rw [a2 j]
    constructor
    · rintro (h | ⟨g, hg, h | h⟩)
      · cases h
      · rw [h, ← h2]; exact List.mem_map.mpr ⟨g, hg, rfl⟩
      · exact ((h4 g hg j).mp h).1
    · intro h
      rw [← h2] at h
      obtain ⟨g, hg, e⟩ := List.mem_map.mp h
      exact .inr ⟨g, hg, .inl e.symm⟩
  have gr : Graph pre (build G) := by
    refine ⟨a1, fun k hk => ⟨?_, fun j => ?_⟩⟩
    · show ((G.foldl addG SS0).su k).Nodup
      rw [a3 k]
      show ([] ++ _).Nodup
      rw [List.nil_append]
      have : ((G.filter fun g => decide (k ∈ g.2.2)).map (·.1)).Sublist (G.map (·.1)) := List.Sublist.map _ List.filter_sublist
      exact this.nodup (by rw [h2]; exact h3)
    · show j ∈ (G.foldl addG SS0).su k ↔ _
      rw [a3 k]
      show j ∈ [] ++ _ ↔ _
      rw [List.nil_append, List.mem_map, hord j]
      constructor
      · rintro ⟨g, hg, rfl⟩
        obtain ⟨g1, g2⟩ := List.mem_filter.mp hg
        refine ⟨by rw [← h2]; exact List.mem_map.mpr ⟨g, g1, rfl⟩, ((h4 g g1 k).mp (of_decide_eq_true g2)).2⟩
      · rintro ⟨q1, q2⟩
        rw [← h2] at q1
        obtain ⟨g, hg, rfl⟩ := List.mem_map.mp q1
        exact ⟨g, List.mem_filter.mpr ⟨hg, by simpa using (h4 g hg k).mpr ⟨(hord k).mp hk, q2⟩⟩, rfl⟩
  have hrd : (build G).rd = none ∧ (build G).po = 0 ∧ (build G).fi = 0 := by
    have : ∀ (G : List (Ky × Addr × List Ky)) (S : SS), (G.foldl addG S).rd = S.rd ∧ (G.foldl addG S).po = S.po ∧ (G.foldl addG S).fi = S.fi := by
      intro G
      induction G with
      | nil => intro S; exact ⟨rfl, rfl, rfl⟩
      | cons g G ih =>
        intro S
        obtain ⟨b1, b2, b3⟩ := ih (addG S g)
        obtain ⟨B, hB⟩ : ∃ B, ∀ j ∈ S.ord, (S.su j).length ≤ B := by
          refine ⟨(S.ord.map fun j => (S.su j).length).sum, fun j hj => ?_⟩
          generalize S.ord = o at hj
          induction o with
          | nil => cases hj
          | cons a r ih2 =>
            rw [List.map_cons, List.sum_cons]
            rcases List.mem_cons.mp hj with rfl | hj
            · omega
            · have := ih2 hj; omega
        obtain ⟨_, _, c1, c2, c3⟩ := add_size (S := S) (k := g.1) (ps := g.2.2) hB
        exact ⟨b1.trans c1, b2.trans c2, b3.trans c3⟩
    exact this G SS0
  have npk : ∀ k ∈ left, (build G).np k = ((left.filter fun i => pre i k).length : Int) := fun k hk => by
    rw [← h2] at hk
    obtain ⟨g, hg, rfl⟩ := List.mem_map.mp hk
    show (G.foldl addG SS0).np g.1 = _
    rw [a4 g hg]
    congr 1
    refine List.Perm.length_eq ((List.perm_ext_iff_of_nodup (h1 g hg) (h3.filter _)).mpr fun i => ?_)
    rw [h4 g hg i, List.mem_filter]
  refine ⟨⟨⟨gr.nd, gr.su⟩, fun k hk => (hord k).mpr hk, h3, fun k _ j hj _ => (hord j).mp hj, npk, ⟨_, rfl, gr.nd.filter _, fun k => ?_⟩, ?_⟩, hord, hrd.1, gr⟩
  · rw [List.mem_filter, hord k]
    constructor
    · rintro ⟨q1, q2⟩
      refine ⟨q1, fun i hi => ?_⟩
      rw [npk k q1] at q2
      have z : (left.filter fun i => pre i k).length = 0 := by have q2 : ((left.filter fun i => pre i k).length : Int) = 0 := by simpa using q2
                                                               omega
      rw [List.length_eq_zero_iff, List.filter_eq_nil_iff] at z
      have := z i hi
      simpa using this
    · rintro ⟨q1, q2⟩
      refine ⟨q1, ?_⟩
      rw [npk k q1, List.filter_eq_nil_iff.mpr (fun i hi => by rw [q2 i hi]; simp)]; rfl
  · show (build G).fi = (build G).po
    rw [hrd.2.1, hrd.2.2]
end Mine
end
section
open PySem PySem.W PyProof.Rows PySem.SeqAt
set_option maxHeartbeats 1000000
namespace Mine
noncomputable def lastFn : List Stmt → List Stmt × Scope
  | [.FunctionDef _ _ b _ _ _ sc _ _ _] => (b, sc)
  | _ :: r => lastFn r
  | [] => ([], default)
noncomputable def lawBody : List Stmt := (lastFn PySem.Challenge.pw_ny0306_01.main.body).1
noncomputable def lawScope : Scope := (lastFn PySem.Challenge.pw_ny0306_01.main.body).2
noncomputable def Two (hp h1 hr : Addr → Option (O Ky)) : Prop := (∀ b o, h1 b = some o → hp b = some o) ∧ (∀ b o, hr b = some o → hp b = some o) ∧ ∀ b, hr b ≠ none → h1 b = none
theorem Two.put {hp h1 hr : Addr → Option (O Ky)} {X : Addr} {o : O Ky} (t : Two hp h1 hr) (h : h1 X = none) : Two (put hp X o) h1 (put hr X o) :=
  ⟨fun b o e => (put_other (fun q => by rw [q, h] at e; cases e)).trans (t.1 b o e), put_mono t.2.1, fun b hb => by
    by_cases q : b = X
    · rw [q]; exact h
    · rw [put_other q] at hb; exact t.2.2 b hb⟩
section
variable {prog : Program} {w : World} {Γ : Fx} {σ : MS Ky} {A : Around} {env : Env} {α : Type} {s : Shared} {Q : Value → MS Ky → Prop} {QB : Bool → MS Ky → Prop} {QU : Unit → MS Ky → Prop} {QF : Flow → MS Ky → Prop}
variable {p : Program} {loose : List Str} {mg mb : Str → Option Value} {t u v : Tok} {n : Nat} {l : Addr} {a : Ad} {S : SS} {k : Ky}
theorem m_two {α : Type} {c : Sem α} {Q : α → MS Ky → Prop} {Q0 : α → (Addr → Option (O Ky)) → Prop} {m : Str → Option V} {hp h1 hr : Addr → Option (O Ky)} (t : Two hp h1 hr)
    (h : ∀ B' sub', mwp (kyK prog w) { Γ with B := B', sub := sub' } A c (fun v σ₁ => σ₁.m = m ∧ Q0 v σ₁.h) ⟨m, h1⟩) (k : ∀ v hp' h1', Two hp' h1' hr → Q0 v h1' → Q v ⟨m, hp'⟩) : mwp (kyK prog w) Γ A c Q ⟨m, hp⟩ := by
  refine mwp_mono (m_aside (σ := ⟨m, hp⟩) (h0 := h1) t.1 h) ?_
  rintro v ⟨m', hp'⟩ ⟨⟨m1, h1'⟩, ⟨q1, q2⟩, e1, e2, e3, e4⟩
  have e1 : m' = m1 := e1
  have q1 : m1 = m := q1
  subst e1 q1
  refine k v hp' h1' ⟨e2, fun b o e => e3 b o (t.2.1 b o e) (t.2.2 b (by rw [e]; exact nofun)), fun b hb => ?_⟩ q2
  refine e4 b ?_ (t.2.2 b hb)
  cases z : hr b with
  | none => exact absurd z hb
  | some o => show hp b ≠ none; rw [t.2.1 b o z]; exact nofun
theorem m_sorter {dN : Addr} {ep : Nat} {G : List (Ky × Addr × List Ky)} (hG : σ.h dN = some (.dict (G.map fun g => (g.1, V.ref g.2.1)) ep)) (hl : ∀ g ∈ G, σ.h g.2.1 = some (.list (g.2.2.map kyV)) ∧ g.2.2.length ≤ 10) (hGl : G.length ≤ 40) (Z : Here (Mine.hd1.heap_1 w.params) p loose mg mb Γ.base) (hA : Dp A (n + 5))
    (h : ∀ a h1 hq, Rep a (build G) h1 → Two hq h1 σ.h → Q (.ref a.x) ⟨σ.m, hq⟩) : mwp (kyK prog w) Γ A (call (.ref 137) [.ref dN]) Q σ := by
  refine c_make (fI := 73) Z.X fun x dx n1 n2 n12 => ?_
  refine c_init (h0 := σ.h) rfl n1 n2 n12 hG hl hGl Z hA.make fun a h1 hq ea r s0 s1 dj => ⟨rfl, ?_⟩
  have := h a h1 hq r ⟨s1, s0, dj⟩
  rw [ea] at this
  exact this
end
end Mine
end
section
open PySem PySem.W PyProof.Rows PySem.SeqAt
set_option maxHeartbeats 16000000
namespace Mine
noncomputable def rng6 : List Int := [0, 1, 2, 3, 4, 5]
noncomputable def fm (FM : List (List Int)) (i j : Int) : Int := (FM.getD i.toNat []).getD j.toNat 0
noncomputable def needs (FM : List (List Int)) (e j : Int) : List Int := rng6.filter fun i => i != j && fm FM e i + fm FM i j == fm FM e j
noncomputable def eyeBody : List Stmt := match lawBody.drop 10 with
  | .For _ _ b _ _ :: _ => b
  | _ => []
noncomputable abbrev lenv (L fa : Addr) (cdv : Value) : Env := envOfC "law" lawScope L fa cdv
theorem rng6_mem {j : Int} (h : j ∈ rng6) : ∃ k : Nat, j = (k : Int) ∧ k < 6 := by
  simp [rng6] at h
  rcases h with rfl | rfl | rfl | rfl | rfl | rfl
  · skip
    exact ⟨0, rfl, by omega⟩
  · skip
    exact ⟨1, rfl, by omega⟩
  · skip
    exact ⟨2, rfl, by omega⟩
  · skip
    exact ⟨3, rfl, by omega⟩
  · skip
    exact ⟨4, rfl, by omega⟩
  · skip
    exact ⟨5, rfl, by omega⟩
theorem rng6_eq : (List.range 6).map (fun i : Nat => V.int (0 + (i : Nat) * 1)) = rng6.map V.int := by rfl
theorem map_getD {l : List Int} {k : Nat} (h : k < l.length) : (l.map V.int)[k]? = some (.int (l.getD k 0)) := by
  rw [List.getElem?_map, List.getElem?_eq_getElem h, List.getD_eq_getElem?_getD, List.getElem?_eq_getElem h]; rfl
theorem get_fm {FM : List (List Int)} {e k : Nat} (h : (FM.getD e []).length = 6) (hk : k < 6) : ((FM.getD e []).map V.int)[k]? = some (.int (fm FM e k)) := by
  rw [map_getD (by omega)]; rfl
noncomputable def xsOf (M : List Int) (e : Int) : List Int := M.map fun m => Builtin.bitXor m (msk M e)
noncomputable def preE (M : List Int) (e i j : Int) : Bool := i != j && Builtin.bitAnd (msk (xsOf M e) i) (msk (xsOf M e) j) == msk (xsOf M e) i
structure PE (M : List Int) (FM : List (List Int)) (e : Int) : Prop where
  pq : ∀ i ∈ rng6, ∀ j ∈ rng6, (i != j && fm FM e i + fm FM i j == fm FM e j) = preE M e i j
  lt : ∀ i ∈ rng6, ∀ j ∈ rng6, preE M e i j = true → msk (xsOf M e) i < msk (xsOf M e) j
  b : ∀ i ∈ rng6, 0 ≤ msk (xsOf M e) i ∧ msk (xsOf M e) i < 8
theorem sorted_unique : ∀ {a b : List Int}, a.Perm b → a.Pairwise (· ≤ ·) → b.Pairwise (· ≤ ·) → a = b
  | [], b, h, _, _ => (List.nil_perm.mp h).symm ▸ rfl
  | x :: a, b, h, ha, hb => by
    cases b with
    | nil => exact absurd h.symm (by simp)
    | cons y b =>
      have h1 := List.pairwise_cons.mp ha
      have h2 := List.pairwise_cons.mp hb
      have e : x = y := by
        have m1 : x ∈ y :: b := h.mem_iff.mp List.mem_cons_self
        have m2 : y ∈ x :: a := h.mem_iff.mpr List.mem_cons_self
        rcases List.mem_cons.mp m1 with q | q
        · exact q
        · rcases List.mem_cons.mp m2 with z | z
          · exact z.symm
          · exact Int.le_antisymm (h1.1 y z) (h2.1 x q)
      subst e
      rw [sorted_unique (List.perm_cons x |>.mp h) h1.2 h2.2]
theorem low_mem {M : List Int} {e : Int} {left : List Int} {k : Int} : k ∈ lowOf (xsOf M e) left ↔ (k ∈ left ∧ ∀ i ∈ left, preE M e i k = false) := by
  unfold lowOf
  rw [List.mem_filter, decide_eq_true_eq]
  unfold under
  rw [List.filter_eq_nil_iff]
  skip
  exact ⟨fun ⟨h1, h2⟩ => ⟨h1, fun i hi => by have := h2 i hi; exact Bool.eq_false_iff.mpr this⟩, fun ⟨h1, h2⟩ => ⟨h1, fun i hi => by have := h2 i hi; exact Bool.eq_false_iff.mp this⟩⟩
theorem left_mem {ms left : List Int} {k : Int} : k ∈ leftOf ms left ↔ (k ∈ left ∧ k ∉ lowOf ms left) := by
  unfold leftOf
  rw [List.mem_filter]
  constructor
  · rintro ⟨h1, h2⟩
    skip
    refine ⟨h1, fun q => ?_⟩
    have : (lowOf ms left).any (· == k) = true := List.any_eq_true.mpr ⟨k, q, by simp⟩
    rw [this] at h2; cases h2
  · rintro ⟨h1, h2⟩
    skip
    refine ⟨h1, ?_⟩
    cases z : (lowOf ms left).any (· == k) with
    | false => rfl
    | true =>
      obtain ⟨q, hq, e⟩ := List.any_eq_true.mp z
      have : q = k := by simpa using e
      exact absurd (this ▸ hq) h2
theorem low_ne {M : List Int} {FM : List (List Int)} {e : Int} (pe : PE M FM e) {left : List Int} (hl : ∀ k ∈ left, k ∈ rng6) (hne : left ≠ []) : lowOf (xsOf M e) left ≠ [] := by
  -- a least one
  have : ∀ l : List Int, l ≠ [] → ∃ k ∈ l, ∀ i ∈ l, msk (xsOf M e) k ≤ msk (xsOf M e) i := by
    intro l
    induction l with
    | nil => intro h; exact absurd rfl h
    | cons a r ih =>
      intro _
      by_cases hr : r = []
      · subst hr; exact ⟨a, List.mem_cons_self, fun i hi => by rw [List.mem_singleton.mp hi]; exact Int.le_refl _⟩
      · obtain ⟨k, hk, hm⟩ := ih hr
        by_cases q : msk (xsOf M e) a ≤ msk (xsOf M e) k
        · skip
          exact ⟨a, List.mem_cons_self, fun i hi => by
            rcases List.mem_cons.mp hi with rfl | hi
            · exact Int.le_refl _
            · exact Int.le_trans q (hm i hi)⟩
        · skip
          exact ⟨k, List.mem_cons_of_mem _ hk, fun i hi => by
            rcases List.mem_cons.mp hi with rfl | hi
            · omega
            · exact hm i hi⟩
  obtain ⟨k, hk, hm⟩ := this left hne
  refine List.ne_nil_of_mem (low_mem.mpr ⟨hk, fun i hi => ?_⟩)
  cases z : preE M e i k with
  | false => rfl
  | true =>
    have h1 := pe.lt i (hl i hi) k (hl k hk) z
    have h2 := hm i hi
    omega
theorem nodup_len : ∀ {l r : List Int}, l.Nodup → (∀ k ∈ l, k ∈ r) → l.length ≤ r.length
  | [], r, _, _ => Nat.zero_le _
  | x :: l, r, nd, h => by
    have nd' := List.nodup_cons.mp nd
    have hx := h x List.mem_cons_self
    have := nodup_len (l := l) (r := r.erase x) nd'.2 fun k hk => (List.mem_erase_of_ne (show k ≠ x from fun q => nd'.1 (q ▸ hk))).mpr (h k (List.mem_cons_of_mem _ hk))
    have e := List.length_erase_of_mem hx
    have : 0 < r.length := List.length_pos_of_mem hx
    rw [List.length_cons]; omega
structure Kp (L : Addr) (hp hq : Addr → Option (O Ky)) : Prop where
  sub : ∀ b o, b ≠ L + 1 + 1 + 1 + 1 → hp b = some o → hq b = some o
  c4 : ∃ vj, hq (L + 1 + 1 + 1 + 1) = some (.cell vj)
theorem Kp.fresh {L X : Addr} {hp hq : Addr → Option (O Ky)} {o : O Ky} (k : Kp L hp hq) (hX : hq X = none) : Kp L hp (put hq X o) :=
  ⟨fun b o hb e => sub_put hX (k.sub b o hb e), let ⟨vj, e⟩ := k.c4; ⟨vj, sub_put hX e⟩⟩
theorem Kp.setJ {L : Addr} {hp hq : Addr → Option (O Ky)} {v : Option V} (k : Kp L hp hq) : Kp L hp (put hq (L + 1 + 1 + 1 + 1) (.cell v)) :=
  ⟨fun b o hb e => (put_other hb).trans (k.sub b o hb e), ⟨v, put_same⟩⟩
theorem Kp.own {L X : Addr} {hp hq : Addr → Option (O Ky)} {o : O Ky} (k : Kp L hp hq) (hX : hp X = none) (hne : X ≠ L + 1 + 1 + 1 + 1) : Kp L hp (put hq X o) :=
  ⟨fun b o hb e => (put_other (fun q => by rw [q, hX] at e; cases e)).trans (k.sub b o hb e), let ⟨vj, e⟩ := k.c4; ⟨vj, (put_other (Ne.symm hne)).trans e⟩⟩
section
variable {prog : Program} {w : World} {Γ : Fx} {σ : MS Ky} {A : Around} {env : Env} {α : Type} {s : Shared} {Q : Value → MS Ky → Prop} {QB : Bool → MS Ky → Prop} {QU : Unit → MS Ky → Prop} {QF : Flow → MS Ky → Prop}
variable {p : Program} {loose : List Str} {mg mb : Str → Option Value} {t u v : Tok} {n : Nat} {l : Addr} {a : Ad} {S : SS} {k : Ky}
theorem law_eye3 {fa Dm Dr : Addr} {cdv : Value} {M : List Int} {e : Nat} {vj : Option V} {hp hp5 hr5 : Addr → Option (O Ky)} {as : List Addr} {acc : List (List Int)}
    (he : e < 2) (hM : M.length = 6) (c2 : hp (Γ.L + 1 + 1) = some (.cell (some (.ref Dm)))) (dm : hp Dm = some (.list (M.map V.int))) (c4 : hp (Γ.L + 1 + 1 + 1 + 1) = some (.cell vj)) (c5 : hp (Γ.L + 1 + 1 + 1 + 1 + 1) = some (.cell (some (.int (e : Nat)))))
    (s5 : ∀ b o, hr5 b = some o → hp5 b = some o) (kp5 : Kp Γ.L hp hr5) (hdr : hr5 Dr = some (.list (as.map .ref))) (rows : Rows hr5 as acc) (eres : roundsF (xsOf M e) 6 rng6 [] = some acc)
    (Z : Here (Mine.hd1.heap_1 w.params) p loose mg mb Γ.base) (hA : Dp A (n + 6)) :
    mwp (kyK prog w) Γ A (execs (eyeBody.drop 6) (lenv Γ.L fa cdv)) (fun f σ' => f = .next ∧ ∃ hp', (∀ b o, hp' b = some o → σ'.h b = some o) ∧ Kp Γ.L hp hp') ⟨names [("rounds", .ref Dr)], hp5⟩ := by
  have hh : A.handled = none := hA.hd
  obtain ⟨vj5, c45⟩ := kp5.c4
  have c2' := s5 _ _ (kp5.sub _ _ (by simp) c2)
  have c5' := s5 _ _ (kp5.sub _ _ (by simp) c5)
  have hdm : Dm ≠ Γ.L + 1 + 1 + 1 + 1 := fun q => by rw [q, c4] at dm; cases dm
  have dm' := s5 _ _ (kp5.sub _ _ hdm dm)
  refine m_abs fun Zq0 hZq0 => ?_
  refine m_cons ?_
  refine m_If ?_
  refine m_isCompare ?_
  refine evR (EvP.nm (v := .ref _) (by rfl)) ?_
  refine m_Call ?_
  refine m_Name ?_
  first | refine m_gK (by assumption) ?_ | refine m_gB (by assumption) ?_
  refine m_callZ (by assumption) ?_
  refine m_splE ?_
  refine m_Comp ?_
  refine evR (EvP.cell c2') ?_
  refine ⟨_, _, _, yields_list hh (xs := M.map V.int), by rw [List.length_map, hM]; decide, fun σ' hs => hs _ _ dm', fun _ => true, fun y => match y with | .int i => .int (Builtin.bitXor i (msk M e)) | y => y, ?_, ?_⟩
  · intro y hy C I ob hb D od hd
    obtain ⟨i1, hi1, rfl⟩ := List.mem_map.mp hy
    skip
    refine ⟨rfl, ?_⟩
    skip
    refine itrue rfl ?_
    refine m_BinOp ?_
    refine evI (EvP.nm (v := .int _) (by rfl)) fun _ => ?_
    refine m_Sub ?_
    refine evR (EvP.cell c2') ?_
    refine evI (EvP.cell c5') fun _ => ?_
    refine m_atLi (k := e) (z := msk M e) dm' (by omega) (by rw [map_getD (by omega)]; rfl) fun _ => ?_
    refine m_xor fun _ => ?_
    exact ⟨fun _ _ e => e, _, rfl⟩
  intro Dx hDx
  have hDx : hp5 Dx = none := hDx
  have ex : List.map (fun y => match y with | V.int i => V.int (Builtin.bitXor i (msk M e)) | y => y) (List.filter (fun x => true) (M.map V.int)) = (xsOf M e).map V.int := by
    rw [filter_all, List.map_map]; unfold xsOf; rw [List.map_map]; rfl
  rw [ex]
  refine m_splE0 ?_
  have hxl : (xsOf M e).length = 6 := by unfold xsOf; rw [List.length_map, hM]
  refine m_code (c_rounds (ms := xsOf M e) (N := 6) (res := acc) (by omega) (by omega) (by rw [hxl]; exact eres) put_same Z (hA.le (by omega) : Dp A (n + 1)) fun D9 h9 hs9 hn9 _ => ?_)
  skip
  have hsub : ∀ b o, hr5 b = some o → h9 b = some o := fun b o e => hs9 b o (sub_put hDx (s5 b o e))
  refine m_neNest (res := acc) (by have := hA.un; omega) ⟨as, hsub _ _ hdr, rows.mono fun a _ o e => hsub a o e⟩ hn9 ?_
  refine m_trBool ?_
  skip
  refine ifalse (by decide) ?_
  refine m_nil ?_
  refine m_nil ?_
  refine hZq0 _ _ ?_
  exact ⟨rfl, hr5, hsub, kp5⟩
end
end Mine
end
section
open PySem PySem.W PyProof.Rows PySem.SeqAt
set_option maxHeartbeats 4000000
namespace Mine
noncomputable def whBody : List Stmt := match eyeBody.drop 5 with
  | .While _ b _ _ :: _ => b
  | _ => []
section
variable {prog : Program} {w : World} {Γ : Fx} {σ : MS Ky} {A : Around} {env : Env} {α : Type} {s : Shared} {Q : Value → MS Ky → Prop} {QB : Bool → MS Ky → Prop} {QU : Unit → MS Ky → Prop} {QF : Flow → MS Ky → Prop}
variable {p : Program} {loose : List Str} {mg mb : Str → Option Value} {t u v : Tok} {n : Nat} {a : Ad} {S : SS} {k : Ky}
structure HR (L Dr : Addr) (hp hr : Addr → Option (O Ky)) (as : List Addr) (acc : List (List Int)) : Prop where
  kp : Kp L hp hr
  dr : hr Dr = some (.list (as.map .ref))
  rows : Rows hr as acc
theorem HR.setJ {L Dr : Addr} {hp hr : Addr → Option (O Ky)} {as : List Addr} {acc : List (List Int)} {v : Option V} (h : HR L Dr hp hr as acc) : HR L Dr hp (put hr (L + 1 + 1 + 1 + 1) (.cell v)) as acc := by
  obtain ⟨vj, c4⟩ := h.kp.c4
  skip
  exact ⟨h.kp.setJ, put_diff h.dr c4 (by intro q; cases q), h.rows.diff c4 (fun _ q => by cases q)⟩
theorem law_hand {fa T Dr : Addr} {cdv : Value} {pre : Ky → Ky → Bool} {left l : List Ky} {as : List Addr} {acc : List (List Int)} {hp hp9 h9 hr9 : Addr → Option (O Ky)}
    (tw9 : Two hp9 h9 hr9) (r9 : Rep a S h9) (mi : MI pre S left l l) (l6 : ∀ k ∈ left, k ∈ rng6) (o6 : ∀ k ∈ S.ord, k ∈ rng6) (hr : HR Γ.L Dr hp hr9 as acc) (hT9 : hr9 T = some (.tuple (l.map kyV)))
    (Z : Here (Mine.hd1.heap_1 w.params) p loose mg mb Γ.base) (hA : Dp A (n + 6)) :
    mwp (kyK prog w) Γ A (execs (whBody.drop 2) (lenv Γ.L fa cdv)) (fun f σ' => f = .next ∧ ∃ hp9 h9 hr9 S9, Fit σ' (names [("sorter", .ref a.x), ("rounds", .ref Dr)]) hp9 ∧ Two hp9 h9 hr9 ∧ Rep a S9 h9 ∧ MI pre S9 left l [] ∧ (∀ k ∈ S9.ord, k ∈ rng6) ∧ HR Γ.L Dr hp hr9 as acc)
      ⟨names [("sorter", .ref a.x), ("rounds", .ref Dr), ("handed", .ref T)], hp9⟩ := by
  have hh : A.handled = none := hA.hd
  have ml := mi.ll
  refine m_abs fun Zq0 hZq0 => ?_
  refine m_cons ?_
  refine m_ForG ?_
  refine evR (EvP.nm (v := .ref _) (by rfl)) ?_
  refine ⟨_, _, _, yields_tuple hh (xs := l.map kyV), fun i σ' => ∃ hp9 h9 hr9 S9, Fit σ' (names [("sorter", .ref a.x), ("rounds", .ref Dr)]) hp9 ∧ Two hp9 h9 hr9 ∧ Rep a S9 h9 ∧ MI pre S9 left l (l.drop i) ∧ (∀ k ∈ S9.ord, k ∈ rng6) ∧ HR Γ.L Dr hp hr9 as acc ∧ hr9 T = some (.tuple (l.map kyV)),
    ⟨hp9, h9, hr9, _, by walk_at "ms_fit", tw9, r9, by simpa using mi, o6, hr, hT9⟩, ?_, ?_, ?_⟩
  · rintro i σ' ⟨hp9, h9, hr9, S9, hf, tw, _, _, _, _, q⟩; exact hf.2 _ _ (tw.2.1 _ _ q)
  · clear tw9 hr hT9 r9 mi o6 hr9 hp9 h9
    rintro i y v' σ' I ob hb hy iv ⟨hp9, h9, hr9, S9, hf, tw9, r9, mi, o9, hr, hT9⟩
    obtain ⟨j, hj, rfl⟩ := map_get hy
    obtain ⟨tj, rfl⟩ := iv
    refine m_fit hf ?_
    clear hf
    obtain ⟨vj9, c49⟩ := hr.kp.c4
    have hdrop : l.drop i = j :: l.drop (i + 1) := by
      have hi := List.getElem?_eq_some_iff.mp hj
      rw [List.drop_eq_getElem_cons hi.1, hi.2]
    rw [hdrop] at mi
    refine m_storeCell (v := .int j) (c := Γ.L + 1 + 1 + 1 + 1) ⟨_, rfl⟩ (tw9.2.1 _ _ c49) ?_
    have tw10 := tw9.put (X := Γ.L + 1 + 1 + 1 + 1) (o := .cell (some (.int j))) (tw9.2.2 _ (by rw [c49]; exact nofun))
    have hr10 := hr.setJ (v := some (.int j))
    have hT10 : put hr9 (Γ.L + 1 + 1 + 1 + 1) (.cell (some (.int j))) T = some (.tuple (l.map kyV)) := put_diff hT9 c49 (by intro q; cases q)
    have c410 : put hp9 (Γ.L + 1 + 1 + 1 + 1) (.cell (some (.int j))) (Γ.L + 1 + 1 + 1 + 1) = some (.cell (some (.int j))) := put_same
    refine m_weak (m' := names [("sorter", .ref a.x), ("rounds", .ref Dr)]) (h' := put hp9 (Γ.L + 1 + 1 + 1 + 1) (.cell (some (.int j)))) (by walk_at "ms_sub") (fun _ _ e => e) ?_
    revert tw10 hr10 hT10 c410
    generalize put hp9 (Γ.L + 1 + 1 + 1 + 1) (.cell (some (.int j))) = hp10
    generalize put hr9 (Γ.L + 1 + 1 + 1 + 1) (.cell (some (.int j))) = hrr
    intro tw10 hr10 hT10 c410
    have hx := tw10.1 _ _ r9.hx
    have hdx := tw10.1 _ _ r9.hdx
    unfold fieldsOf at hdx
    obtain ⟨rr, err, nrr, mrr⟩ := mi.rd
    have hjl := mi.tl j List.mem_cons_self
    have hjo := mi.lf j ((ml j).mp hjl).1
    have hrr6 : rr.length ≤ 6 := nodup_len nrr fun k hk => l6 k ((mrr k).mp hk).1
    have hsu6 : (S9.su j).length ≤ 6 := nodup_len (mi.g.su j hjo).1 fun k hk => o9 k (((mi.g.su j hjo).2 k).mp hk).1
    refine m_abs fun Zq1 hZq1 => ?_
    refine m_cons ?_
    refine m_Expr ?_
    refine m_Method ?_
    refine evR (EvP.nm (v := .ref _) (by rfl)) ?_
    refine m_method (Here.X (by assumption)) (by walk_at "hl") (by walk_at "hl") (by rfl) ?_
    refine m_callZ (by assumption) ?_
    refine m_splE ?_
    refine evI (EvP.cell c410) fun _ => ?_
    refine m_splE0 ?_
    refine m_two (Q0 := fun v h1'' => Rep a (doneOne S9 j) h1'') tw10 (fun B' sub' => m_code (c_done (k := j) r9 err hjo (mi.out j List.mem_cons_self) (by omega) (fun s hs => (((mi.g.su j hjo).2 s).mp hs).1) (by exact Z) (by exact (hA.le (by omega) : Dp A n)) fun h' r' => ⟨rfl, r'⟩)) ?_
    rintro v hp11 h11 tw11 r11
    refine m_nil ?_
    refine hZq1 _ _ ?_
    exact ⟨hp11, h11, hrr, doneOne S9 j, by walk_at "ms_fit", tw11, r11, mi.done, fun k hk => o9 k (by rw [← show (doneOne S9 j).ord = S9.ord from tell_ord _ _]; exact hk), hr10, hT10⟩
  · rintro σ' ⟨hp9, h9, hr9, S9, hf, tw9, r9, mi, o9, hr, hT9⟩
    rw [List.length_map, List.drop_length] at mi
    refine m_nil ?_
    refine hZq0 _ _ ?_
    exact ⟨rfl, hp9, h9, hr9, S9, hf, tw9, r9, mi, o9, hr⟩
end
end Mine
end
section
open PySem PySem.W PyProof.Rows PySem.SeqAt
set_option maxHeartbeats 16000000
namespace Mine
section
variable {prog : Program} {w : World} {Γ : Fx} {σ : MS Ky} {A : Around} {env : Env} {α : Type} {s : Shared} {Q : Value → MS Ky → Prop} {QB : Bool → MS Ky → Prop} {QU : Unit → MS Ky → Prop} {QF : Flow → MS Ky → Prop}
variable {p : Program} {loose : List Str} {mg mb : Str → Option Value} {t u v : Tok} {n : Nat} {l : Addr} {a : Ad} {S : SS} {k : Ky}
theorem law_turn {fa Dr : Addr} {cdv : Value} {M : List Int} {e : Nat} {left l : List Ky} {as : List Addr} {acc : List (List Int)} {a' : Ad} {hp hp6 h1 hr5 : Addr → Option (O Ky)}
    (tw6 : Two hp6 h1 hr5) (r : Rep a' S h1) (si : SI (preE M e) S left) (pw : left.Pairwise (· < ·)) (l6 : ∀ k ∈ left, k ∈ rng6) (o6 : ∀ k ∈ S.ord, k ∈ rng6) (hr : HR Γ.L Dr hp hr5 as acc) (nas : ∀ x ∈ as, x ≠ Dr) (hDr0 : hp Dr = none) (ndr : Dr ≠ Γ.L + 1 + 1 + 1 + 1)
    (hrd : S.rd = some l) (nl : l.Nodup) (ml : ∀ k, k ∈ l ↔ (k ∈ left ∧ ∀ i ∈ left, preE M e i k = false)) (haf : acc.length ≤ 6)
    (Z : Here (Mine.hd1.heap_1 w.params) p loose mg mb Γ.base) (hA : Dp A (n + 6)) :
    mwp (kyK prog w) Γ A (execs whBody (lenv Γ.L fa cdv)) (fun f σ' => f = .next ∧ ∃ hp9 h9 hr9 S9 D9, Fit σ' (names [("sorter", .ref a'.x), ("rounds", .ref Dr)]) hp9 ∧ Two hp9 h9 hr9 ∧ Rep a' S9 h9 ∧ SI (preE M e) S9 (leftOf (xsOf M e) left) ∧ (∀ k ∈ S9.ord, k ∈ rng6) ∧ HR Γ.L Dr hp hr9 (as ++ [D9]) (acc ++ [lowOf (xsOf M e) left]) ∧ ∀ x ∈ as ++ [D9], x ≠ Dr)
      ⟨names [("sorter", .ref a'.x), ("rounds", .ref Dr)], hp6⟩ := by
  have hh : A.handled = none := hA.hd
  have hl6 : l.length ≤ 6 := nodup_len nl fun k hk => l6 k ((ml k).mp hk).1
  obtain ⟨kp5, hdr, rows⟩ := hr
  have hx := tw6.1 _ _ r.hx
  have hdx := tw6.1 _ _ r.hdx
  unfold fieldsOf at hdx
  refine m_abs fun Zq0 hZq0 => ?_
  refine m_cons ?_
  refine m_AssignName ?_
  refine m_Method ?_
  refine evR (EvP.nm (v := .ref _) (by rfl)) ?_
  refine m_method (Here.X (by assumption)) (by walk_at "hl") (by walk_at "hl") (by rfl) ?_
  refine m_callZ0 (by assumption) ?_
  refine m_two (Q0 := fun v h1'' => ∃ T h', v = .ref T ∧ h1'' = put h' T (.tuple (l.map kyV)) ∧ Rep a' (readyS S l) h' ∧ h' T = none) tw6 (fun B' sub' => m_code (c_get_ready r hrd (by omega) (fun k hk => si.lf k ((ml k).mp hk).1) (by exact Z) (by exact (hA.le (by omega) : Dp A n)) fun T h' r' hT _ => ⟨rfl, T, h', rfl, rfl, r', hT⟩)) ?_
  rintro v hp7 _ tw7 ⟨T, h7, rfl, rfl, r7, hT7⟩
  have hrT : hr5 T = none := by
    cases z : hr5 T with
    | none => rfl
    | some o => have := tw7.2.2 T (by rw [z]; exact nofun); rw [put_same] at this; cases this
  have tw8 : Two hp7 h7 (put hr5 T (.tuple (l.map kyV))) := ⟨fun b o e => tw7.1 b o (sub_put hT7 e), fun b o e => by
    by_cases q : b = T
    · subst q; rw [put_same] at e; cases e; exact tw7.1 _ _ put_same
    · rw [put_other q] at e; exact tw7.2.1 b o e, fun b hb => by
    by_cases q : b = T
    · rw [q]; exact hT7
    · rw [put_other q] at hb; have := tw7.2.2 b hb; rw [put_other q] at this; exact this⟩
  have hpT := tw8.2.1 T _ put_same
  have hpDr := tw7.2.1 _ _ hdr
  refine m_str' ?_
  refine m_cons ?_
  refine m_Expr ?_
  refine m_Method ?_
  refine evR (EvP.nm (v := .ref _) (by rfl)) ?_
  refine m_methList (by walk_at "hl") PySem.F.slot_list_append PySem.F.type_list_append ?_
  refine m_callB ?_
  refine m_splE ?_
  refine m_abs fun Zq1 hZq1 => ?_
  refine m_Call ?_
  refine m_Name ?_
  first | refine m_gK (by assumption) ?_ | refine m_gB (by assumption) ?_
  refine m_callB ?_
  refine m_splE ?_
  refine evR (EvP.nm (v := .ref _) (by rfl)) ?_
  refine m_splE0 ?_
  refine m_sortedT (ns := l) hpT (by omega) fun D9 ns' hperm hsort hD9 => ?_
  have hns : ns' = lowOf (xsOf M e) left := by
    have hp2 : l.Perm (lowOf (xsOf M e) left) := (List.perm_ext_iff_of_nodup nl ((si.nl).filter _)).mpr fun k => by rw [ml k]; exact low_mem.symm
    refine sorted_unique (hperm.trans hp2) hsort ?_
    exact (pw.imp fun h => Int.le_of_lt h).filter _
  have hD9 : hp7 D9 = none := hD9
  have n9 : Dr ≠ D9 := ne_none hpDr hD9
  refine hZq1 _ _ ?_
  refine m_splE0 ?_
  refine m_append (x := .ref D9) (by walk_at "hl") rfl ?_ ?_
  · rw [List.length_map, rows.length]; exact Nat.le_trans (show acc.length ≤ 1000 by omega) (by decide)
  skip
  rw [hns]
  have tw9 := (tw8.put (X := D9) (o := .list ((lowOf (xsOf M e) left).map V.int)) (none_sub tw8.1 hD9)).put (X := Dr) (o := .list ((as ++ [D9]).map .ref)) (tw7.2.2 Dr (by rw [hdr]; exact nofun) |> fun q => by
    have nT : Dr ≠ T := fun z => by rw [z, hrT] at hdr; cases hdr
    rw [put_other nT] at q; exact q)
  have hrD9 : put hr5 T (.tuple (l.map kyV)) D9 = none := none_sub tw8.2.1 hD9
  have kp9 := ((kp5.fresh (o := .tuple (l.map kyV)) hrT).fresh (o := .list ((lowOf (xsOf M e) left).map V.int)) hrD9).own (X := Dr) (o := .list ((as ++ [D9]).map .ref)) hDr0 ndr
  have rows9 : Rows (put (put (put hr5 T (.tuple (l.map kyV))) D9 (.list ((lowOf (xsOf M e) left).map V.int))) Dr (.list ((as ++ [D9]).map .ref))) (as ++ [D9]) (acc ++ [lowOf (xsOf M e) left]) := by
    refine Rows.snoc ?_ ((put_other (Ne.symm n9)).trans put_same)
    exact ((rows.fresh hrT).fresh hrD9).other nas
  have hT9 : put (put (put hr5 T (.tuple (l.map kyV))) D9 (.list ((lowOf (xsOf M e) left).map V.int))) Dr (.list ((as ++ [D9]).map .ref)) T = some (.tuple (l.map kyV)) := by
    rw [put_other (fun z => by rw [z, hdr] at hrT; cases hrT), put_other (fun z => by rw [← z, put_same] at hrD9; cases hrD9), put_same]
  have hdr9 : put (put (put hr5 T (.tuple (l.map kyV))) D9 (.list ((lowOf (xsOf M e) left).map V.int))) Dr (.list ((as ++ [D9]).map .ref)) Dr = some (.list ((as ++ [D9]).map .ref)) := put_same
  have nas9 : ∀ x ∈ as ++ [D9], x ≠ Dr := fun x hx => by
    rcases List.mem_append.mp hx with hx | hx
    · exact nas x hx
    · rw [List.mem_singleton.mp hx]; exact Ne.symm n9
  refine m_weak (m' := names [("sorter", .ref a'.x), ("rounds", .ref Dr), ("handed", .ref T)]) (h' := put (put hp7 D9 (.list ((lowOf (xsOf M e) left).map V.int))) Dr (.list ((as ++ [D9]).map .ref))) (by walk_at "ms_sub") (by rw [List.map_append]; exact fun _ _ e => e) ?_
  revert tw9 kp9 rows9 hT9 hdr9
  generalize put (put hp7 D9 (.list ((lowOf (xsOf M e) left).map V.int))) Dr (.list ((as ++ [D9]).map .ref)) = hp9
  generalize put (put (put hr5 T (.tuple (l.map kyV))) D9 (.list ((lowOf (xsOf M e) left).map V.int))) Dr (.list ((as ++ [D9]).map .ref)) = hr9
  intro tw9 kp9 rows9 hT9 hdr9
  
  have mi0 := si.ready hrd
  refine (m_post (law_hand (fa := fa) (cdv := cdv) (n := n) tw9 r7 mi0 l6 o6 ⟨kp9, hdr9, rows9⟩ hT9 Z hA) ?_)
  rintro f σ' ⟨rfl, hp9, h9, hr9, S9, hf, tw9, r9, mi, o9, hr9'⟩
  skip
  refine ⟨σ', fun _ _ e => e, fun _ _ e => e, hZq0 _ _ ⟨rfl, hp9, h9, hr9, S9, D9, hf, tw9, r9, mi.end ⟨si.nl.filter _, fun k => ?_⟩, o9, hr9', nas9⟩⟩
  rw [left_mem, low_mem, ml k]
end
end Mine
end
section
open PySem PySem.W PyProof.Rows PySem.SeqAt
set_option maxHeartbeats 16000000
namespace Mine
section
variable {prog : Program} {w : World} {Γ : Fx} {σ : MS Ky} {A : Around} {env : Env} {α : Type} {s : Shared} {Q : Value → MS Ky → Prop} {QB : Bool → MS Ky → Prop} {QU : Unit → MS Ky → Prop} {QF : Flow → MS Ky → Prop}
variable {p : Program} {loose : List Str} {mg mb : Str → Option Value} {t u v : Tok} {n : Nat} {l : Addr} {a : Ad} {S : SS} {k : Ky}
inductive EyeW (M : List Int) (e : Nat) (L : Addr) (hp : Addr → Option (O Ky)) (a' : Ad) (Dr : Addr) (m : Nat) (σ' : MS Ky) : Prop
  | mk (hp5 h1 hr5 : Addr → Option (O Ky)) (S : SS) (left : List Ky) (as : List Addr) (acc : List (List Int)) (f : Nat) (hf : Fit σ' (names [("sorter", .ref a'.x), ("rounds", .ref Dr)]) hp5) (tw : Two hp5 h1 hr5) (r : Rep a' S h1) (si : SI (preE M e) S left) (pw : left.Pairwise (· < ·)) (l6 : ∀ k ∈ left, k ∈ rng6) (o6 : ∀ k ∈ S.ord, k ∈ rng6)
      (kp : Kp L hp hr5) (dr : hr5 Dr = some (.list (as.map .ref))) (rw : Rows hr5 as acc) (na : ∀ x ∈ as, x ≠ Dr) (er : roundsF (xsOf M e) 6 rng6 [] = roundsF (xsOf M e) f left acc) (lf : left.length ≤ f) (af : acc.length + f ≤ 6) (em : m = left.length)
theorem law_eye2 {fa Dm Df Dn : Addr} {cdv : Value} {M : List Int} {FM : List (List Int)} {e : Nat} {vj : Option V} {hp hp2 : Addr → Option (O Ky)} {G : List (Ky × Addr × List Ky)} {ep : Nat}
    (he : e < 2) (pe : PE M FM e) (hM : M.length = 6) (c2 : hp (Γ.L + 1 + 1) = some (.cell (some (.ref Dm)))) (dm : hp Dm = some (.list (M.map V.int))) (c4 : hp (Γ.L + 1 + 1 + 1 + 1) = some (.cell vj)) (c5 : hp (Γ.L + 1 + 1 + 1 + 1 + 1) = some (.cell (some (.int (e : Nat)))))
    (kp : Kp Γ.L hp hp2) (q2 : hp2 Dn = some (.dict (G.map fun g => (g.1, V.ref g.2.1)) ep)) (q3 : ∀ g ∈ G, hp2 g.2.1 = some (.list (g.2.2.map V.int))) (q4 : G.map (fun g => (g.1, g.2.2)) = rng6.map fun j => (j, needs FM e j))
    (F : Fits Γ A) (Z : Here (Mine.hd1.heap_1 w.params) p loose mg mb Γ.base) (hA : Dp A (n + 6)) :
    mwp (kyK prog w) Γ A (execs (eyeBody.drop 2) (lenv Γ.L fa cdv)) (fun f σ' => f = .next ∧ ∃ hp', (∀ b o, hp' b = some o → σ'.h b = some o) ∧ Kp Γ.L hp hp') ⟨names [("needs", .ref Dn)], hp2⟩ := by
  have hh : A.handled = none := hA.hd
  have hG1 : G.map (·.1) = rng6 := by
    have := congrArg (List.map (·.1)) q4
    rw [List.map_map, List.map_map] at this
    have e2 : rng6.map ((fun x => x.1) ∘ fun j => (j, needs FM e j)) = rng6 := List.map_id _
    rw [e2] at this; exact this
  have hG2 : ∀ g ∈ G, g.2.2 = needs FM e g.1 ∧ g.1 ∈ rng6 := fun g hg => by
    have : (g.1, g.2.2) ∈ rng6.map fun j => (j, needs FM e j) := by rw [← q4]; exact List.mem_map.mpr ⟨g, hg, rfl⟩
    obtain ⟨j, hj, ej⟩ := List.mem_map.mp this
    have e1 : j = g.1 := congrArg Prod.fst ej
    have e2 : needs FM e j = g.2.2 := congrArg Prod.snd ej
    subst e1
    skip
    exact ⟨e2.symm, hj⟩
  have nd6 : rng6.Nodup := by decide
  have hGn : ∀ g ∈ G, g.2.2.Nodup := fun g hg => by rw [(hG2 g hg).1]; exact nd6.filter _
  have hGp : ∀ g ∈ G, ∀ i, i ∈ g.2.2 ↔ (i ∈ rng6 ∧ preE M e i g.1 = true) := fun g hg i => by
    rw [(hG2 g hg).1]
    unfold needs
    rw [List.mem_filter]
    constructor
    · rintro ⟨h1, h2⟩; rw [pe.pq i h1 g.1 (hG2 g hg).2] at h2; exact ⟨h1, h2⟩
    · rintro ⟨h1, h2⟩; refine ⟨h1, ?_⟩; rw [pe.pq i h1 g.1 (hG2 g hg).2]; exact h2
  obtain ⟨si, hord, hrn, gr⟩ := build_SI hGn hG1 nd6 hGp
  have hac : Acyc (build G) := by
    refine ⟨fun k => (8 - msk (xsOf M e) k).toNat, fun k hk s hs => ?_⟩
    obtain ⟨h1, h2⟩ := ((gr.su k hk).2 s).mp hs
    have k6 := (hord k).mp hk
    have s6 := (hord s).mp h1
    have := pe.lt k k6 s s6 h2
    have b1 := pe.b k k6
    have b2 := pe.b s s6
    show (8 - msk (xsOf M e) s).toNat < (8 - msk (xsOf M e) k).toNat
    omega
  have hol : (build G).ord.length ≤ 1000 := by
    have := List.Perm.length_eq ((List.perm_ext_iff_of_nodup gr.nd nd6).mpr hord)
    rw [this]; decide
  have hGl : G.length = 6 := by have := congrArg List.length hG1; simpa [rng6] using this
  refine m_abs fun Zq0 hZq0 => ?_
  refine m_cons ?_
  refine m_AssignName ?_
  refine m_Call ?_
  refine m_Name ?_
  first | refine m_gK (by assumption) ?_ | refine m_gB (by assumption) ?_
  refine m_callZ (by assumption) ?_
  refine m_splE ?_
  refine evR (EvP.nm (v := .ref _) (by rfl)) ?_
  refine m_splE0 ?_
  refine m_sorter (G := G) q2 (fun g hg => ⟨q3 g hg, by rw [(hG2 g hg).1]; exact Nat.le_trans (List.length_filter_le _ _) (by decide)⟩) (by omega) Z (hA.le (by omega) : Dp A (n + 5)) fun a h1 hq r tw => ?_
  have hx := tw.1 _ _ r.hx
  have hdx := tw.1 _ _ r.hdx
  unfold fieldsOf at hdx
  refine m_str' ?_
  refine m_cons ?_
  refine m_Expr ?_
  refine m_Method ?_
  refine evR (EvP.nm (v := .ref _) (by rfl)) ?_
  refine m_method (Here.X (by assumption)) (by walk_at "hl") (by walk_at "hl") (by rfl) ?_
  refine m_callZ0 (by assumption) ?_
  refine m_weak (m' := names [("sorter", .ref a.x)]) (h' := hq) (by walk_at "ms_sub") (fun _ _ e => e) ?_
  refine m_two (Q0 := fun v h1' => v = .none ∧ ∃ a', a'.x = a.x ∧ Rep a' (build G).prep h1') tw (fun B' sub' => m_code (c_prepare r hrn (fun k hk s hs => (((gr.su k hk).2 s).mp hs).1) hol hac (by exact F) (by exact Z) (by exact (hA.le (by omega) : Dp A (n + 2))) fun a' h' ea r' => ⟨rfl, rfl, a', ea, r'⟩)) ?_
  clear hx hdx r tw h1 hq
  rintro v hp3 h1 tw ⟨rfl, a', ea, r⟩
  rw [← ea]
  clear ea a
  refine m_cons ?_
  refine m_AssignName ?_
  refine m_List ?_
  refine m_splE0 ?_
  refine m_newList .nil (by decide) fun Dr hDr => ?_
  have hDr : hp3 Dr = none := hDr
  refine m_str' ?_
  refine m_cons ?_
  have hr2 : hp2 Dr = none := none_sub tw.2.1 hDr
  have kp2 := kp.fresh (o := .list []) hr2
  have tw2 := tw.put (o := .list []) (none_sub tw.1 hDr)
  have ndr : Dr ≠ Γ.L + 1 + 1 + 1 + 1 := fun q => by obtain ⟨vz, cz⟩ := kp.c4; rw [← q, hr2] at cz; cases cz
  have hdr : put hp2 Dr (.list []) Dr = some (.list []) := put_same
  have hDr0 : hp Dr = none := by
    cases z : hp Dr with
    | none => rfl
    | some o => have := kp.sub Dr o ndr z; rw [hr2] at this; cases this
  refine m_weak (m' := names [("sorter", .ref a'.x), ("rounds", .ref Dr)]) (h' := put hp3 Dr (.list [])) (by walk_at "ms_sub") (fun _ _ e => e) ?_
  revert kp2 tw2 hdr
  generalize put hp3 Dr (.list []) = hp4
  generalize put hp2 Dr (.list []) = hr4
  intro kp2 tw2 hdr
  refine m_then (P := fun σ' => ∃ hp5 hr5 as acc, Fit σ' (names [("rounds", .ref Dr)]) hp5 ∧ (∀ b o, hr5 b = some o → hp5 b = some o) ∧ Kp Γ.L hp hr5 ∧ hr5 Dr = some (.list (as.map .ref)) ∧ Rows hr5 as acc ∧ roundsF (xsOf M e) 6 rng6 [] = some acc) ?_ ?_
  · refine m_While (I := EyeW M e Γ.L hp a' Dr) (n := 6)
      ⟨hp4, h1, hr4, (build G).prep, rng6, [], [], 6, by walk_at "ms_fit", tw2, r, si, by decide, fun _ h => h, fun k hk => (hord k).mp hk, kp2, hdr, .nil, (fun _ h => nomatch h), rfl, by decide, by decide, rfl⟩ ?_
    clear hdr tw2 kp2 hr4 hp4 hr2 tw r h1
    rintro m5 σ' ⟨hp5, h1, hr5, S, left, as, acc, f, hf, tw, r, si, pw, l6, o6, kp5, hdr, rows, nas, erf, hlf, haf, rfl⟩
    refine m_fit hf ?_
    clear hf
    obtain ⟨l, hrd, nl, ml⟩ := si.rd
    have hl6 : l.length ≤ 6 := nodup_len nl fun k hk => l6 k ((ml k).mp hk).1
    have hx := tw.1 _ _ r.hx
    have hdx := tw.1 _ _ r.hdx
    unfold fieldsOf at hdx
    refine m_abs fun Zq1 hZq1 => ?_
    refine m_isValue ?_
    refine m_Method ?_
    refine evR (EvP.nm (v := .ref _) (by rfl)) ?_
    refine m_method (Here.X (by assumption)) (by walk_at "hl") (by walk_at "hl") (by rfl) ?_
    refine m_callZ0 (by assumption) ?_
    refine m_two (Q0 := fun v h1' => v = .bool (decide (S.fi < S.po) || !l.isEmpty) ∧ h1' = h1) tw (fun B' sub' => m_code (c_is_active r hrd (by omega) (by exact Z) (by exact (hA.le (by omega) : Dp A n)) ⟨rfl, rfl, rfl⟩)) ?_
    rintro v hp6 h1' tw6 ⟨rfl, rfl⟩
    rw [si.fp, decide_eq_false (Int.lt_irrefl _), Bool.false_or]
    refine m_trBool ?_
    refine hZq1 _ _ ?_
    refine ite_of (fun e1 => ?_) fun e1 => ?_
    · have hlne : l ≠ [] := by intro q; rw [q] at e1; cases e1
      have hleft : left ≠ [] := fun q => by
        obtain ⟨x, hx⟩ := List.exists_mem_of_ne_nil l hlne
        have := ((ml x).mp hx).1; rw [q] at this; cases this
      obtain ⟨f', rfl⟩ : ∃ f', f = f' + 1 := by
        cases f with
        | zero => exact absurd (List.length_eq_zero_iff.mp (Nat.le_zero.mp hlf)) hleft
        | succ f' => exact ⟨f', rfl⟩
      refine m_post (law_turn (fa := fa) (cdv := cdv) (n := n) tw6 r si pw l6 o6 ⟨kp5, hdr, rows⟩ nas hDr0 ndr hrd nl ml (by omega) Z hA) ?_
      rintro fl σ' ⟨rfl, hp9, h9, hr9, S9, D9, hf, tw9, r9, si9, o9, hr9', nas9⟩
      have hlen : (leftOf (xsOf M e) left).length < left.length := by
        have hl0 := low_ne pe l6 hleft
        obtain ⟨x, hx⟩ := List.exists_mem_of_ne_nil _ hl0
        have hxl := (low_mem.mp hx).1
        unfold leftOf
        refine Nat.lt_of_le_of_ne (List.length_filter_le _ _) fun q => ?_
        have := List.length_filter_eq_length_iff.mp q x hxl
        have h2 : (lowOf (xsOf M e) left).any (· == x) = true := List.any_eq_true.mpr ⟨x, hx, by simp⟩
        rw [h2] at this; cases this
      skip
      refine ⟨σ', fun _ _ e => e, fun _ _ e => e, _, hlen, hp9, h9, hr9, S9, leftOf (xsOf M e) left, as ++ [D9], acc ++ [lowOf (xsOf M e) left], f', hf, tw9, r9, si9, pw.filter _, fun k hk => l6 k (left_mem.mp hk).1, o9, hr9'.kp, hr9'.dr, hr9'.rows, nas9, ?_, by omega, by rw [List.length_append, List.length_singleton]; omega, rfl⟩
      rw [erf, roundsF, if_neg hleft]
    · have hlnil : l = [] := by cases l with | nil => rfl | cons a r => exact absurd rfl e1
      have hleft : left = [] := by
        cases left with
        | nil => rfl
        | cons b r =>
          have := low_ne pe l6 (by simp)
          obtain ⟨x, hx⟩ := List.exists_mem_of_ne_nil _ this
          have := (ml x).mpr (low_mem.mp hx)
          rw [hlnil] at this; cases this
      refine m_nil ?_
      refine ⟨rfl, hp6, hr5, as, acc, by walk_at "ms_fit", tw6.2.1, kp5, hdr, rows, ?_⟩
      rw [erf, hleft]
      cases f with
      | zero => rw [roundsF, if_pos rfl]
      | succ f => rw [roundsF, if_pos rfl]
  · rintro σ' ⟨hp5, hr5, as, acc, hf, s5, kp5, hdr, rows, eres⟩
    refine m_fit hf ?_
    exact mwp_mono (law_eye3 he hM c2 dm c4 c5 s5 kp5 hdr rows eres Z hA) hZq0
end
end Mine
end
section
open PySem PySem.W PyProof.Rows PySem.SeqAt
set_option maxHeartbeats 4000000
namespace Mine
section
variable {prog : Program} {w : World} {Γ : Fx} {σ : MS Ky} {A : Around} {env : Env} {α : Type} {s : Shared} {Q : Value → MS Ky → Prop} {QB : Bool → MS Ky → Prop} {QU : Unit → MS Ky → Prop} {QF : Flow → MS Ky → Prop}
variable {p : Program} {loose : List Str} {mg mb : Str → Option Value} {t u v : Tok} {n : Nat} {l : Addr} {a : Ad} {S : SS} {k : Ky}
theorem law_eye {fa Dm Df : Addr} {cdv : Value} {M : List Int} {FM : List (List Int)} {e : Nat} {vj : Option V} {m : Str → Option V} {hp : Addr → Option (O Ky)}
    (he : e < 2) (pe : PE M FM e) (hM : M.length = 6) (hF : FM.length = 6 ∧ ∀ r ∈ FM, r.length = 6)
    (c2 : hp (Γ.L + 1 + 1) = some (.cell (some (.ref Dm)))) (dm : hp Dm = some (.list (M.map V.int))) (c3 : hp (Γ.L + 1 + 1 + 1) = some (.cell (some (.ref Df)))) (nf : Nest hp Df FM) (c4 : hp (Γ.L + 1 + 1 + 1 + 1) = some (.cell vj)) (c5 : hp (Γ.L + 1 + 1 + 1 + 1 + 1) = some (.cell (some (.int (e : Nat)))))
    (F : Fits Γ A) (Z : Here (Mine.hd1.heap_1 w.params) p loose mg mb Γ.base) (hA : Dp A (n + 6)) :
    mwp (kyK prog w) Γ A (execs eyeBody (lenv Γ.L fa cdv)) (fun f σ' => f = .next ∧ ∃ hp', (∀ b o, hp' b = some o → σ'.h b = some o) ∧ Kp Γ.L hp hp') ⟨m, hp⟩ := by
  have hh : A.handled = none := hA.hd
  refine m_abs fun Zq0 hZq0 => ?_
  refine m_cons ?_
  refine m_AssignName ?_
  refine m_dict0 fun Dn hDn => ?_
  have hDn : hp Dn = none := hDn
  refine m_str' ?_
  refine m_cons ?_
  obtain ⟨as, df, rws⟩ := nf
  have hrow : ∀ i : Nat, i < 6 → ∃ ai, as[i]? = some ai ∧ hp ai = some (.list ((FM.getD i []).map V.int)) ∧ (FM.getD i []).length = 6 := fun i hi => by
    have hl := rws.length
    have h1 : i < as.length := by omega
    obtain ⟨xs, q1, q2⟩ := rws.get (i := i) (a := as[i]) (List.getElem?_eq_getElem h1)
    have e1 : FM.getD i [] = xs := by rw [List.getD_eq_getElem?_getD, q1]; rfl
    skip
    refine ⟨as[i], List.getElem?_eq_getElem h1, by rw [e1]; exact q2, by rw [e1]; exact hF.2 xs (List.mem_of_getElem? q1)⟩
  refine m_weak (m' := names [("needs", .ref Dn)]) (h' := put hp Dn (.dict [] 0)) (by walk_at "ms_sub") (fun _ _ e => e) ?_
  refine m_then (P := fun σ' => ∃ (hp2 : Addr → Option (O Ky)) (G : List (Ky × Addr × List Ky)) (ep : Nat), Fit σ' (names [("needs", .ref Dn)]) hp2 ∧ Kp Γ.L hp hp2 ∧ hp2 Dn = some (.dict (G.map fun g => (g.1, V.ref g.2.1)) ep) ∧ (∀ g ∈ G, hp2 g.2.1 = some (.list (g.2.2.map V.int))) ∧ G.map (fun g => (g.1, g.2.2)) = rng6.map fun j => (j, needs FM e j)) ?_ ?_
  · refine m_ForG ?_
    refine m_abs fun Zq1 hZq1 => ?_
    refine m_Call ?_
    refine m_Name ?_
    first | refine m_gK (by assumption) ?_ | refine m_gB (by assumption) ?_
    refine m_callT ?_
    refine m_splE ?_
    refine evI EvP.int fun _ => ?_
    refine m_splE0 ?_
    refine m_range1 fun R hR => ?_
    have hR : put hp Dn (.dict [] 0) R = none := hR
    have nR : R ≠ Dn := ne_put hR
    have hR0 : hp R = none := none_put hR
    have k0 : Kp Γ.L hp (put (put hp Dn (.dict [] 0)) R (.range 0 6 1)) := Kp.fresh (Kp.fresh ⟨fun _ _ _ e => e, _, c4⟩ hDn) hR
    refine hZq1 _ _ ?_
    refine ⟨_, _, _, yields_range hh 6 (by decide) (by decide), fun i σ' => ∃ (hp2 : Addr → Option (O Ky)) (G : List (Ky × Addr × List Ky)) (ep : Nat), Fit σ' (names [("needs", .ref Dn)]) hp2 ∧ Kp Γ.L hp hp2 ∧ hp2 R = some (.range 0 6 1) ∧ hp2 Dn = some (.dict (G.map fun g => (g.1, V.ref g.2.1)) ep) ∧ (∀ g ∈ G, hp2 g.2.1 = some (.list (g.2.2.map V.int))) ∧ G.map (fun g => (g.1, g.2.2)) = (rng6.take i).map fun j => (j, needs FM e j),
      ⟨_, [], 0, by walk_at "ms_fit", k0, put_same, (put_other (Ne.symm nR)).trans put_same, (fun g hg => nomatch hg), rfl⟩, fun i σ' ⟨hp2, G, ep, hf, _, q, _⟩ => hf.2 _ _ q, ?_, ?_⟩
    · rintro i y v' σ' I ob hb hy iv ⟨hp2, G, ep, hf, kp, q1, q2, q3, q4⟩
      rw [rng6_eq] at hy
      obtain ⟨j, hj, rfl⟩ := map_get hy
      obtain ⟨tj, rfl⟩ := iv
      refine m_fit hf ?_
      clear hf
      obtain ⟨vj2, c42⟩ := kp.c4
      refine m_storeCell (v := .int _) (c := Γ.L + 1 + 1 + 1 + 1) ⟨_, rfl⟩ (by walk_at "hl") ?_
      refine m_abs fun Zq2 hZq2 => ?_
      refine m_cons ?_
      refine m_AssignSub ?_
      have kp3 := kp.setJ (v := some (.int j))
      have n4 : ∀ {b o}, hp2 b = some o → (∀ v, o ≠ .cell v) → b ≠ Γ.L + 1 + 1 + 1 + 1 := fun h1 h2 q => by rw [q, c42] at h1; exact h2 _ (Option.some.inj h1).symm
      refine m_weak (m' := names [("needs", .ref Dn)]) (h' := put hp2 (Γ.L + 1 + 1 + 1 + 1) (.cell (some (.int j)))) (by walk_at "ms_sub") (fun _ _ e => e) ?_
      have q1' : put hp2 (Γ.L + 1 + 1 + 1 + 1) (.cell (some (.int j))) R = some (.range 0 6 1) := put_diff q1 c42 (by intro q; cases q)
      have q2' : put hp2 (Γ.L + 1 + 1 + 1 + 1) (.cell (some (.int j))) Dn = some (.dict (G.map fun g => (g.1, V.ref g.2.1)) ep) := put_diff q2 c42 (by intro q; cases q)
      have q3' : ∀ g ∈ G, put hp2 (Γ.L + 1 + 1 + 1 + 1) (.cell (some (.int j))) g.2.1 = some (.list (g.2.2.map V.int)) := fun g hg => put_diff (q3 g hg) c42 (by intro q; cases q)
      have c4' : put hp2 (Γ.L + 1 + 1 + 1 + 1) (.cell (some (.int j))) (Γ.L + 1 + 1 + 1 + 1) = some (.cell (some (.int j))) := put_same
      revert kp3 q1' q2' q3' c4'
      generalize put hp2 (Γ.L + 1 + 1 + 1 + 1) (.cell (some (.int j))) = hp3
      intro kp3 q1 q2 q3 c4'
      clear kp c42 n4
      have c3' := kp3.sub _ _ (by simp) c3
      have c5' := kp3.sub _ _ (by simp) c5
      have df' := kp3.sub _ _ (by intro q; rw [q, c4] at df; cases df) df
      have hrow' : ∀ i : Nat, i < 6 → ∃ ai, as[i]? = some ai ∧ hp3 ai = some (.list ((FM.getD i []).map V.int)) ∧ (FM.getD i []).length = 6 := fun i hi => by
        obtain ⟨ai, r1, r2, r3⟩ := hrow i hi
        skip
        exact ⟨ai, r1, kp3.sub _ _ (by intro q; rw [q, c4] at r2; cases r2) r2, r3⟩
      obtain ⟨kj, ekj, hkj⟩ := rng6_mem (List.mem_of_getElem? hj)
      obtain ⟨ae, ae1, ae2, ae3⟩ := hrow' e (by omega)
      skip
      refine m_Comp ?_
      refine m_abs fun Zq3 hZq3 => ?_
      refine m_Call ?_
      refine m_Name ?_
      first | refine m_gK (by assumption) ?_ | refine m_gB (by assumption) ?_
      refine m_callT ?_
      refine m_splE ?_
      refine evI EvP.int fun _ => ?_
      refine m_splE0 ?_
      refine m_range1 fun R2 hR2 => ?_
      have hR2 : hp3 R2 = none := hR2
      refine hZq3 _ _ ?_
      refine ⟨_, _, _, yields_range hh 6 (by decide) (by decide), by decide, fun σ' hs => hs _ _ put_same, fun y => match y with | .int i => i != j && fm FM e i + fm FM i j == fm FM e j | _ => false, fun y => y, ?_, ?_⟩
      · intro y hy C I ob hb D od hd
        rw [rng6_eq] at hy
        obtain ⟨i1, hi1, rfl⟩ := List.mem_map.mp hy
        obtain ⟨ki, eki, hki⟩ := rng6_mem hi1
        subst ekj eki
        refine (?_ : mwp (kyK prog w) _ _ _ _ _)
        obtain ⟨ai, ai1, ai2, ai3⟩ := hrow' ki hki
        have ae2 := sub_put (x := O.range 0 6 1) hR2 ae2
        have ai2 := sub_put (x := O.range 0 6 1) hR2 ai2
        have df' := sub_put (x := O.range 0 6 1) hR2 df'
        have c3' := sub_put (x := O.range 0 6 1) hR2 c3'
        have c4' := sub_put (x := O.range 0 6 1) hR2 c4'
        have c5' := sub_put (x := O.range 0 6 1) hR2 c5'
        refine m_abs fun Zq4 hZq4 => ?_
        refine m_isBoolOp ?_
        refine m_andCons ?_
        refine m_abs fun Zq5 hZq5 => ?_
        refine m_isCompare ?_
        refine evI (EvP.nm (v := .int _) (by rfl)) fun _ => ?_
        refine m_Name ?_
        refine m_ciI (c := Γ.L + 1 + 1 + 1 + 1) (by walk_at "hl") fun _ => ?_
        refine m_nei ?_
        refine m_trBool ?_
        refine hZq5 _ _ ?_
        refine ite_of (fun e1 => ?_) fun e1 => ?_
        · refine m_andCons ?_
          refine m_abs fun Zq6 hZq6 => ?_
          refine m_isCompare ?_
          refine m_BinOp ?_
          refine m_Sub ?_
          refine m_Sub ?_
          refine m_Name ?_
          refine m_ciR (c := Γ.L + 1 + 1 + 1) (by walk_at "hl") ?_
          refine m_Name ?_
          refine m_ciI (c := Γ.L + 1 + 1 + 1 + 1 + 1) (by walk_at "hl") fun _ => ?_
          refine m_atLr (k := e) (z := ae) df' (by omega) (by rw [List.getElem?_map, ae1]; rfl) ?_
          refine evI (EvP.nm (v := .int _) (by rfl)) fun _ => ?_
          refine m_atLi (k := ki) (z := fm FM e ki) ae2 (by omega) (get_fm ae3 hki) fun _ => ?_
          refine m_Sub ?_
          refine m_Sub ?_
          refine m_Name ?_
          refine m_ciR (c := Γ.L + 1 + 1 + 1) (by walk_at "hl") ?_
          refine evI (EvP.nm (v := .int _) (by rfl)) fun _ => ?_
          refine m_atLr (k := ki) (z := ai) df' (by omega) (by rw [List.getElem?_map, ai1]; rfl) ?_
          refine m_Name ?_
          refine m_ciI (c := Γ.L + 1 + 1 + 1 + 1) (by walk_at "hl") fun _ => ?_
          refine m_atLi (k := kj) (z := fm FM ki kj) ai2 (by omega) (get_fm ai3 hkj) fun _ => ?_
          refine m_add fun _ => ?_
          refine m_Sub ?_
          refine m_Sub ?_
          refine m_Name ?_
          refine m_ciR (c := Γ.L + 1 + 1 + 1) (by walk_at "hl") ?_
          refine m_Name ?_
          refine m_ciI (c := Γ.L + 1 + 1 + 1 + 1 + 1) (by walk_at "hl") fun _ => ?_
          refine m_atLr (k := e) (z := ae) df' (by omega) (by rw [List.getElem?_map, ae1]; rfl) ?_
          refine m_Name ?_
          refine m_ciI (c := Γ.L + 1 + 1 + 1 + 1) (by walk_at "hl") fun _ => ?_
          refine m_atLi (k := kj) (z := fm FM e kj) ae2 (by omega) (get_fm ae3 hkj) fun _ => ?_
          refine m_eqi ?_
          refine m_trBool ?_
          refine hZq6 _ _ ?_
          refine ite_of (fun e2 => ?_) fun e2 => ?_
          · refine m_andNil ?_
            refine hZq4 _ _ ?_
            skip
            refine ⟨by simp only [e1, e2, Bool.and_self], ?_⟩
            skip
            refine itrue rfl ?_
            refine evI (EvP.nm (v := .int _) (by rfl)) fun _ => ?_
            exact ⟨fun _ _ e => e, _, rfl⟩
          · refine hZq4 _ _ ?_
            refine ⟨by simp only [e1, Bool.eq_false_iff.mpr e2, Bool.and_false], ?_⟩
            skip
            refine ifalse (by decide) ?_
            exact fun _ _ e => e
        · refine hZq4 _ _ ?_
          refine ⟨by simp only [Bool.eq_false_iff.mpr e1, Bool.false_and], ?_⟩
          skip
          refine ifalse (by decide) ?_
          exact fun _ _ e => e
      intro Dl hDl
      rw [rng6_eq, filt_ints (P' := fun i => i != j && fm FM e i + fm FM i j == fm FM e j) (fun _ => rfl)]
      have hDl : put hp3 R2 (.range 0 6 1) Dl = none := hDl
      refine evR (EvP.nm (v := .ref _) (by rfl)) ?_
      refine m_Name ?_
      refine m_ciI (c := Γ.L + 1 + 1 + 1 + 1) (by walk_at "hl") fun _ => ?_
      refine m_dictSetItem (by walk_at "hl") ky_is (v := .ref Dl) rfl ?_ fun ep' => ?_
      · have := congrArg List.length q4
        rw [List.length_map, List.length_map, List.length_take, show rng6.length = 6 from rfl] at this
        rw [List.length_map]; exact Nat.le_trans (show G.length ≤ 1000 by omega) (by decide)
      have hjn : j ∉ G.map (·.1) := by
        have e1 : G.map (·.1) = rng6.take i := by
          have := congrArg (List.map (·.1)) q4
          rw [List.map_map, List.map_map] at this
          have e2 : (rng6.take i).map ((fun x => x.1) ∘ fun j => (j, needs FM e j)) = rng6.take i := List.map_id _
          rw [e2] at this; exact this
        rw [e1]
        have hi : i < 6 := by have := (List.getElem?_eq_some_iff.mp hj).1; simpa [rng6] using this
        have : i = 0 ∨ i = 1 ∨ i = 2 ∨ i = 3 ∨ i = 4 ∨ i = 5 := by omega
        rcases this with rfl | rfl | rfl | rfl | rfl | rfl <;> (simp [rng6] at hj; subst hj; simp [rng6])
      rw [dPut_new' (by
        cases z : dGet (G.map fun g => (g.1, V.ref g.2.1)) j with
        | none => rfl
        | some v =>
          refine absurd ?_ hjn
          have := dGet_any (k := j) (dl := G.map fun g => (g.1, V.ref g.2.1))
          rw [z] at this
          have this := List.any_eq_true.mp this
          obtain ⟨q, hq, e⟩ := this
          obtain ⟨g, hg, rfl⟩ := List.mem_map.mp hq
          exact List.mem_map.mpr ⟨g, hg, of_decide_eq_true e⟩)]
      refine m_nil ?_
      refine hZq2 _ _ ?_
      have nDl : Dl ≠ Dn := (ne_none (sub_put hR2 q2) hDl).symm
      have h0Dn : hp Dn = none := hDn
      skip
      refine ⟨put (put (put hp3 R2 (.range 0 6 1)) Dl (.list ((needs FM e j).map V.int))) Dn (.dict ((G ++ [(j, Dl, needs FM e j)]).map fun g => (g.1, V.ref g.2.1)) ep'), G ++ [(j, Dl, needs FM e j)], ep', ⟨by walk_at "ms_sub", by rw [List.map_append]; exact fun _ _ e => e⟩, ((kp3.fresh hR2).fresh hDl).own hDn (fun q => by rw [q, c4] at hDn; cases hDn), ?_, put_same, ?_, ?_⟩
      · exact put_diff (sub_put hDl (sub_put hR2 q1)) (sub_put hDl (sub_put hR2 q2)) (by intro q; cases q)
      · intro g hg
        rcases List.mem_append.mp hg with hg | hg
        · exact put_diff (sub_put hDl (sub_put hR2 (q3 g hg))) (sub_put hDl (sub_put hR2 q2)) (by intro q; cases q)
        · rw [List.mem_singleton.mp hg]; exact (put_other nDl).trans put_same
      · rw [List.map_append, q4, take_snoc hj, List.map_append]; rfl
    · rintro σ' ⟨hp2, G, ep, hf, kp, q1, q2, q3, q4⟩
      skip
      exact ⟨rfl, hp2, G, ep, hf, kp, q2, q3, q4⟩
  · rintro σ' ⟨hp2, G, ep, hf, kp, q2, q3, q4⟩
    refine m_fit hf ?_
    exact mwp_mono (law_eye2 (Df := Df) he pe hM c2 dm c4 c5 kp q2 q3 q4 F Z hA) hZq0
end
end Mine
end
section
open PySem PySem.W PyProof.Rows PySem.SeqAt
set_option maxHeartbeats 4000000
namespace Mine
section
variable {prog : Program} {w : World} {Γ : Fx} {σ : MS Ky} {A : Around} {env : Env} {α : Type} {s : Shared} {Q : Value → MS Ky → Prop} {QB : Bool → MS Ky → Prop} {QU : Unit → MS Ky → Prop} {QF : Flow → MS Ky → Prop}
variable {p : Program} {loose : List Str} {mg mb : Str → Option Value} {t u v : Tok} {n : Nat} {l : Addr} {a : Ad} {S : SS} {k : Ky}
theorem law_E {fa Dm Df : Addr} {cdv : Value} {M : List Int} {FM : List (List Int)} {vj ve : Option V} {m : Str → Option V} {hp : Addr → Option (O Ky)}
    (pe : ∀ e : Nat, e < 2 → PE M FM e) (hM : M.length = 6) (hF : FM.length = 6 ∧ ∀ r ∈ FM, r.length = 6)
    (c2 : hp (Γ.L + 1 + 1) = some (.cell (some (.ref Dm)))) (dm : hp Dm = some (.list (M.map V.int))) (c3 : hp (Γ.L + 1 + 1 + 1) = some (.cell (some (.ref Df)))) (nf : Nest hp Df FM) (c4 : hp (Γ.L + 1 + 1 + 1 + 1) = some (.cell vj)) (c5 : hp (Γ.L + 1 + 1 + 1 + 1 + 1) = some (.cell ve))
    (F : Fits Γ A) (Z : Here (Mine.hd1.heap_1 w.params) p loose mg mb Γ.base) (hA : Dp A (n + 6)) :
    mwp (kyK prog w) Γ A (execs (lawBody.drop 10) (lenv Γ.L fa cdv)) (fun f σ' => f = .ret (.bool true)) ⟨m, hp⟩ := by
  have hh : A.handled = none := hA.hd
  refine m_weak (m' := fun _ => none) (h' := hp) (fun _ _ e => by cases e) (fun _ _ e => e) ?_
  refine m_cons ?_
  refine m_then (P := fun σ' => True) ?_ ?_
  · refine m_ForG ?_
    refine m_Call ?_
    refine m_Name ?_
    first | refine m_gK (by assumption) ?_ | refine m_gB (by assumption) ?_
    refine m_callT ?_
    refine m_splE ?_
    refine evI EvP.int fun _ => ?_
    refine m_splE0 ?_
    refine m_range1 fun R hR => ?_
    have hR : hp R = none := hR
    have er : (List.range 2).map (fun i : Nat => V.int (0 + (i : Nat) * 1)) = [(0 : Nat), 1].map fun i : Nat => V.int (i : Int) := by rfl
    skip
    refine ⟨_, _, _, yields_range hh 2 (by decide) (by decide), fun i σ' => ∃ hp' vj ve, Fit σ' (fun _ => none) hp' ∧ hp' R = some (.range 0 2 1) ∧ hp' (Γ.L + 1 + 1) = some (.cell (some (.ref Dm))) ∧ hp' Dm = some (.list (M.map V.int)) ∧ hp' (Γ.L + 1 + 1 + 1) = some (.cell (some (.ref Df))) ∧ Nest hp' Df FM ∧ hp' (Γ.L + 1 + 1 + 1 + 1) = some (.cell vj) ∧ hp' (Γ.L + 1 + 1 + 1 + 1 + 1) = some (.cell ve),
      ⟨put hp R (.range 0 2 1), vj, ve, ⟨(fun _ _ e => nomatch e), fun _ _ e => e⟩, put_same, sub_put hR c2, sub_put hR dm, sub_put hR c3, ?_, sub_put hR c4, sub_put hR c5⟩, fun i σ' ⟨hp', _, _, hf, q, _⟩ => hf.2 _ _ q, ?_, fun _ _ => ⟨rfl, trivial⟩⟩
    · obtain ⟨as, e1, e2⟩ := nf; exact ⟨as, sub_put hR e1, e2.fresh hR⟩
    · clear c2 dm c3 nf c4 c5 vj ve
      rintro i y v' σ' I ob hb hy iv ⟨hp1, vj, ve, hf, q0, c2, dm, c3, nf, c4, c5⟩
      rw [er] at hy
      obtain ⟨e, he, rfl⟩ := map_get hy
      have he2 : e < 2 := by
        have := List.mem_of_getElem? he
        simp at this; omega
      obtain ⟨te, rfl⟩ := iv
      refine m_fit hf ?_
      refine m_storeCell (v := .int (e : Nat)) (c := Γ.L + 1 + 1 + 1 + 1 + 1) ⟨_, rfl⟩ c5 ?_
      have n5 : ∀ {b o}, hp1 b = some o → (∀ v, o ≠ .cell v) → put hp1 (Γ.L + 1 + 1 + 1 + 1 + 1) (.cell (some (.int (e : Nat)))) b = some o := fun h1 h2 => put_diff h1 c5 (h2 _)
      have nf' : Nest (put hp1 (Γ.L + 1 + 1 + 1 + 1 + 1) (.cell (some (.int (e : Nat))))) Df FM := by
        obtain ⟨as, e1, e2⟩ := nf; exact ⟨as, n5 e1 (fun _ q => by cases q), e2.diff c5 (fun _ q => by cases q)⟩
      refine m_post (law_eye (Γ := Γ.freeze I ob hb) (fa := fa) (cdv := cdv) (n := n) he2 (pe e he2) hM hF ((put_other (show Γ.L + 1 + 1 ≠ Γ.L + 1 + 1 + 1 + 1 + 1 by simp)).trans c2) (n5 dm (fun _ q => by cases q)) ((put_other (show Γ.L + 1 + 1 + 1 ≠ Γ.L + 1 + 1 + 1 + 1 + 1 by simp)).trans c3) nf' ((put_other (show Γ.L + 1 + 1 + 1 + 1 ≠ Γ.L + 1 + 1 + 1 + 1 + 1 by simp)).trans c4) put_same (by exact F) (by exact Z) hA) ?_
      rintro f σ'' ⟨rfl, hp2, hs2, kp⟩
      obtain ⟨vj2, c42⟩ := kp.c4
      have k2 : ∀ {b o}, put hp1 (Γ.L + 1 + 1 + 1 + 1 + 1) (.cell (some (.int (e : Nat)))) b = some o → b ≠ Γ.L + 1 + 1 + 1 + 1 → hp2 b = some o := fun h1 h2 => kp.sub _ _ h2 h1
      have c4p : put hp1 (Γ.L + 1 + 1 + 1 + 1 + 1) (.cell (some (.int (e : Nat)))) (Γ.L + 1 + 1 + 1 + 1) = some (.cell vj) := (put_other (show Γ.L + 1 + 1 + 1 + 1 ≠ Γ.L + 1 + 1 + 1 + 1 + 1 by simp)).trans c4
      have nc : ∀ {b o}, put hp1 (Γ.L + 1 + 1 + 1 + 1 + 1) (.cell (some (.int (e : Nat)))) b = some o → (∀ v, o ≠ .cell v) → b ≠ Γ.L + 1 + 1 + 1 + 1 := fun h1 h2 q => by rw [q, c4p] at h1; exact h2 _ (Option.some.inj h1).symm
      have q0' := n5 q0 (fun _ q => by cases q)
      have dm' := n5 dm (fun _ q => by cases q)
      skip
      refine ⟨σ'', fun _ _ e => e, fun _ _ e => e, hp2, vj2, some (.int (e : Nat)), ⟨(fun _ _ e => nomatch e), hs2⟩, k2 q0' (nc q0' (fun _ q => by cases q)), k2 ((put_other (show Γ.L + 1 + 1 ≠ Γ.L + 1 + 1 + 1 + 1 + 1 by simp)).trans c2) (show Γ.L + 1 + 1 ≠ Γ.L + 1 + 1 + 1 + 1 by simp), k2 dm' (nc dm' (fun _ q => by cases q)), k2 ((put_other (show Γ.L + 1 + 1 + 1 ≠ Γ.L + 1 + 1 + 1 + 1 + 1 by simp)).trans c3) (show Γ.L + 1 + 1 + 1 ≠ Γ.L + 1 + 1 + 1 + 1 by simp), ?_, c42, k2 put_same (show Γ.L + 1 + 1 + 1 + 1 + 1 ≠ Γ.L + 1 + 1 + 1 + 1 by simp)⟩
      obtain ⟨as, e1, e2⟩ := nf'
      skip
      refine ⟨as, k2 e1 (nc e1 (fun _ q => by cases q)), e2.mono fun b hb o ho => ?_⟩
      obtain ⟨xs, ho2⟩ := e2.mem b hb
      exact k2 ho (nc ho2 (fun _ q => by cases q))
  · intro σ' _
    refine m_cons ?_
    refine m_Return ?_
    refine evB EvP.bool ?_
    rfl
end
end Mine
end
section
open PySem PySem.W PyProof.Rows PySem.SeqAt
set_option maxHeartbeats 4000000
namespace Mine
noncomputable def hamD (x : Int) : Int := x.fmod 2 + (x.fdiv 2).fmod 2 + 2 * x.fdiv 4
noncomputable def dist (M : List Int) (i j : Nat) : Int := hamD (Builtin.bitXor (msk M i) (msk M j))
noncomputable def Shape (FM : List (List Int)) : Prop := FM.length = 6 ∧ ∀ r ∈ FM, r.length = 6
noncomputable def Filled (M : List Int) (FM : List (List Int)) (j i : Nat) : Prop := ∀ a b : Nat, a < 6 → b < 6 → fm FM a b = if max a b < j ∨ (max a b = j ∧ min a b < i) then dist M a b else 0
theorem rows_set {K : Type} [DecidableEq K] {h : Addr → Option (O K)} : ∀ {as : List Addr} {FM : List (List Int)} {i : Nat} {ai : Addr} {xs : List Int}, Rows h as FM → as.Nodup → as[i]? = some ai → Rows (put h ai (.list (xs.map .int))) as (FM.set i xs)
  | _, _, i, ai, xs, .nil, _, h => by simp at h
  | _, _, 0, ai, xs, .cons (a := a) (as := as) e r, nd, h => by
    have ha : a = ai := by simpa using h
    subst ha
    exact .cons put_same (r.other fun b hb q => (List.nodup_cons.mp nd).1 (q ▸ hb))
  | _, _, i + 1, ai, xs, .cons (a := a) (as := as) e r, nd, h => by
    have h : as[i]? = some ai := by simpa using h
    have hne : a ≠ ai := fun q => (List.nodup_cons.mp nd).1 (q ▸ List.mem_of_getElem? h)
    exact .cons ((put_other hne).trans e) (rows_set r (List.nodup_cons.mp nd).2 h)
theorem shape_row {FM : List (List Int)} (h : Shape FM) {i : Nat} (hi : i < 6) : (FM.getD i []).length = 6 := by
  have : i < FM.length := by rw [h.1]; exact hi
  rw [List.getD_eq_getElem?_getD, List.getElem?_eq_getElem this]
  exact h.2 _ (List.getElem_mem this)
theorem shape_set {FM : List (List Int)} (h : Shape FM) {i : Nat} {xs : List Int} (hx : xs.length = 6) : Shape (FM.set i xs) :=
  ⟨by rw [List.length_set]; exact h.1, fun r hr => by
    rcases List.mem_or_eq_of_mem_set hr with hr | rfl
    · exact h.2 r hr
    · exact hx⟩
theorem fm_set {FM : List (List Int)} (h : Shape FM) {i j : Nat} {v : Int} (hi : i < 6) (hj : j < 6) {a b : Nat} (hb : b < 6) : fm (FM.set i ((FM.getD i []).set j v)) a b = if a = i ∧ b = j then v else fm FM a b := by
  have hl : i < FM.length := by rw [h.1]; exact hi
  have hr := shape_row h hi
  unfold fm
  simp only [Int.toNat_natCast]
  by_cases e : a = i
  · subst e
    rw [show (FM.set a ((FM.getD a []).set j v)).getD a [] = (FM.getD a []).set j v by rw [List.getD_eq_getElem?_getD, List.getElem?_set_self hl]; rfl]
    by_cases f : b = j
    · subst f; rw [if_pos ⟨rfl, rfl⟩, List.getD_eq_getElem?_getD, List.getElem?_set_self (by omega)]; rfl
    · rw [if_neg (fun q => f q.2), List.getD_eq_getElem?_getD, List.getElem?_set_ne (Ne.symm f), ← List.getD_eq_getElem?_getD]
  · rw [if_neg (fun q => e q.1), List.getD_eq_getElem?_getD (l := FM.set _ _), List.getElem?_set_ne (Ne.symm e), ← List.getD_eq_getElem?_getD]
theorem filled_step {M : List Int} {FM : List (List Int)} {i j : Nat} (sh : Shape FM) (hM : ∀ a b : Nat, a < 6 → b < 6 → dist M a b = dist M b a) (hf : Filled M FM j i) (hij : i < j) (hj : j < 6) :
    Filled M ((FM.set i ((FM.getD i []).set j (dist M i j))).set j (((FM.set i ((FM.getD i []).set j (dist M i j))).getD j []).set i (dist M i j))) j (i + 1) := by
  have sh2 := shape_set (i := i) sh (xs := (FM.getD i []).set j (dist M i j)) (by rw [List.length_set]; exact shape_row sh (by omega))
  intro a b ha hb
  rw [fm_set sh2 hj (by omega) hb, fm_set sh (by omega) hj hb, hf a b ha hb]
  by_cases e1 : a = j ∧ b = i
  · obtain ⟨rfl, rfl⟩ := e1
    rw [if_pos ⟨rfl, rfl⟩, if_pos (.inr ⟨by omega, by omega⟩), hM _ _ hb ha]
  · rw [if_neg e1]
    by_cases e2 : a = i ∧ b = j
    · obtain ⟨rfl, rfl⟩ := e2
      rw [if_pos ⟨rfl, rfl⟩, if_pos (.inr ⟨by omega, by omega⟩)]
    · rw [if_neg e2]
      by_cases c : max a b < j ∨ (max a b = j ∧ min a b < i)
      · rw [if_pos c, if_pos (by omega)]
      · rw [if_neg c, if_neg (by omega)]
end Mine
end
section
open PySem PySem.W PyProof.Rows PySem.SeqAt
set_option maxHeartbeats 400000
namespace Mine
section
variable {prog : Program} {w : World} {K : Type} [DecidableEq K] {knd : PySem.KeyKind prog w K} {Γ : Fx} {σ : MS K} {A : Around} {env : Env} {α : Type} {s : Shared} {Q : Value → MS K → Prop} {QB : Bool → MS K → Prop} {QU : Unit → MS K → Prop} {QF : Flow → MS K → Prop}
variable {KK : Frag} {p : Program} {loose : List Str} {mg mb : Str → Option Value} {t u : Tok} {l l' : Addr}
end
end Mine
end
section
open PySem PySem.W PyProof.Rows PySem.SeqAt
set_option maxHeartbeats 4000000
namespace Mine
noncomputable def farBody : List Stmt := match lawBody.drop 9 with
  | .For _ _ b _ _ :: _ => match b with
    | .For _ _ c _ _ :: _ => c
    | _ => []
  | _ => []
structure FarSt (L Dm Dt Df R : Addr) (M : List Int) (tx : List (List Nat)) (as : List Addr) (FM : List (List Int)) (vj ve : Option V) (hp : Addr → Option (O Ky)) : Prop where
  c2 : hp (L + 1 + 1) = some (.cell (some (.ref Dm)))
  dm : hp Dm = some (.list (M.map V.int))
  dt : hp Dt = some (.list (tx.map fun t => V.str (T t)))
  c3 : hp (L + 1 + 1 + 1) = some (.cell (some (.ref Df)))
  df : hp Df = some (.list (as.map V.ref))
  rows : Rows hp as FM
  c4 : hp (L + 1 + 1 + 1 + 1) = some (.cell vj)
  c5 : hp (L + 1 + 1 + 1 + 1 + 1) = some (.cell ve)
  rg : hp R = some (.range 0 6 1)
  nd : as.Nodup
  na : ∀ x ∈ as, x ≠ Df ∧ x ≠ Dm ∧ x ≠ Dt
section
variable {L Dm Dt Df R X : Addr} {M : List Int} {tx : List (List Nat)} {as : List Addr} {FM : List (List Int)} {vj ve : Option V} {hp : Addr → Option (O Ky)} {o : O Ky}
theorem FarSt.fresh (f : FarSt L Dm Dt Df R M tx as FM vj ve hp) (hX : hp X = none) : FarSt L Dm Dt Df R M tx as FM vj ve (put hp X o) :=
  ⟨sub_put hX f.c2, sub_put hX f.dm, sub_put hX f.dt, sub_put hX f.c3, sub_put hX f.df, f.rows.fresh hX, sub_put hX f.c4, sub_put hX f.c5, sub_put hX f.rg, f.nd, f.na⟩
theorem FarSt.setJ (f : FarSt L Dm Dt Df R M tx as FM vj ve hp) {v : Option V} : FarSt L Dm Dt Df R M tx as FM v ve (put hp (L + 1 + 1 + 1 + 1) (.cell v)) :=
  ⟨(put_other (by simp)).trans f.c2, put_diff f.dm f.c4 (by intro q; cases q), put_diff f.dt f.c4 (by intro q; cases q), (put_other (by simp)).trans f.c3, put_diff f.df f.c4 (by intro q; cases q), f.rows.diff f.c4 (fun _ q => by cases q), put_same, (put_other (by simp)).trans f.c5, put_diff f.rg f.c4 (by intro q; cases q), f.nd, f.na⟩
theorem FarSt.setRow (f : FarSt L Dm Dt Df R M tx as FM vj ve hp) {i : Nat} {ai : Addr} {xs : List Int} (h : as[i]? = some ai) : FarSt L Dm Dt Df R M tx as (FM.set i xs) vj ve (put hp ai (.list (xs.map V.int))) := by
  have hm := List.mem_of_getElem? h
  obtain ⟨n1, n2, n3⟩ := f.na ai hm
  obtain ⟨ys, e⟩ := f.rows.mem ai hm
  skip
  exact ⟨put_diff f.c2 e (by intro q; cases q), (put_other (Ne.symm n2)).trans f.dm, (put_other (Ne.symm n3)).trans f.dt, put_diff f.c3 e (by intro q; cases q), (put_other (Ne.symm n1)).trans f.df, rows_set f.rows f.nd h, put_diff f.c4 e (by intro q; cases q), put_diff f.c5 e (by intro q; cases q), put_diff f.rg e (by intro q; cases q), f.nd, f.na⟩
end
section
variable {prog : Program} {w : World} {Γ : Fx} {σ : MS Ky} {A : Around} {env : Env} {α : Type} {s : Shared} {Q : Value → MS Ky → Prop} {QB : Bool → MS Ky → Prop} {QU : Unit → MS Ky → Prop} {QF : Flow → MS Ky → Prop}
variable {p : Program} {loose : List Str} {mg mb : Str → Option Value} {t u v : Tok} {n : Nat} {l : Addr} {a : Ad} {S : SS} {k : Ky}
theorem law_far {fa Dm Dt Df R : Addr} {cdv : Value} {M : List Int} {tx : List (List Nat)} {as : List Addr} {FM : List (List Int)} {ve : Option V} {tt : Int} {hp : Addr → Option (O Ky)} {i j : Nat}
    (hM : M.length = 6) (htx : tx.length = 6 ∧ ∀ x ∈ tx, x.length ≤ 1000) (hlev : ∀ i j : Nat, i < 6 → j < 6 → lev (tx.getD i []) (tx.getD j []) (4 + tt) = dist M i j) (hmb : ∀ i : Nat, i < 6 → 0 ≤ msk M i ∧ msk M i < 8)
    (sh : Shape FM) (hij : i < j) (hj : j < 6) (f : FarSt Γ.L Dm Dt Df R M tx as FM (some (.int (j : Nat))) ve hp)
    (Z : Here (Mine.hd1.heap_1 w.params) p loose mg mb Γ.base) (hA : Dp A (n + 6)) :
    mwp (kyK prog w) Γ A (execs farBody (lenv Γ.L fa cdv)) (fun f σ' => f = .next ∧ ∃ hp', Fit σ' (names [("total", .int tt), ("texts", .ref Dt)]) hp' ∧
        FarSt Γ.L Dm Dt Df R M tx as ((FM.set i ((FM.getD i []).set j (dist M i j))).set j (((FM.set i ((FM.getD i []).set j (dist M i j))).getD j []).set i (dist M i j))) (some (.int (j : Nat))) ve hp' ∧ ∀ b o, hp b = some o → b ∉ as → hp' b = some o)
      ⟨names [("total", .int tt), ("texts", .ref Dt), ("i", .int (i : Nat))], hp⟩ := by
  have c2 := f.c2
  have c3 := f.c3
  have c4 := f.c4
  have dm := f.dm
  have dt := f.dt
  have df := f.df
  have hi : i < 6 := by omega
  have hal : as.length = 6 := by rw [f.rows.length]; exact sh.1
  have txg : ∀ k : Nat, k < 6 → (tx.map fun t => V.str (T t))[k]? = some (.str (T (tx.getD k []))) := fun k hk => by
    have : k < tx.length := by rw [htx.1]; exact hk
    rw [List.getElem?_map, List.getElem?_eq_getElem this, List.getD_eq_getElem?_getD, List.getElem?_eq_getElem this]; rfl
  have txl : ∀ k : Nat, k < 6 → (tx.getD k []).length ≤ 1000 := fun k hk => by
    have : k < tx.length := by rw [htx.1]; exact hk
    rw [List.getD_eq_getElem?_getD, List.getElem?_eq_getElem this]; exact htx.2 _ (List.getElem_mem this)
  have mg' : ∀ k : Nat, k < 6 → (M.map V.int)[k]? = some (.int (msk M k)) := fun k hk => by rw [map_getD (by omega)]; rfl
  refine m_abs fun Zq0 hZq0 => ?_
  refine m_cons ?_
  refine m_AssignName ?_
  refine m_Call ?_
  refine m_Name ?_
  first | refine m_gK (by assumption) ?_ | refine m_gB (by assumption) ?_
  refine m_callZ (by assumption) ?_
  refine m_splE ?_
  refine m_Sub ?_
  refine evR (EvP.nm (v := .ref _) (by rfl)) ?_
  refine evI (EvP.nm (v := .int _) (by rfl)) fun _ => ?_
  refine m_atL (k := i) (v := .str (T (tx.getD i []))) dt (by omega) (txg i hi) fun v' hv' => ?_
  obtain ⟨t1, rfl⟩ := hv'
  refine m_splE ?_
  refine m_Sub ?_
  refine evR (EvP.nm (v := .ref _) (by rfl)) ?_
  refine evI (EvP.cell c4) fun _ => ?_
  refine m_atL (k := j) (v := .str (T (tx.getD j []))) dt (by omega) (txg j hj) fun v' hv' => ?_
  obtain ⟨t2, rfl⟩ := hv'
  refine m_splE ?_
  refine evI (EvP.add EvP.int (EvP.nm (v := .int _) (by rfl))) fun _ => ?_
  refine m_splE0 ?_
  refine m_code (c_lev (txl i hi) (txl j hj) Z (hA.le (by omega) : Dp A (n + 1)) fun _ => ?_)
  rw [hlev i j hi hj]
  refine m_sti ?_
  refine m_cons ?_
  refine m_AssignName ?_
  refine m_BinOp ?_
  refine m_Sub ?_
  refine evR (EvP.cell c2) ?_
  refine evI (EvP.nm (v := .int _) (by rfl)) fun _ => ?_
  refine m_atLi (k := i) (z := msk M i) dm (by omega) (mg' i hi) fun _ => ?_
  refine m_Sub ?_
  refine evR (EvP.cell c2) ?_
  refine evI (EvP.cell c4) fun _ => ?_
  refine m_atLi (k := j) (z := msk M j) dm (by omega) (mg' j hj) fun _ => ?_
  refine m_xor fun _ => ?_
  refine m_sti ?_
  refine m_cons ?_
  refine m_If ?_
  refine tvU (TvP.nei (EvP.nm (v := .int _) (by rfl)) (EvP.add (EvP.add (EvP.mod (EvP.nm (v := .int _) (by rfl)) EvP.int (by first | decide | assumption)) (EvP.mod (EvP.div (EvP.nm (v := .int _) (by rfl)) EvP.int (by first | decide | assumption) (by first | decide | assumption)) EvP.int (by first | decide | assumption))) (EvP.mul EvP.int (EvP.div (EvP.nm (v := .int _) (by rfl)) EvP.int (by first | decide | assumption) (by first | decide | assumption)) (by first | exact IntMulOk.of_right (by decide) | exact IntMulOk.of_left (by decide) | assumption)))) ?_
  skip
  refine ifalse (by unfold dist hamD; simp) ?_
  obtain ⟨ai, hai⟩ : ∃ ai, as[i]? = some ai := ⟨_, List.getElem?_eq_getElem (by omega)⟩
  obtain ⟨aj, haj⟩ : ∃ aj, as[j]? = some aj := ⟨_, List.getElem?_eq_getElem (by omega)⟩
  have hri : hp ai = some (.list ((FM.getD i []).map V.int)) := by
    obtain ⟨xs, q1, q2⟩ := f.rows.get hai
    rw [List.getD_eq_getElem?_getD, q1]; exact q2
  refine m_nil ?_
  refine m_cons ?_
  refine m_AssignSub ?_
  refine evI (EvP.nm (v := .int _) (by rfl)) fun _ => ?_
  refine m_Sub ?_
  refine evR (EvP.cell c3) ?_
  refine evI (EvP.nm (v := .int _) (by rfl)) fun _ => ?_
  refine m_atLr (k := i) (z := ai) df (by omega) (by rw [List.getElem?_map, hai]; rfl) ?_
  refine evI (EvP.cell c4) fun _ => ?_
  refine m_setL (k := j) (x := .int (dist M i j)) hri (by omega) (by rw [List.length_map, shape_row sh hi]; exact hj) ⟨_, rfl⟩ ?_
  have f2 := f.setRow (xs := (FM.getD i []).set j (dist M i j)) hai
  have sh2 : Shape (FM.set i ((FM.getD i []).set j (dist M i j))) := shape_set sh (by rw [List.length_set]; exact shape_row sh hi)
  have hsub : ∀ b o, hp b = some o → b ∉ as → put hp ai (.list (((FM.getD i []).set j (dist M i j)).map V.int)) b = some o := fun b o e nb => (put_other (show b ≠ ai from fun q => nb (q ▸ List.mem_of_getElem? hai))).trans e
  refine m_weak (m' := names [("total", .int tt), ("texts", .ref Dt), ("i", .int (i : Nat)), ("told", .int (dist M i j))]) (h' := put hp ai (.list (((FM.getD i []).set j (dist M i j)).map V.int))) (by walk_at "ms_sub") (by rw [List.map_set]; exact fun _ _ e => e) ?_
  revert f2 sh2 hsub
  generalize put hp ai (.list (((FM.getD i []).set j (dist M i j)).map V.int)) = hp2
  generalize hFM : FM.set i ((FM.getD i []).set j (dist M i j)) = FM2
  intro f2 sh2 hsub
  clear c2 c3 c4 dm dt df hri
  have c3 := f2.c3
  have c4 := f2.c4
  have df := f2.df
  have hrj : hp2 aj = some (.list ((FM2.getD j []).map V.int)) := by
    obtain ⟨xs, q1, q2⟩ := f2.rows.get haj
    rw [List.getD_eq_getElem?_getD, q1]; exact q2
  refine m_cons ?_
  refine m_AssignSub ?_
  refine evI (EvP.nm (v := .int _) (by rfl)) fun _ => ?_
  refine m_Sub ?_
  refine evR (EvP.cell c3) ?_
  refine evI (EvP.cell c4) fun _ => ?_
  refine m_atLr (k := j) (z := aj) df (by omega) (by rw [List.getElem?_map, haj]; rfl) ?_
  refine evI (EvP.nm (v := .int _) (by rfl)) fun _ => ?_
  refine m_setL (k := i) (x := .int (dist M i j)) hrj (by omega) (by rw [List.length_map, shape_row sh2 hj]; exact hi) ⟨_, rfl⟩ ?_
  have f3 := f2.setRow (xs := (FM2.getD j []).set i (dist M i j)) haj
  refine m_nil ?_
  refine hZq0 _ _ ?_
  refine ⟨rfl, _, ⟨by walk_at "ms_sub", by rw [List.map_set] at f3; exact fun _ _ e => e⟩, by rw [List.map_set] at f3; rw [hFM]; exact f3, fun b o e nb => (put_other (show b ≠ aj from fun q => nb (q ▸ List.mem_of_getElem? haj))).trans (hsub b o e nb)⟩
end
end Mine
end
section
open PySem PySem.W PyProof.Rows PySem.SeqAt
set_option maxHeartbeats 4000000
namespace Mine
section
variable {prog : Program} {w : World} {Γ : Fx} {σ : MS Ky} {A : Around} {env : Env} {α : Type} {s : Shared} {Q : Value → MS Ky → Prop} {QB : Bool → MS Ky → Prop} {QU : Unit → MS Ky → Prop} {QF : Flow → MS Ky → Prop}
variable {p : Program} {loose : List Str} {mg mb : Str → Option Value} {t u v : Tok} {n : Nat} {l : Addr} {a : Ad} {S : SS} {k : Ky}
theorem law_D {fa Dm Dt Df : Addr} {cdv : Value} {M : List Int} {tx : List (List Nat)} {as : List Addr} {vj ve : Option V} {tt : Int} {hp : Addr → Option (O Ky)}
    (hM : M.length = 6) (htx : tx.length = 6 ∧ ∀ x ∈ tx, x.length ≤ 1000) (hlev : ∀ i j : Nat, i < 6 → j < 6 → lev (tx.getD i []) (tx.getD j []) (4 + tt) = dist M i j) (hmb : ∀ i : Nat, i < 6 → 0 ≤ msk M i ∧ msk M i < 8)
    (hdc : ∀ a b : Nat, a < 6 → b < 6 → dist M a b = dist M b a) (pe : ∀ FM, Shape FM → (∀ a b : Nat, a < 6 → b < 6 → fm FM a b = dist M a b) → ∀ e : Nat, e < 2 → PE M FM e)
    (c2 : hp (Γ.L + 1 + 1) = some (.cell (some (.ref Dm)))) (dm : hp Dm = some (.list (M.map V.int))) (dt : hp Dt = some (.list (tx.map fun t => V.str (T t)))) (c3 : hp (Γ.L + 1 + 1 + 1) = some (.cell (some (.ref Df)))) (df : hp Df = some (.list (as.map V.ref))) (rows : Rows hp as (List.replicate 6 (List.replicate 6 0)))
    (c4 : hp (Γ.L + 1 + 1 + 1 + 1) = some (.cell vj)) (c5 : hp (Γ.L + 1 + 1 + 1 + 1 + 1) = some (.cell ve)) (nd : as.Nodup) (na : ∀ x ∈ as, x ≠ Df ∧ x ≠ Dm ∧ x ≠ Dt)
    (F : Fits Γ A) (Z : Here (Mine.hd1.heap_1 w.params) p loose mg mb Γ.base) (hA : Dp A (n + 6)) :
    mwp (kyK prog w) Γ A (execs (lawBody.drop 9) (lenv Γ.L fa cdv)) (fun f σ' => f = .ret (.bool true)) ⟨names [("total", .int tt), ("texts", .ref Dt)], hp⟩ := by
  have hh : A.handled = none := hA.hd
  have sh0 : Shape (List.replicate 6 (List.replicate 6 0)) := ⟨by decide, by decide⟩
  have fl0 : Filled M (List.replicate 6 (List.replicate 6 0)) 0 0 := by
    intro a b ha hb
    rw [if_neg (by omega)]
    have : (a = 0 ∨ a = 1 ∨ a = 2 ∨ a = 3 ∨ a = 4 ∨ a = 5) ∧ (b = 0 ∨ b = 1 ∨ b = 2 ∨ b = 3 ∨ b = 4 ∨ b = 5) := by omega
    rcases this with ⟨rfl | rfl | rfl | rfl | rfl | rfl, rfl | rfl | rfl | rfl | rfl | rfl⟩ <;> rfl
  refine m_cons ?_
  refine m_then (P := fun σ' => ∃ hp' R FM vj, Fit σ' (fun _ => none) hp' ∧ FarSt Γ.L Dm Dt Df R M tx as FM vj ve hp' ∧ Shape FM ∧ Filled M FM 6 0) ?_ ?_
  · refine m_ForG ?_
    refine m_abs fun Zq0 hZq0 => ?_
    refine m_Call ?_
    refine m_Name ?_
    first | refine m_gK (by assumption) ?_ | refine m_gB (by assumption) ?_
    refine m_callT ?_
    refine m_splE ?_
    refine evI EvP.int fun _ => ?_
    refine m_splE0 ?_
    refine m_range1 fun R hR => ?_
    have hR : hp R = none := hR
    have f0 : FarSt Γ.L Dm Dt Df R M tx as (List.replicate 6 (List.replicate 6 0)) vj ve (put hp R (.range 0 6 1)) :=
      ⟨sub_put hR c2, sub_put hR dm, sub_put hR dt, sub_put hR c3, sub_put hR df, rows.fresh hR, sub_put hR c4, sub_put hR c5, put_same, nd, na⟩
    refine hZq0 _ _ ?_
    refine ⟨_, _, _, yields_range hh 6 (by decide) (by decide), fun j σ' => ∃ hp' FM vj, Fit σ' (names [("total", .int tt), ("texts", .ref Dt)]) hp' ∧ FarSt Γ.L Dm Dt Df R M tx as FM vj ve hp' ∧ Shape FM ∧ Filled M FM j 0,
      ⟨_, _, vj, by walk_at "ms_fit", f0, sh0, fl0⟩, fun i σ' ⟨hp', _, _, hf, q, _⟩ => hf.2 _ _ q.rg, ?_, ?_⟩
    · clear f0 hR c2 dm dt c3 df rows c4 c5 vj fl0 sh0
      rintro j y v' σ' I ob hb hy iv ⟨hp1, FM, vj, hf, f, sh, fl⟩
      obtain ⟨hj6, rfl⟩ := range_item hy
      obtain ⟨tj, rfl⟩ := iv
      refine m_fit hf ?_
      clear hf
      have c4 := f.c4
      refine m_storeCell (v := .int _) (c := Γ.L + 1 + 1 + 1 + 1) ⟨_, rfl⟩ c4 ?_
      have f1 := f.setJ (v := some (.int (j : Nat)))
      refine m_weak (m' := names [("total", .int tt), ("texts", .ref Dt)]) (h' := put hp1 (Γ.L + 1 + 1 + 1 + 1) (.cell (some (.int (j : Nat))))) (by walk_at "ms_sub") (fun _ _ e => e) ?_
      revert f1
      generalize put hp1 (Γ.L + 1 + 1 + 1 + 1) (.cell (some (.int (j : Nat)))) = hp2
      intro f1
      clear f c4
      refine m_cons ?_
      refine m_then (P := fun σ' => ∃ hp' FM, Fit σ' (names [("total", .int tt), ("texts", .ref Dt)]) hp' ∧ FarSt Γ.L Dm Dt Df R M tx as FM (some (.int (j : Nat))) ve hp' ∧ Shape FM ∧ Filled M FM j j) ?_ ?_
      · refine m_ForG ?_
        have c4 := f1.c4
        refine m_abs fun Zq1 hZq1 => ?_
        refine m_Call ?_
        refine m_Name ?_
        first | refine m_gK (by assumption) ?_ | refine m_gB (by assumption) ?_
        refine m_callT ?_
        refine m_splE ?_
        refine evI (EvP.cell c4) fun _ => ?_
        refine m_splE0 ?_
        refine m_range1 fun R2 hR2 => ?_
        have hR2 : hp2 R2 = none := hR2
        have f2 := f1.fresh (o := .range 0 (j : Nat) 1) hR2
        have as2 : R2 ∉ as := fun q => by obtain ⟨xs, e⟩ := f1.rows.mem R2 q; rw [hR2] at e; cases e
        refine hZq1 _ _ ?_
        refine ⟨_, _, _, yields_range hh j (range_small (by omega)).1 (range_small (by omega)).2, fun i σ' => ∃ hp' FM, Fit σ' (names [("total", .int tt), ("texts", .ref Dt)]) hp' ∧ FarSt Γ.L Dm Dt Df R M tx as FM (some (.int (j : Nat))) ve hp' ∧ Shape FM ∧ Filled M FM j i ∧ hp' R2 = some (.range 0 (j : Nat) 1),
          ⟨_, FM, by walk_at "ms_fit", f2, sh, fl, put_same⟩, fun i σ' ⟨hp', _, hf, _, _, _, q⟩ => hf.2 _ _ q, ?_, ?_⟩
        · rintro i y v' σ' I2 ob2 hb2 hy iv ⟨hp3, FM3, hf, f3, sh3, fl3, q3⟩
          obtain ⟨hij, rfl⟩ := range_item hy
          obtain ⟨ti, rfl⟩ := iv
          refine m_fit hf ?_
          clear hf
          refine m_sti ?_
          refine m_weak (m' := names [("total", .int tt), ("texts", .ref Dt), ("i", .int (i : Nat))]) (h' := hp3) (by walk_at "ms_sub") (fun _ _ e => e) ?_
          refine m_post (law_far (Γ := (Γ.freeze I ob hb).freeze I2 ob2 hb2) (fa := fa) (cdv := cdv) (n := n) hM htx hlev hmb sh3 hij hj6 f3 (by exact Z) hA) ?_
          rintro fl σ'' ⟨rfl, hp4, hf4, f4, k4⟩
          skip
          exact ⟨σ'', fun _ _ e => e, fun _ _ e => e, hp4, _, hf4, f4, shape_set (shape_set sh3 (by rw [List.length_set]; exact shape_row sh3 (by omega))) (by rw [List.length_set]; exact shape_row (shape_set sh3 (by rw [List.length_set]; exact shape_row sh3 (by omega))) hj6), filled_step sh3 hdc fl3 hij hj6, k4 _ _ q3 as2⟩
        · rintro σ' ⟨hp3, FM3, hf, f3, sh3, fl3, q3⟩
          rw [List.length_map, List.length_range] at fl3
          skip
          exact ⟨rfl, hp3, FM3, hf, f3, sh3, fl3⟩
      · rintro σ' ⟨hp3, FM3, hf, f3, sh3, fl3⟩
        refine m_fit hf ?_
        refine m_nil ?_
        refine ⟨hp3, FM3, some (.int (j : Nat)), by walk_at "ms_fit", f3, sh3, fun a b ha hb => ?_⟩
        rw [fl3 a b ha hb]
        by_cases c : max a b < j ∨ (max a b = j ∧ min a b < j)
        · rw [if_pos c, if_pos (by omega)]
        · rw [if_neg c]
          by_cases c2 : max a b < j + 1 ∨ (max a b = j + 1 ∧ min a b < 0)
          · rw [if_pos c2]
            have e1 : a = j ∧ b = j := by omega
            rw [e1.1, e1.2]
            have := hmb j hj6
            unfold dist
            have hx : ∀ x : Int, 0 ≤ x → x < 8 → (0 : Int) = hamD (Builtin.bitXor x x) := fun x h1 h2 => by
              have : x = 0 ∨ x = 1 ∨ x = 2 ∨ x = 3 ∨ x = 4 ∨ x = 5 ∨ x = 6 ∨ x = 7 := by omega
              rcases this with rfl | rfl | rfl | rfl | rfl | rfl | rfl | rfl <;> decide +kernel
            exact hx _ this.1 this.2
          · rw [if_neg c2]
    · rintro σ' ⟨hp', FM, vj, hf, f, sh, fl⟩
      rw [List.length_map, List.length_range] at fl
      skip
      exact ⟨rfl, hp', R, FM, vj, ⟨(fun _ _ e => nomatch e), hf.2⟩, f, sh, fl⟩
  · rintro σ' ⟨hp', R, FM, vj, hf, f, sh, fl⟩
    refine m_fit hf ?_
    exact law_E (fa := fa) (cdv := cdv) (n := n) (pe FM sh fun a b ha hb => by rw [fl a b ha hb, if_pos (by omega)]) hM sh f.c2 f.dm f.c3 ⟨as, f.df, f.rows⟩ f.c4 f.c5 F Z hA
end
end Mine
end
section
open PySem PySem.W PyProof.Rows PySem.SeqAt
set_option maxHeartbeats 4000000
namespace Mine
section
variable {prog : Program} {w : World} {Γ : Fx} {σ : MS Ky} {A : Around} {env : Env} {α : Type} {s : Shared} {Q : Value → MS Ky → Prop} {QB : Bool → MS Ky → Prop} {QU : Unit → MS Ky → Prop} {QF : Flow → MS Ky → Prop}
variable {p : Program} {loose : List Str} {mg mb : Str → Option Value} {t u v : Tok} {n : Nat} {l : Addr} {a : Ad} {S : SS} {k : Ky}
theorem law_C {fa Dm Dt : Addr} {cdv : Value} {M : List Int} {tx : List (List Nat)} {vf vj ve : Option V} {tt : Int} {hp : Addr → Option (O Ky)}
    (hM : M.length = 6) (htx : tx.length = 6 ∧ ∀ x ∈ tx, x.length ≤ 1000) (hlev : ∀ i j : Nat, i < 6 → j < 6 → lev (tx.getD i []) (tx.getD j []) (4 + tt) = dist M i j) (hmb : ∀ i : Nat, i < 6 → 0 ≤ msk M i ∧ msk M i < 8)
    (hdc : ∀ a b : Nat, a < 6 → b < 6 → dist M a b = dist M b a) (pe : ∀ FM, Shape FM → (∀ a b : Nat, a < 6 → b < 6 → fm FM a b = dist M a b) → ∀ e : Nat, e < 2 → PE M FM e)
    (c2 : hp (Γ.L + 1 + 1) = some (.cell (some (.ref Dm)))) (dm : hp Dm = some (.list (M.map V.int))) (dt : hp Dt = some (.list (tx.map fun t => V.str (T t)))) (c3 : hp (Γ.L + 1 + 1 + 1) = some (.cell vf))
    (c4 : hp (Γ.L + 1 + 1 + 1 + 1) = some (.cell vj)) (c5 : hp (Γ.L + 1 + 1 + 1 + 1 + 1) = some (.cell ve))
    (F : Fits Γ A) (Z : Here (Mine.hd1.heap_1 w.params) p loose mg mb Γ.base) (hA : Dp A (n + 6)) :
    mwp (kyK prog w) Γ A (execs (lawBody.drop 8) (lenv Γ.L fa cdv)) (fun f σ' => f = .ret (.bool true)) ⟨names [("total", .int tt), ("texts", .ref Dt)], hp⟩ := by
  have hh : A.handled = none := hA.hd
  refine m_cons (m_AssignName ?_)
  refine m_ListComp ?_
  refine evR (EvP.cell c2) ?_
  refine ⟨_, _, _, yields_list hh (xs := M.map V.int), by rw [List.length_map, hM]; decide, fun i ys h' => ∃ as, ys = as.map V.ref ∧ as.length = i ∧ as.Nodup ∧ Rows h' as (List.replicate i (List.replicate 6 0)) ∧ (∀ b o, hp b = some o → h' b = some o) ∧ ∀ x ∈ as, hp x = none, ⟨[], rfl, rfl, List.nodup_nil, .nil, fun _ _ e => e, fun _ h => nomatch h⟩, ?_, ?_, ?_, ?_⟩
  · rintro i ys h' m ⟨as, _, _, _, _, q, _⟩; exact q _ _ dm
  · rintro i ys h' ⟨as, rfl, rfl, _⟩; rw [List.length_map]; exact Nat.le_refl _
  · rintro i y ys h' C I ob hb D od hd hy ⟨as, rfl, el, nd, rows, sub, fr⟩
    unfold mTests
    skip
    skip
    refine itrue rfl ?_
    refine m_BinOp ?_
    refine m_List ?_
    refine m_splE ?_
    refine evI EvP.int fun _ => ?_
    refine m_splE0 ?_
    refine m_newList (xs := [.int 0]) (.cons ⟨_, rfl⟩ .nil) (by show 1 ≤ sizeLine; decide) fun D1 hD1 => ?_
    have hD1 : h' D1 = none := hD1
    refine evI EvP.int fun _ => ?_
    refine m_mulList put_same (by simp) (by decide) (by decide) (by decide) fun D2 hD2 => ?_
    have hD2 : put h' D1 (.list [.int 0]) D2 = none := hD2
    skip
    have r2 := (rows.fresh (o := O.list [V.int 0]) hD1).fresh (o := .list (List.replicate (6 : Int).toNat [V.int 0]).flatten) hD2
    skip
    refine ⟨.ref D2, rfl, as ++ [D2], by simp, by simp [el], ?_, ?_, fun b o e => sub_put hD2 (sub_put hD1 (sub b o e)), fun x hx => ?_⟩
    · rw [List.nodup_append]
      skip
      refine ⟨nd, by simp, fun x hx y hy e => ?_⟩
      rw [List.mem_singleton.mp hy] at e
      obtain ⟨zs, ez⟩ := rows.mem x hx
      rw [e, none_put hD2] at ez; cases ez
    · rw [List.replicate_succ']
      exact r2.snoc put_same
    · rcases List.mem_append.mp hx with hx | hx
      · exact fr x hx
      · rw [List.mem_singleton.mp hx]; exact none_sub sub (none_put hD2)
  · rintro ys h' D ⟨as, rfl, el, nd, rows, sub, fr⟩ hD
    rw [List.length_map, hM] at el rows
    have s2 : ∀ b o, hp b = some o → put h' D (.list (as.map V.ref)) b = some o := fun b o e => sub_put hD (sub b o e)
    have c3' := s2 _ _ c3
    refine m_storeCell (v := .ref D) (c := Γ.L + 1 + 1 + 1) rfl c3' ?_
    have k3 : ∀ {b o}, put h' D (.list (as.map V.ref)) b = some o → (∀ v, o ≠ .cell v) → put (put h' D (.list (as.map V.ref))) (Γ.L + 1 + 1 + 1) (.cell (some (.ref D))) b = some o := fun h1 h2 => put_diff h1 c3' (h2 _)
    have key := law_D (fa := fa) (cdv := cdv) (n := n) (Γ := Γ) (A := A) (prog := prog) (Df := D) (as := as) (vj := vj) (ve := ve) (hp := put (put h' D (.list (as.map V.ref))) (Γ.L + 1 + 1 + 1) (.cell (some (.ref D)))) hM htx hlev hmb hdc pe ((put_other (show Γ.L + 1 + 1 ≠ Γ.L + 1 + 1 + 1 by simp)).trans (s2 _ _ c2)) (k3 (s2 _ _ dm) (fun _ q => by cases q)) (k3 (s2 _ _ dt) (fun _ q => by cases q)) put_same (k3 put_same (fun _ q => by cases q)) ((rows.fresh hD).diff c3' (fun _ q => by cases q)) ((put_other (show Γ.L + 1 + 1 + 1 + 1 ≠ Γ.L + 1 + 1 + 1 by simp)).trans (s2 _ _ c4)) ((put_other (show Γ.L + 1 + 1 + 1 + 1 + 1 ≠ Γ.L + 1 + 1 + 1 from Nat.ne_of_gt (Nat.lt_succ_of_lt (Nat.lt_succ_self _)))).trans (s2 _ _ c5)) nd
      (fun x hx => ⟨(fun q => by obtain ⟨zs, ez⟩ := rows.mem x hx; rw [q, hD] at ez; cases ez), (fun q => by have := fr x hx; rw [q, dm] at this; cases this), (fun q => by have := fr x hx; rw [q, dt] at this; cases this)⟩) F Z hA
    exact key
end
end Mine
end
section
open PySem PySem.W PyProof.Rows PySem.SeqAt
set_option maxHeartbeats 1000000
namespace Mine
theorem enc4 {a b c d : Int} (ha : 0 ≤ a ∧ a < 64) (hb : 0 ≤ b ∧ b < 64) (hc : 0 ≤ c ∧ c < 64) (hd : 0 ≤ d ∧ d < 64) :
    enc [(number [a, b, c, d]).fdiv 65536, ((number [a, b, c, d]).fdiv 256).fmod 256, (number [a, b, c, d]).fmod 256] = [sign a, sign b, sign c, sign d] := by
  have hn : number [a, b, c, d] = ((a * 64 + b) * 64 + c) * 64 + d := by unfold number; simp
  rw [hn]
  have hf : ∀ x : Int, x.fdiv 65536 = x / 65536 := fun x => Int.fdiv_eq_ediv_of_nonneg _ (by decide)
  have hf2 : ∀ x : Int, x.fdiv 256 = x / 256 := fun x => Int.fdiv_eq_ediv_of_nonneg _ (by decide)
  have hm : ∀ x : Int, x.fmod 256 = x % 256 := fun x => Int.fmod_eq_emod_of_nonneg _ (by decide)
  rw [hf, hf2, hm, hm]
  have e0 : ((0 : Int) * 256 + (((a * 64 + b) * 64 + c) * 64 + d) / 65536) % 65536 = a * 4 + b / 16 := by omega
  have e1 : ((a * 4 + b / 16) * 256 + (((a * 64 + b) * 64 + c) * 64 + d) / 256 % 256) % 65536 = (a * 4 + b / 16) * 256 + (b % 16 * 16 + c / 4) := by omega
  have e2 : (((a * 4 + b / 16) * 256 + (b % 16 * 16 + c / 4)) * 256 + (((a * 64 + b) * 64 + c) * 64 + d) % 256) % 65536 = (b % 16 * 16 + c / 4) * 256 + (c % 4 * 64 + d) := by omega
  unfold enc
  simp only [encB, e0]
  have d0 : drain (a * 4 + b / 16) 8 = ([sign a], 2) := by
    unfold drain; rw [if_neg (by omega), if_pos (by omega)]
    congr 3
    show (a * 4 + b / 16) / ((4 : Nat) : Int) % 64 = a
    omega
  rw [show (0 : Nat) + 8 = 8 from rfl, d0]
  simp only [e1]
  have d1 : drain ((a * 4 + b / 16) * 256 + (b % 16 * 16 + c / 4)) (2 + 8) = ([sign b], 4) := by
    unfold drain; rw [if_neg (by omega), if_pos (by omega)]
    congr 3
    show ((a * 4 + b / 16) * 256 + (b % 16 * 16 + c / 4)) / ((16 : Nat) : Int) % 64 = b
    omega
  rw [d1]
  simp only [e2]
  have d2 : drain ((b % 16 * 16 + c / 4) * 256 + (c % 4 * 64 + d)) (4 + 8) = ([sign c, sign d], 0) := by
    unfold drain; rw [if_pos (by omega)]
    congr 2
    · congr 1
      show ((b % 16 * 16 + c / 4) * 256 + (c % 4 * 64 + d)) / ((64 : Nat) : Int) % 64 = c
      omega
    · congr 2
      show ((b % 16 * 16 + c / 4) * 256 + (c % 4 * 64 + d)) / ((1 : Nat) : Int) % 64 = d
      omega
  rw [d2]
  simp
end Mine
end
section
open PySem PySem.W PyProof.Rows PySem.SeqAt
set_option maxHeartbeats 4000000
namespace Mine
noncomputable def codes : List Nat := b64s.map (·.toNat)
theorem signs_T : Str.ofString "ABCDEFGHIJKLMNOPQRSTUVWXYZabcdefghijklmnopqrstuvwxyz0123456789+/" = T codes := by decide +kernel
theorem code_at {k : Nat} (h : k < 64) : codes[k]? = some (sign (k : Nat)).toNat := by
  have : ∀ k : Fin 64, codes[k.val]? = some (sign (k.val : Nat)).toNat := by decide +kernel
  exact this ⟨k, h⟩
noncomputable def txOf (mk : List Int) (m : Int) : List Nat := (places mk m).map fun p => (sign p).toNat
noncomputable def textBody : List Stmt := match lawBody.drop 7 with
  | .For _ _ b _ _ :: _ => b
  | _ => []
section
variable {prog : Program} {w : World} {Γ : Fx} {σ : MS Ky} {A : Around} {env : Env} {α : Type} {s : Shared} {Q : Value → MS Ky → Prop} {QB : Bool → MS Ky → Prop} {QU : Unit → MS Ky → Prop} {QF : Flow → MS Ky → Prop}
variable {p : Program} {loose : List Str} {mg mb : Str → Option Value} {t u v : Tok} {n : Nat} {l : Addr} {a : Ad} {S : SS} {k : Ky}
theorem law_text {fa Dk Dt : Addr} {cdv : Value} {a b c d m p0 p1 p2 p3 : Int} {ts : List (List Nat)} {tt : Int} {hp : Addr → Option (O Ky)}
    (hpl : places [a, b, c, d] m = [p0, p1, p2, p3]) (h0 : 0 ≤ p0 ∧ p0 < 64) (h1 : 0 ≤ p1 ∧ p1 < 64) (h2 : 0 ≤ p2 ∧ p2 < 64) (h3 : 0 ≤ p3 ∧ p3 < 64) (hts : ts.length ≤ 1000)
    (c1 : hp (Γ.L + 1) = some (.cell (some (.str (T codes))))) (dk : hp Dk = some (.list ([a, b, c, d].map V.int))) (dt : hp Dt = some (.list (ts.map fun t => V.str (T t))))
    (Z : Here (Mine.hd1.heap_1 w.params) p loose mg mb Γ.base) (hA : Dp A (n + 6)) :
    mwp (kyK prog w) Γ A (execs textBody (lenv Γ.L fa cdv)) (fun f σ' => f = .next ∧ ∃ hp', Fit σ' (names [("total", .int tt), ("marks", .ref Dk), ("texts", .ref Dt)]) hp' ∧ hp' Dt = some (.list ((ts ++ [txOf [a, b, c, d] m]).map fun t => V.str (T t))) ∧ ∀ b o, hp b = some o → b ≠ Dt → hp' b = some o)
      ⟨names [("total", .int tt), ("marks", .ref Dk), ("texts", .ref Dt), ("mask", .int m)], hp⟩ := by
  have hh : A.handled = none := hA.hd
  have etx : txOf [a, b, c, d] m = [p0, p1, p2, p3].map fun p => (sign p).toNat := by unfold txOf; rw [hpl]
  refine m_abs fun Zq0 hZq0 => ?_
  refine m_cons ?_
  refine m_AssignName ?_
  refine m_Call ?_
  refine m_Name ?_
  first | refine m_gK (by assumption) ?_ | refine m_gB (by assumption) ?_
  refine m_callZ (by assumption) ?_
  refine m_splE ?_
  refine evR (EvP.nm (v := .ref _) (by rfl)) ?_
  refine m_splE ?_
  refine evI (EvP.nm (v := .int _) (by rfl)) fun _ => ?_
  refine m_splE0 ?_
  refine m_code (c_places dk Z (hA.le (by omega) : Dp A n) fun D1 hD1 => ?_)
  rw [hpl]
  have hD1 : hp D1 = none := hD1
  refine m_str' ?_
  refine m_cons ?_
  refine m_AssignName ?_
  refine m_Call ?_
  refine m_Name ?_
  first | refine m_gK (by assumption) ?_ | refine m_gB (by assumption) ?_
  refine m_callZ (by assumption) ?_
  refine m_splE ?_
  refine m_abs fun Zq1 hZq1 => ?_
  refine m_Call ?_
  refine m_Name ?_
  first | refine m_gK (by assumption) ?_ | refine m_gB (by assumption) ?_
  refine m_callZ (by assumption) ?_
  refine m_splE ?_
  refine m_Call ?_
  refine m_Name ?_
  first | refine m_gK (by assumption) ?_ | refine m_gB (by assumption) ?_
  refine m_callT ?_
  refine m_splE ?_
  refine m_Call ?_
  refine m_Name ?_
  first | refine m_gK (by assumption) ?_ | refine m_gB (by assumption) ?_
  refine m_callZ (by assumption) ?_
  refine m_splE ?_
  refine evR (EvP.nm (v := .ref _) (by rfl)) ?_
  refine m_splE0 ?_
  refine m_code (c_octets (ps := [p0, p1, p2, p3]) put_same Z (hA.le (by omega) : Dp A n) fun D2 hD2 => ?_)
  have hD2 : put hp D1 (.list ([p0, p1, p2, p3].map V.int)) D2 = none := hD2
  refine m_splE0 ?_
  have hn : number [p0, p1, p2, p3] = ((p0 * 64 + p1) * 64 + p2) * 64 + p3 := by unfold number; simp
  have e4 := enc4 h0 h1 h2 h3
  have hoct : ∀ x ∈ [(number [p0, p1, p2, p3]).fdiv 65536, ((number [p0, p1, p2, p3]).fdiv 256).fmod 256, (number [p0, p1, p2, p3]).fmod 256], 0 ≤ x ∧ x < 256 := by
    intro x hx
    rw [hn, show ∀ y : Int, y.fdiv 65536 = y / 65536 from fun y => Int.fdiv_eq_ediv_of_nonneg _ (by decide), show ∀ y : Int, y.fdiv 256 = y / 256 from fun y => Int.fdiv_eq_ediv_of_nonneg _ (by decide)] at hx
    simp only [List.mem_cons, List.not_mem_nil, or_false, Int.fmod_eq_emod_of_nonneg _ (show (0 : Int) ≤ 256 by decide)] at hx
    rcases hx with rfl | rfl | rfl <;> omega
  have hol : [(number [p0, p1, p2, p3]).fdiv 65536, ((number [p0, p1, p2, p3]).fdiv 256).fmod 256, (number [p0, p1, p2, p3]).fmod 256].length = 3 := rfl
  revert e4 hoct hol
  generalize [(number [p0, p1, p2, p3]).fdiv 65536, ((number [p0, p1, p2, p3]).fdiv 256).fmod 256, (number [p0, p1, p2, p3]).fmod 256] = oct
  intro e4 hoct hol
  refine m_bytes hh put_same hoct (by rw [hol]; decide) fun _ => ?_
  refine m_splE0 ?_
  refine m_code (c_b64 hoct (by omega) Z (hA.le (by omega) : Dp A (n + 2)) fun _ => ?_)
  rw [e4]
  have hsg : ∀ x ∈ [sign p0, sign p1, sign p2, sign p3], 0 ≤ x ∧ x < 256 := by
    intro x hx
    simp only [List.mem_cons, List.not_mem_nil, or_false] at hx
    rcases hx with rfl | rfl | rfl | rfl <;> exact sign_ok _
  refine hZq1 _ _ ?_
  refine m_splE0 ?_
  refine m_code (c_text hsg (by show 4 ≤ 1000; decide) Z (hA.le (by omega) : Dp A n) fun _ => ?_)
  refine m_sts ?_
  refine m_cons ?_
  refine m_If ?_
  refine m_isCompare ?_
  refine evS (EvP.nm (v := .str _) (by rfl)) fun _ => ?_
  refine m_abs fun Zq2 hZq2 => ?_
  refine m_Method ?_
  refine evS EvP.str fun _ => ?_
  refine m_methStr PySem.F.slot_str_join PySem.F.type_str_join ?_
  refine m_callB ?_
  refine m_splE ?_
  have c1' : put (put hp D1 (.list ([p0, p1, p2, p3].map V.int))) D2 (.list (oct.map V.int)) (Γ.L + 1) = some (.cell (some (.str (T codes)))) := sub_put hD2 (sub_put hD1 c1)
  have dp' : put (put hp D1 (.list ([p0, p1, p2, p3].map V.int))) D2 (.list (oct.map V.int)) D1 = some (.list ([p0, p1, p2, p3].map V.int)) := sub_put hD2 put_same
  have dt' : put (put hp D1 (.list ([p0, p1, p2, p3].map V.int))) D2 (.list (oct.map V.int)) Dt = some (.list (ts.map fun t => V.str (T t))) := sub_put hD2 (sub_put hD1 dt)
  have hs' : ∀ b o, hp b = some o → put (put hp D1 (.list ([p0, p1, p2, p3].map V.int))) D2 (.list (oct.map V.int)) b = some o := fun b o e => sub_put hD2 (sub_put hD1 e)
  refine m_weak (m' := names [("total", .int tt), ("marks", .ref Dk), ("texts", .ref Dt), ("places", .ref D1), ("text", .str (T ([sign p0, sign p1, sign p2, sign p3].map Int.toNat)))]) (h' := put (put hp D1 (.list ([p0, p1, p2, p3].map V.int))) D2 (.list (oct.map V.int))) (by walk_at "ms_sub") (fun _ _ e => e) ?_
  revert c1' dp' dt' hs'
  generalize put (put hp D1 (.list ([p0, p1, p2, p3].map V.int))) D2 (.list (oct.map V.int)) = hp3
  intro c1' dp' dt' hs'
  clear c1 dk dt hD1 hD2
  skip
  refine m_Comp ?_
  refine evR (EvP.nm (v := .ref _) (by rfl)) ?_
  refine ⟨_, _, _, yields_list hh (xs := [p0, p1, p2, p3].map V.int), by show 4 ≤ sizeLine; decide, fun σ' hs => hs _ _ dp', fun _ => true, fun y => match y with | .int i => .str (T [(sign i).toNat]) | y => y, ?_, ?_⟩
  · intro y hy C I ob hb D od hd
    obtain ⟨q, hq, rfl⟩ := List.mem_map.mp hy
    have hqb : 0 ≤ q ∧ q < 64 := by
      simp only [List.mem_cons, List.not_mem_nil, or_false] at hq
      rcases hq with rfl | rfl | rfl | rfl <;> assumption
    obtain ⟨kq, rfl⟩ := Int.eq_ofNat_of_zero_le hqb.1
    skip
    refine ⟨rfl, ?_⟩
    skip
    refine itrue rfl ?_
    refine m_Sub ?_
    refine evS (EvP.cell c1') fun _ => ?_
    refine evI (EvP.nm (v := .int _) (by rfl)) fun _ => ?_
    refine m_atT (k := kq) (by omega) (code_at (by omega)) fun _ => ?_
    skip
    exact ⟨fun _ _ e => e, ⟨_, rfl⟩⟩
  intro D5 hD5
  have hD5 : hp3 D5 = none := hD5
  have el : List.map (fun y => match y with | V.int i => V.str (T [(sign i).toNat]) | y => y) (List.filter (fun x => true) ([p0, p1, p2, p3].map V.int)) = ((((([p0, p1, p2, p3].map fun p => (sign p).toNat)).map fun i => [i]).map T).map V.str) := by rfl
  rw [el]
  refine m_splE0 ?_
  refine m_join put_same (by decide) (by show _ ≤ 1048576; rw [ones_sum]; simp) fun _ => ?_
  rw [join_T, ones_flat]
  refine hZq2 _ _ ?_
  refine m_nes ?_
  refine m_trBool ?_
  refine ifalse (by rw [T_bne]; simp) ?_
  refine m_nil ?_
  refine m_cons ?_
  refine m_Expr ?_
  refine m_Method ?_
  refine evR (EvP.nm (v := .ref _) (by rfl)) ?_
  refine m_methList (by walk_at "hl") PySem.F.slot_list_append PySem.F.type_list_append ?_
  refine m_callB ?_
  refine m_splE ?_
  refine evS (EvP.nm (v := .str _) (by rfl)) fun _ => ?_
  refine m_splE0 ?_
  refine m_append (x := .str (T ([sign p0, sign p1, sign p2, sign p3].map Int.toNat))) (sub_put hD5 dt') ⟨_, rfl⟩ (by rw [List.length_map]; exact Nat.le_trans hts (by decide)) ?_
  refine m_nil ?_
  refine hZq0 _ _ ?_
  refine ⟨rfl, put (put hp3 D5 (.list ((((([p0, p1, p2, p3].map fun p => (sign p).toNat)).map fun i => [i]).map T).map V.str))) Dt (.list (ts.map (fun t => V.str (T t)) ++ [.str (T ([sign p0, sign p1, sign p2, sign p3].map Int.toNat))])), by walk_at "ms_fit", ?_, fun b o e hb => (put_other hb).trans (sub_put hD5 (hs' b o e))⟩
  rw [put_same, etx, List.map_append]
  rfl
end
end Mine
end
section
open PySem PySem.W PyProof.Rows PySem.SeqAt
set_option maxHeartbeats 400000
namespace Mine
section
variable {prog : Program} {w : World} {K : Type} [DecidableEq K] {knd : PySem.KeyKind prog w K} {Γ : Fx} {σ : MS K} {A : Around} {env : Env} {α : Type} {s : Shared} {Q : Value → MS K → Prop} {QB : Bool → MS K → Prop} {QU : Unit → MS K → Prop} {QF : Flow → MS K → Prop}
theorem m_SubSliceB {value : Expr} {lower upper : Option Expr} {p pos : Pos}
    (h : mwp knd Γ A (eval value env) (fun o σ₁ => mwp knd Γ A (evalPart lower env) (fun vl σ₂ => mwp knd Γ A (evalPart upper env) (fun vu σ₃ => ∃ (l : Addr) (ob : Obj) (vs : Array Value) (n : Nat) (xs : List V) (b : Nat) (t : Tok), o = .ref l ∧ (Γ.B l = some ob ∧ ob.cls = .type "list" ∧ ob.data = .seq vs n) ∧ Are xs vs.toList ∧ xs.length ≤ sizeLine ∧ vl = .none ∧ vu = .int (b : Nat) t ∧
      ∀ D, σ₃.h D = none → Q (.ref D) (σ₃.set D (.list (xs.take b)))) σ₂) σ₁) σ) :
    mwp knd Γ A (eval (.Subscript value (.Slice lower upper none p) pos) env) Q σ := fun s E R => by
  refine eval_SubSlice _ _ _ _ _ _ (h.use R fun o s₁ σ₁ R₁ q => q.use R₁ fun vl s₂ σ₂ R₂ q => q.use R₂ fun vu s₃ σ₃ R₃ q => ?_)
  obtain ⟨l, ob, vs, n, xs, b, t, rfl, ⟨hB, hc, hd⟩, ar, hsz, rfl, rfl, hq⟩ := q
  have e : s₃.heap.IsList l vs := ⟨_, R₃.keep _ _ hB, hc, n, hd⟩
  have R₄ : Rel knd Γ σ₃ { s₃ with heap := s₃.heap.push { cls := .type "slice", data := .fields #[.none, .int (b : Nat) t, .none] } } := R₃.ext (tk := s₃.toks) fun _ _ e => Heap.get?_push_of_some _ e
  have e4 : (s₃.heap.push { cls := .type "slice", data := .fields #[.none, .int (b : Nat) t, .none] }).IsList l vs := e.push _
  refine tail_any (T := "list") e4.typeIs slot_list_getitem.lookup ?_ (by with_unfolding_all rfl)
  refine wpAny_getItem_list_slice (items := vs) e4 ⟨_, Heap.get?_push_size _ rfl, rfl, rfl⟩ .none (.int _ t) .none (by intro z; cases z) ?_ (by rw [ar.size]; exact hsz)
  refine ⟨_, R₄.push (o := .list (xs.take b)) (tk := s₃.toks) ⟨_, _, rfl, ?_⟩, hq _ ?_⟩
  · rw [slicePick_upto']; simpa using ar.take b
  · exact R₄.fresh
end
end Mine
end
section
open PySem PySem.W PyProof.Rows PySem.SeqAt
set_option maxHeartbeats 4000000
namespace Mine
noncomputable def mstep (ms : List Int) (x : Int) : List Int := if (!(ms.any (· == x.fmod 8)) && decide ((ms.length : Int) < 6)) = true then ms ++ [x.fmod 8] else ms
noncomputable def tail6 : List Int := [9, 3, 14, 4, 10, 0]
noncomputable def masksOf (ns : List Int) : List Int := (ns.take 18 ++ tail6).foldl mstep []
noncomputable def totalOf (ns : List Int) : Int := ((ns.take 18).map fun x => x.fmod 1000000000000000).sum
structure Plain (M : List Int) (tt a b c d : Int) : Prop where
  len : M.length = 6
  mb : ∀ i : Nat, i < 6 → 0 ≤ msk M i ∧ msk M i < 8
  pl : ∀ m ∈ M, ∃ p0 p1 p2 p3, places [a, b, c, d] m = [p0, p1, p2, p3] ∧ (0 ≤ p0 ∧ p0 < 64) ∧ (0 ≤ p1 ∧ p1 < 64) ∧ (0 ≤ p2 ∧ p2 < 64) ∧ (0 ≤ p3 ∧ p3 < 64)
  lv : ∀ i j : Nat, i < 6 → j < 6 → lev (txOf [a, b, c, d] (msk M i)) (txOf [a, b, c, d] (msk M j)) (4 + tt) = dist M i j
  dc : ∀ a b : Nat, a < 6 → b < 6 → dist M a b = dist M b a
  pe : ∀ FM, Shape FM → (∀ a b : Nat, a < 6 → b < 6 → fm FM a b = dist M a b) → ∀ e : Nat, e < 2 → PE M FM e
section
variable {prog : Program} {w : World} {Γ : Fx} {σ : MS Ky} {A : Around} {env : Env} {α : Type} {s : Shared} {Q : Value → MS Ky → Prop} {QB : Bool → MS Ky → Prop} {QU : Unit → MS Ky → Prop} {QF : Flow → MS Ky → Prop}
variable {p : Program} {loose : List Str} {mg mb : Str → Option Value} {t u v : Tok} {n : Nat} {l : Addr} {S : SS} {k : Ky}
theorem law_B {fa Dm Dk : Addr} {cdv : Value} {M : List Int} {a b c d : Int} {vf vj ve : Option V} {tt : Int} {hp : Addr → Option (O Ky)} (P : Plain M tt a b c d)
    (c1 : hp (Γ.L + 1) = some (.cell (some (.str (T codes))))) (c2 : hp (Γ.L + 1 + 1) = some (.cell (some (.ref Dm)))) (dm : hp Dm = some (.list (M.map V.int))) (dk : hp Dk = some (.list ([a, b, c, d].map V.int))) (c3 : hp (Γ.L + 1 + 1 + 1) = some (.cell vf))
    (c4 : hp (Γ.L + 1 + 1 + 1 + 1) = some (.cell vj)) (c5 : hp (Γ.L + 1 + 1 + 1 + 1 + 1) = some (.cell ve))
    (F : Fits Γ A) (Z : Here (Mine.hd1.heap_1 w.params) p loose mg mb Γ.base) (hA : Dp A (n + 6)) :
    mwp (kyK prog w) Γ A (execs (lawBody.drop 6) (lenv Γ.L fa cdv)) (fun f σ' => f = .ret (.bool true)) ⟨names [("total", .int tt), ("marks", .ref Dk)], hp⟩ := by
  have hh : A.handled = none := hA.hd
  refine m_cons ?_
  refine m_AssignName ?_
  refine m_List ?_
  refine m_splE0 ?_
  refine m_newList .nil (by decide) fun Dt hDt => ?_
  have hDt : hp Dt = none := hDt
  refine m_str' ?_
  skip
  refine m_weak (m' := names [("total", .int tt), ("marks", .ref Dk), ("texts", .ref Dt)]) (h' := put hp Dt (.list [])) (by walk_at "ms_sub") (fun _ _ e => e) ?_
  refine m_cons ?_
  refine m_then (P := fun σ' => ∃ hp', Fit σ' (names [("total", .int tt), ("texts", .ref Dt)]) hp' ∧ (∀ b o, hp b = some o → hp' b = some o) ∧ hp' Dt = some (.list ((M.map (txOf [a, b, c, d])).map fun t => V.str (T t)))) ?_ ?_
  · refine m_For ?_
    have c2' := sub_put (x := O.list []) hDt c2
    refine m_Name (m_ciR (c := Γ.L + 1 + 1) c2' ?_)
    skip
    refine ⟨_, _, _, yields_list hh (xs := M.map V.int), fun i σ' => ∃ hp', Fit σ' (names [("total", .int tt), ("marks", .ref Dk), ("texts", .ref Dt)]) hp' ∧ (∀ b o, hp b = some o → hp' b = some o) ∧ hp' Dt = some (.list (((M.take i).map (txOf [a, b, c, d])).map fun t => V.str (T t))),
      ⟨_, by walk_at "ms_fit", fun b o e => sub_put hDt e, put_same⟩, fun i σ' ⟨hp', hf, q, _⟩ => hf.2 _ _ (q _ _ dm), ?_, ?_⟩
    · rintro i y σ' I ob hb hy ⟨hp1, hf, q1, q2⟩
      obtain ⟨m, hm, rfl⟩ := map_get hy
      obtain ⟨p0, p1, p2, p3, e0, b0, b1, b2, b3⟩ := P.pl m (List.mem_of_getElem? hm)
      refine m_fitS hf ?_
      refine m_weak (σ := ⟨_, _⟩) (m' := names [("total", .int tt), ("marks", .ref Dk), ("texts", .ref Dt), ("mask", .int m)]) (h' := hp1) (by walk_at "ms_sub") (fun _ _ e => e) ?_
      refine m_post (law_text (Γ := Γ.freeze I ob hb) (fa := fa) (cdv := cdv) (n := n) (ts := (M.take i).map (txOf [a, b, c, d])) e0 b0 b1 b2 b3 (by rw [List.length_map, List.length_take, P.len]; omega) (q1 _ _ c1) (q1 _ _ dk) q2 (by exact Z) hA) ?_
      rintro fl σ'' ⟨rfl, hp2, hf2, q3, q4⟩
      skip
      refine ⟨σ'', fun _ _ e => e, fun _ _ e => e, hp2, hf2, fun b o e => q4 b o (q1 b o e) (fun z => by rw [z, hDt] at e; cases e), ?_⟩
      rw [take_snoc hm, List.map_append]; exact q3
    · rintro σ' ⟨hp', hf, q1, q2⟩
      rw [List.length_map, List.take_length] at q2
      skip
      refine ⟨rfl, hp', ⟨fun z v q => hf.1 z v ?_, hf.2⟩, q1, q2⟩
      revert q; exact (show Sub (names _) (names _) by walk_at "ms_sub") z v
  · rintro σ' ⟨hp', hf, q1, q2⟩
    refine m_fit hf ?_
    have gtx : ∀ i : Nat, i < 6 → (M.map (txOf [a, b, c, d])).getD i [] = txOf [a, b, c, d] (msk M i) := fun i hi => by
      have : i < M.length := by rw [P.len]; exact hi
      rw [List.getD_eq_getElem?_getD, List.getElem?_map, List.getElem?_eq_getElem this]
      unfold msk
      rw [Int.toNat_natCast, List.getD_eq_getElem?_getD, List.getElem?_eq_getElem this]; rfl
    refine law_C (fa := fa) (cdv := cdv) (n := n) P.len ⟨by rw [List.length_map, P.len], fun x hx => ?_⟩ (fun i j hi hj => by rw [gtx i hi, gtx j hj]; exact P.lv i j hi hj) P.mb P.dc P.pe (q1 _ _ c2) (q1 _ _ dm) q2 (q1 _ _ c3) (q1 _ _ c4) (q1 _ _ c5) F Z hA
    obtain ⟨m, hm, rfl⟩ := List.mem_map.mp hx
    obtain ⟨p0, p1, p2, p3, e0, _⟩ := P.pl m hm
    unfold txOf
    rw [e0]; show 4 ≤ 1000; decide
end
end Mine
end
section
open PySem PySem.W PyProof.Rows PySem.SeqAt
set_option maxHeartbeats 4000000
namespace Mine
theorem sum_snoc {l : List Int} {x : Int} : (l ++ [x]).sum = l.sum + x := by rw [List.sum_append]; simp
theorem mstep_len {ms : List Int} {x : Int} (h : ms.length ≤ 6) : (mstep ms x).length ≤ 6 := by
  unfold mstep; split
  · rename_i q
    have : (ms.length : Int) < 6 := by simp at q; exact q.2
    rw [List.length_append, List.length_singleton]; omega
  · exact h
theorem fold_len : ∀ (xs ms : List Int), ms.length ≤ 6 → (xs.foldl mstep ms).length ≤ 6
  | [], ms, h => h
  | x :: xs, ms, h => fold_len xs (mstep ms x) (mstep_len h)
section
variable {prog : Program} {w : World} {Γ : Fx} {σ : MS Ky} {A : Around} {env : Env} {α : Type} {s : Shared} {Q : Value → MS Ky → Prop} {QB : Bool → MS Ky → Prop} {QU : Unit → MS Ky → Prop} {QF : Flow → MS Ky → Prop}
variable {p : Program} {loose : List Str} {mg mb : Str → Option Value} {t u v : Tok} {n : Nat} {l : Addr} {S : SS} {k : Ky}
theorem law_A {fa ls : Addr} {cdv : Value} {ns : List Int} {vs : Array Value} {nn : Nat} {oL : Obj} {hp : Addr → Option (O Ky)} (hns : ns.length ≤ 63)
    (P : Plain (masksOf ns) (totalOf ns) ((totalOf ns).fmod 26) (((totalOf ns).fdiv 26).fmod 26) (((totalOf ns).fdiv 676).fmod 26) (((totalOf ns).fdiv 17576).fmod 64))
    (hB : Γ.B ls = some oL ∧ oL.cls = .type "list" ∧ oL.data = .seq vs nn) (ar : Are (ns.map V.int) vs.toList)
    (c1 : hp (Γ.L + 1) = some (.cell none)) (c2 : hp (Γ.L + 1 + 1) = some (.cell none)) (c3 : hp (Γ.L + 1 + 1 + 1) = some (.cell none)) (c4 : hp (Γ.L + 1 + 1 + 1 + 1) = some (.cell none)) (c5 : hp (Γ.L + 1 + 1 + 1 + 1 + 1) = some (.cell none))
    (F : Fits Γ A) (Z : Here (Mine.hd1.heap_1 w.params) p loose mg mb Γ.base) (hA : Dp A (n + 6)) :
    mwp (kyK prog w) Γ A (execs lawBody (lenv Γ.L fa cdv)) (fun f σ' => f = .ret (.bool true)) ⟨names [("script", .ref ls)], hp⟩ := by
  have hh : A.handled = none := hA.hd
  refine m_cons ?_
  refine m_AssignName ?_
  refine evS EvP.str fun _ => ?_
  refine m_storeCell (v := .str _) (c := Γ.L + 1) ⟨_, rfl⟩ c1 ?_
  refine m_AssignE EvP.int ?_
  refine m_cons ?_
  refine m_AssignName ?_
  refine m_List ?_
  refine m_splE0 ?_
  refine m_newList .nil (by decide) fun Dm hDm => ?_
  rw [signs_T] at hDm ⊢
  have hDm : put hp (Γ.L + 1) (.cell (some (.str (T codes)))) Dm = none := hDm
  have c1a : put hp (Γ.L + 1) (.cell (some (.str (T codes)))) (Γ.L + 1) = some (.cell (some (.str (T codes)))) := put_same
  have c2a : put hp (Γ.L + 1) (.cell (some (.str (T codes)))) (Γ.L + 1 + 1) = some (.cell none) := (put_other (by simp)).trans c2
  have c3a : put hp (Γ.L + 1) (.cell (some (.str (T codes)))) (Γ.L + 1 + 1 + 1) = some (.cell none) := (put_other (show Γ.L + 1 + 1 + 1 ≠ Γ.L + 1 from Nat.ne_of_gt (Nat.lt_succ_of_lt (Nat.lt_succ_self _)))).trans c3
  have c4a : put hp (Γ.L + 1) (.cell (some (.str (T codes)))) (Γ.L + 1 + 1 + 1 + 1) = some (.cell none) := (put_other (show Γ.L + 1 + 1 + 1 + 1 ≠ Γ.L + 1 from Nat.ne_of_gt (Nat.lt_succ_of_lt (Nat.lt_succ_of_lt (Nat.lt_succ_self _))))).trans c4
  have c5a : put hp (Γ.L + 1) (.cell (some (.str (T codes)))) (Γ.L + 1 + 1 + 1 + 1 + 1) = some (.cell none) := (put_other (show Γ.L + 1 + 1 + 1 + 1 + 1 ≠ Γ.L + 1 from Nat.ne_of_gt (Nat.lt_succ_of_lt (Nat.lt_succ_of_lt (Nat.lt_succ_of_lt (Nat.lt_succ_self _)))))).trans c5
  refine m_storeCell (v := .ref Dm) (c := Γ.L + 1 + 1) rfl (sub_put hDm c2a) ?_
  skip
  have e1 : put (put (put hp (Γ.L + 1) (.cell (some (.str (T codes))))) Dm (.list [])) (Γ.L + 1 + 1) (.cell (some (.ref Dm))) (Γ.L + 1) = some (.cell (some (.str (T codes)))) := (put_other (by simp)).trans (sub_put hDm c1a)
  have e2 : put (put (put hp (Γ.L + 1) (.cell (some (.str (T codes))))) Dm (.list [])) (Γ.L + 1 + 1) (.cell (some (.ref Dm))) (Γ.L + 1 + 1) = some (.cell (some (.ref Dm))) := put_same
  have e3 : put (put (put hp (Γ.L + 1) (.cell (some (.str (T codes))))) Dm (.list [])) (Γ.L + 1 + 1) (.cell (some (.ref Dm))) (Γ.L + 1 + 1 + 1) = some (.cell none) := (put_other (by simp)).trans (sub_put hDm c3a)
  have e4 : put (put (put hp (Γ.L + 1) (.cell (some (.str (T codes))))) Dm (.list [])) (Γ.L + 1 + 1) (.cell (some (.ref Dm))) (Γ.L + 1 + 1 + 1 + 1) = some (.cell none) := (put_other (show Γ.L + 1 + 1 + 1 + 1 ≠ Γ.L + 1 + 1 from Nat.ne_of_gt (Nat.lt_succ_of_lt (Nat.lt_succ_self _)))).trans (sub_put hDm c4a)
  have e5 : put (put (put hp (Γ.L + 1) (.cell (some (.str (T codes))))) Dm (.list [])) (Γ.L + 1 + 1) (.cell (some (.ref Dm))) (Γ.L + 1 + 1 + 1 + 1 + 1) = some (.cell none) := (put_other (show Γ.L + 1 + 1 + 1 + 1 + 1 ≠ Γ.L + 1 + 1 from Nat.ne_of_gt (Nat.lt_succ_of_lt (Nat.lt_succ_of_lt (Nat.lt_succ_self _))))).trans (sub_put hDm c5a)
  have em : put (put (put hp (Γ.L + 1) (.cell (some (.str (T codes))))) Dm (.list [])) (Γ.L + 1 + 1) (.cell (some (.ref Dm))) Dm = some (.list []) := put_diff put_same (sub_put hDm c2a) (by intro q; cases q)
  refine m_weak (m' := names [("script", .ref ls), ("total", .int 0)]) (h' := put (put (put hp (Γ.L + 1) (.cell (some (.str (T codes))))) Dm (.list [])) (Γ.L + 1 + 1) (.cell (some (.ref Dm)))) (by walk_at "ms_sub") (fun _ _ e => e) ?_
  revert e1 e2 e3 e4 e5 em
  generalize put (put (put hp (Γ.L + 1) (.cell (some (.str (T codes))))) Dm (.list [])) (Γ.L + 1 + 1) (.cell (some (.ref Dm))) = h1
  clear c1 c2 c3 c4 c5 c1a c2a c3a c4a c5a hDm
  intro c1 c2 c3 c4 c5 dm
  have hsl : ns.length ≤ sizeLine := Nat.le_trans hns (by decide)
  refine m_cons ?_
  refine m_then (P := fun σ' => ∃ h2, Fit σ' (names [("script", .ref ls), ("total", .int (totalOf ns))]) h2 ∧ ∀ b o, h1 b = some o → h2 b = some o) ?_ ?_
  · refine m_For ?_
    refine m_SubSliceB ?_
    refine evR (EvP.nm (v := .ref _) (by rfl)) ?_
    refine m_part0 ?_
    refine m_part ?_
    refine evI EvP.int fun _ => ?_
    refine ⟨ls, oL, vs, nn, _, 18, _, rfl, hB, ar, by rw [List.length_map]; exact hsl, rfl, rfl, fun D1 hD1 => ?_⟩
    have hD1 : h1 D1 = none := hD1
    rw [← List.map_take]
    skip
    refine ⟨_, _, _, yields_list hh (xs := (ns.take 18).map V.int), fun i σ' => ∃ h2, Fit σ' (names [("script", .ref ls), ("total", .int (((ns.take 18).take i).map fun x => x.fmod 1000000000000000).sum)]) h2 ∧ (∀ b o, h1 b = some o → h2 b = some o) ∧ h2 D1 = some (.list ((ns.take 18).map V.int)), ⟨_, by walk_at "ms_fit", fun b o e => sub_put hD1 e, put_same⟩, fun i σ' ⟨h2, hf, _, q⟩ => hf.2 _ _ q, ?_, ?_⟩
    · rintro i y σ' I ob hb hy ⟨h2, hf, q1, q2⟩
      obtain ⟨x, hx, rfl⟩ := map_get hy
      refine m_fitS hf ?_
      refine m_IaddE (by rfl) (EvP.mod (EvP.nm (v := .int _) (by rfl)) EvP.int (by first | decide | assumption)) ?_
      refine m_nil ?_
      refine ⟨h2, ?_, q1, q2⟩
      rw [take_snoc hx, List.map_append, show List.map (fun x : Int => x.fmod 1000000000000000) [x] = [x.fmod 1000000000000000] from rfl, sum_snoc]
      walk_at "ms_fit"
    · rintro σ' ⟨h2, hf, q1, q2⟩
      rw [List.length_map, List.take_length] at hf
      skip
      exact ⟨rfl, h2, hf, q1⟩
  rintro σ' ⟨h2, hf, q1⟩
  refine m_fit hf ?_
  replace c1 := q1 _ _ c1
  replace c2 := q1 _ _ c2
  replace c3 := q1 _ _ c3
  replace c4 := q1 _ _ c4
  replace c5 := q1 _ _ c5
  replace dm := q1 _ _ dm
  clear q1 hf
  refine m_cons ?_
  refine m_then (P := fun σ' => ∃ h3, Fit σ' (names [("total", .int (totalOf ns))]) h3 ∧ (∀ b o, h2 b = some o → b ≠ Dm → h3 b = some o) ∧ h3 Dm = some (.list ((masksOf ns).map V.int))) ?_ ?_
  · refine m_For ?_
    refine m_BinOp ?_
    refine m_SubSliceB ?_
    refine evR (EvP.nm (v := .ref _) (by rfl)) ?_
    refine m_part0 ?_
    refine m_part ?_
    refine evI EvP.int fun _ => ?_
    refine ⟨ls, oL, vs, nn, _, 18, _, rfl, hB, ar, by rw [List.length_map]; exact hsl, rfl, rfl, fun D1 hD1 => ?_⟩
    have hD1 : h2 D1 = none := hD1
    rw [← List.map_take]
    refine m_List ?_
    refine m_splE ?_
    refine evI EvP.int fun _ => ?_
    refine m_splE ?_
    refine evI EvP.int fun _ => ?_
    refine m_splE ?_
    refine evI EvP.int fun _ => ?_
    refine m_splE ?_
    refine evI EvP.int fun _ => ?_
    refine m_splE ?_
    refine evI EvP.int fun _ => ?_
    refine m_splE ?_
    refine evI EvP.int fun _ => ?_
    refine m_splE0 ?_
    refine m_newList (xs := tail6.map V.int) (.cons ⟨_, rfl⟩ (.cons ⟨_, rfl⟩ (.cons ⟨_, rfl⟩ (.cons ⟨_, rfl⟩ (.cons ⟨_, rfl⟩ (.cons ⟨_, rfl⟩ .nil)))))) (by decide) fun D2 hD2 => ?_
    have hD2 : put h2 D1 (.list ((ns.take 18).map V.int)) D2 = none := hD2
    skip
    refine m_addLists (sub_put hD2 put_same) put_same ?_ fun D3 hD3 => ?_
    · rw [List.length_map, List.length_map, List.length_take]; exact Nat.le_trans (show min 18 ns.length + tail6.length ≤ 1000 by show min 18 ns.length + 6 ≤ 1000; omega) (by decide)
    have hD3 : put (put h2 D1 (.list ((ns.take 18).map V.int))) D2 (.list (tail6.map V.int)) D3 = none := hD3
    rw [← List.map_append]
    have nD3 : D3 ≠ Dm := fun q => by rw [q, sub_put hD2 (sub_put hD1 dm)] at hD3; cases hD3
    skip
    refine ⟨_, _, _, yields_list hh (xs := (ns.take 18 ++ tail6).map V.int), fun i σ' => ∃ h3, Fit σ' (names [("total", .int (totalOf ns))]) h3 ∧ (∀ b o, h2 b = some o → b ≠ Dm → h3 b = some o) ∧ h3 Dm = some (.list ((((ns.take 18 ++ tail6).take i).foldl mstep []).map V.int)) ∧ h3 D3 = some (.list ((ns.take 18 ++ tail6).map V.int)),
      ⟨_, by walk_at "ms_fit", fun b o e _ => sub_put hD3 (sub_put hD2 (sub_put hD1 e)), sub_put hD3 (sub_put hD2 (sub_put hD1 dm)), put_same⟩, fun i σ' ⟨h3, hf, _, _, q⟩ => hf.2 _ _ q, ?_, ?_⟩
    · rintro i y σ' I ob hb hy ⟨h3, hf, q1, q2, q3⟩
      obtain ⟨x, hx, rfl⟩ := map_get hy
      refine m_fitS hf ?_
      clear hf
      have c2' := q1 _ _ c2 (fun q => by rw [q, dm] at c2; cases c2)
      have efold : ((ns.take 18 ++ tail6).take (i + 1)).foldl mstep [] = mstep (((ns.take 18 ++ tail6).take i).foldl mstep []) x := by rw [take_snoc hx, List.foldl_append]; rfl
      have hl6 := fold_len ((ns.take 18 ++ tail6).take i) [] (by simp)
      revert q2 efold hl6
      generalize ((ns.take 18 ++ tail6).take i).foldl mstep [] = mm
      intro q2 efold hl6
      refine m_abs fun Zq0 hZq0 => ?_
      refine m_cons ?_
      refine m_If ?_
      refine m_isBoolOp ?_
      refine m_andCons ?_
      refine m_abs fun Zq1 hZq1 => ?_
      refine m_isCompare ?_
      refine evI (EvP.mod (EvP.nm (v := .int _) (by rfl)) EvP.int (by first | decide | assumption)) fun _ => ?_
      refine evR (EvP.cell c2') ?_
      refine m_notinInts q2 ?_
      refine m_trBool ?_
      refine hZq1 _ _ ?_
      refine ite_of (fun z1 => ?_) fun z1 => ?_
      · refine m_andCons ?_
        refine m_abs fun Zq2 hZq2 => ?_
        refine m_isCompare ?_
        refine m_Call ?_
        refine m_Name ?_
        first | refine m_gK (by assumption) ?_ | refine m_gB (by assumption) ?_
        refine m_callB ?_
        refine m_splE ?_
        refine evR (EvP.cell c2') ?_
        refine m_splE0 ?_
        refine m_lenList q2 (by rw [List.length_map]; omega) fun _ => ?_
        rw [List.length_map]
        refine evI EvP.int fun _ => ?_
        refine m_lti ?_
        refine m_trBool ?_
        refine hZq2 _ _ ?_
        refine ite_of (fun z2 => ?_) fun z2 => ?_
        · refine m_andNil ?_
          skip
          skip
          refine itrue rfl ?_
          refine m_abs fun Zq3 hZq3 => ?_
          refine m_cons ?_
          refine m_Expr ?_
          refine m_Method ?_
          refine evR (EvP.cell c2') ?_
          refine m_methList (by walk_at "hl") PySem.F.slot_list_append PySem.F.type_list_append ?_
          refine m_callB ?_
          refine m_splE ?_
          refine evI (EvP.mod (EvP.nm (v := .int _) (by rfl)) EvP.int (by first | decide | assumption)) fun _ => ?_
          refine m_splE0 ?_
          refine m_append (x := .int (x.fmod 8)) q2 ⟨_, rfl⟩ ?_ ?_
          · rw [List.length_map]; exact Nat.le_trans (show mm.length ≤ 1000 by omega) (by decide)
          refine m_nil ?_
          refine hZq3 _ _ ?_
          refine m_nil ?_
          refine hZq0 _ _ ?_
          refine ⟨put h3 Dm (.list (List.map V.int mm ++ [V.int (x.fmod 8)])), by walk_at "ms_fit", fun b o e nb => (put_other nb).trans (q1 b o e nb), ?_, (put_other nD3).trans q3⟩
          have e9 : mstep mm x = mm ++ [x.fmod 8] := by unfold mstep; rw [if_pos (by simp only [z1, z2, Bool.and_self])]
          rw [put_same, efold, e9, List.map_append]; rfl
        · skip
          refine ifalse (by decide) ?_
          refine m_nil ?_
          refine m_nil ?_
          refine hZq0 _ _ ?_
          have e9 : mstep mm x = mm := by unfold mstep; rw [if_neg (by simp only [z1, Bool.eq_false_iff.mpr z2, Bool.and_false]; decide)]
          skip
          refine ⟨h3, by walk_at "ms_fit", q1, ?_, q3⟩
          rw [efold, e9]; exact q2
      · skip
        refine ifalse (by decide) ?_
        refine m_nil ?_
        refine m_nil ?_
        refine hZq0 _ _ ?_
        have e9 : mstep mm x = mm := by unfold mstep; rw [if_neg (by simp only [Bool.eq_false_iff.mpr z1, Bool.false_and]; decide)]
        skip
        refine ⟨h3, by walk_at "ms_fit", q1, ?_, q3⟩
        rw [efold, e9]; exact q2
    · rintro σ' ⟨h3, hf, q1, q2, q3⟩
      rw [List.length_map, List.take_length] at q2
      skip
      exact ⟨rfl, h3, hf, q1, q2⟩
  rintro σ' ⟨h3, hf, q1, dm3⟩
  refine m_fit hf ?_
  clear hf
  have nc : ∀ {b v}, h2 b = some (.cell v) → b ≠ Dm := fun e q => by rw [q, dm] at e; cases e
  replace c1 := q1 _ _ c1 (nc c1)
  replace c2 := q1 _ _ c2 (nc c2)
  replace c3 := q1 _ _ c3 (nc c3)
  replace c4 := q1 _ _ c4 (nc c4)
  replace c5 := q1 _ _ c5 (nc c5)
  refine m_cons ?_
  refine m_AssignName ?_
  refine m_List ?_
  refine m_splE ?_
  refine evI (EvP.mod (EvP.nm (v := .int _) (by rfl)) EvP.int (by first | decide | assumption)) fun _ => ?_
  refine m_splE ?_
  refine evI (EvP.mod (EvP.div (EvP.nm (v := .int _) (by rfl)) EvP.int (by first | decide | assumption) (by first | decide | assumption)) EvP.int (by first | decide | assumption)) fun _ => ?_
  refine m_splE ?_
  refine evI (EvP.mod (EvP.div (EvP.nm (v := .int _) (by rfl)) EvP.int (by first | decide | assumption) (by first | decide | assumption)) EvP.int (by first | decide | assumption)) fun _ => ?_
  refine m_splE ?_
  refine evI (EvP.mod (EvP.div (EvP.nm (v := .int _) (by rfl)) EvP.int (by first | decide | assumption) (by first | decide | assumption)) EvP.int (by first | decide | assumption)) fun _ => ?_
  refine m_splE0 ?_
  refine m_newList (xs := [(totalOf ns).fmod 26, ((totalOf ns).fdiv 26).fmod 26, ((totalOf ns).fdiv 676).fmod 26, ((totalOf ns).fdiv 17576).fmod 64].map V.int) (.cons ⟨_, rfl⟩ (.cons ⟨_, rfl⟩ (.cons ⟨_, rfl⟩ (.cons ⟨_, rfl⟩ .nil)))) (by show 4 ≤ sizeLine; decide) fun Dk hDk => ?_
  have hDk : h3 Dk = none := hDk
  refine m_str' ?_
  skip
  refine m_weak (m' := names [("total", .int (totalOf ns)), ("marks", .ref Dk)]) (h' := put h3 Dk (.list ([(totalOf ns).fmod 26, ((totalOf ns).fdiv 26).fmod 26, ((totalOf ns).fdiv 676).fmod 26, ((totalOf ns).fdiv 17576).fmod 64].map V.int))) (by walk_at "ms_sub") (fun _ _ e => e) ?_
  exact law_B (fa := fa) (cdv := cdv) (n := n) P (sub_put hDk c1) (sub_put hDk c2) (sub_put hDk dm3) put_same (sub_put hDk c3) (sub_put hDk c4) (sub_put hDk c5) F Z hA
end
end Mine
end
section
open PySem PySem.W PyProof.Rows PySem.SeqAt
set_option maxHeartbeats 4000000
namespace Mine
theorem sc_b (x y : Nat) : 0 ≤ sc x y ∧ sc x y ≤ 2 := by
  unfold sc sCost; split
  · omega
  · split <;> omega
theorem sc_self (x : Nat) : sc x x = 0 := by unfold sc sCost; rw [if_pos (by simp)]
theorem sc_zero {x y : Nat} (h : sc x y = 0) : x = y := by
  unfold sc sCost at h
  split at h
  · rename_i q
    rw [T_beq] at q
    have := of_decide_eq_true q
    simpa using this
  · split at h <;> omega
theorem ite_min {a b : Int} : (if a < b then a else b) = min a b := by split <;> omega
theorem rows1 {u v : Nat} {mx : Int} (h : 4 ≤ mx) : rows [u] mx [v] 0 (row0 1) 0 = sc v u := by
  have b := sc_b v u
  have r : row0 1 = [2] := by decide
  rw [r]
  simp only [rows, inner, ite_min]
  generalize sc v u = c at *
  rw [if_neg (by simp; omega)]
  simp; omega
theorem cellM {p q lo : Int} (h1 : lo ≤ p + 2) (h2 : lo ≤ q + 2) : lo ≤ min p q + 2 := by
  have h : lo - 2 ≤ min p q := Int.le_min.mpr ⟨by omega, by omega⟩
  revert h; generalize min p q = m; omega
theorem cellE {p q x : Int} (h1 : x ≤ p + 2) (h2 : x ≤ q + 2) : min (min p q + 2) x = x := Int.min_eq_right (cellM h1 h2)
theorem cellL {p q x lo : Int} (h1 : lo ≤ p + 2) (h2 : lo ≤ q + 2) (h3 : lo ≤ x) : lo ≤ min (min p q + 2) x := Int.le_min.mpr ⟨cellM h1 h2, h3⟩
theorem early2 {a b M mx : Int} (h : a ≤ mx ∨ b ≤ mx) : ¬ (min a (min b M) > mx) :=
  Int.not_lt.mpr (h.elim (fun h => Int.le_trans (Int.min_le_left _ _) h) fun h => Int.le_trans (Int.min_le_right _ _) (Int.le_trans (Int.min_le_left _ _) h))
theorem early3 {a b c M mx : Int} (h : a ≤ mx ∨ b ≤ mx ∨ c ≤ mx) : ¬ (min a (min b (min c M)) > mx) :=
  Int.not_lt.mpr (h.elim (fun h => Int.le_trans (Int.min_le_left _ _) h) fun h => Int.le_trans (Int.min_le_right _ _) (h.elim (fun h => Int.le_trans (Int.min_le_left _ _) h) fun h => Int.le_trans (Int.min_le_right _ _) (Int.le_trans (Int.min_le_left _ _) h)))
theorem rows2 {u0 u1 v0 v1 : Nat} {mx : Int} (h : 4 ≤ mx) : rows [u0, u1] mx [v0, v1] 0 (row0 2) 0 = sc v0 u0 + sc v1 u1 := by
  have b00 := sc_b v0 u0
  have b01 := sc_b v0 u1
  have b10 := sc_b v1 u0
  have b11 := sc_b v1 u1
  have r : row0 2 = [2, 4] := by decide
  rw [r]
  simp only [rows, inner, ite_min]
  generalize sc v0 u0 = c00 at *
  generalize sc v0 u1 = c01 at *
  generalize sc v1 u0 = c10 at *
  generalize sc v1 u1 = c11 at *
  rw [show min (min (2 * ((0 : Nat) : Int)) 2 + 2) (2 * ((0 : Nat) : Int) + c00) = c00 from (cellE (by omega) (by omega)).trans (by omega)]
  have k01 := cellL (p := c00) (q := 4) (x := 2 + c01) (lo := 2) (by omega) (by omega) (by omega)
  generalize min (min c00 4 + 2) (2 + c01) = r01 at *
  rw [if_neg (early2 (.inr (by omega)))]
  have k10 := cellL (p := 2 * ((0 + 1 : Nat) : Int)) (q := c00) (x := 2 * ((0 + 1 : Nat) : Int) + c10) (lo := 2) (by omega) (by omega) (by omega)
  generalize min (min (2 * ((0 + 1 : Nat) : Int)) c00 + 2) (2 * ((0 + 1 : Nat) : Int) + c10) = r10 at *
  rw [show min (min r10 r01 + 2) (c00 + c11) = c00 + c11 from cellE (by omega) (by omega)]
  rw [if_neg (early2 (.inl (by omega)))]
theorem rows3 {u0 u1 u2 v0 v1 v2 : Nat} {mx : Int} (h : 4 ≤ mx) (hs : sc v0 u0 + sc v1 u1 + sc v2 u2 ≤ 4) : rows [u0, u1, u2] mx [v0, v1, v2] 0 (row0 3) 0 = sc v0 u0 + sc v1 u1 + sc v2 u2 := by
  have b00 := sc_b v0 u0
  have b01 := (sc_b v0 u1).1
  have b02 := (sc_b v0 u2).1
  have b10 := (sc_b v1 u0).1
  have b11 := sc_b v1 u1
  have b12 := (sc_b v1 u2).1
  have b20 := (sc_b v2 u0).1
  have b21 := (sc_b v2 u1).1
  have b22 := sc_b v2 u2
  have r : row0 3 = [2, 4, 6] := by decide
  rw [r]
  simp only [rows, inner, ite_min]
  generalize sc v0 u0 = c00 at *
  generalize sc v0 u1 = c01 at *
  generalize sc v0 u2 = c02 at *
  generalize sc v1 u0 = c10 at *
  generalize sc v1 u1 = c11 at *
  generalize sc v1 u2 = c12 at *
  generalize sc v2 u0 = c20 at *
  generalize sc v2 u1 = c21 at *
  generalize sc v2 u2 = c22 at *
  rw [show min (min (2 * ((0 : Nat) : Int)) 2 + 2) (2 * ((0 : Nat) : Int) + c00) = c00 from (cellE (by omega) (by omega)).trans (by omega)]
  have k01 := cellL (p := c00) (q := 4) (x := 2 + c01) (lo := 2) (by omega) (by omega) (by omega)
  generalize min (min c00 4 + 2) (2 + c01) = r01 at *
  have k02 := cellL (p := r01) (q := 6) (x := 4 + c02) (lo := 4) (by omega) (by omega) (by omega)
  generalize min (min r01 6 + 2) (4 + c02) = r02 at *
  rw [if_neg (early3 (.inr (.inr (by omega))))]
  have k10 := cellL (p := 2 * ((0 + 1 : Nat) : Int)) (q := c00) (x := 2 * ((0 + 1 : Nat) : Int) + c10) (lo := 2) (by omega) (by omega) (by omega)
  generalize min (min (2 * ((0 + 1 : Nat) : Int)) c00 + 2) (2 * ((0 + 1 : Nat) : Int) + c10) = r10 at *
  rw [show min (min r10 r01 + 2) (c00 + c11) = c00 + c11 from cellE (by omega) (by omega)]
  have k12 := cellL (p := c00 + c11) (q := r02) (x := r01 + c12) (lo := 2) (by omega) (by omega) (by omega)
  generalize min (min (c00 + c11) r02 + 2) (r01 + c12) = r12 at *
  rw [if_neg (early3 (.inr (.inl (by omega))))]
  have k20 := cellL (p := 2 * ((0 + 1 + 1 : Nat) : Int)) (q := r10) (x := 2 * ((0 + 1 + 1 : Nat) : Int) + c20) (lo := 4) (by omega) (by omega) (by omega)
  generalize min (min (2 * ((0 + 1 + 1 : Nat) : Int)) r10 + 2) (2 * ((0 + 1 + 1 : Nat) : Int) + c20) = r20 at *
  have k21 := cellL (p := r20) (q := c00 + c11) (x := r10 + c21) (lo := 2) (by omega) (by omega) (by omega)
  generalize min (min r20 (c00 + c11) + 2) (r10 + c21) = r21 at *
  rw [show min (min r21 r12 + 2) (c00 + c11 + c22) = c00 + c11 + c22 from cellE (by omega) (by omega)]
  rw [if_neg (early3 (.inl (by omega)))]
theorem lev4 {x0 x1 x2 x3 y0 y1 y2 : Nat} {mx : Int} (hmx : 4 ≤ mx) (hs : sc y0 x0 + sc y1 x1 + sc y2 x2 ≤ 4) : lev [x0, x1, x2, x3] [y0, y1, y2, x3] mx = sc y0 x0 + sc y1 x1 + sc y2 x2 := by
  have nz : ∀ {x y : Nat}, x ≠ y → sc y x ≠ 0 := fun h q => h (sc_zero q).symm
  unfold lev
  by_cases e0 : x0 = y0
  · subst e0
    by_cases e1 : x1 = y1
    · subst e1
      by_cases e2 : x2 = y2
      · subst e2; rw [if_pos rfl, sc_self, sc_self, sc_self]; rfl
      · rw [if_neg (by simp [e2])]
        simp only [stripP, e2, if_true, if_false, stripS, List.reverse_cons, List.reverse_nil, List.nil_append, List.cons_append]
        unfold levB levC
        rw [if_neg (by simp), if_neg (by simp), if_neg (by simp), if_neg (by simp; omega)]
        show rows [x2] mx [y2] 0 (row0 1) 0 = _
        rw [rows1 hmx, sc_self, sc_self]; omega
    · rw [if_neg (by simp [e1])]
      by_cases e2 : x2 = y2
      · subst e2
        simp only [stripP, e1, if_true, if_false, stripS, List.reverse_cons, List.reverse_nil, List.nil_append, List.cons_append]
        unfold levB levC
        rw [if_neg (by simp), if_neg (by simp), if_neg (by simp), if_neg (by simp; omega)]
        show rows [x1] mx [y1] 0 (row0 1) 0 = _
        rw [rows1 hmx, sc_self, sc_self]; omega
      · simp only [stripP, e1, e2, if_true, if_false, stripS, List.reverse_cons, List.reverse_nil, List.nil_append, List.cons_append]
        unfold levB levC
        rw [if_neg (by simp), if_neg (by simp), if_neg (by simp), if_neg (by simp; omega)]
        show rows [x1, x2] mx [y1, y2] 0 (row0 2) 0 = _
        rw [rows2 hmx, sc_self]; omega
  · rw [if_neg (by simp [e0])]
    by_cases e2 : x2 = y2
    · subst e2
      by_cases e1 : x1 = y1
      · subst e1
        simp only [stripP, e0, if_true, if_false, stripS, List.reverse_cons, List.reverse_nil, List.nil_append, List.cons_append]
        unfold levB levC
        rw [if_neg (by simp), if_neg (by simp), if_neg (by simp), if_neg (by simp; omega)]
        show rows [x0] mx [y0] 0 (row0 1) 0 = _
        rw [rows1 hmx, sc_self, sc_self]; omega
      · simp only [stripP, e0, e1, if_true, if_false, stripS, List.reverse_cons, List.reverse_nil, List.nil_append, List.cons_append]
        unfold levB levC
        rw [if_neg (by simp), if_neg (by simp), if_neg (by simp), if_neg (by simp; omega)]
        show rows [x0, x1] mx [y0, y1] 0 (row0 2) 0 = _
        rw [rows2 hmx, sc_self]; omega
    · simp only [stripP, e0, e2, if_true, if_false, stripS, List.reverse_cons, List.reverse_nil, List.nil_append, List.cons_append]
      unfold levB levC
      rw [if_neg (by simp), if_neg (by simp), if_neg (by simp), if_neg (by simp; omega)]
      show rows [x0, x1, x2] mx [y0, y1, y2] 0 (row0 3) 0 = _
      rw [rows3 hmx hs]
end Mine
end
section
open PySem PySem.W PyProof.Rows PySem.SeqAt
set_option maxHeartbeats 4000000
namespace Mine
theorem mstep_ok {ms : List Int} {x : Int} (h : ms.Nodup ∧ ∀ m ∈ ms, 0 ≤ m ∧ m < 8) : (mstep ms x).Nodup ∧ ∀ m ∈ mstep ms x, 0 ≤ m ∧ m < 8 := by
  unfold mstep; split
  · rename_i q
    have q1 : ms.any (· == x.fmod 8) = false := by simp at q; simpa using q.1
    have hx : 0 ≤ x.fmod 8 ∧ x.fmod 8 < 8 := by rw [Int.fmod_eq_emod_of_nonneg _ (by decide)]; omega
    refine ⟨?_, fun m hm => ?_⟩
    · rw [List.nodup_append]
      refine ⟨h.1, by simp, fun a ha b hb e => ?_⟩
      rw [List.mem_singleton.mp hb] at e
      have : ms.any (· == x.fmod 8) = true := List.any_eq_true.mpr ⟨a, ha, by simp [e]⟩
      rw [q1] at this; cases this
    · rcases List.mem_append.mp hm with hm | hm
      · exact h.2 m hm
      · rw [List.mem_singleton.mp hm]; exact hx
  · exact h
theorem fold_ok : ∀ (xs ms : List Int), (ms.Nodup ∧ ∀ m ∈ ms, 0 ≤ m ∧ m < 8) → (xs.foldl mstep ms).Nodup ∧ ∀ m ∈ xs.foldl mstep ms, 0 ≤ m ∧ m < 8
  | [], ms, h => h
  | x :: xs, ms, h => fold_ok xs (mstep ms x) (mstep_ok h)
theorem mstep_sub {ms : List Int} {x : Int} : ∀ m ∈ ms, m ∈ mstep ms x := fun m hm => by
  unfold mstep; split
  · exact List.mem_append_left _ hm
  · exact hm
theorem fold_sub : ∀ (xs ms : List Int), ∀ m ∈ ms, m ∈ xs.foldl mstep ms
  | [], ms, m, h => h
  | x :: xs, ms, m, h => fold_sub xs (mstep ms x) m (mstep_sub m h)
theorem mstep_mono {ms : List Int} {x : Int} : ms.length ≤ (mstep ms x).length := by
  unfold mstep; split <;> simp
theorem fold_mono : ∀ (xs ms : List Int), ms.length ≤ (xs.foldl mstep ms).length
  | [], ms => Nat.le_refl _
  | x :: xs, ms => Nat.le_trans mstep_mono (fold_mono xs (mstep ms x))
theorem fold_has : ∀ (xs ms : List Int), (xs.foldl mstep ms).length < 6 → ∀ x ∈ xs, x.fmod 8 ∈ xs.foldl mstep ms
  | [], ms, _, x, h => by cases h
  | y :: xs, ms, hl, x, h => by
    rw [List.foldl_cons] at hl ⊢
    rcases List.mem_cons.mp h with rfl | h
    · refine fold_sub xs _ _ ?_
      unfold mstep; split
      · exact List.mem_append_right _ List.mem_cons_self
      · rename_i q
        have hms : ms.length < 6 := Nat.lt_of_le_of_lt (Nat.le_trans mstep_mono (fold_mono xs (mstep ms x))) hl
        cases z : ms.any (· == x.fmod 8) with
        | true =>
          obtain ⟨a, ha, e⟩ := List.any_eq_true.mp z
          have : a = x.fmod 8 := by simpa using e
          rw [← this]; exact ha
        | false =>
          refine absurd ?_ q
          rw [z]; simp; omega
    · exact fold_has xs (mstep ms y) hl x h
theorem masks_len (ns : List Int) : (masksOf ns).length = 6 := by
  have h1 := fold_len (ns.take 18 ++ tail6) [] (by simp)
  by_cases h : (masksOf ns).length < 6
  · exfalso
    have hh := fold_has (ns.take 18 ++ tail6) [] h
    have h6 : ∀ k ∈ [(1 : Int), 3, 6, 4, 2, 0], k ∈ masksOf ns := by
      intro k hk
      have : ∃ x ∈ tail6, x.fmod 8 = k := by
        simp only [List.mem_cons, List.not_mem_nil, or_false] at hk
        rcases hk with rfl | rfl | rfl | rfl | rfl | rfl
        · exact ⟨9, by decide, by decide⟩
        · exact ⟨3, by decide, by decide⟩
        · exact ⟨14, by decide, by decide⟩
        · exact ⟨4, by decide, by decide⟩
        · exact ⟨10, by decide, by decide⟩
        · exact ⟨0, by decide, by decide⟩
      obtain ⟨x, hx, rfl⟩ := this
      exact hh x (List.mem_append_right _ hx)
    have := nodup_len (by decide) h6
    simp at this; omega
  · have : (masksOf ns).length ≤ 6 := h1
    omega
theorem tab_sc1 : ∀ a : Fin 26, ∀ b b' : Fin 2, sc (sign ((a.val : Int) + 26 * (b'.val : Int))).toNat (sign ((a.val : Int) + 26 * (b.val : Int))).toNat = if b = b' then 0 else 1 := by decide +kernel
theorem tab_sc2 : ∀ c : Fin 26, sc (sign (c.val : Int)).toNat (sign (52 + (c.val : Int).fmod 12)).toNat = 2 ∧ sc (sign (52 + (c.val : Int).fmod 12)).toNat (sign (c.val : Int)).toNat = 2 := by decide +kernel
theorem tab_x : ∀ e i j : Fin 8, (hamD (Builtin.bitXor (e.val : Int) (i.val : Int)) + hamD (Builtin.bitXor (i.val : Int) (j.val : Int)) == hamD (Builtin.bitXor (e.val : Int) (j.val : Int))) = (Builtin.bitAnd (Builtin.bitXor (i.val : Int) (e.val : Int)) (Builtin.bitXor (j.val : Int) (e.val : Int)) == Builtin.bitXor (i.val : Int) (e.val : Int)) := by decide +kernel
theorem tab_lt : ∀ e i j : Fin 8, i ≠ j → (Builtin.bitAnd (Builtin.bitXor (i.val : Int) (e.val : Int)) (Builtin.bitXor (j.val : Int) (e.val : Int)) == Builtin.bitXor (i.val : Int) (e.val : Int)) = true → Builtin.bitXor (i.val : Int) (e.val : Int) < Builtin.bitXor (j.val : Int) (e.val : Int) := by decide +kernel
theorem tab_b : ∀ e i : Fin 8, 0 ≤ Builtin.bitXor (i.val : Int) (e.val : Int) ∧ Builtin.bitXor (i.val : Int) (e.val : Int) < 8 := by decide +kernel
theorem tab_c : ∀ e i : Fin 8, Builtin.bitXor (i.val : Int) (e.val : Int) = Builtin.bitXor (e.val : Int) (i.val : Int) := by decide +kernel
end Mine
end
section
open PySem PySem.W PyProof.Rows PySem.SeqAt
set_option maxHeartbeats 4000000
namespace Mine
theorem to8 {m : Int} (h : 0 ≤ m ∧ m < 8) : ∃ f : Fin 8, m = (f.val : Int) := ⟨⟨m.toNat, by omega⟩, by simp; omega⟩
theorem to26 {m : Int} (h : 0 ≤ m ∧ m < 26) : ∃ f : Fin 26, m = (f.val : Int) := ⟨⟨m.toNat, by omega⟩, by simp; omega⟩
theorem tab_bits : ∀ f : Fin 8, ((f.val : Int).fdiv 1).fmod 2 = ((f.val % 2 : Nat) : Int) ∧ ((f.val : Int).fdiv 2).fmod 2 = ((f.val / 2 % 2 : Nat) : Int) ∧ ((f.val : Int).fdiv 4 == 1) = decide (f.val / 4 = 1) := by decide +kernel
theorem tab_ham : ∀ i j : Fin 8, (if i.val % 2 = j.val % 2 then (0 : Int) else 1) + (if i.val / 2 % 2 = j.val / 2 % 2 then (0 : Int) else 1) + (if i.val / 4 = j.val / 4 then (0 : Int) else 2) = hamD (Builtin.bitXor (i.val : Int) (j.val : Int)) := by decide +kernel
theorem fm26 (x : Int) : 0 ≤ x.fmod 26 ∧ x.fmod 26 < 26 := by rw [Int.fmod_eq_emod_of_nonneg _ (by decide)]; omega
theorem fm64 (x : Int) : 0 ≤ x.fmod 64 ∧ x.fmod 64 < 64 := by rw [Int.fmod_eq_emod_of_nonneg _ (by decide)]; omega
theorem fm12 (x : Int) : 0 ≤ x.fmod 12 ∧ x.fmod 12 < 12 := by rw [Int.fmod_eq_emod_of_nonneg _ (by decide)]; omega
theorem sum_nonneg : ∀ l : List Int, (∀ x ∈ l, 0 ≤ x) → 0 ≤ l.sum
  | [], _ => by simp
  | x :: r, h => by
    rw [List.sum_cons]
    have := sum_nonneg r fun y hy => h y (List.mem_cons_of_mem _ hy)
    have := h x List.mem_cons_self
    omega
theorem total_nonneg (ns : List Int) : 0 ≤ totalOf ns := by
  refine sum_nonneg _ fun x hx => ?_
  obtain ⟨y, _, rfl⟩ := List.mem_map.mp hx
  rw [Int.fmod_eq_emod_of_nonneg _ (by decide)]; omega
theorem places_is {a b c d : Int} (f : Fin 8) : places [a, b, c, d] (f.val : Int) = [a + 26 * ((f.val % 2 : Nat) : Int), b + 26 * ((f.val / 2 % 2 : Nat) : Int), if f.val / 4 = 1 then 52 + c.fmod 12 else c, d] := by
  obtain ⟨h1, h2, h3⟩ := tab_bits f
  unfold places
  simp only [h1, h2, h3, decide_eq_true_eq]
theorem sc_small {a : Int} (ha : 0 ≤ a ∧ a < 26) (x y : Nat) (hx : x < 2) (hy : y < 2) : sc (sign (a + 26 * (y : Int))).toNat (sign (a + 26 * (x : Int))).toNat = if x = y then 0 else 1 := by
  obtain ⟨f, rfl⟩ := to26 ha
  have := tab_sc1 f ⟨x, hx⟩ ⟨y, hy⟩
  simp only [Fin.mk.injEq] at this
  exact this
theorem lev_tx {a b c d : Int} (ha : 0 ≤ a ∧ a < 26) (hb : 0 ≤ b ∧ b < 26) (hc : 0 ≤ c ∧ c < 26) {mx : Int} (hmx : 4 ≤ mx) (f g : Fin 8) : lev (txOf [a, b, c, d] (f.val : Int)) (txOf [a, b, c, d] (g.val : Int)) mx = hamD (Builtin.bitXor (f.val : Int) (g.val : Int)) := by
  unfold txOf
  rw [places_is, places_is]
  simp only [List.map_cons, List.map_nil]
  have e0 := sc_small ha (f.val % 2) (g.val % 2) (by omega) (by omega)
  have e1 := sc_small hb (f.val / 2 % 2) (g.val / 2 % 2) (by omega) (by omega)
  have e2 : sc (sign (if g.val / 4 = 1 then 52 + c.fmod 12 else c)).toNat (sign (if f.val / 4 = 1 then 52 + c.fmod 12 else c)).toNat = if f.val / 4 = g.val / 4 then 0 else 2 := by
    obtain ⟨q, rfl⟩ := to26 hc
    obtain ⟨t1, t2⟩ := tab_sc2 q
    have hf := f.isLt
    have hg := g.isLt
    by_cases h1 : f.val / 4 = 1
    · by_cases h2 : g.val / 4 = 1
      · rw [if_pos h2, if_pos h1, if_pos (by omega)]; exact sc_self _
      · rw [if_neg h2, if_pos h1, if_neg (by omega)]; exact t1
    · by_cases h2 : g.val / 4 = 1
      · rw [if_pos h2, if_neg h1, if_neg (by omega)]; exact t2
      · rw [if_neg h2, if_neg h1, if_pos (by omega)]; exact sc_self _
  rw [lev4 hmx (by rw [e0, e1, e2]; split <;> split <;> split <;> omega), e0, e1, e2]
  exact tab_ham f g
theorem msk_mem {M : List Int} {i : Nat} (h : i < M.length) : msk M i ∈ M := by
  unfold msk
  rw [Int.toNat_natCast, List.getD_eq_getElem?_getD, List.getElem?_eq_getElem h]
  exact List.getElem_mem h
theorem msk_xs {M : List Int} {e : Int} {i : Nat} (h : i < M.length) : msk (xsOf M e) i = Builtin.bitXor (msk M i) (msk M e) := by
  unfold xsOf
  show (List.map _ M).getD ((i : Int)).toNat 0 = _
  rw [Int.toNat_natCast, List.getD_eq_getElem?_getD, List.getElem?_map, List.getElem?_eq_getElem h]
  show Builtin.bitXor M[i] (msk M e) = Builtin.bitXor (M.getD ((i : Int)).toNat 0) (msk M e)
  rw [Int.toNat_natCast, List.getD_eq_getElem?_getD, List.getElem?_eq_getElem h]; rfl
theorem msk_inj {M : List Int} (nd : M.Nodup) {i j : Nat} (hi : i < M.length) (hj : j < M.length) (h : msk M i = msk M j) : i = j := by
  unfold msk at h
  rw [Int.toNat_natCast, Int.toNat_natCast, List.getD_eq_getElem?_getD, List.getD_eq_getElem?_getD, List.getElem?_eq_getElem hi, List.getElem?_eq_getElem hj] at h
  have h : M[i] = M[j] := h
  have pw := List.pairwise_iff_getElem.mp nd
  rcases Nat.lt_trichotomy i j with q | q | q
  · exact absurd h (pw i j hi hj q)
  · exact q
  · exact absurd h.symm (pw j i hj hi q)
theorem plain_ok (ns : List Int) : Plain (masksOf ns) (totalOf ns) ((totalOf ns).fmod 26) (((totalOf ns).fdiv 26).fmod 26) (((totalOf ns).fdiv 676).fmod 26) (((totalOf ns).fdiv 17576).fmod 64) := by
  have hl := masks_len ns
  obtain ⟨nd, hb⟩ := fold_ok (ns.take 18 ++ tail6) [] ⟨List.nodup_nil, fun m h => nomatch h⟩
  have nd : (masksOf ns).Nodup := nd
  have hb : ∀ m ∈ masksOf ns, 0 ≤ m ∧ m < 8 := hb
  have ht := total_nonneg ns
  revert hl nd hb
  generalize masksOf ns = M
  intro hl nd hb
  have mb : ∀ i : Nat, i < 6 → 0 ≤ msk M i ∧ msk M i < 8 := fun i hi => hb _ (msk_mem (by omega))
  have h26a := fm26 (totalOf ns)
  have h26b := fm26 ((totalOf ns).fdiv 26)
  have h26c := fm26 ((totalOf ns).fdiv 676)
  have h64 := fm64 ((totalOf ns).fdiv 17576)
  refine ⟨hl, mb, fun m hm => ?_, fun i j hi hj => ?_, fun i j hi hj => ?_, fun FM sh hfm e he => ?_⟩
  · obtain ⟨f, rfl⟩ := to8 (hb m hm)
    refine ⟨_, _, _, _, places_is f, ?_, ?_, ?_, h64⟩
    · omega
    · omega
    · have := fm12 (((totalOf ns).fdiv 676).fmod 26)
      split <;> omega
  · obtain ⟨f, ef⟩ := to8 (mb i hi)
    obtain ⟨g, eg⟩ := to8 (mb j hj)
    unfold dist
    rw [ef, eg]
    exact lev_tx h26a h26b h26c (by omega) f g
  · obtain ⟨f, ef⟩ := to8 (mb i hi)
    obtain ⟨g, eg⟩ := to8 (mb j hj)
    unfold dist
    rw [ef, eg, tab_c]
  · obtain ⟨fe, ee⟩ := to8 (mb e (by omega))
    refine ⟨fun i hi j hj => ?_, fun i hi j hj hp => ?_, fun i hi => ?_⟩
    · obtain ⟨ki, rfl, hki⟩ := rng6_mem hi
      obtain ⟨kj, rfl, hkj⟩ := rng6_mem hj
      obtain ⟨fi, ei⟩ := to8 (mb ki hki)
      obtain ⟨fj, ej⟩ := to8 (mb kj hkj)
      unfold preE
      rw [hfm e ki (by omega) hki, hfm ki kj hki hkj, hfm e kj (by omega) hkj, msk_xs (by omega), msk_xs (by omega)]
      unfold dist
      rw [ee, ei, ej, tab_x]
    · obtain ⟨ki, rfl, hki⟩ := rng6_mem hi
      obtain ⟨kj, rfl, hkj⟩ := rng6_mem hj
      obtain ⟨fi, ei⟩ := to8 (mb ki hki)
      obtain ⟨fj, ej⟩ := to8 (mb kj hkj)
      unfold preE at hp
      rw [Bool.and_eq_true] at hp
      have hne : ki ≠ kj := fun q => by have := hp.1; rw [q] at this; simp at this
      have h2 := hp.2
      rw [msk_xs (by omega), msk_xs (by omega), ee, ei, ej] at h2
      rw [msk_xs (by omega), msk_xs (by omega), ee, ei, ej]
      refine tab_lt fe fi fj (fun q => hne (msk_inj nd (by omega) (by omega) ?_)) h2
      rw [ei, ej, q]
    · obtain ⟨ki, rfl, hki⟩ := rng6_mem hi
      obtain ⟨fi, ei⟩ := to8 (mb ki hki)
      rw [msk_xs (by omega), ee, ei]
      exact tab_b fe fi
end Mine
end
section
open PySem PySem.W PyProof.Rows PySem.SeqAt
set_option maxHeartbeats 8000000
namespace Mine
theorem callerDp (e : Env) : Dp (callerA.deeper e) 8 := ⟨rfl, by show 1 + claimMargin + 1 + 24 < recursionLimit; decide, by show 4 + 3 + 320 < cLine; decide⟩
theorem law_start {w : World} {s₁ : Shared} {mg mb : Str → Option Value} {p : Program} {loose : List Str} {fa ls : Addr} {cdv : Value} {h₁ : Heap} {tk : Nat} {m : Str → Option Value} {vs : List Value} {ns : List Int} {o1 o2 o3 o4 o5 : Obj} {E : Value → Shared → Prop} {Q : Flow → Shared → Prop}
    (KX : (Mine.hd1.heap_1 w.params).In s₁.heap) (T : TopRead p loose mg mb s₁.heap) (sys : s₁.heap.NoSeer) (hL : s₁.heap.IsList ls vs.toArray) (hI : IntsAre vs ns) (hlen : ns.length ≤ 63) (F : Fr s₁.heap s₁.heap.objs.size h₁ m) (hm : m "script" = some (.ref ls))
    (N : News s₁.heap s₁.heap.objs.size h₁ [(s₁.heap.objs.size + 1 + 1 + 1 + 1 + 1, o5), (s₁.heap.objs.size + 1 + 1 + 1 + 1, o4), (s₁.heap.objs.size + 1 + 1 + 1, o3), (s₁.heap.objs.size + 1 + 1, o2), (s₁.heap.objs.size + 1, o1)])
    (d1 : o1.data = .cell none) (d2 : o2.data = .cell none) (d3 : o3.data = .cell none) (d4 : o4.data = .cell none) (d5 : o5.data = .cell none)
    (hQ : ∀ h' tk', (∀ b o, s₁.heap.get? b = some o → h'.get? b = some o) → Q (.ret (.bool true)) { s₁ with heap := h', toks := tk' }) :
    wpAny (model PySem.Challenge.rw_ny0306_01.row.prog w) (callerA.deeper (lenv s₁.heap.objs.size fa cdv)) (execs lawBody (lenv s₁.heap.objs.size fa cdv)) Q E { s₁ with heap := h₁, toks := tk } := by
  obtain ⟨oL, eL, cL, nn, dL⟩ := hL
  let Γ : Fx := ⟨s₁.heap, s₁.heap.get?, s₁.heap.objs.size, [], s₁, fun _ _ e => e⟩
  have nL : s₁.heap.get? s₁.heap.objs.size = none := noneAt
  let hp : Addr → Option (O Ky) := put (put (put (put (put (fun _ => none) (s₁.heap.objs.size + 1) (.cell none)) (s₁.heap.objs.size + 1 + 1) (.cell none)) (s₁.heap.objs.size + 1 + 1 + 1) (.cell none)) (s₁.heap.objs.size + 1 + 1 + 1 + 1) (.cell none)) (s₁.heap.objs.size + 1 + 1 + 1 + 1 + 1) (.cell none)
  have Z : Here (Mine.hd1.heap_1 w.params) p loose mg mb Γ.base := ⟨KX, T, by obtain ⟨mm, ⟨o, _, _, e, _⟩, _⟩ := sys.mods; exact ⟨o, e⟩⟩
  have g1 := N (s₁.heap.objs.size + 1, o1) (by simp)
  have g2 := N (s₁.heap.objs.size + 1 + 1, o2) (by simp)
  have g3 := N (s₁.heap.objs.size + 1 + 1 + 1, o3) (by simp)
  have g4 := N (s₁.heap.objs.size + 1 + 1 + 1 + 1, o4) (by simp)
  have g5 := N (s₁.heap.objs.size + 1 + 1 + 1 + 1 + 1, o5) (by simp)
  have hcase : ∀ a o, hp a = some o → (∃ ob, h₁.get? a = some ob ∧ o.is (kyK PySem.Challenge.rw_ny0306_01.row.prog w) ob) ∧ a ≠ s₁.heap.objs.size ∧ s₁.heap.get? a = none := by
    intro a o e
    have : ∀ {o' : Obj} {b : Addr}, (h₁.get? b = some o' ∧ b ≠ s₁.heap.objs.size ∧ s₁.heap.get? b = none) → o'.data = .cell none → (∃ ob, h₁.get? b = some ob ∧ (O.cell none : O Ky).is (kyK PySem.Challenge.rw_ny0306_01.row.prog w) ob) ∧ b ≠ s₁.heap.objs.size ∧ s₁.heap.get? b = none := fun h d => ⟨⟨_, h.1, _, d, trivial⟩, h.2⟩
    simp only [hp, put] at e
    split at e
    · rename_i q; subst q; cases e; exact this g5 d5
    · split at e
      · rename_i q; subst q; cases e; exact this g4 d4
      · split at e
        · rename_i q; subst q; cases e; exact this g3 d3
        · split at e
          · rename_i q; subst q; cases e; exact this g2 d2
          · split at e
            · rename_i q; subst q; cases e; exact this g1 d1
            · cases e
  have hpL : hp s₁.heap.objs.size = none := by
    cases z : hp s₁.heap.objs.size with
    | none => rfl
    | some o => exact absurd rfl (hcase _ _ z).2.1
  have R : Rel (kyK PySem.Challenge.rw_ny0306_01.row.prog w) Γ ⟨names [("script", .ref ls)], hp⟩ { s₁ with heap := h₁, toks := tk } :=
    { keep := fun b o q => F.keep b o q
      rest := rfl
      cur := ⟨m, F.ns, fun x v e => by
        have : x = "script" ∧ v = .ref ls := by
          have e : (List.find? (fun p : Str × V => decide (x = p.1)) [("script", V.ref ls)]).map (·.2) = some v := e
          rw [List.find?_cons] at e
          by_cases q : x = "script"
          · simp [q] at e; exact ⟨q, e.symm⟩
          · simp [q] at e
        obtain ⟨rfl, rfl⟩ := this
        exact ⟨_, hm, rfl⟩⟩
      out := fun p hp => nomatch hp
      obj := fun a o e => (hcase a o e).1
      bL := nL
      bO := fun p hp => nomatch hp
      bH := fun a o e => (hcase a o e).2.2
      lO := fun p hp => nomatch hp
      hL := hpL
      hO := fun p hp => nomatch hp }
  have Ft : Fits Γ (callerA.deeper (lenv s₁.heap.objs.size fa cdv)) := ⟨[lenv s₁.heap.objs.size fa cdv], rfl, fun e he => by rw [List.mem_singleton.mp he]; exact ⟨(by rw [show (lenv s₁.heap.objs.size fa cdv).scope.kind = .function from rfl]; decide), _, rfl, .inl rfl⟩⟩
  have lt : ∀ a b : Nat, a < b → s₁.heap.objs.size + a ≠ s₁.heap.objs.size + b := fun a b h q => by omega
  have k5 : hp (s₁.heap.objs.size + 5) = some (.cell none) := put_same
  have k4 : hp (s₁.heap.objs.size + 4) = some (.cell none) := (put_other (lt 4 5 (by decide))).trans put_same
  have k3 : hp (s₁.heap.objs.size + 3) = some (.cell none) := (put_other (lt 3 5 (by decide))).trans ((put_other (lt 3 4 (by decide))).trans put_same)
  have k2 : hp (s₁.heap.objs.size + 2) = some (.cell none) := (put_other (lt 2 5 (by decide))).trans ((put_other (lt 2 4 (by decide))).trans ((put_other (lt 2 3 (by decide))).trans put_same))
  have k1 : hp (s₁.heap.objs.size + 1) = some (.cell none) := (put_other (lt 1 5 (by decide))).trans ((put_other (lt 1 4 (by decide))).trans ((put_other (lt 1 3 (by decide))).trans ((put_other (lt 1 2 (by decide))).trans put_same)))
  have key := law_A (Γ := Γ) (fa := fa) (cdv := cdv) (ls := ls) (n := 2) (prog := PySem.Challenge.rw_ny0306_01.row.prog) (hp := hp) hlen (plain_ok ns) ⟨eL, cL, dL⟩ (by simpa using Are.of_ints hI) k1 k2 k3 k4 k5 Ft Z (callerDp _)
  refine key.use R fun f s' σ' R' q => ?_
  have q : f = .ret (.bool true) := q
  subst q
  have e' := R'.rest
  rw [e']
  exact hQ _ _ fun b o e => R'.keep b o e
end Mine
end
open PySem PySem.W PyProof.Rows PySem.SeqAt
set_option maxHeartbeats 8000000 in
theorem PySem.Challenge.cw_ny0306_01_holds : PySem.Challenge.rw_ny0306_01.Holds := by
  exact Mine.hd1 (by
  obtain ⟨vw, hvw⟩ : ∃ v, v = Mine.view1 := ⟨_, rfl⟩
  rw [← hvw]
  k_go0
  rename_i w s0 s1 mg mb G Y fa o pm cd doc ho hcd hg KX X V T B D TE TW x1 x2 MM ns hs1 hlay0 hL1 hr1 hl2 x3 x4 ls vs x5 hL ra w1 r0 hI hr hcond hcond' K0 hD h1 tk1 F o5 o4 o3 o2 o1 d5 d4 d3 d2 d1 N0 X0
  subst hvw
  refine Mine.law_start (o1 := o1) (o2 := o2) (o3 := o3) (o4 := o4) (o5 := o5) KX (topRead_of T) (T.seer (by decide +kernel)) hL hI (by omega) F (by rfl) N0 d1 d2 d3 d4 d5 (fun h' tk' hk => ?_)
  refine ⟨.inl ⟨_, .bool true, [], rfl, fun cls => ?_, .bool true, ?_, ?_⟩, hk, rfl, hg⟩
  · first | rfl | decide | exact rfl
  · first | with_unfolding_all rfl | kernel_rfl | decide +kernel
  · intro _; exact ⟨List.nodup_nil, fun a ha => nomatch ha⟩)
