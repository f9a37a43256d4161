import PyProof.Rows.All
import Wide.All
import OpenK.AllK
import Wide.FinOn
import PySem.Challenge.RW_ny0306_02
set_option Elab.async false
set_option maxRecDepth 100000
set_option linter.all false
section
open PySem PySem.W PyProof.Rows
set_option maxHeartbeats 8000000
noncomputable def Mine.view1 : Program := { PySem.Challenge.pw_ny0306_02 with main := { PySem.Challenge.pw_ny0306_02.main with body := [0, 2, 3, 4, 5, 6, 8, 9, 10, 15, 16, 17, 18, 19, 21, 22, 23, 24, 25].filterMap fun i => PySem.Challenge.pw_ny0306_02.main.body[i]? } }
noncomputable def Mine.ends : PSigma fun F => openEnds treeTable = F := ⟨_, by delta openEnds fencedOpening topFrom; rewrite [Fast.te10274390034422433532, Fast.te14364793385576792824, Fast.te1435165496053646825, Fast.te14289696077712309145, Fast.te14082659384304107361]; rfl⟩
theorem Mine.lq {p q : Program} {loose : List Str} {Xt : Shared → Bool} {α : Type} {Yf : Shared → α} {Ya : World → α} {N : Nat}
    (h : ∀ w, (Mine.ends.1 p w N).map (fun s => (Fast.tw4187177175401517315 q loose (Fast.tw5923862056798008813 p.main.body) Xt true s, Yf s)) = some (openGood q loose, Ya w)) : LeftO p q loose Xt Yf Ya N := fun w => by
  rw [show openEnds treeTable p w N = Mine.ends.1 p w N from congrFun (congrFun (congrFun Mine.ends.2 p) w) N, Fast.te4187177175401517315, Fast.te5923862056798008813]; exact h w
theorem Mine.ok0 : PySem.Challenge.rw_ny0306_02.wellSaid = true := (congrFun Fast.te9446332074065402090 _).trans (by decide +kernel)
theorem Mine.ow (h : (OpenLaw.row PySem.Challenge.rw_ny0306_02).Holds) : PySem.Challenge.rw_ny0306_02.Holds := holds_law Mine.ok0 fun _ => h
theorem Mine.hd0 (H : Hook) {d : DefRec} {kwd : List (Str × Expr)}
    (left : LeftO (OpenLaw.row PySem.Challenge.rw_ny0306_02).prog Mine.view1 [Str.ofString "b2a_base64", Str.ofString "b64encode", Str.ofString "_NodeInfo"] (fun s => xlAt Mine.view1 [] s && recOk (RowW.records (PySem.W.OpenRow.toRowW (PySem.W.OpenLaw.row PySem.Challenge.rw_ny0306_02))) s) (Hook.obs H) (Hook.val H) 3062)
    (hdef : defOf Mine.view1 (OpenLaw.row PySem.Challenge.rw_ny0306_02).name = some (d, kwd)) (hp : (OpenLaw.row PySem.Challenge.rw_ny0306_02).prog.theDef (OpenLaw.row PySem.Challenge.rw_ny0306_02).name = some (d.params, d.body, d.scope)) (hk : kwWritten? d.params.kwonlyargs d.params.kw_defaults = some kwd)
    (hw : (OpenLaw.row PySem.Challenge.rw_ny0306_02).toRowW.promised)
    (hc : WalkO Mine.view1 [Str.ofString "b2a_base64", Str.ofString "b64encode", Str.ofString "_NodeInfo"] (XL Mine.view1 []) (Hook.says H) (OpenLaw.row PySem.Challenge.rw_ny0306_02).toRowW d kwd fun f vs => PySem.call f vs) : (OpenLaw.row PySem.Challenge.rw_ny0306_02).Holds :=
  holds_open (Xt := fun s => xlAt Mine.view1 [] s && recOk (RowW.records (PySem.W.OpenRow.toRowW (PySem.W.OpenLaw.row PySem.Challenge.rw_ny0306_02))) s) left (Hook.of H) (Hook.keeps H) (fun s e => xl_of s (Bool.and_eq_true_iff.mp e).1) XL.keeps hdef hp hk (fun s e => recFacts_of (Bool.and_eq_true_iff.mp e).2) (by rfl) (row_said Mine.ok0) (by decide +kernel) ⟨rfl, rfl, rfl, rfl, rfl, by decide +kernel⟩ hw hc
local macro_rules | `(tactic| o_law) => `(tactic| refine Mine.ow ?_)
local macro_rules | `(tactic| o_head $H) => `(tactic| refine Mine.hd0 $H (Mine.lq fun w => by kernel_rfl) rfl rfl rfl ?hw ?hc)
open_top Mine.hd1 for PySem.Challenge.rw_ny0306_02
end
section
open PySem PySem.W PyProof.Rows
set_option maxHeartbeats 400000
namespace Mine

inductive V where
  | none | bool (b : Bool) | int (i : Int) | str (x : Str) | bytes (b : Array UInt8) | ref (a : Addr) | fn (v : Value)

noncomputable def V.is : V → Value → Prop
  | .none, v => v = .none
  | .bool b, v => v = .bool b
  | .int i, v => ∃ t, v = .int i t
  | .str x, v => ∃ t, v = .str x t
  | .bytes b, v => ∃ t, v = .bytes b t
  | .ref a, v => v = .ref a
  | .fn r, v => v = r

inductive Are : List V → List Value → Prop
  | nil : Are [] []
  | cons {x v xs vs} : V.is x v → Are xs vs → Are (x :: xs) (v :: vs)

theorem Are.length {xs vs} (h : Are xs vs) : xs.length = vs.length := by
  induction h with
  | nil => rfl
  | cons _ _ ih => simp [ih]
theorem Are.get {xs vs} (h : Are xs vs) {i : Nat} {x : V} (hx : xs[i]? = some x) : ∃ v, vs[i]? = some v ∧ x.is v := by
  induction h generalizing i with
  | nil => simp at hx
  | cons h _ ih =>
    cases i with
    | zero => simp at hx; subst hx; exact ⟨_, rfl, h⟩
    | succ i => simpa using ih (by simpa using hx)
theorem Are.append {xs vs ys us} (h : Are xs vs) (h' : Are ys us) : Are (xs ++ ys) (vs ++ us) := by
  induction h with
  | nil => exact h'
  | cons a _ ih => exact .cons a ih
theorem Are.push {xs vs x v} (h : Are xs vs) (h' : V.is x v) : Are (xs ++ [x]) (vs ++ [v]) := h.append (.cons h' .nil)
theorem Are.set {xs vs} (h : Are xs vs) (i : Nat) {x v} (h' : V.is x v) : Are (xs.set i x) (vs.set i v) := by
  induction h generalizing i with
  | nil => exact .nil
  | cons a b ih =>
    cases i with
    | zero => exact .cons h' b
    | succ i => exact .cons a (ih i)
theorem Are.take {xs vs} (h : Are xs vs) (n : Nat) : Are (xs.take n) (vs.take n) := by
  induction h generalizing n with
  | nil => simp; exact .nil
  | cons a b ih =>
    cases n with
    | zero => exact .nil
    | succ n => exact .cons a (ih n)
theorem Are.drop {xs vs} (h : Are xs vs) (n : Nat) : Are (xs.drop n) (vs.drop n) := by
  induction h generalizing n with
  | nil => simp; exact .nil
  | cons a b ih =>
    cases n with
    | zero => exact .cons a b
    | succ n => exact ih n
theorem Are.ints {xs : List Int} {vs} (h : Are (xs.map .int) vs) : IntsAre vs xs := by
  induction xs generalizing vs with
  | nil => cases h; exact .nil
  | cons x xs ih =>
    cases h with
    | cons a b => obtain ⟨t, rfl⟩ := a; exact .cons _ _ (ih b)
theorem Are.of_ints {xs : List Int} {vs} (h : IntsAre vs xs) : Are (xs.map .int) vs := by
  induction h with
  | nil => exact .nil
  | cons _ _ _ ih => exact .cons ⟨_, rfl⟩ ih

inductive O (K : Type) where
  | list (xs : List V) | tuple (xs : List V) | dict (kvs : List (K × V)) (ep : Nat) | idict (fs : List (Str × V)) | cell (v : Option V)
  | inst (C dx : Addr) (sl : List (Option V)) | set (S : K → Bool) (n : Nat) | liter (l : Addr) (i : Nat) | nxt (it : Addr) | bound (f x : Addr) | range (lo hi st : Int) | items (d : Addr) | values (d : Addr)

section
variable {prog : Program} {w : World} {K : Type} [DecidableEq K] (knd : KeyKind prog w K)

noncomputable def PairsAre : List (K × V) → List (K × Value) → Prop
  | [], [] => True
  | (k, x) :: r, (k', v) :: r' => k = k' ∧ x.is v ∧ PairsAre r r'
  | _, _ => False
noncomputable def OptIs : Option V → Option Value → Prop
  | some x, some v => x.is v
  | none, none => True
  | _, _ => False
noncomputable def SlotsAre : List (Option V) → List (Option Value) → Prop
  | [], [] => True
  | x :: r, v :: r' => OptIs x v ∧ SlotsAre r r'
  | _, _ => False
noncomputable def FieldsAre : List (Str × V) → List DictEntry → Prop
  | [], [] => True
  | (k, x) :: r, e :: r' => (∃ t, e.key = .str k t) ∧ x.is e.val ∧ FieldsAre r r'
  | _, _ => False

noncomputable def O.is (knd : KeyKind prog w K) : O K → Obj → Prop
  | .list xs, o => ∃ vs n, o = { cls := .type "list", data := .seq vs n } ∧ Are xs vs.toList
  | .tuple xs, o => ∃ vs n, o = { cls := .type "tuple", data := .seq vs n } ∧ Are xs vs.toList
  | .dict kvs ep, o => ∃ es kvs', o.ExactDict ∧ o.data = .dict es ep ∧ KeysOf knd es ∧ Pairs knd es.toList kvs' ∧ (kvs'.map (·.1)).Nodup ∧ PairsAre kvs kvs'
  | .idict fs, o => ∃ es n, o = dictOf es n ∧ FieldsAre fs es
  | .cell v, o => ∃ v', o.data = .cell v' ∧ OptIs v v'
  | .inst C dx sl, o => ∃ sl', o = ⟨.ref C, some dx, .plain, sl'⟩ ∧ SlotsAre sl sl'.toList
  | .set S n, o => ∃ es ep t, o.ExactSet ∧ o.data = .set es ep t ∧ ElemsOf knd es.toList ∧ (∀ k, S k = true ↔ ∃ e ∈ es.toList, knd.is k e.2 = true) ∧ es.size < scanBound ∧ t.fits es.size = true ∧ es.size = n
  | .liter l i, o => o = { cls := .type "list_iterator", data := .fields #[.ref l, .int i 0] }
  | .nxt it, o => o = { cls := .type "method-wrapper", data := .fields #[.builtin "list_iterator.__next__", .ref it] }
  | .bound f x, o => o = methodObj (.ref f) (.ref x)
  | .range lo hi st, o => ∃ t u v, o = { cls := .type "range", dict := none, data := .fields #[.int lo t, .int hi u, .int st v], slots := #[] }
  | .items d, o => o.cls = .type "dict_items" ∧ o.data = .fields #[.ref d]
  | .values d, o => o.cls = .type "dict_values" ∧ o.data = .fields #[.ref d]

structure MS (K : Type) where
  m : Str → Option V
  h : Addr → Option (O K)

noncomputable def put {β : Type} (f : Addr → Option β) (a : Addr) (x : β) : Addr → Option β := fun b => if b = a then some x else f b
noncomputable def putS (f : Str → Option V) (a : Str) (x : V) : Str → Option V := fun b => if b = a then some x else f b
noncomputable def MS.set (σ : MS K) (a : Addr) (o : O K) : MS K := ⟨σ.m, put σ.h a o⟩
noncomputable def MS.store (σ : MS K) (x : Str) (v : V) : MS K := ⟨putS σ.m x v, σ.h⟩

noncomputable def NsAt (h : Heap) (L : Addr) (m : Str → Option V) : Prop := ∃ m', h.Ns L m' ∧ ∀ x v, m x = some v → ∃ v', m' x = some v' ∧ v.is v'

structure Fx where
  base : Heap
  B : Addr → Option Obj
  L : Addr
  outs : List (Addr × (Str → Option V))
  s₀ : Shared
  sub : ∀ b o, base.get? b = some o → B b = some o

structure Rel (Γ : Fx) (σ : MS K) (s : Shared) : Prop where
  keep : ∀ b o, Γ.B b = some o → s.heap.get? b = some o
  rest : s = { Γ.s₀ with heap := s.heap, toks := s.toks }
  cur : NsAt s.heap Γ.L σ.m
  out : ∀ p ∈ Γ.outs, NsAt s.heap p.1 p.2
  obj : ∀ a o, σ.h a = some o → ∃ ob, s.heap.get? a = some ob ∧ o.is knd ob
  bL : Γ.B Γ.L = none
  bO : ∀ p ∈ Γ.outs, Γ.B p.1 = none
  bH : ∀ a o, σ.h a = some o → Γ.B a = none
  lO : ∀ p ∈ Γ.outs, p.1 ≠ Γ.L
  hL : σ.h Γ.L = none
  hO : ∀ p ∈ Γ.outs, σ.h p.1 = none

variable {knd}
variable {Γ : Fx} {σ : MS K} {s : Shared}

theorem NsAt.at {h h' : Heap} {L : Addr} {m} (x : NsAt h L m) (e : h'.get? L = h.get? L) : NsAt h' L m := by
  obtain ⟨m', ⟨o, es, ep, ho, r⟩, q⟩ := x
  exact ⟨m', ⟨o, es, ep, e.trans ho, r⟩, q⟩
theorem NsAt.ext {h h' : Heap} {L : Addr} {m} (x : NsAt h L m) (e : ∀ o, h.get? L = some o → h'.get? L = some o) : NsAt h' L m := by
  obtain ⟨m', ⟨o, es, ep, ho, r⟩, q⟩ := x
  exact ⟨m', ⟨o, es, ep, e _ ho, r⟩, q⟩
theorem NsAt.get {h : Heap} {L : Addr} {m} (x : NsAt h L m) : ∃ o, h.get? L = some o := by
  obtain ⟨m', ⟨o, es, ep, ho, r⟩, q⟩ := x
  exact ⟨o, ho⟩

theorem Rel.ext (R : Rel knd Γ σ s) {h' : Heap} {tk : Nat} (e : ∀ b o, s.heap.get? b = some o → h'.get? b = some o) : Rel knd Γ σ { s with heap := h', toks := tk } where
  keep := fun b o q => e b o (R.keep b o q)
  rest := by rw [R.rest]
  cur := R.cur.ext (e _)
  out := fun p hp => (R.out p hp).ext (e _)
  obj := fun a o q => let ⟨ob, h1, h2⟩ := R.obj a o q; ⟨ob, e _ _ h1, h2⟩
  bL := R.bL
  bO := R.bO
  bH := R.bH
  lO := R.lO
  hL := R.hL
  hO := R.hO

theorem Rel.toks (R : Rel knd Γ σ s) {tk : Nat} : Rel knd Γ σ { s with toks := tk } := R.ext (h' := s.heap) fun _ _ e => e

theorem Rel.fresh (R : Rel knd Γ σ s) : σ.h s.heap.objs.size = none := by
  cases h : σ.h s.heap.objs.size with
  | none => rfl
  | some o => obtain ⟨ob, h1, _⟩ := R.obj _ _ h; exact absurd (Heap.lt_size h1) (Nat.lt_irrefl _)
theorem Rel.freshB (R : Rel knd Γ σ s) : Γ.B s.heap.objs.size = none := by
  cases h : Γ.B s.heap.objs.size with
  | none => rfl
  | some o => exact absurd (Heap.lt_size (R.keep _ _ h)) (Nat.lt_irrefl _)
theorem Rel.freshL (R : Rel knd Γ σ s) : s.heap.objs.size ≠ Γ.L := fun e => by
  obtain ⟨o, ho⟩ := R.cur.get
  exact absurd (Heap.lt_size ho) (e ▸ Nat.lt_irrefl _)
theorem Rel.freshO (R : Rel knd Γ σ s) : ∀ p ∈ Γ.outs, s.heap.objs.size ≠ p.1 := fun p hp e => by
  obtain ⟨o, ho⟩ := (R.out p hp).get
  exact absurd (Heap.lt_size ho) (e ▸ Nat.lt_irrefl _)

theorem Rel.new (R : Rel knd Γ σ s) {h' : Heap} {tk : Nat} {a : Addr} {o : O K} {ob : Obj} (hb : Γ.B a = none) (hl : a ≠ Γ.L) (ho : ∀ p ∈ Γ.outs, a ≠ p.1)
    (e : ∀ b o, b ≠ a → s.heap.get? b = some o → h'.get? b = some o) (g : h'.get? a = some ob) (io : o.is knd ob) : Rel knd Γ (σ.set a o) { s with heap := h', toks := tk } where
  keep := fun b o q => e b o (fun x => by rw [x, hb] at q; cases q) (R.keep b o q)
  rest := by rw [R.rest]
  cur := R.cur.ext fun o q => e _ _ (fun x => hl x.symm) q
  out := fun p hp => (R.out p hp).ext fun o q => e _ _ (fun x => ho p hp x.symm) q
  obj := fun b o' q => by
    simp only [MS.set, put] at q
    split at q
    · rename_i x; subst x; cases q; exact ⟨ob, g, io⟩
    · rename_i x; obtain ⟨ob, h1, h2⟩ := R.obj b o' q; exact ⟨ob, e _ _ x h1, h2⟩
  bL := R.bL
  bO := R.bO
  bH := fun b o' q => by
    simp only [MS.set, put] at q
    split at q
    · rename_i x; subst x; exact hb
    · exact R.bH b o' q
  lO := R.lO
  hL := by show put _ _ _ _ = _; simp only [put]; rw [if_neg (fun x => hl x.symm)]; exact R.hL
  hO := fun p hp => by show put _ _ _ _ = _; simp only [put]; rw [if_neg (fun x => ho p hp x.symm)]; exact R.hO p hp

theorem Rel.push (R : Rel knd Γ σ s) {o : O K} {ob : Obj} (io : o.is knd ob) {tk : Nat} (hf : ob.isFreed = false := by rfl) : Rel knd Γ (σ.set s.heap.objs.size o) { s with heap := s.heap.push ob, toks := tk } :=
  R.new R.freshB R.freshL R.freshO (fun _ _ _ e => Heap.get?_push_of_some _ e) (Heap.get?_push_size _ hf) io

theorem Rel.change (R : Rel knd Γ σ s) {h' : Heap} {tk : Nat} {a : Addr} {o₁ o : O K} {ob : Obj} (ha : σ.h a = some o₁)
    (e : ∀ b o, b ≠ a → s.heap.get? b = some o → h'.get? b = some o) (g : h'.get? a = some ob) (io : o.is knd ob) : Rel knd Γ (σ.set a o) { s with heap := h', toks := tk } :=
  R.new (R.bH a _ ha) (fun x => by rw [x, R.hL] at ha; cases ha) (fun p hp x => by rw [x, R.hO p hp] at ha; cases ha) e g io

theorem Rel.named (R : Rel knd Γ σ s) {h' : Heap} {tk : Nat} {m' : Str → Option V} (e : Heap.SameBut Γ.L s.heap h') (n : NsAt h' Γ.L m') : Rel knd Γ ⟨m', σ.h⟩ { s with heap := h', toks := tk } where
  keep := fun b o q => (e.2 b (fun x => by rw [x, R.bL] at q; cases q)).trans (R.keep b o q)
  rest := by rw [R.rest]
  cur := n
  out := fun p hp => (R.out p hp).at (e.2 _ (R.lO p hp))
  obj := fun b o' q => let ⟨ob, h1, h2⟩ := R.obj b o' q; ⟨ob, (e.2 b (fun x => by rw [x, R.hL] at q; cases q)).trans h1, h2⟩
  bL := R.bL
  bO := R.bO
  bH := R.bH
  lO := R.lO
  hL := R.hL
  hO := R.hO

theorem Rel.less (R : Rel knd Γ σ s) {σ' : MS K} (h1 : ∀ a o, σ'.h a = some o → σ.h a = some o) (h2 : ∀ x v, σ'.m x = some v → σ.m x = some v) : Rel knd Γ σ' s where
  keep := R.keep
  rest := R.rest
  cur := let ⟨m', n, q⟩ := R.cur; ⟨m', n, fun x v e => q x v (h2 x v e)⟩
  out := R.out
  obj := fun a o q => R.obj a o (h1 a o q)
  bL := R.bL
  bO := R.bO
  bH := fun a o q => R.bH a o (h1 a o q)
  lO := R.lO
  hL := by cases h : σ'.h Γ.L with
    | none => rfl
    | some o => have := h1 _ _ h; rw [R.hL] at this; cases this
  hO := fun p hp => by cases h : σ'.h p.1 with
    | none => rfl
    | some o => have := h1 _ _ h; rw [R.hO p hp] at this; cases this

theorem freeze_sub {base : Heap} {B : Addr → Option Obj} {a : Addr} {ob : Obj} (sub : ∀ b o, base.get? b = some o → B b = some o) (h : B a = none) : ∀ b o, base.get? b = some o → put B a ob b = some o := by
  intro b o e
  have := sub b o e
  simp only [put]; split
  · rename_i x; rw [x, h] at this; cases this
  · exact this
noncomputable def Fx.freeze (Γ : Fx) (a : Addr) (ob : Obj) (h : Γ.B a = none) : Fx :=
  { Γ with B := put Γ.B a ob, sub := freeze_sub Γ.sub h }
theorem Rel.freeze (R : Rel knd Γ σ s) {a : Addr} {ob : Obj} (g : s.heap.get? a = some ob) (hb : Γ.B a = none) (hl : a ≠ Γ.L) (ho : ∀ p ∈ Γ.outs, a ≠ p.1) (hh : σ.h a = none) : Rel knd (Γ.freeze a ob hb) σ s where
  keep := fun b o q => by
    simp only [Fx.freeze, put] at q; split at q
    · rename_i x; cases q; rw [x]; exact g
    · exact R.keep b o q
  rest := R.rest
  cur := R.cur
  out := R.out
  obj := R.obj
  bL := by simp only [Fx.freeze, put]; rw [if_neg (fun x => hl x.symm)]; exact R.bL
  bO := fun p hp => by simp only [Fx.freeze, put]; rw [if_neg (fun x => ho p hp x.symm)]; exact R.bO p hp
  bH := fun b o q => by simp only [Fx.freeze, put]; rw [if_neg (fun x => by rw [x, hh] at q; cases q)]; exact R.bH b o q
  lO := R.lO
  hL := R.hL
  hO := R.hO
theorem Rel.thaw {a : Addr} {ob : Obj} {hb : Γ.B a = none} (R : Rel knd (Γ.freeze a ob hb) σ s) : Rel knd Γ σ s where
  keep := fun b o q => R.keep b o (by simp only [Fx.freeze, put]; rw [if_neg (fun x => by rw [x, hb] at q; cases q)]; exact q)
  rest := R.rest
  cur := R.cur
  out := R.out
  obj := R.obj
  bL := by have := R.bL; simp only [Fx.freeze, put] at this; split at this; cases this; exact this
  bO := fun p hp => by have := R.bO p hp; simp only [Fx.freeze, put] at this; split at this; cases this; exact this
  bH := fun b o q => by have := R.bH b o q; simp only [Fx.freeze, put] at this; split at this; cases this; exact this
  lO := R.lO
  hL := R.hL
  hO := R.hO

noncomputable def mwp (knd : KeyKind prog w K) (Γ : Fx) (A : Around) {α : Type} (c : Sem α) (Q : α → MS K → Prop) (σ : MS K) : Prop :=
  ∀ s (E : Value → Shared → Prop), Rel knd Γ σ s → wpAny (model prog w) A c (fun a s' => ∃ σ', Rel knd Γ σ' s' ∧ Q a σ') E s

variable {A : Around} {α β : Type}
theorem mwp_mono {c : Sem α} {Q Q' : α → MS K → Prop} (h : mwp knd Γ A c Q σ) (q : ∀ a σ, Q a σ → Q' a σ) : mwp knd Γ A c Q' σ :=
  fun s E R => wpAny_mono (h s E R) (fun _ _ ⟨σ', R', h'⟩ => ⟨σ', R', q _ _ h'⟩) fun _ _ e => e
theorem mwp_pure {a : α} {Q : α → MS K → Prop} (h : Q a σ) : mwp knd Γ A (pure a) Q σ := fun _ _ R => wpAny_pure ⟨σ, R, h⟩
theorem mwp_bind {c : Sem α} {f : α → Sem β} {Q : β → MS K → Prop} (h : mwp knd Γ A c (fun a σ' => mwp knd Γ A (f a) Q σ') σ) : mwp knd Γ A (c >>= f) Q σ :=
  fun s E R => wpAny_bind (wpAny_mono (h s E R) (fun _ s' ⟨_, R', h'⟩ => h' s' E R') fun _ _ e => e)
end
section
variable {prog : Program} {w : World} {K : Type} [DecidableEq K]
@[reducible] noncomputable def seqQ (knd : KeyKind prog w K) (Γ : Fx) (A : Around) (rest : List Stmt) (env : Env) (Q : Flow → MS K → Prop) : Flow → MS K → Prop := fun f σ' => match f with | .next => mwp knd Γ A (execs rest env) Q σ' | f => Q f σ'
@[reducible] noncomputable def loopQ (N : MS K → Prop) (Q : Flow → MS K → Prop) : Flow → MS K → Prop := fun f σ => match f with
  | .next | .cont => N σ
  | .brk => Q .next σ
  | .ret v => Q (.ret v) σ
@[reducible] noncomputable def ifQ (knd : KeyKind prog w K) (Γ : Fx) (A : Around) (body orelse : List Stmt) (env : Env) (Q : Flow → MS K → Prop) : Bool → MS K → Prop := fun b σ' => if b then mwp knd Γ A (execs body env) Q σ' else mwp knd Γ A (execs orelse env) Q σ'
@[reducible] noncomputable def whileQ (knd : KeyKind prog w K) (Γ : Fx) (A : Around) (body orelse : List Stmt) (env : Env) (N : MS K → Prop) (Q : Flow → MS K → Prop) : Bool → MS K → Prop := fun b σ' => if b then mwp knd Γ A (execs body env) (loopQ N Q) σ' else mwp knd Γ A (execs orelse env) Q σ'
@[reducible] noncomputable def funQ (m : Str → Option V) (Q : Value → MS K → Prop) : Flow → MS K → Prop := fun fl σ' => ∃ h', (∀ a o, h' a = some o → σ'.h a = some o) ∧ Q (match fl with | .ret v => v | _ => .none) ⟨m, h'⟩
theorem itrue {c : Prop} [Decidable c] {P R : Prop} (h : c) (k : P) : if c then P else R := by rw [if_pos h]; exact k
theorem ifalse {c : Prop} [Decidable c] {P R : Prop} (h : ¬ c) (k : R) : if c then P else R := by rw [if_neg h]; exact k
end
end Mine
end
section
open PySem PySem.W PyProof.Rows
set_option maxHeartbeats 400000
namespace Mine
section
variable {prog : Program} {w : World} {K : Type} [DecidableEq K] {knd : PySem.KeyKind prog w K} {Γ : Fx} {σ : MS K} {A : Around} {env : Env} {α : Type}

theorem mwp.use {c : Sem α} {Q : α → MS K → Prop} {P : α → Shared → Prop} {E : Value → Shared → Prop} {s : Shared} (h : mwp knd Γ A c Q σ) (R : Rel knd Γ σ s)
    (k : ∀ a s' σ', Rel knd Γ σ' s' → Q a σ' → P a s') : wpAny (model prog w) A c P E s :=
  wpAny_mono (h s E R) (fun a s' ⟨σ', R', q⟩ => k a s' σ' R' q) fun _ _ e => e

theorem m_nil {Q : Flow → MS K → Prop} (h : Q .next σ) : mwp knd Γ A (execs [] env) Q σ := fun _ _ R => wpAny_execs_nil ⟨σ, R, h⟩
theorem m_cons {st : Stmt} {rest : List Stmt} {Q : Flow → MS K → Prop} (h : mwp knd Γ A (exec st env) (seqQ knd Γ A rest env Q) σ) :
    mwp knd Γ A (execs (st :: rest) env) Q σ := fun s E R => wpAny_execs_cons (h.use R fun f s' σ' R' q => by
  cases f with
  | next => exact q s' E R'
  | brk => exact ⟨σ', R', q⟩
  | cont => exact ⟨σ', R', q⟩
  | ret v => exact ⟨σ', R', q⟩)
theorem m_If {test : Expr} {body orelse : List Stmt} {pos : Pos} {Q : Flow → MS K → Prop}
    (h : mwp knd Γ A (isTrue test env (eval test env)) (ifQ knd Γ A body orelse env Q) σ) :
    mwp knd Γ A (exec (.If test body orelse pos) env) Q σ := fun s E R => wpAny_If (h.use R fun b s' σ' R' q => by
  cases b with
  | true => exact q s' E R'
  | false => exact q s' E R')
theorem m_Return {e : Expr} {pos : Pos} {Q : Flow → MS K → Prop} (h : mwp knd Γ A (eval e env) (fun v => Q (.ret v)) σ) : mwp knd Γ A (exec (.Return (some e) pos) env) Q σ :=
  fun s E R => wpAny_Return_some (h s E R)
theorem m_Break {pos : Pos} {Q : Flow → MS K → Prop} (h : Q .brk σ) : mwp knd Γ A (exec (.Break pos) env) Q σ := fun _ _ R => wpAny_Break ⟨σ, R, h⟩
theorem m_Continue {pos : Pos} {Q : Flow → MS K → Prop} (h : Q .cont σ) : mwp knd Γ A (exec (.Continue pos) env) Q σ := fun _ _ R => wpAny_Continue ⟨σ, R, h⟩
theorem m_Expr {e : Expr} {pos : Pos} {Q : Flow → MS K → Prop} (h : mwp knd Γ A (eval e env) (fun _ => Q .next) σ)
    (hi : interactive env = false) (hs : swapsWith e none pos.line env = pure false) : mwp knd Γ A (exec (.Expr e pos) env) Q σ :=
  fun s E R => wpAny_Expr_any (h s E R) hi hs
theorem m_AssignName {x : Str} {pos' pos : Pos} {value : Expr} {Q : Flow → MS K → Prop} (h : mwp knd Γ A (eval value env) (fun v σ' => mwp knd Γ A (storeName env x v) (fun _ => Q .next) σ') σ)
    (hs : swapsWith value (some (.Name x pos')) pos.line env = pure false) : mwp knd Γ A (exec (.Assign [.Name x pos'] value pos) env) Q σ :=
  fun s E R => wpAny_Assign_Name (h.use R fun v s' σ' R' q => q s' E R') hs
theorem m_AssignSub {o i : Expr} {pos' pos : Pos} {value : Expr} {Q : Flow → MS K → Prop}
    (h : mwp knd Γ A (eval value env) (fun v σ₁ => mwp knd Γ A (eval o env) (fun ov σ₂ => mwp knd Γ A (eval i env) (fun iv σ₃ => mwp knd Γ A (setItem ov iv v) (fun _ => Q .next) σ₃) σ₂) σ₁) σ)
    (hs : swapsWith value (some (.Subscript o i pos')) pos.line env = pure false) : mwp knd Γ A (exec (.Assign [.Subscript o i pos'] value pos) env) Q σ :=
  fun s E R => wpAny_Assign_Subscript (h.use R fun v s' σ' R' q => q.use R' fun v s' σ' R' q => q.use R' fun v s' σ' R' q => q s' E R') hs
theorem m_AssignAttr {o : Expr} {attr : Str} {pos' pos : Pos} {value : Expr} {Q : Flow → MS K → Prop}
    (h : mwp knd Γ A (eval value env) (fun v σ₁ => mwp knd Γ A (eval o env) (fun ov σ₂ => mwp knd Γ A (setAttr ov attr v) (fun _ => Q .next) σ₂) σ₁) σ)
    (hs : swapsWith value (some (.Attribute o attr pos')) pos.line env = pure false) : mwp knd Γ A (exec (.Assign [.Attribute o attr pos'] value pos) env) Q σ :=
  fun s E R => plainObj_wpAny_Assign_Attribute (h.use R fun v s' σ' R' q => q.use R' fun v s' σ' R' q => q s' E R') hs
theorem m_Assign2 {t₁ t₂ value : Expr} {pos : Pos} {Q : Flow → MS K → Prop}
    (h : mwp knd Γ A (eval value env) (fun v σ₁ => mwp knd Γ A (assign t₁ env v) (fun _ σ₂ => mwp knd Γ A (assign t₂ env v) (fun _ => Q .next) σ₂) σ₁) σ)
    (he : (assignEach [t₁, t₂] env).map (·.2) = [assign t₁ env, assign t₂ env])
    (hw : swappedStores [t₁, t₂] value env = pure none) : mwp knd Γ A (exec (.Assign [t₁, t₂] value pos) env) Q σ :=
  fun s E R => wpAny_Assign_two (h.use R fun v s' σ' R' q => q.use R' fun v s' σ' R' q => q s' E R') he hw
theorem m_assignName {x : Str} {pos : Pos} {v : Value} {Q : Unit → MS K → Prop} (h : mwp knd Γ A (storeName env x v) Q σ) : mwp knd Γ A (assign (.Name x pos) env v) Q σ :=
  fun s E R => wpAny_assign_Name (h s E R)
theorem m_assignSub {o i : Expr} {pos : Pos} {v : Value} {Q : Unit → MS K → Prop}
    (h : mwp knd Γ A (eval o env) (fun ov σ₂ => mwp knd Γ A (eval i env) (fun iv σ₃ => mwp knd Γ A (setItem ov iv v) Q σ₃) σ₂) σ) : mwp knd Γ A (assign (.Subscript o i pos) env v) Q σ := fun s E R => by
  rw [arm_assign_Subscript]
  refine wpAny_bind (wpAny_holding (h.use R fun ov s' σ' R' q => wpAny_bind (wpAny_holding (q.use R' fun iv s' σ' R' q => wpAny_bind (wpAny_standAt (wpAny_bind (wpAny_holding (q.use R' fun _ s' σ' R' q => ?_))))))))
  exact wpAny_releaseD ⟨σ', R', q⟩
theorem m_AugName {x : Str} {pos' pos : Pos} {op : Operator} {value : Expr} {Q : Flow → MS K → Prop}
    (h : mwp knd Γ A (loadName env x) (fun old σ₁ => mwp knd Γ A (eval value env) (fun v σ₂ => mwp knd Γ A (inplaceOp op old v) (fun r σ₃ => mwp knd Γ A (storeName env x r) (fun _ => Q .next) σ₃) σ₂) σ₁) σ) :
    mwp knd Γ A (exec (.AugAssign (.Name x pos') op value pos) env) Q σ :=
  fun s E R => wpAny_AugAssign_Name (h.use R fun v s' σ' R' q => q.use R' fun v s' σ' R' q => q.use R' fun v s' σ' R' q => q s' E R')
theorem m_AugAttr {o value : Expr} {attr : Str} {tpos pos : Pos} {op : Operator} {Q : Flow → MS K → Prop}
    (h : mwp knd Γ A (eval o env) (fun ov σ₁ => mwp knd Γ A (getAttr ov attr true) (fun old σ₂ => mwp knd Γ A (eval value env) (fun v σ₃ => mwp knd Γ A (inplaceOp op old v) (fun new σ₄ =>
      mwp knd Γ A (setAttr ov attr new) (fun _ => Q .next) σ₄) σ₃) σ₂) σ₁) σ) : mwp knd Γ A (exec (.AugAssign (.Attribute o attr tpos) op value pos) env) Q σ :=
  fun s E R => wpAny_AugAssign_AttributeAny (h.use R fun v s' σ' R' q => q.use R' fun v s' σ' R' q => q.use R' fun v s' σ' R' q => q.use R' fun v s' σ' R' q => q s' E R')

theorem m_int {i : Int} {k : Nat} {pos : Pos} {Q : Value → MS K → Prop} (h : ∀ t, Q (.int i t) σ) : mwp knd Γ A (eval (.Constant (.int i) k pos) env) Q σ := fun s _ R => wpAny_Constant_int ⟨σ, R.toks, h _⟩
theorem m_str {x : Str} {k : Nat} {pos : Pos} {Q : Value → MS K → Prop} (h : ∀ t, Q (.str x t) σ) : mwp knd Γ A (eval (.Constant (.str x) k pos) env) Q σ := fun s _ R => Calls.Constant_str ⟨σ, R.toks, h _⟩
theorem m_bool {b : Bool} {k : Nat} {pos : Pos} {Q : Value → MS K → Prop} (h : Q (.bool b) σ) : mwp knd Γ A (eval (.Constant (.bool b) k pos) env) Q σ := fun s _ R => wpAny_Constant_bool ⟨σ, R, h⟩
theorem m_none {k : Nat} {pos : Pos} {Q : Value → MS K → Prop} (h : Q .none σ) : mwp knd Γ A (eval (.Constant .none k pos) env) Q σ := fun s _ R => wpAny_Constant_none ⟨σ, R, h⟩
theorem m_BinOp {l r : Expr} {op : Operator} {pos : Pos} {Q : Value → MS K → Prop}
    (h : mwp knd Γ A (eval l env) (fun a σ₁ => mwp knd Γ A (eval r env) (fun b σ₂ => mwp knd Γ A (binaryOp op a b) Q σ₂) σ₁) σ) : mwp knd Γ A (eval (.BinOp l op r pos) env) Q σ :=
  fun s E R => wpAny_BinOp (h.use R fun v s' σ' R' q => q.use R' fun v s' σ' R' q => q s' E R')
theorem m_UnaryOp {x : Expr} {op : UnaryOp} {pos : Pos} {Q : Value → MS K → Prop} (h : mwp knd Γ A (eval x env) (fun a σ₁ => mwp knd Γ A (unaryOp op a) Q σ₁) σ) : mwp knd Γ A (eval (.UnaryOp op x pos) env) Q σ :=
  fun s E R => wpAny_UnaryOp (h.use R fun v s' σ' R' q => q s' E R')
theorem m_Compare {l r : Expr} {op : CmpOp} {pos : Pos} {Q : Value → MS K → Prop}
    (h : mwp knd Γ A (eval l env) (fun a σ₁ => mwp knd Γ A (eval r env) (fun b σ₂ => mwp knd Γ A (compareOp op a b) Q σ₂) σ₁) σ) (hm : behindInMarks op r = false) :
    mwp knd Γ A (eval (.Compare l [op] [r] pos) env) Q σ :=
  fun s E R => wpAny_Compare1 (h.use R fun v s' σ' R' q => q.use R' fun v s' σ' R' q => q s' E R') hm
theorem m_isCompare {l r : Expr} {op : CmpOp} {pos : Pos} {whole : Sem Value} {Q : Bool → MS K → Prop}
    (h : mwp knd Γ A (eval l env) (fun a σ₁ => mwp knd Γ A (eval r env) (fun b σ₂ => mwp knd Γ A (compareOp op a b) (fun c σ₃ => mwp knd Γ A (truthy c) Q σ₃) σ₂) σ₁) σ) (hm : behindInMarks op r = false) :
    mwp knd Γ A (isTrue (.Compare l [op] [r] pos) env whole) Q σ :=
  fun s E R => wpAny_isTrue_Compare1 (h.use R fun v s' σ' R' q => q.use R' fun v s' σ' R' q => q.use R' fun v s' σ' R' q => q s' E R') hm
theorem m_isNot {x : Expr} {pos : Pos} {whole : Sem Value} {Q : Bool → MS K → Prop} (h : mwp knd Γ A (isTrue x env (eval x env)) (fun b => Q (!b)) σ) : mwp knd Γ A (isTrue (.UnaryOp .Not x pos) env whole) Q σ :=
  fun s E R => wpAny_isTrue_Not (h s E R)
theorem m_isBoolOp {op : BoolOp} {values : List Expr} {pos : Pos} {whole : Sem Value} {Q : Bool → MS K → Prop} (h : mwp knd Γ A (allTrue op values env) Q σ) : mwp knd Γ A (isTrue (.BoolOp op values pos) env whole) Q σ :=
  fun s E R => wpAny_isTrue_BoolOp (h s E R)
theorem m_isValue {e : Expr} {whole : Sem Value} {Q : Bool → MS K → Prop} (h : mwp knd Γ A whole (fun v σ' => mwp knd Γ A (truthy v) Q σ') σ)
    (he : isTrue e env whole = (do let v ← whole; standAt e.pos; holding [v] (truthy v))) : mwp knd Γ A (isTrue e env whole) Q σ :=
  fun s E R => wpAny_isTrue_value (h.use R fun v s' σ' R' q => q s' E R') he
theorem m_andNil {Q : Bool → MS K → Prop} (h : Q true σ) : mwp knd Γ A (allTrue .And [] env) Q σ := fun _ _ R => wpAny_allTrue_And_nil ⟨σ, R, h⟩
theorem m_orNil {Q : Bool → MS K → Prop} (h : Q false σ) : mwp knd Γ A (allTrue .Or [] env) Q σ := fun _ _ R => wpAny_allTrue_Or_nil ⟨σ, R, h⟩
theorem m_andCons {x : Expr} {rest : List Expr} {Q : Bool → MS K → Prop} (h : mwp knd Γ A (isTrue x env (eval x env)) (fun b σ' => if b then mwp knd Γ A (allTrue .And rest env) Q σ' else Q false σ') σ) :
    mwp knd Γ A (allTrue .And (x :: rest) env) Q σ := fun s E R => wpAny_allTrue_And_cons (h.use R fun b s' σ' R' q => by
  cases b with
  | true => exact q s' E R'
  | false => exact ⟨σ', R', q⟩)
theorem m_orCons {x : Expr} {rest : List Expr} {Q : Bool → MS K → Prop} (h : mwp knd Γ A (isTrue x env (eval x env)) (fun b σ' => if b then Q true σ' else mwp knd Γ A (allTrue .Or rest env) Q σ') σ) :
    mwp knd Γ A (allTrue .Or (x :: rest) env) Q σ := fun s E R => wpAny_allTrue_Or_cons (h.use R fun b s' σ' R' q => by
  cases b with
  | true => exact ⟨σ', R', q⟩
  | false => exact q s' E R')
theorem m_or2 {x y : Expr} {pos : Pos} {Q : Value → MS K → Prop} (h : mwp knd Γ A (eval x env) (fun v σ₁ => mwp knd Γ A (truthy v) (fun t σ₂ => if t then Q v σ₂ else mwp knd Γ A (eval y env) Q σ₂) σ₁) σ) :
    mwp knd Γ A (eval (.BoolOp .Or [x, y] pos) env) Q σ := fun s E R => wpAny_Or2 (h.use R fun v s' σ' R' q => q.use R' fun t s' σ' R' q => by
  cases t with
  | true => exact ⟨σ', R', q⟩
  | false => exact q s' E R')
theorem m_IfExp {test body orelse : Expr} {pos : Pos} {Q : Value → MS K → Prop}
    (h : mwp knd Γ A (isTrue test env (eval test env)) (fun b σ' => if b then mwp knd Γ A (eval body env) Q σ' else mwp knd Γ A (eval orelse env) Q σ') σ) : mwp knd Γ A (eval (.IfExp test body orelse pos) env) Q σ :=
  fun s E R => wpAny_IfExp (h.use R fun b s' σ' R' q => by
  cases b with
  | true => exact q s' E R'
  | false => exact q s' E R')
theorem m_Named {target value : Expr} {pos : Pos} {Q : Value → MS K → Prop} (h : mwp knd Γ A (eval value env) (fun v σ₁ => mwp knd Γ A (assign target env v) (fun _ σ₂ => Q v σ₂) σ₁) σ) :
    mwp knd Γ A (eval (.NamedExpr target value pos) env) Q σ := fun s E R => wpAny_NamedExpr (h.use R fun v s' σ' R' q => q s' E R')
theorem m_Attr {value : Expr} {attr : Str} {pos : Pos} {Q : Value → MS K → Prop} (h : mwp knd Γ A (eval value env) (fun o σ₁ => mwp knd Γ A (getAttr o attr true) Q σ₁) σ)
    (he : eval (.Attribute value attr pos) env = (do
      let o ← eval value env
      standAt pos.atName
      let r ← holding [o] (getAttr o attr true)
      letTemporaryGo value o r
      pure r)) : mwp knd Γ A (eval (.Attribute value attr pos) env) Q σ := fun s E R => Attribute_any_ (h.use R fun v s' σ' R' q => q s' E R') he
theorem m_Sub {value slice : Expr} {pos : Pos} {Q : Value → MS K → Prop} (h : mwp knd Γ A (eval value env) (fun o σ₁ => mwp knd Γ A (eval slice env) (fun i σ₂ => mwp knd Γ A (subscriptTail value slice o i) Q σ₂) σ₁) σ) :
    mwp knd Γ A (eval (.Subscript value slice pos) env) Q σ := fun s E R => Subscript_ (h.use R fun v s' σ' R' q => q.use R' fun v s' σ' R' q => q s' E R')
theorem m_Call {func : Expr} {args : List Expr} {pos : Pos} {Q : Value → MS K → Prop} (h : mwp knd Γ A (eval func env) (fun f σ₁ => mwp knd Γ A (callWith pos f [] (backTo pos (starEach args env)) []) Q σ₁) σ)
    (he : eval (.Call func args [] pos) env = (do callWith pos (← eval func env) [] (backTo pos (starEach args env)) (backToKw pos (keywordEach [] env)))) :
    mwp knd Γ A (eval (.Call func args [] pos) env) Q σ := fun s E R => Call_ (h.use R fun v s' σ' R' q => q s' E R') he
theorem m_CallKw {x : Str} {np pos : Pos} {args : List Expr} {kws : List Keyword} {Q : Value → MS K → Prop}
    (h : mwp knd Γ A (eval (.Name x np) env) (fun f σ₁ => mwp knd Γ A (callWith pos f [] (backTo pos (starEach args env)) (backToKw pos (keywordEach kws env))) Q σ₁) σ) :
    mwp knd Γ A (eval (.Call (.Name x np) args kws pos) env) Q σ := fun s E R => wpAny_Call_ofName (h.use R fun v s' σ' R' q => q s' E R')
theorem m_Method {o : Expr} {name : Str} {apos pos : Pos} {args : List Expr} {pl : Sem Bool} {Q : Value → MS K → Prop}
    (h : mwp knd Γ A (eval o env) (fun ov σ₁ => mwp knd Γ A (getMethod ov name pl) (fun fx σ₂ => mwp knd Γ A (callWith pos fx.1 fx.2 (backTo pos (starEach args env)) []) Q σ₂) σ₁) σ)
    (he : eval (.Call (.Attribute o name apos) args [] pos) env = (do
      let ov ← eval o env
      standAt apos.atName
      let (f, first) ← holding [ov] (getMethod ov name pl)
      callWith pos f first (backTo pos (starEach args env)) [])) : mwp knd Γ A (eval (.Call (.Attribute o name apos) args [] pos) env) Q σ :=
  fun s E R => MethodCall_ (h.use R fun v s' σ' R' q => q.use R' fun v s' σ' R' q => q s' E R') he
theorem m_spl0 {Q : List Value → MS K → Prop} (h : Q [] σ) : mwp knd Γ A (spliced []) Q σ := fun _ _ R => Calls.spliced_nil ⟨σ, R, h⟩
theorem m_spl {x : Sem Value} {rest : List (Bool × Sem Value)} {Q : List Value → MS K → Prop} (h : mwp knd Γ A x (fun v σ₁ => mwp knd Γ A (spliced rest) (fun vs σ₂ => Q (v :: vs) σ₂) σ₁) σ) :
    mwp knd Γ A (spliced ((false, x) :: rest)) Q σ := fun s E R => Calls.spliced_cons (h.use R fun v s' σ' R' q => q s' E R')
theorem m_List {elts : List Expr} {pos : Pos} {Q : Value → MS K → Prop} (h : mwp knd Γ A (spliced (backTo pos (starEach elts env))) (fun vs σ₁ => mwp knd Γ A (newList vs) Q σ₁) σ) : mwp knd Γ A (eval (.List elts pos) env) Q σ :=
  fun s E R => List_ (h.use R fun v s' σ' R' q => q s' E R')
theorem m_Tuple {elts : List Expr} {k : Nat} {pos : Pos} {Q : Value → MS K → Prop} (h : mwp knd Γ A (spliced (backTo pos (starEach elts env))) (fun vs σ₁ => mwp knd Γ A (newTuple vs) Q σ₁) σ) : mwp knd Γ A (eval (.Tuple elts k pos) env) Q σ :=
  fun s E R => Tuple_ (h.use R fun v s' σ' R' q => q s' E R')

theorem m_load {x : Str} {v : V} {Q : Value → MS K → Prop} (hm : σ.m x = some v) (h : ∀ v', v.is v' → Q v' σ) (hk : env.scope.kind = .function) (hl : env.kindOf x = some .local) (he : env.locals = Γ.L) :
    mwp knd Γ A (loadName env x) Q σ := fun s E R => by
  obtain ⟨m', n, q⟩ := R.cur
  obtain ⟨v', e, iv⟩ := q x v hm
  rw [← he] at n
  exact wpAny_loadName_local hk hl n e ⟨σ, R, h v' iv⟩
theorem m_Name {x : Str} {pos : Pos} {Q : Value → MS K → Prop} (h : mwp knd Γ A (loadName env x) Q σ) (hd : (x == ("__debug__" : Str)) = false) : mwp knd Γ A (eval (.Name x pos) env) Q σ :=
  fun s E R => wpAny_Name (h s E R) hd
theorem m_store {x : Str} {v : V} {v' : Value} {Q : Unit → MS K → Prop} (hv : v.is v') (h : Q () (σ.store x v)) (hk : env.scope.kind = .function) (hl : env.kindOf x = some .local) (he : env.locals = Γ.L) :
    mwp knd Γ A (storeName env x v') Q σ := fun s E R => by
  obtain ⟨m', n, q⟩ := R.cur
  rw [← he] at n
  refine wpAny_storeName_local hl n (fun h' n' sb => ?_) (by rw [hk]; rfl)
  rw [he] at n' sb
  refine ⟨_, R.named sb ⟨_, n', fun y u e => ?_⟩, h⟩
  simp only [putS] at e
  split at e
  · rename_i z; cases e; rw [if_pos z]; exact ⟨_, rfl, hv⟩
  · rename_i z; rw [if_neg z]; exact q y u e
theorem is_cell {h : Heap} {c : Addr} {v : Option Value} {o : Obj} (e : h.get? c = some o) (d : o.data = .cell v) : h.IsCell c v := ⟨o, e, d⟩
theorem m_loadCell {x : Str} {c : Addr} {v : V} {Q : Value → MS K → Prop} (hm : σ.h c = some (.cell (some v))) (h : ∀ v', v.is v' → Q v' σ) (hk : env.scope.kind = .function) (hl : env.kindOf x = some .cell) (he : env.cells.lookup x = some c) :
    mwp knd Γ A (loadName env x) Q σ := fun s E R => by
  obtain ⟨o, e, v', d, iv⟩ := R.obj c _ hm
  cases v' with
  | none => exact iv.elim
  | some v' => exact wpAny_loadName_cell hk hl he (is_cell e d) ⟨σ, R, h v' iv⟩
theorem m_storeCell {x : Str} {c : Addr} {v₀ : Option V} {v : V} {v' : Value} {Q : Unit → MS K → Prop} (hv : v.is v') (hm : σ.h c = some (.cell v₀)) (h : Q () (σ.set c (.cell (some v)))) (hk : env.scope.kind = .function) (hl : env.kindOf x = some .cell) (he : env.cells.lookup x = some c) :
    mwp knd Γ A (storeName env x v') Q σ := fun s E R => by
  obtain ⟨o, e, v₁, d, iv⟩ := R.obj c _ hm
  refine wpAny_storeName_cell hk hl he (is_cell e d) fun h' ⟨o', e', d'⟩ sb => ⟨_, R.change (o := .cell (some v)) hm (fun b o hb q => (sb.2 b hb).trans q) e' ⟨_, d', hv⟩, h⟩
theorem m_global {x : Str} {v : Value} {mg : Str → Option Value} {Q : Value → MS K → Prop} (hg : Γ.base.Ns mainGlobals mg) (hv : mg x = some v) (h : Q v σ) (hk : env.scope.kind = .function) (hl : env.kindOf x = some .globalImplicit)
    (he : env.globals = mainGlobals) : mwp knd Γ A (loadName env x) Q σ := fun s E R => by
  have n : s.heap.Ns env.globals mg := he ▸ hg.keeps fun b o e => R.keep b o (Γ.sub b o e)
  have : loadName env x = loadGlobal env x := by unfold loadName; simp [hk, hl, ScopeKind.isAnnotationScope, Env.blockKind]
  rw [this]
  exact Calls.loadGlobal_global n hv ⟨σ, R, h⟩
theorem m_builtin {x : Str} {v : Value} {mg mb : Str → Option Value} {Q : Value → MS K → Prop} (hg : Γ.base.Ns mainGlobals mg) (hm : mg x = none) (hb : Γ.base.Ns builtinsNs mb) (hv : mb x = some v) (h : Q v σ)
    (hk : env.scope.kind = .function) (hl : env.kindOf x = some .globalImplicit) (he : env.globals = mainGlobals) (hf : env.builtins = builtinsNs) : mwp knd Γ A (loadName env x) Q σ := fun s E R => by
  have n : s.heap.Ns env.globals mg := he ▸ hg.keeps fun b o e => R.keep b o (Γ.sub b o e)
  have n' : s.heap.Ns env.builtins mb := hf ▸ hb.keeps fun b o e => R.keep b o (Γ.sub b o e)
  have : loadName env x = loadGlobal env x := by unfold loadName; simp [hk, hl, ScopeKind.isAnnotationScope, Env.blockKind]
  rw [this]
  exact Calls.loadGlobal_builtin n hm n' hv ⟨σ, R, h⟩

variable {a b : Int} {t u : Tok} {Q : Value → MS K → Prop} {QB : Bool → MS K → Prop}
theorem m_add (h : ∀ t, Q (.int (a + b) t) σ) : mwp knd Γ A (binaryOp .Add (.int a t) (.int b u)) Q σ := fun _ _ R => PyProof.Rows.add_int ⟨σ, R.toks, h _⟩
theorem m_sub (h : ∀ t, Q (.int (a - b) t) σ) : mwp knd Γ A (binaryOp .Sub (.int a t) (.int b u)) Q σ := fun _ _ R => PyProof.Rows.sub_int ⟨σ, R.toks, h _⟩
theorem m_mul (hm : IntMulOk a b) (h : ∀ t, Q (.int (a * b) t) σ) : mwp knd Γ A (binaryOp .Mult (.int a t) (.int b u)) Q σ := fun _ _ R => PyProof.Rows.mul_int ⟨σ, R.toks, h _⟩ hm
theorem m_and (h : ∀ t, Q (.int (Builtin.bitAnd a b) t) σ) : mwp knd Γ A (binaryOp .BitAnd (.int a t) (.int b u)) Q σ := fun _ _ R => PyProof.Rows.and_int ⟨σ, R.toks, h _⟩
theorem m_or (h : ∀ t, Q (.int (Builtin.bitOr a b) t) σ) : mwp knd Γ A (binaryOp .BitOr (.int a t) (.int b u)) Q σ := fun _ _ R => PyProof.Rows.or_int ⟨σ, R.toks, h _⟩
theorem m_mod (hb : b ≠ 0) (h : ∀ t, Q (.int (a.fmod b) t) σ) : mwp knd Γ A (binaryOp .Mod (.int a t) (.int b u)) Q σ := fun _ _ R => PyProof.Rows.mod_int' hb ⟨σ, R.toks, h _⟩
theorem m_div (hb : b ≠ 0) (hp : Builtin.divisionGoesByPylong a b = false) (h : ∀ t, Q (.int (a.fdiv b) t) σ) : mwp knd Γ A (binaryOp .FloorDiv (.int a t) (.int b u)) Q σ := fun _ _ R => PyProof.Rows.floordiv_int hb ⟨σ, R.toks, h _⟩ (.inl hp)
theorem m_shl (hn : 0 ≤ b) (hn2 : b ≤ 1000000) (ha : a.natAbs < 2 ^ 64) (h : ∀ t, Q (.int (a * 2 ^ b.toNat) t) σ) : mwp knd Γ A (binaryOp .LShift (.int a t) (.int b u)) Q σ := fun _ _ R => PyProof.Rows.lshift_int_small hn hn2 ha ⟨σ, R.toks, h _⟩
theorem m_shr (hn : 0 ≤ b) (h : ∀ t, Q (.int (a.fdiv (2 ^ b.toNat)) t) σ) : mwp knd Γ A (binaryOp .RShift (.int a t) (.int b u)) Q σ := fun _ _ R => PyProof.Rows.rshift_int hn ⟨σ, R.toks, h _⟩
theorem m_pow (hn : 0 ≤ b) (hsz : (Builtin.Int.intBits a : Int) * b ≤ 2 ^ 27) (h : ∀ t, Q (.int (a ^ b.toNat) t) σ) : mwp knd Γ A (binaryOp .Pow (.int a t) (.int b u)) Q σ := fun _ _ R => PyProof.Rows.pow_int hn hsz ⟨σ, R.toks, h _⟩
theorem m_iadd (h : ∀ t, Q (.int (a + b) t) σ) : mwp knd Γ A (inplaceOp .Add (.int a t) (.int b u)) Q σ := fun _ _ R => iadd_int ⟨σ, R.toks, h _⟩
theorem m_isub (h : ∀ t, Q (.int (a - b) t) σ) : mwp knd Γ A (inplaceOp .Sub (.int a t) (.int b u)) Q σ := fun _ _ R => isub_int ⟨σ, R.toks, h _⟩
theorem m_eqi (h : Q (.bool (a == b)) σ) : mwp knd Γ A (compareOp .Eq (.int a t) (.int b u)) Q σ := fun _ _ R => PyProof.Rows.eq_int ⟨σ, R, h⟩
theorem m_nei (h : Q (.bool (a != b)) σ) : mwp knd Γ A (compareOp .NotEq (.int a t) (.int b u)) Q σ := fun _ _ R => PyProof.Rows.ne_int ⟨σ, R, h⟩
theorem m_lti (h : Q (.bool (decide (a < b))) σ) : mwp knd Γ A (compareOp .Lt (.int a t) (.int b u)) Q σ := fun _ _ R => PyProof.Rows.lt_int ⟨σ, R, h⟩
theorem m_gti (h : Q (.bool (decide (b < a))) σ) : mwp knd Γ A (compareOp .Gt (.int a t) (.int b u)) Q σ := fun _ _ R => PyProof.Rows.gt_int ⟨σ, R, h⟩
theorem m_gei (h : Q (.bool (decide (b ≤ a))) σ) : mwp knd Γ A (compareOp .GtE (.int a t) (.int b u)) Q σ := fun _ _ R => PyProof.Rows.ge_int ⟨σ, R, h⟩
theorem m_trInt (h : QB (a != 0) σ) : mwp knd Γ A (truthy (.int a t)) QB σ := fun _ _ R => PyProof.Rows.truthy_int ⟨σ, R, h⟩
theorem m_trBool {c : Bool} (h : QB c σ) : mwp knd Γ A (truthy (.bool c)) QB σ := fun _ _ R => wpAny_truthy_bool ⟨σ, R, h⟩
theorem m_trNone (h : QB false σ) : mwp knd Γ A (truthy .none) QB σ := fun _ _ R => truthy_none ⟨σ, R, h⟩
theorem m_is {x y : Value} (hp : plainIs x y = true) (h : Q (.bool (x == y)) σ) : mwp knd Γ A (compareOp .Is x y) Q σ := fun _ _ R => wpAny_is_plain hp ⟨σ, R, h⟩
theorem m_isnot {x y : Value} (hp : plainIs x y = true) (h : Q (.bool (!(x == y))) σ) : mwp knd Γ A (compareOp .IsNot x y) Q σ := fun _ _ R => wpAny_isNot_plain hp ⟨σ, R, h⟩
variable {x y : Str}
theorem m_eqs (h : Q (.bool (x == y)) σ) : mwp knd Γ A (compareOp .Eq (.str x t) (.str y u)) Q σ := fun _ _ R => PyProof.Rows.eq_str ⟨σ, R, h⟩
theorem m_nes (h : Q (.bool (x != y)) σ) : mwp knd Γ A (compareOp .NotEq (.str x t) (.str y u)) Q σ := fun _ _ R => PyProof.Rows.ne_str ⟨σ, R, h⟩
theorem m_adds (hsz : x.length + y.length ≤ sizeLine) (h : ∀ t, Q (.str (x ++ y) t) σ) : mwp knd Γ A (binaryOp .Add (.str x t) (.str y u)) Q σ := fun _ _ R => PyProof.Rows.add_str (fun _ _ => ⟨σ, R.toks, h _⟩) hsz
theorem m_trStr (hfit : ¬ (x.length : Int) ≥ 2 ^ 63) (h : QB ((x.length : Int) != 0) σ) : mwp knd Γ A (truthy (.str x t)) QB σ := fun _ _ R => PySem.P.truthy_str hfit ⟨σ, R.toks, h⟩
end
end Mine
end
section
open PySem PySem.W PyProof.Rows
set_option maxHeartbeats 400000
namespace Mine

structure Dp (A : Around) (n : Nat) : Prop where
  hd : A.handled = none
  dp : A.depth + 3 * n < recursionLimit
  un : A.units + 40 * n < cLine
theorem Dp.deeper {A : Around} {n : Nat} (h : Dp A (n + 1)) (env : Env) : Dp (A.deeper env) n :=
  ⟨h.hd, by have := h.dp; show A.depth + 1 + 3 * n < _; omega, by have := h.un; show A.units + 3 + 40 * n < _; omega⟩
theorem Dp.le {A : Around} {n m : Nat} (h : Dp A n) (hm : m ≤ n) : Dp A m := ⟨h.hd, by have := h.dp; omega, by have := h.un; omega⟩
theorem Dp.room {A : Around} {n : Nat} (h : Dp A n) : A.depth < recursionLimit := by have := h.dp; omega

noncomputable def Fx.enter (Γ : Fx) (L : Addr) (m : Str → Option V) : Fx := { Γ with L := L, outs := (Γ.L, m) :: Γ.outs }

inductive BindsAre : List (Str × V) → List (Str × Value) → Prop
  | nil : BindsAre [] []
  | cons {x v v' r r'} : V.is v v' → BindsAre r r' → BindsAre ((x, v) :: r) ((x, v') :: r')
theorem BindsAre.append {a a' b b'} (h : BindsAre a a') (k : BindsAre b b') : BindsAre (a ++ b) (a' ++ b') := by
  induction h with
  | nil => exact k
  | cons h _ ih => exact .cons h ih
theorem BindsAre.reverse {a a'} (h : BindsAre a a') : BindsAre a.reverse a'.reverse := by
  induction h with
  | nil => exact .nil
  | cons h _ ih => simp only [List.reverse_cons]; exact ih.append (.cons h .nil)
theorem BindsAre.lookup {a a'} (h : BindsAre a a') {x : Str} {v : V} (e : a.lookup x = some v) : ∃ v', a'.lookup x = some v' ∧ v.is v' := by
  induction h with
  | nil => cases e
  | @cons y v v' r r' h _ ih =>
    simp only [List.lookup_cons] at e ⊢
    cases hx : x == y with
    | true => rw [hx] at e; simp at e; subst e; exact ⟨_, rfl, h⟩
    | false => rw [hx] at e; exact ih e

section
variable {prog : Program} {w : World} {K : Type} [DecidableEq K] {knd : PySem.KeyKind prog w K} {Γ : Fx} {σ : MS K} {A : Around} {env : Env} {α : Type}

theorem Rel.leave {L : Addr} {m : Str → Option V} {s : Shared} {σ' : MS K} (R : Rel knd (Γ.enter L m) σ' s) (bL : Γ.B Γ.L = none) (bO : ∀ p ∈ Γ.outs, Γ.B p.1 = none) (lO : ∀ p ∈ Γ.outs, p.1 ≠ Γ.L) : Rel knd Γ ⟨m, σ'.h⟩ s where
  keep := R.keep
  rest := R.rest
  cur := R.out (Γ.L, m) (.head _)
  out := fun p hp => R.out p (.tail _ hp)
  obj := R.obj
  bL := bL
  bO := bO
  bH := R.bH
  lO := lO
  hL := R.hO (Γ.L, m) (.head _)
  hO := fun p hp => R.hO p (.tail _ hp)

theorem Rel.entered {s : Shared} (R : Rel knd Γ σ s) {L : Addr} {h' : Heap} {tk : Nat} {m' : Str → Option V} (hL : s.heap.get? L = none) (hn : NsAt h' L m') (e : ∀ b o, s.heap.get? b = some o → h'.get? b = some o) :
    Rel knd (Γ.enter L σ.m) ⟨m', σ.h⟩ { s with heap := h', toks := tk } where
  keep := fun b o q => e b o (R.keep b o q)
  rest := by rw [R.rest]; rfl
  cur := hn
  out := fun p hp => by
    rcases List.mem_cons.mp hp with rfl | hp
    · exact R.cur.ext (e _)
    · exact (R.out p hp).ext (e _)
  obj := fun a o q => let ⟨ob, h1, h2⟩ := R.obj a o q; ⟨ob, e _ _ h1, h2⟩
  bL := by
    cases h : Γ.B L with
    | none => exact h
    | some o => have := R.keep _ _ h; rw [hL] at this; cases this
  bO := fun p hp => by
    rcases List.mem_cons.mp hp with rfl | hp
    · exact R.bL
    · exact R.bO p hp
  bH := R.bH
  lO := fun p hp x => by
    rcases List.mem_cons.mp hp with rfl | hp
    · obtain ⟨o, ho⟩ := R.cur.get
      have x' : Γ.L = L := x
      rw [x', hL] at ho; cases ho
    · obtain ⟨o, ho⟩ := (R.out p hp).get
      have x' : p.1 = L := x
      rw [x', hL] at ho; cases ho
  hL := by
    show σ.h L = none
    cases h : σ.h L with
    | none => rfl
    | some o => obtain ⟨ob, h1, _⟩ := R.obj _ _ h; rw [hL] at h1; cases h1
  hO := fun p hp => by
    rcases List.mem_cons.mp hp with rfl | hp
    · exact R.hL
    · exact R.hO p hp

theorem m_While {test : Expr} {body orelse : List Stmt} {pos : Pos} {Q : Flow → MS K → Prop} (I : Nat → MS K → Prop) {n : Nat} (h0 : I n σ)
    (turn : ∀ n σ, I n σ → mwp knd Γ A (isTrue test env (eval test env)) (whileQ knd Γ A body orelse env (fun σ₂ => ∃ m, m < n ∧ I m σ₂) Q) σ) : mwp knd Γ A (exec (.While test body orelse pos) env) Q σ := fun s E R => by
  refine wpAny_While (codeAny_whileLoop (fun n s => ∃ σ, Rel knd Γ σ s ∧ I n σ) (fun n s ⟨σ, R, hI⟩ => ?_) n ⟨σ, R, h0⟩)
  refine (turn n σ hI).use R fun b s₁ σ₁ R₁ q => ?_
  cases b with
  | true =>
    simp only [if_true] at q ⊢
    refine q.use R₁ fun f s₂ σ₂ R₂ q => ?_
    cases f with
    | next => obtain ⟨m, hm, hi⟩ := q; exact ⟨m, hm, σ₂, R₂, hi⟩
    | cont => obtain ⟨m, hm, hi⟩ := q; exact ⟨m, hm, σ₂, R₂, hi⟩
    | brk => exact ⟨σ₂, R₂, q⟩
    | ret v => exact ⟨σ₂, R₂, q⟩
  | false =>
    simp only [Bool.false_eq_true, if_false] at q ⊢
    exact q.use R₁ fun f s₂ σ₂ R₂ q => ⟨σ₂, R₂, q⟩

structure Yields (knd : PySem.KeyKind prog w K) (A : Around) (x : Value) (xs : List V) (ok : MS K → Prop) (It : Nat → Obj → Prop) : Prop where
  start : ∀ (Γ : Fx) (σ : MS K) (s : Shared) (Q : Value → Shared → Prop) (E : Value → Shared → Prop), Rel knd Γ σ s → ok σ →
    (∀ I h' tk ob, s.heap.get? I = none → (∀ b o, s.heap.get? b = some o → h'.get? b = some o) → h'.get? I = some ob → It 0 ob → Q (.ref I) { s with heap := h', toks := tk }) → wpAny (model prog w) A (pyIter x) Q E s
  again : ∀ (Γ : Fx) (σ : MS K) (s : Shared) (Q : Value → Shared → Prop) (E : Value → Shared → Prop) (I : Addr) (ob : Obj), Rel knd Γ σ s → ok σ → s.heap.get? I = some ob → It 0 ob → Q (.ref I) s → wpAny (model prog w) A (pyIter (.ref I)) Q E s
  item : ∀ (Γ : Fx) (σ : MS K) (s : Shared) (Q : Option Value → Shared → Prop) (E : Value → Shared → Prop) (I : Addr) (ob : Obj) (i : Nat) (v : V), Rel knd Γ σ s → ok σ → σ.h I = none → s.heap.get? I = some ob → It i ob → xs[i]? = some v →
    (∀ v' h' tk ob', v.is v' → (∀ b o, b ≠ I → s.heap.get? b = some o → h'.get? b = some o) → h'.get? I = some ob' → It (i + 1) ob' → Q (some v') { s with heap := h', toks := tk }) → wpAny (model prog w) A (pyNext (.ref I)) Q E s
  done : ∀ (Γ : Fx) (σ : MS K) (s : Shared) (Q : Option Value → Shared → Prop) (E : Value → Shared → Prop) (I : Addr) (ob : Obj), Rel knd Γ σ s → ok σ → σ.h I = none → s.heap.get? I = some ob → It xs.length ob →
    (∀ h' tk, (∀ b o, b ≠ I → s.heap.get? b = some o → h'.get? b = some o) → Q none { s with heap := h', toks := tk }) → wpAny (model prog w) A (pyNext (.ref I)) Q E s

theorem Rel.extBut {s : Shared} (R : Rel knd Γ σ s) {h' : Heap} {tk : Nat} {I : Addr} (hb : Γ.B I = none) (hl : I ≠ Γ.L) (ho : ∀ p ∈ Γ.outs, I ≠ p.1) (hh : σ.h I = none) (e : ∀ b o, b ≠ I → s.heap.get? b = some o → h'.get? b = some o) :
    Rel knd Γ σ { s with heap := h', toks := tk } where
  keep := fun b o q => e b o (fun x => by rw [x, hb] at q; cases q) (R.keep b o q)
  rest := by rw [R.rest]
  cur := R.cur.ext fun o q => e _ _ (fun x => hl x.symm) q
  out := fun p hp => (R.out p hp).ext fun o q => e _ _ (fun x => ho p hp x.symm) q
  obj := fun a o q => let ⟨ob, h1, h2⟩ := R.obj a o q; ⟨ob, e _ _ (fun x => by rw [x, hh] at q; cases q) h1, h2⟩
  bL := R.bL
  bO := R.bO
  bH := R.bH
  lO := R.lO
  hL := R.hL
  hO := R.hO

inductive ForQ (knd : PySem.KeyKind prog w K) (Γ : Fx) (A : Around) (env : Env) (x : Str) (body : List Stmt) (Q : Flow → MS K → Prop) (v : Value) (σ₁ : MS K) : Prop
  | mk (xs : List V) (ok : MS K → Prop) (It : Nat → Obj → Prop) (Y : Yields knd A v xs ok It) (J : Nat → MS K → Prop) (j0 : J 0 σ₁) (jok : ∀ i σ, J i σ → ok σ)
      (step : ∀ i y σ I ob hb, xs[i]? = some y → J i σ → mwp knd (Γ.freeze I ob hb) A (execs body env) (loopQ (J (i + 1)) Q) (σ.store x y)) (fin : ∀ σ, J xs.length σ → Q .next σ)
inductive ForGQ (knd : PySem.KeyKind prog w K) (Γ : Fx) (A : Around) (env : Env) (x : Str) (body : List Stmt) (Q : Flow → MS K → Prop) (v : Value) (σ₁ : MS K) : Prop
  | mk (xs : List V) (ok : MS K → Prop) (It : Nat → Obj → Prop) (Y : Yields knd A v xs ok It) (J : Nat → MS K → Prop) (j0 : J 0 σ₁) (jok : ∀ i σ, J i σ → ok σ)
      (step : ∀ i y v' σ I ob hb, xs[i]? = some y → y.is v' → J i σ → mwp knd (Γ.freeze I ob hb) A (storeName env x v') (fun _ => mwp knd (Γ.freeze I ob hb) A (execs body env) (loopQ (J (i + 1)) Q)) σ) (fin : ∀ σ, J xs.length σ → Q .next σ)
theorem m_ForG {x : Str} {px pos : Pos} {iter : Expr} {body : List Stmt} {Q : Flow → MS K → Prop} (h : mwp knd Γ A (eval iter env) (ForGQ knd Γ A env x body Q) σ) (hs : ∀ x, foldedSetIterable iter env x = pure x) :
    mwp knd Γ A (exec (.For (.Name x px) iter body [] pos) env) Q σ := fun s E R => by
  refine wpAny_For (h.use R fun v s₁ σ₁ R₁ ⟨xs, ok, It, Y, J, j0, jok, step, fin⟩ => Y.start Γ σ₁ s₁ _ _ R₁ (jok _ _ j0) fun I h' tk ob hI ext gI i0 => ?_) hs
  have R₂ := R₁.ext (tk := tk) ext
  have fr : ∀ b, s₁.heap.get? b ≠ none → b ≠ I := fun b hb x => hb (x ▸ hI)
  have bI : Γ.B I = none := by
    cases q : Γ.B I with
    | none => rfl
    | some o => exact absurd rfl (fr I (by rw [R₁.keep _ _ q]; intro z; cases z))
  have lI : I ≠ Γ.L := fun x => by obtain ⟨o, ho⟩ := R₁.cur.get; rw [← x, hI] at ho; cases ho
  have oI : ∀ p ∈ Γ.outs, I ≠ p.1 := fun p hp x => by obtain ⟨o, ho⟩ := (R₁.out p hp).get; rw [← x, hI] at ho; cases ho
  have hI' : ∀ σ s ob, Rel knd (Γ.freeze I ob bI) σ s → σ.h I = none := fun σ s ob R => by
    cases q : σ.h I with
    | none => rfl
    | some o => have := R.bH _ _ q; simp only [Fx.freeze, put] at this; simp at this
  have h1 : σ₁.h I = none := by
    cases q : σ₁.h I with
    | none => rfl
    | some o => obtain ⟨ob, h1, _⟩ := R₁.obj _ _ q; rw [hI] at h1; cases h1
  refine codeAny_forLoop (fun k s' => ∃ i σ ob, Rel knd (Γ.freeze I ob bI) σ s' ∧ J i σ ∧ It i ob ∧ s'.heap.get? I = some ob ∧ i ≤ xs.length ∧ k = xs.length + 1 - i) ?_ (xs.length + 1) ⟨0, σ₁, ob, R₂.freeze gI bI lI oI h1, j0, i0, gI, Nat.zero_le _, rfl⟩
  rintro k s' ⟨i, σ', ob, R', hJ, hi, gI', hle, rfl⟩
  have hI1 := hI' _ _ _ R'
  by_cases hlt : i < xs.length
  · obtain ⟨y, hy⟩ : ∃ y, xs[i]? = some y := ⟨xs[i], by simp [hlt]⟩
    refine Y.item Γ σ' s' _ _ I ob i y R'.thaw (jok _ _ hJ) hI1 gI' hi hy fun v' h₁ tk₁ ob₁ hv e₁ g₁ i₁ => ?_
    have R₃ : Rel knd (Γ.freeze I ob₁ bI) σ' { s' with heap := h₁, toks := tk₁ } := (R'.thaw.extBut bI lI oI hI1 e₁).freeze g₁ bI lI oI hI1
    refine wpAny_assign_Name ?_
    refine (step i y v' σ' I ob₁ bI hy hv hJ).use R₃ fun _ s₂ σ₂ R₄ q => ?_
    refine q.use R₄ fun f s₃ σ₃ R₅ q => ?_
    cases f with
    | next => exact ⟨xs.length + 1 - (i + 1), by omega, i + 1, σ₃, ob₁, R₅, q, i₁, R₅.keep I ob₁ (by simp [Fx.freeze, put]), hlt, rfl⟩
    | cont => exact ⟨xs.length + 1 - (i + 1), by omega, i + 1, σ₃, ob₁, R₅, q, i₁, R₅.keep I ob₁ (by simp [Fx.freeze, put]), hlt, rfl⟩
    | brk => exact ⟨σ₃, R₅.thaw, q⟩
    | ret v => exact ⟨σ₃, R₅.thaw, q⟩
  · have hin : i = xs.length := by omega
    subst hin
    refine Y.done Γ σ' s' _ _ I ob R'.thaw (jok _ _ hJ) hI1 gI' hi fun h₁ tk₁ e₁ => wpAny_execs_nil ?_
    exact ⟨σ', R'.thaw.extBut bI lI oI hI1 e₁, fin σ' hJ⟩
theorem m_For {x : Str} {px pos : Pos} {iter : Expr} {body : List Stmt} {Q : Flow → MS K → Prop} (h : mwp knd Γ A (eval iter env) (ForQ knd Γ A env x body Q) σ)
    (hs : ∀ x, foldedSetIterable iter env x = pure x) (hk : env.scope.kind = .function) (hl : env.kindOf x = some .local) (he : env.locals = Γ.L) :
    mwp knd Γ A (exec (.For (.Name x px) iter body [] pos) env) Q σ :=
  m_ForG (mwp_mono h fun v σ₁ ⟨xs, ok, It, Y, J, j0, jok, step, fin⟩ => ⟨xs, ok, It, Y, J, j0, jok, fun i y v' σ I ob hb hy hv hJ => m_store hv (step i y σ I ob hb hy hJ) hk hl he, fin⟩) hs
end
end Mine
end
section
open PySem PySem.W PyProof.Rows
set_option maxHeartbeats 400000
namespace Mine
section
variable {prog : Program} {w : World} {K : Type} [DecidableEq K] {knd : PySem.KeyKind prog w K} {Γ : Fx} {σ : MS K} {A : Around} {env : Env} {α : Type} {s : Shared}

theorem Rel.listX (R : Rel knd Γ σ s) {a : Addr} {xs : List V} (h : σ.h a = some (.list xs)) : ∃ vs n, s.heap.get? a = some { cls := .type "list", data := .seq vs n } ∧ Are xs vs.toList := by
  obtain ⟨o, e, vs, n, d, q⟩ := R.obj a _ h
  exact ⟨vs, n, d ▸ e, q⟩
theorem Rel.tupleX (R : Rel knd Γ σ s) {a : Addr} {xs : List V} (h : σ.h a = some (.tuple xs)) : ∃ vs n, s.heap.get? a = some { cls := .type "tuple", data := .seq vs n } ∧ Are xs vs.toList := by
  obtain ⟨o, e, vs, n, d, q⟩ := R.obj a _ h
  exact ⟨vs, n, d ▸ e, q⟩
theorem Rel.list (R : Rel knd Γ σ s) {a : Addr} {xs : List V} (h : σ.h a = some (.list xs)) : ∃ vs, s.heap.IsList a vs ∧ Are xs vs.toList := by
  obtain ⟨vs, n, e, q⟩ := R.listX h
  exact ⟨vs, ⟨_, e, rfl, n, rfl⟩, q⟩
theorem Rel.tuple (R : Rel knd Γ σ s) {a : Addr} {xs : List V} (h : σ.h a = some (.tuple xs)) : ∃ vs, s.heap.IsTuple a vs ∧ Are xs vs.toList := by
  obtain ⟨vs, n, e, q⟩ := R.tupleX h
  exact ⟨vs, ⟨_, e, rfl, n, rfl⟩, q⟩
theorem Rel.dict (R : Rel knd Γ σ s) {a : Addr} {kvs : List (K × V)} {ep : Nat} (h : σ.h a = some (.dict kvs ep)) : ∃ kvs', s.heap.DictAt knd a kvs' ep ∧ PairsAre kvs kvs' := by
  obtain ⟨o, e, es, kvs', x, d, k, p, n, q⟩ := R.obj a _ h
  exact ⟨kvs', ⟨o, es, e, x, d, k, p, n⟩, q⟩
theorem PairsAre.length : ∀ {a : List (K × V)} {b : List (K × Value)}, PairsAre a b → a.length = b.length
  | [], [], _ => rfl
  | (_, _) :: r, (_, _) :: r', h => by simp [PairsAre.length h.2.2]
  | [], _ :: _, h => h.elim
  | _ :: _, [], h => h.elim
theorem PairsAre.get : ∀ {a : List (K × V)} {b : List (K × Value)} {i : Nat} {k : K} {v : V}, PairsAre a b → a[i]? = some (k, v) → ∃ v', b[i]? = some (k, v') ∧ v.is v'
  | (_, _) :: r, (_, _) :: r', 0, _, _, h, e => by simp at e; obtain ⟨rfl, rfl⟩ := e; obtain ⟨rfl, h2, _⟩ := h; exact ⟨_, rfl, h2⟩
  | (_, _) :: r, (_, _) :: r', i + 1, _, _, h, e => by simpa using PairsAre.get h.2.2 (by simpa using e)
  | [], _, _, _, _, _, e => by simp at e
  | _ :: _, [], _, _, _, h, _ => h.elim

theorem noneAt {h : Heap} : h.get? h.objs.size = none := by
  cases q : h.get? h.objs.size with
  | none => rfl
  | some o => exact absurd (Heap.lt_size q) (Nat.lt_irrefl _)

theorem yields_list (hh : A.handled = none) {ax : Addr} {xs : List V} : Yields knd A (.ref ax) xs (fun σ => σ.h ax = some (.list xs)) (fun i ob => ob.cls = .type "list_iterator" ∧ ob.data = .fields #[.ref ax, .int i 0]) where
  start := fun Γ σ s Q E R ok k => by
    obtain ⟨vs, hl, _⟩ := R.list ok
    exact wpAny_pyIter_list hl (k _ _ s.toks _ noneAt (fun b o e => Heap.get?_push_of_some _ e) (Heap.get?_push_size _ rfl) ⟨rfl, rfl⟩)
  again := fun Γ σ s Q E I ob R ok g i q => wpAny_pyIter_listiter (i := 0) (l := ax) ⟨ob, g, i.1, i.2⟩ q
  item := fun Γ σ s Q E I ob i v R ok hI g it hv k => by
    obtain ⟨vs, hl, ar⟩ := R.list ok
    obtain ⟨v', e, iv⟩ := ar.get hv
    exact wpAny_pyNext_list_item (i := i) (l := ax) ⟨ob, g, it.1, it.2⟩ hl (by simpa using e) fun h' ⟨o', g', c', d'⟩ sb => k v' h' s.toks o' iv (fun b o hb q => (sb.2 b hb).trans q) g' ⟨c', d'⟩
  done := fun Γ σ s Q E I ob R ok hI g it k => by
    obtain ⟨vs, hl, ar⟩ := R.list ok
    exact wpAny_pyNext_list_end hh (i := xs.length) (l := ax) ⟨ob, g, it.1, it.2⟩ hl (by simp [ar.length]) fun h' e => k h' s.toks fun b o hb q => e b o hb q

theorem yields_tuple (hh : A.handled = none) {ax : Addr} {xs : List V} : Yields knd A (.ref ax) xs (fun σ => σ.h ax = some (.tuple xs)) (fun i ob => ob.cls = .type "tuple_iterator" ∧ ob.data = .fields #[.ref ax, .int i 0]) where
  start := fun Γ σ s Q E R ok k => by
    obtain ⟨vs, hl, _⟩ := R.tuple ok
    exact wpAny_pyIter_tuple hl (k _ _ s.toks _ noneAt (fun b o e => Heap.get?_push_of_some _ e) (Heap.get?_push_size _ rfl) ⟨rfl, rfl⟩)
  again := fun Γ σ s Q E I ob R ok g i q => wpAny_pyIter_tupleiter (i := 0) (t := ax) ⟨ob, g, i.1, i.2⟩ q
  item := fun Γ σ s Q E I ob i v R ok hI g it hv k => by
    obtain ⟨vs, hl, ar⟩ := R.tuple ok
    obtain ⟨v', e, iv⟩ := ar.get hv
    exact wpAny_pyNext_tuple_item (i := i) (t := ax) ⟨ob, g, it.1, it.2⟩ hl (by simpa using e) fun h' ⟨o', g', c', d'⟩ sb => k v' h' s.toks o' iv (fun b o hb q => (sb.2 b hb).trans q) g' ⟨c', d'⟩
  done := fun Γ σ s Q E I ob R ok hI g it k => by
    obtain ⟨vs, hl, ar⟩ := R.tuple ok
    exact wpAny_pyNext_tuple_end hh (i := xs.length) (t := ax) ⟨ob, g, it.1, it.2⟩ hl (by simp [ar.length]) fun h' e => k h' s.toks fun b o hb q => e b o hb q

theorem yields_bytes (hh : A.handled = none) {b : Array UInt8} {t : Tok} : Yields knd A (.bytes b t) (b.toList.map fun c => .int (c.toNat : Int)) (fun _ => True) (fun i ob => ob.cls = .type "bytes_iterator" ∧ ob.data = .fields #[.bytes b t, .int i 0]) where
  start := fun Γ σ s Q E R ok k => KBw.pyIter_bytes (k _ _ s.toks _ noneAt (fun b o e => Heap.get?_push_of_some _ e) (Heap.get?_push_size _ rfl) ⟨rfl, rfl⟩)
  again := fun Γ σ s Q E I ob R ok g i q => KBw.pyIter_self (i := 0) (b := b) (t := t) ⟨ob, g, i.1, i.2⟩ q
  item := fun Γ σ s Q E I ob i v R ok hI g it hv k => by
    rw [List.getElem?_map] at hv
    cases hc : b.toList[i]? with
    | none => rw [hc] at hv; cases hv
    | some c =>
      rw [hc] at hv; cases hv
      exact KBw.next_item (i := i) (b := b) (t := t) ⟨ob, g, it.1, it.2⟩ (by simpa using hc) fun h' ⟨o', g', c', d'⟩ sb => k _ h' _ o' ⟨_, rfl⟩ (fun b o hb q => (sb.2 b hb).trans q) g' ⟨c', d'⟩
  done := fun Γ σ s Q E I ob R ok hI g it k => by
    exact KBw.next_end hh (i := b.size) (b := b) (t := t) ⟨ob, g, it.1, by simpa using it.2⟩ (by simp) fun h' e => k h' s.toks fun b o hb q => e b o hb q

theorem yields_range (hh : A.handled = none) {r : Addr} {a b c : Int} (n : Nat) (hs : Builtin.Range.small a b c = true) (hn : Builtin.Range.rangeSize a b c = (n : Int)) :
    Yields knd A (.ref r) ((List.range n).map fun i => V.int (a + (i : Nat) * c)) (fun σ => σ.h r = some (.range a b c)) (fun i ob => ob = { cls := .type "range_iterator", dict := none, data := .fields #[rawInt (a + (i : Int) * c), rawInt ((n : Int) - i), rawInt c], slots := #[] }) where
  start := fun Γ σ s Q E R ok k => by
    obtain ⟨o, e, t, u, v, rfl⟩ := R.obj r _ ok
    refine wpAny_pyIter_range e hs (k _ _ s.toks _ noneAt (fun b o e => Heap.get?_push_of_some _ e) (Heap.get?_push_size _ rfl) ?_)
    rw [hn]; simp
  again := fun Γ σ s Q E I ob R ok g i q => by subst i; exact wpAny_pyIter_rangeiter g q
  item := fun Γ σ s Q E I ob i v R ok hI g it hv k => by
    subst it
    have hi : i < n := by
      rcases Nat.lt_or_ge i n with h | h
      · exact h
      · simp [h] at hv
    have hv' : v = .int (a + (i : Int) * c) := by simp [hi] at hv; exact hv.symm
    subst hv'
    refine wpAny_pyNext_range_item g (by lia) fun h' it' sb => k _ h' _ _ ⟨_, rfl⟩ (fun b o hb q => (sb.2 b hb).trans q) it' ?_
    have e1 : a + ((i + 1 : Nat) : Int) * c = a + (i : Int) * c + c := by push_cast; rw [Int.add_mul, Int.one_mul, Int.add_assoc]
    have e2 : (n : Int) - ((i + 1 : Nat) : Int) = (n : Int) - (i : Int) - 1 := by push_cast; lia
    rw [e1, e2]
  done := fun Γ σ s Q E I ob R ok hI g it k => by
    subst it
    exact wpAny_pyNext_range_end hh g (by simp) fun h' e => k h' s.toks fun b o hb q => e b o hb q

theorem yields_keys (hh : A.handled = none) {kv : K → V} (hkv : ∀ k v, knd.is k v = true → (kv k).is v) {d : Addr} {kvs : List (K × V)} {ep : Nat} (hd : (d == sysModules) = false) :
    Yields knd A (.ref d) (kvs.map fun p => kv p.1) (fun σ => σ.h d = some (.dict kvs ep)) (fun i ob => ob.cls = .type "dict_keyiterator" ∧ ob.data = .fields #[.ref d, .int i 0, .int kvs.length 0, .int ep 0]) where
  start := fun Γ σ s Q E R ok k => by
    obtain ⟨kvs', hm, pa⟩ := R.dict ok
    exact wpAny_pyIter_dict hd hm (k _ _ s.toks _ noneAt (fun b o e => Heap.get?_push_of_some _ e) (Heap.get?_push_size _ rfl) ⟨rfl, by rw [pa.length]; rfl⟩)
  again := fun Γ σ s Q E I ob R ok g i q => wpAny_pyIter_keyiter (i := 0) (d := d) ⟨ob, g, i.1, i.2⟩ q
  item := fun Γ σ s Q E I ob i v R ok hI g it hv k => by
    obtain ⟨kvs', hm, pa⟩ := R.dict ok
    rw [List.getElem?_map] at hv
    cases hc : kvs[i]? with
    | none => rw [hc] at hv; cases hv
    | some p =>
      obtain ⟨k0, v0⟩ := p
      rw [hc] at hv; cases hv
      obtain ⟨v', e, iv⟩ := pa.get hc
      refine wpAny_pyNext_dict_item (i := i) (d := d) (ep := ep) ⟨ob, g, it.1, by rw [← pa.length]; exact it.2⟩ hm e fun key h' hk ⟨o', g', c', d'⟩ sb => k _ h' s.toks o' (hkv _ _ hk) (fun b o hb q => (sb.2 b hb).trans q) g' ⟨c', by rw [pa.length]; exact d'⟩
  done := fun Γ σ s Q E I ob R ok hI g it k => by
    obtain ⟨kvs', hm, pa⟩ := R.dict ok
    exact wpAny_pyNext_dict_end hh (i := kvs.length) (d := d) (ep := ep) ⟨ob, g, it.1, by rw [← pa.length]; simpa using it.2⟩ hm (by simp [pa.length]) fun h' e => k h' s.toks fun b o hb q => e b o hb q

theorem yields_values (hh : A.handled = none) {v d : Addr} {kvs : List (K × V)} {ep : Nat} :
    Yields knd A (.ref v) (kvs.map (·.2)) (fun σ => σ.h d = some (.dict kvs ep) ∧ σ.h v = some (.values d)) (fun i ob => ob.cls = .type "dict_valueiterator" ∧ ob.data = .fields #[.ref d, .int i 0, .int kvs.length 0, .int ep 0]) where
  start := fun Γ σ s Q E R ok k => by
    obtain ⟨kvs', hm, pa⟩ := R.dict ok.1
    obtain ⟨o, e, c, dd⟩ := R.obj v _ ok.2
    exact wpAny_pyIter_values ⟨o, e, c, dd⟩ hm (k _ _ s.toks _ noneAt (fun b o e => Heap.get?_push_of_some _ e) (Heap.get?_push_size _ rfl) ⟨rfl, by rw [pa.length]; rfl⟩)
  again := fun Γ σ s Q E I ob R ok g i q => wpAny_pyIter_valiter (i := 0) (d := d) ⟨ob, g, i.1, i.2⟩ q
  item := fun Γ σ s Q E I ob i v R ok hI g it hv k => by
    obtain ⟨kvs', hm, pa⟩ := R.dict ok.1
    rw [List.getElem?_map] at hv
    cases hc : kvs[i]? with
    | none => rw [hc] at hv; cases hv
    | some p =>
      obtain ⟨k0, v0⟩ := p
      rw [hc] at hv; cases hv
      obtain ⟨v', e, iv⟩ := pa.get hc
      refine wpAny_pyNext_values_item (i := i) (d := d) (ep := ep) ⟨ob, g, it.1, by rw [← pa.length]; exact it.2⟩ hm e fun h' ⟨o', g', c', d'⟩ sb => k _ h' s.toks o' iv (fun b o hb q => (sb.2 b hb).trans q) g' ⟨c', by rw [pa.length]; exact d'⟩
  done := fun Γ σ s Q E I ob R ok hI g it k => by
    obtain ⟨kvs', hm, pa⟩ := R.dict ok.1
    exact wpAny_pyNext_values_end hh (i := kvs.length) (d := d) (ep := ep) ⟨ob, g, it.1, by rw [← pa.length]; simpa using it.2⟩ hm (by simp [pa.length]) fun h' e => k h' s.toks fun b o hb q => e b o hb q
end
end Mine
end
section
open PySem PySem.W PyProof.Rows
set_option maxHeartbeats 400000
namespace Mine
section
variable {prog : Program} {w : World} {K : Type} [DecidableEq K] {knd : PySem.KeyKind prog w K} {Γ : Fx} {σ : MS K} {A : Around} {env : Env} {α : Type} {s : Shared}

noncomputable abbrev cenvOf (scope : Scope) (env : Env) (C : Addr) (cl : List (Str × Addr)) : Env :=
  { scope := relabel scope env, locals := C, globals := env.globals, cells := cl, qual := env.qual, func := none, code := env.code, frame := env.frame, builtins := env.builtins }

noncomputable def mTests (knd : PySem.KeyKind prog w K) (Γ : Fx) (A : Around) (cenv : Env) : List Expr → (Bool → MS K → Prop) → MS K → Prop
  | [], Q, σ => Q true σ
  | [c], Q, σ => mwp knd Γ A (isTrue c cenv (eval c cenv)) Q σ
  | _, _, _ => False

theorem mTests.use {cenv : Env} {ifs : List Expr} {Q : Bool → MS K → Prop} {P : Bool → Shared → Prop} {E : Value → Shared → Prop} (h : mTests knd Γ A cenv ifs Q σ) (R : Rel knd Γ σ s) (k : ∀ b s' σ', Rel knd Γ σ' s' → Q b σ' → P b s') :
    wpAny (model prog w) A (forIn ifs true fun c r => if r = true then do let ok ← isTrue c cenv (eval c cenv); pure (ForInStep.yield ok) else pure (ForInStep.yield r)) P E s := by
  match ifs, h with
  | [], h => exact wpAny_tests_nil (k _ _ _ R h)
  | [c], h => exact wpAny_tests_one (mwp.use h R k)
  | _ :: _ :: _, h => exact h.elim

theorem Rel.own {a : Addr} {ob : Obj} {hb : Γ.B a = none} {o : O K} (R : Rel knd (Γ.freeze a ob hb) σ s) (io : o.is knd ob) : Rel knd Γ (σ.set a o) s := by
  have g : s.heap.get? a = some ob := R.keep a ob (by simp [Fx.freeze, put])
  have R' := R.thaw
  have hl : a ≠ Γ.L := fun x => by have := R.bL; simp only [Fx.freeze, put] at this; rw [if_pos x.symm] at this; cases this
  have ho : ∀ p ∈ Γ.outs, a ≠ p.1 := fun p hp x => by have := R.bO p hp; simp only [Fx.freeze, put] at this; rw [if_pos x.symm] at this; cases this
  have := R'.new (h' := s.heap) (tk := s.toks) (o := o) hb hl ho (fun _ _ _ e => e) g io
  exact this

theorem Rel.frozenL {a : Addr} {ob : Obj} {hb : Γ.B a = none} (R : Rel knd (Γ.freeze a ob hb) σ s) : a ≠ Γ.L := fun x => by have := R.bL; simp only [Fx.freeze, put] at this; rw [if_pos x.symm] at this; cases this
theorem Rel.frozenO {a : Addr} {ob : Obj} {hb : Γ.B a = none} (R : Rel knd (Γ.freeze a ob hb) σ s) : ∀ p ∈ Γ.outs, a ≠ p.1 := fun p hp x => by have := R.bO p hp; simp only [Fx.freeze, put] at this; rw [if_pos x.symm] at this; cases this
theorem Rel.frozenH {a : Addr} {ob : Obj} {hb : Γ.B a = none} (R : Rel knd (Γ.freeze a ob hb) σ s) : σ.h a = none := by
  cases q : σ.h a with
  | none => rfl
  | some o => have := R.bH _ _ q; simp only [Fx.freeze, put] at this; simp at this
theorem Rel.frozenG {a : Addr} {ob : Obj} {hb : Γ.B a = none} (R : Rel knd (Γ.freeze a ob hb) σ s) : s.heap.get? a = some ob := R.keep a ob (by simp [Fx.freeze, put])

theorem freeze_none {a b : Addr} {ob : Obj} {hb : Γ.B a = none} (h : Γ.B b = none) (hne : b ≠ a) : (Γ.freeze a ob hb).B b = none := by
  simp only [Fx.freeze, put]; rw [if_neg hne]; exact h

inductive CompQ (knd : PySem.KeyKind prog w K) (Γ : Fx) (A : Around) (env : Env) (elt : Expr) (x : Str) (ifs : List Expr) (scope : Scope) (cl : List (Str × Addr)) (F : MS K → List V → (Addr → Option (O K)) → Addr → Prop) (v : Value) (σ₁ : MS K) : Prop
  | mk (xs : List V) (ok : MS K → Prop) (It : Nat → Obj → Prop) (Y : Yields knd A v xs ok It) (hlen : xs.length ≤ sizeLine) (J : Nat → List V → (Addr → Option (O K)) → Prop) (j0 : J 0 [] σ₁.h) (jok : ∀ i ys hp m, J i ys hp → ok ⟨m, hp⟩) (jlen : ∀ i ys hp, J i ys hp → ys.length ≤ i)
      (step : ∀ i y ys hp C I ob hb D od hd, xs[i]? = some y → J i ys hp →
        mTests knd (((Γ.enter C σ₁.m).freeze I ob hb).freeze D od hd) A (cenvOf scope env C cl) ifs (fun b σ₂ => if b then mwp knd (((Γ.enter C σ₁.m).freeze I ob hb).freeze D od hd) A (eval elt (cenvOf scope env C cl)) (fun e σ₃ => ∃ e', V.is e' e ∧ J (i + 1) (ys ++ [e']) σ₃.h) σ₂
          else J (i + 1) ys σ₂.h) ⟨fun z => if z = x then some y else none, hp⟩)
      (fin : ∀ ys hp D, J xs.length ys hp → hp D = none → F σ₁ ys hp D)
structure CompIn (knd : PySem.KeyKind prog w K) (Γ : Fx) (σ₁ : MS K) (C I D : Addr) (ob : Obj) (s : Shared) : Prop where
  bI : (Γ.enter C σ₁.m).B I = none
  bD : Γ.B D = none
  hDI : D ≠ I
  hCD : D ≠ C
  hCI : I ≠ C
  oI : ∀ p ∈ (Γ.enter C σ₁.m).outs, I ≠ p.1
  oD : ∀ p ∈ (Γ.enter C σ₁.m).outs, D ≠ p.1
  R : Rel knd (Γ.enter C σ₁.m) ⟨fun _ => none, σ₁.h⟩ s
  gI : s.heap.get? I = some ob
  gD : s.heap.get? D = some { cls := .type "list", data := .seq (#[] : Array Value) }
  hI : σ₁.h I = none
  hD : σ₁.h D = none
theorem comp_pre {elt iter : Expr} {x : Str} {px : Pos} {ifs : List Expr} {gs : List Comprehension} {scope : Scope} {pos pos' : Pos} {cl : List (Str × Addr)} {use : Option (Value → Sem Unit)} {P : Value → Shared → Prop} {E : Value → Shared → Prop}
    (hclos : closureFor scope env = pure cl) (hcell : ∀ y ∈ scope.names, y.2 ≠ .cell) (hkind : scope.kind = .function) (hnames : ∀ y ∈ scope.names, y.2 = .local → scope.names.lookup y.1 = some .local) (hs : ∀ x, foldedSetIterable iter env x = pure x)
    (h : mwp knd Γ A (eval iter env) (fun v σ₁ => ∃ (xs : List V) (ok : MS K → Prop) (It : Nat → Obj → Prop), Yields knd A v xs ok It ∧ ok σ₁ ∧ ∀ C I D ob s, CompIn knd Γ σ₁ C I D ob s → It 0 ob →
      codeAny (model prog w) A (.compLoop (.ListComp elt (⟨.Name x px, iter, ifs, 0⟩ :: gs) scope pos) 0 (.ref I) (.ref D) (cenvOf scope env C cl)) (compPost (model prog w) A E use P (.ref D) C) s) σ)
    (R : Rel knd Γ σ s) :
    wpAny (model prog w) A (comprehension (.ListComp elt (⟨.Name x px, iter, ifs, 0⟩ :: gs) scope pos) scope env pos' (newList []) false (eval iter env) use) P E s := by
  refine wpAny_comprehension_free rfl hs hclos hkind hnames (h.use R fun v s₁ σ₁ R₁ ⟨xs, ok, It, Y, o0, lp⟩ => Y.start Γ σ₁ s₁ _ _ R₁ o0 fun I h' tk ob hI ext gI i0 => ?_)
  -- the accumulator
  have R₂ : Rel knd Γ σ₁ { s₁ with heap := h', toks := tk } := R₁.ext ext
  have bI : Γ.B I = none := by
    cases q : Γ.B I with
    | none => rfl
    | some o => have := R₁.keep _ _ q; rw [hI] at this; cases this
  have lI : I ≠ Γ.L := fun x => by obtain ⟨o, ho⟩ := R₁.cur.get; rw [← x, hI] at ho; cases ho
  have oI : ∀ p ∈ Γ.outs, I ≠ p.1 := fun p hp x => by obtain ⟨o, ho⟩ := (R₁.out p hp).get; rw [← x, hI] at ho; cases ho
  have h1 : σ₁.h I = none := by
    cases q : σ₁.h I with
    | none => rfl
    | some o => obtain ⟨ob, h1, _⟩ := R₁.obj _ _ q; rw [hI] at h1; cases h1
  refine wpAny_newObj_type ?_ (by size_fits)
  generalize hD : ({ s₁ with heap := h', toks := tk } : Shared).heap.objs.size = D
  have gD : (h'.push { cls := .type "list", data := .seq (#[] : Array Value) }).get? D = some { cls := .type "list", data := .seq #[] } := by rw [← hD]; exact Heap.get?_push_size _ rfl
  have hDn : h'.get? D = none := by rw [← hD]; exact noneAt
  have hDI : D ≠ I := fun x => by rw [x, gI] at hDn; cases hDn
  refine wpAny_newFunctionEnv hcell (fun x hx => (nomatch hx)) (fun h₄ ns sb => ?_) hkind
  -- the comprehension's own frame
  generalize hC : ({ s₁ with heap := h'.push { cls := .type "list", data := .seq #[] }, toks := tk } : Shared).heap.objs.size = C at ns sb
  have hCn : (h'.push { cls := .type "list", data := .seq (#[] : Array Value) }).get? C = none := by rw [← hC]; exact noneAt
  have hCD : D ≠ C := fun x => by rw [← x, gD] at hCn; cases hCn
  have hCI : I ≠ C := fun x => by rw [← x, Heap.get?_push_of_some _ gI] at hCn; cases hCn
  have ext4 : ∀ b o, (h'.push { cls := .type "list", data := .seq (#[] : Array Value) }).get? b = some o → h₄.get? b = some o := fun b o e =>
    (sb.2 b (fun x => by rw [x, hCn] at e; cases e)).trans (Heap.get?_push_of_some _ e)
  have R₃ : Rel knd Γ σ₁ { s₁ with heap := h'.push { cls := .type "list", data := .seq (#[] : Array Value) }, toks := tk } := R₂.ext (fun b o e => Heap.get?_push_of_some _ e)
  have R₄ : Rel knd (Γ.enter C σ₁.m) ⟨fun _ => none, σ₁.h⟩ { s₁ with heap := h₄, toks := tk } := R₃.entered hCn ⟨_, ns, fun _ _ e => nomatch e⟩ ext4
  have bI' : (Γ.enter C σ₁.m).B I = none := bI
  have oI' : ∀ p ∈ (Γ.enter C σ₁.m).outs, I ≠ p.1 := fun p hp => by
    rcases List.mem_cons.mp hp with rfl | hp
    · exact lI
    · exact oI p hp
  have bD : Γ.B D = none := by
    cases q : Γ.B D with
    | none => rfl
    | some o => have := R₂.keep _ _ q; rw [hDn] at this; cases this
  have lD : D ≠ Γ.L := fun x => by obtain ⟨o, ho⟩ := R₂.cur.get; rw [← x, hDn] at ho; cases ho
  have oD' : ∀ p ∈ (Γ.enter C σ₁.m).outs, D ≠ p.1 := fun p hp => by
    rcases List.mem_cons.mp hp with rfl | hp
    · exact lD
    · exact fun x => by obtain ⟨o, ho⟩ := (R₂.out p hp).get; rw [← x, hDn] at ho; cases ho
  have hDh : σ₁.h D = none := by
    cases q : σ₁.h D with
    | none => rfl
    | some o => obtain ⟨ob, h1, _⟩ := R₂.obj _ _ q; rw [hDn] at h1; cases h1
  have loop := lp C I D ob _ ⟨bI', bD, hDI, hCD, hCI, oI', oD', R₄, ext4 _ _ (Heap.get?_push_of_some _ gI), ext4 _ _ gD, h1, hDh⟩ i0
  refine codeAny_compStart_list loop ?_
  exact Y.again Γ σ₁ _ _ _ I ob (by
    have := R₄.leave R.bL R.bO R.lO
    exact this) o0 (ext4 _ _ (Heap.get?_push_of_some _ gI)) i0 loop

theorem comp_core {elt iter : Expr} {x : Str} {px : Pos} {ifs : List Expr} {scope : Scope} {pos pos' : Pos} {cl : List (Str × Addr)} {use : Option (Value → Sem Unit)} {Q : Value → MS K → Prop} {E : Value → Shared → Prop}
    (hclos : closureFor scope env = pure cl) (hcell : ∀ y ∈ scope.names, y.2 ≠ .cell) (hkind : scope.kind = .function) (hnames : ∀ y ∈ scope.names, y.2 = .local → scope.names.lookup y.1 = some .local)
    (hx : (relabel scope env).names.lookup x = some .local) (hs : ∀ x, foldedSetIterable iter env x = pure x)
    (h : mwp knd Γ A (eval iter env) (CompQ knd Γ A env elt x ifs scope cl (fun σ₁ ys hp D => match use with
        | none => Q (.ref D) ⟨σ₁.m, put hp D (.list ys)⟩
        | some u => ∀ C oc hc, mwp knd (Γ.freeze C oc hc) A (u (.ref D)) (fun _ σ' => Q .none σ') ⟨σ₁.m, put hp D (.list ys)⟩)) σ)
    (R : Rel knd Γ σ s) :
    wpAny (model prog w) A (comprehension (.ListComp elt [⟨.Name x px, iter, ifs, 0⟩] scope pos) scope env pos' (newList []) false (eval iter env) use) (fun a s' => ∃ σ', Rel knd Γ σ' s' ∧ Q a σ') E s := by
  refine comp_pre hclos hcell hkind hnames hs (mwp_mono h fun v σ₁ ⟨xs, ok, It, Y, hlen, J, j0, jok, jlen, step, fin⟩ => ⟨xs, ok, It, Y, jok _ _ _ σ₁.m j0, fun C I D ob s₄ K i0 => ?_⟩) R
  obtain ⟨bI', bD, hDI, hCD, hCI, oI', oD', R₄, gI4, gD4, h1, hDh⟩ := K
  have bDI : ∀ oi, ((Γ.enter C σ₁.m).freeze I oi bI').B D = none := fun oi => freeze_none bD hDI
  refine codeAny_compLoop_tests (fun k s' => ∃ i ys hp m oi od, Rel knd (((Γ.enter C σ₁.m).freeze I oi bI').freeze D od (bDI oi)) ⟨m, hp⟩ s' ∧ J i ys hp ∧ It i oi ∧ (O.list ys : O K).is knd od ∧ i ≤ xs.length ∧ k = xs.length + 1 - i) ?_ (xs.length + 1)
    ⟨0, [], σ₁.h, _, ob, _, (R₄.freeze gI4 bI' hCI oI' h1).freeze gD4 (bDI ob) hCD oD' hDh, j0, i0, ⟨_, _, rfl, .nil⟩, Nat.zero_le _, rfl⟩
  rintro k s' ⟨i, ys, hp, m, oi, od, R', hJ, hi, hod, hle, rfl⟩
  have RI := R'.thaw
  have Rb := RI.thaw
  by_cases hlt : i < xs.length
  · obtain ⟨y, hy⟩ : ∃ y, xs[i]? = some y := ⟨xs[i], by simp [hlt]⟩
    refine Y.item _ ⟨m, hp⟩ s' _ _ I oi i y Rb (jok _ _ _ _ hJ) RI.frozenH RI.frozenG hi hy fun v' h₁ tk₁ ob₁ hv e₁ g₁ i₁ => ?_
    have Ra : Rel knd ((Γ.enter C σ₁.m).freeze I ob₁ bI') ⟨m, hp⟩ { s' with heap := h₁, toks := tk₁ } := (Rb.extBut bI' hCI oI' RI.frozenH e₁).freeze g₁ bI' hCI oI' RI.frozenH
    have Rf : Rel knd (((Γ.enter C σ₁.m).freeze I ob₁ bI').freeze D od (bDI ob₁)) ⟨m, hp⟩ { s' with heap := h₁, toks := tk₁ } := Ra.freeze (e₁ _ _ hDI R'.frozenG) (bDI ob₁) hCD oD' R'.frozenH
    refine wpAny_assign_Name ?_
    refine (m_store (knd := knd) (Γ := ((Γ.enter C σ₁.m).freeze I ob₁ bI').freeze D od (bDI ob₁)) (env := cenvOf scope env C cl) (x := x) (Q := fun _ σ₂ => σ₂ = MS.store ⟨m, hp⟩ x y) hv rfl hkind hx rfl).use Rf ?_
    rintro _ s₂ σ₂ R₅ rfl
    have R₆ := R₅.less (σ' := ⟨fun z => if z = x then some y else none, hp⟩) (fun _ _ e => e) (fun z v e => by
      show putS m x y z = some v
      simp only [putS]
      dsimp only at e
      split at e
      · rename_i q; rw [if_pos q]; exact e
      · cases e)
    refine (step i y ys hp C I ob₁ bI' D od (bDI ob₁) hy hJ).use R₆ fun b s₃ σ₃ R₇ q => ?_
    cases b with
    | false =>
      simp only [Bool.false_eq_true, if_false] at q ⊢
      exact ⟨xs.length + 1 - (i + 1), by omega, i + 1, ys, σ₃.h, σ₃.m, ob₁, od, R₇, q, i₁, hod, hlt, rfl⟩
    | true =>
      simp only [if_true] at q ⊢
      refine q.use R₇ fun e s₄ σ₄ R₈ ⟨e', he', hJ'⟩ => ?_
      obtain ⟨vs, n, rfl, ar⟩ := hod
      have Rt := R₈.thaw
      refine append_at (its := vs) (n := n) R₈.frozenG (fun h₉ sb₉ g₉ => ?_) (by
        have a1 := jlen _ _ _ hJ
        have a2 := ar.length
        have a3 : vs.toList.length = vs.size := Array.length_toList
        rw [← a3, ← a2]
        exact Nat.le_trans a1 (Nat.le_trans (Nat.le_of_lt hlt) hlen))
      refine ⟨xs.length + 1 - (i + 1), by omega, i + 1, ys ++ [e'], σ₄.h, σ₄.m, ob₁, { cls := .type "list", data := .seq (vs.push e) (n + 1) }, ?_, hJ', i₁, ⟨vs.push e, n + 1, rfl, by simpa using ar.push he'⟩, hlt, rfl⟩
      exact (Rt.extBut (bDI ob₁) hCD oD' R₈.frozenH (fun b o hb q => (sb₉.2 b hb).trans q)).freeze g₉ (bDI ob₁) hCD oD' R₈.frozenH
  · have hin : i = xs.length := by omega
    subst hin
    refine Y.done _ ⟨m, hp⟩ s' _ _ I oi Rb (jok _ _ _ _ hJ) RI.frozenH RI.frozenG hi fun h₁ tk₁ e₁ => ?_
    have Ra : Rel knd (Γ.enter C σ₁.m) ⟨m, hp⟩ { s' with heap := h₁, toks := tk₁ } := Rb.extBut bI' hCI oI' RI.frozenH e₁
    have Rd : Rel knd ((Γ.enter C σ₁.m).freeze D od bD) ⟨m, hp⟩ { s' with heap := h₁, toks := tk₁ } := Ra.freeze (e₁ _ _ hDI R'.frozenG) bD hCD oD' R'.frozenH
    have Ro := Rd.own hod
    have Rl : Rel knd Γ ⟨σ₁.m, put hp D (.list ys)⟩ { s' with heap := h₁, toks := tk₁ } := Ro.leave R.bL R.bO R.lO
    have bC : Γ.B C = none := Ro.bL
    have lC : C ≠ Γ.L := fun x => Ro.lO (Γ.L, σ₁.m) (.head _) x.symm
    have oC : ∀ p ∈ Γ.outs, C ≠ p.1 := fun p hp x => Ro.lO p (.tail _ hp) x.symm
    have hCh : put hp D (O.list ys) C = none := Ro.hL
    obtain ⟨mC, nC, _⟩ := Ra.cur
    have fq := fin ys hp D hJ R'.frozenH
    cases use with
    | none => exact ⟨mC, nC, fun h'' sb'' => ⟨_, Rl.extBut (tk := tk₁) bC lC oC hCh fun b o hb q => (sb''.2 b hb).trans q, fq⟩⟩
    | some u =>
      obtain ⟨oc, esC, epC, gC, rC⟩ := id nC
      have Rz : Rel knd (Γ.freeze C oc bC) ⟨σ₁.m, put hp D (.list ys)⟩ { s' with heap := h₁, toks := tk₁ } := Rl.freeze gC bC lC oC hCh
      refine (fq C oc bC).use Rz fun _ s₉ σ₉ R₉ q => ⟨mC, ⟨oc, esC, epC, R₉.frozenG, rC⟩, fun h'' sb'' => ⟨σ₉, ?_, q⟩⟩
      exact R₉.thaw.extBut (tk := s₉.toks) bC lC oC R₉.frozenH fun b o hb q => (sb''.2 b hb).trans q

theorem m_ListComp {elt iter : Expr} {x : Str} {px : Pos} {ifs : List Expr} {scope : Scope} {pos : Pos} {cl : List (Str × Addr)} {Q : Value → MS K → Prop}
    (h : mwp knd Γ A (eval iter env) (CompQ knd Γ A env elt x ifs scope cl (fun σ₁ ys hp D => Q (.ref D) ⟨σ₁.m, put hp D (.list ys)⟩)) σ)
    (hclos : closureFor scope env = pure cl) (hcell : ∀ y ∈ scope.names, y.2 ≠ .cell) (hkind : scope.kind = .function) (hnames : ∀ y ∈ scope.names, y.2 = .local → scope.names.lookup y.1 = some .local)
    (hx : (relabel scope env).names.lookup x = some .local) (hs : ∀ x, foldedSetIterable iter env x = pure x) :
    mwp knd Γ A (eval (.ListComp elt [⟨.Name x px, iter, ifs, 0⟩] scope pos) env) Q σ := fun s E R => by
  rw [eval_ListComp]
  exact comp_core (use := none) hclos hcell hkind hnames hx hs h R

theorem m_AssignComp {elt iter : Expr} {x y : Str} {px py spos : Pos} {ifs : List Expr} {scope : Scope} {pos : Pos} {cl : List (Str × Addr)} {Q : Flow → MS K → Prop}
    (h : mwp knd Γ A (eval iter env) (CompQ knd Γ A env elt x ifs scope cl (fun σ₁ ys hp D => Q .next (MS.store ⟨σ₁.m, put hp D (.list ys)⟩ y (.ref D)))) σ)
    (hsw : swapsWith (.ListComp elt [⟨.Name x px, iter, ifs, 0⟩] scope pos) (some (.Name y py)) spos.line env = pure true)
    (hclos : closureFor scope env = pure cl) (hcell : ∀ y ∈ scope.names, y.2 ≠ .cell) (hkind : scope.kind = .function) (hnames : ∀ y ∈ scope.names, y.2 = .local → scope.names.lookup y.1 = some .local)
    (hx : (relabel scope env).names.lookup x = some .local) (hs : ∀ x, foldedSetIterable iter env x = pure x)
    (hk : env.scope.kind = .function) (hy : env.kindOf y = some .local) (he : env.locals = Γ.L) :
    mwp knd Γ A (exec (.Assign [.Name y py] (.ListComp elt [⟨.Name x px, iter, ifs, 0⟩] scope pos) spos) env) Q σ := fun s E R => by
  rw [exec_Assign_Name_used _ _ _ _ hsw]
  refine wpAny_bind (wpAny_standAt (wpAny_bind ?_))
  show wpAny _ A (do let _ ← comprehension (.ListComp elt [⟨.Name x px, iter, ifs, 0⟩] scope pos) scope env _ (newList []) false (eval iter env) (some (assign (.Name y py) env))) _ _ s
  refine wpAny_bind (wpAny_mono (comp_core (Γ := Γ) (Q := fun _ σ' => Q .next σ') (use := some (assign (.Name y py) env)) hclos hcell hkind hnames hx hs ?_ R) (fun _ s' hq => wpAny_pure (wpAny_pure hq)) fun _ _ e => e)
  refine mwp_mono h fun v σ₁ ⟨xs, ok, It, Y, hlen, J, j0, jok, jlen, step, fin⟩ => ⟨xs, ok, It, Y, hlen, J, j0, jok, jlen, step, fun ys hp D hJ hD C oc hc => ?_⟩
  exact m_assignName (m_store (v := .ref D) rfl (fin ys hp D hJ hD) hk hy he)
end
end Mine
end
section
open PySem PySem.W PyProof.Rows
set_option maxHeartbeats 400000
namespace Mine
section
variable {prog : Program} {w : World} {K : Type} [DecidableEq K] {knd : PySem.KeyKind prog w K} {Γ : Fx} {σ : MS K} {A : Around} {env : Env} {α : Type} {s : Shared} {Q : Value → MS K → Prop} {QB : Bool → MS K → Prop} {QU : Unit → MS K → Prop}

theorem m_newList {vs : List Value} {xs : List V} (ar : Are xs vs) (hsz : xs.length ≤ sizeLine) (h : ∀ D, σ.h D = none → Q (.ref D) (σ.set D (.list xs))) : mwp knd Γ A (newList vs) Q σ := fun s E R =>
  wpAny_newObj_type ⟨_, R.push (o := .list xs) (tk := s.toks) ⟨_, _, rfl, by simpa using ar⟩, h _ R.fresh⟩ (by show vs.toArray.size ≤ sizeLine; rw [List.size_toArray, ← ar.length]; exact hsz)
theorem m_newTuple {vs : List Value} {xs : List V} (ar : Are xs vs) (hsz : xs.length ≤ sizeLine) (h : ∀ D, σ.h D = none → Q (.ref D) (σ.set D (.tuple xs))) : mwp knd Γ A (newTuple vs) Q σ := fun s E R =>
  wpAny_newObj_type ⟨_, R.push (o := .tuple xs) (tk := s.toks) ⟨_, _, rfl, by simpa using ar⟩, h _ R.fresh⟩ (by show vs.toArray.size ≤ sizeLine; rw [List.size_toArray, ← ar.length]; exact hsz)

variable {l l' : Addr} {xs ys : List V} {t u : Tok}
theorem Are.size {vs : Array Value} (ar : Are xs vs.toList) : vs.size = xs.length := by have := ar.length; rw [Array.length_toList] at this; exact this.symm
theorem m_append {x : V} {v : Value} (hl : σ.h l = some (.list xs)) (hv : x.is v) (hsz : xs.length ≤ sizeLine) (h : Q .none (σ.set l (.list (xs ++ [x])))) : mwp knd Γ A (call (.builtin "list.append") [.ref l, v]) Q σ := fun s E R => by
  obtain ⟨vs, n, e, ar⟩ := R.listX hl
  exact append_at e (fun h' sb g => ⟨_, R.change (tk := s.toks) (o := .list (xs ++ [x])) hl (fun b o hb q => (sb.2 b hb).trans q) g ⟨_, _, rfl, by simpa using ar.push hv⟩, h⟩) (by rw [ar.size]; exact hsz)
theorem Are.pop {x : V} {vs : Array Value} (ar : Are (xs ++ [x]) vs.toList) : ∃ v, vs[vs.size - 1]? = some v ∧ x.is v ∧ Are xs vs.pop.toList := by
  have hs := ar.size
  obtain ⟨v, e, iv⟩ := ar.get (i := xs.length) (x := x) (by simp)
  refine ⟨v, ?_, iv, ?_⟩
  · rw [hs]; simpa using e
  · have := ar.take xs.length
    simp only [List.take_left'] at this
    have e2 : vs.pop.toList = vs.toList.take xs.length := by
      rw [Array.toList_pop, List.dropLast_eq_take]
      congr 1
      simp at hs
      simp [hs]
    rw [e2]; exact this
theorem m_pop {x : V} (hl : σ.h l = some (.list (xs ++ [x]))) (hsz : xs.length < sizeLine) (h : ∀ v, x.is v → Q v (σ.set l (.list xs))) : mwp knd Γ A (call (.builtin "list.pop") [.ref l]) Q σ := fun s E R => by
  obtain ⟨vs, n, e, ar⟩ := R.listX hl
  obtain ⟨v, e1, iv, ar'⟩ := ar.pop
  exact Copied.pop_at e e1 (fun h' sb g => ⟨_, R.change (tk := s.toks) (o := .list xs) hl (fun b o hb q => (sb.2 b hb).trans q) g ⟨_, _, rfl, ar'⟩, h v iv⟩) (by rw [ar.size]; simp; lia)
theorem m_getList {x : V} {k : Int} (hl : σ.h l = some (.list xs)) (h0 : 0 ≤ k) (hf : k < 2 ^ 63) (hx : xs[k.toNat]? = some x) (h : ∀ v, x.is v → Q v σ) : mwp knd Γ A (getItem (.ref l) (.int k t)) Q σ := fun s E R => by
  obtain ⟨vs, e, ar⟩ := R.list hl
  obtain ⟨v, e1, iv⟩ := ar.get hx
  exact wpAny_getItem_list e h0 hf (by simpa using e1) ⟨σ, R, h v iv⟩
theorem m_getListNeg {x : V} {k : Int} (hl : σ.h l = some (.list xs)) (h0 : k < 0) (h1 : -(xs.length : Int) ≤ k) (hf : -(2 ^ 63) ≤ k) (hx : xs[(k + xs.length).toNat]? = some x) (h : ∀ v, x.is v → Q v σ) : mwp knd Γ A (getItem (.ref l) (.int k t)) Q σ := fun s E R => by
  obtain ⟨vs, e, ar⟩ := R.list hl
  obtain ⟨v, e1, iv⟩ := ar.get hx
  exact wpAny_getItem_list_neg e h0 (by rw [ar.size]; exact h1) hf (by rw [ar.size]; simpa using e1) ⟨σ, R, h v iv⟩
theorem m_setList {x : V} {v : Value} {k : Int} (hl : σ.h l = some (.list xs)) (h0 : 0 ≤ k) (hf : k < 2 ^ 63) (hn : k < xs.length) (hv : x.is v) (h : QU () (σ.set l (.list (xs.set k.toNat x)))) : mwp knd Γ A (setItem (.ref l) (.int k t) v) QU σ := fun s E R => by
  obtain ⟨vs, n, e, ar⟩ := R.listX hl
  have hl' : s.heap.IsList l vs := ⟨_, e, rfl, n, rfl⟩
  unfold setItem
  try with_reducible refine wpAny_holding ?_
  first | refine wpAny_bind (wpAny_pure ?_) | skip
  refine wpAny_bind (wpAny_sequenceKey hl'.typeIs (by decide) ?_)
  refine wpAny_bind (wpAny_callSpecial?_slot (name := Str.ofString "__setitem__") hl'.typeIs slot_list_setitem
    (wpAny_call_entry slot_list_setitem hl'.typeIs entry_list_setitem ?_ (args_list_setitem _ _ _)))
  show wpAny _ _ (Builtin.List.listSubscript? (.int k t) >>= _) _ _ s
  refine wpAny_bind (wpAny_listSubscript_int (fitsIndex_of h0 hf) ?_)
  clear hf
  obtain ⟨j, rfl⟩ := Int.eq_ofNat_of_zero_le h0
  have hj : j < vs.size := by rw [ar.size]; lia
  have hx' : vs[j]? = some vs[j] := Array.getElem?_eq_getElem hj
  show wpAny _ _ ((seqItemAt l j >>= fun r => pure (r.map (j, ·))) >>= _) _ _ s
  refine wpAny_bind (wpAny_bind (wpAny_seqItemAt e rfl (wpAny_pure ?_)))
  rw [hx']
  show wpAny _ _ (setSeqItemAt l j v >>= _) _ _ s
  have e2 : Obj.mapSeq (·.setIfInBounds j v) ({ cls := .type "list", data := .seq vs n } : Obj) = { cls := .type "list", data := .seq (vs.setIfInBounds j v) n } := by simp [Obj.mapSeq]
  have hg : (s.heap.update l (Obj.mapSeq (·.setIfInBounds j v))).get? l = some { cls := .type "list", data := .seq (vs.setIfInBounds j v) n } := by
    rw [Heap.get?_update_self _ e (by rw [e2]; rfl), e2]
  have fin : ∃ σ', Rel knd Γ σ' { s with heap := s.heap.update l (Obj.mapSeq (·.setIfInBounds j v)) } ∧ QU () σ' :=
    ⟨_, R.change (tk := s.toks) (o := .list (xs.set j x)) hl (fun b o hb q => ((Heap.SameBut.update s.heap l _).2 b hb).trans q) hg ⟨_, _, rfl, by simpa using ar.set j hv⟩, h⟩
  refine wpAny_bind (wpAny_setSeqItemAt e rfl ?_)
  first
    | exact wpAny_bind (wpAny_pure (wpAny_pure ⟨.none, rfl, wpAny_pure fin⟩))
    | exact wpAny_pure ⟨.none, rfl, wpAny_pure fin⟩
theorem m_lenList (hl : σ.h l = some (.list xs)) (hf : xs.length < 2 ^ 62) (h : ∀ t, Q (.int xs.length t) σ) : mwp knd Γ A (call (.builtin "len") [.ref l]) Q σ := fun s E R => by
  obtain ⟨vs, e, ar⟩ := R.list hl
  have := ar.size
  exact PyProof.Rows.len_list e (by rw [this]; lia) ⟨σ, R.toks, by rw [this]; exact h _⟩
theorem m_lenTuple (hl : σ.h l = some (.tuple xs)) (hf : xs.length < 2 ^ 62) (h : ∀ t, Q (.int xs.length t) σ) : mwp knd Γ A (call (.builtin "len") [.ref l]) Q σ := fun s E R => by
  obtain ⟨vs, e, ar⟩ := R.tuple hl
  have := ar.size
  exact PyProof.Rows.len_tuple e (by rw [this]; lia) ⟨σ, R.toks, by rw [this]; exact h _⟩
theorem m_lenStr {x : Str} (hf : x.length < 2 ^ 62) (h : ∀ t, Q (.int x.length t) σ) : mwp knd Γ A (call (.builtin "len") [.str x t]) Q σ := fun s E R => PyProof.Rows.len_str (by lia) ⟨σ, R.toks, h _⟩
theorem m_trList (hl : σ.h l = some (.list xs)) (hf : xs.length < 2 ^ 62) (h : QB (!xs.isEmpty) σ) : mwp knd Γ A (truthy (.ref l)) QB σ := fun s E R => by
  obtain ⟨vs, e, ar⟩ := R.list hl
  have := ar.size
  refine wpAny_truthy_list e (by rw [this]; lia) ⟨σ, R.toks, ?_⟩
  have e2 : vs.isEmpty = xs.isEmpty := by
    cases vs with | mk l => cases l <;> cases xs <;> simp at this ⊢
  rw [e2]; exact h
theorem m_inInts {ns : List Int} {k : Int} (hl : σ.h l = some (.list (ns.map .int))) (h : Q (.bool (ns.any (· == k))) σ) : mwp knd Γ A (compareOp .In (.int k t) (.ref l)) Q σ := fun s E R => by
  obtain ⟨vs, e, ar⟩ := R.list hl
  exact in_list_ints (vs := vs.toList) (by simpa using e) ar.ints ⟨σ, R, h⟩
theorem m_notinInts {ns : List Int} {k : Int} (hl : σ.h l = some (.list (ns.map .int))) (h : Q (.bool (!(ns.any (· == k)))) σ) : mwp knd Γ A (compareOp .NotIn (.int k t) (.ref l)) Q σ := fun s E R => by
  obtain ⟨vs, e, ar⟩ := R.list hl
  exact notin_list_ints (vs := vs.toList) (by simpa using e) ar.ints ⟨σ, R, h⟩

theorem m_range1 {n : Int} (h : ∀ D, σ.h D = none → Q (.ref D) (σ.set D (.range 0 n 1))) : mwp knd Γ A (call (.type "range") [.int n t]) Q σ := fun s E R =>
  call_range_1 ⟨_, R.push (o := .range 0 n 1) ⟨_, _, _, rfl⟩, h _ R.fresh⟩
theorem m_range3 {a b c : Int} {v : Tok} (hc : c ≠ 0) (hp : Builtin.divisionGoesByPylong (b - a) c = false) (h : ∀ D, σ.h D = none → Q (.ref D) (σ.set D (.range a b c))) : mwp knd Γ A (call (.type "range") [.int a t, .int b u, .int c v]) Q σ := fun s E R =>
  call_range_3 hc ⟨_, R.push (o := .range a b c) ⟨_, _, _, rfl⟩, h _ R.fresh⟩ (.inl hp)
theorem are_items {acc : Array Value} {n : Nat} {a c : Int} (h : ItemsOf (fun i v => ∃ t, v = Value.int (a + (i : Nat) * c) t) acc n) : Are ((List.range n).map fun i => V.int (a + (i : Nat) * c)) acc.toList := by
  have : ∀ (l : List Value) (k : Nat), (∀ j v, l[j]? = some v → ∃ t, v = Value.int (a + ((k + j : Nat) : Int) * c) t) → Are ((List.range l.length).map fun i => V.int (a + ((k + i : Nat) : Int) * c)) l := by
    intro l
    induction l with
    | nil => intro k _; exact .nil
    | cons v r ih =>
      intro k hv
      rw [List.length_cons, List.range_succ_eq_map, List.map_cons, List.map_map]
      refine .cons (by obtain ⟨t, e⟩ := hv 0 v rfl; exact ⟨t, by simpa using e⟩) ?_
      have := ih (k + 1) (fun j v h => by
        obtain ⟨t, e⟩ := hv (j + 1) v (by simpa using h)
        exact ⟨t, by rw [e]; congr 3; lia⟩)
      have e2 : ((fun i => V.int (a + ((k + i : Nat) : Int) * c)) ∘ Nat.succ) = fun i => V.int (a + ((k + 1 + i : Nat) : Int) * c) := by
        funext i; simp only [Function.comp]; congr 3; lia
      rw [e2]; exact this
  have h2 := this acc.toList 0 (fun j v e => by
    obtain ⟨t, e'⟩ := h.2 j v (by simpa using e)
    exact ⟨t, by simpa using e'⟩)
  rw [Array.length_toList, h.1] at h2
  simpa using h2
theorem m_listRange {r : Addr} {a b c : Int} {n : Nat} (hh : A.handled = none) (hr : σ.h r = some (.range a b c)) (hs : Builtin.Range.small a b c = true) (hn : Builtin.Range.rangeSize a b c = n) (hlen : n ≤ 2 ^ 24)
    (h : ∀ D, σ.h D = none → Q (.ref D) (σ.set D (.list ((List.range n).map fun i => V.int (a + (i : Nat) * c))))) : mwp knd Γ A (call (.type "list") [.ref r]) Q σ := fun s E R => by
  obtain ⟨o, e, t, u, v, rfl⟩ := R.obj r _ hr
  refine call_list_range hh e hs hn hlen fun h' tk acc c' hk hg hi => ?_
  exact ⟨_, R.new (o := .list ((List.range n).map fun i => V.int (a + (i : Nat) * c))) R.freshB R.freshL R.freshO (fun b o _ q => hk b o q) hg ⟨_, _, rfl, are_items hi⟩, h _ R.fresh⟩
theorem m_min {a b : Int} (hh : A.handled = none) (h : ∀ t, Q (.int (min a b) t) σ) : mwp knd Γ A (call (.builtin "min") [.int a t, .int b u]) Q σ := fun s E R =>
  min_two_ints hh fun h' tk hk => ⟨σ, R.ext hk, by
    by_cases c : b < a
    · rw [if_pos c]; have : min a b = b := by lia
      rw [← this]; exact h _
    · rw [if_neg c]; have : min a b = a := by lia
      rw [← this]; exact h _⟩
theorem m_chr {i : Int} (h0 : 0 ≤ i) (h1 : i ≤ 1114111) (h : ∀ t, Q (.str ⟨#[i.toNat]⟩ t) σ) : mwp knd Γ A (call (.builtin "chr") [.int i t]) Q σ := fun s E R => chr_of_range h0 h1 ⟨σ, R.toks, h _⟩
theorem m_bytes {ns : List Int} (hh : A.handled = none) (hl : σ.h l = some (.list (ns.map .int))) (hr : ∀ n ∈ ns, 0 ≤ n ∧ n < 256) (hz : ns.length ≤ sizeLine) (h : ∀ t, Q (.bytes (byteArr ns) t) σ) : mwp knd Γ A (call (.type "bytes") [.ref l]) Q σ := fun s E R => by
  obtain ⟨vs, e, ar⟩ := R.list hl
  exact call_bytes_ints (vs := vs.toList) (by simpa using e) ar.ints hr (by rw [← ar.length]; simpa using hz) hh fun h' t k hk => ⟨σ, R.ext hk, h t⟩
theorem m_tupleList (hl : σ.h l = some (.list xs)) (hsz : xs.length ≤ sizeLine) (h : ∀ D, σ.h D = none → Q (.ref D) (σ.set D (.tuple xs))) : mwp knd Γ A (call (.type "tuple") [.ref l]) Q σ := fun s E R => by
  obtain ⟨vs, e, ar⟩ := R.list hl
  refine call_tuple_list e (fun h' hk => ?_) (by rw [ar.size]; exact hsz)
  have R' : Rel knd Γ σ { s with heap := h' } := R.ext (tk := s.toks) hk
  exact ⟨_, R'.push (o := .tuple xs) (tk := s.toks) ⟨_, _, rfl, ar⟩, h _ R'.fresh⟩
theorem m_typeOf {x : V} {v : Value} {T : String} (hx : ∀ s, Rel knd Γ σ s → s.TypeIs v T) (hb : (Value.type T == Value.type "builtin_function_or_method") = false) (h : Q (.type T) σ) : mwp knd Γ A (call (.type "type") [v]) Q σ := fun s E R =>
  call_type_of (hx s R) hb ⟨σ, R, h⟩
end
end Mine
end
section
open PySem PySem.W PyProof.Rows PySem.SeqAt
set_option maxHeartbeats 400000
namespace Mine
section
variable {prog : Program} {w : World} {K : Type} [DecidableEq K] {knd : PySem.KeyKind prog w K} {Γ : Fx} {σ : MS K} {A : Around} {env : Env} {α : Type} {s : Shared} {Q : Value → MS K → Prop} {QB : Bool → MS K → Prop} {QU : Unit → MS K → Prop}
variable {l l' : Addr} {xs ys : List V} {t u : Tok}

theorem m_addLists (hl : σ.h l = some (.list xs)) (hb : σ.h l' = some (.list ys)) (hsz : xs.length + ys.length ≤ sizeLine) (h : ∀ D, σ.h D = none → Q (.ref D) (σ.set D (.list (xs ++ ys)))) : mwp knd Γ A (binaryOp .Add (.ref l) (.ref l')) Q σ := fun s E R => by
  obtain ⟨vs, n, e, ar⟩ := R.listX hl
  obtain ⟨us, n', e', ar'⟩ := R.listX hb
  refine concat_meets ⟨_, e, rfl⟩ ⟨_, e', rfl⟩ noFill_list_add seq_list_add PySem.F.slot_list_add PySem.F.entry_list_add (PySem.F.args_list_add_2 _ _) (list_addW l l' vs us n n' none none #[] #[] (by rw [ar.size, ar'.size]; exact hsz)) ⟨e, e', ?_⟩
  exact ⟨_, R.push (o := .list (xs ++ ys)) (tk := s.toks) ⟨_, _, rfl, by simpa using ar.append ar'⟩, h _ R.fresh⟩

theorem are_rep {vs : Array Value} (ar : Are xs vs.toList) : ∀ k : Nat, Are (List.replicate k xs).flatten (List.foldl (fun x1 x2 => x1 ++ x2) #[] (List.replicate k vs)).toList := by
  intro k
  have gen : ∀ (k : Nat) (a : Array Value) (zs : List V), Are zs a.toList → Are (zs ++ (List.replicate k xs).flatten) (List.foldl (fun x1 x2 => x1 ++ x2) a (List.replicate k vs)).toList := by
    intro k
    induction k with
    | zero => intro a zs h; simpa using h
    | succ k ih =>
      intro a zs h
      rw [List.replicate_succ, List.flatten_cons, List.replicate_succ, List.foldl_cons, ← List.append_assoc]
      exact ih (a ++ vs) (zs ++ xs) (by simpa using h.append ar)
  simpa using gen k #[] [] .nil
theorem m_mulList {k : Int} (hl : σ.h l = some (.list xs)) (hne : xs ≠ []) (hlo : 0 ≤ k) (hhi : k < 2 ^ 60) (hsz : xs.length * k.toNat ≤ 2 ^ 24) (h : ∀ D, σ.h D = none → Q (.ref D) (σ.set D (.list (List.replicate k.toNat xs).flatten))) : mwp knd Γ A (binaryOp .Mult (.ref l) (.int k u)) Q σ := fun s E R => by
  obtain ⟨vs, n, e, ar⟩ := R.listX hl
  have hs := ar.size
  have he : vs.isEmpty = false := by
    cases xs with
    | nil => exact absurd rfl hne
    | cons a r => cases vs with | mk l => cases l with
      | nil => simp at hs
      | cons _ _ => rfl
  have hz : vs.size * k.toNat ≤ 2 ^ 24 := by rw [hs]; exact hsz
  refine wpAny_binaryOp_repeat_ref (T := "list") (U := "int") (by decide) ⟨_, e, rfl⟩ (fun s' => typeIs_int s' k u) noFill_list_mul F.fills_int_mul F.slot_int_rmul repeat_list F.slot_int_index.lookup
    (call_meets F.slot_int_rmul (typeIs_int s k u) F.entry_int_rmul (F.args_int_rmul_2 _ _) (int___rmul___int_list k u l vs n)
      ⟨e, rfl, ⟨_, e, rfl⟩, call_meets F.slot_list_mul ⟨_, e, rfl⟩ F.entry_list_mul (F.args_list_mul_2 _ _)
        (AutoListH.list___mul___list_int_3 l vs n k u (by simp [Builtin.List.listFitsIndex]; lia) (by lia) (by simp [Builtin.List.listTooLong, sizeLine]; lia)) ⟨e, ?_⟩⟩)
  rw [he]
  exact ⟨_, R.push (o := .list (List.replicate k.toNat xs).flatten) (tk := s.toks) ⟨_, _, rfl, are_rep ar _⟩, h _ R.fresh⟩

theorem eqAt_int {a b : Int} : EqAt A s (.int a t) (.int b u) (a == b) := EqAt.int_int a t b u
theorem are_eqInts {A : Around} : ∀ {as bs : List Int} {vs us : List Value}, Are (as.map .int) vs → Are (bs.map .int) us → ∀ j (h1 : j < vs.length) (h2 : j < us.length) , EqAt A s vs[j] us[j] (as.getD j 0 == bs.getD j 0) := by
  intro as bs vs us h h' j h1 h2
  have e1 := h.length
  have e2 := h'.length
  simp only [List.length_map] at e1 e2
  obtain ⟨v, g1, t, i1⟩ := h.get (i := j) (x := .int (as.getD j 0)) (by simp [List.getElem?_map, List.getD, show j < as.length by lia])
  obtain ⟨u, g2, t', i2⟩ := h'.get (i := j) (x := .int (bs.getD j 0)) (by simp [List.getElem?_map, List.getD, show j < bs.length by lia])
  rw [List.getElem?_eq_getElem h1] at g1
  rw [List.getElem?_eq_getElem h2] at g2
  cases g1; cases g2
  rw [i1, i2]
  exact eqAt_int
theorem all_getD {as bs : List Int} (h : as.length = bs.length) : ((List.range as.length).all fun j => as.getD j 0 == bs.getD j 0) = decide (as = bs) := by
  by_cases e : as = bs
  · subst e; simp
  · rw [decide_eq_false e, Bool.eq_false_iff]
    intro hall
    apply e
    rw [List.all_eq_true] at hall
    apply List.ext_getElem h
    intro i h1 h2
    have := hall i (by simpa using h1)
    simpa [List.getD, h1, h2] using this
theorem rc_ints {as bs : List Int} {l l' : Addr} {vs us : Array Value} (hl : s.heap.IsList l vs) (hb : s.heap.IsList l' us) (ar : Are (as.map .int) vs.toList) (ar' : Are (bs.map .int) us.toList) (hu : A.units < cLine) : RcAt A s (.ref l) (.ref l') (decide (as = bs)) := by
  have e1 := ar.size
  have e2 := ar'.size
  simp only [List.length_map] at e1 e2
  by_cases hsz : as.length = bs.length
  · have := RcAt.lists (e := fun j => as.getD j 0 == bs.getD j 0) hl hb (by rw [e1, e2, hsz]) hu (fun j h1 h2 => by
      have := are_eqInts (A := A.in1) (s := s) ar ar' j (by simpa using h1) (by simpa using h2)
      simpa using this)
    rw [e1, all_getD hsz] at this
    exact this
  · have hne : as ≠ bs := fun h => hsz (by rw [h])
    rw [decide_eq_false hne]
    exact RcAt.lists_lengths hl hb (by rw [e1, e2]; simpa using hsz) hu
theorem m_eqInts {as bs : List Int} (hu : A.units < cLine) (hl : σ.h l = some (.list (as.map .int))) (hb : σ.h l' = some (.list (bs.map .int))) (h : Q (.bool (decide (as = bs))) σ) : mwp knd Γ A (compareOp .Eq (.ref l) (.ref l')) Q σ := fun s E R => by
  obtain ⟨vs, e, ar⟩ := R.list hl
  obtain ⟨us, e', ar'⟩ := R.list hb
  exact rc_ints e e' ar ar' hu _ _ _ _ ⟨σ, R, h⟩
theorem m_tail {value slice : Expr} {o i : Value} {ops : List Value} {T id : String} (hT : ∀ s, Rel knd Γ σ s → s.TypeIs o T) (hl : typeLookup (.type T) "__getitem__" = pure (some (.builtin id))) (hg : mwp knd Γ A (getItem o i) Q σ)
    (hs : subscripted slice false o i = operate ops (getItem o i)) : mwp knd Γ A (subscriptTail value slice o i) Q σ := fun s E R => tail_any (hT s R) hl (hg s E R) hs
theorem m_tailList {value slice : Expr} {k : Int} (hl : σ.h l = some (.list xs)) (hg : mwp knd Γ A (getItem (.ref l) (.int k t)) Q σ)
    (hs : subscripted slice false (.ref l) (.int k t) = operate [.ref l, .int k t] (getItem (.ref l) (.int k t))) : mwp knd Γ A (subscriptTail value slice (.ref l) (.int k t)) Q σ :=
  m_tail (fun s R => by obtain ⟨vs, e, _⟩ := R.list hl; exact e.typeIs) slot_list_getitem.lookup hg hs
theorem m_tailStr {value slice : Expr} {x : Str} {k : Int} {c : Nat} (hr : (decide (k < -(2 ^ 63 : Int)) || decide (k ≥ 2 ^ 63)) = false) (hc : (seqIndex? k x.length).bind (x.cps[·]?) = some c) (h : ∀ t, Q (.str ⟨#[c]⟩ t) σ)
    (hs : subscripted slice false (.str x t) (.int k u) = operate [.str x t, .int k u] (getItem (.str x t) (.int k u))) : mwp knd Γ A (subscriptTail value slice (.str x t) (.int k u)) Q σ :=
  m_tail (fun s R => typeIs_str _ _ _) F.slot_str_getitem.lookup (fun s E R => PyProof.Rows.getItem_str hr hc ⟨σ, R.toks, h _⟩) hs
theorem m_tailDict {value slice : Expr} {d : Addr} {kvs : List (K × V)} {ep : Nat} {key : Value} (hd : σ.h d = some (.dict kvs ep)) (hg : mwp knd Γ A (getItem (.ref d) key) Q σ)
    (hs : subscripted slice false (.ref d) key = operate [.ref d, key] (getItem (.ref d) key)) : mwp knd Γ A (subscriptTail value slice (.ref d) key) Q σ :=
  m_tail (fun s R => by obtain ⟨kvs', ⟨o, es, e, x, _⟩, _⟩ := R.dict hd; exact ⟨o, e, x.1⟩) slot_dict_getitem.lookup hg hs

noncomputable def SliceAt (knd : PySem.KeyKind prog w K) (Q : Value → MS K → Prop) (o vl vu : Value) (σ : MS K) : Prop :=
  (∃ x t lo hi, o = .str x t ∧ IsPart vl lo ∧ IsPart vu hi ∧ x.length ≤ sizeLine ∧ ∀ t', Q (.str (Txt.slice x lo hi) t') σ) ∨
  (∃ l xs, o = .ref l ∧ σ.h l = some (.list xs) ∧ xs.length ≤ sizeLine ∧ ((∃ b t, vl = .none ∧ vu = .int (b : Nat) t ∧ ∀ D, σ.h D = none → Q (.ref D) (σ.set D (.list (xs.take b)))) ∨ (∃ a t, vl = .int (a : Nat) t ∧ vu = .none ∧ ∀ D, σ.h D = none → Q (.ref D) (σ.set D (.list (xs.drop a))))))

theorem slice_push (R : Rel knd Γ σ s) {vl vu : Value} : KeptH fun h => Rel knd Γ σ { s with heap := h } := fun h ob R' => R'.ext (tk := s.toks) fun _ _ e => Heap.get?_push_of_some _ e

theorem eval_SubSlice (value : Expr) (lower upper : Option Expr) (p pos : Pos) (env : Env) {M : Model} {A : Around} {E : Value → Shared → Prop} {s : Shared} {Q : Value → Shared → Prop}
    (h : wpAny M A (eval value env) (fun o s₁ => wpAny M A (evalPart lower env) (fun vl s₂ => wpAny M A (evalPart upper env) (fun vu s₃ =>
      wpAny M A (subscriptTail value (.Slice lower upper none p) o (.ref s₃.heap.objs.size)) Q E { s₃ with heap := s₃.heap.push { cls := .type "slice", data := .fields #[vl, vu, .none] } }) E s₂) E s₁) E s) :
    wpAny M A (eval (.Subscript value (.Slice lower upper none p) pos) env) Q E s :=
  Subscript_ (wpAny_mono h (fun o s₁ h₁ => wpAny_Slice (wpAny_mono h₁ (fun vl s₂ h₂ => wpAny_mono h₂ (fun vu s₃ h₃ => wpAny_evalPart_none h₃) fun _ _ e => e) fun _ _ e => e)) fun _ _ e => e)

theorem m_SubSlice {value : Expr} {lower upper : Option Expr} {p pos : Pos}
    (h : mwp knd Γ A (eval value env) (fun o σ₁ => mwp knd Γ A (evalPart lower env) (fun vl σ₂ => mwp knd Γ A (evalPart upper env) (fun vu σ₃ => SliceAt knd Q o vl vu σ₃) σ₂) σ₁) σ) :
    mwp knd Γ A (eval (.Subscript value (.Slice lower upper none p) pos) env) Q σ := fun s E R => by
  refine eval_SubSlice _ _ _ _ _ _ (h.use R fun o s₁ σ₁ R₁ q => q.use R₁ fun vl s₂ σ₂ R₂ q => q.use R₂ fun vu s₃ σ₃ R₃ q => ?_)
  rcases q with ⟨x, t, lo, hi, rfl, pl, pu, hsz, hq⟩ | ⟨l, xs, rfl, hl, hsz, q⟩
  · have kp : KeptH fun h => Rel knd Γ σ₃ { s₃ with heap := h } := slice_push R₃ (vl := vl) (vu := vu)
    have fin : ∀ (lo hi : Option Int), (∀ t', Q (.str (Txt.slice x lo hi) t') σ₃) → ∀ h' t' k, Rel knd Γ σ₃ { s₃ with heap := h' } → ∃ σ', Rel knd Γ σ' { s₃ with heap := h', toks := k } ∧ Q (.str (Txt.slice x lo hi) t') σ' := fun lo hi hq h' t' k R' => ⟨σ₃, R'.toks, hq t'⟩
    cases pl with
    | none => cases pu with
      | none => exact tail_of_ItemOn (SBH.sliceItem_nn (P := fun h => Rel knd Γ σ₃ { s₃ with heap := h }) kp R₃ (fin _ _ hq) hsz) (by with_unfolding_all rfl) (by intro _; unfold letTemporaryGo; split <;> first | rfl | (rename_i e; cases e))
      | int j tj => exact tail_of_ItemOn (SBH.sliceItem_ns (P := fun h => Rel knd Γ σ₃ { s₃ with heap := h }) kp R₃ (fin _ _ hq) hsz) (by with_unfolding_all rfl) (by intro _; unfold letTemporaryGo; split <;> first | rfl | (rename_i e; cases e))
    | int i ti => cases pu with
      | none => exact tail_of_ItemOn (SBH.sliceItem_sn (P := fun h => Rel knd Γ σ₃ { s₃ with heap := h }) kp R₃ (fin _ _ hq) hsz) (by with_unfolding_all rfl) (by intro _; unfold letTemporaryGo; split <;> first | rfl | (rename_i e; cases e))
      | int j tj => exact tail_of_ItemOn (SBH.sliceItem_ss (P := fun h => Rel knd Γ σ₃ { s₃ with heap := h }) kp R₃ (fin _ _ hq) hsz) (by with_unfolding_all rfl) (by intro _; unfold letTemporaryGo; split <;> first | rfl | (rename_i e; cases e))
  · obtain ⟨vs, e, ar⟩ := R₃.list hl
    have R₄ : Rel knd Γ σ₃ { s₃ with heap := s₃.heap.push { cls := .type "slice", data := .fields #[vl, vu, .none] } } := R₃.ext (tk := s₃.toks) fun _ _ e => Heap.get?_push_of_some _ e
    have e4 : (s₃.heap.push { cls := .type "slice", data := .fields #[vl, vu, .none] }).IsList l vs := e.push _
    rcases q with ⟨b, t, rfl, rfl, hq⟩ | ⟨a, t, rfl, rfl, hq⟩
    · refine tail_any (T := "list") e4.typeIs slot_list_getitem.lookup ?_ (by with_unfolding_all rfl)
      refine wpAny_getItem_list_slice (items := vs) e4 ⟨_, Heap.get?_push_size _ rfl, rfl, rfl⟩ .none (.int _ t) .none (by intro z; cases z) ?_ (by rw [ar.size]; exact hsz)
      refine ⟨_, R₄.push (o := .list (xs.take b)) (tk := s₃.toks) ⟨_, _, rfl, ?_⟩, hq _ ?_⟩
      · rw [slicePick_upto']; simpa using ar.take b
      · exact R₄.fresh
    · refine tail_any (T := "list") e4.typeIs slot_list_getitem.lookup ?_ (by with_unfolding_all rfl)
      refine wpAny_getItem_list_slice (items := vs) e4 ⟨_, Heap.get?_push_size _ rfl, rfl, rfl⟩ (.int _ t) .none .none (by intro z; cases z) ?_ (by rw [ar.size]; exact hsz)
      refine ⟨_, R₄.push (o := .list (xs.drop a)) (tk := s₃.toks) ⟨_, _, rfl, ?_⟩, hq _ ?_⟩
      · rw [slicePick_from']; simpa using ar.drop a
      · exact R₄.fresh
theorem m_part0 (h : Q .none σ) : mwp knd Γ A (evalPart none env) Q σ := fun s E R => wpAny_evalPart_none ⟨σ, R, h⟩
theorem m_part {e : Expr} (h : mwp knd Γ A (eval e env) Q σ) : mwp knd Γ A (evalPart (some e) env) Q σ := fun s E R => wpAny_evalPart_some (h s E R)

theorem m_lower {x : Str} (hf : x.length ≤ 5592405) (h : ∀ t, Q (.str (Txt.lower x) t) σ) : mwp knd Γ A (call (.builtin "str.lower") [.str x t]) Q σ := fun s E R => SCL.lower hf fun _ => ⟨σ, R.toks, h _⟩
theorem are_strs {ss : List Str} {vs : List Value} (h : Are (ss.map .str) vs) : StrsAre vs ss := by
  induction ss generalizing vs with
  | nil => cases h; exact .nil
  | cons x xs ih =>
    cases h with
    | cons a b => obtain ⟨t, rfl⟩ := a; exact .cons _ _ (ih b)
theorem m_join {x : Str} {ss : List Str} (hl : σ.h l = some (.list (ss.map .str))) (hx : x.length ≤ 16) (hw : (ss.map (·.length)).sum + ss.length ≤ 1048576) (h : ∀ t, Q (.str (Txt.join x ss) t) σ) : mwp knd Γ A (call (.builtin "str.join") [.str x t, .ref l]) Q σ := fun s E R => by
  obtain ⟨vs, e, ar⟩ := R.list hl
  exact join_listW e (are_strs ar) hx hw fun t' k => ⟨σ, R.toks, h t'⟩
end
end Mine
end
section
open PySem PySem.W PyProof.Rows PySem.SeqAt
set_option maxHeartbeats 400000
namespace Mine
section
variable {prog : Program} {w : World} {K : Type} [DecidableEq K] {knd : PySem.KeyKind prog w K} {Γ : Fx} {σ : MS K} {A : Around} {env : Env} {α : Type} {s : Shared} {Q : Value → MS K → Prop} {QB : Bool → MS K → Prop} {QU : Unit → MS K → Prop}
variable {KK : Frag} {t u : Tok}

noncomputable def others (h : Heap) (L d : Addr) : List (Addr × Obj) := (List.range h.objs.size).filterMap fun b => if b = L ∨ b = d then none else (h.get? b).map fun o => (b, o)
theorem mem_others {h : Heap} {L d b : Addr} {o : Obj} : (b, o) ∈ others h L d ↔ b ≠ L ∧ b ≠ d ∧ h.get? b = some o := by
  unfold others
  rw [List.mem_filterMap]
  constructor
  · rintro ⟨c, hc, e⟩
    split at e
    · cases e
    · rename_i q
      cases g : h.get? c with
      | none => rw [g] at e; cases e
      | some o' => rw [g] at e; simp at e; obtain ⟨rfl, rfl⟩ := e; exact ⟨fun x => q (.inl x), fun x => q (.inr x), g⟩
  · rintro ⟨h1, h2, g⟩
    exact ⟨b, List.mem_range.mpr (Heap.lt_size g), by rw [if_neg (by rintro (x | x); exact h1 x; exact h2 x), g]; rfl⟩
noncomputable def noHeap : Heap := { objs := #[] }
theorem noHeap_get (b : Addr) : noHeap.get? b = none := by simp [noHeap, Heap.get?]
theorem bridge_F {h : Heap} {L : Addr} {m : Str → Option Value} (n : h.Ns L m) : Fr noHeap L h m := ⟨n, fun b o e => (by rw [noHeap_get] at e; cases e), Nat.zero_le _⟩
theorem bridge_N {h : Heap} {L d : Addr} {od : Obj} (hd : h.get? d = some od) (hne : d ≠ L) : News noHeap L h (others h L d ++ (d, od) :: []) := fun p hp => by
  rcases List.mem_append.mp hp with h1 | h1
  · obtain ⟨b, o⟩ := p
    obtain ⟨a1, a2, a3⟩ := mem_others.mp h1
    exact ⟨a3, a1, noHeap_get _⟩
  · rw [List.mem_singleton] at h1; subst h1; exact ⟨hd, hne, noHeap_get _⟩
theorem bridge_off {h : Heap} {L d : Addr} : ∀ p ∈ others h L d, p.1 ≠ d := fun p hp => by obtain ⟨b, o⟩ := p; exact (mem_others.mp hp).2.1

theorem Rel.newN (R : Rel knd Γ σ s) {h' : Heap} {tk : Nat} {a : Addr} {o : O K} {ob : Obj} (hb : Γ.B a = none) (hl : a ≠ Γ.L) (ho : ∀ p ∈ Γ.outs, a ≠ p.1)
    (e : ∀ b o, b ≠ Γ.L → b ≠ a → s.heap.get? b = some o → h'.get? b = some o) (n : NsAt h' Γ.L σ.m) (g : h'.get? a = some ob) (io : o.is knd ob) : Rel knd Γ (σ.set a o) { s with heap := h', toks := tk } where
  keep := fun b o q => e b o (fun x => by rw [x, R.bL] at q; cases q) (fun x => by rw [x, hb] at q; cases q) (R.keep b o q)
  rest := by rw [R.rest]
  cur := n
  out := fun p hp => (R.out p hp).ext fun o q => e _ _ (R.lO p hp) (fun x => ho p hp x.symm) q
  obj := fun b o' q => by
    simp only [MS.set, put] at q
    split at q
    · rename_i x; subst x; cases q; exact ⟨ob, g, io⟩
    · rename_i x; obtain ⟨ob, h1, h2⟩ := R.obj b o' q; exact ⟨ob, e _ _ (fun z => by rw [z, R.hL] at q; cases q) x h1, h2⟩
  bL := R.bL
  bO := R.bO
  bH := fun b o' q => by
    simp only [MS.set, put] at q
    split at q
    · rename_i x; subst x; exact hb
    · exact R.bH b o' q
  lO := R.lO
  hL := by show put _ _ _ _ = _; simp only [put]; rw [if_neg (fun x => hl x.symm)]; exact R.hL
  hO := fun p hp => by show put _ _ _ _ = _; simp only [put]; rw [if_neg (fun x => ho p hp x.symm)]; exact R.hO p hp

theorem Rel.bridged (R : Rel knd Γ σ s) {h' : Heap} {tk : Nat} {d : Addr} {o₁ o : O K} {od' : Obj} {m' : Str → Option Value} (hd : σ.h d = some o₁) (q : ∀ x v, σ.m x = some v → ∃ v', m' x = some v' ∧ v.is v')
    (F' : Fr noHeap Γ.L h' m') (N' : News noHeap Γ.L h' (others s.heap Γ.L d ++ (d, od') :: [])) (io : o.is knd od') : Rel knd Γ (σ.set d o) { s with heap := h', toks := tk } :=
  R.newN (R.bH d _ hd) (fun x => by rw [x, R.hL] at hd; cases hd) (fun p hp x => by rw [x, R.hO p hp] at hd; cases hd)
    (fun b o h1 h2 g => (N' (b, o) (List.mem_append_left _ (mem_others.mpr ⟨h1, h2, g⟩))).1) ⟨m', F'.ns, q⟩ (N' (d, od') (List.mem_append_right _ (.head _))).1 io

theorem Rel.kin (R : Rel knd Γ σ s) (X : KK.In Γ.base) : KK.In s.heap := X.keeps fun b o e => R.keep b o (Γ.sub b o e)
theorem Rel.inst (R : Rel knd Γ σ s) {x C dx : Addr} {sl : List (Option V)} {fs : List (Str × V)} (hx : σ.h x = some (.inst C dx sl)) (hd : σ.h dx = some (.idict fs)) :
    ∃ sl' es n, InstAt s.heap x ⟨.ref C, some dx, .plain, sl'⟩ C (some (dictOf es n)) ∧ SlotsAre sl sl'.toList ∧ FieldsAre fs es := by
  obtain ⟨o, e, sl', rfl, hs⟩ := R.obj x _ hx
  obtain ⟨o', e', es, n, rfl, hf⟩ := R.obj dx _ hd
  exact ⟨sl', es, n, ⟨e, rfl, rfl, e'⟩, hs, hf⟩

theorem FieldsAre.get : ∀ {fs : List (Str × V)} {es : List DictEntry} {name : Str} {v : V}, FieldsAre fs es → fs.lookup name = some v → ∃ v', getL name es = some (some v') ∧ v.is v'
  | (k, x) :: r, e :: r', name, v, h, hl => by
    obtain ⟨⟨t, hk⟩, hx, hr⟩ := h
    rw [List.lookup_cons] at hl
    unfold getL
    rw [List.find?_cons]
    have hs : e.key.isStr name = (k == name) := by rw [hk]; rfl
    rw [hs]
    cases hq : name == k with
    | true =>
      rw [hq] at hl; simp at hl; subst hl
      have : (k == name) = true := by rw [beq_iff_eq] at hq ⊢; exact hq.symm
      rw [this]; exact ⟨_, rfl, hx⟩
    | false =>
      rw [hq] at hl
      have : (k == name) = false := by
        cases z : k == name with
        | false => rfl
        | true => rw [beq_iff_eq] at z; subst z; simp at hq
      rw [this]
      obtain ⟨v', e1, iv⟩ := hr.get hl
      refine ⟨v', ?_, iv⟩
      rw [← e1]
      unfold getL
      rw [List.any_cons]
      have z : e.refKey = false := by simp [DictEntry.refKey, hk]
      rw [z, Bool.false_or]
  | [], _, _, _, _, hl => by cases hl
  | _ :: _, [], _, _, h, _ => h.elim
theorem FieldsAre.miss : ∀ {fs : List (Str × V)} {es : List DictEntry} {name : Str}, FieldsAre fs es → fs.lookup name = none → getL name es = some none
  | [], [], _, _, _ => rfl
  | (k, x) :: r, e :: r', name, h, hl => by
    obtain ⟨⟨t, hk⟩, hx, hr⟩ := h
    rw [List.lookup_cons] at hl
    cases hq : name == k with
    | true => rw [hq] at hl; cases hl
    | false =>
      rw [hq] at hl
      have ih := hr.miss hl
      have : (k == name) = false := by
        cases z : k == name with
        | false => rfl
        | true => rw [beq_iff_eq] at z; subst z; simp at hq
      rw [← ih]
      unfold getL
      have hs : e.key.isStr name = false := by rw [hk]; exact this
      rw [List.find?_cons, hs, List.any_cons]
      have z : e.refKey = false := by simp [DictEntry.refKey, hk]
      rw [z, Bool.false_or]
  | [], _ :: _, _, h, _ => h.elim
  | _ :: _, [], _, h, _ => h.elim
noncomputable def putF (name : Str) (v : V) : List (Str × V) → List (Str × V)
  | [] => [(name, v)]
  | (k, x) :: r => if k == name then (k, v) :: r else (k, x) :: putF name v r
theorem FieldsAre.put {name : Str} {v : V} {v' : Value} {hs : Int} {tk : Tok} (hv : v.is v') : ∀ {fs : List (Str × V)} {es : List DictEntry}, FieldsAre fs es → FieldsAre (putF name v fs) (putL name hs (.str name tk) v' es)
  | [], [], _ => ⟨⟨tk, rfl⟩, hv, trivial⟩
  | (k, x) :: r, e :: r', h => by
    obtain ⟨⟨t, hk⟩, hx, hr⟩ := h
    unfold putF putL
    have z : e.key.isStr name = (k == name) := by rw [hk]; rfl
    rw [z]
    cases hq : k == name with
    | true => simp only [if_true]; exact ⟨⟨t, hk⟩, hv, hr⟩
    | false => simp only [Bool.false_eq_true, if_false]; exact ⟨⟨t, hk⟩, hx, hr.put hv⟩
  | [], _ :: _, h => h.elim
  | _ :: _, [], h => h.elim
theorem FieldsAre.length : ∀ {fs : List (Str × V)} {es : List DictEntry}, FieldsAre fs es → fs.length = es.length
  | [], [], _ => rfl
  | (k, x) :: r, e :: r', h => by simp [h.2.2.length]
  | [], _ :: _, h => h.elim
  | _ :: _, [], h => h.elim

noncomputable def handedV : V → Bool
  | .fn (.builtin i) => (withoutEnding? i "#data").isNone
  | _ => true
theorem handed_of {v : V} {v' : Value} (h : handedV v = true) (hv : v.is v') : handedIn v' = true := by
  cases v with
  | fn r => cases hv; cases v' <;> first | rfl | exact h
  | none => cases hv; rfl
  | bool b => cases hv; rfl
  | int i => obtain ⟨t, rfl⟩ := hv; rfl
  | str x => obtain ⟨t, rfl⟩ := hv; rfl
  | bytes b => obtain ⟨t, rfl⟩ := hv; rfl
  | ref a => cases hv; rfl

variable {x C dx : Addr} {sl : List (Option V)} {fs : List (Str × V)} {name : Str}
theorem m_attr {v : V} {at_ : Option Value} (X : KK.In Γ.base) (hx : σ.h x = some (.inst C dx sl)) (hd : σ.h dx = some (.idict fs)) (hl : fs.lookup name = some v) (h : ∀ v', v.is v' → Q v' σ)
    (hv : handedV v = true) (hg : plainGet KK C name = true) (hh : hasDictIn KK C = true) (ha : findIn KK (.ref C) name = some at_) (hn : noGet KK at_ = true) {expr : Bool} :
    mwp knd Γ A (getAttr (.ref x) name expr) Q σ := fun s E R => by
  obtain ⟨sl', es, n, I, _, hf⟩ := R.inst hx hd
  obtain ⟨v', e1, iv⟩ := hf.get hl
  exact get_value (R.kin X) I (plainGet_of hg).1 (findObj_own hh ha hn e1) (handed_of hv iv) ⟨σ, R.toks, h v' iv⟩
theorem m_setAttr {v : V} {v' : Value} (X : KK.In Γ.base) (hx : σ.h x = some (.inst C dx sl)) (hd : σ.h dx = some (.idict fs)) (hv : v.is v') (hz : fs.length ≤ 900) (h : QU () (σ.set dx (.idict (putF name v fs))))
    (hs : findIn KK (.ref C) "__setattr__" = some (some (.builtin "object.__setattr__"))) (hp : plainOver KK C = true) (ht : takerIn KK C name = some none) (hh : hasDictIn KK C = true) :
    mwp knd Γ A (setAttr (.ref x) name v') QU σ := fun s E R => by
  obtain ⟨sl', es, n, I, _, hf⟩ := R.inst hx hd
  obtain ⟨m', nm, q⟩ := R.cur
  have gd : s.heap.get? dx = some (dictOf es n) := I.dict
  have hne : dx ≠ Γ.L := fun z => by rw [z, R.hL] at hd; cases hd
  have hl : (lookIn name (dictOf es n)).isSome = true := by
    rw [lookIn_dict]
    cases z : fs.lookup name with
    | none => rw [hf.miss z]; rfl
    | some v => obtain ⟨v', e, _⟩ := hf.get z; rw [e]; rfl
  refine set_plain (R.kin X) I hs (osa_dict (s := { s with toks := s.toks + 1 }) (bridge_F nm) (bridge_N gd hne) (R.kin X) I rfl hp ht hh hl bridge_off (fun p hp => nomatch hp) (putName_dict ..) rfl ?_ fun h' F' N' => ?_)
  · have := (hf.put (name := name) (hs := PyData.keyHash w.params name) (tk := s.toks + 1) hv).length
    rw [← this]
    have : ∀ fs : List (Str × V), (putF name v fs).length ≤ fs.length + 1 := by
      intro fs
      induction fs with
      | nil => simp [putF]
      | cons p r ih =>
        obtain ⟨k, x⟩ := p
        unfold putF
        split
        · simp
        · simp; exact ih
    have := this fs
    lia
  · exact ⟨_, R.bridged (o := .idict (putF name v fs)) hd q F' N' ⟨_, _, rfl, hf.put hv⟩, h⟩

theorem SlotsAre.get : ∀ {sl : List (Option V)} {sl' : List (Option Value)} {i : Nat} {v : V}, SlotsAre sl sl' → sl[i]? = some (some v) → ∃ v', sl'[i]? = some (some v') ∧ v.is v'
  | x :: r, y :: r', 0, v, h, e => by
    simp at e; subst e
    cases y with
    | none => exact h.1.elim
    | some y => exact ⟨y, rfl, h.1⟩
  | x :: r, y :: r', i + 1, v, h, e => by simpa using h.2.get (by simpa using e)
  | [], _, _, _, _, e => by simp at e
  | _ :: _, [], _, _, h, _ => h.elim
theorem SlotsAre.length : ∀ {sl : List (Option V)} {sl' : List (Option Value)}, SlotsAre sl sl' → sl.length = sl'.length
  | [], [], _ => rfl
  | x :: r, y :: r', h => by simp [h.2.length]
  | [], _ :: _, h => h.elim
  | _ :: _, [], h => h.elim
theorem SlotsAre.set : ∀ {sl : List (Option V)} {sl' : List (Option Value)} (i : Nat) {v : V} {v' : Value}, SlotsAre sl sl' → v.is v' → SlotsAre (sl.set i (some v)) (sl'.set i (some v'))
  | [], [], _, _, _, _, _ => trivial
  | x :: r, y :: r', 0, _, _, h, hv => ⟨hv, h.2⟩
  | x :: r, y :: r', i + 1, _, _, h, hv => ⟨h.1, h.2.set i hv⟩
  | [], _ :: _, _, _, _, h, _ => h.elim
  | _ :: _, [], _, _, _, h, _ => h.elim
theorem SlotsAre.pad : ∀ {sl : List (Option V)} {sl' : List (Option Value)} (k : Nat), SlotsAre sl sl' → SlotsAre (sl ++ List.replicate k none) (sl' ++ List.replicate k none)
  | [], [], 0, _ => trivial
  | [], [], k + 1, _ => ⟨trivial, SlotsAre.pad (sl := []) (sl' := []) k trivial⟩
  | x :: r, y :: r', k, h => ⟨h.1, h.2.pad k⟩
  | [], _ :: _, _, h => h.elim
  | _ :: _, [], _, h => h.elim
theorem m_slot {v : V} {p : Addr} {i : Nat} (X : KK.In Γ.base) (hx : σ.h x = some (.inst C dx sl)) (hd : σ.h dx = some (.idict fs)) (hl : sl[i]? = some (some v)) (h : ∀ v', v.is v' → Q v' σ)
    (hp : slotIn KK p C = some i) (ha : findIn KK (.ref C) name = some (some (.ref p))) (hv : handedV v = true) (hg : plainGet KK C name = true) (hc : isClsIn KK C = true)
    (hn : specialIn KK (.ref p) "__get__" = some (some (.builtin "member_descriptor.__get__"))) (ht : takesIn KK (.ref p) = some true) {expr : Bool} :
    mwp knd Γ A (getAttr (.ref x) name expr) Q σ := fun s E R => by
  obtain ⟨sl', es, n, I, hs, _⟩ := R.inst hx hd
  obtain ⟨v', e1, iv⟩ := hs.get hl
  refine get_bind (R.kin X) I (plainGet_of hg).1 (findObj_data hc ha hn ht) (plainGet_of hg).2 (wpAny_call (slot_get (s := { s with toks := s.toks + 1 }) (R.kin X) I hp (v := v') ?_ (handed_on (handed_of hv iv) ⟨σ, R.toks, h v' iv⟩)))
  show (sl'[i]?).join = some v'
  rw [← Array.getElem?_toList, e1]; rfl
noncomputable def putSl (i : Nat) (v : V) (sl : List (Option V)) : List (Option V) := (sl ++ List.replicate (i + 1 - sl.length) none).set i (some v)
theorem m_setSlot {v : V} {v' : Value} {p : Addr} {i : Nat} (X : KK.In Γ.base) (hx : σ.h x = some (.inst C dx sl)) (hd : σ.h dx = some (.idict fs)) (hv : v.is v') (hz : i < 1000) (h : QU () (σ.set x (.inst C dx (putSl i v sl))))
    (hi : slotIn KK p C = some i) (ht : takerIn KK C name = some (some (.ref p))) (hs : findIn KK (.ref C) "__setattr__" = some (some (.builtin "object.__setattr__"))) (hp : plainOver KK C = true)
    (hT : typeIn KK (.ref p) = some (.type "member_descriptor")) :
    mwp knd Γ A (setAttr (.ref x) name v') QU σ := fun s E R => by
  obtain ⟨sl', es, n, I, hsl, _⟩ := R.inst hx hd
  obtain ⟨m', nm, q⟩ := R.cur
  have hne : x ≠ Γ.L := fun z => by rw [z, R.hL] at hx; cases hx
  refine set_plain (R.kin X) I hs (osa_descr (s := { s with toks := s.toks + 1 }) KF.slot_mset (R.kin X) I hp ht hT (slot_set (s := { s with toks := s.toks + 1 }) (bridge_F nm) (bridge_N I.at_ hne) (R.kin X) I hi hz bridge_off (fun p hp => nomatch hp) rfl rfl fun h' F' N' => ?_))
  refine ⟨_, R.bridged (o := .inst C dx (putSl i v sl)) hx q F' N' ⟨_, rfl, ?_⟩, h⟩
  have e2 : ((sl' ++ Array.replicate (i + 1 - sl'.size) none).setIfInBounds i (some v')).toList = (sl'.toList ++ List.replicate (i + 1 - sl'.toList.length) none).set i (some v') := by simp
  show SlotsAre (putSl i v sl) _
  rw [e2, ← hsl.length]
  exact (hsl.pad _).set i hv
theorem m_method {f : Addr} {pl : Sem Bool} {Q : Value × List Value → MS K → Prop} (X : KK.In Γ.base) (hx : σ.h x = some (.inst C dx sl)) (hd : σ.h dx = some (.idict fs)) (hl : fs.lookup name = none) (h : Q (.ref f, [.ref x]) σ)
    (hf : findIn KK (.ref C) name = some (some (.ref f))) (hg : plainGet KK C name = true) (ht : isFn KK (.ref f) = true) : mwp knd Γ A (getMethod (.ref x) name pl) Q σ := fun s E R => by
  obtain ⟨sl', es, n, I, hs, hf'⟩ := R.inst hx hd
  refine method_fn (R.kin X) I (plainGet_of hg).1 (plainGet_of hg).2 hf (beq_iff_eq.mp ht) ?_ ⟨σ, R, h⟩
  show (lookIn name (dictOf es n)).map _ = _
  rw [lookIn_dict, hf'.miss hl]; rfl
end
end Mine
end
section
open PySem PySem.W PyProof.Rows PySem.SeqAt
set_option maxHeartbeats 400000
namespace Mine
section
variable {prog : Program} {w : World} {K : Type} [DecidableEq K] {knd : PySem.KeyKind prog w K} {Γ : Fx} {σ : MS K} {A : Around} {env : Env} {α : Type} {s : Shared} {Q : Value → MS K → Prop} {QB : Bool → MS K → Prop} {QU : Unit → MS K → Prop}
variable {KK : Frag} {t u : Tok}

noncomputable def mcode (knd : PySem.KeyKind prog w K) (Γ : Fx) (A : Around) (c : Code) (Q : Value → MS K → Prop) (σ : MS K) : Prop :=
  ∀ s (E : Value → Shared → Prop), Rel knd Γ σ s → codeAny (model prog w) A c (fun r s' => match r with | .ok (.ret v) => ∃ σ', Rel knd Γ σ' s' ∧ Q v σ' | .ok _ => False | .error e => E e s') s
theorem m_code {f : Value} {args : List Value} {kws : List (Str × Value)} (h : mcode knd Γ A (.call f ⟨args, kws⟩) Q σ) : mwp knd Γ A (call f args kws) Q σ := fun s E R => wpAny_call (h s E R)
noncomputable def Fits (Γ : Fx) (A : Around) : Prop := ∃ es, A.frames = some es ∧ ∀ e ∈ es, e.scope.kind ≠ .module ∧ ∃ L, e.frame = some L ∧ (L = Γ.L ∨ ∃ p ∈ Γ.outs, p.1 = L)
theorem Fits.deeper {L : Addr} {m : Str → Option V} (h : Fits Γ A) {e : Env} (hk : e.scope.kind = .function := by rfl) (hf : e.frame = some L := by rfl) : Fits (Γ.enter L m) (A.deeper e) := by
  obtain ⟨es, h1, h2⟩ := h
  refine ⟨e :: es, by show A.frames.map _ = _; rw [h1]; rfl, fun e' he => ?_⟩
  rcases List.mem_cons.mp he with rfl | he
  · exact ⟨by rw [hk]; decide, L, hf, .inl rfl⟩
  · obtain ⟨a, L', b, c⟩ := h2 e' he
    refine ⟨a, L', b, .inr ?_⟩
    rcases c with c | ⟨p, hp, c⟩
    · exact ⟨(Γ.L, m), .head _, c.symm⟩
    · exact ⟨p, .tail _ hp, c⟩
theorem c_def {f : Addr} {args : List Value} {kws : List (Str × Value)} {name qual : Str} {params : Arguments} {body : List Stmt} {scope : Scope} {dV kV doc pm cdv ct oc : Value} {an od : Option Addr} {osl : Array (Option Value)} {n : Nat}
    (hA : Dp A n) (X : KK.In Γ.base) (hlim : Γ.base.NoLimit)
    (h : mwp knd Γ A.in1 (bindArgs (fnOf name qual params body scope dV kV doc pm an cdv ct) ⟨args, kws⟩) (fun binds σ₁ => (∀ x ∈ binds, scope.names.lookup x.1 = some .local) ∧ ∃ bs, BindsAre bs binds ∧
      ∀ L', mwp knd (Γ.enter L' σ₁.m) (A.deeper (envOf qual scope L' f cdv)) (execs body (envOf qual scope L' f cdv)) (fun fl σ' => Q (match fl with | .ret v => v | _ => .none) ⟨σ₁.m, σ'.h⟩) ⟨fun x => bs.reverse.lookup x, σ₁.h⟩) σ)
    (ho : KK.lookup f = some ⟨oc, od, .func (fnOf name qual params body scope dV kV doc pm an cdv ct), osl⟩) (hcd : codeIn KK cdv qual = true)
    (hco : scope.isCoroutine = false) (hgen : scope.isGenerator = false) (hk : scope.kind = .function) (hcell : ∀ x ∈ scope.names, x.2 ≠ .cell) :
    mcode knd Γ A (.call (.ref f) ⟨args, kws⟩) Q σ := fun s E R => by
  have kb : ∀ b o, Γ.base.get? b = some o → s.heap.get? b = some o := fun b o e => R.keep b o (Γ.sub b o e)
  refine codeAny_call_function hA.room (kb _ _ (X _ _ ho)) rfl hco hgen rfl ((codeRec_of X hcd).keeps kb) (h.use R fun binds s₁ σ₁ R₁ ⟨hl, bs, ba, hb⟩ => ?_)
  refine wpAny_newFunctionEnv hcell hl (fun h₁ ns sb => ?_) hk
  have kb₁ : ∀ b o, Γ.base.get? b = some o → s₁.heap.get? b = some o := fun b o e => R₁.keep b o (Γ.sub b o e)
  have ext : ∀ b o, s₁.heap.get? b = some o → h₁.get? b = some o := fun b o e => (sb.2 b (Nat.ne_of_lt (Heap.lt_size e))).trans (Heap.get?_push_of_some _ e)
  refine ⟨(hlim.keeps kb₁).keeps ext, codeAny_func ?_⟩
  have R₂ : Rel knd (Γ.enter s₁.heap.objs.size σ₁.m) ⟨fun x => bs.reverse.lookup x, σ₁.h⟩ { s₁ with heap := h₁, toks := s₁.toks + binds.length } :=
    R₁.entered noneAt ⟨_, ns, fun x v e => ba.reverse.lookup e⟩ ext
  refine (hb s₁.heap.objs.size).use R₂ fun fl s' σ' R' q => ?_
  exact ⟨_, R'.leave R.bL R.bO R.lO, q⟩

theorem c_make {C fI : Addr} {args : List Value} {kws : List (Str × Value)} (X : KK.In Γ.base)
    (h : ∀ x dx, σ.h x = none → σ.h dx = none → x ≠ dx → mcode knd Γ (A.under (.builtin "type.__call__" ⟨.ref C :: args, kws⟩)) (.call (.ref fI) ⟨.ref x :: args, kws⟩) (fun v σ' => v = .none ∧ Q (.ref x) σ') ((σ.set dx (.idict [])).set x (.inst C dx [])))
    (hi : findIn KK (.ref C) "__init__" = some (some (.ref fI))) (hm : makesIn KK C = true) (hf : isFn KK (.ref fI) = true) : mwp knd Γ A (call (.ref C) args kws) Q σ := fun s E R => by
  obtain ⟨m', nm, q⟩ := R.cur
  refine wpAny_call (make_K (bridge_F nm) (fun p hp => by
    obtain ⟨b, o⟩ := p
    obtain ⟨a1, a2, a3⟩ := mem_others.mp hp
    exact ⟨a3, a1, noHeap_get _⟩) (news := others s.heap Γ.L Γ.L) (R.kin X) hm hi (beq_iff_eq.mp hf) fun x dx h' F' N' lt lt2 => ?_)
  have gx := (N' (x, instObj C dx) (.head _)).1
  have gd := (N' (dx, emptyDict) (.tail _ (.head _))).1
  have nx := (N' (x, instObj C dx) (.head _)).2.1
  have nd := (N' (dx, emptyDict) (.tail _ (.head _))).2.1
  have keepAll : ∀ b o, b ≠ Γ.L → s.heap.get? b = some o → h'.get? b = some o := fun b o h1 g => (N' (b, o) (.tail _ (.tail _ (mem_others.mpr ⟨h1, h1, g⟩)))).1
  have old : ∀ b o, b ≠ Γ.L → s.heap.get? b = some o → b < dx := fun b o h1 g => lt (b, o) (mem_others.mpr ⟨h1, h1, g⟩)
  have fd : s.heap.get? dx = none := by
    cases z : s.heap.get? dx with
    | none => rfl
    | some o => exact absurd (old dx o nd z) (Nat.lt_irrefl _)
  have fx : s.heap.get? x = none := by
    cases z : s.heap.get? x with
    | none => rfl
    | some o => exact absurd (old x o nx z) (Nat.not_lt.mpr (Nat.le_of_lt lt2))
  have bd : Γ.B dx = none := by
    cases z : Γ.B dx with
    | none => rfl
    | some o => have := R.keep _ _ z; rw [fd] at this; cases this
  have bx : Γ.B x = none := by
    cases z : Γ.B x with
    | none => rfl
    | some o => have := R.keep _ _ z; rw [fx] at this; cases this
  have od : ∀ p ∈ Γ.outs, dx ≠ p.1 := fun p hp z => by obtain ⟨o, ho⟩ := (R.out p hp).get; rw [← z, fd] at ho; cases ho
  have ox : ∀ p ∈ Γ.outs, x ≠ p.1 := fun p hp z => by obtain ⟨o, ho⟩ := (R.out p hp).get; rw [← z, fx] at ho; cases ho
  have hd : σ.h dx = none := by
    cases z : σ.h dx with
    | none => rfl
    | some o => obtain ⟨ob, h1, _⟩ := R.obj _ _ z; rw [fd] at h1; cases h1
  have hx : σ.h x = none := by
    cases z : σ.h x with
    | none => rfl
    | some o => obtain ⟨ob, h1, _⟩ := R.obj _ _ z; rw [fx] at h1; cases h1
  have R₁ : Rel knd Γ (σ.set dx (.idict [])) { s with heap := h' } := R.newN (tk := s.toks) bd nd od (fun b o h1 _ g => keepAll b o h1 g) ⟨m', F'.ns, q⟩ gd ⟨[], 0, rfl, trivial⟩
  have R₂ : Rel knd Γ ((σ.set dx (.idict [])).set x (.inst C dx [])) { s with heap := h' } := R₁.newN (h' := h') (tk := s.toks) bx nx ox (fun b o _ _ g => g) ⟨m', F'.ns, q⟩ gx ⟨#[], rfl, trivial⟩
  refine codeAny_mono (h x dx hx hd (fun z => absurd lt2 (z ▸ Nat.lt_irrefl _)) _ E R₂) fun r s' z => ?_
  rcases r with e | (_ | _ | _ | v)
  · exact z
  · exact z.elim
  · exact z.elim
  · exact z.elim
  · obtain ⟨σ', R', rfl, q'⟩ := z; exact ⟨rfl, σ', R', q'⟩
theorem Dp.make {C : Addr} {args : List Value} {kws : List (Str × Value)} {n : Nat} (h : Dp A (n + 1)) : Dp (A.under (.builtin "type.__call__" ⟨.ref C :: args, kws⟩)) n :=
  ⟨h.hd, by have := h.dp; show A.depth + 1 + _ < _; omega, by have := h.un; show A.units + 1 + _ < _; omega⟩
theorem m_callK {f : Value} {first : List Value} {e : Expr} {rest : List Expr} {pos : Pos} (X : KK.In Γ.base) (h : mwp knd Γ A (spliced (backTo pos (starEach (e :: rest) env))) (fun vs σ₁ => mwp knd Γ A (call f (first ++ vs)) Q σ₁) σ)
    (hk : keepIn KK f = true) (he : starEach (e :: rest) env = (false, eval e env) :: starEach rest env) (hplain : (backTo pos (starEach rest env)).any (·.1) = false) :
    mwp knd Γ A (callWith pos f first (backTo pos (starEach (e :: rest) env)) []) Q σ := fun s E R =>
  callWith_K X hk (h.use R fun vs s₁ σ₁ R₁ q => ⟨R₁.kin X, q s₁ E R₁⟩) he hplain
theorem m_callK0 {f : Value} {first : List Value} {pos : Pos} (X : KK.In Γ.base) (h : mwp knd Γ A (call f (first ++ [])) Q σ) (hk : keepIn KK f = true) :
    mwp knd Γ A (callWith pos f first (backTo pos (starEach [] env)) []) Q σ := fun s E R => callWith_K0 (R.kin X) hk (h s E R)
theorem m_callB {id : String} {first : List Value} {e : Expr} {rest : List Expr} {pos : Pos} (h : mwp knd Γ A (spliced (backTo pos (starEach (e :: rest) env))) (fun vs σ₁ => mwp knd Γ A (call (.builtin id) (first ++ vs)) Q σ₁) σ)
    (he : starEach (e :: rest) env = (false, eval e env) :: starEach rest env) (hplain : (backTo pos (starEach rest env)).any (·.1) = false) :
    mwp knd Γ A (callWith pos (.builtin id) first (backTo pos (starEach (e :: rest) env)) []) Q σ := fun s E R => by
  refine Calls.callWith_builtin (by rw [he]; show (false || _) = false; rw [Bool.false_or]; exact hplain) ?_
  rw [he]
  refine Calls.evalArgs_plain ?_
  have := h.use (E := E) R (fun vs s₁ σ₁ R₁ q => q s₁ E R₁)
  rw [he] at this
  exact this
theorem m_callB0 {id : String} {first : List Value} {pos : Pos} (h : mwp knd Γ A (call (.builtin id) (first ++ [])) Q σ) : mwp knd Γ A (callWith pos (.builtin id) first (backTo pos (starEach [] env)) []) Q σ := fun s E R =>
  Calls.callWith_builtin rfl (evalArgs_nil3 (h s E R))
theorem m_callT {T : String} {e : Expr} {rest : List Expr} {pos : Pos} (h : mwp knd Γ A (spliced (backTo pos (starEach (e :: rest) env))) (fun vs σ₁ => mwp knd Γ A (call (.type T) vs) Q σ₁) σ)
    (he : starEach (e :: rest) env = (false, eval e env) :: starEach rest env) (hplain : (backTo pos (starEach rest env)).any (·.1) = false) :
    mwp knd Γ A (callWith pos (.type T) [] (backTo pos (starEach (e :: rest) env)) []) Q σ := fun s E R => PyProof.Rows.callWith_type1 (h.use R fun vs s₁ σ₁ R₁ q => q s₁ E R₁) he hplain
theorem m_callT0 {T : String} {pos : Pos} (h : mwp knd Γ A (call (.type T) []) Q σ) : mwp knd Γ A (callWith pos (.type T) [] (backTo pos (starEach [] env)) []) Q σ := fun s E R => callWith_type0 (h s E R)

variable {l d : Addr} {xs : List V} {kvs : List (K × V)} {ep : Nat} {pl : Sem Bool} {QM : Value × List Value → MS K → Prop}
theorem m_methList {name : Str} {id : String} (hl : σ.h l = some (.list xs)) (slot : Slot "list" name id) (hty : typeOf (.builtin id) = pure (.type "method_descriptor")) (h : QM (.builtin id, [.ref l]) σ) : mwp knd Γ A (getMethod (.ref l) name pl) QM σ := fun s E R => by
  obtain ⟨vs, n, e, _⟩ := R.listX hl
  exact getMethod_builtin ⟨_, e, rfl⟩ PySem.F.plainAttrs_list slot hty (fun a z => by cases z; exact ⟨_, e, rfl⟩) ⟨σ, R, h⟩
theorem m_methDict {name : Str} {id : String} (hd : σ.h d = some (.dict kvs ep)) (slot : Slot "dict" name id) (hty : typeOf (.builtin id) = pure (.type "method_descriptor")) (h : QM (.builtin id, [.ref d]) σ) : mwp knd Γ A (getMethod (.ref d) name pl) QM σ := fun s E R => by
  obtain ⟨kvs', ⟨o, es, e, x, _⟩, _⟩ := R.dict hd
  exact getMethod_builtin ⟨o, e, x.1⟩ PySem.F.plainAttrs_dict slot hty (fun a z => by cases z; exact ⟨_, e, x.2.1⟩) ⟨σ, R, h⟩

theorem Rel.mapOf (R : Rel knd Γ σ s) (hd : σ.h d = some (.dict kvs ep)) : ∃ kvs', s.heap.DictOf knd d kvs' ∧ PairsAre kvs kvs' := by
  obtain ⟨kvs', ⟨o, es, e, x⟩, pa⟩ := R.dict hd
  exact ⟨kvs', ⟨o, es, ep, e, x⟩, pa⟩
noncomputable def dGet (kvs : List (K × V)) (k : K) : Option V := (kvs.find? fun p => p.1 = k).map (·.2)
theorem PairsAre.find : ∀ {a : List (K × V)} {b : List (K × Value)} {k : K}, PairsAre a b → match dGet a k with | some v => ∃ v', PySem.valueAt b k = some v' ∧ v.is v' | none => PySem.valueAt b k = none
  | [], [], _, _ => rfl
  | (k0, x) :: r, (k1, y) :: r', k, h => by
    obtain ⟨rfl, hx, hr⟩ := h
    unfold dGet PySem.valueAt
    rw [List.find?_cons, List.find?_cons]
    by_cases e : k0 = k
    · simp only [e, decide_true]; exact ⟨y, rfl, hx⟩
    · simp only [e, decide_false]; exact PairsAre.find hr
  | [], _ :: _, _, h => h.elim
  | _ :: _, [], _, h => h.elim
noncomputable def dPut (kvs : List (K × V)) (k : K) (v : V) : List (K × V) := if kvs.any (fun kv => kv.1 = k) then kvs.map (fun kv => if kv.1 = k then (kv.1, v) else kv) else kvs ++ [(k, v)]
theorem PairsAre.any : ∀ {a : List (K × V)} {b : List (K × Value)} {k : K}, PairsAre a b → a.any (fun kv => kv.1 = k) = b.any (fun kv => kv.1 = k)
  | [], [], _, _ => rfl
  | (k0, x) :: r, (k1, y) :: r', k, h => by obtain ⟨rfl, hx, hr⟩ := h; rw [List.any_cons, List.any_cons, PairsAre.any hr]
  | [], _ :: _, _, h => h.elim
  | _ :: _, [], _, h => h.elim
theorem PairsAre.mapPut {k : K} {v : V} {v' : Value} (hv : v.is v') : ∀ {a : List (K × V)} {b : List (K × Value)}, PairsAre a b → PairsAre (a.map (fun kv => if kv.1 = k then (kv.1, v) else kv)) (b.map (fun kv => if kv.1 = k then (kv.1, v') else kv))
  | [], [], _ => trivial
  | (k0, x) :: r, (k1, y) :: r', h => by
    obtain ⟨rfl, hx, hr⟩ := h
    rw [List.map_cons, List.map_cons]
    by_cases e : k0 = k
    · simp only [e, if_true]; exact ⟨rfl, hv, PairsAre.mapPut hv hr⟩
    · simp only [e, if_false]; exact ⟨rfl, hx, PairsAre.mapPut hv hr⟩
  | [], _ :: _, h => h.elim
  | _ :: _, [], h => h.elim
theorem PairsAre.app {k : K} {v : V} {v' : Value} (hv : v.is v') : ∀ {a : List (K × V)} {b : List (K × Value)}, PairsAre a b → PairsAre (a ++ [(k, v)]) (b ++ [(k, v')])
  | [], [], _ => ⟨rfl, hv, trivial⟩
  | (k0, x) :: r, (k1, y) :: r', h => ⟨h.1, h.2.1, PairsAre.app hv h.2.2⟩
  | [], _ :: _, h => h.elim
  | _ :: _, [], h => h.elim
theorem PairsAre.put {a : List (K × V)} {b : List (K × Value)} {k : K} {v : V} {v' : Value} (h : PairsAre a b) (hv : v.is v') : PairsAre (dPut a k v) (PySem.stored b k v') := by
  unfold dPut PySem.stored
  rw [h.any]
  split
  · exact h.mapPut hv
  · exact h.app hv
theorem PairsAre.del {k : K} : ∀ {a : List (K × V)} {b : List (K × Value)}, PairsAre a b → PairsAre (a.filter fun kv => decide (kv.1 ≠ k)) (PySem.without b k)
  | [], [], _ => trivial
  | (k0, x) :: r, (k1, y) :: r', h => by
    obtain ⟨rfl, hx, hr⟩ := h
    unfold PySem.without
    rw [List.filter_cons, List.filter_cons]
    by_cases e : k0 = k
    · simp only [e, ne_eq, not_true, decide_false]; exact PairsAre.del hr
    · simp only [e, ne_eq, not_false_iff, decide_true, if_true]; exact ⟨rfl, hx, PairsAre.del hr⟩
  | [], _ :: _, h => h.elim
  | _ :: _, [], h => h.elim
theorem notSys (R : Rel knd Γ σ s) (hs : ∃ o, Γ.base.get? sysModules = some o) {o : O K} (hd : σ.h d = some o) : (d == sysModules) = false := by
  obtain ⟨ob, e⟩ := hs
  cases z : d == sysModules with
  | false => rfl
  | true =>
    rw [beq_iff_eq] at z
    subst z
    have := R.bH _ _ hd
    rw [Γ.sub _ _ e] at this; cases this
theorem m_dict0 {pos : Pos} (h : ∀ D, σ.h D = none → Q (.ref D) (σ.set D (.dict [] 0))) : mwp knd Γ A (eval (.Dict [] [] pos) env) Q σ := fun s E R =>
  wpAny_Dict_empty ⟨_, R.push (o := .dict [] 0) (tk := s.toks) ⟨#[], [], ⟨rfl, rfl, rfl⟩, rfl, fun _ h => by simp at h, .nil, .nil, trivial⟩, h _ R.fresh⟩
theorem m_dictGetItem {k : K} {key : Value} {v : V} (hd : σ.h d = some (.dict kvs ep)) (hk : knd.is k key = true) (hv : dGet kvs k = some v) (h : ∀ v', v.is v' → Q v' σ) : mwp knd Γ A (getItem (.ref d) key) Q σ := fun s E R => by
  obtain ⟨kvs', dm, pa⟩ := R.mapOf hd
  have := pa.find (k := k)
  rw [hv] at this
  obtain ⟨v', e, iv⟩ := this
  exact wpAny_getItem_of hk dm.mapOf e ⟨σ, R.toks, h v' iv⟩
theorem m_dictSetItem {k : K} {key v' : Value} {v : V} (hd : σ.h d = some (.dict kvs ep)) (hk : knd.is k key = true) (hv : v.is v') (hsz : kvs.length ≤ sizeLine) (h : ∀ ep', QU () (σ.set d (.dict (dPut kvs k v) ep'))) : mwp knd Γ A (setItem (.ref d) key v') QU σ := fun s E R => by
  obtain ⟨kvs', dm, pa⟩ := R.mapOf hd
  refine wpAny_setItem_pairs hk dm (fun h' ⟨o, es, ep', g, x⟩ sb => ?_) (by rw [← pa.length]; exact hsz)
  exact ⟨_, R.change (o := .dict (dPut kvs k v) ep') hd (fun b o hb q => (sb.2 b hb).trans q) g ⟨es, _, x.1, x.2.1, x.2.2.1, x.2.2.2.1, x.2.2.2.2, pa.put hv⟩, h ep'⟩
theorem m_dictDel {k : K} {key : Value} (hd : σ.h d = some (.dict kvs ep)) (hk : knd.is k key = true) (hv : (dGet kvs k).isSome = true) (hsz : kvs.length ≤ sizeLine) (h : ∀ ep', QU () (σ.set d (.dict (kvs.filter fun kv => decide (kv.1 ≠ k)) ep'))) :
    mwp knd Γ A (delItem (.ref d) key) QU σ := fun s E R => by
  obtain ⟨kvs', dm, pa⟩ := R.mapOf hd
  have hT : s.TypeIs (.ref d) "dict" := dm.mapOf.typeIs
  refine wpAny_delItem_slot hT (by decide) F.slot_dict_delitem (call_meetsIn F.slot_dict_delitem hT F.entry_dict_delitem (F.args_dict_delitem_2 _ _) (meets_dict_delitem_pairs knd d hk) ⟨kvs', dm, by rw [← pa.length]; exact hsz, ?_, fun h' ⟨o, es, ep', g, x⟩ sb => ?_⟩)
  · have := pa.find (k := k)
    cases z : dGet kvs k with
    | none => rw [z] at hv; cases hv
    | some v => rw [z] at this; obtain ⟨v', e, _⟩ := this; rw [e]; rfl
  · exact ⟨_, R.change (o := .dict (kvs.filter fun kv => decide (kv.1 ≠ k)) ep') hd (fun b o hb q => (sb.2 b hb).trans q) g ⟨es, _, x.1, x.2.1, x.2.2.1, x.2.2.2.1, x.2.2.2.2, pa.del⟩, h ep'⟩
theorem m_dictGet {k : K} {key : Value} (hsys : ∃ o, Γ.base.get? sysModules = some o) (hd : σ.h d = some (.dict kvs ep)) (hk : knd.is k key = true) (h : ∀ v', ((dGet kvs k).getD .none).is v' → Q v' σ) : mwp knd Γ A (call (.builtin "dict.get") [.ref d, key]) Q σ := fun s E R => by
  obtain ⟨kvs', dm, pa⟩ := R.mapOf hd
  have hT : s.TypeIs (.ref d) "dict" := dm.mapOf.typeIs
  refine call_meetsIn F.slot_dict_get hT F.entry_dict_get (F.args_dict_get_2 _ _) (meets_dict_get knd d hk (notSys R hsys hd)) ⟨_, dm.mapOf, σ, R.toks, h _ ?_⟩
  have := pa.find (k := k)
  cases z : dGet kvs k with
  | none => rw [z] at this; rw [this]; rfl
  | some v => rw [z] at this; obtain ⟨v', e, iv⟩ := this; rw [e]; exact iv
theorem m_dictIn {k : K} {key : Value} (hsys : ∃ o, Γ.base.get? sysModules = some o) (hd : σ.h d = some (.dict kvs ep)) (hk : knd.is k key = true) (h : Q (.bool (dGet kvs k).isSome) σ) : mwp knd Γ A (compareOp .In key (.ref d)) Q σ := fun s E R => by
  obtain ⟨kvs', dm, pa⟩ := R.mapOf hd
  refine wpAny_in_of hk (notSys R hsys hd) dm.mapOf ⟨σ, R.toks, ?_⟩
  have := pa.find (k := k)
  cases z : dGet kvs k with
  | none => rw [z] at this h; rw [this]; exact h
  | some v => rw [z] at this h; obtain ⟨v', e, iv⟩ := this; rw [e]; exact h
theorem m_dictValues (hsys : ∃ o, Γ.base.get? sysModules = some o) (hd : σ.h d = some (.dict kvs ep)) (h : ∀ D, σ.h D = none → Q (.ref D) (σ.set D (.values d))) : mwp knd Γ A (call (.builtin "dict.values") [.ref d]) Q σ := fun s E R => by
  obtain ⟨kvs', dm, pa⟩ := R.mapOf hd
  have hT : s.TypeIs (.ref d) "dict" := dm.mapOf.typeIs
  exact call_meetsIn F.slot_dict_values hT F.entry_dict_values (F.args_dict_values_1 _) (meets_dict_values knd d (notSys R hsys hd)) ⟨⟨_, dm⟩, _, R.push (o := .values d) (tk := s.toks) ⟨rfl, rfl⟩, h _ R.fresh⟩
theorem m_dictItems (hsys : ∃ o, Γ.base.get? sysModules = some o) (hd : σ.h d = some (.dict kvs ep)) (h : ∀ D, σ.h D = none → Q (.ref D) (σ.set D (.items d))) : mwp knd Γ A (call (.builtin "dict.items") [.ref d]) Q σ := fun s E R => by
  obtain ⟨kvs', dm, pa⟩ := R.mapOf hd
  have hT : s.TypeIs (.ref d) "dict" := dm.mapOf.typeIs
  exact call_meetsIn F.slot_dict_items hT F.entry_dict_items (F.args_dict_items_1 _) (meets_dict_items knd d (notSys R hsys hd)) ⟨⟨_, dm⟩, _, R.push (o := .items d) (tk := s.toks) ⟨rfl, rfl⟩, h _ R.fresh⟩

variable {S : K → Bool} {n : Nat} {a : Addr}
theorem Rel.setOf (R : Rel knd Γ σ s) (hs : σ.h a = some (.set S n)) : s.heap.SetOf knd a S n := by
  obtain ⟨o, e, es, ep, t, x⟩ := R.obj a _ hs
  exact ⟨o, es, ep, t, e, x⟩
theorem m_setNew (h : ∀ D, σ.h D = none → Q (.ref D) (σ.set D (.set (fun _ => false) 0))) : mwp knd Γ A (call (.type "set") []) Q σ := fun s E R =>
  call_set_0 fun led => ⟨_, R.push (o := .set (fun _ => false) 0) (tk := s.toks) ⟨#[], 0, _, ⟨rfl, rfl, rfl⟩, rfl, (fun e he => by simp at he), (fun k => by simp), (by decide), (by rfl), rfl⟩, h _ R.fresh⟩
theorem m_setIn {k : K} {key : Value} (hs : σ.h a = some (.set S n)) (hk : knd.is k key = true) (hsc : key.scannable = true) (h : Q (.bool (S k)) σ) : mwp knd Γ A (compareOp .In key (.ref a)) Q σ := fun s E R =>
  wpAny_inSet_of hk hsc (R.setOf hs) ⟨σ, R.toks, h⟩
theorem m_setAdd {k : K} {key : Value} (hs : σ.h a = some (.set S n)) (hk : knd.is k key = true) (hsc : key.scannable = true) (hroom : n + 1 < scanBound) (h : Q .none (σ.set a (.set (fun k' => S k' || decide (k' = k)) (if S k then n else n + 1)))) :
    mwp knd Γ A (call (.builtin "set.add") [.ref a, key]) Q σ := fun s E R =>
  call_set_add hk hsc (R.setOf hs) hroom fun h' sb ⟨o, es, ep, t, g, x⟩ => ⟨_, R.change (o := .set (fun k' => S k' || decide (k' = k)) (if S k then n else n + 1)) hs (fun b o hb q => (sb.2 b hb).trans q) g ⟨es, ep, t, x⟩, h⟩
end
end Mine
end
section
open PySem PySem.W PyProof.Rows PySem.SeqAt
namespace Mine
theorem slot_li_ga : Slot "list_iterator" "__getattribute__" "object.__getattribute__" :=
  .of (owner := "object") (n := "__getattribute__") (by rw [typeLookup_type, builtinLookup_eq_fast]; kernel_rfl) (by decide +kernel) (by decide +kernel) (by decide +kernel)
    (by first | exact .inl (by decide +kernel) | exact .inr (by decide +kernel)) (by rw [isSubtype_type]; kernel_rfl)
theorem slot_wd_get : Slot "wrapper_descriptor" "__get__" "wrapper_descriptor.__get__" :=
  .of (owner := "wrapper_descriptor") (n := "__get__") (by rw [typeLookup_type, builtinLookup_eq_fast]; kernel_rfl) (by decide +kernel) (by decide +kernel) (by decide +kernel)
    (by first | exact .inl (by decide +kernel) | exact .inr (by decide +kernel)) (by rw [isSubtype_type]; kernel_rfl)
theorem entry_wd_get : entryFor table "wrapper_descriptor.__get__" = some Builtin.«wrapper_descriptor.__get__» := entryFor_of_tree (by kernel_rfl)
theorem args_wd_get (a b c : Value) : argsOk "wrapper_descriptor.__get__" ⟨[a, b, c], []⟩ := by unfold argsOk; kernel_rfl
theorem type_li_next : typeOf (.builtin "list_iterator.__next__") = pure (.type "wrapper_descriptor") := by kernel_rfl
open Builtin.ObjectAttr in
set_option maxHeartbeats 1000000 in
theorem getAttr_next {prog : Program} {w : World} {A : Around} {E : Value → Shared → Prop} {s : Shared} {it : Addr} {vs : Array Value} {Q : Value → Shared → Prop}
    (hx : s.heap.get? it = some { cls := .type "list_iterator", data := .fields vs }) (hQ : ∀ tk, Q (.ref s.heap.objs.size) { s with heap := s.heap.push { cls := .type "method-wrapper", data := .fields #[.builtin "list_iterator.__next__", .ref it] }, toks := tk }) : wpAny (model prog w) A (getAttr (.ref it) "__next__" true) Q E s := by
  obtain ⟨hp, g, d, tk, os⟩ := s
  have hT : ∀ tk', (⟨hp, g, d, tk', os⟩ : Shared).TypeIs (.ref it) "list_iterator" := fun _ => ⟨_, hx, rfl⟩
  have f1 := slot_li_ga.lookup
  have f2 := slot_li_ga.bind (.ref it)
  have f3 := slot_listiter_next.lookup
  have fk : builtinKind "list_iterator.__next__" = some .slot := by decide +kernel
  have g1 : typeLookup (.type "wrapper_descriptor") "__get__" = pure (some (.builtin "wrapper_descriptor.__get__")) := by rw [typeLookup_type, builtinLookup_eq_fast]; kernel_rfl
  have g2 : typeLookup (.type "wrapper_descriptor") "__set__" = pure none := by rw [typeLookup_type, builtinLookup_eq_fast]; kernel_rfl
  have g3 : typeLookup (.type "wrapper_descriptor") "__delete__" = pure none := by rw [typeLookup_type, builtinLookup_eq_fast]; kernel_rfl
  have k1 : (".".intercalate (("list_iterator.__next__".cutAt '.').dropLast)) = "list_iterator" := by decide +kernel
  have k2 : isSubtype (.type "list_iterator") (.type "list_iterator") = pure true := by rw [isSubtype_type]; kernel_rfl
  unfold getAttr getAttrBy
  repeat (any_goals (first | assumption | exact hT _ | ((with_reducible show wpAny _ _ (call (Value.builtin "object.__getattribute__") _ _) _ _ _); refine wpAny_call_entry slot_li_ga (hT _) F.entry_object_getattribute ?_ (F.args_object_getattribute_2 _ _); unfold Builtin.«object.__getattribute__»)  | wp_step))
  repeat' (first | (simp only [fk, k1, k2]; fail_if_success done) | assumption | exact hT _ | ((with_reducible show wpAny _ _ (call (Value.builtin "wrapper_descriptor.__get__") _ _) _ _ _); refine wpAny_call_entry slot_wd_get type_li_next entry_wd_get ?_ (args_wd_get _ _ _); unfold Builtin.«wrapper_descriptor.__get__») | wp_step)
  refine ⟨_, rfl, ?_⟩
  refine wpAny_pure ⟨_, rfl, wpAny_pure (hQ _)⟩
set_option maxHeartbeats 400000
section
variable {prog : Program} {w : World} {K : Type} [DecidableEq K] {knd : PySem.KeyKind prog w K} {Γ : Fx} {σ : MS K} {A : Around} {env : Env} {α : Type} {s : Shared} {Q : Value → MS K → Prop} {QB : Bool → MS K → Prop} {QU : Unit → MS K → Prop} {QF : Flow → MS K → Prop}
variable {l it nx : Addr} {xs : List V} {i : Nat}

theorem m_nextAttr (hi : σ.h it = some (.liter l i)) (h : ∀ n, σ.h n = none → Q (.ref n) (σ.set n (.nxt it))) : mwp knd Γ A (getAttr (.ref it) "__next__" true) Q σ := fun s E R => by
  obtain ⟨o, e, rfl⟩ := R.obj _ _ hi
  exact getAttr_next e fun tk => ⟨_, R.push (o := .nxt it) rfl, h _ R.fresh⟩

theorem m_iterList (hl : σ.h l = some (.list xs)) (h : ∀ n, σ.h n = none → Q (.ref n) (σ.set n (.liter l 0))) : mwp knd Γ A (call (.builtin "iter") [.ref l]) Q σ := fun s E R => by
  obtain ⟨vs, e, _⟩ := R.list hl
  refine Calls.call_function_entry (by decide +kernel) (by decide +kernel) kdk_entry_iter (kdk_args_iter _) ?_
  unfold Builtin.«iter»
  refine wpAny_bind (m := someArgs "iter" 1 2 _) (wpAny_of_eq (a := [Value.ref l]) (by first | rfl | kernel_rfl!) ?_)
  show wpAny _ _ (pyIter (.ref l) >>= _) _ _ _
  refine wpAny_bind (wpAny_pyIter_list e ?_)
  exact wpAny_pure ⟨_, rfl, _, R.push (o := .liter l 0) (tk := s.toks) rfl, h _ R.fresh⟩

theorem entry_lin : entryFor table "list_iterator.__next__" = some Builtin.«list_iterator.__next__» := entry_listiter_next
theorem check_lin {a : Addr} : checkBoundCall "list_iterator.__next__" ⟨[.ref a], []⟩ = pure () := by first | kernel_rfl | rfl
theorem quiet_lin {a : Addr} : (Code.builtin "list_iterator.__next__" ⟨[.ref a], []⟩).quiet = true := by first | rfl | decide +kernel | kernel_rfl

noncomputable def MS.del (σ : MS K) (a : Addr) : MS K := ⟨σ.m, fun b => if b = a then none else σ.h b⟩
noncomputable def NewExc (Γ : Fx) (σ : MS K) (h : Heap) (c : Value) (a : Addr) : Prop := (∃ vs, h.get? a = some { cls := c, data := .fields vs } ∧ vs[1]? = some .none) ∧ Γ.B a = none ∧ a ≠ Γ.L ∧ (∀ p ∈ Γ.outs, a ≠ p.1) ∧ σ.h a = none

theorem call_next {E : Value → Shared → Prop} {P : Value → Shared → Prop} (R : Rel knd Γ σ s) (hn : σ.h nx = some (.nxt it)) (hi : σ.h it = some (.liter l i)) (hl : σ.h l = some (.list xs)) (hh : A.handled = none)
    (h1 : ∀ v v' s', xs[i]? = some v → v.is v' → Rel knd Γ (σ.set it (.liter l (i + 1))) s' → P v' s')
    (h2 : ∀ a s', xs[i]? = none → Rel knd Γ (σ.del it) s' → NewExc Γ (σ.del it) s'.heap (.type "StopIteration") a → E (.ref a) s') : wpAny (model prog w) A (call (.ref nx) []) P E s := by
  obtain ⟨on, en, rfl⟩ := R.obj _ _ hn
  obtain ⟨o, ho, rfl⟩ := R.obj _ _ hi
  have hd : ({ cls := .type "list_iterator", data := .fields #[.ref l, .int i 0] } : Obj).data = .fields #[.ref l, .int i 0] := rfl
  obtain ⟨vs, nl, hol, are⟩ := R.listX hl
  refine wpAny_call (codeAny_of_tree ?_)
  show wpAny _ A.in1 (callAny (.ref nx) ⟨[], []⟩) _ _ s
  simp only [callAny]
  refine wpAny_bind (wpAny_load en ?_)
  simp only [show (Value.type "method-wrapper" == Value.type "method" || Value.type "method-wrapper" == Value.type "builtin_function_or_method" || Value.type "method-wrapper" == Value.type "method-wrapper") = true by decide, if_true]
  refine KFB.if_so (by decide) ?_
  refine wpAny_bind (wpAny_of_eq (a := ()) check_lin ?_)
  refine wpAny_bind (wpAny_pure (wpAny_pure ?_))
  refine ⟨quiet_lin, codeAny_builtin entry_lin ?_⟩
  show wpAny _ _ (field (.ref it) 0 >>= _) _ _ s
  refine wpAny_bind (wpAny_field ho hd (x := .ref l) rfl ?_)
  show wpAny _ _ (if (Value.ref l == Value.none) = true then _ else _) _ _ s
  rw [if_neg (show ¬ ((Value.ref l == Value.none) = true) from Bool.false_ne_true)]
  show wpAny _ _ (field (.ref it) 1 >>= _) _ _ s
  refine wpAny_bind (wpAny_field ho hd (x := .int i 0) rfl ?_)
  show wpAny _ _ (seqItems? (.ref l) >>= _) _ _ s
  refine wpAny_bind (wpAny_seqItems hol rfl ?_)
  cases hx : xs[i]? with
  | some v =>
    obtain ⟨v', e', iv⟩ := are.get hx
    have e' : vs[i]? = some v' := by rw [← Array.getElem?_toList]; exact e'
    simp only [Int.toNat_natCast, e']
    refine wpAny_bind (wpAny_setField ho hd (by simp) (wpAny_pure (h1 v v' _ hx iv ?_)))
    refine R.change (tk := s.toks) hi (fun b o' hb q => (Heap.get?_update_other _ _ (Ne.symm hb)).trans q) (Heap.get?_update_self _ ho (Obj.isFreed_of_fields (Obj.data_mapFields hd _))) (by
      show Obj.mapFields _ _ = _
      unfold Obj.mapFields
      simp [rawInt])
  | none =>
    have e' : vs[i]? = none := by
      have e1 : xs.length ≤ i := List.getElem?_eq_none_iff.mp hx
      rw [are.length] at e1
      exact Array.getElem?_eq_none_iff.mpr e1
    simp only [Int.toNat_natCast, e']
    refine wpAny_bind (wpAny_rule (wpAny_bind (wpAny_setField ho hd (by simp) ?_)))
    have R' : Rel knd Γ (σ.del it) { s with heap := s.heap.update it (Obj.mapFields (·.setIfInBounds 0 Value.none)) } := by
      have hdl : (σ.del it).h it = none := by show (if it = it then none else _) = _; rw [if_pos rfl]
      have R1 : Rel knd Γ (σ.del it) s := R.less (fun a o q => by
        have q : (if a = it then none else σ.h a) = some o := q
        split at q
        · cases q
        · exact q) fun _ _ e => e
      exact R1.extBut (tk := s.toks) (R.bH _ _ hi) (fun x => by rw [x, R.hL] at hi; cases hi) (fun p hp x => by rw [x, R.hO p hp] at hi; cases hi) hdl fun b o' hb q => (Heap.get?_update_other _ _ (Ne.symm hb)).trans q
    show wpAny _ _ (newExc (.type "StopIteration") [] >>= _) _ _ _
    refine wpAny_bind ?_
    simp only [newExc, newTuple]
    refine wpAny_bind (wpAny_newObj_type ?_ (by size_fits))
    refine wpAny_bind (m := firstArgMember _ _) (wpAny_of_eq (a := Value.none) (by first | rfl | (simp only [firstArgMember]; rfl)) ?_)
    refine wpAny_newObj_type ?_ (by size_fits)
    simp only [raiseNew]
    refine wpAny_bind (wpAny_handled ?_)
    have hu : ∀ c, (A.under c).handled = none := fun c => hh
    simp only [hu]
    refine wpAny_bind (wpAny_pure (wpAny_throw ?_))
    have R2 := R'.ext (h' := (s.heap.update it (Obj.mapFields (·.setIfInBounds 0 Value.none))).push { cls := Value.type "tuple", data := Data.seq #[] }) (tk := s.toks) fun b o q => Heap.get?_push_of_some _ q
    have R3 := R2.ext (h' := ((s.heap.update it (Obj.mapFields (·.setIfInBounds 0 Value.none))).push { cls := Value.type "tuple", data := Data.seq #[] }).push { cls := Value.type "StopIteration", data := Data.fields (#[Value.ref (s.heap.update it (Obj.mapFields fun x => x.setIfInBounds 0 Value.none)).objs.size, Value.none, Value.none, Value.none, Value.bool false, Value.none] ++ ownMembersOf (Value.type "StopIteration") []) }) (tk := s.toks) fun b o q => Heap.get?_push_of_some _ q
    exact h2 _ _ hx R3 ⟨⟨_, Heap.get?_push_size _ rfl, rfl⟩, R2.freshB, R2.freshL, R2.freshO, R2.fresh⟩

theorem NsAt.slots {h h' : Heap} {L : Addr} {m} {S : List Addr} (x : NsAt h L m) (y : Heap.SlotsOnly S h h') : NsAt h' L m := by
  obtain ⟨m', ⟨o, es, ep, ho, r⟩, q⟩ := x
  obtain ⟨sl, e⟩ := y.2.2 L o ho
  exact ⟨m', ⟨_, es, ep, e, r⟩, q⟩
theorem Rel.slots (R : Rel knd Γ σ s) {h' : Heap} {S : List Addr} (y : Heap.SlotsOnly S s.heap h') (hS : ∀ b ∈ S, b = Γ.L ∨ ∃ p ∈ Γ.outs, p.1 = b) : Rel knd Γ σ { s with heap := h' } where
  keep := fun b o q => (y.2.1 b (fun hb => by
    rcases hS b hb with rfl | ⟨p, hp, rfl⟩
    · rw [R.bL] at q; cases q
    · rw [R.bO p hp] at q; cases q)).trans (R.keep b o q)
  rest := by rw [R.rest]
  cur := R.cur.slots y
  out := fun p hp => (R.out p hp).slots y
  obj := fun a o q => let ⟨ob, h1, h2⟩ := R.obj a o q; ⟨ob, (y.2.1 a (fun hb => by
    rcases hS a hb with rfl | ⟨p, hp, rfl⟩
    · rw [R.hL] at q; cases q
    · rw [R.hO p hp] at q; cases q)).trans h1, h2⟩
  bL := R.bL
  bO := R.bO
  bH := R.bH
  lO := R.lO
  hL := R.hL
  hO := R.hO

theorem Fits.fun (F : Fits Γ A) (R : Rel knd Γ σ s) {l : List Env} (hl : A.frames = some l) : s.heap.FunFrames Γ.base l ∧ ∀ b ∈ l.filterMap (·.frame), b = Γ.L ∨ ∃ p ∈ Γ.outs, p.1 = b := by
  obtain ⟨es, he, hf⟩ := F
  rw [hl] at he; cases he
  clear hl
  have key : ∀ L, (L = Γ.L ∨ ∃ p ∈ Γ.outs, p.1 = L) → Γ.base.get? L = none ∧ ∃ o, s.heap.get? L = some o ∧ ∀ vs, o.data ≠ .fields vs := by
    intro L hL
    have nb : ∀ L, Γ.B L = none → Γ.base.get? L = none := fun L e => by
      cases h : Γ.base.get? L with
      | none => rfl
      | some o => rw [Γ.sub _ _ h] at e; cases e
    have un : ∀ {L m}, NsAt s.heap L m → ∃ o, s.heap.get? L = some o ∧ ∀ vs, o.data ≠ .fields vs := fun ⟨m', ⟨o, es, ep, ho, hd, _⟩, _⟩ => ⟨o, ho, fun vs q => by rw [hd] at q; cases q⟩
    rcases hL with rfl | ⟨p, hp, rfl⟩
    · exact ⟨nb _ R.bL, un R.cur⟩
    · exact ⟨nb _ (R.bO p hp), un (R.out p hp)⟩
  induction l with
  | nil => exact ⟨trivial, fun b hb => by simp at hb⟩
  | cons e r ih =>
    obtain ⟨i1, i2⟩ := ih fun e' he' => hf e' (List.mem_cons_of_mem _ he')
    obtain ⟨k, L, hL, hw⟩ := hf e List.mem_cons_self
    obtain ⟨n1, o, n2, n3⟩ := key L hw
    refine ⟨⟨k, ⟨L, o, hL, n1, n2, n3⟩, i1⟩, fun b hb => ?_⟩
    rw [List.filterMap_cons, hL] at hb
    rcases List.mem_cons.mp hb with e | hb
    · subst e; exact hw
    · exact i2 b hb

noncomputable def OldExc (Γ : Fx) (σ : MS K) (h : Heap) (c : Value) (a : Addr) : Prop := ∃ T oe vs oT ts, (h.get? a = some oe ∧ oe.cls = c ∧ oe.data = .fields vs ∧ vs[1]? = some (.ref T) ∧ h.get? T = some oT ∧ oT.data = .fields ts ∧ 3 < ts.size ∧ T ≠ a) ∧
  (Γ.B a = none ∧ a ≠ Γ.L ∧ (∀ p ∈ Γ.outs, a ≠ p.1) ∧ σ.h a = none) ∧ (Γ.B T = none ∧ T ≠ Γ.L ∧ (∀ p ∈ Γ.outs, T ≠ p.1) ∧ σ.h T = none)

theorem note_new {c : Value} {a : Addr} {outer : List Env} {E : Value → Shared → Prop} {P : Unit → Shared → Prop} (F : Fits Γ A) (hfr : A.frames = some (env :: outer)) (hL : env.frame = some Γ.L) (R : Rel knd Γ σ s) (x : NewExc Γ σ s.heap c a)
    (h : ∀ s', Rel knd Γ σ s' → OldExc Γ σ s'.heap c a → P () s') : wpAny (model prog w) A (noteFrame (.ref a) env) P E s := by
  obtain ⟨⟨vs, he, h1⟩, x1, x2, x3, x4⟩ := x
  obtain ⟨ff, fs⟩ := F.fun R hfr
  unfold noteFrame
  simp only [hL]
  refine wpAny_bind (wpAny_field he rfl h1 ?_)
  rw [if_neg (show ¬ ((Value.none != Value.none) = true) from by decide)]
  refine wpAny_bind (wpAny_frameOf_fun hfr ff hL fun h₁ hs₁ => ?_)
  refine wpAny_bind (wpAny_entryPlaceOf fun pl hpl => ?_)
  unfold EntryCells.newEntry newFields
  refine wpAny_bind (wpAny_newObj_type ?_ (hpl.sizeOk5 _ _ _ _ _))
  have R1 := R.slots hs₁ fs
  have he₁ : h₁.get? a = some _ := (hs₁.2.1 a fun hm => by
    rcases fs a hm with e | ⟨p, hp, e⟩
    · exact x2 e
    · exact x3 p hp e.symm).trans he
  have R2 := R1.ext (h' := h₁.push { cls := .type "traceback", dict := none, data := .fields ([Value.none, .ref Γ.L, .none, rawInt Γ.L, .none] ++ (if pl.isEmpty then List.replicate 6 Value.none else pl)).toArray }) (tk := s.toks) fun b o q => Heap.get?_push_of_some _ q
  have hTe : h₁.objs.size ≠ a := Nat.ne_of_gt (Heap.lt_size he₁)
  have he₂ := Heap.get?_push_of_some (h := h₁) { cls := .type "traceback", dict := none, data := .fields ([Value.none, .ref Γ.L, .none, rawInt Γ.L, .none] ++ (if pl.isEmpty then List.replicate 6 Value.none else pl)).toArray } he₁
  refine wpAny_setField he₂ rfl (Array.getElem?_eq_some_iff.mp h1).1 (h _ (R2.extBut (tk := s.toks) (I := a) x1 x2 x3 x4 fun b o hb q => (Heap.get?_update_other _ _ (Ne.symm hb)).trans q) ?_)
  refine ⟨h₁.objs.size, _, _, _, _, ⟨Heap.get?_update_self _ he₂ (Obj.isFreed_of_fields (Obj.data_mapFields rfl _)), Obj.cls_mapFields _ _, Obj.data_mapFields rfl _, ?_, (Heap.get?_update_other _ _ (Ne.symm hTe)).trans (Heap.get?_push_size h₁ rfl), rfl, ?_, hTe⟩, ⟨x1, x2, x3, x4⟩, ⟨R1.freshB, R1.freshL, R1.freshO, R1.fresh⟩⟩
  · simp [(Array.getElem?_eq_some_iff.mp h1).1]
  · simp

theorem flight_old {c : Value} {a : Addr} {E : Value → Shared → Prop} {P : Unit → Shared → Prop} (R : Rel knd Γ σ s) (x : OldExc Γ σ s.heap c a)
    (h : ∀ s', Rel knd Γ σ s' → OldExc Γ σ s'.heap c a → P () s') : wpAny (model prog w) A (setFlight (.ref a) none) P E s := by
  obtain ⟨T, oe, vs, oT, ts, ⟨he, hc, hd, h1, hT, hdT, h3, hTe⟩, xa, x1, x2, x3, x4⟩ := x
  unfold setFlight
  refine wpAny_bind (wpAny_field he hd h1 ?_)
  rw [if_pos (show (Value.ref T != Value.none) = true from by simp)]
  refine wpAny_setField hT hdT h3 (h _ (R.extBut (tk := s.toks) (I := T) x1 x2 x3 x4 fun b o hb q => (Heap.get?_update_other _ _ (Ne.symm hb)).trans q) ?_)
  exact ⟨T, oe, vs, _, _, ⟨(Heap.get?_update_other _ _ hTe).trans he, hc, hd, h1, Heap.get?_update_self _ hT (Obj.isFreed_of_fields (Obj.data_mapFields hdT _)), Obj.data_mapFields hdT _, by simpa using h3, hTe⟩, xa, x1, x2, x3, x4⟩

theorem callWith_nx {pos : Pos} {E : Value → Shared → Prop} {P : Value → Shared → Prop} (R : Rel knd Γ σ s) (hn : σ.h nx = some (.nxt it)) (h : wpAny (model prog w) A (call (.ref nx) []) P E s) : wpAny (model prog w) A (callWith pos (.ref nx) [] (backTo pos (starEach [] env)) []) P E s := by
  obtain ⟨on, en, rfl⟩ := R.obj _ _ hn
  unfold callWith
  refine wpAny_bind (wpAny_holding (evalArgs_nil3 (wpAny_bind (wpAny_standAt ?_))))
  refine wpAny_bind (m := keeperOf (.ref nx)) ?_
  unfold keeperOf
  refine wpAny_bind (wpAny_load en ?_)
  refine wpAny_pure ?_
  show wpAny _ _ (call (.ref nx) [] [] >>= _) _ _ _
  exact wpAny_bind (wpAny_mono h (fun r s₂ hr => wpAny_bind (wpAny_holding (wpAny_point (wpAny_pure hr)))) fun _ _ x => x)

theorem st_exc : isSubtype (.type "StopIteration") (.type "BaseException") = pure true := by rw [isSubtype_type]; kernel_rfl
theorem st_nt : isSubtype (.type ((Manifest.find? "StopIteration").elim "type" fun x => x.metatype)) (.type "tuple") = pure false := by rw [isSubtype_type]; kernel_rfl
theorem st_st : isSubtype (.type "StopIteration") (.type "StopIteration") = pure true := by rw [isSubtype_type]; kernel_rfl

theorem m_TryNext {x : Str} {func : Expr} {mg mb : Str → Option Value} (hg : Γ.base.Ns mainGlobals mg) (hm : mg "StopIteration" = none) (hb : Γ.base.Ns builtinsNs mb) (hv : mb "StopIteration" = some (.type "StopIteration")) {p0 p1 p2 p3 p4 p5 p6 : Pos} {b₀ : Stmt} {suite : List Stmt} {outer : List Env} (F : Fits Γ A) (hfr : A.frames = some (env :: outer)) (hL : env.frame = some Γ.L) (hh : A.handled = none)
    (h : mwp knd Γ A (eval func env) (fun f σ₁ => ∃ nx it l i xs, f = .ref nx ∧ σ₁.h nx = some (.nxt it) ∧ σ₁.h it = some (.liter l i) ∧ σ₁.h l = some (.list xs) ∧
      (∀ v v', xs[i]? = some v → v.is v' → mwp knd Γ A (storeName env x v') (fun _ σ₂ => QF .brk σ₂) (σ₁.set it (.liter l (i + 1)))) ∧
      (xs[i]? = none → ∀ e, mwp knd Γ (A.mark (some (.ref e))) (execs (b₀ :: suite) env) QF (σ₁.del it))) σ)
    (hs : swapsWith (.Call func [] [] p2) (some (.Name x p1)) p3.line env = pure false)
    (he : eval (.Call func [] [] p2) env = (do callWith p2 (← eval func env) [] (backTo p2 (starEach [] env)) (backToKw p2 (keywordEach [] env))))
    (hk : env.scope.kind = .function) (hl : env.kindOf "StopIteration" = some .globalImplicit) (hge : env.globals = mainGlobals) (hf : env.builtins = builtinsNs) :
    mwp knd Γ A (exec (.Try [.Assign [.Name x p1] (.Call func [] [] p2) p3, .Break p4] [.ExceptHandler (some (.Name "StopIteration" p0)) none (b₀ :: suite) p5] [] [] p6) env) QF σ := fun s E R => by
  refine wpAny_Try_except ?_
  refine wpAny_execs_cons (wpAny_Assign_Name (Call_ (h.use R fun f s₁ σ₁ R₁ q => ?_) he) hs)
  obtain ⟨nx, it, l, i, xs, rfl, q1, q2, q3, q4, q5⟩ := q
  refine callWith_nx R₁ q1 (call_next R₁ q1 q2 q3 hh (fun v v' s₂ e1 e2 R₂ => ?_) fun a s₂ e1 R₂ X => ?_)
  · refine (q4 v v' e1 e2).use R₂ fun _ s₃ σ₃ R₃ q => ?_
    refine wpAny_execs_cons (wpAny_Break ?_)
    exact ⟨σ₃, R₃, q⟩
  · refine note_new F hfr hL R₂ X fun s₃ R₃ X₃ => flight_old R₃ X₃ fun s₄ R₄ X₄ => ?_
    have k2 := q5 e1 a
    refine wpAny_handleBy_builtin (X := "StopIteration") (T := "StopIteration") (b := true) st_exc st_nt st_st ?_
    have n : s₄.heap.Ns env.globals mg := hge ▸ hg.keeps fun b o e => R₄.keep b o (Γ.sub b o e)
    have n' : s₄.heap.Ns env.builtins mb := hf ▸ hb.keeps fun b o e => R₄.keep b o (Γ.sub b o e)
    have : loadName env "StopIteration" = loadGlobal env "StopIteration" := by unfold loadName; simp [hk, hl, ScopeKind.isAnnotationScope, Env.blockKind]
    refine wpAny_Name ?_ (by decide)
    rw [this]
    refine Calls.loadGlobal_builtin n hm n' hv ⟨rfl, ?_, ?_⟩
    · obtain ⟨_, oe, _, _, _, ⟨he, hc, _⟩, _⟩ := X₄
      exact ⟨oe, he, hc⟩
    · rw [if_pos rfl]
      exact flight_old R₄ X₄ fun s₅ R₅ X₅ => k2 s₅ _ R₅
end
end Mine
end
section
open PySem PySem.W PyProof.Rows PySem.SeqAt
set_option maxHeartbeats 400000
namespace Mine
noncomputable def names (l : List (Str × V)) : Str → Option V := fun x => (l.find? fun p => x = p.1).map (·.2)
noncomputable def Sub (f g : Str → Option V) : Prop := ∀ x v, f x = some v → g x = some v
theorem Sub.nil {g : Str → Option V} : Sub (names []) g := fun x v e => by cases e
theorem Sub.cons {g : Str → Option V} {a : Str} {v : V} {l : List (Str × V)} (h : g a = some v) (r : Sub (names l) g) : Sub (names ((a, v) :: l)) g := fun x u e => by
  unfold names at e
  rw [List.find?_cons] at e
  by_cases q : x = a
  · simp only [q, decide_true, Option.map_some, Option.some.injEq] at e; rw [q, ← e]; exact h
  · simp only [q, decide_false] at e; exact r x u e
noncomputable def subL (g : Str → Option V) : List (Str × V) → List (Option V) := @List.rec _ (fun _ => List (Option V)) [] fun p _ r => g p.1 :: r
noncomputable def subR : List (Str × V) → List (Option V) := @List.rec _ (fun _ => List (Option V)) [] fun p _ r => some p.2 :: r
theorem Sub.of {g : Str → Option V} : ∀ {l : List (Str × V)}, subL g l = subR l → Sub (names l) g
  | [], _ => Sub.nil
  | (_, _) :: _, h => Sub.cons (List.cons.inj h).1 (Sub.of (List.cons.inj h).2)

structure Here (KK : Frag) (p : Program) (loose : List Str) (mg mb : Str → Option Value) (b : Heap) : Prop where
  X : KK.In b
  T : TopRead p loose mg mb b
  sys : ∃ o, b.get? sysModules = some o

section
variable {prog : Program} {w : World} {K : Type} [DecidableEq K] {knd : PySem.KeyKind prog w K} {Γ : Fx} {σ : MS K} {A : Around} {env : Env} {α : Type} {s : Shared} {Q : Value → MS K → Prop} {QB : Bool → MS K → Prop} {QU : Unit → MS K → Prop} {QF : Flow → MS K → Prop}
variable {KK : Frag} {p : Program} {loose : List Str} {mg mb : Str → Option Value} {t u : Tok}

theorem m_weak {c : Sem α} {Q : α → MS K → Prop} {m' : Str → Option V} {h' : Addr → Option (O K)} (hm : Sub m' σ.m) (hh : ∀ a o, h' a = some o → σ.h a = some o) (h : mwp knd Γ A c Q ⟨m', h'⟩) : mwp knd Γ A c Q σ :=
  fun s E R => h s E (R.less hh hm)

theorem m_gK {x : Str} {v : Value} (Z : Here KK p loose mg mb Γ.base) (h : Q v σ) (e : nsIn KK mainGlobals x = some (some v)) (hk : env.scope.kind = .function) (hl : env.kindOf x = some .globalImplicit)
    (he : env.globals = mainGlobals) : mwp knd Γ A (loadName env x) Q σ := m_global Z.T.g (mg_of Z.X Z.T.g e) h hk hl he
theorem m_gB {x : Str} {v : Value} (Z : Here KK p loose mg mb Γ.base) (h : Q v σ) (e : nsIn KK mainGlobals x = some none) (hv : bootBuiltins x = some v) (hn : x ≠ "__name__") (hk : env.scope.kind = .function) (hl : env.kindOf x = some .globalImplicit)
    (he : env.globals = mainGlobals) (hf : env.builtins = builtinsNs) : mwp knd Γ A (loadName env x) Q σ :=
  m_builtin Z.T.g (mg_none_of Z.X Z.T.g e) Z.T.b ((Z.T.builtins x hn).trans hv) h hk hl he hf

theorem m_lr {x : Str} {a : Addr} (hm : σ.m x = some (.ref a)) (h : Q (.ref a) σ) (hk : env.scope.kind = .function) (hl : env.kindOf x = some .local) (he : env.locals = Γ.L) : mwp knd Γ A (loadName env x) Q σ :=
  m_load hm (fun v' e => (show v' = _ from e) ▸ h) hk hl he
end
end Mine
end
section
open PySem PySem.W PyProof.Rows PySem.SeqAt
set_option maxHeartbeats 400000
namespace Mine
section
variable {prog : Program} {w : World} {K : Type} [DecidableEq K] {knd : PySem.KeyKind prog w K} {Γ : Fx} {σ : MS K} {A : Around} {env : Env} {α : Type} {s : Shared} {Q : Value → MS K → Prop} {QB : Bool → MS K → Prop} {QU : Unit → MS K → Prop} {QF : Flow → MS K → Prop}
variable {KK : Frag} {p : Program} {loose : List Str} {mg mb : Str → Option Value} {t u : Tok}

theorem m_sti {x : Str} {i : Int} {Q : Unit → MS K → Prop} (h : Q () (σ.store x (.int i))) (hk : env.scope.kind = .function) (hl : env.kindOf x = some .local) (he : env.locals = Γ.L) : mwp knd Γ A (storeName env x (.int i t)) Q σ := m_store (v := .int i) ⟨_, rfl⟩ h hk hl he
theorem m_sts {x : Str} {i : Str} {Q : Unit → MS K → Prop} (h : Q () (σ.store x (.str i))) (hk : env.scope.kind = .function) (hl : env.kindOf x = some .local) (he : env.locals = Γ.L) : mwp knd Γ A (storeName env x (.str i t)) Q σ := m_store (v := .str i) ⟨_, rfl⟩ h hk hl he
theorem m_stb {x : Str} {i : Bool} {Q : Unit → MS K → Prop} (h : Q () (σ.store x (.bool i))) (hk : env.scope.kind = .function) (hl : env.kindOf x = some .local) (he : env.locals = Γ.L) : mwp knd Γ A (storeName env x (.bool i)) Q σ := m_store (v := .bool i) rfl h hk hl he
theorem m_str' {x : Str} {i : Addr} {Q : Unit → MS K → Prop} (h : Q () (σ.store x (.ref i))) (hk : env.scope.kind = .function) (hl : env.kindOf x = some .local) (he : env.locals = Γ.L) : mwp knd Γ A (storeName env x (.ref i)) Q σ := m_store (v := .ref i) rfl h hk hl he
theorem m_stn {x : Str} {Q : Unit → MS K → Prop} (h : Q () (σ.store x .none)) (hk : env.scope.kind = .function) (hl : env.kindOf x = some .local) (he : env.locals = Γ.L) : mwp knd Γ A (storeName env x .none) Q σ := m_store (v := .none) rfl h hk hl he
theorem m_sty {x : Str} {b : Array UInt8} {Q : Unit → MS K → Prop} (h : Q () (σ.store x (.bytes b))) (hk : env.scope.kind = .function) (hl : env.kindOf x = some .local) (he : env.locals = Γ.L) : mwp knd Γ A (storeName env x (.bytes b t)) Q σ := m_store (v := .bytes b) ⟨_, rfl⟩ h hk hl he
theorem m_stf {x : Str} {r : Value} {Q : Unit → MS K → Prop} (h : Q () (σ.store x (.fn r))) (hk : env.scope.kind = .function) (hl : env.kindOf x = some .local) (he : env.locals = Γ.L) : mwp knd Γ A (storeName env x r) Q σ := m_store (v := .fn r) rfl h hk hl he
theorem m_ciR {x : Str} {c : Addr} {i : Addr} (hm : σ.h c = some (.cell (some (.ref i)))) (h : Q (.ref i) σ) (hk : env.scope.kind = .function) (hl : env.kindOf x = some .cell) (he : env.cells.lookup x = some c) : mwp knd Γ A (loadName env x) Q σ := m_loadCell hm (fun v' e => (show v' = _ from e) ▸ h) hk hl he
theorem m_bind0 {fd : FuncData} {args : Args} {binds : List (Str × Value)} {Q : List (Str × Value) → MS K → Prop} (e : bindArgs fd args = pure binds) (h : Q binds σ) : mwp knd Γ A (bindArgs fd args) Q σ := fun s E R => by
  rw [e]; exact wpAny_pure ⟨σ, R, h⟩

theorem m_methStr {name : Str} {id : String} {x : Str} {pl : Sem Bool} {QM : Value × List Value → MS K → Prop} (slot : Slot "str" name id) (hty : typeOf (.builtin id) = pure (.type "method_descriptor")) (h : QM (.builtin id, [.str x t]) σ) : mwp knd Γ A (getMethod (.str x t) name pl) QM σ := fun s E R =>
  getMethod_builtin (typeIs_str _ _ _) PySem.F.plainAttrs_str slot hty (fun a z => by cases z) ⟨σ, R, h⟩

theorem mcode_less {c : Code} {Q' : Value → MS K → Prop} (h : mcode knd Γ A c Q' σ) (q : ∀ v σ', Q' v σ' → ∃ σ'', (∀ a o, σ''.h a = some o → σ'.h a = some o) ∧ (∀ x v, σ''.m x = some v → σ'.m x = some v) ∧ Q v σ'') : mcode knd Γ A c Q σ := fun s E R => codeAny_mono (h s E R) fun r s' z => by
  rcases r with e | (_ | _ | _ | v)
  · exact z
  · exact z
  · exact z
  · exact z
  · obtain ⟨σ', R', q'⟩ := z
    obtain ⟨σ'', h1, h2, h3⟩ := q v σ' q'
    exact ⟨σ'', R'.less h1 h2, h3⟩
theorem m_post {c : Sem α} {Q Q' : α → MS K → Prop} (h : mwp knd Γ A c Q' σ) (q : ∀ v σ', Q' v σ' → ∃ σ'', (∀ a o, σ''.h a = some o → σ'.h a = some o) ∧ (∀ x v, σ''.m x = some v → σ'.m x = some v) ∧ Q v σ'') : mwp knd Γ A c Q σ := fun s E R =>
  h.use R fun v s' σ' R' q' => let ⟨σ'', h1, h2, h3⟩ := q v σ' q'; ⟨σ'', R'.less h1 h2, h3⟩
theorem binds_zip : ∀ {ns : List Str} {vs : List V} {vals : List Value}, Are vs vals → BindsAre (ns.zip vs) (ns.zip vals)
  | [], _, _, _ => by simp only [List.zip_nil_left]; exact .nil
  | _ :: _, [], _, h => by cases h; exact .nil
  | n :: ns, v :: vs, _, h => by cases h with | cons h1 h2 => exact .cons h1 (binds_zip h2)
theorem m_splE {e : Expr} {rest : List Expr} {pos : Pos} {Q : List Value → MS K → Prop} (h : mwp knd Γ A (eval e env) (fun v σ₁ => mwp knd Γ A (spliced (backTo pos (starEach rest env))) (fun vs σ₂ => Q (v :: vs) σ₂) σ₁) σ)
    (he : starEach (e :: rest) env = (false, eval e env) :: starEach rest env) : mwp knd Γ A (spliced (backTo pos (starEach (e :: rest) env))) Q σ := by
  rw [he]; exact m_spl h
theorem m_splE0 {pos : Pos} {Q : List Value → MS K → Prop} (h : Q [] σ) : mwp knd Γ A (spliced (backTo pos (starEach [] env))) Q σ := m_spl0 h
theorem noPylong {x y : Int} (h : y.natAbs < 2 ^ 64) : Builtin.divisionGoesByPylong x y = false := by
  unfold Builtin.divisionGoesByPylong
  have : ¬ ((if y == 0 then 0 else y.natAbs.log2 / 30 + 1) > 300) := by
    split
    · omega
    · rename_i e
      have h0 : y.natAbs ≠ 0 := by simpa using e
      have : y.natAbs.log2 < 64 := (Nat.log2_lt h0).mpr h
      omega
  simp only [decide_eq_false this, Bool.false_and]
theorem ite_of {c : Prop} [Decidable c] {P R : Prop} (h1 : c → P) (h2 : ¬ c → R) : if c then P else R := by
  by_cases h : c
  · rw [if_pos h]; exact h1 h
  · rw [if_neg h]; exact h2 h
theorem m_callZ {f : Value} {first : List Value} {e : Expr} {rest : List Expr} {pos : Pos} (Z : Here KK p loose mg mb Γ.base) (h : mwp knd Γ A (spliced (backTo pos (starEach (e :: rest) env))) (fun vs σ₁ => mwp knd Γ A (call f (first ++ vs)) Q σ₁) σ)
    (hk : keepIn KK f = true) (he : starEach (e :: rest) env = (false, eval e env) :: starEach rest env) (hplain : (backTo pos (starEach rest env)).any (·.1) = false) :
    mwp knd Γ A (callWith pos f first (backTo pos (starEach (e :: rest) env)) []) Q σ := m_callK Z.X h hk he hplain
theorem m_callZ0 {f : Value} {first : List Value} {pos : Pos} (Z : Here KK p loose mg mb Γ.base) (h : mwp knd Γ A (call f (first ++ [])) Q σ) (hk : keepIn KK f = true) :
    mwp knd Γ A (callWith pos f first (backTo pos (starEach [] env)) []) Q σ := m_callK0 Z.X h hk
theorem c_fun {f : Addr} {args : List Value} {kws : List (Str × Value)} {name qual : Str} {params : Arguments} {body : List Stmt} {scope : Scope} {dV kV doc pm cdv ct oc : Value} {an od : Option Addr} {osl : Array (Option Value)} {n : Nat} (ns : List Str) (vs : List V) {vals : List Value}
    (Z : Here KK p loose mg mb Γ.base) (hA : Dp A n)
    (hv : Are vs vals)
    (h : ∀ L', mwp knd (Γ.enter L' σ.m) (A.deeper (envOf qual scope L' f cdv)) (execs body (envOf qual scope L' f cdv)) (funQ σ.m Q) ⟨fun x => (ns.zip vs).reverse.lookup x, σ.h⟩)
    (ho : KK.lookup f = some ⟨oc, od, .func (fnOf name qual params body scope dV kV doc pm an cdv ct), osl⟩)
    (hb : bindArgs (fnOf name qual params body scope dV kV doc pm an cdv ct) ⟨args, kws⟩ = pure (ns.zip vals)) (hcd : codeIn KK cdv qual = true)
    (hlk : ∀ x ∈ ns, scope.names.lookup x = some .local)
    (hco : scope.isCoroutine = false) (hgen : scope.isGenerator = false) (hk : scope.kind = .function) (hcell : ∀ x ∈ scope.names, x.2 ≠ .cell) :
    mcode knd Γ A (.call (.ref f) ⟨args, kws⟩) Q σ :=
  mcode_less (c_def (Q := fun v σ' => ∃ h', (∀ a o, h' a = some o → σ'.h a = some o) ∧ σ'.m = σ.m ∧ Q v ⟨σ.m, h'⟩) hA Z.X Z.T.nolimit (m_bind0 hb ⟨fun x hx => hlk x.1 (List.of_mem_zip (a := x.1) (b := x.2) hx).1, _, binds_zip hv, fun L' => mwp_mono (h L') fun fl σ' ⟨h', q1, q2⟩ => ⟨h', q1, rfl, q2⟩⟩) ho hcd hco hgen hk hcell)
    fun v σ' ⟨h', q1, q2, q3⟩ => ⟨⟨σ.m, h'⟩, q1, fun x v e => by rw [q2]; exact e, q3⟩
theorem m_abs {c : Sem α} {Q : α → MS K → Prop} (h : ∀ Q' : α → MS K → Prop, (∀ a σ, Q a σ → Q' a σ) → mwp knd Γ A c Q' σ) : mwp knd Γ A c Q σ := h Q fun _ _ e => e
end

end Mine
end
section
open PySem PySem.W PyProof.Rows PySem.SeqAt PySem.Builtin PySem.Builtin.Str
set_option maxHeartbeats 400000
namespace Mine
noncomputable def T (l : List Nat) : Str := ⟨l.toArray⟩
theorem T_len (l : List Nat) : (T l).length = l.length := by show l.toArray.size = _; simp
theorem T_inj {a b : List Nat} (h : T a = T b) : a = b := by
  have : (T a).cps = (T b).cps := by rw [h]
  simpa [T] using this
theorem T_beq (a b : List Nat) : (T a == T b) = decide (a = b) := by
  by_cases h : a = b
  · subst h; simp
  · rw [decide_eq_false h]; exact beq_eq_false_iff_ne.mpr fun e => h (T_inj e)
theorem T_bne (a b : List Nat) : (T a != T b) = decide (a ≠ b) := by
  rw [bne, T_beq]; simp
theorem T_app (a b : List Nat) : T a ++ T b = T (a ++ b) := by
  show (Str.mk _ : Str) = Str.mk _
  simp [T]
theorem range_pick (l : List Nat) (lo n : Nat) (h : lo + n ≤ l.length) : ((List.range n).map fun (k : Nat) => ((lo : Int) + 1 * (k : Int)).toNat).filterMap (fun i => l.toArray[i]?) = (l.drop lo).take n := by
  induction n with
  | zero => simp
  | succ n ih =>
    rw [List.range_succ, List.map_append, List.filterMap_append, ih (by lia)]
    have e : ((lo : Int) + 1 * (n : Int)).toNat = lo + n := by lia
    simp only [List.map_cons, List.map_nil, List.filterMap_cons, e, List.filterMap_nil, List.getElem?_toArray]
    rw [List.getElem?_eq_getElem (by lia)]
    rw [List.take_add_one, List.getElem?_drop, List.getElem?_eq_getElem (by lia)]
    rfl
theorem slice_of {l : List Nat} {a b : Option Int} {lo n : Nat} (h : lo + n ≤ l.length) (e : strSliceIndices a b 1 l.length = (List.range n).map fun (k : Nat) => ((lo : Int) + 1 * (k : Int)).toNat) : Txt.slice (T l) a b = T ((l.drop lo).take n) := by
  unfold Txt.slice
  rw [T_len, e]
  split
  · rename_i q
    simp at q
    have : lo = 0 := by lia
    subst this; subst q; simp
  · show (Str.mk _ : Str) = Str.mk _
    congr 1
    rw [show (T l).cps = l.toArray from rfl, range_pick l lo n h]
theorem slice_drop {l : List Nat} {k : Nat} (h : k ≤ l.length) : Txt.slice (T l) (some (k : Int)) none = T (l.drop k) := by
  rw [slice_of (lo := k) (n := l.length - k) (by lia)]
  · rw [List.take_of_length_le (by simp)]
  · unfold strSliceIndices sliceRange
    simp only [show (1 : Int) > 0 by decide, if_true, show ¬ ((k : Int) < 0) by lia, if_false, Int.ediv_one]
    have e1 : max (0 : Int) (min (k : Int) (l.length : Int)) = k := by lia
    rw [e1]
    congr 2
    split <;> lia
theorem slice_none (l : List Nat) : Txt.slice (T l) none none = T l := by
  rw [slice_of (lo := 0) (n := l.length) (by lia)]
  · simp
  · unfold strSliceIndices sliceRange
    simp only [show (1 : Int) > 0 by decide, if_true, Int.ediv_one]
    congr 2
    split <;> lia
theorem slice_neg {l : List Nat} {k : Nat} (h0 : 0 < k) (h : k ≤ l.length) : Txt.slice (T l) none (some (-(k : Int))) = T (l.take (l.length - k)) := by
  rw [slice_of (lo := 0) (n := l.length - k) (by lia)]
  · simp
  · unfold strSliceIndices sliceRange
    simp only [show (1 : Int) > 0 by decide, if_true, show (-(k : Int) < 0) by lia, Int.ediv_one]
    have e1 : max (0 : Int) (min (-(k : Int) + l.length) (l.length : Int)) = ((l.length - k : Nat) : Int) := by lia
    rw [e1]
    congr 2
    split <;> lia
theorem slice_take {l : List Nat} {k : Nat} (h : k ≤ l.length) : Txt.slice (T l) none (some (k : Int)) = T (l.take k) := by
  rw [slice_of (lo := 0) (n := k) (by lia)]
  · simp
  · unfold strSliceIndices sliceRange
    simp only [show (1 : Int) > 0 by decide, if_true, show ¬ ((k : Int) < 0) by lia, if_false, Int.ediv_one]
    have e1 : max (0 : Int) (min (k : Int) (l.length : Int)) = k := by lia
    rw [e1]
    congr 2
    split <;> lia
theorem at_pos {l : List Nat} {k c : Nat} (h : l[k]? = some c) : (seqIndex? (k : Int) (T l).length).bind ((T l).cps[·]?) = some c := by
  have hk := (List.getElem?_eq_some_iff.mp h).1
  rw [T_len]; unfold seqIndex?
  simp only [show ¬ ((k : Int) < 0) by lia, if_false]
  rw [if_pos (by simp; lia)]
  show l.toArray[((k : Int)).toNat]? = _
  simpa using h
theorem at_neg {l : List Nat} {k c : Nat} (hk : k < l.length) (h : l[l.length - k - 1]? = some c) : (seqIndex? (-(k : Int) - 1) (T l).length).bind ((T l).cps[·]?) = some c := by
  rw [T_len]; unfold seqIndex?
  simp only [show (-(k : Int) - 1 < 0) by lia, if_true]
  rw [if_pos (by simp; lia)]
  show l.toArray[((-(k : Int) - 1 + l.length)).toNat]? = _
  rw [show (-(k : Int) - 1 + l.length).toNat = l.length - k - 1 by lia]
  simpa using h

noncomputable def sCost (a b : Str) : Int := if a == b then 0 else if Txt.lower a == Txt.lower b then 1 else 2
noncomputable def sc (x y : Nat) : Int := sCost (T [x]) (T [y])
noncomputable def inner (x : Nat) : List Nat → List Int → Int → Int → Int → List Int × Int × Int
  | c :: a, r :: row, d, res, mn =>
    let res' := min (min res r + 2) (d + sc x c)
    let q := inner x a row r res' (if res' < mn then res' else mn)
    (res' :: q.1, q.2)
  | _, _, _, res, mn => ([], res, mn)
noncomputable def rows (a : List Nat) (mx : Int) : List Nat → Nat → List Int → Int → Int
  | [], _, _, res => res
  | x :: b, k, row, res =>
    let q := inner x a row (2 * k) (2 * k) 9223372036854775807
    if q.2.2 > mx then mx + 1 else rows a mx b (k + 1) q.1 q.2.1
noncomputable def stripP : List Nat → List Nat → List Nat × List Nat
  | x :: a, y :: b => if x = y then stripP a b else (x :: a, y :: b)
  | a, b => (a, b)
noncomputable def stripS (a b : List Nat) : List Nat × List Nat := let q := stripP a.reverse b.reverse; (q.1.reverse, q.2.reverse)
noncomputable def row0 (n : Nat) : List Int := (List.range n).map fun i : Nat => 2 + (i : Int) * 2
noncomputable def levC (a b : List Nat) (mx : Int) : Int :=
  if ((b.length : Int) - a.length) * 2 > mx then mx + 1 else rows a mx b 0 (row0 a.length) 0
noncomputable def levB (a b : List Nat) (mx : Int) : Int :=
  if a = [] ∨ b = [] then 2 * ((a.length : Int) + b.length) else
  if a.length > 40 ∨ b.length > 40 then mx + 1 else
  if b.length < a.length then levC b a mx else levC a b mx
noncomputable def lev (a b : List Nat) (mx : Int) : Int :=
  if a = b then 0 else
  let q := stripP a b
  let r := stripS q.1 q.2
  levB r.1 r.2 mx
end Mine
end
section
open PySem PySem.W PyProof.Rows PySem.SeqAt
set_option maxHeartbeats 400000
namespace Mine
section
variable {prog : Program} {w : World} {K : Type} [DecidableEq K] {knd : PySem.KeyKind prog w K} {Γ : Fx} {σ : MS K} {A : Around} {env : Env} {α : Type} {s : Shared} {Q : Value → MS K → Prop} {QB : Bool → MS K → Prop} {QU : Unit → MS K → Prop} {QF : Flow → MS K → Prop}
variable {KK : Frag} {p : Program} {loose : List Str} {mg mb : Str → Option Value} {t u : Tok} {l : Addr}

theorem m_unpack {c : Addr} {xs : List V} {Q : List Value → MS K → Prop} {n : Nat} (hh : A.handled = none) (hc : σ.h c = some (.tuple xs)) (hn : n = xs.length) (h : ∀ vs, Are xs vs → Q vs σ) : mwp knd Γ A (unpackItems (.ref c) n none) Q σ := fun s E R => by
  obtain ⟨vs, k, e, ar⟩ := R.tupleX hc
  have hs : n = vs.size := by rw [hn, ar.length]; simp
  subst hs
  refine unpackItems_tuple hh ⟨_, e, rfl, k, rfl⟩ fun h' he => ⟨σ, ?_, h _ ar⟩
  exact R.ext (tk := s.toks) fun b o q => he b o (Nat.ne_of_lt (Heap.lt_size q)) q

theorem m_swap2 {x y : Str} {value : Expr} {k : Nat} {p1 p2 p3 p5 : Pos} {v1 v2 : V} (hh : A.handled = none)
    (h : mwp knd Γ A (eval value env) (fun v σ₁ => ∃ c, v = .ref c ∧ σ₁.h c = some (.tuple [v1, v2]) ∧ QF .next ((σ₁.store y v2).store x v1)) σ)
    (hs : swapsWithSole [.Tuple [.Name x p1, .Name y p2] k p3] value p5.line env = pure false)
    (hw : swappedStores [.Tuple [.Name x p1, .Name y p2] k p3] value env = pure (some [x, y]))
    (hk : env.scope.kind = .function) (hlx : env.kindOf x = some .local) (hly : env.kindOf y = some .local) (he : env.locals = Γ.L) :
    mwp knd Γ A (exec (.Assign [.Tuple [.Name x p1, .Name y p2] k p3] value p5) env) QF σ := fun s E R => by
  refine Assign_Tuple_swapped (names := [x, y]) (h.use R fun v s₁ σ₁ R₁ q => ?_) hs hw
  obtain ⟨c, rfl, hc, q⟩ := q
  refine (m_unpack (Q := fun vs σ₂ => Are [v1, v2] vs ∧ σ₂ = σ₁) hh hc rfl fun vs ar => ⟨ar, rfl⟩).use R₁ fun vs s₂ σ₂ R₂ q₂ => ?_
  obtain ⟨ar, rfl⟩ := q₂
  obtain ⟨a1, a2, rfl, i1, i2⟩ : ∃ a1 a2, vs = [a1, a2] ∧ v1.is a1 ∧ v2.is a2 := by
    cases ar with | cons i1 ar => cases ar with | cons i2 ar => cases ar; exact ⟨_, _, rfl, i1, i2⟩
  show wpAny _ _ (holding _ (bindName env y _) >>= fun _ => (holding _ (bindName env x _) >>= fun _ => pure ())) _ _ _
  refine wpAny_bind (wpAny_holding (bindName_ ((m_store (knd := knd) (Q := fun _ σ' => σ' = σ₂.store y v2) i2 rfl hk hly he).use R₂ fun _ s₃ σ₃ R₃ e => ?_)))
  subst e
  refine wpAny_bind (wpAny_holding (bindName_ ((m_store (knd := knd) (Q := fun _ σ' => σ' = (σ₂.store y v2).store x v1) i1 rfl hk hlx he).use R₃ fun _ s₄ σ₄ R₄ e => ?_)))
  subst e
  exact wpAny_pure ⟨_, R₄, q⟩

theorem slS {l l' : List Nat} {vl vu : Value} {lo hi : Option Int} (p1 : IsPart vl lo) (p2 : IsPart vu hi) (hsz : l.length ≤ 1000) (e : Txt.slice (T l) lo hi = T l') (h : ∀ t, Q (.str (T l') t) σ) : SliceAt knd Q (.str (T l) t) vl vu σ :=
  .inl ⟨_, _, lo, hi, rfl, p1, p2, by rw [T_len]; exact Nat.le_trans hsz (by decide), fun t' => e ▸ h t'⟩
theorem m_trT {l : List Nat} (hsz : l.length ≤ 1000) (h : QB (decide (l ≠ [])) σ) : mwp knd Γ A (truthy (.str (T l) t)) QB σ := by
  refine m_trStr (by rw [T_len]; lia) ?_
  have : (((T l).length : Int) != 0) = decide (l ≠ []) := by
    rw [T_len]; cases l with
    | nil => rfl
    | cons a r => simp; lia
  rw [this]; exact h
theorem m_lenT {l : List Nat} (hsz : l.length ≤ 1000) (h : ∀ t, Q (.int l.length t) σ) : mwp knd Γ A (call (.builtin "len") [.str (T l) t]) Q σ := m_lenStr (by rw [T_len]; lia) fun t' => by rw [T_len]; exact h t'
theorem m_atT {value slice : Expr} {l : List Nat} {k : Nat} {c : Nat} (hk : k ≤ 1000) (hc : l[k]? = some c) (h : ∀ t, Q (.str (T [c]) t) σ)
    (hs : subscripted slice false (.str (T l) t) (.int (k : Int) u) = operate [.str (T l) t, .int (k : Int) u] (getItem (.str (T l) t) (.int (k : Int) u))) : mwp knd Γ A (subscriptTail value slice (.str (T l) t) (.int (k : Int) u)) Q σ :=
  m_tailStr (by simp; lia) (at_pos hc) h hs
theorem m_atTneg {value slice : Expr} {l : List Nat} {k : Nat} {c : Nat} {z : Int} (hz : z = -(k : Int) - 1) (hk : k < l.length) (hl : l.length ≤ 1000) (hc : l[l.length - k - 1]? = some c) (h : ∀ t, Q (.str (T [c]) t) σ)
    (hs : subscripted slice false (.str (T l) t) (.int z u) = operate [.str (T l) t, .int z u] (getItem (.str (T l) t) (.int z u))) : mwp knd Γ A (subscriptTail value slice (.str (T l) t) (.int z u)) Q σ := by
  subst hz
  exact m_tailStr (by simp; lia) (at_neg hk hc) h hs
theorem slS_post {l : List Nat} {j : Nat} {k : Nat} {pos : Pos} (hj : j ≤ l.length) (hl : l.length ≤ 1000) (h : ∀ t, Q (.str (T (l.take (l.length - j))) t) σ) :
    if (-(j : Int) != 0) = true then SliceAt knd Q (.str (T l) t) .none (.int (-(j : Int)) u) σ else mwp knd Γ A (eval (.Constant .none k pos) env) (fun vu σ₃ => SliceAt knd Q (.str (T l) t) .none vu σ₃) σ := by
  refine ite_of (fun e => ?_) fun e => ?_
  · exact slS .none (.int _ _) hl (slice_neg (by simp at e; lia) hj) h
  · refine m_none (slS .none .none hl ?_ h)
    rw [slice_none]; simp at e; subst e; simp
theorem put_same {β : Type} {f : Addr → Option β} {a : Addr} {x : β} : put f a x a = some x := by simp [put]
theorem put_other {β : Type} {f : Addr → Option β} {a b : Addr} {x : β} (h : b ≠ a) : put f a x b = f b := by simp [put, h]
theorem put_sub {β : Type} {f : Addr → Option β} {a : Addr} {x : β} (h : f a = none) : ∀ b o, f b = some o → put f a x b = some o := fun b o e => by
  rw [put_other fun q => by rw [q, h] at e; cases e]; exact e
theorem put_put {β : Type} {f : Addr → Option β} {a : Addr} {x y : β} : put (put f a x) a y = put f a y := by funext b; unfold put; split <;> simp_all

theorem put_mono {β : Type} {f g : Addr → Option β} {a : Addr} {x : β} (h : ∀ b o, f b = some o → g b = some o) : ∀ b o, put f a x b = some o → put g a x b = some o := fun b o e => by
  unfold put at *; split at e
  · rename_i q; rw [if_pos q]; exact e
  · rename_i q; rw [if_neg q]; exact h b o e

theorem m_frame {c : Sem α} {Q : α → MS K → Prop} {D : Addr} {o : O K} (hD : σ.h D = none) (h : ∀ ob hb, mwp knd (Γ.freeze D ob hb) A c Q σ) : mwp knd Γ A c (fun v σ' => ∃ σ₀, σ' = σ₀.set D o ∧ σ₀.h D = none ∧ Q v σ₀) (σ.set D o) := fun s E R => by
  have hd : (σ.set D o).h D = some o := put_same
  obtain ⟨ob, g, io⟩ := R.obj _ _ hd
  have R₀ : Rel knd Γ σ s := R.less (put_sub hD) fun _ _ e => e
  have bD := R.bH _ _ hd
  have lD : D ≠ Γ.L := fun x => by have := R.hL; rw [← x, hd] at this; cases this
  have oD : ∀ p ∈ Γ.outs, D ≠ p.1 := fun p hp x => by have := R.hO p hp; rw [← x, hd] at this; cases this
  refine (h ob bD).use (R₀.freeze g bD lD oD hD) fun v s' σ' R' q => ?_
  have g' : s'.heap.get? D = some ob := R'.keep D ob (by simp [Fx.freeze, put])
  have n' : σ'.h D = none := by
    cases z : σ'.h D with
    | none => rfl
    | some o => have := R'.bH _ _ z; simp [Fx.freeze, put] at this
  refine ⟨σ'.set D o, ?_, σ', rfl, n', q⟩
  have := R'.thaw.new (a := D) (o := o) (ob := ob) (h' := s'.heap) (tk := s'.toks) bD lD oD (fun _ _ _ e => e) g' io
  exact this

inductive ForFQ (knd : PySem.KeyKind prog w K) (Γ : Fx) (A : Around) (env : Env) (x : Str) (body : List Stmt) (QF : Flow → MS K → Prop) (v : Value) (σ₁ : MS K) : Prop
  | mk (D : Addr) (o : O K) (σ₀ : MS K) (xs : List V) (It : Nat → Obj → Prop) (e : σ₁ = MS.set σ₀ D o) (hD : σ₀.h D = none) (Y : Yields knd A v xs (fun σ => σ.h D = some o) It) (J : Nat → MS K → Prop) (j0 : J 0 σ₀)
      (step : ∀ i y σ I ob hb ob2 hb2, xs[i]? = some y → J i σ → mwp knd ((Γ.freeze I ob hb).freeze D ob2 hb2) A (execs body env) (loopQ (J (i + 1)) QF) (σ.store x y)) (fin : ∀ σ, J xs.length σ → QF .next σ)
theorem m_ForF {x : Str} {px pos : Pos} {iter : Expr} {body : List Stmt} (h : mwp knd Γ A (eval iter env) (ForFQ knd Γ A env x body QF) σ)
    (hs : ∀ x, foldedSetIterable iter env x = pure x) (hk : env.scope.kind = .function) (hl : env.kindOf x = some .local) (he : env.locals = Γ.L) :
    mwp knd Γ A (exec (.For (.Name x px) iter body [] pos) env) QF σ := by
  refine m_post (Q' := fun f σ' => ∃ D o σ₀, σ' = MS.set σ₀ D o ∧ σ₀.h D = none ∧ QF f σ₀) ?_ ?_
  · refine m_For (mwp_mono h ?_) hs hk hl he
    rintro v _ ⟨D, o, σ₀, xs, It, rfl, hD, Y, J, j0, step, fin⟩
    refine ⟨xs, _, It, Y, fun i σ' => ∃ σ₀, σ' = MS.set σ₀ D o ∧ σ₀.h D = none ∧ J i σ₀, ⟨σ₀, rfl, hD, j0⟩, ?_, ?_, ?_⟩
    · rintro i _ ⟨σ₀, rfl, _, _⟩; exact put_same
    · rintro i y _ I ob hb hy ⟨σ₀, rfl, hD, j⟩
      refine mwp_mono (m_frame (σ := σ₀.store x y) (D := D) (o := o) hD fun ob2 hb2 => step i y σ₀ I ob hb ob2 hb2 hy j) ?_
      rintro f _ ⟨σ₂, rfl, h2, q⟩
      cases f with
      | next => exact ⟨σ₂, rfl, h2, q⟩
      | cont => exact ⟨σ₂, rfl, h2, q⟩
      | brk => exact ⟨D, o, σ₂, rfl, h2, q⟩
      | ret v => exact ⟨D, o, σ₂, rfl, h2, q⟩
    · rintro _ ⟨σ₀, rfl, h2, j⟩; exact ⟨D, o, σ₀, rfl, h2, fin σ₀ j⟩
  · rintro f _ ⟨D, o, σ₀, rfl, h2, q⟩
    exact ⟨σ₀, put_sub h2, fun _ _ e => e, q⟩
theorem range_small {n : Nat} (h : n < 2 ^ 31) : Builtin.Range.small 0 n 1 = true ∧ Builtin.Range.rangeSize 0 n 1 = n := by
  have e : Builtin.Range.rangeSize 0 n 1 = n := by unfold Builtin.Range.rangeSize; split <;> (try split) <;> lia
  refine ⟨?_, e⟩
  unfold Builtin.Range.small
  rw [e]
  simp [Builtin.Range.rangeFitsLong]
  lia
theorem range_item {n i : Nat} {y : V} (h : ((List.range n).map fun i : Nat => V.int (0 + (i : Nat) * 1))[i]? = some y) : i < n ∧ y = .int (i : Int) := by
  rw [List.getElem?_map] at h
  by_cases hi : i < n
  · rw [List.getElem?_range hi] at h; simp at h; exact ⟨hi, h.symm⟩
  · rw [List.getElem?_eq_none (by simp; lia)] at h; cases h
theorem m_atL {value slice : Expr} {l : Addr} {xs : List V} {v : V} {k : Nat} (hl : σ.h l = some (.list xs)) (hk : k ≤ 2 ^ 60) (hx : xs[k]? = some v) (h : ∀ v', v.is v' → Q v' σ)
    (hs : subscripted slice false (.ref l) (.int (k : Int) t) = operate [.ref l, .int (k : Int) t] (getItem (.ref l) (.int (k : Int) t))) : mwp knd Γ A (subscriptTail value slice (.ref l) (.int (k : Int) t)) Q σ :=
  m_tailList hl (m_getList hl (by lia) (by lia) (by simpa using hx) h) hs
theorem m_atLi {value slice : Expr} {l : Addr} {xs : List V} {z : Int} {k : Nat} (hl : σ.h l = some (.list xs)) (hk : k ≤ 2 ^ 60) (hx : xs[k]? = some (.int z)) (h : ∀ t, Q (.int z t) σ)
    (hs : subscripted slice false (.ref l) (.int (k : Int) t) = operate [.ref l, .int (k : Int) t] (getItem (.ref l) (.int (k : Int) t))) : mwp knd Γ A (subscriptTail value slice (.ref l) (.int (k : Int) t)) Q σ :=
  m_atL hl hk hx (fun v' ⟨t, e⟩ => e ▸ h t) hs
theorem m_setL {l : Addr} {xs : List V} {x : V} {v : Value} {k : Nat} (hl : σ.h l = some (.list xs)) (hk : k ≤ 2 ^ 60) (hn : k < xs.length) (hv : x.is v) (h : QU () (σ.set l (.list (xs.set k x)))) : mwp knd Γ A (setItem (.ref l) (.int (k : Int) t) v) QU σ :=
  m_setList hl (by lia) (by lia) (by lia) hv (by simpa using h)
theorem m_then {c : Sem Flow} {P : MS K → Prop} (h : mwp knd Γ A c (fun fl σ' => fl = .next ∧ P σ') σ) (k : ∀ σ', P σ' → QF .next σ') : mwp knd Γ A c QF σ := fun s E R =>
  h.use R fun fl s' σ' R' ⟨e, q⟩ => ⟨σ', R', e ▸ k σ' q⟩
noncomputable def Fit (σ : MS K) (m : Str → Option V) (h : Addr → Option (O K)) : Prop := Sub m σ.m ∧ ∀ a o, h a = some o → σ.h a = some o
theorem m_fit {c : Sem α} {Q : α → MS K → Prop} {m' : Str → Option V} {h' : Addr → Option (O K)} (f : Fit σ m' h') (h : mwp knd Γ A c Q ⟨m', h'⟩) : mwp knd Γ A c Q σ := m_weak f.1 f.2 h
theorem m_fitS {c : Sem α} {Q : α → MS K → Prop} {m' : Str → Option V} {h' : Addr → Option (O K)} {x : Str} {y : V} (f : Fit σ m' h') (h : mwp knd Γ A c Q ⟨putS m' x y, h'⟩) : mwp knd Γ A c Q (σ.store x y) :=
  m_weak (σ := σ.store x y) (fun z v e => by
    have e : putS m' x y z = some v := e
    show putS σ.m x y z = some v
    unfold putS at *; split at e
    · rename_i q; rw [if_pos q]; exact e
    · rename_i q; rw [if_neg q]; exact f.1 z v e) f.2 h
end
end Mine
end
section
open PySem PySem.W PyProof.Rows PySem.SeqAt
set_option maxHeartbeats 400000
namespace Mine
section
variable {prog : Program} {w : World} {K : Type} [DecidableEq K] {knd : PySem.KeyKind prog w K} {Γ : Fx} {σ : MS K} {A : Around} {env : Env} {α : Type} {s : Shared} {Q : Value → MS K → Prop} {QB : Bool → MS K → Prop} {QU : Unit → MS K → Prop} {QF : Flow → MS K → Prop}
variable {KK : Frag} {p : Program} {loose : List Str} {mg mb : Str → Option Value} {t u : Tok} {l : Addr}

theorem m_atB {value slice : Expr} {bs : List UInt8} {k : Int} (hf : bs.length ≤ 1099511627776) (h0 : 0 ≤ k) (h1 : k < bs.length) (h : ∀ t, Q (.int (bs.getD k.toNat 0).toNat t) σ)
    (hs : subscripted slice false (.bytes bs.toArray t) (.int k u) = operate [.bytes bs.toArray t, .int k u] (getItem (.bytes bs.toArray t) (.int k u))) : mwp knd Γ A (subscriptTail value slice (.bytes bs.toArray t) (.int k u)) Q σ :=
  m_tail (fun s R => typeIs_bytes _ _ _) FB.slot_bytes_getitem.lookup (fun s E R => getItem_bytes hf h0 h1 ⟨σ, R.toks, h _⟩) hs

theorem m_evalAll0 {Q : List Value → MS K → Prop} (h : Q [] σ) : mwp knd Γ A (evalAll []) Q σ := fun s E R => wpAny_pure ⟨σ, R, h⟩
theorem m_evalAll {x : Sem Value} {rest : List (Sem Value)} {Q : List Value → MS K → Prop} (h : mwp knd Γ A x (fun v σ₁ => mwp knd Γ A (evalAll rest) (fun vs σ₂ => Q (v :: vs) σ₂) σ₁) σ) : mwp knd Γ A (evalAll (x :: rest)) Q σ := fun s E R => by
  unfold evalAll
  exact wpAny_bind (h.use R fun v s₁ σ₁ R₁ q => wpAny_bind (wpAny_holding (q.use R₁ fun vs s₂ σ₂ R₂ q => wpAny_pure ⟨σ₂, R₂, q⟩)))
theorem m_kwOne {e : Expr} {pos : Pos} (h : mwp knd Γ A (eval e env) Q σ) : mwp knd Γ A (do let v ← eval e env; standAt pos; pure v) Q σ := fun s E R =>
  wpAny_bind (h.use R fun v s₁ σ₁ R₁ q => wpAny_bind (wpAny_standAt (wpAny_pure ⟨σ₁, R₁, q⟩)))
theorem m_callZkw1 {f : Value} {first : List Value} {e v : Expr} {rest : List Expr} {pos kp : Pos} {k : Str} (Z : Here KK p loose mg mb Γ.base)
    (h : mwp knd Γ A (spliced (backTo pos (starEach (e :: rest) env))) (fun vs σ₁ => mwp knd Γ A (eval v env) (fun x σ₂ => mwp knd Γ A (call f (first ++ vs) [(k, x)]) Q σ₂) σ₁) σ)
    (hk : keepIn KK f = true) (he : starEach (e :: rest) env = (false, eval e env) :: starEach rest env) (hplain : ((backTo pos (starEach (e :: rest) env)).any (·.1) || (backToKw pos (keywordEach [⟨some k, v, kp⟩] env)).any (·.1.isNone)) = false)
    (hkw : keywordEach [⟨some k, v, kp⟩] env = [(some k, eval v env)]) :
    mwp knd Γ A (callWith pos f first (backTo pos (starEach (e :: rest) env)) (backToKw pos (keywordEach [⟨some k, v, kp⟩] env))) Q σ := fun s E R => by
  refine callWith_KW Z.X hk (by rw [hkw]; rfl) (h.use R fun vs s₁ σ₁ R₁ q => ?_) hplain he
  rw [hkw]
  show wpAny _ _ (evalAll [do let v ← eval v env; standAt pos; pure v]) _ _ _
  refine (m_evalAll (Q := fun ks σ₂ => ∃ x, ks = [x] ∧ mwp knd Γ A (call f (first ++ vs) [(k, x)]) Q σ₂) (m_kwOne (mwp_mono q fun x σ₂ q => m_evalAll0 ⟨x, rfl, q⟩))).use R₁ fun ks s₂ σ₂ R₂ q => ?_
  obtain ⟨x, rfl, q⟩ := q
  exact ⟨R₂.kin Z.X, q s₂ E R₂⟩

theorem m_bindD {fd : FuncData} {args : Args} {binds : List (Str × Value)} {d : Addr} {oc : Value} {od : Option Addr} {osl : Array (Option Value)} {items : Array Value} {n : Nat} {kont : Option (Array Value) → Sem (List (Str × Value))} {Q : List (Str × Value) → MS K → Prop} (X : KK.In Γ.base)
    (ho : KK.lookup d = some ⟨oc, od, .seq items n, osl⟩) (h₁ : bindArgs fd args = seqItems? (.ref d) >>= kont) (h₂ : kont (some items) = pure binds) (h : Q binds σ) : mwp knd Γ A (bindArgs fd args) Q σ := fun s E R => by
  rw [h₁]
  refine wpAny_bind (wpAny_seqItems (R.keep _ _ (Γ.sub _ _ (X _ _ ho))) rfl ?_)
  rw [h₂]; exact wpAny_pure ⟨σ, R, h⟩
theorem c_funD {f : Addr} {args : List Value} {kws : List (Str × Value)} {name qual : Str} {params : Arguments} {body : List Stmt} {scope : Scope} {kV doc pm cdv ct oc oc' : Value} {an od od' : Option Addr} {osl osl' : Array (Option Value)} {n : Nat} (ns : List Str) (vs : List V) {vals : List Value}
    {d : Addr} {items : Array Value} {n' : Nat} {kont : Option (Array Value) → Sem (List (Str × Value))}
    (Z : Here KK p loose mg mb Γ.base) (hA : Dp A n)
    (hv : Are vs vals)
    (h : ∀ L', mwp knd (Γ.enter L' σ.m) (A.deeper (envOf qual scope L' f cdv)) (execs body (envOf qual scope L' f cdv)) (funQ σ.m Q) ⟨fun x => (ns.zip vs).reverse.lookup x, σ.h⟩)
    (ho : KK.lookup f = some ⟨oc, od, .func (fnOf name qual params body scope (.ref d) kV doc pm an cdv ct), osl⟩)
    (hd : KK.lookup d = some ⟨oc', od', .seq items n', osl'⟩)
    (hb : bindArgs (fnOf name qual params body scope (.ref d) kV doc pm an cdv ct) ⟨args, kws⟩ = seqItems? (.ref d) >>= kont) (hb2 : kont (some items) = pure (ns.zip vals)) (hcd : codeIn KK cdv qual = true)
    (hlk : ∀ x ∈ ns, scope.names.lookup x = some .local)
    (hco : scope.isCoroutine = false) (hgen : scope.isGenerator = false) (hk : scope.kind = .function) (hcell : ∀ x ∈ scope.names, x.2 ≠ .cell) :
    mcode knd Γ A (.call (.ref f) ⟨args, kws⟩) Q σ :=
  mcode_less (c_def (Q := fun v σ' => ∃ h', (∀ a o, h' a = some o → σ'.h a = some o) ∧ σ'.m = σ.m ∧ Q v ⟨σ.m, h'⟩) hA Z.X Z.T.nolimit (m_bindD Z.X hd hb hb2 ⟨fun x hx => hlk x.1 (List.of_mem_zip (a := x.1) (b := x.2) hx).1, _, binds_zip hv, fun L' => mwp_mono (h L') fun fl σ' ⟨h', q1, q2⟩ => ⟨h', q1, rfl, q2⟩⟩) ho hcd hco hgen hk hcell)
    fun v σ' ⟨h', q1, q2, q3⟩ => ⟨⟨σ.m, h'⟩, q1, fun x v e => by rw [q2]; exact e, q3⟩
end
end Mine
end
section
open PySem PySem.W PyProof.Rows PySem.SeqAt
set_option maxHeartbeats 400000
namespace Mine
section
variable {prog : Program} {w : World} {K : Type} [DecidableEq K] {knd : PySem.KeyKind prog w K} {Γ : Fx} {σ : MS K} {A : Around} {env : Env} {α : Type} {s : Shared} {Q : Value → MS K → Prop} {QB : Bool → MS K → Prop} {QU : Unit → MS K → Prop} {QF : Flow → MS K → Prop}
variable {KK : Frag} {p : Program} {loose : List Str} {mg mb : Str → Option Value} {t u : Tok} {l : Addr}

inductive CompAt (knd : PySem.KeyKind prog w K) (Γ : Fx) (A : Around) (env : Env) (elt : Expr) (x : Str) (ifs : List Expr) (scope : Scope) (cl : List (Str × Addr)) (v : Value) (σ₁ : MS K) (R : List V → Prop) : Prop
  | mk (xs : List V) (ok : MS K → Prop) (It : Nat → Obj → Prop) (Y : Yields knd A v xs ok It) (hsz : xs.length ≤ sizeLine) (hok : ∀ σ : MS K, (∀ a o, σ₁.h a = some o → σ.h a = some o) → ok σ) (P : V → Bool) (f : V → V)
    (step : ∀ y ∈ xs, ∀ C I ob hb D od hd, mTests knd (((Γ.enter C σ₁.m).freeze I ob hb).freeze D od hd) A (cenvOf scope env C cl) ifs (fun b σ₂ => b = P y ∧
      if b then mwp knd (((Γ.enter C σ₁.m).freeze I ob hb).freeze D od hd) A (eval elt (cenvOf scope env C cl)) (fun e σ₃ => (∀ a o, σ₁.h a = some o → σ₃.h a = some o) ∧ (f y).is e) σ₂ else (∀ a o, σ₁.h a = some o → σ₂.h a = some o)) ⟨fun z => if z = x then some y else none, σ₁.h⟩)
    (fin : R ((xs.filter P).map f))

theorem mTests_mono {cenv : Env} {ifs : List Expr} {Q Q' : Bool → MS K → Prop} (h : mTests knd Γ A cenv ifs Q σ) (q : ∀ b σ', Q b σ' → Q' b σ') : mTests knd Γ A cenv ifs Q' σ := by
  match ifs, h with
  | [], h => exact q _ _ h
  | [c], h => exact mwp_mono h q
theorem mTests_weak {cenv : Env} {ifs : List Expr} {Q : Bool → MS K → Prop} {m : Str → Option V} {hp h0 : Addr → Option (O K)} (hs : ∀ a o, h0 a = some o → hp a = some o) (hq : ∀ b h', ifs = [] → (∀ a o, h0 a = some o → h' a = some o) → Q b ⟨m, h0⟩ → Q b ⟨m, h'⟩) (h : mTests knd Γ A cenv ifs Q ⟨m, h0⟩) : mTests knd Γ A cenv ifs Q ⟨m, hp⟩ := by
  match ifs, h with
  | [], h => exact hq true hp rfl hs h
  | [c], h => exact m_weak (σ := ⟨m, hp⟩) (fun _ _ e => e) hs h

theorem comp_J {elt : Expr} {x : Str} {ifs : List Expr} {scope : Scope} {cl : List (Str × Addr)} {v : Value} {σ₁ : MS K} {R : List V → Prop} (h : CompAt knd Γ A env elt x ifs scope cl v σ₁ R) :
    CompQ knd Γ A env elt x ifs scope cl (fun σ₁ ys hp _ => (∀ a o, σ₁.h a = some o → hp a = some o) ∧ R ys) v σ₁ := by
  obtain ⟨xs, ok, It, Y, hsz, hok, P, f, step, fin⟩ := h
  refine ⟨xs, ok, It, Y, hsz, fun i ys hp => (∀ a o, σ₁.h a = some o → hp a = some o) ∧ ys = ((xs.take i).filter P).map f, ⟨fun _ _ e => e, by simp⟩, fun i ys hp m hj => hok _ hj.1, ?_, ?_, ?_⟩
  · rintro i ys hp ⟨_, rfl⟩
    rw [List.length_map]
    exact Nat.le_trans (List.length_filter_le _ _) (by rw [List.length_take]; omega)
  · rintro i y ys hp C I ob hb D od hd hy ⟨hs, rfl⟩
    have hmem := List.mem_of_getElem? hy
    have ht : xs.take (i + 1) = xs.take i ++ [y] := by rw [List.take_add_one, hy]; rfl
    refine mTests_weak hs (fun b h' e1 hs' q => ?_) (mTests_mono (step y hmem C I ob hb D od hd) ?_)
    · subst e1
      cases b with
      | true =>
        simp only [if_true] at q ⊢
        exact m_weak (σ := ⟨_, h'⟩) (fun _ _ e => e) hs' q
      | false => simp only [Bool.false_eq_true, if_false] at q ⊢; exact ⟨fun a o e => hs' a o (q.1 a o e), q.2⟩
    · rintro b σ₂ ⟨rfl, q⟩
      cases hb : P y with
      | true =>
        rw [hb] at q
        simp only [if_true] at q ⊢
        exact mwp_mono q fun e σ₃ ⟨q1, q2⟩ => ⟨_, q2, q1, by rw [ht, List.filter_append]; simp [hb]⟩
      | false =>
        rw [hb] at q
        simp only [Bool.false_eq_true, if_false] at q ⊢
        exact ⟨q, by rw [ht, List.filter_append]; simp [hb]⟩
  · rintro ys hp D ⟨hs, rfl⟩ _
    exact ⟨hs, by rw [List.take_length]; exact fin⟩
theorem m_Comp {elt iter : Expr} {x : Str} {px : Pos} {ifs : List Expr} {scope : Scope} {pos : Pos} {cl : List (Str × Addr)}
    (h : mwp knd Γ A (eval iter env) (fun v σ₁ => CompAt knd Γ A env elt x ifs scope cl v σ₁ fun ys => ∀ D, σ₁.h D = none → Q (.ref D) (σ₁.set D (.list ys))) σ)
    (hclos : closureFor scope env = pure cl) (hcell : ∀ y ∈ scope.names, y.2 ≠ .cell) (hkind : scope.kind = .function) (hnames : ∀ y ∈ scope.names, y.2 = .local → scope.names.lookup y.1 = some .local)
    (hx : (relabel scope env).names.lookup x = some .local) (hs : ∀ x, foldedSetIterable iter env x = pure x) :
    mwp knd Γ A (eval (.ListComp elt [⟨.Name x px, iter, ifs, 0⟩] scope pos) env) Q σ := by
  refine m_post (Q' := fun v σ' => ∃ (σ₁ : MS K) (D : Addr) (ys : List V) (hp : Addr → Option (O K)), v = .ref D ∧ σ' = ⟨σ₁.m, put hp D (.list ys)⟩ ∧ hp D = none ∧ (∀ a o, σ₁.h a = some o → hp a = some o) ∧ ∀ D, σ₁.h D = none → Q (.ref D) (σ₁.set D (.list ys))) (m_ListComp (mwp_mono h fun v σ₁ q => ?_) hclos hcell hkind hnames hx hs) ?_
  · obtain ⟨xs, ok, It, Y, h1, J, j0, h2, h3, h4, h5⟩ := comp_J q
    exact ⟨xs, ok, It, Y, h1, J, j0, h2, h3, h4, fun ys hp D hj hD => ⟨σ₁, D, ys, hp, rfl, rfl, hD, (h5 ys hp D hj hD).1, (h5 ys hp D hj hD).2⟩⟩
  · rintro v _ ⟨σ₁, D, ys, hp, rfl, rfl, hD, hs', q⟩
    have hD1 : σ₁.h D = none := by
      cases z : σ₁.h D with
      | none => rfl
      | some o => rw [hs' _ _ z] at hD; cases hD
    exact ⟨σ₁.set D (.list ys), put_mono hs', fun _ _ e => e, q D hD1⟩
theorem m_AComp {elt iter : Expr} {x y : Str} {px py spos : Pos} {ifs : List Expr} {scope : Scope} {pos : Pos} {cl : List (Str × Addr)}
    (h : mwp knd Γ A (eval iter env) (fun v σ₁ => CompAt knd Γ A env elt x ifs scope cl v σ₁ fun ys => ∀ D, σ₁.h D = none → QF .next ((σ₁.set D (.list ys)).store y (.ref D))) σ)
    (hsw : swapsWith (.ListComp elt [⟨.Name x px, iter, ifs, 0⟩] scope pos) (some (.Name y py)) spos.line env = pure true)
    (hclos : closureFor scope env = pure cl) (hcell : ∀ y ∈ scope.names, y.2 ≠ .cell) (hkind : scope.kind = .function) (hnames : ∀ y ∈ scope.names, y.2 = .local → scope.names.lookup y.1 = some .local)
    (hx : (relabel scope env).names.lookup x = some .local) (hs : ∀ x, foldedSetIterable iter env x = pure x)
    (hk : env.scope.kind = .function) (hy : env.kindOf y = some .local) (he : env.locals = Γ.L) :
    mwp knd Γ A (exec (.Assign [.Name y py] (.ListComp elt [⟨.Name x px, iter, ifs, 0⟩] scope pos) spos) env) QF σ := by
  refine m_post (Q' := fun fl σ' => ∃ (σ₁ : MS K) (D : Addr) (ys : List V) (hp : Addr → Option (O K)), fl = .next ∧ σ' = MS.store ⟨σ₁.m, put hp D (.list ys)⟩ y (.ref D) ∧ hp D = none ∧ (∀ a o, σ₁.h a = some o → hp a = some o) ∧ ∀ D, σ₁.h D = none → QF .next ((σ₁.set D (.list ys)).store y (.ref D))) (m_AssignComp (mwp_mono h fun v σ₁ q => ?_) hsw hclos hcell hkind hnames hx hs hk hy he) ?_
  · obtain ⟨xs, ok, It, Y, h1, J, j0, h2, h3, h4, h5⟩ := comp_J q
    exact ⟨xs, ok, It, Y, h1, J, j0, h2, h3, h4, fun ys hp D hj hD => ⟨σ₁, D, ys, hp, rfl, rfl, hD, (h5 ys hp D hj hD).1, (h5 ys hp D hj hD).2⟩⟩
  · rintro v _ ⟨σ₁, D, ys, hp, rfl, rfl, hD, hs', q⟩
    have hD1 : σ₁.h D = none := by
      cases z : σ₁.h D with
      | none => rfl
      | some o => rw [hs' _ _ z] at hD; cases hD
    exact ⟨(σ₁.set D (.list ys)).store y (.ref D), put_mono hs', fun _ _ e => e, q D hD1⟩
end
end Mine
end
section
open PySem PySem.W PyProof.Rows PySem.SeqAt
set_option maxHeartbeats 400000
namespace Mine
section
variable {prog : Program} {w : World} {K : Type} [DecidableEq K] {knd : PySem.KeyKind prog w K} {Γ : Fx} {σ : MS K} {A : Around} {env : Env} {α : Type} {s : Shared} {Q : Value → MS K → Prop} {QB : Bool → MS K → Prop} {QU : Unit → MS K → Prop} {QF : Flow → MS K → Prop}
variable {KK : Frag} {p : Program} {loose : List Str} {mg mb : Str → Option Value} {t u : Tok} {l : Addr}
end
end Mine
end
section
open PySem PySem.W PyProof.Rows PySem.SeqAt
set_option maxHeartbeats 400000
namespace Mine
theorem and_nat (a b : Nat) : Builtin.bitAnd (a : Int) (b : Int) = ((a &&& b : Nat) : Int) := by
  unfold Builtin.bitAnd
  rfl
theorem or_nat (a b : Nat) : Builtin.bitOr (a : Int) (b : Int) = ((a ||| b : Nat) : Int) := by
  unfold Builtin.bitOr Builtin.bitNot Builtin.bitAnd
  rw [decide_eq_false (show ¬ (0 : Int) ≤ -(a : Int) - 1 by lia), decide_eq_false (show ¬ (0 : Int) ≤ -(b : Int) - 1 by lia)]
  unfold Builtin.bitNot
  have e1 : (-(-(a : Int) - 1) - 1).toNat = a := by lia
  have e2 : (-(-(b : Int) - 1) - 1).toNat = b := by lia
  simp only [e1, e2]
  lia
theorem or_add {a b : Int} (k : Nat) (h : 0 ≤ a) (h0 : 0 ≤ b) (hb : b < (2 ^ k : Nat)) : Builtin.bitOr (a * (2 ^ k : Nat)) b = a * (2 ^ k : Nat) + b := by
  obtain ⟨n, rfl⟩ := Int.eq_ofNat_of_zero_le h
  obtain ⟨m, rfl⟩ := Int.eq_ofNat_of_zero_le h0
  have : ((n : Nat) : Int) * ((2 ^ k : Nat) : Int) = ((2 ^ k * n : Nat) : Int) := by rw [Nat.mul_comm]; simp
  rw [this]
  show Builtin.bitOr ((2 ^ k * n : Nat) : Int) (m : Int) = _
  rw [or_nat, ← Nat.two_pow_add_eq_or_of_lt (by exact_mod_cast hb)]
  simp
theorem and_mask {a : Int} (k : Nat) (h : 0 ≤ a) : Builtin.bitAnd a ((2 ^ k - 1 : Nat) : Int) = a % (2 ^ k : Nat) := by
  obtain ⟨n, rfl⟩ := Int.eq_ofNat_of_zero_le h
  show Builtin.bitAnd (n : Int) _ = _
  rw [and_nat, Nat.and_two_pow_sub_one_eq_mod]
  rfl

noncomputable def b64s : List UInt8 := [65, 66, 67, 68, 69, 70, 71, 72, 73, 74, 75, 76, 77, 78, 79, 80, 81, 82, 83, 84, 85, 86, 87, 88, 89, 90, 97, 98, 99, 100, 101, 102, 103, 104, 105, 106, 107, 108, 109, 110, 111, 112, 113, 114, 115, 116, 117, 118, 119, 120, 121, 122, 48, 49, 50, 51, 52, 53, 54, 55, 56, 57, 43, 47]
noncomputable def sign (k : Int) : Int := ((b64s.getD k.toNat 0).toNat : Int)
noncomputable def drain (lc : Int) (lb : Nat) : List Int × Nat :=
  if lb ≥ 12 then ([sign (lc / (2 ^ (lb - 6) : Nat) % 64), sign (lc / (2 ^ (lb - 12) : Nat) % 64)], lb - 12)
  else if lb ≥ 6 then ([sign (lc / (2 ^ (lb - 6) : Nat) % 64)], lb - 6) else ([], lb)
noncomputable def encB : List Int → Int → Nat → List Int × Int × Nat
  | [], lc, lb => ([], lc, lb)
  | b :: r, lc, lb =>
    let lc' := (lc * 256 + b) % 65536
    let d := drain lc' (lb + 8)
    let q := encB r lc' d.2
    (d.1 ++ q.1, q.2)
noncomputable def enc (bs : List Int) : List Int :=
  let q := encB bs 0 0
  if q.2.2 = 2 then q.1 ++ [sign (q.2.1 % 4 * 16), 61, 61] else if q.2.2 = 4 then q.1 ++ [sign (q.2.1 % 16 * 4), 61] else q.1
theorem drain_lt {lc : Int} {lb : Nat} (h : lb < 18) : (drain lc lb).2 < 6 := by unfold drain; split <;> (try split) <;> simp only <;> lia
theorem drain_step {lc : Int} {lb : Nat} (h : 6 ≤ lb) (h2 : lb < 18) : drain lc lb = (sign (lc / (2 ^ (lb - 6) : Nat) % 64) :: (drain lc (lb - 6)).1, (drain lc (lb - 6)).2) := by
  unfold drain
  by_cases c : lb ≥ 12
  · rw [if_pos c, if_neg (show ¬ lb - 6 ≥ 12 by lia), if_pos (show lb - 6 ≥ 6 by lia)]; simp only; rw [show lb - 6 - 6 = lb - 12 by lia]
  · rw [if_neg c, if_pos h, if_neg (show ¬ lb - 6 ≥ 12 by lia), if_neg (show ¬ lb - 6 ≥ 6 by lia)]
theorem drain_stop {lc : Int} {lb : Nat} (h : lb < 6) : drain lc lb = ([], lb) := by
  unfold drain; rw [if_neg (by lia), if_neg (by lia)]
theorem sign_ok (k : Int) : 0 ≤ sign k ∧ sign k < 256 := by
  unfold sign
  have := (b64s.getD k.toNat 0).toNat_lt
  constructor
  · exact Int.natCast_nonneg _
  · exact_mod_cast this
theorem drain_ok {lc : Int} {lb : Nat} : (∀ x ∈ (drain lc lb).1, 0 ≤ x ∧ x < 256) ∧ (drain lc lb).1.length ≤ 2 := by
  unfold drain
  split
  · simp only; exact ⟨fun x hx => by rcases List.mem_cons.mp hx with rfl | hx; exact sign_ok _; rw [List.mem_singleton.mp hx]; exact sign_ok _, by simp⟩
  · split
    · simp only; exact ⟨fun x hx => by rw [List.mem_singleton.mp hx]; exact sign_ok _, by simp⟩
    · exact ⟨fun x hx => (List.not_mem_nil hx).elim, Nat.zero_le _⟩
theorem encB_ok {bs : List Int} {lc : Int} {lb : Nat} (h1 : 0 ≤ lc) (h2 : lc < 65536) : 0 ≤ (encB bs lc lb).2.1 ∧ (encB bs lc lb).2.1 < 65536 ∧ (encB bs lc lb).1.length ≤ 2 * bs.length ∧ ∀ x ∈ (encB bs lc lb).1, 0 ≤ x ∧ x < 256 := by
  induction bs generalizing lc lb with
  | nil => exact ⟨h1, h2, by simp [encB], by simp [encB]⟩
  | cons b r ih =>
    simp only [encB]
    obtain ⟨i1, i2, i3, i4⟩ := ih (lc := (lc * 256 + b) % 65536) (lb := (drain ((lc * 256 + b) % 65536) (lb + 8)).2) (by lia) (by lia)
    have := drain_ok (lc := (lc * 256 + b) % 65536) (lb := lb + 8)
    refine ⟨i1, i2, by simp; lia, fun x hx => ?_⟩
    rcases List.mem_append.mp hx with hx | hx
    · exact this.1 x hx
    · exact i4 x hx
theorem enc_ok (bs : List Int) : ∀ x ∈ enc bs, 0 ≤ x ∧ x < 256 := by
  obtain ⟨_, _, _, i4⟩ := encB_ok (bs := bs) (lc := 0) (lb := 0) (by lia) (by lia)
  have s1 := sign_ok
  unfold enc
  simp only
  intro x hx
  split at hx
  · simp at hx; rcases hx with hx | rfl | rfl
    · exact i4 x hx
    · exact s1 _
    · lia
  · split at hx
    · simp at hx; rcases hx with hx | rfl | rfl
      · exact i4 x hx
      · exact s1 _
      · lia
    · exact i4 x hx
theorem enc_len (bs : List Int) : (enc bs).length ≤ 2 * bs.length + 3 := by
  obtain ⟨_, _, i3, _⟩ := encB_ok (bs := bs) (lc := 0) (lb := 0) (by lia) (by lia)
  unfold enc
  simp only
  split
  · simp; lia
  · split
    · simp; lia
    · lia
theorem bytes_list {bs : List Int} (h : ∀ x ∈ bs, 0 ≤ x ∧ x < 256) : (byteArr bs).toList.map (fun c => V.int (c.toNat : Int)) = bs.map V.int := by
  unfold byteArr
  rw [List.toList_toArray, List.map_map]
  refine List.map_congr_left fun x hx => ?_
  obtain ⟨h0, h1⟩ := h x hx
  show V.int _ = V.int _
  congr 1
  rw [Nat.toUInt8, UInt8.toNat_ofNat']
  lia
theorem strJoin_T : ∀ ls : List (List Nat), Str.join (T []) (ls.map T) = T ls.flatten
  | [] => rfl
  | [a] => by simp [Str.join]
  | a :: b :: r => by
    have ih := strJoin_T (b :: r)
    show T a ++ T [] ++ Str.join (T []) ((b :: r).map T) = _
    rw [ih, T_app, T_app]; simp
theorem join_T (ls : List (List Nat)) : Txt.join (Str.ofString "") (ls.map T) = T ls.flatten := by
  show Builtin.Str.glued _ _ = _
  rw [PySem.StrLaws.glued_eq_join]
  exact strJoin_T ls
theorem ones_sum : ∀ ls : List Nat, (((ls.map fun i => [i]).map T).map (·.length)).sum = ls.length
  | [] => rfl
  | a :: r => by
    rw [List.map_cons, List.map_cons, List.map_cons, List.sum_cons, ones_sum r, T_len]; simp; lia
theorem ones_flat : ∀ ls : List Nat, (ls.map fun i => [i]).flatten = ls
  | [] => rfl
  | a :: r => by rw [List.map_cons, List.flatten_cons, ones_flat r]; rfl
theorem filter_all {α : Type} : ∀ l : List α, l.filter (fun _ => true) = l
  | [] => rfl
  | a :: r => by rw [List.filter_cons, if_pos rfl, filter_all r]
end Mine
end
section
open PySem PySem.W PyProof.Rows PySem.SeqAt
set_option maxHeartbeats 400000
namespace Mine
section
variable {β : Type} {f g : Addr → Option β} {a b c : Addr} {x y : β}
theorem none_put (h : put f a x b = none) : f b = none := by
  unfold put at h; split at h
  · cases h
  · exact h
theorem ne_put (h : put f a x b = none) : b ≠ a := fun e => by rw [e, put_same] at h; cases h
theorem none_sub (s : ∀ a o, f a = some o → g a = some o) (h : g b = none) : f b = none := by
  cases z : f b with
  | none => rfl
  | some o => rw [s _ _ z] at h; cases h
theorem ne_none (h : f a = some x) (k : f b = none) : a ≠ b := fun e => by rw [e, k] at h; cases h
theorem sub_put {y : β} (h : f a = none) (e : f b = some y) : put f a x b = some y := put_sub h _ _ e
theorem put_diff {ob od : β} (h1 : f b = some ob) (h2 : f a = some od) (h3 : ob ≠ od) : put f a x b = some ob := by
  rw [put_other (fun e => h3 (by rw [e, h2] at h1; exact (Option.some.inj h1).symm))]; exact h1
theorem put_s1 {β : Type} {f : Addr → Option β} {a b : Addr} {x y : β} (h : f a = none := by assumption) (e : f b = some y) : put f a x b = some y := put_sub h _ _ e
theorem put_o1 {β : Type} {f : Addr → Option β} {a b : Addr} {x : β} {y : Option β} (h : b ≠ a := by first | assumption | exact Ne.symm (by assumption)) (e : f b = y) : put f a x b = y := (put_other h).trans e
theorem put_d1 {β : Type} {f : Addr → Option β} {a b : Addr} {x y z : β} (h1 : f b = some y) (h2 : f a = some z) (h3 : y ≠ z := by intro q; cases q) : put f a x b = some y := put_diff h1 h2 h3
end
end Mine
end
section
open PySem PySem.W PyProof.Rows PySem.SeqAt
set_option maxHeartbeats 400000
namespace Mine
section
variable {prog : Program} {w : World} {K : Type} [DecidableEq K] {knd : PySem.KeyKind prog w K} {Γ : Fx} {σ : MS K} {A : Around} {env : Env} {α : Type} {s : Shared} {Q : Value → MS K → Prop} {QB : Bool → MS K → Prop} {QU : Unit → MS K → Prop} {QF : Flow → MS K → Prop}
variable {KK : Frag} {p : Program} {loose : List Str} {mg mb : Str → Option Value} {t u : Tok} {l l' : Addr}

theorem Rel.iterNew {h' : Heap} {tk : Nat} {I : Addr} {ob : Obj} (R₁ : Rel knd Γ σ s) (hI : s.heap.get? I = none) : Γ.B I = none ∧ I ≠ Γ.L ∧ (∀ p ∈ Γ.outs, I ≠ p.1) ∧ σ.h I = none := by
  refine ⟨?_, fun x => ?_, fun p hp x => ?_, ?_⟩
  · cases q : Γ.B I with
    | none => rfl
    | some o => have := R₁.keep _ _ q; rw [hI] at this; cases this
  · obtain ⟨o, ho⟩ := R₁.cur.get; rw [← x, hI] at ho; cases ho
  · obtain ⟨o, ho⟩ := (R₁.out p hp).get; rw [← x, hI] at ho; cases ho
  · cases q : σ.h I with
    | none => rfl
    | some o => obtain ⟨ob, h1, _⟩ := R₁.obj _ _ q; rw [hI] at h1; cases h1

inductive ForIQ (knd : PySem.KeyKind prog w K) (Γ : Fx) (A : Around) (env : Env) (xk xv : Str) (kv : K → V) (body : List Stmt) (QF : Flow → MS K → Prop) (v : Value) (σ₁ : MS K) : Prop
  | mk (d vw : Addr) (kvs : List (K × V)) (ep : Nat) (e : v = .ref vw) (hd : σ₁.h d = some (.dict kvs ep)) (hvw : σ₁.h vw = some (.items d)) (J : Nat → MS K → Prop) (j0 : J 0 σ₁) (jok : ∀ i σ, J i σ → σ.h d = some (.dict kvs ep))
      (step : ∀ i k y σ I ob hb, kvs[i]? = some (k, y) → J i σ → mwp knd (Γ.freeze I ob hb) A (execs body env) (loopQ (J (i + 1)) QF) ((σ.store xk (kv k)).store xv y)) (fin : ∀ σ, J kvs.length σ → QF .next σ)
theorem m_ForItems {xk xv : Str} {pk pv pt pos : Pos} {x1 : Nat} {iter : Expr} {body : List Stmt} {kv : K → V} (hkv : ∀ k v, knd.is k v = true → (kv k).is v) (hh : A.handled = none)
    (h : mwp knd Γ A (eval iter env) (ForIQ knd Γ A env xk xv kv body QF) σ)
    (hs : ∀ x, foldedSetIterable iter env x = pure x) (hk : env.scope.kind = .function) (hlk : env.kindOf xk = some .local) (hlv : env.kindOf xv = some .local) (he : env.locals = Γ.L) :
    mwp knd Γ A (exec (.For (.Tuple [.Name xk pk, .Name xv pv] x1 pt) iter body [] pos) env) QF σ := fun s E R => by
  refine wpAny_For (h.use R fun v s₁ σ₁ R₁ ⟨d, vw, kvs, ep, e, hd, hvw, J, j0, jok, step, fin⟩ => ?_) hs
  subst e
  obtain ⟨kvs₁, hm₁, pa₁⟩ := R₁.dict hd
  obtain ⟨ov, eov, cv, dv⟩ := R₁.obj vw _ hvw
  refine wpAny_pyIter_items ⟨ov, eov, cv, dv⟩ hm₁ ?_
  generalize hIs : s₁.heap.objs.size = I
  have hI : s₁.heap.get? I = none := by rw [← hIs]; exact noneAt
  generalize hob : ({ cls := .type "dict_itemiterator", data := .fields #[.none, .bool false, .ref d, .int 0 0, .int kvs₁.length 0, .int ep 0, .none, .none] } : Obj) = ob
  have gI : (s₁.heap.push ob).get? I = some ob := by rw [← hIs]; exact Heap.get?_push_size _ (by rw [← hob]; rfl)
  have R₂ : Rel knd Γ σ₁ { s₁ with heap := s₁.heap.push ob } := R₁.ext (tk := s₁.toks) fun b o e => Heap.get?_push_of_some _ e
  obtain ⟨bI, lI, oI, h1⟩ := R₁.iterNew (h' := s₁.heap) (tk := s₁.toks) (ob := ob) hI
  refine codeAny_forLoop_any (fun k s' => ∃ i σ ob, Rel knd (Γ.freeze I ob bI) σ s' ∧ J i σ ∧ (∃ a b, ob = { cls := .type "dict_itemiterator", dict := none, data := .fields #[.none, .bool false, .ref d, .int i 0, .int kvs.length 0, .int ep 0, a, b], slots := #[] }) ∧ s'.heap.get? I = some ob ∧ i ≤ kvs.length ∧ k = kvs.length + 1 - i) ?_ (kvs.length + 1) ⟨0, σ₁, ob, R₂.freeze gI bI lI oI h1, j0, ⟨_, _, by rw [← hob, pa₁.length]; rfl⟩, gI, Nat.zero_le _, rfl⟩
  rintro k s' ⟨i, σ', ob, R', hJ, ⟨oa, obv, rfl⟩, gI', hle, rfl⟩
  have hI1 := R'.frozenH
  obtain ⟨kvs', hm', pa⟩ := R'.dict (jok _ _ hJ)
  have hlen := pa.length
  rw [hlen] at gI'
  by_cases hlt : i < kvs.length
  · obtain ⟨⟨k0, y⟩, hy⟩ : ∃ y, kvs[i]? = some y := ⟨kvs[i], by simp [hlt]⟩
    obtain ⟨v', e', iv⟩ := pa.get hy
    refine wpAny_pyNext_items_item gI' hm' e' fun key h₁ hkey heo ht₁ hz₁ hk₁ => ?_
    refine wpAny_letOwnedTupleGo_items heo fun h₂ he₂ hs₂ => ?_
    have hTI : s'.heap.objs.size ≠ I := Nat.ne_of_gt (Heap.lt_size gI')
    have ht₂ : h₂.IsTuple s'.heap.objs.size #[key, v'] := ⟨_, (hs₂.2 _ hTI).trans ht₁, rfl, _, rfl⟩
    refine wpAny_assign_Tuple hh ht₂ rfl rfl fun h₃ hx₃ => ?_
    have e₃ : ∀ b o, b ≠ I → s'.heap.get? b = some o → h₃.get? b = some o := fun b o hb q => hx₃ b o (by rw [show h₂.objs.size = s'.heap.objs.size + 1 from hs₂.1.trans hz₁]; exact Nat.ne_of_lt (Nat.lt_succ_of_lt (Heap.lt_size q))) ((hs₂.2 b hb).trans (hk₁ b o hb q))
    have g₃ : h₃.get? I = some _ := hx₃ I _ (by rw [show h₂.objs.size = s'.heap.objs.size + 1 from hs₂.1.trans hz₁]; exact Nat.ne_of_lt (Nat.lt_succ_of_lt (Heap.lt_size gI'))) he₂
    have R₃ : Rel knd (Γ.freeze I _ bI) σ' { s' with heap := h₃ } := (R'.thaw.extBut (tk := s'.toks) bI lI oI hI1 e₃).freeze g₃ bI lI oI hI1
    show wpAny _ _ (do holding [v'] (assign (.Name xk pk) env key); do holding [] (assign (.Name xv pv) env v'); pure ()) _ _ _
    refine wpAny_bind (wpAny_holding (wpAny_assign_Name ?_))
    refine (m_store (knd := knd) (Γ := Γ.freeze I _ bI) (x := xk) (Q := fun _ σ₂ => σ₂ = σ'.store xk (kv k0)) (hkv _ _ hkey) rfl hk hlk he).use R₃ ?_
    rintro _ s₄ σ₄ R₄ rfl
    refine wpAny_bind (wpAny_holding (wpAny_assign_Name ?_))
    refine (m_store (knd := knd) (Γ := Γ.freeze I _ bI) (x := xv) (Q := fun _ σ₂ => σ₂ = (σ'.store xk (kv k0)).store xv y) iv rfl hk hlv he).use R₄ ?_
    rintro _ s₅ σ₅ R₅ rfl
    refine wpAny_pure ?_
    refine (step i k0 y σ' I _ bI hy hJ).use R₅ fun f s₃ σ₃ R₅ q => ?_
    cases f with
    | next => exact ⟨kvs.length + 1 - (i + 1), by omega, i + 1, σ₃, _, R₅, q, ⟨_, _, by rw [hlen]⟩, R₅.frozenG, hlt, rfl⟩
    | cont => exact ⟨kvs.length + 1 - (i + 1), by omega, i + 1, σ₃, _, R₅, q, ⟨_, _, by rw [hlen]⟩, R₅.frozenG, hlt, rfl⟩
    | brk => exact ⟨σ₃, R₅.thaw, q⟩
    | ret v => exact ⟨σ₃, R₅.thaw, q⟩
  · have hin : i = kvs.length := by omega
    subst hin
    refine wpAny_pyNext_items_end hh gI' hm' (by rw [List.getElem?_eq_none_iff]; omega) fun h₁ e₁ => wpAny_execs_nil ?_
    exact ⟨σ', R'.thaw.extBut (tk := s'.toks) bI lI oI hI1 e₁, fin σ' hJ⟩

noncomputable def Fx.aside (Γ : Fx) (P : Addr → Prop) [DecidablePred P] (h : Heap) : Fx :=
  { Γ with B := fun a => match Γ.B a with | some o => some o | none => if P a then h.get? a else none, sub := fun b o e => by simp only [Γ.sub b o e] }
structure Aside (σ : MS K) (h0 : Addr → Option (O K)) (σ₁ σ' : MS K) : Prop where
  m : σ'.m = σ₁.m
  s1 : ∀ a o, σ₁.h a = some o → σ'.h a = some o
  s2 : ∀ a o, σ.h a = some o → h0 a = none → σ'.h a = some o
  n : ∀ a, σ.h a ≠ none → h0 a = none → σ₁.h a = none
open Classical in
theorem aside_in {h0 : Addr → Option (O K)} (hs : ∀ a o, h0 a = some o → σ.h a = some o) (R : Rel knd Γ σ s) : Rel knd (Γ.aside (fun a => h0 a = none ∧ σ.h a ≠ none) s.heap) ⟨σ.m, h0⟩ s := by
  refine ⟨fun b o q => ?_, R.rest, R.cur, R.out, fun a o q => R.obj a o (hs a o q), ?_, fun p hp => ?_, fun a o q => ?_, R.lO, ?_, fun p hp => ?_⟩
  · simp only [Fx.aside] at q
    cases z : Γ.B b with
    | some o' => rw [z] at q; cases q; exact R.keep _ _ z
    | none =>
      rw [z] at q; simp only at q
      split at q
      · exact q
      · cases q
  · simp only [Fx.aside]; rw [R.bL]; simp only; rw [if_neg (fun z => z.2 R.hL)]
  · simp only [Fx.aside]; rw [R.bO p hp]; simp only; rw [if_neg (fun z => z.2 (R.hO p hp))]
  · have q : h0 a = some o := q
    simp only [Fx.aside]; rw [R.bH a o (hs a o q)]; simp only; rw [if_neg (fun z => by rw [z.1] at q; cases q)]
  · cases z : h0 Γ.L with
    | none => exact z
    | some o => have := hs _ _ z; rw [R.hL] at this; cases this
  · cases z : h0 p.1 with
    | none => exact z
    | some o => have := hs _ _ z; rw [R.hO p hp] at this; cases this
open Classical in
theorem aside_out {h0 : Addr → Option (O K)} {s' : Shared} {σ₁ : MS K} (R : Rel knd Γ σ s) (R' : Rel knd (Γ.aside (fun a => h0 a = none ∧ σ.h a ≠ none) s.heap) σ₁ s') : ∃ σ', Rel knd Γ σ' s' ∧ Aside σ h0 σ₁ σ' ∧ ∀ a, (Γ.aside (fun a => h0 a = none ∧ σ.h a ≠ none) s.heap).B a = none → σ₁.h a = none → Γ.B a = none ∧ σ'.h a = none := by
  let P : Addr → Prop := fun a => h0 a = none ∧ σ.h a ≠ none
  have hB : ∀ a, P a → ∃ ob, (Γ.aside P s.heap).B a = some ob ∧ s.heap.get? a = some ob ∧ Γ.B a = none := fun a ha => by
    cases z : σ.h a with
    | none => exact absurd z ha.2
    | some o =>
      obtain ⟨ob, g, _⟩ := R.obj a o z
      exact ⟨ob, by simp only [Fx.aside]; rw [R.bH a o z]; simp only; rw [if_pos ha]; exact g, g, R.bH a o z⟩
  have n1 : ∀ a, P a → σ₁.h a = none := fun a ha => by
    obtain ⟨ob, b1, _, _⟩ := hB a ha
    cases z : σ₁.h a with
    | none => rfl
    | some o => have := R'.bH _ _ z; have b1 : (Γ.aside P s.heap).B a = some ob := b1; exact absurd (this.symm.trans b1) (by intro k; cases k)
  refine ⟨⟨σ₁.m, fun a => match σ₁.h a with | some o => some o | none => if P a then σ.h a else none⟩, ?_, ⟨rfl, fun a o e => by simp only [e], fun a o e1 e2 => ?_, fun a e1 e2 => n1 a ⟨e2, e1⟩⟩, fun a b1 b2 => ?_⟩
  · refine ⟨fun b o q => R'.keep b o (by show (match Γ.B b with | some o => some o | none => _) = _; rw [q]), R'.rest, R'.cur, R'.out, fun a o q => ?_, R.bL, R.bO, fun a o q => ?_, R.lO, ?_, fun p hp => ?_⟩
    · simp only at q
      cases z : σ₁.h a with
      | some o' => rw [z] at q; cases q; exact R'.obj _ _ z
      | none =>
        rw [z] at q; simp only at q
        split at q
        · rename_i hP
          obtain ⟨ob, b1, g1, _⟩ := hB a hP
          obtain ⟨ob', g2, io⟩ := R.obj a o q
          rw [g1] at g2; cases g2
          exact ⟨ob, R'.keep a ob b1, io⟩
        · cases q
    · simp only at q
      cases z : σ₁.h a with
      | some o' =>
        have := R'.bH _ _ z
        cases k : Γ.B a with
        | none => rfl
        | some ob => have k2 : (match Γ.B a with | some o => some o | none => if P a then s.heap.get? a else none) = none := this; rw [k] at k2; cases k2
      | none =>
        rw [z] at q; simp only at q
        split at q
        · rename_i hP; obtain ⟨_, _, _, z2⟩ := hB a hP; exact z2
        · cases q
    · show (match σ₁.h Γ.L with | some o => some o | none => _) = none
      have := R'.hL
      rw [show (Γ.aside P s.heap).L = Γ.L from rfl] at this
      rw [this]; simp only; rw [if_neg (fun z => z.2 R.hL)]
    · show (match σ₁.h p.1 with | some o => some o | none => _) = none
      rw [R'.hO p hp]; simp only; rw [if_neg (fun z => z.2 (R.hO p hp))]
  · show (match σ₁.h a with | some o => some o | none => _) = some o
    have hP : P a := ⟨e2, by rw [e1]; intro q; cases q⟩
    rw [n1 a hP]; simp only; rw [if_pos hP]; exact e1
  · have k1 : Γ.B a = none := by
      cases k : Γ.B a with
      | none => rfl
      | some ob => have k2 : (match Γ.B a with | some o => some o | none => if P a then s.heap.get? a else none) = none := b1; rw [k] at k2; cases k2
    refine ⟨k1, ?_⟩
    show (match σ₁.h a with | some o => some o | none => _) = none
    rw [b2]; simp only
    rw [if_neg (fun hP => by obtain ⟨ob, q, _, _⟩ := hB a hP; rw [b1] at q; cases q)]
theorem m_aside {c : Sem α} {Q : α → MS K → Prop} {h0 : Addr → Option (O K)} (hs : ∀ a o, h0 a = some o → σ.h a = some o)
    (h : ∀ B' sub', mwp knd { Γ with B := B', sub := sub' } A c Q ⟨σ.m, h0⟩) :
    mwp knd Γ A c (fun v σ' => ∃ σ₁, Q v σ₁ ∧ σ'.m = σ₁.m ∧ (∀ a o, σ₁.h a = some o → σ'.h a = some o) ∧ (∀ a o, σ.h a = some o → h0 a = none → σ'.h a = some o) ∧ (∀ a, σ.h a ≠ none → h0 a = none → σ₁.h a = none)) σ := fun s E R => by
  classical
  refine (h _ (Γ.aside (fun a => h0 a = none ∧ σ.h a ≠ none) s.heap).sub).use (aside_in hs R) fun v s' σ₁ R' q => ?_
  obtain ⟨σ', Rn, as, _⟩ := aside_out R R'
  exact ⟨σ', Rn, σ₁, q, as.m, as.s1, as.s2, as.n⟩
end
end Mine
end
section
open PySem PySem.W PyProof.Rows PySem.SeqAt
set_option maxHeartbeats 400000
namespace Mine
section
variable {prog : Program} {w : World} {K : Type} [DecidableEq K] {knd : PySem.KeyKind prog w K} {Γ : Fx} {σ : MS K} {A : Around} {env : Env} {α : Type} {s : Shared} {Q : Value → MS K → Prop} {QB : Bool → MS K → Prop} {QU : Unit → MS K → Prop} {QF : Flow → MS K → Prop}
variable {KK : Frag} {p : Program} {loose : List Str} {mg mb : Str → Option Value} {t u : Tok} {l l' : Addr}

theorem m_methSet {S : K → Bool} {n : Nat} {pl : Sem Bool} {QM : Value × List Value → MS K → Prop} (hl : σ.h l = some (.set S n)) (h : QM (.builtin "set.add", [.ref l]) σ) : mwp knd Γ A (getMethod (.ref l) "add" pl) QM σ := fun s E R =>
  getMethod_set_add (R.setOf hl) ⟨σ, R, h⟩
theorem m_clear {xs : List V} (hl : σ.h l = some (.list xs)) (hsz : xs.length ≤ sizeLine) (h : Q .none (σ.set l (.list []))) : mwp knd Γ A (call (.builtin "list.clear") [.ref l]) Q σ := fun s E R => by
  obtain ⟨vs, n, e, ar⟩ := R.listX hl
  refine call_meets F.slot_list_clear ⟨_, e, rfl⟩ F.entry_list_clear (F.args_list_clear_1 _) (AutoSeq1.list_clear_list_0 l vs n (by rw [ar.size]; exact hsz)) ⟨e, ?_⟩
  have e2 : Obj.mapSeq (fun _ => #[]) ({ cls := .type "list", data := .seq vs n } : Obj) = { cls := .type "list", data := .seq #[] (if (#[] : Array Value).size == vs.size then n else n + 1) } := by
    unfold Obj.mapSeq; rfl
  exact ⟨_, R.change (tk := s.toks) (o := .list []) hl (fun b o hb q => ((Heap.SameBut.update s.heap l _).2 b hb).trans q) (by rw [Heap.get?_update_self _ e (by rw [e2]; rfl), e2]) ⟨_, _, rfl, .nil⟩, h⟩
theorem are_refs {as : List Addr} {vs : List Value} (h : Are (as.map .ref) vs) : vs = as.map .ref := by
  induction as generalizing vs with
  | nil => cases h; rfl
  | cons a r ih => cases h with | cons h1 h2 => rw [ih h2]; have h1 : _ = Value.ref a := h1; rw [h1]; rfl
theorem m_Del {o i : Expr} {pos' pos : Pos} (h : mwp knd Γ A (eval o env) (fun ov σ₁ => mwp knd Γ A (eval i env) (fun iv σ₂ => mwp knd Γ A (delItem ov iv) (fun _ => QF .next) σ₂) σ₁) σ)
    (he : delete (.Subscript o i pos') env = (do
      let ov ← eval o env
      let iv ← holding [ov] (eval i env)
      standAt pos'
      holding [ov, iv] (delItem ov iv)
      release [ov, iv] [])) : mwp knd Γ A (exec (.Delete [.Subscript o i pos'] pos) env) QF σ := fun s E R => by
  refine wpAny_Delete (wpAny_deleteEach_cons ?_)
  rw [he]
  exact wpAny_bind (h.use R fun ov s₁ σ₁ R₁ q => wpAny_bind (wpAny_holding (q.use R₁ fun iv s₂ σ₂ R₂ q => wpAny_bind (wpAny_standAt (wpAny_bind (wpAny_holding (q.use R₂ fun _ s₃ σ₃ R₃ q => wpAny_release (wpAny_deleteEach_nil ⟨σ₃, R₃, q⟩))))))))

theorem m_splStar {e : Expr} {pos pp : Pos} {Q : List Value → MS K → Prop} (h : mwp knd Γ A (eval e env) (fun v σ₁ => ∃ l xs, v = .ref l ∧ σ₁.h l = some (.list xs) ∧ xs.length ≤ sizeLine ∧ ∀ vs, Are xs vs → Q vs σ₁) σ) :
    mwp knd Γ A (spliced (backTo pos (starEach [.Starred e pp] env))) Q σ := fun s E R => by
  refine items_star (h.use R fun v s₁ σ₁ R₁ ⟨l, xs, ev, hl, hsz, q⟩ => ?_)
  subst ev
  obtain ⟨vs, n, e, ar⟩ := R₁.listX hl
  unfold StarOf notIterableAtAll
  refine wpAny_bind (wpAny_specialOf ⟨_, e, rfl⟩ PySem.F.slot_list_iter.lookup (wpAny_pure ⟨rfl, ?_⟩))
  refine wpAny_collect_seq l (.inl rfl) e rfl rfl (fun h' hk => ?_) (by rw [ar.size]; exact hsz)
  refine Calls.spliced_nil ⟨σ₁, R₁.ext (tk := s₁.toks) hk, ?_⟩
  rw [List.append_nil]; exact q _ ar
theorem c_funV {f : Addr} {args : List Value} {name qual : Str} {params : Arguments} {body : List Stmt} {scope : Scope} {dV kV doc pm cdv ct oc : Value} {an od : Option Addr} {osl : Array (Option Value)} {n : Nat} (ns : List Str) (vs : List V) (nv : Str) (rs : List V) {vals rest : List Value}
    (Z : Here KK p loose mg mb Γ.base) (hA : Dp A n)
    (hv : Are vs vals) (hr : Are rs rest) (hsz : rs.length ≤ sizeLine)
    (h : ∀ L' T, σ.h T = none → mwp knd (Γ.enter L' σ.m) (A.deeper (envOf qual scope L' f cdv)) (execs body (envOf qual scope L' f cdv)) (funQ σ.m Q) ⟨fun x => (ns.zip vs ++ [(nv, V.ref T)]).reverse.lookup x, put σ.h T (.tuple rs)⟩)
    (ho : KK.lookup f = some ⟨oc, od, .func (fnOf name qual params body scope dV kV doc pm an cdv ct), osl⟩)
    (hb : bindArgs (fnOf name qual params body scope dV kV doc pm an cdv ct) ⟨args, []⟩ = (newTuple rest >>= fun t => pure (ns.zip vals ++ [(nv, t)]))) (hcd : codeIn KK cdv qual = true)
    (hlk : ∀ x ∈ ns, scope.names.lookup x = some .local) (hlv : scope.names.lookup nv = some .local)
    (hco : scope.isCoroutine = false) (hgen : scope.isGenerator = false) (hk : scope.kind = .function) (hcell : ∀ x ∈ scope.names, x.2 ≠ .cell) :
    mcode knd Γ A (.call (.ref f) ⟨args, []⟩) Q σ := by
  refine mcode_less (c_def (Q := fun v σ' => ∃ h', (∀ a o, h' a = some o → σ'.h a = some o) ∧ σ'.m = σ.m ∧ Q v ⟨σ.m, h'⟩) hA Z.X Z.T.nolimit ?_ ho hcd hco hgen hk hcell)
    fun v σ' ⟨h', q1, q2, q3⟩ => ⟨⟨σ.m, h'⟩, q1, fun x v e => by rw [q2]; exact e, q3⟩
  rw [hb]
  refine mwp_bind (m_newTuple (xs := rs) hr hsz fun T hT => mwp_pure ⟨fun x hx => ?_, _, (binds_zip hv).append (.cons (v := .ref T) rfl .nil), fun L' => mwp_mono (h L' T hT) fun fl σ' ⟨h', q1, q2⟩ => ⟨h', q1, rfl, q2⟩⟩)
  rcases List.mem_append.mp hx with hx | hx
  · exact hlk x.1 (List.of_mem_zip (a := x.1) (b := x.2) hx).1
  · rw [List.mem_singleton] at hx; subst hx; exact hlv
end
end Mine
end
section
open PySem PySem.W PyProof.Rows PySem.SeqAt
set_option maxHeartbeats 400000
namespace Mine
theorem meets_bool_list (l : Addr) (items : Array Value) (hfit : (items.size : Int) < 2 ^ 63) :
    Meets (Builtin.«bool.__new__» ⟨[.type "bool", .ref l], []⟩) (fun _ R s => s.heap.IsList l items ∧ R (.ok (.ret (.bool (!items.isEmpty)))) { s with toks := s.toks + 1 + 1 }) :=
  Meets.of_wp fun prog w A R s ⟨hl, hs⟩ => by
    obtain ⟨hp, g, d, tk, os⟩ := s
    have f1 := F.conv_sub_bool
    repeat (any_goals (first | assumption | (with_reducible refine wpAny_truthy_list hl hfit ?_) | wp_step))
    all_goals first | exact ⟨_, rfl, hs⟩ | exact hs | skip
section
variable {prog : Program} {w : World} {K : Type} [DecidableEq K] {knd : PySem.KeyKind prog w K} {Γ : Fx} {σ : MS K} {A : Around} {env : Env} {α : Type} {s : Shared} {Q : Value → MS K → Prop} {QB : Bool → MS K → Prop} {QU : Unit → MS K → Prop} {QF : Flow → MS K → Prop}
variable {KK : Frag} {p : Program} {loose : List Str} {mg mb : Str → Option Value} {t u : Tok} {l l' : Addr}
theorem m_boolList {xs : List V} (hl : σ.h l = some (.list xs)) (hf : xs.length < 2 ^ 62) (h : Q (.bool (!xs.isEmpty)) σ) : mwp knd Γ A (call (.type "bool") [.ref l]) Q σ := fun s E R => by
  obtain ⟨vs, e, ar⟩ := R.list hl
  have hs := ar.size
  have e2 : vs.isEmpty = xs.isEmpty := by
    cases vs with | mk l => cases l <;> cases xs <;> simp at hs ⊢
  refine call_bool_1 (meets_bool_list l vs (by rw [hs]; omega)) ⟨e, rfl, σ, R.toks, ?_⟩
  rw [e2]; exact h
theorem m_attrI {i : Int} {x C dx : Addr} {sl : List (Option V)} {fs : List (Str × V)} {name : Str} {at_ : Option Value} (X : KK.In Γ.base) (hx : σ.h x = some (.inst C dx sl)) (hd : σ.h dx = some (.idict fs)) (hl : fs.lookup name = some (.int i)) (h : ∀ t, Q (.int i t) σ)
    (hg : plainGet KK C name = true) (hh : hasDictIn KK C = true) (ha : findIn KK (.ref C) name = some at_) (hn : noGet KK at_ = true) {expr : Bool} :
    mwp knd Γ A (getAttr (.ref x) name expr) Q σ := m_attr X hx hd hl (fun v' ⟨t, e⟩ => e ▸ h t) rfl hg hh ha hn
theorem m_slotI {i : Int} {x C dx : Addr} {sl : List (Option V)} {fs : List (Str × V)} {name : Str} {p : Addr} {j : Nat} (X : KK.In Γ.base) (hx : σ.h x = some (.inst C dx sl)) (hd : σ.h dx = some (.idict fs)) (hp : slotIn KK p C = some j) (hl : sl[j]? = some (some (.int i))) (h : ∀ t, Q (.int i t) σ)
    (ha : findIn KK (.ref C) name = some (some (.ref p))) (hg : plainGet KK C name = true) (hc : isClsIn KK C = true)
    (hn : specialIn KK (.ref p) "__get__" = some (some (.builtin "member_descriptor.__get__"))) (ht : takesIn KK (.ref p) = some true) {expr : Bool} :
    mwp knd Γ A (getAttr (.ref x) name expr) Q σ := m_slot X hx hd hl (fun v' ⟨t, e⟩ => e ▸ h t) hp ha rfl hg hc hn ht
theorem m_attrR {i : Addr} {x C dx : Addr} {sl : List (Option V)} {fs : List (Str × V)} {name : Str} {at_ : Option Value} (X : KK.In Γ.base) (hx : σ.h x = some (.inst C dx sl)) (hd : σ.h dx = some (.idict fs)) (hl : fs.lookup name = some (.ref i)) (h : Q (.ref i) σ)
    (hg : plainGet KK C name = true) (hh : hasDictIn KK C = true) (ha : findIn KK (.ref C) name = some at_) (hn : noGet KK at_ = true) {expr : Bool} :
    mwp knd Γ A (getAttr (.ref x) name expr) Q σ := m_attr X hx hd hl (fun v' e => (show v' = _ from e) ▸ h) rfl hg hh ha hn
theorem m_slotR {i : Addr} {x C dx : Addr} {sl : List (Option V)} {fs : List (Str × V)} {name : Str} {p : Addr} {j : Nat} (X : KK.In Γ.base) (hx : σ.h x = some (.inst C dx sl)) (hd : σ.h dx = some (.idict fs)) (hp : slotIn KK p C = some j) (hl : sl[j]? = some (some (.ref i))) (h : Q (.ref i) σ)
    (ha : findIn KK (.ref C) name = some (some (.ref p))) (hg : plainGet KK C name = true) (hc : isClsIn KK C = true)
    (hn : specialIn KK (.ref p) "__get__" = some (some (.builtin "member_descriptor.__get__"))) (ht : takesIn KK (.ref p) = some true) {expr : Bool} :
    mwp knd Γ A (getAttr (.ref x) name expr) Q σ := m_slot X hx hd hl (fun v' e => (show v' = _ from e) ▸ h) hp ha rfl hg hc hn ht
theorem m_attrN  {x C dx : Addr} {sl : List (Option V)} {fs : List (Str × V)} {name : Str} {at_ : Option Value} (X : KK.In Γ.base) (hx : σ.h x = some (.inst C dx sl)) (hd : σ.h dx = some (.idict fs)) (hl : fs.lookup name = some .none) (h : Q .none σ)
    (hg : plainGet KK C name = true) (hh : hasDictIn KK C = true) (ha : findIn KK (.ref C) name = some at_) (hn : noGet KK at_ = true) {expr : Bool} :
    mwp knd Γ A (getAttr (.ref x) name expr) Q σ := m_attr X hx hd hl (fun v' e => (show v' = _ from e) ▸ h) rfl hg hh ha hn
theorem m_slotS {i : Str} {x C dx : Addr} {sl : List (Option V)} {fs : List (Str × V)} {name : Str} {p : Addr} {j : Nat} (X : KK.In Γ.base) (hx : σ.h x = some (.inst C dx sl)) (hd : σ.h dx = some (.idict fs)) (hp : slotIn KK p C = some j) (hl : sl[j]? = some (some (.str i))) (h : ∀ t, Q (.str i t) σ)
    (ha : findIn KK (.ref C) name = some (some (.ref p))) (hg : plainGet KK C name = true) (hc : isClsIn KK C = true)
    (hn : specialIn KK (.ref p) "__get__" = some (some (.builtin "member_descriptor.__get__"))) (ht : takesIn KK (.ref p) = some true) {expr : Bool} :
    mwp knd Γ A (getAttr (.ref x) name expr) Q σ := m_slot X hx hd hl (fun v' ⟨t, e⟩ => e ▸ h t) hp ha rfl hg hc hn ht
inductive ForKQ (knd : PySem.KeyKind prog w K) (Γ : Fx) (A : Around) (env : Env) (x : Str) (body : List Stmt) (QF : Flow → MS K → Prop) (v : Value) (σ₁ : MS K) : Prop
  | mk (D : Addr) (o : O K) (σ₀ : MS K) (xs : List V) (It : Nat → Obj → Prop) (e : σ₁ = MS.set σ₀ D o) (hD : σ₀.h D = none) (Y : Yields knd A v xs (fun σ => σ.h D = some o) It) (J : Nat → MS K → Prop) (j0 : J 0 σ₀)
      (step : ∀ i y σ I ob hb ob2 hb2, xs[i]? = some y → J i σ → mwp knd ((Γ.freeze I ob hb).freeze D ob2 hb2) A (execs body env) (fun f σ₂ => match f with
        | .next | .cont => J (i + 1) σ₂
        | .brk => σ₂.h D = none → QF .next (σ₂.set D o)
        | .ret v => σ₂.h D = none → QF (.ret v) (σ₂.set D o)) (σ.store x y)) (fin : ∀ σ, J xs.length σ → σ.h D = none → QF .next (σ.set D o))
theorem m_ForK {x : Str} {px pos : Pos} {iter : Expr} {body : List Stmt} (h : mwp knd Γ A (eval iter env) (ForKQ knd Γ A env x body QF) σ)
    (hs : ∀ x, foldedSetIterable iter env x = pure x) (hk : env.scope.kind = .function) (hl : env.kindOf x = some .local) (he : env.locals = Γ.L) :
    mwp knd Γ A (exec (.For (.Name x px) iter body [] pos) env) QF σ := by
  refine m_For (mwp_mono h ?_) hs hk hl he
  rintro v _ ⟨D, o, σ₀, xs, It, rfl, hD, Y, J, j0, step, fin⟩
  refine ⟨xs, _, It, Y, fun i σ' => ∃ σ₀, σ' = MS.set σ₀ D o ∧ σ₀.h D = none ∧ J i σ₀, ⟨σ₀, rfl, hD, j0⟩, ?_, ?_, ?_⟩
  · rintro i _ ⟨σ₀, rfl, _, _⟩; exact put_same
  · rintro i y _ I ob hb hy ⟨σ₀, rfl, hD, j⟩
    refine mwp_mono (m_frame (σ := σ₀.store x y) (D := D) (o := o) hD fun ob2 hb2 => step i y σ₀ I ob hb ob2 hb2 hy j) ?_
    rintro f _ ⟨σ₂, rfl, h2, q⟩
    cases f with
    | next => exact ⟨σ₂, rfl, h2, q⟩
    | cont => exact ⟨σ₂, rfl, h2, q⟩
    | brk => exact q h2
    | ret v => exact q h2
  · rintro _ ⟨σ₀, rfl, h2, j⟩; exact fin σ₀ j h2
end
end Mine
end
section
open PySem PySem.W PyProof.Rows PySem.SeqAt
set_option maxHeartbeats 400000
namespace Mine
section
variable {prog : Program} {w : World} {K : Type} [DecidableEq K]
noncomputable def EvP (knd : PySem.KeyKind prog w K) (Γ : Fx) (A : Around) (env : Env) (σ : MS K) (e : Expr) (v : V) : Prop :=
  ∀ Q : Value → MS K → Prop, (∀ r, v.is r → Q r σ) → mwp knd Γ A (eval e env) Q σ
noncomputable def TvP (knd : PySem.KeyKind prog w K) (Γ : Fx) (A : Around) (env : Env) (σ : MS K) (e : Expr) (b : Bool) : Prop :=
  ∀ Q : Bool → MS K → Prop, Q b σ → mwp knd Γ A (isTrue e env (eval e env)) Q σ
end
section
variable {prog : Program} {w : World} {K : Type} [DecidableEq K] {knd : PySem.KeyKind prog w K} {Γ : Fx} {σ : MS K} {A : Around} {env : Env} {α : Type} {s : Shared} {Q : Value → MS K → Prop} {QB : Bool → MS K → Prop} {QU : Unit → MS K → Prop} {QF : Flow → MS K → Prop}
variable {KK : Frag} {p : Program} {loose : List Str} {mg mb : Str → Option Value} {t u : Tok} {pos pos' : Pos} {k : Nat} {x y z : Expr} {a b : Int} {st : Stmt} {rest : List Stmt}
theorem evI (h : EvP knd Γ A env σ x (.int a)) (k : ∀ t, Q (.int a t) σ) : mwp knd Γ A (eval x env) Q σ := h Q fun _ ⟨t, e⟩ => e ▸ k t
theorem evS {a : Str} (h : EvP knd Γ A env σ x (.str a)) (k : ∀ t, Q (.str a t) σ) : mwp knd Γ A (eval x env) Q σ := h Q fun _ ⟨t, e⟩ => e ▸ k t
theorem evY {a : Array UInt8} (h : EvP knd Γ A env σ x (.bytes a)) (k : ∀ t, Q (.bytes a t) σ) : mwp knd Γ A (eval x env) Q σ := h Q fun _ ⟨t, e⟩ => e ▸ k t
theorem evR {a : Addr} (h : EvP knd Γ A env σ x (.ref a)) (k : Q (.ref a) σ) : mwp knd Γ A (eval x env) Q σ := h Q fun v e => (show v = _ from e) ▸ k
theorem evB {a : Bool} (h : EvP knd Γ A env σ x (.bool a)) (k : Q (.bool a) σ) : mwp knd Γ A (eval x env) Q σ := h Q fun v e => (show v = _ from e) ▸ k
theorem evN (h : EvP knd Γ A env σ x .none) (k : Q .none σ) : mwp knd Γ A (eval x env) Q σ := h Q fun v e => (show v = _ from e) ▸ k
theorem evF {a : Value} (h : EvP knd Γ A env σ x (.fn a)) (k : Q a σ) : mwp knd Γ A (eval x env) Q σ := h Q fun v e => (show v = _ from e) ▸ k
theorem tvU {b : Bool} (h : TvP knd Γ A env σ x b) (k : QB b σ) : mwp knd Γ A (isTrue x env (eval x env)) QB σ := h QB k
theorem EvP.int {i : Int} : EvP knd Γ A env σ (.Constant (.int i) k pos) (.int i) := fun Q h => m_int fun t => h _ ⟨t, rfl⟩
theorem EvP.str {i : Str} : EvP knd Γ A env σ (.Constant (.str i) k pos) (.str i) := fun Q h => m_str fun t => h _ ⟨t, rfl⟩
theorem EvP.bool {i : Bool} : EvP knd Γ A env σ (.Constant (.bool i) k pos) (.bool i) := fun Q h => m_bool (h _ rfl)
theorem EvP.none : EvP knd Γ A env σ (.Constant .none k pos) .none := fun Q h => m_none (h _ rfl)
theorem EvP.nm {x : Str} {v : V} (hm : σ.m x = some v) (hk : (env.scope.kind, env.kindOf x, x == ("__debug__" : Str)) = (.function, some .local, false) := by rfl) (he : env.locals = Γ.L := by rfl) : EvP knd Γ A env σ (.Name x pos) v :=
  fun Q h => m_Name (m_load hm h (congrArg Prod.fst hk) (congrArg (·.2.1) hk) he) (congrArg (·.2.2) hk)
theorem EvP.cell {x : Str} {c : Addr} {v : V} (hm : σ.h c = some (.cell (some v))) (hk : (env.scope.kind, env.kindOf x, x == ("__debug__" : Str), env.cells.lookup x) = (.function, some .cell, false, some c) := by rfl) : EvP knd Γ A env σ (.Name x pos) v :=
  fun Q h => m_Name (m_loadCell hm h (congrArg Prod.fst hk) (congrArg (·.2.1) hk) (congrArg (·.2.2.2) hk)) (congrArg (·.2.2.1) hk)
theorem EvP.gK {x : Str} {r : Value} {v : V} (Z : Here KK p loose mg mb Γ.base) (hv : v.is r) (e : nsIn KK mainGlobals x = some (some r)) (hk : (env.scope.kind, env.kindOf x, x == ("__debug__" : Str)) = (.function, some .globalImplicit, false))
    (he : env.globals = mainGlobals) : EvP knd Γ A env σ (.Name x pos) v :=
  fun Q h => m_Name (m_gK Z (h _ hv) e (congrArg Prod.fst hk) (congrArg (·.2.1) hk) he) (congrArg (·.2.2) hk)
theorem EvP.add (h1 : EvP knd Γ A env σ x (.int a)) (h2 : EvP knd Γ A env σ y (.int b)) : EvP knd Γ A env σ (.BinOp x .Add y pos) (.int (a + b)) := fun Q h => m_BinOp (evI h1 fun _ => evI h2 fun _ => m_add fun t => h _ ⟨t, rfl⟩)
theorem EvP.sub (h1 : EvP knd Γ A env σ x (.int a)) (h2 : EvP knd Γ A env σ y (.int b)) : EvP knd Γ A env σ (.BinOp x .Sub y pos) (.int (a - b)) := fun Q h => m_BinOp (evI h1 fun _ => evI h2 fun _ => m_sub fun t => h _ ⟨t, rfl⟩)
theorem EvP.mul (h1 : EvP knd Γ A env σ x (.int a)) (h2 : EvP knd Γ A env σ y (.int b)) (hm : IntMulOk a b) : EvP knd Γ A env σ (.BinOp x .Mult y pos) (.int (a * b)) := fun Q h => m_BinOp (evI h1 fun _ => evI h2 fun _ => m_mul hm fun t => h _ ⟨t, rfl⟩)
theorem EvP.mod (h1 : EvP knd Γ A env σ x (.int a)) (h2 : EvP knd Γ A env σ y (.int b)) (hb : b ≠ 0) : EvP knd Γ A env σ (.BinOp x .Mod y pos) (.int (a.fmod b)) := fun Q h => m_BinOp (evI h1 fun _ => evI h2 fun _ => m_mod hb fun t => h _ ⟨t, rfl⟩)
theorem EvP.div (h1 : EvP knd Γ A env σ x (.int a)) (h2 : EvP knd Γ A env σ y (.int b)) (hb : b ≠ 0) (hs : b.natAbs < 2 ^ 64) : EvP knd Γ A env σ (.BinOp x .FloorDiv y pos) (.int (a.fdiv b)) := fun Q h => m_BinOp (evI h1 fun _ => evI h2 fun _ => m_div hb (noPylong hs) fun t => h _ ⟨t, rfl⟩)
theorem EvP.and (h1 : EvP knd Γ A env σ x (.int a)) (h2 : EvP knd Γ A env σ y (.int b)) : EvP knd Γ A env σ (.BinOp x .BitAnd y pos) (.int (Builtin.bitAnd a b)) := fun Q h => m_BinOp (evI h1 fun _ => evI h2 fun _ => m_and fun t => h _ ⟨t, rfl⟩)
theorem TvP.eqi (h1 : EvP knd Γ A env σ x (.int a)) (h2 : EvP knd Γ A env σ y (.int b)) (hm : behindInMarks .Eq y = false) : TvP knd Γ A env σ (.Compare x [.Eq] [y] pos) (a == b) := fun Q h => m_isCompare (evI h1 fun _ => evI h2 fun _ => m_eqi (m_trBool h)) hm
theorem TvP.nei (h1 : EvP knd Γ A env σ x (.int a)) (h2 : EvP knd Γ A env σ y (.int b)) (hm : behindInMarks .NotEq y = false) : TvP knd Γ A env σ (.Compare x [.NotEq] [y] pos) (a != b) := fun Q h => m_isCompare (evI h1 fun _ => evI h2 fun _ => m_nei (m_trBool h)) hm
theorem TvP.lti (h1 : EvP knd Γ A env σ x (.int a)) (h2 : EvP knd Γ A env σ y (.int b)) (hm : behindInMarks .Lt y = false) : TvP knd Γ A env σ (.Compare x [.Lt] [y] pos) (decide (a < b)) := fun Q h => m_isCompare (evI h1 fun _ => evI h2 fun _ => m_lti (m_trBool h)) hm
theorem TvP.gti (h1 : EvP knd Γ A env σ x (.int a)) (h2 : EvP knd Γ A env σ y (.int b)) (hm : behindInMarks .Gt y = false) : TvP knd Γ A env σ (.Compare x [.Gt] [y] pos) (decide (b < a)) := fun Q h => m_isCompare (evI h1 fun _ => evI h2 fun _ => m_gti (m_trBool h)) hm
theorem TvP.gei (h1 : EvP knd Γ A env σ x (.int a)) (h2 : EvP knd Γ A env σ y (.int b)) (hm : behindInMarks .GtE y = false) : TvP knd Γ A env σ (.Compare x [.GtE] [y] pos) (decide (b ≤ a)) := fun Q h => m_isCompare (evI h1 fun _ => evI h2 fun _ => m_gei (m_trBool h)) hm
theorem TvP.eqs {a b : Str} (h1 : EvP knd Γ A env σ x (.str a)) (h2 : EvP knd Γ A env σ y (.str b)) (hm : behindInMarks .Eq y = false) : TvP knd Γ A env σ (.Compare x [.Eq] [y] pos) (a == b) := fun Q h => m_isCompare (evS h1 fun _ => evS h2 fun _ => m_eqs (m_trBool h)) hm
theorem TvP.vb {b : Bool} (h1 : EvP knd Γ A env σ x (.bool b)) (he : isTrue x env (eval x env) = (do let v ← eval x env; standAt x.pos; holding [v] (truthy v))) : TvP knd Γ A env σ x b := fun Q h => m_isValue (evB h1 (m_trBool h)) he
theorem m_AssignE {n : Str} {v : V} (h : EvP knd Γ A env σ x v) (k : mwp knd Γ A (execs rest env) QF (σ.store n v)) (hk : (env.scope.kind, env.kindOf n) = (.function, some .local)) (he : env.locals = Γ.L)
    (hs : swapsWith x (some (.Name n pos')) pos.line env = pure false) : mwp knd Γ A (execs (.Assign [.Name n pos'] x pos :: rest) env) QF σ :=
  m_cons (m_AssignName (h _ fun _ hv => m_store hv k (congrArg Prod.fst hk) (congrArg Prod.snd hk) he) hs)
theorem m_IaddE {n : Str} (h1 : σ.m n = some (.int a)) (h : EvP knd Γ A env σ x (.int b)) (k : mwp knd Γ A (execs rest env) QF (σ.store n (.int (a + b)))) (hk : (env.scope.kind, env.kindOf n) = (.function, some .local)) (he : env.locals = Γ.L) :
    mwp knd Γ A (execs (.AugAssign (.Name n pos') .Add x pos :: rest) env) QF σ :=
  m_cons (m_AugName (m_load h1 (fun _ ⟨_, e⟩ => e ▸ evI h fun _ => m_iadd fun t => m_store (v := .int (a + b)) ⟨t, rfl⟩ k (congrArg Prod.fst hk) (congrArg Prod.snd hk) he) (congrArg Prod.fst hk) (congrArg Prod.snd hk) he))
theorem m_IsubE {n : Str} (h1 : σ.m n = some (.int a)) (h : EvP knd Γ A env σ x (.int b)) (k : mwp knd Γ A (execs rest env) QF (σ.store n (.int (a - b)))) (hk : (env.scope.kind, env.kindOf n) = (.function, some .local)) (he : env.locals = Γ.L) :
    mwp knd Γ A (execs (.AugAssign (.Name n pos') .Sub x pos :: rest) env) QF σ :=
  m_cons (m_AugName (m_load h1 (fun _ ⟨_, e⟩ => e ▸ evI h fun _ => m_isub fun t => m_store (v := .int (a - b)) ⟨t, rfl⟩ k (congrArg Prod.fst hk) (congrArg Prod.snd hk) he) (congrArg Prod.fst hk) (congrArg Prod.snd hk) he))
end
end Mine
end
local macro_rules | `(tactic| walk_at "hl") => `(tactic| first | assumption | exact Mine.put_same | exact Mine.put_s1 (e := by walk_at "hl") | exact Mine.put_o1 (e := by walk_at "hl") | exact Mine.put_d1 (by walk_at "hl") (by walk_at "hl") | rfl)
section
open PySem PySem.W PyProof.Rows
theorem Mine.fill : (PySem.Challenge.rw_ny0306_02, Mine.hd1.heap_1) = (PySem.Challenge.rw_ny0306_02, Mine.hd1.heap_1) := by k_fill; rfl
end
section
open PySem PySem.W PyProof.Rows PySem.SeqAt
set_option maxHeartbeats 400000
namespace Mine
section
variable {prog : Program} {w : World} {K : Type} [DecidableEq K] {knd : PySem.KeyKind prog w K} {Γ : Fx} {σ : MS K} {A : Around} {env : Env} {α : Type} {s : Shared} {Q : Value → MS K → Prop} {QB : Bool → MS K → Prop} {QU : Unit → MS K → Prop} {QF : Flow → MS K → Prop}
variable {p : Program} {loose : List Str} {mg mb : Str → Option Value} {t u : Tok} {n : Nat}

theorem c_subst {a b : Str} (ha : a.length ≤ 5592405) (hb : b.length ≤ 5592405) (Z : Here (Mine.hd1.heap_1 w.params) p loose mg mb Γ.base) (hA : Dp A n) (h : ∀ t, Q (.int (sCost a b) t) σ) : mcode knd Γ A (.call (.ref 28) ⟨[.str a t, .str b u], []⟩) Q σ := by
  refine c_fun (ho := by k_is) (hb := by rfl) (hcd := by k_is) (hlk := by decide) (hco := by rfl) (hgen := by rfl) (hk := by rfl) (hcell := by decide) ["ch_a", "ch_b"] [.str a, .str b] Z hA (.cons ⟨t, rfl⟩ (.cons ⟨u, rfl⟩ .nil)) ?_
  intro _
  refine m_cons ?_
  refine m_If ?_
  refine tvU (TvP.eqs (hm := by with_unfolding_all rfl) (EvP.nm (v := .str _) (by rfl)) (EvP.nm (v := .str _) (by rfl))) ?_
  refine ite_of (fun e => ?_) fun e => ?_
  · refine m_abs fun Zq0 hZq0 => ?_
    refine m_cons ?_
    refine m_Return ?_
    refine evI EvP.int fun _ => ?_
    refine hZq0 _ _ ?_
    have := h; unfold sCost at this; rw [if_pos e] at this; exact ⟨_, fun _ _ e => e, this _⟩
  · refine m_nil ?_
    refine m_cons ?_
    refine m_If ?_
    refine m_isCompare (hm := by with_unfolding_all rfl) ?_
    refine m_abs fun Zq0 hZq0 => ?_
    refine m_Method (he := by rfl) ?_
    refine evS (EvP.nm (v := .str _) (by rfl)) fun _ => ?_
    refine m_methStr PySem.F.slot_str_lower PySem.F.type_str_lower ?_
    refine m_callB0 ?_
    refine m_lower ha fun _ => ?_
    refine hZq0 _ _ ?_
    refine m_abs fun Zq1 hZq1 => ?_
    refine m_Method (he := by rfl) ?_
    refine evS (EvP.nm (v := .str _) (by rfl)) fun _ => ?_
    refine m_methStr PySem.F.slot_str_lower PySem.F.type_str_lower ?_
    refine m_callB0 ?_
    refine m_lower hb fun _ => ?_
    refine hZq1 _ _ ?_
    refine m_eqs ?_
    refine m_trBool ?_
    refine ite_of (fun e' => ?_) fun e' => ?_
    · refine m_abs fun Zq2 hZq2 => ?_
      refine m_cons ?_
      refine m_Return ?_
      refine evI (EvP.gK (e := by k_is) (hk := by rfl) (he := by rfl) (v := .int _) (by assumption) ⟨_, rfl⟩) fun _ => ?_
      refine hZq2 _ _ ?_
      have := h; unfold sCost at this; rw [if_neg e, if_pos e'] at this; exact ⟨_, fun _ _ e => e, this _⟩
    · refine m_nil ?_
      refine m_cons ?_
      refine m_Return ?_
      refine evI (EvP.gK (e := by k_is) (hk := by rfl) (he := by rfl) (v := .int _) (by assumption) ⟨_, rfl⟩) fun _ => ?_
      have := h; unfold sCost at this; rw [if_neg e, if_neg e'] at this; exact ⟨_, fun _ _ e => e, this _⟩
end
end Mine
end
section
open PySem PySem.W PyProof.Rows PySem.SeqAt
set_option maxHeartbeats 1000000
namespace Mine
section
variable {prog : Program} {w : World} {K : Type} [DecidableEq K] {knd : PySem.KeyKind prog w K} {Γ : Fx} {σ : MS K} {A : Around} {env : Env} {α : Type} {s : Shared} {Q : Value → MS K → Prop} {QB : Bool → MS K → Prop} {QU : Unit → MS K → Prop} {QF : Flow → MS K → Prop}
variable {p : Program} {loose : List Str} {mg mb : Str → Option Value} {t u v : Tok} {n : Nat}

theorem stripP_eq {x : Nat} {a b : List Nat} : stripP (x :: a) (x :: b) = stripP a b := by rw [stripP, if_pos rfl]
theorem stripP_ne {x y : Nat} {a b : List Nat} (h : x ≠ y) : stripP (x :: a) (y :: b) = (x :: a, y :: b) := by rw [stripP, if_neg h]
theorem drop_len {l : List Nat} {k m : Nat} (h : l.length ≤ m) : (l.drop k).length ≤ m := by rw [List.length_drop]; exact Nat.le_trans (Nat.sub_le _ _) h
theorem take_len {l : List Nat} {k m : Nat} (h : l.length ≤ m) : (l.take k).length ≤ m := by rw [List.length_take]; exact Nat.le_trans (Nat.min_le_right _ _) h
theorem one_eq {a b : Nat} (h : decide ([a] = [b]) = true) : a = b := by simpa using h
theorem one_ne {a b : Nat} (h : ¬ decide ([a] = [b]) = true) : a ≠ b := by simpa using h
theorem rev_ne {l : List Nat} (h : decide (l ≠ []) = true) : l.reverse ≠ [] := by simpa using h
theorem nil_t {l : List Nat} (h : l = []) : (!decide (l ≠ [])) = true := by simp [h]
theorem nil_f {l : List Nat} (h : l ≠ []) : ¬ (!decide (l ≠ [])) = true := by simp [h]
theorem stripP_nil1 {b : List Nat} : stripP [] b = ([], b) := by simp [stripP]
theorem stripP_nil2 {b : List Nat} : stripP b [] = (b, []) := by cases b <;> simp [stripP]
theorem drop_at {l : List Nat} {k : Nat} (h : l.drop k ≠ []) : ∃ c, l[k]? = some c ∧ l.drop k = c :: l.drop (k + 1) := by
  have hk : k < l.length := by
    apply Classical.byContradiction; intro q; exact h (List.drop_eq_nil_of_le (by lia))
  skip
  exact ⟨l[k], List.getElem?_eq_getElem hk, List.drop_eq_getElem_cons hk⟩

theorem inner_length (x : Nat) : ∀ (a : List Nat) (row : List Int) (d res mn : Int), row.length = a.length → (inner x a row d res mn).1.length = a.length
  | [], [], _, _, _, _ => rfl
  | c :: a, r :: row, d, res, mn, h => by simp only [inner, List.length_cons]; rw [inner_length x a row _ _ _ (by simpa using h)]
  | [], _ :: _, _, _, _, h => by cases h
  | _ :: _, [], _, _, _, h => by cases h
theorem c_subst1 {x y : Nat} (Z : Here (Mine.hd1.heap_1 w.params) p loose mg mb Γ.base) (hA : Dp A n) (h : ∀ t, Q (.int (sc x y) t) σ) : mcode knd Γ A (.call (.ref 28) ⟨[.str (T [x]) t, .str (T [y]) u], []⟩) Q σ :=
  c_subst (by rw [T_len]; show 1 ≤ _; decide) (by rw [T_len]; show 1 ≤ _; decide) Z hA h
inductive LevPre {K : Type} (a b : List Nat) (mx : Int) (h0 : Addr → Option (O K)) (n' : Nat) (σ' : MS K) : Prop
  | mk (k : Nat) (e : n' = a.length - k) (h1 : k ≤ a.length) (h2 : k ≤ b.length) (h3 : stripP (a.drop k) (b.drop k) = stripP a b) (hf : Fit σ' (names [("a", .str (T a)), ("b", .str (T b)), ("max_cost", .int mx), ("pre", .int k)]) h0)
inductive LevPost {K : Type} (a1 b1 : List Nat) (mx : Int) (h0 : Addr → Option (O K)) (n' : Nat) (σ' : MS K) : Prop
  | mk (j : Nat) (e : n' = a1.length - j) (h1 : j ≤ a1.length) (h2 : j ≤ b1.length) (h3 : stripP (a1.reverse.drop j) (b1.reverse.drop j) = stripP a1.reverse b1.reverse) (hf : Fit σ' (names [("a", .str (T a1)), ("b", .str (T b1)), ("max_cost", .int mx), ("post", .int (-(j : Int)))]) h0)
inductive LevRow {K : Type} (a3 b3 : List Nat) (mx : Int) (r : Addr) (h0 : Addr → Option (O K)) (i : Nat) (σ' : MS K) : Prop
  | mk (row : List Int) (res : Int) (h1 : row.length = a3.length) (h2 : rows a3 mx (b3.drop i) i row res = rows a3 mx b3 0 (row0 a3.length) 0)
      (hf : Fit σ' (names [("a", .str (T a3)), ("b", .str (T b3)), ("max_cost", .int mx), ("row", .ref r), ("result", .int res)]) (put h0 r (.list (row.map V.int))))
inductive LevIn {K : Type} (a3 b3 : List Nat) (mx : Int) (r : Addr) (h0 : Addr → Option (O K)) (x : Nat) (row : List Int) (d0 : Int) (k : Nat) (σ' : MS K) : Prop
  | mk (d re mn : Int) (done : List Int) (h1 : done.length = k) (h2 : (done ++ (inner x (a3.drop k) (row.drop k) d re mn).1, (inner x (a3.drop k) (row.drop k) d re mn).2) = inner x a3 row d0 d0 9223372036854775807)
      (hf : Fit σ' (names [("a", .str (T a3)), ("b", .str (T b3)), ("max_cost", .int mx), ("row", .ref r), ("bchar", .str (T [x])), ("distance", .int d), ("result", .int re), ("minimum", .int mn)]) (put h0 r (.list ((done ++ row.drop k).map V.int))))
inductive LevE1 {K : Type} (a b : List Nat) (mx : Int) (h0 : Addr → Option (O K)) (σ' : MS K) : Prop
  | mk (k : Nat) (h1 : k ≤ a.length) (h2 : k ≤ b.length) (h3 : stripP a b = (a.drop k, b.drop k)) (hf : Fit σ' (names [("a", .str (T a)), ("b", .str (T b)), ("max_cost", .int mx), ("pre", .int k)]) h0)
inductive LevE2 {K : Type} (a1 b1 : List Nat) (mx : Int) (h0 : Addr → Option (O K)) (σ' : MS K) : Prop
  | mk (j : Nat) (h1 : j ≤ a1.length) (h2 : j ≤ b1.length) (h3 : stripS a1 b1 = (a1.take (a1.length - j), b1.take (b1.length - j))) (hf : Fit σ' (names [("a", .str (T a1)), ("b", .str (T b1)), ("max_cost", .int mx), ("post", .int (-(j : Int)))]) h0)
theorem c_lev {a b : List Nat} {mx : Int} (ha : a.length ≤ 1000) (hb : b.length ≤ 1000) (Z : Here (Mine.hd1.heap_1 w.params) p loose mg mb Γ.base) (hA : Dp A (n + 1)) (h : ∀ t, Q (.int (lev a b mx) t) σ) :
    mcode knd Γ A (.call (.ref 35) ⟨[.str (T a) t, .str (T b) u, .int mx v], []⟩) Q σ := by
  refine c_fun (ho := by k_is) (hb := by rfl) (hcd := by k_is) (hlk := by decide) (hco := by rfl) (hgen := by rfl) (hk := by rfl) (hcell := by decide) ["a", "b", "max_cost"] [.str (T a), .str (T b), .int mx] Z hA (.cons ⟨t, rfl⟩ (.cons ⟨u, rfl⟩ (.cons ⟨v, rfl⟩ .nil))) ?_
  intro L'
  refine m_cons ?_
  refine m_If ?_
  refine tvU (TvP.eqs (hm := by with_unfolding_all rfl) (EvP.nm (v := .str _) (by rfl)) (EvP.nm (v := .str _) (by rfl))) ?_
  rw [T_beq]
  refine ite_of (fun e => ?_) fun e => ?_
  · refine m_abs fun Zq0 hZq0 => ?_
    refine m_cons ?_
    refine m_Return ?_
    refine evI EvP.int fun _ => ?_
    refine hZq0 _ _ ?_
    have := h; unfold lev at this; rw [if_pos (of_decide_eq_true e)] at this; exact ⟨_, fun _ _ e => e, this _⟩
  have hne : a ≠ b := fun q => e (decide_eq_true q)
  refine m_nil ?_
  refine m_AssignE (hk := by rfl) (he := by rfl) (hs := by rfl) EvP.int ?_
  refine m_cons ?_
  refine m_weak (m' := names [("a", .str (T a)), ("b", .str (T b)), ("max_cost", .int mx), ("pre", .int (0 : Nat))]) (h' := σ.h) (by exact Mine.Sub.of rfl) (fun _ _ e => e) ?_
  refine m_then (P := LevE1 a b mx σ.h) ?_ ?_
  · refine m_While (I := LevPre a b mx σ.h) (n := a.length) ⟨0, rfl, by lia, by lia, rfl, by exact ⟨by exact Mine.Sub.of rfl, fun _ _ e => e⟩⟩ ?_
    rintro n' σ' ⟨k, rfl, h1, h2, h3, hf⟩
    refine m_fit hf ?_
    refine m_abs fun Zq0 hZq0 => ?_
    refine m_isBoolOp ?_
    refine m_andCons ?_
    refine m_isValue (he := by rfl) ?_
    refine m_SubSlice ?_
    refine evS (EvP.nm (v := .str _) (by rfl)) fun _ => ?_
    refine m_part ?_
    refine evI (EvP.nm (v := .int _) (by rfl)) fun _ => ?_
    refine m_part0 ?_
    refine slS (.int _ _) .none ha (slice_drop h1) fun _ => ?_
    skip
    refine m_trT (drop_len ha) ?_
    refine ite_of (fun e1 => ?_) fun e1 => ?_
    rotate_left
    · refine hZq0 _ _ ?_
      refine ifalse (by decide) ?_
      refine m_nil ?_
      refine ⟨rfl, k, h1, h2, ?_, by exact ⟨by exact Mine.Sub.of rfl, fun _ _ e => e⟩⟩
      have : a.drop k = [] := Classical.byContradiction fun q => e1 (decide_eq_true q)
      rw [← h3, this, stripP_nil1]
    refine m_andCons ?_
    refine m_isValue (he := by rfl) ?_
    refine m_SubSlice ?_
    refine evS (EvP.nm (v := .str _) (by rfl)) fun _ => ?_
    refine m_part ?_
    refine evI (EvP.nm (v := .int _) (by rfl)) fun _ => ?_
    refine m_part0 ?_
    refine slS (.int _ _) .none hb (slice_drop h2) fun _ => ?_
    skip
    refine m_trT (drop_len hb) ?_
    refine ite_of (fun e2 => ?_) fun e2 => ?_
    rotate_left
    · refine hZq0 _ _ ?_
      refine ifalse (by decide) ?_
      refine m_nil ?_
      refine ⟨rfl, k, h1, h2, ?_, by exact ⟨by exact Mine.Sub.of rfl, fun _ _ e => e⟩⟩
      have : b.drop k = [] := Classical.byContradiction fun q => e2 (decide_eq_true q)
      rw [← h3, this, stripP_nil2]
    obtain ⟨ca, q1, q2⟩ := drop_at (l := a) (k := k) (of_decide_eq_true e1)
    obtain ⟨cb, q3, q4⟩ := drop_at (l := b) (k := k) (of_decide_eq_true e2)
    have k1 := (List.getElem?_eq_some_iff.mp q1).1
    have k2 := (List.getElem?_eq_some_iff.mp q3).1
    refine m_andCons ?_
    refine m_isCompare (hm := by with_unfolding_all rfl) ?_
    refine m_Sub ?_
    refine evS (EvP.nm (v := .str _) (by rfl)) fun _ => ?_
    refine evI (EvP.nm (v := .int _) (by rfl)) fun _ => ?_
    refine m_atT (hs := by with_unfolding_all rfl) (by lia) q1 fun _ => ?_
    refine m_Sub ?_
    refine evS (EvP.nm (v := .str _) (by rfl)) fun _ => ?_
    refine evI (EvP.nm (v := .int _) (by rfl)) fun _ => ?_
    refine m_atT (hs := by with_unfolding_all rfl) (by lia) q3 fun _ => ?_
    refine m_eqs ?_
    refine m_trBool ?_
    rw [T_beq]
    refine ite_of (fun e3 => ?_) fun e3 => ?_
    · refine m_andNil ?_
      refine hZq0 _ _ ?_
      skip
      refine itrue rfl ?_
      refine m_IaddE (hk := by rfl) (he := by rfl) (by rfl) EvP.int ?_
      refine m_nil ?_
      have e3 : ca = cb := one_eq e3
      subst e3
      skip
      refine ⟨a.length - (k + 1), by lia, k + 1, rfl, by lia, by lia, ?_, ?_⟩
      · rw [← h3, q2, q4, stripP_eq]
      · exact ⟨by exact Mine.Sub.of rfl, fun _ _ e => e⟩
    · refine hZq0 _ _ ?_
      refine ifalse (by decide) ?_
      refine m_nil ?_
      refine ⟨rfl, k, h1, h2, ?_, by exact ⟨by exact Mine.Sub.of rfl, fun _ _ e => e⟩⟩
      rw [← h3, q2, q4, stripP_ne (one_ne e3)]
  rintro σ' ⟨k, hk1, hk2, hk3, hf⟩
  refine m_fit hf ?_
  refine m_cons ?_
  refine m_AssignName (hs := by rfl) ?_
  refine m_SubSlice ?_
  refine evS (EvP.nm (v := .str _) (by rfl)) fun _ => ?_
  refine m_part ?_
  refine evI (EvP.nm (v := .int _) (by rfl)) fun _ => ?_
  refine m_part0 ?_
  refine slS (.int _ _) .none ha (slice_drop hk1) fun _ => ?_
  refine m_sts (hk := by rfl) (hl := by rfl) (he := by rfl) ?_
  refine m_cons ?_
  refine m_AssignName (hs := by rfl) ?_
  refine m_SubSlice ?_
  refine evS (EvP.nm (v := .str _) (by rfl)) fun _ => ?_
  refine m_part ?_
  refine evI (EvP.nm (v := .int _) (by rfl)) fun _ => ?_
  refine m_part0 ?_
  refine slS (.int _ _) .none hb (slice_drop hk2) fun _ => ?_
  have la : (a.drop k).length ≤ 1000 := drop_len ha
  have lb : (b.drop k).length ≤ 1000 := drop_len hb
  have hlev : ∀ r, stripS (a.drop k) (b.drop k) = r → lev a b mx = levB r.1 r.2 mx := by
    intro r hr; subst hr; unfold lev; rw [if_neg hne, hk3]
  revert la lb hlev
  generalize a.drop k = a1
  generalize b.drop k = b1
  intro la lb hlev
  refine m_sts (hk := by rfl) (hl := by rfl) (he := by rfl) ?_
  refine m_AssignE (hk := by rfl) (he := by rfl) (hs := by rfl) EvP.int ?_
  refine m_cons ?_
  refine m_then (P := LevE2 a1 b1 mx σ.h) ?_ ?_
  · refine m_While (I := LevPost a1 b1 mx σ.h) (n := a1.length) ⟨0, rfl, by lia, by lia, rfl, by exact ⟨by exact Mine.Sub.of rfl, fun _ _ e => e⟩⟩ ?_
    rintro n' σ' ⟨j, rfl, h1, h2, h3, hf⟩
    refine m_fit hf ?_
    refine m_abs fun Zq0 hZq0 => ?_
    refine m_isBoolOp ?_
    refine m_andCons ?_
    refine m_isValue (he := by rfl) ?_
    refine m_SubSlice ?_
    refine evS (EvP.nm (v := .str _) (by rfl)) fun _ => ?_
    refine m_part0 ?_
    refine m_part ?_
    refine m_or2 ?_
    refine evI (EvP.nm (v := .int _) (by rfl)) fun _ => ?_
    refine m_trInt ?_
    refine slS_post h1 la fun _ => ?_
    skip
    refine m_trT (take_len la) ?_
    refine ite_of (fun e1 => ?_) fun e1 => ?_
    rotate_left
    · refine hZq0 _ _ ?_
      refine ifalse (by decide) ?_
      refine m_nil ?_
      refine ⟨rfl, j, h1, h2, ?_, by exact ⟨by exact Mine.Sub.of rfl, fun _ _ e => e⟩⟩
      have e1 : a1.take (a1.length - j) = [] := Classical.byContradiction fun q => e1 (decide_eq_true q)
      unfold stripS
      rw [← h3, List.drop_reverse, List.drop_reverse, e1, List.reverse_nil, stripP_nil1]; simp
    refine m_andCons ?_
    refine m_isValue (he := by rfl) ?_
    refine m_SubSlice ?_
    refine evS (EvP.nm (v := .str _) (by rfl)) fun _ => ?_
    refine m_part0 ?_
    refine m_part ?_
    refine m_or2 ?_
    refine evI (EvP.nm (v := .int _) (by rfl)) fun _ => ?_
    refine m_trInt ?_
    refine slS_post h2 lb fun _ => ?_
    skip
    refine m_trT (take_len lb) ?_
    refine ite_of (fun e2 => ?_) fun e2 => ?_
    rotate_left
    · refine hZq0 _ _ ?_
      refine ifalse (by decide) ?_
      refine m_nil ?_
      refine ⟨rfl, j, h1, h2, ?_, by exact ⟨by exact Mine.Sub.of rfl, fun _ _ e => e⟩⟩
      have e2 : b1.take (b1.length - j) = [] := Classical.byContradiction fun q => e2 (decide_eq_true q)
      unfold stripS
      rw [← h3, List.drop_reverse, List.drop_reverse, e2, List.reverse_nil, stripP_nil2]; simp
    obtain ⟨ca, q1, q2⟩ := drop_at (l := a1.reverse) (k := j) (by rw [List.drop_reverse]; exact rev_ne e1)
    obtain ⟨cb, q3, q4⟩ := drop_at (l := b1.reverse) (k := j) (by rw [List.drop_reverse]; exact rev_ne e2)
    have k1 := (List.getElem?_eq_some_iff.mp q1).1
    have k2 := (List.getElem?_eq_some_iff.mp q3).1
    rw [List.length_reverse] at k1 k2
    rw [List.getElem?_reverse k1] at q1
    rw [List.getElem?_reverse k2] at q3
    refine m_andCons ?_
    refine m_isCompare (hm := by with_unfolding_all rfl) ?_
    refine m_Sub ?_
    refine evS (EvP.nm (v := .str _) (by rfl)) fun _ => ?_
    refine evI (EvP.sub (EvP.nm (v := .int _) (by rfl)) EvP.int) fun _ => ?_
    refine m_atTneg (hs := by with_unfolding_all rfl) (k := j) rfl k1 la (by rw [show a1.length - j - 1 = a1.length - 1 - j by lia]; exact q1) fun _ => ?_
    refine m_Sub ?_
    refine evS (EvP.nm (v := .str _) (by rfl)) fun _ => ?_
    refine evI (EvP.sub (EvP.nm (v := .int _) (by rfl)) EvP.int) fun _ => ?_
    refine m_atTneg (hs := by with_unfolding_all rfl) (k := j) rfl k2 lb (by rw [show b1.length - j - 1 = b1.length - 1 - j by lia]; exact q3) fun _ => ?_
    refine m_eqs ?_
    refine m_trBool ?_
    rw [T_beq]
    refine ite_of (fun e3 => ?_) fun e3 => ?_
    · refine m_andNil ?_
      refine hZq0 _ _ ?_
      skip
      refine itrue rfl ?_
      refine m_IsubE (hk := by rfl) (he := by rfl) (by rfl) EvP.int ?_
      refine m_nil ?_
      have e3 : ca = cb := one_eq e3
      subst e3
      skip
      refine ⟨a1.length - (j + 1), by lia, j + 1, rfl, by lia, by lia, ?_, ?_⟩
      · rw [← h3, q2, q4, stripP_eq]
      · rw [show -(((j + 1 : Nat) : Int)) = -(j : Int) - 1 by lia]; exact ⟨by exact Mine.Sub.of rfl, fun _ _ e => e⟩
    · refine hZq0 _ _ ?_
      refine ifalse (by decide) ?_
      refine m_nil ?_
      refine ⟨rfl, j, h1, h2, ?_, by exact ⟨by exact Mine.Sub.of rfl, fun _ _ e => e⟩⟩
      unfold stripS
      rw [← h3, q2, q4, stripP_ne (one_ne e3), ← q2, ← q4, List.drop_reverse, List.drop_reverse]; simp
  rintro σ' ⟨j, hj1, hj2, hj3, hf⟩
  have hlev := hlev _ hj3
  refine m_fit hf ?_
  refine m_cons ?_
  refine m_AssignName (hs := by rfl) ?_
  refine m_SubSlice ?_
  refine evS (EvP.nm (v := .str _) (by rfl)) fun _ => ?_
  refine m_part0 ?_
  refine m_part ?_
  refine m_or2 ?_
  refine evI (EvP.nm (v := .int _) (by rfl)) fun _ => ?_
  refine m_trInt ?_
  refine slS_post hj1 la fun _ => ?_
  refine m_sts (hk := by rfl) (hl := by rfl) (he := by rfl) ?_
  refine m_cons ?_
  refine m_AssignName (hs := by rfl) ?_
  refine m_SubSlice ?_
  refine evS (EvP.nm (v := .str _) (by rfl)) fun _ => ?_
  refine m_part0 ?_
  refine m_part ?_
  refine m_or2 ?_
  refine evI (EvP.nm (v := .int _) (by rfl)) fun _ => ?_
  refine m_trInt ?_
  refine slS_post hj2 lb fun _ => ?_
  have la2 : (a1.take (a1.length - j)).length ≤ 1000 := take_len la
  have lb2 : (b1.take (b1.length - j)).length ≤ 1000 := take_len lb
  simp only at hlev
  revert la2 lb2 hlev
  generalize a1.take (a1.length - j) = a2
  generalize b1.take (b1.length - j) = b2
  intro hlev la2 lb2
  rw [hlev] at h
  have hA1 : ∀ e, Dp (A.deeper e) n := fun e => hA.deeper e
  refine m_sts (hk := by rfl) (hl := by rfl) (he := by rfl) ?_
  skip
  refine m_weak (m' := names [("a", .str (T a2)), ("b", .str (T b2)), ("max_cost", .int mx)]) (h' := σ.h) (by exact Mine.Sub.of rfl) (fun _ _ e => e) ?_
  refine m_cons ?_
  refine m_If ?_
  refine m_isBoolOp ?_
  refine m_orCons ?_
  refine m_abs fun Zq0 hZq0 => ?_
  refine m_isNot ?_
  refine m_isValue (he := by rfl) ?_
  refine evS (EvP.nm (v := .str _) (by rfl)) fun _ => ?_
  refine m_trT la2 ?_
  refine hZq0 _ _ ?_
  by_cases hnil : a2 = [] ∨ b2 = []
  · have h : ∀ t, Q (.int (2 * ((a2.length : Int) + b2.length)) t) σ := by unfold levB at h; rw [if_pos hnil] at h; exact h
    by_cases ha0 : a2 = []
    · skip
      refine itrue (nil_t ha0) ?_
      skip
      skip
      refine itrue rfl ?_
      refine m_abs fun Zq1 hZq1 => ?_
      refine m_cons ?_
      refine m_Return ?_
      refine m_BinOp ?_
      refine evI (EvP.gK (e := by k_is) (hk := by rfl) (he := by rfl) (v := .int _) (by assumption) ⟨_, rfl⟩) fun _ => ?_
      refine m_BinOp ?_
      refine m_abs fun Zq2 hZq2 => ?_
      refine m_Call (he := by rfl) ?_
      refine m_Name (hd := by decide) ?_
      first | refine m_gK (e := by k_is) (hk := by rfl) (hl := by rfl) (he := by rfl) (by assumption) ?_ | refine m_gB (e := by k_is) (hv := by rfl) (hn := by decide) (hk := by rfl) (hl := by rfl) (he := by rfl) (hf := by rfl) (by assumption) ?_
      refine m_callB (he := by rfl) (hplain := by rfl) ?_
      refine m_splE (he := by rfl) ?_
      refine evS (EvP.nm (v := .str _) (by rfl)) fun _ => ?_
      refine m_splE0 ?_
      refine m_lenT la2 fun _ => ?_
      refine hZq2 _ _ ?_
      refine m_abs fun Zq3 hZq3 => ?_
      refine m_Call (he := by rfl) ?_
      refine m_Name (hd := by decide) ?_
      first | refine m_gK (e := by k_is) (hk := by rfl) (hl := by rfl) (he := by rfl) (by assumption) ?_ | refine m_gB (e := by k_is) (hv := by rfl) (hn := by decide) (hk := by rfl) (hl := by rfl) (he := by rfl) (hf := by rfl) (by assumption) ?_
      refine m_callB (he := by rfl) (hplain := by rfl) ?_
      refine m_splE (he := by rfl) ?_
      refine evS (EvP.nm (v := .str _) (by rfl)) fun _ => ?_
      refine m_splE0 ?_
      refine m_lenT lb2 fun _ => ?_
      refine hZq3 _ _ ?_
      refine m_add fun _ => ?_
      first | refine m_mul (by first | exact IntMulOk.of_right (by decide) | exact IntMulOk.of_left (by decide) | assumption) fun _ => ?_ | refine m_mul ?_ fun _ => ?_
      refine hZq1 _ _ ?_
      exact ⟨_, fun _ _ e => e, h _⟩
    · skip
      refine ifalse (nil_f ha0) ?_
      refine m_orCons ?_
      refine m_abs fun Zq1 hZq1 => ?_
      refine m_isNot ?_
      refine m_isValue (he := by rfl) ?_
      refine evS (EvP.nm (v := .str _) (by rfl)) fun _ => ?_
      refine m_trT lb2 ?_
      refine hZq1 _ _ ?_
      skip
      refine itrue (nil_t (hnil.resolve_left ha0)) ?_
      skip
      skip
      refine itrue rfl ?_
      refine m_abs fun Zq2 hZq2 => ?_
      refine m_cons ?_
      refine m_Return ?_
      refine m_BinOp ?_
      refine evI (EvP.gK (e := by k_is) (hk := by rfl) (he := by rfl) (v := .int _) (by assumption) ⟨_, rfl⟩) fun _ => ?_
      refine m_BinOp ?_
      refine m_abs fun Zq3 hZq3 => ?_
      refine m_Call (he := by rfl) ?_
      refine m_Name (hd := by decide) ?_
      first | refine m_gK (e := by k_is) (hk := by rfl) (hl := by rfl) (he := by rfl) (by assumption) ?_ | refine m_gB (e := by k_is) (hv := by rfl) (hn := by decide) (hk := by rfl) (hl := by rfl) (he := by rfl) (hf := by rfl) (by assumption) ?_
      refine m_callB (he := by rfl) (hplain := by rfl) ?_
      refine m_splE (he := by rfl) ?_
      refine evS (EvP.nm (v := .str _) (by rfl)) fun _ => ?_
      refine m_splE0 ?_
      refine m_lenT la2 fun _ => ?_
      refine hZq3 _ _ ?_
      refine m_abs fun Zq4 hZq4 => ?_
      refine m_Call (he := by rfl) ?_
      refine m_Name (hd := by decide) ?_
      first | refine m_gK (e := by k_is) (hk := by rfl) (hl := by rfl) (he := by rfl) (by assumption) ?_ | refine m_gB (e := by k_is) (hv := by rfl) (hn := by decide) (hk := by rfl) (hl := by rfl) (he := by rfl) (hf := by rfl) (by assumption) ?_
      refine m_callB (he := by rfl) (hplain := by rfl) ?_
      refine m_splE (he := by rfl) ?_
      refine evS (EvP.nm (v := .str _) (by rfl)) fun _ => ?_
      refine m_splE0 ?_
      refine m_lenT lb2 fun _ => ?_
      refine hZq4 _ _ ?_
      refine m_add fun _ => ?_
      first | refine m_mul (by first | exact IntMulOk.of_right (by decide) | exact IntMulOk.of_left (by decide) | assumption) fun _ => ?_ | refine m_mul ?_ fun _ => ?_
      refine hZq2 _ _ ?_
      exact ⟨_, fun _ _ e => e, h _⟩
  skip
  refine ifalse (nil_f fun q => hnil (.inl q)) ?_
  refine m_orCons ?_
  refine m_abs fun Zq1 hZq1 => ?_
  refine m_isNot ?_
  refine m_isValue (he := by rfl) ?_
  refine evS (EvP.nm (v := .str _) (by rfl)) fun _ => ?_
  refine m_trT lb2 ?_
  refine hZq1 _ _ ?_
  skip
  refine ifalse (nil_f fun q => hnil (.inr q)) ?_
  refine m_orNil ?_
  skip
  refine ifalse (by decide) ?_
  refine m_nil ?_
  refine m_cons ?_
  refine m_If ?_
  refine m_isBoolOp ?_
  refine m_orCons ?_
  refine m_abs fun Zq2 hZq2 => ?_
  refine m_isCompare (hm := by with_unfolding_all rfl) ?_
  refine m_Call (he := by rfl) ?_
  refine m_Name (hd := by decide) ?_
  first | refine m_gK (e := by k_is) (hk := by rfl) (hl := by rfl) (he := by rfl) (by assumption) ?_ | refine m_gB (e := by k_is) (hv := by rfl) (hn := by decide) (hk := by rfl) (hl := by rfl) (he := by rfl) (hf := by rfl) (by assumption) ?_
  refine m_callB (he := by rfl) (hplain := by rfl) ?_
  refine m_splE (he := by rfl) ?_
  refine evS (EvP.nm (v := .str _) (by rfl)) fun _ => ?_
  refine m_splE0 ?_
  refine m_lenT la2 fun _ => ?_
  refine evI (EvP.gK (e := by k_is) (hk := by rfl) (he := by rfl) (v := .int _) (by assumption) ⟨_, rfl⟩) fun _ => ?_
  refine m_gti ?_
  refine m_trBool ?_
  refine hZq2 _ _ ?_
  have hl40 : (40 : Int) < (a2.length : Int) ↔ 40 < a2.length := by lia
  by_cases h40 : a2.length > 40 ∨ b2.length > 40
  · have h : ∀ t, Q (.int (mx + 1) t) σ := by unfold levB at h; rw [if_neg hnil, if_pos h40] at h; exact h
    by_cases ha0 : a2.length > 40
    · skip
      refine itrue (by simp; lia) ?_
      skip
      skip
      refine itrue rfl ?_
      refine m_abs fun Zq3 hZq3 => ?_
      refine m_cons ?_
      refine m_Return ?_
      refine evI (EvP.add (EvP.nm (v := .int _) (by rfl)) EvP.int) fun _ => ?_
      refine hZq3 _ _ ?_
      exact ⟨_, fun _ _ e => e, h _⟩
    · skip
      refine ifalse (by simp; lia) ?_
      refine m_orCons ?_
      refine m_abs fun Zq3 hZq3 => ?_
      refine m_isCompare (hm := by with_unfolding_all rfl) ?_
      refine m_Call (he := by rfl) ?_
      refine m_Name (hd := by decide) ?_
      first | refine m_gK (e := by k_is) (hk := by rfl) (hl := by rfl) (he := by rfl) (by assumption) ?_ | refine m_gB (e := by k_is) (hv := by rfl) (hn := by decide) (hk := by rfl) (hl := by rfl) (he := by rfl) (hf := by rfl) (by assumption) ?_
      refine m_callB (he := by rfl) (hplain := by rfl) ?_
      refine m_splE (he := by rfl) ?_
      refine evS (EvP.nm (v := .str _) (by rfl)) fun _ => ?_
      refine m_splE0 ?_
      refine m_lenT lb2 fun _ => ?_
      refine evI (EvP.gK (e := by k_is) (hk := by rfl) (he := by rfl) (v := .int _) (by assumption) ⟨_, rfl⟩) fun _ => ?_
      refine m_gti ?_
      refine m_trBool ?_
      refine hZq3 _ _ ?_
      skip
      refine itrue (by simp; lia) ?_
      skip
      skip
      refine itrue rfl ?_
      refine m_abs fun Zq4 hZq4 => ?_
      refine m_cons ?_
      refine m_Return ?_
      refine evI (EvP.add (EvP.nm (v := .int _) (by rfl)) EvP.int) fun _ => ?_
      refine hZq4 _ _ ?_
      exact ⟨_, fun _ _ e => e, h _⟩
  skip
  refine ifalse (by simp; lia) ?_
  refine m_orCons ?_
  refine m_abs fun Zq3 hZq3 => ?_
  refine m_isCompare (hm := by with_unfolding_all rfl) ?_
  refine m_Call (he := by rfl) ?_
  refine m_Name (hd := by decide) ?_
  first | refine m_gK (e := by k_is) (hk := by rfl) (hl := by rfl) (he := by rfl) (by assumption) ?_ | refine m_gB (e := by k_is) (hv := by rfl) (hn := by decide) (hk := by rfl) (hl := by rfl) (he := by rfl) (hf := by rfl) (by assumption) ?_
  refine m_callB (he := by rfl) (hplain := by rfl) ?_
  refine m_splE (he := by rfl) ?_
  refine evS (EvP.nm (v := .str _) (by rfl)) fun _ => ?_
  refine m_splE0 ?_
  refine m_lenT lb2 fun _ => ?_
  refine evI (EvP.gK (e := by k_is) (hk := by rfl) (he := by rfl) (v := .int _) (by assumption) ⟨_, rfl⟩) fun _ => ?_
  refine m_gti ?_
  refine m_trBool ?_
  refine hZq3 _ _ ?_
  skip
  refine ifalse (by simp; lia) ?_
  refine m_orNil ?_
  skip
  refine ifalse (by decide) ?_
  refine m_nil ?_
  skip
  obtain ⟨a3, b3, hab, la3, lb3, hle, ha3⟩ : ∃ a3 b3, (a3, b3) = (if b2.length < a2.length then (b2, a2) else (a2, b2)) ∧ a3.length ≤ 40 ∧ b3.length ≤ 40 ∧ a3.length ≤ b3.length ∧ lev a b mx = levC a3 b3 mx := by
    by_cases hlt : b2.length < a2.length
    · skip
      refine ⟨b2, a2, by rw [if_pos hlt], by lia, by lia, by lia, ?_⟩
      rw [hlev]; unfold levB; rw [if_neg hnil, if_neg h40, if_pos hlt]
    · skip
      refine ⟨a2, b2, by rw [if_neg hlt], by lia, by lia, by lia, ?_⟩
      rw [hlev]; unfold levB; rw [if_neg hnil, if_neg h40, if_neg hlt]
  rw [← hlev, ha3] at h
  refine m_cons (m_then (P := fun σ' => Fit σ' (names [("a", .str (T a3)), ("b", .str (T b3)), ("max_cost", .int mx)]) σ.h) ?_ ?_)
  · refine m_If ?_
    refine m_abs fun Zq4 hZq4 => ?_
    refine m_isCompare (hm := by with_unfolding_all rfl) ?_
    refine m_Call (he := by rfl) ?_
    refine m_Name (hd := by decide) ?_
    first | refine m_gK (e := by k_is) (hk := by rfl) (hl := by rfl) (he := by rfl) (by assumption) ?_ | refine m_gB (e := by k_is) (hv := by rfl) (hn := by decide) (hk := by rfl) (hl := by rfl) (he := by rfl) (hf := by rfl) (by assumption) ?_
    refine m_callB (he := by rfl) (hplain := by rfl) ?_
    refine m_splE (he := by rfl) ?_
    refine evS (EvP.nm (v := .str _) (by rfl)) fun _ => ?_
    refine m_splE0 ?_
    refine m_lenT lb2 fun _ => ?_
    refine m_Call (he := by rfl) ?_
    refine m_Name (hd := by decide) ?_
    first | refine m_gK (e := by k_is) (hk := by rfl) (hl := by rfl) (he := by rfl) (by assumption) ?_ | refine m_gB (e := by k_is) (hv := by rfl) (hn := by decide) (hk := by rfl) (hl := by rfl) (he := by rfl) (hf := by rfl) (by assumption) ?_
    refine m_callB (he := by rfl) (hplain := by rfl) ?_
    refine m_splE (he := by rfl) ?_
    refine evS (EvP.nm (v := .str _) (by rfl)) fun _ => ?_
    refine m_splE0 ?_
    refine m_lenT la2 fun _ => ?_
    refine m_lti ?_
    refine m_trBool ?_
    refine hZq4 _ _ ?_
    refine ite_of (fun e => ?_) fun e => ?_
    · rw [if_pos (by simpa using e)] at hab
      obtain ⟨rfl, rfl⟩ : a3 = b2 ∧ b3 = a2 := by simpa using hab
      refine m_cons (m_swap2 (hs := by rfl) (hw := by rfl) (hk := by rfl) (hlx := by rfl) (hly := by rfl) (he := by rfl) (hA1 _).hd (v1 := .str (T a3)) (v2 := .str (T b3)) ?_)
      refine m_Tuple ?_
      refine m_splE (he := by rfl) ?_
      refine evS (EvP.nm (v := .str _) (by rfl)) fun _ => ?_
      refine m_splE (he := by rfl) ?_
      refine evS (EvP.nm (v := .str _) (by rfl)) fun _ => ?_
      refine m_splE0 ?_
      refine m_newTuple (xs := [.str (T a3), .str (T b3)]) (.cons ⟨_, rfl⟩ (.cons ⟨_, rfl⟩ .nil)) (by show 2 ≤ sizeLine; decide) fun D hD => ?_
      skip
      refine ⟨D, rfl, by simp [MS.set, put], ?_⟩
      refine m_nil ?_
      refine ⟨rfl, by exact Mine.Sub.of rfl, fun a o e => ?_⟩
      show put σ.h D _ a = _
      unfold put; rw [if_neg (fun q => by rw [q, hD] at e; cases e)]; exact e
    · rw [if_neg (by simpa using e)] at hab
      obtain ⟨rfl, rfl⟩ : a3 = a2 ∧ b3 = b2 := by simpa using hab
      refine m_nil ?_
      exact ⟨rfl, by exact Mine.Sub.of rfl, fun _ _ e => e⟩
  intro σ' hf
  refine m_fit hf ?_
  refine m_cons ?_
  refine m_If ?_
  refine m_isCompare (hm := by with_unfolding_all rfl) ?_
  refine m_BinOp ?_
  refine m_BinOp ?_
  refine m_abs fun Zq4 hZq4 => ?_
  refine m_Call (he := by rfl) ?_
  refine m_Name (hd := by decide) ?_
  first | refine m_gK (e := by k_is) (hk := by rfl) (hl := by rfl) (he := by rfl) (by assumption) ?_ | refine m_gB (e := by k_is) (hv := by rfl) (hn := by decide) (hk := by rfl) (hl := by rfl) (he := by rfl) (hf := by rfl) (by assumption) ?_
  refine m_callB (he := by rfl) (hplain := by rfl) ?_
  refine m_splE (he := by rfl) ?_
  refine evS (EvP.nm (v := .str _) (by rfl)) fun _ => ?_
  refine m_splE0 ?_
  refine m_lenT (by lia) fun _ => ?_
  refine hZq4 _ _ ?_
  refine m_abs fun Zq5 hZq5 => ?_
  refine m_Call (he := by rfl) ?_
  refine m_Name (hd := by decide) ?_
  first | refine m_gK (e := by k_is) (hk := by rfl) (hl := by rfl) (he := by rfl) (by assumption) ?_ | refine m_gB (e := by k_is) (hv := by rfl) (hn := by decide) (hk := by rfl) (hl := by rfl) (he := by rfl) (hf := by rfl) (by assumption) ?_
  refine m_callB (he := by rfl) (hplain := by rfl) ?_
  refine m_splE (he := by rfl) ?_
  refine evS (EvP.nm (v := .str _) (by rfl)) fun _ => ?_
  refine m_splE0 ?_
  refine m_lenT (by lia) fun _ => ?_
  refine hZq5 _ _ ?_
  refine m_sub fun _ => ?_
  refine evI (EvP.gK (e := by k_is) (hk := by rfl) (he := by rfl) (v := .int _) (by assumption) ⟨_, rfl⟩) fun _ => ?_
  first | refine m_mul (by first | exact IntMulOk.of_right (by decide) | exact IntMulOk.of_left (by decide) | assumption) fun _ => ?_ | refine m_mul ?_ fun _ => ?_
  refine evI (EvP.nm (v := .int _) (by rfl)) fun _ => ?_
  refine m_gti ?_
  refine m_trBool ?_
  refine ite_of (fun e => ?_) fun e => ?_
  · refine m_abs fun Zq6 hZq6 => ?_
    refine m_cons ?_
    refine m_Return ?_
    refine evI (EvP.add (EvP.nm (v := .int _) (by rfl)) EvP.int) fun _ => ?_
    refine hZq6 _ _ ?_
    unfold levC at h; rw [if_pos (by simpa using e)] at h; exact ⟨_, fun _ _ e => e, h _⟩
  have h : ∀ t, Q (.int (rows a3 mx b3 0 (row0 a3.length) 0) t) σ := by
    unfold levC at h; rw [if_neg (by simpa using e)] at h; exact h
  refine m_nil ?_
  refine m_cons ?_
  refine m_AssignName (hs := by rfl) ?_
  refine m_Call (he := by rfl) ?_
  refine m_Name (hd := by decide) ?_
  first | refine m_gK (e := by k_is) (hk := by rfl) (hl := by rfl) (he := by rfl) (by assumption) ?_ | refine m_gB (e := by k_is) (hv := by rfl) (hn := by decide) (hk := by rfl) (hl := by rfl) (he := by rfl) (hf := by rfl) (by assumption) ?_
  refine m_callT (he := by rfl) (hplain := by rfl) ?_
  refine m_splE (he := by rfl) ?_
  refine m_abs fun Zq6 hZq6 => ?_
  refine m_Call (he := by rfl) ?_
  refine m_Name (hd := by decide) ?_
  first | refine m_gK (e := by k_is) (hk := by rfl) (hl := by rfl) (he := by rfl) (by assumption) ?_ | refine m_gB (e := by k_is) (hv := by rfl) (hn := by decide) (hk := by rfl) (hl := by rfl) (he := by rfl) (hf := by rfl) (by assumption) ?_
  refine m_callT (he := by rfl) (hplain := by rfl) ?_
  refine m_splE (he := by rfl) ?_
  refine evI (EvP.gK (e := by k_is) (hk := by rfl) (he := by rfl) (v := .int _) (by assumption) ⟨_, rfl⟩) fun _ => ?_
  refine m_splE (he := by rfl) ?_
  refine m_BinOp ?_
  refine evI (EvP.gK (e := by k_is) (hk := by rfl) (he := by rfl) (v := .int _) (by assumption) ⟨_, rfl⟩) fun _ => ?_
  refine m_BinOp ?_
  refine m_abs fun Zq7 hZq7 => ?_
  refine m_Call (he := by rfl) ?_
  refine m_Name (hd := by decide) ?_
  first | refine m_gK (e := by k_is) (hk := by rfl) (hl := by rfl) (he := by rfl) (by assumption) ?_ | refine m_gB (e := by k_is) (hv := by rfl) (hn := by decide) (hk := by rfl) (hl := by rfl) (he := by rfl) (hf := by rfl) (by assumption) ?_
  refine m_callB (he := by rfl) (hplain := by rfl) ?_
  refine m_splE (he := by rfl) ?_
  refine evS (EvP.nm (v := .str _) (by rfl)) fun _ => ?_
  refine m_splE0 ?_
  refine m_lenT (by lia) fun _ => ?_
  refine hZq7 _ _ ?_
  refine evI EvP.int fun _ => ?_
  refine m_add fun _ => ?_
  first | refine m_mul (by first | exact IntMulOk.of_right (by decide) | exact IntMulOk.of_left (by decide) | assumption) fun _ => ?_ | refine m_mul ?_ fun _ => ?_
  refine m_splE (he := by rfl) ?_
  refine evI (EvP.gK (e := by k_is) (hk := by rfl) (he := by rfl) (v := .int _) (by assumption) ⟨_, rfl⟩) fun _ => ?_
  refine m_splE0 ?_
  refine m_range3 (by decide) (noPylong (by decide)) fun D hD => ?_
  refine hZq6 _ _ ?_
  refine m_splE0 ?_
  have hsz : Builtin.Range.rangeSize 2 (2 * ((a3.length : Int) + 1)) 2 = (a3.length : Nat) := by
    unfold Builtin.Range.rangeSize; split <;> (try split) <;> lia
  have hsm : Builtin.Range.small 2 (2 * ((a3.length : Int) + 1)) 2 = true := by
    unfold Builtin.Range.small
    rw [hsz]
    simp [Builtin.Range.rangeFitsLong]
    lia
  refine m_listRange (hA1 _).hd (by simp [MS.set, put]) hsm hsz (by lia) fun r hr => ?_
  have hr : σ.h r = none := by
    cases z : σ.h r with
    | none => rfl
    | some o => exact absurd (put_sub hD r o z) (by rw [show put σ.h D _ r = none from hr]; simp)
  refine m_str' (hk := by rfl) (hl := by rfl) (he := by rfl) ?_
  refine m_AssignE (hk := by rfl) (he := by rfl) (hs := by rfl) EvP.int ?_
  refine m_cons ?_
  refine m_weak (m' := names [("a", .str (T a3)), ("b", .str (T b3)), ("max_cost", .int mx), ("row", .ref r), ("result", .int 0)]) (h' := put σ.h r (.list ((row0 a3.length).map V.int))) (by exact Mine.Sub.of rfl) (by
    unfold row0; rw [List.map_map]; exact put_mono (put_sub hD)) ?_
  refine m_ForF (hs := by intro _; rfl) (hk := by rfl) (hl := by rfl) (he := by rfl) ?_
  refine m_Call (he := by rfl) ?_
  refine m_Name (hd := by decide) ?_
  first | refine m_gK (e := by k_is) (hk := by rfl) (hl := by rfl) (he := by rfl) (by assumption) ?_ | refine m_gB (e := by k_is) (hv := by rfl) (hn := by decide) (hk := by rfl) (hl := by rfl) (he := by rfl) (hf := by rfl) (by assumption) ?_
  refine m_callT (he := by rfl) (hplain := by rfl) ?_
  refine m_splE (he := by rfl) ?_
  refine m_abs fun Zq8 hZq8 => ?_
  refine m_Call (he := by rfl) ?_
  refine m_Name (hd := by decide) ?_
  first | refine m_gK (e := by k_is) (hk := by rfl) (hl := by rfl) (he := by rfl) (by assumption) ?_ | refine m_gB (e := by k_is) (hv := by rfl) (hn := by decide) (hk := by rfl) (hl := by rfl) (he := by rfl) (hf := by rfl) (by assumption) ?_
  refine m_callB (he := by rfl) (hplain := by rfl) ?_
  refine m_splE (he := by rfl) ?_
  refine evS (EvP.nm (v := .str _) (by rfl)) fun _ => ?_
  refine m_splE0 ?_
  refine m_lenT (by lia) fun _ => ?_
  refine hZq8 _ _ ?_
  refine m_splE0 ?_
  refine m_range1 fun D2 hD2 => ?_
  skip
  refine ⟨D2, _, _, _, _, rfl, hD2, yields_range (hA1 _).hd b3.length (range_small (by lia)).1 (range_small (by lia)).2, LevRow a3 b3 mx r σ.h, ?_, ?_, ?_⟩
  · skip
    exact ⟨_, _, by simp [row0], rfl, by exact ⟨by exact Mine.Sub.of rfl, fun _ _ e => e⟩⟩
  · rintro i y σ' I ob hb ob2 hb2 hy ⟨row, res, hrow, hrows, hf⟩
    obtain ⟨hi, rfl⟩ := range_item hy
    refine m_fitS hf ?_
    obtain ⟨x, hx, hx2⟩ := drop_at (l := b3) (k := i) (by simp; lia)
    refine m_abs fun Zq9 hZq9 => ?_
    refine m_cons ?_
    refine m_AssignName (hs := by rfl) ?_
    refine m_Sub ?_
    refine evS (EvP.nm (v := .str _) (by rfl)) fun _ => ?_
    refine evI (EvP.nm (v := .int _) (by rfl)) fun _ => ?_
    refine m_atT (hs := by with_unfolding_all rfl) (by lia) hx fun _ => ?_
    refine m_sts (hk := by rfl) (hl := by rfl) (he := by rfl) ?_
    refine m_cons ?_
    refine m_Assign2 (he := by rfl) (hw := by rfl) ?_
    refine evI (EvP.mul (EvP.nm (v := .int _) (by rfl)) (EvP.gK (e := by k_is) (hk := by rfl) (he := by rfl) (v := .int _) (by assumption) ⟨_, rfl⟩) (by first | exact IntMulOk.of_right (by decide) | exact IntMulOk.of_left (by decide) | assumption)) fun _ => ?_
    refine m_assignName ?_
    refine m_sti (hk := by rfl) (hl := by rfl) (he := by rfl) ?_
    refine m_assignName ?_
    refine m_sti (hk := by rfl) (hl := by rfl) (he := by rfl) ?_
    refine m_AssignE (hk := by rfl) (he := by rfl) (hs := by rfl) EvP.int ?_
    refine m_cons ?_
    refine m_weak (m' := names [("a", .str (T a3)), ("b", .str (T b3)), ("max_cost", .int mx), ("row", .ref r), ("bchar", .str (T [x])), ("distance", .int (i * 2)), ("result", .int (i * 2)), ("minimum", .int 9223372036854775807)]) (h' := put σ.h r (.list (row.map V.int))) (by exact Mine.Sub.of rfl) (fun _ _ e => e) ?_
    refine m_then (P := fun σ' => Fit σ' (names [("a", .str (T a3)), ("b", .str (T b3)), ("max_cost", .int mx), ("row", .ref r), ("result", .int (inner x a3 row (2 * i) (2 * i) 9223372036854775807).2.1), ("minimum", .int (inner x a3 row (2 * i) (2 * i) 9223372036854775807).2.2)]) (put σ.h r (.list ((inner x a3 row (2 * i) (2 * i) 9223372036854775807).1.map V.int)))) ?_ ?_
    · refine m_ForF (hs := by intro _; rfl) (hk := by rfl) (hl := by rfl) (he := by rfl) ?_
      refine m_abs fun Zq10 hZq10 => ?_
      refine m_Call (he := by rfl) ?_
      refine m_Name (hd := by decide) ?_
      first | refine m_gK (e := by k_is) (hk := by rfl) (hl := by rfl) (he := by rfl) (by assumption) ?_ | refine m_gB (e := by k_is) (hv := by rfl) (hn := by decide) (hk := by rfl) (hl := by rfl) (he := by rfl) (hf := by rfl) (by assumption) ?_
      refine m_callT (he := by rfl) (hplain := by rfl) ?_
      refine m_splE (he := by rfl) ?_
      refine m_abs fun Zq11 hZq11 => ?_
      refine m_Call (he := by rfl) ?_
      refine m_Name (hd := by decide) ?_
      first | refine m_gK (e := by k_is) (hk := by rfl) (hl := by rfl) (he := by rfl) (by assumption) ?_ | refine m_gB (e := by k_is) (hv := by rfl) (hn := by decide) (hk := by rfl) (hl := by rfl) (he := by rfl) (hf := by rfl) (by assumption) ?_
      refine m_callB (he := by rfl) (hplain := by rfl) ?_
      refine m_splE (he := by rfl) ?_
      refine evS (EvP.nm (v := .str _) (by rfl)) fun _ => ?_
      refine m_splE0 ?_
      refine m_lenT (by lia) fun _ => ?_
      refine hZq11 _ _ ?_
      refine m_splE0 ?_
      refine m_range1 fun D3 hD3 => ?_
      refine hZq10 _ _ ?_
      refine ⟨D3, _, _, _, _, rfl, hD3, yields_range (hA1 _).hd a3.length (range_small (by lia)).1 (range_small (by lia)).2, LevIn a3 b3 mx r σ.h x row (2 * i), ?_, ?_, ?_⟩
      · skip
        refine ⟨i * 2, i * 2, _, [], rfl, by rw [Int.mul_comm]; rfl, by exact ⟨by exact Mine.Sub.of rfl, fun _ _ e => e⟩⟩
      · rintro k y σ' I3 ob3 hb3 ob4 hb4 hy3 ⟨d, re, mn, done, hdone, hin, hf⟩
        obtain ⟨hk, rfl⟩ := range_item hy3
        refine m_fitS hf ?_
        obtain ⟨c, hc, hc2⟩ := drop_at (l := a3) (k := k) (by simp; lia)
        refine m_abs fun Zq12 hZq12 => ?_
        refine m_cons ?_
        refine m_AssignName (hs := by rfl) ?_
        refine m_BinOp ?_
        refine evI (EvP.nm (v := .int _) (by rfl)) fun _ => ?_
        refine m_abs fun Zq13 hZq13 => ?_
        refine m_Call (he := by rfl) ?_
        refine m_Name (hd := by decide) ?_
        first | refine m_gK (e := by k_is) (hk := by rfl) (hl := by rfl) (he := by rfl) (by assumption) ?_ | refine m_gB (e := by k_is) (hv := by rfl) (hn := by decide) (hk := by rfl) (hl := by rfl) (he := by rfl) (hf := by rfl) (by assumption) ?_
        refine m_callZ (hk := by k_is) (he := by rfl) (hplain := by rfl) (by assumption) ?_
        refine m_splE (he := by rfl) ?_
        refine evS (EvP.nm (v := .str _) (by rfl)) fun _ => ?_
        refine m_splE (he := by rfl) ?_
        refine m_Sub ?_
        refine evS (EvP.nm (v := .str _) (by rfl)) fun _ => ?_
        refine evI (EvP.nm (v := .int _) (by rfl)) fun _ => ?_
        refine m_atT (hs := by with_unfolding_all rfl) (by lia) hc fun _ => ?_
        refine m_splE0 ?_
        refine m_code (c_subst1 Z ((hA1 _).le (Nat.zero_le _)) fun _ => ?_)
        refine hZq13 _ _ ?_
        refine m_add fun _ => ?_
        refine m_sti (hk := by rfl) (hl := by rfl) (he := by rfl) ?_
        refine m_cons ?_
        refine m_AssignName (hs := by rfl) ?_
        refine m_Sub ?_
        refine evR (EvP.nm (v := .ref _) (by rfl)) ?_
        refine evI (EvP.nm (v := .int _) (by rfl)) fun _ => ?_
        have hk' : k < row.length := by lia
        have hrk : row.drop k = row[k] :: row.drop (k + 1) := List.drop_eq_getElem_cons hk'
        refine m_atLi (hs := by with_unfolding_all rfl) (z := row[k]) put_same (by lia) ?_ fun _ => ?_
        · rw [List.getElem?_map, List.getElem?_append_right (by lia), hdone, hrk]; simp
        refine m_sti (hk := by rfl) (hl := by rfl) (he := by rfl) ?_
        refine m_cons ?_
        refine m_AssignName (hs := by rfl) ?_
        refine m_BinOp ?_
        refine m_abs fun Zq14 hZq14 => ?_
        refine m_Call (he := by rfl) ?_
        refine m_Name (hd := by decide) ?_
        first | refine m_gK (e := by k_is) (hk := by rfl) (hl := by rfl) (he := by rfl) (by assumption) ?_ | refine m_gB (e := by k_is) (hv := by rfl) (hn := by decide) (hk := by rfl) (hl := by rfl) (he := by rfl) (hf := by rfl) (by assumption) ?_
        refine m_callB (he := by rfl) (hplain := by rfl) ?_
        refine m_splE (he := by rfl) ?_
        refine evI (EvP.nm (v := .int _) (by rfl)) fun _ => ?_
        refine m_splE (he := by rfl) ?_
        refine evI (EvP.nm (v := .int _) (by rfl)) fun _ => ?_
        refine m_splE0 ?_
        refine m_min (hA1 _).hd fun _ => ?_
        refine hZq14 _ _ ?_
        refine evI (EvP.gK (e := by k_is) (hk := by rfl) (he := by rfl) (v := .int _) (by assumption) ⟨_, rfl⟩) fun _ => ?_
        refine m_add fun _ => ?_
        refine m_sti (hk := by rfl) (hl := by rfl) (he := by rfl) ?_
        refine m_cons ?_
        refine m_AssignName (hs := by rfl) ?_
        refine m_abs fun Zq15 hZq15 => ?_
        refine m_Call (he := by rfl) ?_
        refine m_Name (hd := by decide) ?_
        first | refine m_gK (e := by k_is) (hk := by rfl) (hl := by rfl) (he := by rfl) (by assumption) ?_ | refine m_gB (e := by k_is) (hv := by rfl) (hn := by decide) (hk := by rfl) (hl := by rfl) (he := by rfl) (hf := by rfl) (by assumption) ?_
        refine m_callB (he := by rfl) (hplain := by rfl) ?_
        refine m_splE (he := by rfl) ?_
        refine evI (EvP.nm (v := .int _) (by rfl)) fun _ => ?_
        refine m_splE (he := by rfl) ?_
        refine evI (EvP.nm (v := .int _) (by rfl)) fun _ => ?_
        refine m_splE0 ?_
        refine m_min (hA1 _).hd fun _ => ?_
        refine hZq15 _ _ ?_
        refine m_sti (hk := by rfl) (hl := by rfl) (he := by rfl) ?_
        refine m_cons ?_
        refine m_AssignSub (hs := by rfl) ?_
        refine evI (EvP.nm (v := .int _) (by rfl)) fun _ => ?_
        refine evR (EvP.nm (v := .ref _) (by rfl)) ?_
        refine evI (EvP.nm (v := .int _) (by rfl)) fun _ => ?_
        refine m_setL (x := .int (min (min re row[k] + 2) (d + sc x c))) put_same (by lia) (by simp; lia) ⟨_, rfl⟩ ?_
        refine m_cons ?_
        refine m_If ?_
        refine tvU (TvP.lti (hm := by with_unfolding_all rfl) (EvP.nm (v := .int _) (by rfl)) (EvP.nm (v := .int _) (by rfl))) ?_
        have hin2 := hin
        rw [hc2, hrk] at hin2
        simp only [inner] at hin2
        have hset : ((done ++ row.drop k).map V.int).set k (.int (min (min re row[k] + 2) (d + sc x c))) = ((done ++ [min (min re row[k] + 2) (d + sc x c)]) ++ row.drop (k + 1)).map V.int := by
          rw [hrk, List.map_append, List.map_cons, List.set_append_right _ _ (by simp; lia)]; simp [hdone]
        rw [hset]
        refine ite_of (fun e => ?_) fun e => ?_
        · refine m_AssignE (hk := by rfl) (he := by rfl) (hs := by rfl) (EvP.nm (v := .int _) (by rfl)) ?_
          refine m_nil ?_
          refine m_nil ?_
          refine hZq12 _ _ ?_
          skip
          refine ⟨_, _, _, done ++ [min (min re row[k] + 2) (d + sc x c)], by simp [hdone], ?_, ⟨by exact Mine.Sub.of rfl, ?_⟩⟩
          · rw [← hin2, if_pos (by simpa using e)]; simp
          · intro b o q
            show put (put σ.h r _) r _ b = some o
            rw [put_put]; exact q
        · refine m_nil ?_
          refine m_nil ?_
          refine hZq12 _ _ ?_
          skip
          refine ⟨_, _, _, done ++ [min (min re row[k] + 2) (d + sc x c)], by simp [hdone], ?_, ⟨by exact Mine.Sub.of rfl, ?_⟩⟩
          · rw [← hin2, if_neg (by simpa using e)]; simp
          · intro b o q
            show put (put σ.h r _) r _ b = some o
            rw [put_put]; exact q
      · rintro σ' ⟨d, re, mn, done, hdone, hin, hf⟩
        skip
        refine ⟨rfl, ?_⟩
        rw [List.length_map, List.length_range, List.drop_eq_nil_of_le (by simp)] at hin
        have hin : inner x a3 row (2 * i) (2 * i) 9223372036854775807 = (done, re, mn) := by rw [← hin]; simp [inner]
        rw [hin]
        skip
        refine ⟨fun z v q => hf.1 z v ?_, fun z v q => hf.2 z v ?_⟩
        · revert q; exact (show Sub (names _) (names _) by exact Mine.Sub.of rfl) z v
        · rw [List.length_map, List.length_range, List.drop_eq_nil_of_le (by lia), List.append_nil]; exact q
    intro σ' hf
    refine m_fit hf ?_
    refine m_cons ?_
    refine m_If ?_
    refine tvU (TvP.gti (hm := by with_unfolding_all rfl) (EvP.nm (v := .int _) (by rfl)) (EvP.nm (v := .int _) (by rfl))) ?_
    have hlen := inner_length x a3 row (2 * i) (2 * i) 9223372036854775807 (by lia)
    rw [hx2] at hrows
    simp only [rows] at hrows
    refine ite_of (fun e => ?_) fun e => ?_
    · refine m_abs fun Zq10 hZq10 => ?_
      refine m_cons ?_
      refine m_Return ?_
      refine evI (EvP.add (EvP.nm (v := .int _) (by rfl)) EvP.int) fun _ => ?_
      refine hZq10 _ _ ?_
      refine hZq9 _ _ ?_
      skip
      refine ⟨σ.h, put_sub hr, ?_⟩
      rw [if_pos (by simpa using e)] at hrows
      rw [← hrows] at h
      exact h _
    · refine m_nil ?_
      refine m_nil ?_
      refine hZq9 _ _ ?_
      rw [if_neg (by simpa using e)] at hrows
      skip
      refine ⟨_, _, ?_, hrows, by exact ⟨by exact Mine.Sub.of rfl, fun _ _ e => e⟩⟩
      lia
  · rintro σ' ⟨row, res, hrow, hrows, hf⟩
    refine m_fit hf ?_
    refine m_cons ?_
    refine m_Return ?_
    refine evI (EvP.nm (v := .int _) (by rfl)) fun _ => ?_
    skip
    refine ⟨σ.h, put_sub hr, ?_⟩
    rw [List.length_map, List.length_range, List.drop_eq_nil_of_le (by simp)] at hrows
    rw [← hrows] at h
    exact h _
end
end Mine
end
section
open PySem PySem.W PyProof.Rows PySem.SeqAt
set_option maxHeartbeats 1000000
namespace Mine
section
variable {prog : Program} {w : World} {K : Type} [DecidableEq K] {knd : PySem.KeyKind prog w K} {Γ : Fx} {σ : MS K} {A : Around} {env : Env} {α : Type} {s : Shared} {Q : Value → MS K → Prop} {QB : Bool → MS K → Prop} {QU : Unit → MS K → Prop} {QF : Flow → MS K → Prop}
variable {p : Program} {loose : List Str} {mg mb : Str → Option Value} {t u v : Tok} {n : Nat}

theorem c_buffer {b : Array UInt8} (Z : Here (Mine.hd1.heap_1 w.params) p loose mg mb Γ.base) (hA : Dp A n) (h : ∀ t, Q (.bytes b t) σ) : mcode knd Γ A (.call (.ref 42) ⟨[.bytes b t], []⟩) Q σ := by
  refine c_fun (ho := by k_is) (hb := by rfl) (hcd := by k_is) (hlk := by decide) (hco := by rfl) (hgen := by rfl) (hk := by rfl) (hcell := by decide) ["data"] [.bytes b] Z hA (.cons ⟨t, rfl⟩ .nil) ?_
  intro L'
  refine m_cons ?_
  refine m_AssignName (hs := by rfl) ?_
  refine m_Call (he := by rfl) ?_
  refine m_Name (hd := by decide) ?_
  first | refine m_gK (e := by k_is) (hk := by rfl) (hl := by rfl) (he := by rfl) (by assumption) ?_ | refine m_gB (e := by k_is) (hv := by rfl) (hn := by decide) (hk := by rfl) (hl := by rfl) (he := by rfl) (hf := by rfl) (by assumption) ?_
  refine m_callT (he := by rfl) (hplain := by rfl) ?_
  refine m_splE (he := by rfl) ?_
  refine evY (EvP.nm (v := .bytes _) (by rfl)) fun _ => ?_
  refine m_splE0 ?_
  refine m_typeOf (x := .bytes b) (fun s R => typeIs_bytes _ _ _) (by decide) ?_
  refine m_stf (hk := by rfl) (hl := by rfl) (he := by rfl) ?_
  refine m_cons ?_
  refine m_If ?_
  refine m_isCompare (hm := by with_unfolding_all rfl) ?_
  refine evF (EvP.nm (v := .fn _) (by rfl)) ?_
  refine m_Name (hd := by decide) ?_
  first | refine m_gK (e := by k_is) (hk := by rfl) (hl := by rfl) (he := by rfl) (by assumption) ?_ | refine m_gB (e := by k_is) (hv := by rfl) (hn := by decide) (hk := by rfl) (hl := by rfl) (he := by rfl) (hf := by rfl) (by assumption) ?_
  refine m_is (by rfl) ?_
  refine m_trBool ?_
  skip
  refine itrue (by decide) ?_
  refine m_abs fun Zq0 hZq0 => ?_
  refine m_cons ?_
  refine m_Return ?_
  refine evY (EvP.nm (v := .bytes _) (by rfl)) fun _ => ?_
  refine hZq0 _ _ ?_
  exact ⟨_, fun _ _ e => e, h _⟩
theorem c_truth {b : Bool} (Z : Here (Mine.hd1.heap_1 w.params) p loose mg mb Γ.base) (hA : Dp A n) (h : Q (.bool b) σ) : mcode knd Γ A (.call (.ref 49) ⟨[.bool b], []⟩) Q σ := by
  refine c_fun (ho := by k_is) (hb := by rfl) (hcd := by k_is) (hlk := by decide) (hco := by rfl) (hgen := by rfl) (hk := by rfl) (hcell := by decide) ["x"] [.bool b] Z hA (.cons rfl .nil) ?_
  intro L'
  refine m_cons ?_
  refine m_AssignName (hs := by rfl) ?_
  refine m_Call (he := by rfl) ?_
  refine m_Name (hd := by decide) ?_
  first | refine m_gK (e := by k_is) (hk := by rfl) (hl := by rfl) (he := by rfl) (by assumption) ?_ | refine m_gB (e := by k_is) (hv := by rfl) (hn := by decide) (hk := by rfl) (hl := by rfl) (he := by rfl) (hf := by rfl) (by assumption) ?_
  refine m_callT (he := by rfl) (hplain := by rfl) ?_
  refine m_splE (he := by rfl) ?_
  refine evB (EvP.nm (v := .bool _) (by rfl)) ?_
  refine m_splE0 ?_
  refine m_typeOf (x := .bool b) (fun s R => PySem.typeIs_bool _ _) (by decide) ?_
  cases b
  · refine m_stf (hk := by rfl) (hl := by rfl) (he := by rfl) ?_
    refine m_cons ?_
    refine m_If ?_
    refine m_isBoolOp ?_
    refine m_orCons ?_
    refine m_abs fun Zq0 hZq0 => ?_
    refine m_isCompare (hm := by with_unfolding_all rfl) ?_
    refine evB (EvP.nm (v := .bool _) (by rfl)) ?_
    refine evN EvP.none ?_
    refine m_is (by rfl) ?_
    refine m_trBool ?_
    refine hZq0 _ _ ?_
    skip
    refine ifalse (by decide) ?_
    refine m_orCons ?_
    refine m_abs fun Zq1 hZq1 => ?_
    refine m_isCompare (hm := by with_unfolding_all rfl) ?_
    refine evF (EvP.nm (v := .fn _) (by rfl)) ?_
    refine m_Name (hd := by decide) ?_
    first | refine m_gK (e := by k_is) (hk := by rfl) (hl := by rfl) (he := by rfl) (by assumption) ?_ | refine m_gB (e := by k_is) (hv := by rfl) (hn := by decide) (hk := by rfl) (hl := by rfl) (he := by rfl) (hf := by rfl) (by assumption) ?_
    refine m_is (by rfl) ?_
    refine m_trBool ?_
    refine hZq1 _ _ ?_
    skip
    refine itrue (by decide) (itrue (by decide) ?_)
    refine m_abs fun Zq2 hZq2 => ?_
    refine m_cons ?_
    refine m_Return ?_
    refine m_IfExp ?_
    refine tvU (TvP.vb (he := by rfl) (EvP.nm (v := .bool _) (by rfl))) ?_
    skip
    refine ifalse (by decide) ?_
    refine evB EvP.bool ?_
    refine hZq2 _ _ ?_
    exact ⟨_, fun _ _ e => e, h⟩
  · refine m_stf (hk := by rfl) (hl := by rfl) (he := by rfl) ?_
    refine m_cons ?_
    refine m_If ?_
    refine m_isBoolOp ?_
    refine m_orCons ?_
    refine m_abs fun Zq0 hZq0 => ?_
    refine m_isCompare (hm := by with_unfolding_all rfl) ?_
    refine evB (EvP.nm (v := .bool _) (by rfl)) ?_
    refine evN EvP.none ?_
    refine m_is (by rfl) ?_
    refine m_trBool ?_
    refine hZq0 _ _ ?_
    skip
    refine ifalse (by decide) ?_
    refine m_orCons ?_
    refine m_abs fun Zq1 hZq1 => ?_
    refine m_isCompare (hm := by with_unfolding_all rfl) ?_
    refine evF (EvP.nm (v := .fn _) (by rfl)) ?_
    refine m_Name (hd := by decide) ?_
    first | refine m_gK (e := by k_is) (hk := by rfl) (hl := by rfl) (he := by rfl) (by assumption) ?_ | refine m_gB (e := by k_is) (hv := by rfl) (hn := by decide) (hk := by rfl) (hl := by rfl) (he := by rfl) (hf := by rfl) (by assumption) ?_
    refine m_is (by rfl) ?_
    refine m_trBool ?_
    refine hZq1 _ _ ?_
    skip
    refine itrue (by decide) (itrue (by decide) ?_)
    refine m_abs fun Zq2 hZq2 => ?_
    refine m_cons ?_
    refine m_Return ?_
    refine m_IfExp ?_
    refine tvU (TvP.vb (he := by rfl) (EvP.nm (v := .bool _) (by rfl))) ?_
    skip
    refine itrue (by decide) ?_
    refine evB EvP.bool ?_
    refine hZq2 _ _ ?_
    exact ⟨_, fun _ _ e => e, h⟩

inductive B2For {K : Type} (bs : List Int) (o : Addr) (h0 : Addr → Option (O K)) (i : Nat) (σ' : MS K) : Prop
  | mk (lc : Int) (lb : Nat) (done : List Int) (h1 : 0 ≤ lc) (h2 : lc < 65536) (h3 : lb < 6) (h4 : done.length ≤ 2 * i) (h5 : (done ++ (encB (bs.drop i) lc lb).1, (encB (bs.drop i) lc lb).2) = encB bs 0 0)
      (hf : Fit σ' (names [("newline", .bool false), ("bin_data", .bytes (byteArr bs)), ("out", .ref o), ("leftbits", .int (lb : Nat)), ("leftchar", .int lc)]) (put h0 o (.list (done.map V.int))))
inductive B2W {K : Type} (bs : List Int) (o : Addr) (h0 : Addr → Option (O K)) (done : List Int) (lc' : Int) (lb : Nat) (n' : Nat) (σ' : MS K) : Prop
  | mk (outs : List Int) (k1 : n' < 18) (k2 : outs.length ≤ 14 - n') (k3 : (outs ++ (drain lc' n').1, (drain lc' n').2) = drain lc' (lb + 8))
      (hf : Fit σ' (names [("newline", .bool false), ("bin_data", .bytes (byteArr bs)), ("out", .ref o), ("leftbits", .int (n' : Nat)), ("leftchar", .int lc')]) (put h0 o (.list ((done ++ outs).map V.int))))
theorem ap0 {o : List Int} (h : o.length ≤ 200) : (o.map V.int).length ≤ sizeLine := by rw [List.length_map]; exact Nat.le_trans h (by decide)
theorem ap1 {o : List Int} {x : V} (h : o.length ≤ 200) : (o.map V.int ++ [x]).length ≤ sizeLine := by rw [List.length_append, List.length_map]; exact Nat.le_trans (Nat.add_le_add_right h _) (by show 201 ≤ sizeLine; decide)
theorem ap2 {o : List Int} {x y : V} (h : o.length ≤ 200) : (o.map V.int ++ [x] ++ [y]).length ≤ sizeLine := by rw [List.length_append, List.length_append, List.length_map]; exact Nat.le_trans (Nat.add_le_add_right (Nat.add_le_add_right h _) _) (by show 202 ≤ sizeLine; decide)
theorem zl {n : Nat} (h : n ≤ 2 * 100 + 3) : n ≤ sizeLine := Nat.le_trans h (by decide)
theorem c_b2a {bs : List Int} (hb : ∀ x ∈ bs, 0 ≤ x ∧ x < 256) (hl : bs.length ≤ 100) (Z : Here (Mine.hd1.heap_1 w.params) p loose mg mb Γ.base) (hA : Dp A (n + 1)) (h : ∀ t, Q (.bytes (byteArr (enc bs)) t) σ) :
    mcode knd Γ A (.call (.ref 57) ⟨[.bytes (byteArr bs) t], [("newline", .bool false)]⟩) Q σ := by
  refine c_fun (ho := by k_is) (hb := by rfl) (hcd := by k_is) (hlk := by decide) (hco := by rfl) (hgen := by rfl) (hk := by rfl) (hcell := by decide) ["data", "newline"] [.bytes (byteArr bs), .bool false] Z hA (.cons ⟨t, rfl⟩ (.cons rfl .nil)) ?_
  intro L'
  have hA1 : ∀ e, Dp (A.deeper e) n := fun e => hA.deeper e
  refine m_cons ?_
  refine m_AssignName (hs := by rfl) ?_
  refine m_Call (he := by rfl) ?_
  refine m_Name (hd := by decide) ?_
  first | refine m_gK (e := by k_is) (hk := by rfl) (hl := by rfl) (he := by rfl) (by assumption) ?_ | refine m_gB (e := by k_is) (hv := by rfl) (hn := by decide) (hk := by rfl) (hl := by rfl) (he := by rfl) (hf := by rfl) (by assumption) ?_
  refine m_callZ (hk := by k_is) (he := by rfl) (hplain := by rfl) (by assumption) ?_
  refine m_splE (he := by rfl) ?_
  refine evY (EvP.nm (v := .bytes _) (by rfl)) fun _ => ?_
  refine m_splE0 ?_
  refine m_code (c_buffer Z (hA1 _) fun _ => ?_)
  refine m_sty (hk := by rfl) (hl := by rfl) (he := by rfl) ?_
  refine m_cons ?_
  refine m_AssignName (hs := by rfl) ?_
  refine m_Call (he := by rfl) ?_
  refine m_Name (hd := by decide) ?_
  first | refine m_gK (e := by k_is) (hk := by rfl) (hl := by rfl) (he := by rfl) (by assumption) ?_ | refine m_gB (e := by k_is) (hv := by rfl) (hn := by decide) (hk := by rfl) (hl := by rfl) (he := by rfl) (hf := by rfl) (by assumption) ?_
  refine m_callZ (hk := by k_is) (he := by rfl) (hplain := by rfl) (by assumption) ?_
  refine m_splE (he := by rfl) ?_
  refine evB (EvP.nm (v := .bool _) (by rfl)) ?_
  refine m_splE0 ?_
  refine m_code (c_truth Z (hA1 _) ?_)
  refine m_stb (hk := by rfl) (hl := by rfl) (he := by rfl) ?_
  refine m_cons ?_
  refine m_AssignName (hs := by rfl) ?_
  refine m_List ?_
  refine m_splE0 ?_
  refine m_newList .nil (by decide) fun o ho => ?_
  have ho : σ.h o = none := ho
  refine m_str' (hk := by rfl) (hl := by rfl) (he := by rfl) ?_
  refine m_AssignE (hk := by rfl) (he := by rfl) (hs := by rfl) EvP.int ?_
  refine m_AssignE (hk := by rfl) (he := by rfl) (hs := by rfl) EvP.int ?_
  refine m_cons ?_
  have hbl : (byteArr bs).toList.map (fun c => V.int (c.toNat : Int)) = bs.map V.int := bytes_list hb
  refine m_then (P := fun σ' => Fit σ' (names [("newline", .bool false), ("out", .ref o), ("leftbits", .int ((encB bs 0 0).2.2 : Nat)), ("leftchar", .int (encB bs 0 0).2.1)]) (put σ.h o (.list ((encB bs 0 0).1.map V.int)))) ?_ ?_
  · refine m_For (hs := by intro _; rfl) (hk := by rfl) (hl := by rfl) (he := by rfl) ?_
    refine evY (EvP.nm (v := .bytes _) (by rfl)) fun _ => ?_
    refine ⟨_, _, _, yields_bytes (hA1 _).hd, B2For bs o σ.h, ?_, fun _ _ _ => trivial, ?_, ?_⟩
    · skip
      exact ⟨0, 0, [], by lia, by lia, by lia, by simp, by simp, by exact ⟨by exact Mine.Sub.of rfl, fun _ _ e => e⟩⟩
    · rintro i y σ' I ob hbI hy ⟨lc, lb, done, h1, h2, h3, h4, h5, hf⟩
      rw [hbl, List.getElem?_map] at hy
      obtain ⟨b, hbi, rfl⟩ : ∃ b, bs[i]? = some b ∧ y = .int b := by
        cases z : bs[i]? with
        | none => rw [z] at hy; cases hy
        | some b => rw [z] at hy; exact ⟨b, rfl, by simpa using hy.symm⟩
      obtain ⟨hb0, hb1⟩ := hb b (List.mem_of_getElem? hbi)
      refine m_fitS hf ?_
      refine m_abs fun Zq0 hZq0 => ?_
      refine m_cons ?_
      refine m_AssignName (hs := by rfl) ?_
      refine m_BinOp ?_
      refine m_BinOp ?_
      refine m_BinOp ?_
      refine evI (EvP.nm (v := .int _) (by rfl)) fun _ => ?_
      refine evI EvP.int fun _ => ?_
      refine m_shl (by lia) (by lia) (by lia) fun _ => ?_
      refine evI (EvP.nm (v := .int _) (by rfl)) fun _ => ?_
      refine m_or fun _ => ?_
      refine evI EvP.int fun _ => ?_
      refine m_and fun _ => ?_
      refine m_sti (hk := by rfl) (hl := by rfl) (he := by rfl) ?_
      refine m_AssignE (hk := by rfl) (he := by rfl) (hs := by rfl) (EvP.add (EvP.nm (v := .int _) (by rfl)) EvP.int) ?_
      refine m_cons ?_
      have e1 : Builtin.bitAnd (Builtin.bitOr (lc * 2 ^ (8 : Int).toNat) b) 65535 = (lc * 256 + b) % 65536 := by
        have e := or_add (a := lc) (b := b) 8 h1 hb0 (by simpa using hb1)
        have e2 := and_mask (a := lc * 256 + b) 16 (by lia)
        rw [show (lc * 2 ^ (8 : Int).toNat : Int) = lc * ((2 ^ 8 : Nat) : Int) from rfl, e]
        exact e2
      rw [e1]
      refine m_weak (m' := names [("newline", .bool false), ("bin_data", .bytes (byteArr bs)), ("out", .ref o), ("leftbits", .int ((lb + 8 : Nat) : Int)), ("leftchar", .int ((lc * 256 + b) % 65536))]) (h' := put σ.h o (.list (done.map V.int))) (by exact Mine.Sub.of rfl) (fun _ _ e => e) ?_
      have hd : bs.drop i = b :: bs.drop (i + 1) := by
        have hi := (List.getElem?_eq_some_iff.mp hbi)
        rw [List.drop_eq_getElem_cons hi.1, hi.2]
      rw [hd] at h5
      simp only [encB] at h5
      have g1 : 0 ≤ (lc * 256 + b) % 65536 := by lia
      have g2 : (lc * 256 + b) % 65536 < 65536 := by lia
      revert h5 g1 g2
      generalize (lc * 256 + b) % 65536 = lc'
      intro h5 g1 g2
      refine m_then (P := fun σ' => Fit σ' (names [("newline", .bool false), ("bin_data", .bytes (byteArr bs)), ("out", .ref o), ("leftbits", .int ((drain lc' (lb + 8)).2 : Nat)), ("leftchar", .int lc')]) (put σ.h o (.list ((done ++ (drain lc' (lb + 8)).1).map V.int)))) ?_ ?_
      · refine m_While (I := B2W bs o σ.h done lc' lb) (n := lb + 8) ⟨[], by lia, by simp, by simp, by rw [List.append_nil]; exact ⟨by exact Mine.Sub.of rfl, fun _ _ e => e⟩⟩ ?_
        rintro n' σ' ⟨outs, k1, k2, k3, hf⟩
        refine m_fit hf ?_
        refine tvU (TvP.gei (hm := by with_unfolding_all rfl) (EvP.nm (v := .int _) (by rfl)) EvP.int) ?_
        refine ite_of (fun e => ?_) fun e => ?_
        · have e : 6 ≤ n' := by simp at e; lia
          refine m_abs fun Zq1 hZq1 => ?_
          refine m_cons ?_
          refine m_Expr (hi := by rfl) (hs := by rfl) ?_
          refine m_Method (he := by rfl) ?_
          refine evR (EvP.nm (v := .ref _) (by rfl)) ?_
          refine m_methList (by walk_at "hl") PySem.F.slot_list_append PySem.F.type_list_append ?_
          refine m_callB (he := by rfl) (hplain := by rfl) ?_
          refine m_splE (he := by rfl) ?_
          refine m_Sub ?_
          refine m_Name (hd := by decide) ?_
          first | refine m_gK (e := by k_is) (hk := by rfl) (hl := by rfl) (he := by rfl) (by assumption) ?_ | refine m_gB (e := by k_is) (hv := by rfl) (hn := by decide) (hk := by rfl) (hl := by rfl) (he := by rfl) (hf := by rfl) (by assumption) ?_
          refine m_BinOp ?_
          refine m_BinOp ?_
          refine evI (EvP.nm (v := .int _) (by rfl)) fun _ => ?_
          refine evI (EvP.sub (EvP.nm (v := .int _) (by rfl)) EvP.int) fun _ => ?_
          refine m_shr (by lia) fun _ => ?_
          refine evI EvP.int fun _ => ?_
          refine m_and fun _ => ?_
          have e2 : Builtin.bitAnd (lc'.fdiv (2 ^ ((n' : Int) - 6).toNat)) 63 = lc' / (2 ^ (n' - 6) : Nat) % 64 := by
            rw [show ((n' : Int) - 6).toNat = n' - 6 by lia, Int.fdiv_eq_ediv_of_nonneg _ (Int.le_of_lt (Int.pow_pos (by decide)))]
            have := and_mask (a := lc' / (2 ^ (n' - 6) : Nat)) 6 (Int.ediv_nonneg g1 (Int.natCast_nonneg _))
            simpa using this
          rw [e2]
          have e3 : 0 ≤ lc' / (2 ^ (n' - 6) : Nat) % 64 ∧ lc' / (2 ^ (n' - 6) : Nat) % 64 < 64 := by lia
          refine m_atB (hs := by with_unfolding_all rfl) (bs := b64s) (by decide) e3.1 (by show _ < (64 : Int); exact e3.2) fun _ => ?_
          refine m_splE0 ?_
          refine m_append (x := .int (sign (lc' / (2 ^ (n' - 6) : Nat) % 64))) put_same ⟨_, rfl⟩ ?_ ?_
          · simp; exact Nat.le_trans (show done.length + outs.length ≤ 1000 by have := (List.getElem?_eq_some_iff.mp hbi).1; lia) (by decide)
          refine m_AssignE (hk := by rfl) (he := by rfl) (hs := by rfl) (EvP.sub (EvP.nm (v := .int _) (by rfl)) EvP.int) ?_
          refine m_nil ?_
          refine hZq1 _ _ ?_
          refine ⟨n' - 6, by lia, outs ++ [sign (lc' / (2 ^ (n' - 6) : Nat) % 64)], by lia, by simp; lia, ?_, ?_, ?_⟩
          · rw [← k3, drain_step e k1]; simp
          · rw [show (((n' - 6 : Nat) : Int)) = (n' : Int) - 6 by lia]; exact Mine.Sub.of rfl
          · intro b o q
            show put (put σ.h _ _) _ _ b = some o
            rw [put_put]; simpa using q
        · have e : n' < 6 := by simp at e; lia
          refine m_nil ?_
          rw [drain_stop e] at k3
          rw [← k3]
          skip
          refine ⟨rfl, ?_⟩
          rw [List.append_nil]
          exact ⟨by exact Mine.Sub.of rfl, fun _ _ e => e⟩
      intro σ' hf
      refine m_fit hf ?_
      refine m_nil ?_
      refine hZq0 _ _ ?_
      refine ⟨lc', (drain lc' (lb + 8)).2, done ++ (drain lc' (lb + 8)).1, g1, g2, drain_lt (by lia), ?_, ?_, by exact ⟨by exact Mine.Sub.of rfl, fun _ _ e => e⟩⟩
      · have : (drain lc' (lb + 8)).1.length ≤ 2 := by unfold drain; split <;> (try split) <;> simp
        simp; lia
      · rw [← h5]; simp
    · rintro σ' ⟨lc, lb, done, h1, h2, h3, h4, h5, hf⟩
      rw [hbl, List.length_map, List.drop_eq_nil_of_le (by lia)] at h5
      simp only [encB, List.append_nil] at h5
      rw [← h5]
      skip
      refine ⟨rfl, fun z v q => hf.1 z v ?_, hf.2⟩
      revert q; exact (show Sub (names _) (names _) by exact Mine.Sub.of rfl) z v
  have hq := encB_ok (bs := bs) (lc := 0) (lb := 0) (by lia) (by lia)
  have henc := enc_ok bs
  have hlen := enc_len bs
  unfold enc at h henc hlen
  revert hq h henc hlen
  generalize encB bs 0 0 = q
  obtain ⟨outs, lc, lb⟩ := q
  intro h hq henc hlen
  simp only at h henc hlen hq
  have ol : outs.length ≤ 200 := Nat.le_trans hq.2.2.1 (Nat.mul_le_mul_left 2 hl)
  intro σ' hf
  refine m_fit hf ?_
  refine m_cons ?_
  refine m_If ?_
  refine tvU (TvP.eqi (hm := by with_unfolding_all rfl) (EvP.nm (v := .int _) (by rfl)) EvP.int) ?_
  refine ite_of (fun e => ?_) fun e => ?_
  · have e : lb = 2 := by simp at e; lia
    rw [if_pos e] at h henc hlen
    refine m_abs fun Zq0 hZq0 => ?_
    refine m_cons ?_
    refine m_Expr (hi := by rfl) (hs := by rfl) ?_
    refine m_Method (he := by rfl) ?_
    refine evR (EvP.nm (v := .ref _) (by rfl)) ?_
    refine m_methList (by walk_at "hl") PySem.F.slot_list_append PySem.F.type_list_append ?_
    refine m_callB (he := by rfl) (hplain := by rfl) ?_
    refine m_splE (he := by rfl) ?_
    refine m_Sub ?_
    refine m_Name (hd := by decide) ?_
    first | refine m_gK (e := by k_is) (hk := by rfl) (hl := by rfl) (he := by rfl) (by assumption) ?_ | refine m_gB (e := by k_is) (hv := by rfl) (hn := by decide) (hk := by rfl) (hl := by rfl) (he := by rfl) (hf := by rfl) (by assumption) ?_
    refine m_BinOp ?_
    refine evI (EvP.and (EvP.nm (v := .int _) (by rfl)) EvP.int) fun _ => ?_
    refine evI EvP.int fun _ => ?_
    have e2 : Builtin.bitAnd lc 3 = lc % 4 := and_mask 2 hq.1
    rw [e2]
    refine m_shl (by lia) (by lia) (by lia) fun _ => ?_
    skip
    rw [show lc % 4 * 2 ^ (4 : Int).toNat = lc % 4 * 16 from rfl]
    refine m_atB (hs := by with_unfolding_all rfl) (bs := b64s) (by decide) (by lia) (by show _ < (64 : Int); lia) fun _ => ?_
    refine m_splE0 ?_
    refine m_append (x := .int (sign (lc % 4 * 16))) put_same ⟨_, rfl⟩ ?_ ?_
    · exact ap0 ol
    refine m_cons ?_
    refine m_Expr (hi := by rfl) (hs := by rfl) ?_
    refine m_Method (he := by rfl) ?_
    refine evR (EvP.nm (v := .ref _) (by rfl)) ?_
    refine m_methList (by walk_at "hl") PySem.F.slot_list_append PySem.F.type_list_append ?_
    refine m_callB (he := by rfl) (hplain := by rfl) ?_
    refine m_splE (he := by rfl) ?_
    refine evI EvP.int fun _ => ?_
    refine m_splE0 ?_
    refine m_append (x := .int 61) put_same ⟨_, rfl⟩ ?_ ?_
    · exact ap1 ol
    refine m_cons ?_
    refine m_Expr (hi := by rfl) (hs := by rfl) ?_
    refine m_Method (he := by rfl) ?_
    refine evR (EvP.nm (v := .ref _) (by rfl)) ?_
    refine m_methList (by walk_at "hl") PySem.F.slot_list_append PySem.F.type_list_append ?_
    refine m_callB (he := by rfl) (hplain := by rfl) ?_
    refine m_splE (he := by rfl) ?_
    refine evI EvP.int fun _ => ?_
    refine m_splE0 ?_
    refine m_append (x := .int 61) put_same ⟨_, rfl⟩ ?_ ?_
    · exact ap2 ol
    refine m_nil ?_
    refine hZq0 _ _ ?_
    refine m_cons ?_
    refine m_If ?_
    refine tvU (TvP.vb (he := by rfl) (EvP.nm (v := .bool _) (by rfl))) ?_
    skip
    refine ifalse (by decide) ?_
    refine m_nil ?_
    refine m_cons ?_
    refine m_Return ?_
    refine m_Call (he := by rfl) ?_
    refine m_Name (hd := by decide) ?_
    first | refine m_gK (e := by k_is) (hk := by rfl) (hl := by rfl) (he := by rfl) (by assumption) ?_ | refine m_gB (e := by k_is) (hv := by rfl) (hn := by decide) (hk := by rfl) (hl := by rfl) (he := by rfl) (hf := by rfl) (by assumption) ?_
    refine m_callT (he := by rfl) (hplain := by rfl) ?_
    refine m_splE (he := by rfl) ?_
    refine evR (EvP.nm (v := .ref _) (by rfl)) ?_
    refine m_splE0 ?_
    refine m_bytes (ns := outs ++ [sign (lc % 4 * 16), 61, 61]) (hA1 _).hd (put_same.trans (by simp)) henc (zl (Nat.le_trans hlen (Nat.add_le_add_right (Nat.mul_le_mul_left 2 hl) 3))) fun _ => ?_
    skip
    refine ⟨σ.h, fun a o' e => ?_, h _⟩
    show put (put (put (put σ.h _ _) _ _) _ _) _ _ a = some o'
    rw [put_put, put_put, put_put]; exact put_sub ho a o' e
  rw [if_neg (show ¬ lb = 2 by simp at e; lia)] at h henc hlen
  refine m_abs fun Zq0 hZq0 => ?_
  refine m_cons ?_
  refine m_If ?_
  refine tvU (TvP.eqi (hm := by with_unfolding_all rfl) (EvP.nm (v := .int _) (by rfl)) EvP.int) ?_
  refine ite_of (fun e => ?_) fun e => ?_
  · have e : lb = 4 := by simp at e; lia
    rw [if_pos e] at h henc hlen
    refine m_abs fun Zq1 hZq1 => ?_
    refine m_cons ?_
    refine m_Expr (hi := by rfl) (hs := by rfl) ?_
    refine m_Method (he := by rfl) ?_
    refine evR (EvP.nm (v := .ref _) (by rfl)) ?_
    refine m_methList (by walk_at "hl") PySem.F.slot_list_append PySem.F.type_list_append ?_
    refine m_callB (he := by rfl) (hplain := by rfl) ?_
    refine m_splE (he := by rfl) ?_
    refine m_Sub ?_
    refine m_Name (hd := by decide) ?_
    first | refine m_gK (e := by k_is) (hk := by rfl) (hl := by rfl) (he := by rfl) (by assumption) ?_ | refine m_gB (e := by k_is) (hv := by rfl) (hn := by decide) (hk := by rfl) (hl := by rfl) (he := by rfl) (hf := by rfl) (by assumption) ?_
    refine m_BinOp ?_
    refine evI (EvP.and (EvP.nm (v := .int _) (by rfl)) EvP.int) fun _ => ?_
    refine evI EvP.int fun _ => ?_
    have e2 : Builtin.bitAnd lc 15 = lc % 16 := and_mask 4 hq.1
    rw [e2]
    refine m_shl (by lia) (by lia) (by lia) fun _ => ?_
    skip
    rw [show lc % 16 * 2 ^ (2 : Int).toNat = lc % 16 * 4 from rfl]
    refine m_atB (hs := by with_unfolding_all rfl) (bs := b64s) (by decide) (by lia) (by show _ < (64 : Int); lia) fun _ => ?_
    refine m_splE0 ?_
    refine m_append (x := .int (sign (lc % 16 * 4))) put_same ⟨_, rfl⟩ ?_ ?_
    · exact ap0 ol
    refine m_cons ?_
    refine m_Expr (hi := by rfl) (hs := by rfl) ?_
    refine m_Method (he := by rfl) ?_
    refine evR (EvP.nm (v := .ref _) (by rfl)) ?_
    refine m_methList (by walk_at "hl") PySem.F.slot_list_append PySem.F.type_list_append ?_
    refine m_callB (he := by rfl) (hplain := by rfl) ?_
    refine m_splE (he := by rfl) ?_
    refine evI EvP.int fun _ => ?_
    refine m_splE0 ?_
    refine m_append (x := .int 61) put_same ⟨_, rfl⟩ ?_ ?_
    · exact ap1 ol
    refine m_nil ?_
    refine hZq1 _ _ ?_
    refine m_nil ?_
    refine hZq0 _ _ ?_
    refine m_cons ?_
    refine m_If ?_
    refine tvU (TvP.vb (he := by rfl) (EvP.nm (v := .bool _) (by rfl))) ?_
    skip
    refine ifalse (by decide) ?_
    refine m_nil ?_
    refine m_cons ?_
    refine m_Return ?_
    refine m_Call (he := by rfl) ?_
    refine m_Name (hd := by decide) ?_
    first | refine m_gK (e := by k_is) (hk := by rfl) (hl := by rfl) (he := by rfl) (by assumption) ?_ | refine m_gB (e := by k_is) (hv := by rfl) (hn := by decide) (hk := by rfl) (hl := by rfl) (he := by rfl) (hf := by rfl) (by assumption) ?_
    refine m_callT (he := by rfl) (hplain := by rfl) ?_
    refine m_splE (he := by rfl) ?_
    refine evR (EvP.nm (v := .ref _) (by rfl)) ?_
    refine m_splE0 ?_
    refine m_bytes (ns := outs ++ [sign (lc % 16 * 4), 61]) (hA1 _).hd (put_same.trans (by simp)) henc (zl (Nat.le_trans hlen (Nat.add_le_add_right (Nat.mul_le_mul_left 2 hl) 3))) fun _ => ?_
    skip
    refine ⟨σ.h, fun a o' e => ?_, h _⟩
    show put (put (put σ.h _ _) _ _) _ _ a = some o'
    rw [put_put, put_put]; exact put_sub ho a o' e
  · rw [if_neg (show ¬ lb = 4 by simp at e; lia)] at h henc hlen
    refine m_nil ?_
    refine m_nil ?_
    refine hZq0 _ _ ?_
    refine m_cons ?_
    refine m_If ?_
    refine tvU (TvP.vb (he := by rfl) (EvP.nm (v := .bool _) (by rfl))) ?_
    skip
    refine ifalse (by decide) ?_
    refine m_nil ?_
    refine m_cons ?_
    refine m_Return ?_
    refine m_Call (he := by rfl) ?_
    refine m_Name (hd := by decide) ?_
    first | refine m_gK (e := by k_is) (hk := by rfl) (hl := by rfl) (he := by rfl) (by assumption) ?_ | refine m_gB (e := by k_is) (hv := by rfl) (hn := by decide) (hk := by rfl) (hl := by rfl) (he := by rfl) (hf := by rfl) (by assumption) ?_
    refine m_callT (he := by rfl) (hplain := by rfl) ?_
    refine m_splE (he := by rfl) ?_
    refine evR (EvP.nm (v := .ref _) (by rfl)) ?_
    refine m_splE0 ?_
    refine m_bytes (ns := outs) (hA1 _).hd put_same henc (zl (Nat.le_trans hlen (Nat.add_le_add_right (Nat.mul_le_mul_left 2 hl) 3))) fun _ => ?_
    skip
    exact ⟨σ.h, put_sub ho, h _⟩

theorem c_b64 {bs : List Int} (hb : ∀ x ∈ bs, 0 ≤ x ∧ x < 256) (hl : bs.length ≤ 100) (Z : Here (Mine.hd1.heap_1 w.params) p loose mg mb Γ.base) (hA : Dp A (n + 2)) (h : ∀ t, Q (.bytes (byteArr (enc bs)) t) σ) :
    mcode knd Γ A (.call (.ref 65) ⟨[.bytes (byteArr bs) t], []⟩) Q σ := by
  refine c_funD (ho := by k_is) (hd := by k_is) (hb := by rfl) (hb2 := by rfl) (hcd := by k_is) (hlk := by decide) (hco := by rfl) (hgen := by rfl) (hk := by rfl) (hcell := by decide) ["s", "altchars"] [.bytes (byteArr bs), .none] Z hA (.cons ⟨t, rfl⟩ (.cons rfl .nil)) ?_
  intro L'
  have hA1 : ∀ e, Dp (A.deeper e) (n + 1) := fun e => hA.deeper e
  refine m_cons ?_
  refine m_AssignName (hs := by rfl) ?_
  refine m_CallKw ?_
  refine m_Name (hd := by decide) ?_
  first | refine m_gK (e := by k_is) (hk := by rfl) (hl := by rfl) (he := by rfl) (by assumption) ?_ | refine m_gB (e := by k_is) (hv := by rfl) (hn := by decide) (hk := by rfl) (hl := by rfl) (he := by rfl) (hf := by rfl) (by assumption) ?_
  refine m_callZkw1 (hk := by k_is) (he := by rfl) (hplain := by rfl) (hkw := by rfl) Z ?_
  refine m_splE (he := by rfl) ?_
  refine evY (EvP.nm (v := .bytes _) (by rfl)) fun _ => ?_
  refine m_splE0 ?_
  refine evB EvP.bool ?_
  refine m_code (c_b2a hb hl Z (hA1 _) fun _ => ?_)
  refine m_sty (hk := by rfl) (hl := by rfl) (he := by rfl) ?_
  refine m_cons ?_
  refine m_If ?_
  refine m_isCompare (hm := by with_unfolding_all rfl) ?_
  refine evN (EvP.nm (v := .none) (by rfl)) ?_
  refine evN EvP.none ?_
  refine m_isnot (by rfl) ?_
  refine m_trBool ?_
  skip
  refine ifalse (by decide) ?_
  refine m_nil ?_
  refine m_cons ?_
  refine m_Return ?_
  refine evY (EvP.nm (v := .bytes _) (by rfl)) fun _ => ?_
  exact ⟨_, fun _ _ e => e, h _⟩
end
end Mine
end
section
open PySem PySem.W PyProof.Rows PySem.SeqAt
set_option maxHeartbeats 1000000
namespace Mine
section
variable {prog : Program} {w : World} {K : Type} [DecidableEq K] {knd : PySem.KeyKind prog w K} {Γ : Fx} {σ : MS K} {A : Around} {env : Env} {α : Type} {s : Shared} {Q : Value → MS K → Prop} {QB : Bool → MS K → Prop} {QU : Unit → MS K → Prop} {QF : Flow → MS K → Prop}
variable {p : Program} {loose : List Str} {mg mb : Str → Option Value} {t u v : Tok} {n : Nat} {l : Addr}

theorem c_text {bs : List Int} (hb : ∀ x ∈ bs, 0 ≤ x ∧ x < 256) (hl : bs.length ≤ 1000) (Z : Here (Mine.hd1.heap_1 w.params) p loose mg mb Γ.base) (hA : Dp A n)
    (h : ∀ t, Q (.str (T (bs.map Int.toNat)) t) σ) : mcode knd Γ A (.call (.ref 197) ⟨[.bytes (byteArr bs) t], []⟩) Q σ := by
  refine c_fun (ho := by k_is) (hb := by rfl) (hcd := by k_is) (hlk := by decide) (hco := by rfl) (hgen := by rfl) (hk := by rfl) (hcell := by decide) ["writing"] [.bytes (byteArr bs)] Z hA (.cons ⟨t, rfl⟩ .nil) ?_
  intro L'
  have hh : ∀ e, (A.deeper e).handled = none := fun e => hA.hd
  refine m_cons ?_
  refine m_If ?_
  refine m_isCompare (hm := by with_unfolding_all rfl) ?_
  refine m_abs fun Zq0 hZq0 => ?_
  refine m_Call (he := by rfl) ?_
  refine m_Name (hd := by decide) ?_
  first | refine m_gK (e := by k_is) (hk := by rfl) (hl := by rfl) (he := by rfl) (by assumption) ?_ | refine m_gB (e := by k_is) (hv := by rfl) (hn := by decide) (hk := by rfl) (hl := by rfl) (he := by rfl) (hf := by rfl) (by assumption) ?_
  refine m_callT (he := by rfl) (hplain := by rfl) ?_
  refine m_splE (he := by rfl) ?_
  refine evY (EvP.nm (v := .bytes _) (by rfl)) fun _ => ?_
  refine m_splE0 ?_
  refine m_typeOf (x := .bytes (byteArr bs)) (fun s R => typeIs_bytes _ _ _) (by decide) ?_
  refine hZq0 _ _ ?_
  refine m_Name (hd := by decide) ?_
  first | refine m_gK (e := by k_is) (hk := by rfl) (hl := by rfl) (he := by rfl) (by assumption) ?_ | refine m_gB (e := by k_is) (hv := by rfl) (hn := by decide) (hk := by rfl) (hl := by rfl) (he := by rfl) (hf := by rfl) (by assumption) ?_
  refine m_isnot (by rfl) ?_
  refine m_trBool ?_
  skip
  refine ifalse (by decide) ?_
  refine m_nil ?_
  refine m_cons ?_
  refine m_Return ?_
  refine m_Method (he := by rfl) ?_
  refine evS EvP.str fun _ => ?_
  refine m_methStr PySem.F.slot_str_join PySem.F.type_str_join ?_
  refine m_callB (he := by rfl) (hplain := by rfl) ?_
  refine m_splE (he := by rfl) ?_
  refine m_Comp (hclos := by rfl) (hcell := by decide) (hkind := by rfl) (hnames := by decide) (hx := by rfl) (hs := by intro _; rfl) ?_
  refine evY (EvP.nm (v := .bytes _) (by rfl)) fun _ => ?_
  refine ⟨_, _, _, yields_bytes (hh _), ?_, fun _ _ => trivial, fun _ => true, fun y => match y with | .int i => .str (T [i.toNat]) | y => y, ?_, ?_⟩
  · rw [bytes_list hb, List.length_map]; exact Nat.le_trans hl (by decide)
  · intro y hy C I ob hbI D od hd
    rw [bytes_list hb] at hy
    obtain ⟨i, hi, rfl⟩ := List.mem_map.mp hy
    refine ⟨rfl, ?_⟩
    skip
    refine itrue rfl ?_
    refine m_Call (he := by rfl) ?_
    refine m_Name (hd := by decide) ?_
    first | refine m_gK (e := by k_is) (hk := by rfl) (hl := by rfl) (he := by rfl) (by assumption) ?_ | refine m_gB (e := by k_is) (hv := by rfl) (hn := by decide) (hk := by rfl) (hl := by rfl) (he := by rfl) (hf := by rfl) (by assumption) ?_
    refine m_callB (he := by rfl) (hplain := by rfl) ?_
    refine m_splE (he := by rfl) ?_
    refine evI (EvP.nm (v := .int _) (by rfl)) fun _ => ?_
    refine m_splE0 ?_
    refine m_chr (by have := hb i hi; omega) (by have := hb i hi; omega) fun _ => ?_
    skip
    exact ⟨fun _ _ e => e, ⟨_, rfl⟩⟩
  intro D hD
  have el : List.map (fun y => match y with | V.int i => V.str (T [i.toNat]) | y => y) (List.filter (fun x => true) (List.map (fun c => V.int (c.toNat : Int)) (byteArr bs).toList)) = (((bs.map Int.toNat).map fun i => [i]).map T).map V.str := by
    rw [bytes_list hb, filter_all, List.map_map, List.map_map, List.map_map, List.map_map]; rfl
  rw [el]
  refine m_splE0 ?_
  refine m_join put_same (by decide) ?_ fun _ => ?_
  · rw [ones_sum]; simp only [List.length_map]; omega
  skip
  refine ⟨σ.h, put_sub hD, ?_⟩
  rw [join_T, ones_flat]
  exact h _
end
end Mine
end
section
open PySem PySem.W PyProof.Rows PySem.SeqAt
set_option maxHeartbeats 1000000
namespace Mine
theorem sub_upd {K : Type} {f g : Addr → Option (O K)} {X : Addr} {o : O K} (hX : f X = none) (hs : ∀ a o, f a = some o → g a = some o) : ∀ a o', f a = some o' → put g X o a = some o' := fun a o' e =>
  (put_other (fun q => by rw [q, hX] at e; cases e)).trans (hs a o' e)
noncomputable abbrev Ky := Str
noncomputable abbrev kyV : Ky → V := V.str
noncomputable abbrev kyVal : Ky → Tok → Value := Value.str
noncomputable abbrev kyK (prog : Program) (w : World) : PySem.KeyKind prog w Ky := PySem.strKind prog w
theorem ky_is {prog : Program} {w : World} {k : Ky} {t : Tok} : (kyK prog w).is k (kyVal k t) = true := by simp [kyK, PySem.strKind, kyVal, Value.isStrOf]
theorem ky_out {prog : Program} {w : World} (k : Ky) (v : Value) (h : (kyK prog w).is k v = true) : (kyV k).is v := by
  cases v with
  | str i t => simp [kyK, PySem.strKind, Value.isStrOf] at h; exact ⟨t, by rw [h]⟩
  | _ => simp [kyK, PySem.strKind, Value.isStrOf] at h
theorem ky_inj {k k' : Ky} (h : kyV k = kyV k') : k = k' := by cases h; rfl

theorem rn {x : Addr} : ¬ (Value.ref x == Value.none) = true := Bool.false_ne_true
theorem nn : (Value.none == Value.none) = true := rfl
theorem map_get {α β : Type} {f : α → β} {l : List α} {i : Nat} {y : β} (h : (l.map f)[i]? = some y) : ∃ k, l[i]? = some k ∧ y = f k := by
  rw [List.getElem?_map] at h
  cases z : l[i]? with
  | none => rw [z] at h; cases h
  | some b => rw [z] at h; exact ⟨b, rfl, by simpa using h.symm⟩
theorem take_snoc {α : Type} {l : List α} {i : Nat} {k : α} (h : l[i]? = some k) : l.take (i + 1) = l.take i ++ [k] := by rw [List.take_add_one, h]; rfl
theorem put_comm {β : Type} {f : Addr → Option β} {a b : Addr} {x y : β} (h : a ≠ b) : put (put f a x) b y = put (put f b y) a x := by
  funext c; unfold put; by_cases e : c = b
  · subst e; simp [Ne.symm h]
  · simp [e]
abbrev cTS : Addr := 181
abbrev cNI : Addr := 84

structure SS where
  ord : List Ky
  np : Ky → Int
  su : Ky → List Ky
  rd : Option (List Ky)
  po : Int
  fi : Int
structure Ad where
  x : Addr
  dx : Addr
  dd : Addr
  ra : Addr
  aN : Ky → Addr
  aD : Ky → Addr
  aL : Ky → Addr
noncomputable def rdV (ra : Addr) : Option (List Ky) → V
  | none => .none
  | some _ => .ref ra
noncomputable def fieldsOf (a : Ad) (S : SS) : List (Str × V) := [("_node2info", .ref a.dd), ("_ready_nodes", rdV a.ra S.rd), ("_npassedout", .int S.po), ("_nfinished", .int S.fi)]
noncomputable def nodeOf (a : Ad) (k : Ky) (n : Int) : O Ky := .inst cNI (a.aD k) [some (kyV k), some (.int n), some (.ref (a.aL k))]
structure Rep (a : Ad) (S : SS) (h : Addr → Option (O Ky)) : Prop where
  hx : h a.x = some (.inst cTS a.dx [])
  hdx : h a.dx = some (.idict (fieldsOf a S))
  hdd : ∃ ep, h a.dd = some (.dict (S.ord.map fun k => (k, V.ref (a.aN k))) ep)
  nd : S.ord.Nodup
  hN : ∀ k ∈ S.ord, h (a.aN k) = some (nodeOf a k (S.np k))
  hD : ∀ k ∈ S.ord, h (a.aD k) = some (.idict []) ∧ a.aD k ≠ a.dx
  hL : ∀ k ∈ S.ord, h (a.aL k) = some (.list ((S.su k).map kyV))
  iL : ∀ k ∈ S.ord, ∀ k' ∈ S.ord, a.aL k = a.aL k' → k = k'
  hra : ∀ l, S.rd = some l → h a.ra = some (.list (l.map kyV)) ∧ ∀ k ∈ S.ord, a.aL k ≠ a.ra
  xN : ∀ k ∈ S.ord, a.aN k ≠ a.x
noncomputable def upd {α : Type} (f : Ky → α) (k : Ky) (v : α) : Ky → α := fun j => if j = k then v else f j
theorem upd_same {α : Type} {f : Ky → α} {k : Ky} {v : α} : upd f k v k = v := if_pos rfl
theorem upd_other {α : Type} {f : Ky → α} {k j : Ky} {v : α} (h : j ≠ k) : upd f k v j = f j := if_neg h

section
variable {a : Ad} {S : SS} {h : Addr → Option (O Ky)} {X : Addr} {o : O Ky} {k : Ky}
theorem Rep.mono (r : Rep a S h) {h' : Addr → Option (O Ky)} (hs : ∀ b o, h b = some o → h' b = some o) : Rep a S h' :=
  ⟨hs _ _ r.hx, hs _ _ r.hdx, let ⟨ep, e⟩ := r.hdd; ⟨ep, hs _ _ e⟩, r.nd, fun k hk => hs _ _ (r.hN k hk), fun k hk => ⟨hs _ _ (r.hD k hk).1, (r.hD k hk).2⟩, fun k hk => hs _ _ (r.hL k hk), r.iL, fun l e => ⟨hs _ _ (r.hra l e).1, (r.hra l e).2⟩, r.xN⟩
theorem Rep.fresh (r : Rep a S h) (hX : h X = none) : Rep a S (put h X o) := r.mono fun _ _ e => sub_put hX e
theorem Rep.iN (r : Rep a S h) {k k' : Ky} (hk : k ∈ S.ord) (hk' : k' ∈ S.ord) (e : a.aN k = a.aN k') : k = k' := by
  have h1 := r.hN k hk
  have h2 := r.hN k' hk'
  rw [e, h2] at h1
  have := Option.some.inj h1
  unfold nodeOf at this
  injection this with _ _ q
  injection q with q _
  injection q with q
  exact (ky_inj q).symm
theorem Rep.setNp (r : Rep a S h) (hk : k ∈ S.ord) (v : Int) : Rep a { S with np := upd S.np k v } (put h (a.aN k) (nodeOf a k v)) := by
  have hn := r.hN k hk
  refine ⟨(put_other (Ne.symm (r.xN k hk))).trans r.hx, put_diff r.hdx hn (by intro q; cases q), ?_, r.nd, fun k' hk' => ?_, fun k' hk' => ⟨put_diff (r.hD k' hk').1 hn (by intro q; cases q), (r.hD k' hk').2⟩,
    fun k' hk' => put_diff (r.hL k' hk') hn (by intro q; cases q), r.iL, fun l e => ⟨put_diff (r.hra l e).1 hn (by intro q; cases q), (r.hra l e).2⟩, r.xN⟩
  · obtain ⟨ep, e⟩ := r.hdd; exact ⟨ep, put_diff e hn (by intro q; cases q)⟩
  · by_cases e : k' = k
    · subst e; rw [put_same]; show some (nodeOf a k' v) = some (nodeOf a k' (upd S.np k' v k')); rw [upd_same]
    · rw [put_other (fun q => e (r.iN hk' hk q))]; show _ = some (nodeOf a k' (upd S.np k v k')); rw [upd_other e]; exact r.hN k' hk'
theorem Rep.setRd (r : Rep a S h) {l l' : List Ky} (e : S.rd = some l) : Rep a { S with rd := some l' } (put h a.ra (.list (l'.map kyV))) := by
  obtain ⟨hr, hn⟩ := r.hra l e
  refine ⟨put_diff r.hx hr (by intro q; cases q), ?_, ?_, r.nd, fun k' hk' => put_diff (r.hN k' hk') hr (by intro q; cases q), fun k' hk' => ⟨put_diff (r.hD k' hk').1 hr (by intro q; cases q), (r.hD k' hk').2⟩,
    fun k' hk' => (put_other (hn k' hk')).trans (r.hL k' hk'), r.iL, fun l2 e2 => ⟨?_, hn⟩, r.xN⟩
  · rw [put_diff r.hdx hr (by intro q; cases q)]; unfold fieldsOf; rw [e]; rfl
  · obtain ⟨ep, e⟩ := r.hdd; exact ⟨ep, put_diff e hr (by intro q; cases q)⟩
  · have e2 : some l' = some l2 := e2
    cases e2; exact put_same
theorem Rep.setPo (r : Rep a S h) (po : Int) : Rep a { S with po := po } (put h a.dx (.idict (fieldsOf a { S with po := po }))) := by
  have hd := r.hdx
  refine ⟨put_diff r.hx hd (by intro q; cases q), put_same, ?_, r.nd, fun k' hk' => put_diff (r.hN k' hk') hd (by intro q; cases q), fun k' hk' => ⟨(put_other (r.hD k' hk').2).trans (r.hD k' hk').1, (r.hD k' hk').2⟩,
    fun k' hk' => put_diff (r.hL k' hk') hd (by intro q; cases q), r.iL, fun l e => ⟨put_diff (r.hra l e).1 hd (by intro q; cases q), (r.hra l e).2⟩, r.xN⟩
  obtain ⟨ep, e⟩ := r.hdd; exact ⟨ep, put_diff e hd (by intro q; cases q)⟩
theorem Rep.setFi (r : Rep a S h) (fi : Int) : Rep a { S with fi := fi } (put h a.dx (.idict (fieldsOf a { S with fi := fi }))) := by
  have hd := r.hdx
  refine ⟨put_diff r.hx hd (by intro q; cases q), put_same, ?_, r.nd, fun k' hk' => put_diff (r.hN k' hk') hd (by intro q; cases q), fun k' hk' => ⟨(put_other (r.hD k' hk').2).trans (r.hD k' hk').1, (r.hD k' hk').2⟩,
    fun k' hk' => put_diff (r.hL k' hk') hd (by intro q; cases q), r.iL, fun l e => ⟨put_diff (r.hra l e).1 hd (by intro q; cases q), (r.hra l e).2⟩, r.xN⟩
  obtain ⟨ep, e⟩ := r.hdd; exact ⟨ep, put_diff e hd (by intro q; cases q)⟩
theorem Rep.mkRd (r : Rep a S h) (e : S.rd = none) {D : Addr} (hD : h D = none) (l : List Ky) :
    Rep { a with ra := D } { S with rd := some l } (put (put h D (.list (l.map kyV))) a.dx (.idict (fieldsOf { a with ra := D } { S with rd := some l }))) := by
  have hd : put h D (.list (l.map kyV)) a.dx = _ := sub_put hD r.hdx
  refine ⟨put_diff (sub_put hD r.hx) hd (by intro q; cases q), put_same, ?_, r.nd, fun k' hk' => put_diff (sub_put hD (r.hN k' hk')) hd (by unfold nodeOf; intro q; cases q), fun k' hk' => ⟨(put_other (r.hD k' hk').2).trans (sub_put hD (r.hD k' hk').1), (r.hD k' hk').2⟩,
    fun k' hk' => put_diff (sub_put hD (r.hL k' hk')) hd (by intro q; cases q), r.iL, fun l2 e2 => ⟨?_, fun k' hk' => ne_none (r.hL k' hk') hD⟩, r.xN⟩
  · obtain ⟨ep, e⟩ := r.hdd; exact ⟨ep, put_diff (sub_put hD e) hd (by intro q; cases q)⟩
  · have e2 : some l = some l2 := e2
    cases e2; exact put_diff put_same hd (by intro q; cases q)
theorem Rep.appSu (r : Rep a S h) (hk : k ∈ S.ord) (l' : List Ky) : Rep a { S with su := upd S.su k l' } (put h (a.aL k) (.list (l'.map kyV))) := by
  have hn := r.hL k hk
  refine ⟨put_diff r.hx hn (by intro q; cases q), put_diff r.hdx hn (by intro q; cases q), ?_, r.nd, fun k' hk' => put_diff (r.hN k' hk') hn (by intro q; cases q), fun k' hk' => ⟨put_diff (r.hD k' hk').1 hn (by intro q; cases q), (r.hD k' hk').2⟩,
    fun k' hk' => ?_, r.iL, fun l e => ⟨(put_other (Ne.symm ((r.hra l e).2 k hk))).trans (r.hra l e).1, (r.hra l e).2⟩, r.xN⟩
  · obtain ⟨ep, e⟩ := r.hdd; exact ⟨ep, put_diff e hn (by intro q; cases q)⟩
  · by_cases e : k' = k
    · subst e; rw [put_same]; show _ = some (O.list ((upd S.su k' l' k').map kyV)); rw [upd_same]
    · rw [put_other (fun q => e (r.iL k' hk' k hk q))]; show _ = some (O.list ((upd S.su k l' k').map kyV)); rw [upd_other e]; exact r.hL k' hk'
theorem dGet_ord {f : Ky → V} : ∀ {l : List Ky} {k : Ky}, dGet (l.map fun k => (k, f k)) k = if k ∈ l then some (f k) else none
  | [], k => rfl
  | b :: r, k => by
    unfold dGet
    rw [List.map_cons, List.find?_cons]
    by_cases e : b = k
    · subst e; simp
    · have := dGet_ord (f := f) (l := r) (k := k)
      unfold dGet at this
      simp only [e, decide_false]
      rw [this]
      simp [Ne.symm e]
end
end Mine
end
section
open PySem PySem.W PyProof.Rows PySem.SeqAt
set_option maxHeartbeats 1000000
namespace Mine
section
variable {prog : Program} {w : World} {Γ : Fx} {σ : MS Ky} {A : Around} {env : Env} {α : Type} {s : Shared} {Q : Value → MS Ky → Prop} {QB : Bool → MS Ky → Prop} {QU : Unit → MS Ky → Prop} {QF : Flow → MS Ky → Prop}
variable {p : Program} {loose : List Str} {mg mb : Str → Option Value} {t u v : Tok} {n : Nat} {l : Addr} {a : Ad} {S : SS} {k : Ky}

theorem c_is_active {l : List Ky} (r : Rep a S σ.h) (hr : S.rd = some l) (hsz : l.length ≤ 1000) (Z : Here (Mine.hd1.heap_1 w.params) p loose mg mb Γ.base) (hA : Dp A n)
    (h : Q (.bool (decide (S.fi < S.po) || !l.isEmpty)) σ) : mcode (kyK prog w) Γ A (.call (.ref 150) ⟨[.ref a.x], []⟩) Q σ := by
  refine c_fun (ho := by k_is) (hb := by rfl) (hcd := by k_is) (hlk := by decide) (hco := by rfl) (hgen := by rfl) (hk := by rfl) (hcell := by decide) ["self"] [.ref a.x] Z hA (.cons rfl .nil) ?_
  intro L'
  have hx := r.hx
  have hdx := r.hdx
  have hra := (r.hra l hr).1
  unfold fieldsOf at hdx
  rw [hr] at hdx
  refine m_cons ?_
  refine m_If ?_
  refine m_isCompare (hm := by with_unfolding_all rfl) ?_
  refine m_Attr (he := by with_unfolding_all rfl) ?_
  refine evR (EvP.nm (v := .ref _) (by rfl)) ?_
  first | refine m_attrR (hg := by k_is) (hh := by k_is) (ha := by k_is) (hn := by k_is) (Here.X (by assumption)) (by walk_at "hl") (by walk_at "hl") (by rfl) ?_ | refine m_attrI (hg := by k_is) (hh := by k_is) (ha := by k_is) (hn := by k_is) (Here.X (by assumption)) (by walk_at "hl") (by walk_at "hl") (by rfl) fun _ => ?_ | refine m_attrN (hg := by k_is) (hh := by k_is) (ha := by k_is) (hn := by k_is) (Here.X (by assumption)) (by walk_at "hl") (by walk_at "hl") (by rfl) ?_
  refine evN EvP.none ?_
  refine m_is (by rfl) ?_
  refine m_trBool ?_
  skip
  refine ifalse rn ?_
  refine m_nil ?_
  refine m_cons ?_
  refine m_Return ?_
  refine m_or2 ?_
  refine m_Compare (hm := by with_unfolding_all rfl) ?_
  refine m_Attr (he := by with_unfolding_all rfl) ?_
  refine evR (EvP.nm (v := .ref _) (by rfl)) ?_
  first | refine m_attrR (hg := by k_is) (hh := by k_is) (ha := by k_is) (hn := by k_is) (Here.X (by assumption)) (by walk_at "hl") (by walk_at "hl") (by rfl) ?_ | refine m_attrI (hg := by k_is) (hh := by k_is) (ha := by k_is) (hn := by k_is) (Here.X (by assumption)) (by walk_at "hl") (by walk_at "hl") (by rfl) fun _ => ?_ | refine m_attrN (hg := by k_is) (hh := by k_is) (ha := by k_is) (hn := by k_is) (Here.X (by assumption)) (by walk_at "hl") (by walk_at "hl") (by rfl) ?_
  refine m_Attr (he := by with_unfolding_all rfl) ?_
  refine evR (EvP.nm (v := .ref _) (by rfl)) ?_
  first | refine m_attrR (hg := by k_is) (hh := by k_is) (ha := by k_is) (hn := by k_is) (Here.X (by assumption)) (by walk_at "hl") (by walk_at "hl") (by rfl) ?_ | refine m_attrI (hg := by k_is) (hh := by k_is) (ha := by k_is) (hn := by k_is) (Here.X (by assumption)) (by walk_at "hl") (by walk_at "hl") (by rfl) fun _ => ?_ | refine m_attrN (hg := by k_is) (hh := by k_is) (ha := by k_is) (hn := by k_is) (Here.X (by assumption)) (by walk_at "hl") (by walk_at "hl") (by rfl) ?_
  refine m_lti ?_
  refine m_trBool ?_
  refine ite_of (fun e => ?_) fun e => ?_
  · skip
    rw [e, Bool.true_or] at h
    skip
    refine ⟨_, fun _ _ e => e, ?_⟩
    show Q (.bool (decide (S.fi < S.po))) σ
    rw [e]; exact h
  · refine m_Call (he := by rfl) ?_
    refine m_Name (hd := by decide) ?_
    first | refine m_gK (e := by k_is) (hk := by rfl) (hl := by rfl) (he := by rfl) (by assumption) ?_ | refine m_gB (e := by k_is) (hv := by rfl) (hn := by decide) (hk := by rfl) (hl := by rfl) (he := by rfl) (hf := by rfl) (by assumption) ?_
    refine m_callT (he := by rfl) (hplain := by rfl) ?_
    refine m_splE (he := by rfl) ?_
    refine m_Attr (he := by with_unfolding_all rfl) ?_
    refine evR (EvP.nm (v := .ref _) (by rfl)) ?_
    first | refine m_attrR (hg := by k_is) (hh := by k_is) (ha := by k_is) (hn := by k_is) (Here.X (by assumption)) (by walk_at "hl") (by walk_at "hl") (by rfl) ?_ | refine m_attrI (hg := by k_is) (hh := by k_is) (ha := by k_is) (hn := by k_is) (Here.X (by assumption)) (by walk_at "hl") (by walk_at "hl") (by rfl) fun _ => ?_ | refine m_attrN (hg := by k_is) (hh := by k_is) (ha := by k_is) (hn := by k_is) (Here.X (by assumption)) (by walk_at "hl") (by walk_at "hl") (by rfl) ?_
    refine m_splE0 ?_
    refine m_boolList hra (by rw [List.length_map]; omega) ?_
    skip
    rw [Bool.eq_false_iff.mpr e, Bool.false_or] at h
    skip
    refine ⟨_, fun _ _ e => e, ?_⟩
    have e2 : (l.map kyV).isEmpty = l.isEmpty := by cases l <;> rfl
    rw [e2]; exact h

noncomputable def outNp (np : Ky → Int) (l : List Ky) : Ky → Int := fun k => if k ∈ l then -1 else np k
theorem outNp_nil {np : Ky → Int} : outNp np [] = np := by funext k; simp [outNp]
theorem outNp_snoc {np : Ky → Int} {l : List Ky} {k : Ky} : upd (outNp np l) k (-1) = outNp np (l ++ [k]) := by
  funext j; unfold upd outNp
  by_cases e : j = k
  · subst e; simp
  · simp [e]

theorem c_get_ready {l : List Ky} (r : Rep a S σ.h) (hr : S.rd = some l) (hsz : l.length ≤ 1000) (hin : ∀ k ∈ l, k ∈ S.ord) (Z : Here (Mine.hd1.heap_1 w.params) p loose mg mb Γ.base) (hA : Dp A n)
    (h : ∀ T h', Rep a { S with np := outNp S.np l, rd := some [], po := S.po + l.length } h' → h' T = none → σ.h T = none → Q (.ref T) ⟨σ.m, put h' T (.tuple (l.map kyV))⟩) : mcode (kyK prog w) Γ A (.call (.ref 143) ⟨[.ref a.x], []⟩) Q σ := by
  refine c_fun (ho := by k_is) (hb := by rfl) (hcd := by k_is) (hlk := by decide) (hco := by rfl) (hgen := by rfl) (hk := by rfl) (hcell := by decide) ["self"] [.ref a.x] Z hA (.cons rfl .nil) ?_
  intro L'
  have hh : ∀ e, (A.deeper e).handled = none := fun e => hA.hd
  have hx := r.hx
  have hdx := r.hdx
  have hra := (r.hra l hr).1
  unfold fieldsOf at hdx
  rw [hr] at hdx
  refine m_cons ?_
  refine m_If ?_
  refine m_isCompare (hm := by with_unfolding_all rfl) ?_
  refine m_Attr (he := by with_unfolding_all rfl) ?_
  refine evR (EvP.nm (v := .ref _) (by rfl)) ?_
  first | refine m_attrR (hg := by k_is) (hh := by k_is) (ha := by k_is) (hn := by k_is) (Here.X (by assumption)) (by walk_at "hl") (by walk_at "hl") (by rfl) ?_ | refine m_attrI (hg := by k_is) (hh := by k_is) (ha := by k_is) (hn := by k_is) (Here.X (by assumption)) (by walk_at "hl") (by walk_at "hl") (by rfl) fun _ => ?_ | refine m_attrN (hg := by k_is) (hh := by k_is) (ha := by k_is) (hn := by k_is) (Here.X (by assumption)) (by walk_at "hl") (by walk_at "hl") (by rfl) ?_
  refine evN EvP.none ?_
  refine m_is (by rfl) ?_
  refine m_trBool ?_
  skip
  refine ifalse rn ?_
  refine m_nil ?_
  refine m_cons ?_
  refine m_AssignName (hs := by rfl) ?_
  refine m_Call (he := by rfl) ?_
  refine m_Name (hd := by decide) ?_
  first | refine m_gK (e := by k_is) (hk := by rfl) (hl := by rfl) (he := by rfl) (by assumption) ?_ | refine m_gB (e := by k_is) (hv := by rfl) (hn := by decide) (hk := by rfl) (hl := by rfl) (he := by rfl) (hf := by rfl) (by assumption) ?_
  refine m_callT (he := by rfl) (hplain := by rfl) ?_
  refine m_splE (he := by rfl) ?_
  refine m_Attr (he := by with_unfolding_all rfl) ?_
  refine evR (EvP.nm (v := .ref _) (by rfl)) ?_
  first | refine m_attrR (hg := by k_is) (hh := by k_is) (ha := by k_is) (hn := by k_is) (Here.X (by assumption)) (by walk_at "hl") (by walk_at "hl") (by rfl) ?_ | refine m_attrI (hg := by k_is) (hh := by k_is) (ha := by k_is) (hn := by k_is) (Here.X (by assumption)) (by walk_at "hl") (by walk_at "hl") (by rfl) fun _ => ?_ | refine m_attrN (hg := by k_is) (hh := by k_is) (ha := by k_is) (hn := by k_is) (Here.X (by assumption)) (by walk_at "hl") (by walk_at "hl") (by rfl) ?_
  refine m_splE0 ?_
  refine m_tupleList hra (by rw [List.length_map]; exact Nat.le_trans hsz (by decide)) fun T hT => ?_
  have hT : σ.h T = none := hT
  refine m_str' (hk := by rfl) (hl := by rfl) (he := by rfl) ?_
  refine m_cons ?_
  refine m_AssignName (hs := by rfl) ?_
  refine m_Attr (he := by with_unfolding_all rfl) ?_
  refine evR (EvP.nm (v := .ref _) (by rfl)) ?_
  first | refine m_attrR (hg := by k_is) (hh := by k_is) (ha := by k_is) (hn := by k_is) (Here.X (by assumption)) (by walk_at "hl") (by walk_at "hl") (by rfl) ?_ | refine m_attrI (hg := by k_is) (hh := by k_is) (ha := by k_is) (hn := by k_is) (Here.X (by assumption)) (by walk_at "hl") (by walk_at "hl") (by rfl) fun _ => ?_ | refine m_attrN (hg := by k_is) (hh := by k_is) (ha := by k_is) (hn := by k_is) (Here.X (by assumption)) (by walk_at "hl") (by walk_at "hl") (by rfl) ?_
  refine m_str' (hk := by rfl) (hl := by rfl) (he := by rfl) ?_
  refine m_cons ?_
  refine m_weak (m' := names [("self", .ref a.x), ("result", .ref T), ("n2i", .ref a.dd)]) (h' := put σ.h T (.tuple (l.map kyV))) (by exact Mine.Sub.of rfl) (fun _ _ e => e) ?_
  refine m_then (P := fun σ' => ∃ hp, Fit σ' (names [("self", .ref a.x), ("result", .ref T)]) (put hp T (.tuple (l.map kyV))) ∧ hp T = none ∧ Rep a { S with np := outNp S.np l } hp) ?_ ?_
  · refine m_ForK (hs := by intro _; rfl) (hk := by rfl) (hl := by rfl) (he := by rfl) ?_
    refine evR (EvP.nm (v := .ref _) (by rfl)) ?_
    refine ⟨T, .tuple (l.map kyV), ⟨names [("self", .ref a.x), ("result", .ref T), ("n2i", .ref a.dd)], σ.h⟩, _, _, rfl, hT, yields_tuple (hh _), fun i σ' => ∃ hp, Fit σ' (names [("self", .ref a.x), ("result", .ref T), ("n2i", .ref a.dd)]) hp ∧ Rep a { S with np := outNp S.np (l.take i) } hp, ?_, ?_, ?_⟩
    · skip
      exact ⟨σ.h, by exact ⟨by exact Mine.Sub.of rfl, fun _ _ e => e⟩, by rw [List.take_zero, outNp_nil]; exact r⟩
    · rintro i y σ' I ob hb ob2 hb2 hy ⟨hp, hf, r'⟩
      obtain ⟨k, hk, rfl⟩ := map_get hy
      have hko := hin k (List.mem_of_getElem? hk)
      refine m_fitS hf ?_
      obtain ⟨ep, hdd⟩ := r'.hdd
      have hN := r'.hN k hko
      have hD := (r'.hD k hko).1
      unfold nodeOf at hN
      refine m_abs fun Zq0 hZq0 => ?_
      refine m_cons ?_
      refine m_AssignAttr (hs := by rfl) ?_
      refine evI (EvP.gK (e := by k_is) (hk := by rfl) (he := by rfl) (v := .int _) (by assumption) ⟨_, rfl⟩) fun _ => ?_
      refine m_Sub ?_
      refine evR (EvP.nm (v := .ref _) (by rfl)) ?_
      refine evS (EvP.nm (v := .str _) (by rfl)) fun _ => ?_
      refine m_tailDict (hs := by with_unfolding_all rfl) hdd (m_dictGetItem hdd ky_is (v := .ref (a.aN k)) (by rw [dGet_ord (f := fun k => V.ref (a.aN k)), if_pos hko]) fun v' hv' => ?_)
      cases hv'
      refine m_setSlot (ht := by k_is) (hs := by k_is) (hp := by k_is) (hT := by k_is) (i := 1) (v := .int (-1)) Z.X hN hD ⟨_, rfl⟩ (by decide) ?_ (p := 86) (by first | k_is | rfl | decide)
      refine m_nil ?_
      refine hZq0 _ _ ?_
      refine ⟨_, by exact ⟨by exact Mine.Sub.of rfl, fun _ _ e => e⟩, ?_⟩
      have := r'.setNp hko (-1)
      rw [outNp_snoc, ← take_snoc hk] at this
      exact this
    · rintro σ' ⟨hp, hf, r'⟩ hn
      rw [List.length_map, List.take_length] at r'
      skip
      refine ⟨rfl, hp, ⟨fun z v q => hf.1 z v ?_, put_mono hf.2⟩, none_sub hf.2 hn, r'⟩
      revert q; exact (show Sub (names _) (names _) by exact Mine.Sub.of rfl) z v
  · rintro σ' ⟨hp, hf, hTn, r'⟩
    refine m_fit hf ?_
    have hx := sub_put (x := .tuple (l.map kyV)) hTn r'.hx
    have hdx := r'.hdx
    unfold fieldsOf at hdx
    rw [hr] at hdx
    have hdx := sub_put (x := .tuple (l.map kyV)) hTn hdx
    have hra := sub_put (x := .tuple (l.map kyV)) hTn (r'.hra l hr).1
    refine m_cons ?_
    refine m_Expr (hi := by rfl) (hs := by rfl) ?_
    refine m_Method (he := by rfl) ?_
    refine m_Attr (he := by with_unfolding_all rfl) ?_
    refine evR (EvP.nm (v := .ref _) (by rfl)) ?_
    first | refine m_attrR (hg := by k_is) (hh := by k_is) (ha := by k_is) (hn := by k_is) (Here.X (by assumption)) (by walk_at "hl") (by walk_at "hl") (by rfl) ?_ | refine m_attrI (hg := by k_is) (hh := by k_is) (ha := by k_is) (hn := by k_is) (Here.X (by assumption)) (by walk_at "hl") (by walk_at "hl") (by rfl) fun _ => ?_ | refine m_attrN (hg := by k_is) (hh := by k_is) (ha := by k_is) (hn := by k_is) (Here.X (by assumption)) (by walk_at "hl") (by walk_at "hl") (by rfl) ?_
    refine m_methList (by walk_at "hl") PySem.F.slot_list_clear PySem.F.type_list_clear ?_
    refine m_callB0 ?_
    refine m_clear hra (by rw [List.length_map]; exact Nat.le_trans hsz (by decide)) ?_
    refine m_cons ?_
    refine m_AugAttr ?_
    refine evR (EvP.nm (v := .ref _) (by rfl)) ?_
    first | refine m_attrR (hg := by k_is) (hh := by k_is) (ha := by k_is) (hn := by k_is) (Here.X (by assumption)) (by walk_at "hl") (by walk_at "hl") (by rfl) ?_ | refine m_attrI (hg := by k_is) (hh := by k_is) (ha := by k_is) (hn := by k_is) (Here.X (by assumption)) (by walk_at "hl") (by walk_at "hl") (by rfl) fun _ => ?_ | refine m_attrN (hg := by k_is) (hh := by k_is) (ha := by k_is) (hn := by k_is) (Here.X (by assumption)) (by walk_at "hl") (by walk_at "hl") (by rfl) ?_
    refine m_abs fun Zq0 hZq0 => ?_
    refine m_Call (he := by rfl) ?_
    refine m_Name (hd := by decide) ?_
    first | refine m_gK (e := by k_is) (hk := by rfl) (hl := by rfl) (he := by rfl) (by assumption) ?_ | refine m_gB (e := by k_is) (hv := by rfl) (hn := by decide) (hk := by rfl) (hl := by rfl) (he := by rfl) (hf := by rfl) (by assumption) ?_
    refine m_callB (he := by rfl) (hplain := by rfl) ?_
    refine m_splE (he := by rfl) ?_
    refine evR (EvP.nm (v := .ref _) (by rfl)) ?_
    refine m_splE0 ?_
    refine m_lenTuple (xs := l.map kyV) (by walk_at "hl") (by rw [List.length_map]; omega) fun _ => ?_
    refine hZq0 _ _ ?_
    refine m_iadd fun _ => ?_
    refine m_setAttr (hs := by k_is) (hp := by k_is) (ht := by k_is) (hh := by k_is) (v := .int (S.po + l.length)) Z.X (by walk_at "hl") (by walk_at "hl") ⟨_, by rw [List.length_map]⟩ (by show 4 ≤ 900; decide) ?_
    refine m_cons ?_
    refine m_Return ?_
    refine evR (EvP.nm (v := .ref _) (by rfl)) ?_
    have r2 := r'.setRd (l' := []) (show ({ S with np := outNp S.np l } : SS).rd = some l from hr)
    have r3 := r2.setPo (S.po + l.length)
    have n1 : T ≠ a.ra := (ne_none (r'.hra l hr).1 hTn).symm
    have n2 : T ≠ a.dx := (ne_none r'.hdx hTn).symm
    refine ⟨_, ?_, h T _ r3 (by rw [put_other n2, put_other n1]; exact hTn) hT⟩
    intro b o e
    rw [put_comm (Ne.symm n2), put_comm (Ne.symm n1)] at e
    exact e

noncomputable def tellOne (S : SS) (s : Ky) : SS := { S with np := upd S.np s (S.np s - 1), rd := if S.np s - 1 = 0 then S.rd.map (· ++ [s]) else S.rd }
noncomputable def tellAll (S : SS) (l : List Ky) : SS := l.foldl tellOne S
noncomputable def doneOne (S : SS) (k : Ky) : SS := { tellAll { S with np := upd S.np k (-2) } (S.su k) with fi := S.fi + 1 }

theorem tell_snoc {S : SS} {m : List Ky} {s : Ky} : tellAll S (m ++ [s]) = tellOne (tellAll S m) s := by unfold tellAll; rw [List.foldl_append]; rfl
theorem tell_ord : ∀ (m : List Ky) (S : SS), (tellAll S m).ord = S.ord
  | [], _ => rfl
  | s :: m, S => tell_ord m (tellOne S s)
theorem tell_su : ∀ (m : List Ky) (S : SS), (tellAll S m).su = S.su
  | [], _ => rfl
  | s :: m, S => tell_su m (tellOne S s)
theorem tell_po : ∀ (m : List Ky) (S : SS), (tellAll S m).po = S.po
  | [], _ => rfl
  | s :: m, S => tell_po m (tellOne S s)
theorem tell_fi : ∀ (m : List Ky) (S : SS), (tellAll S m).fi = S.fi
  | [], _ => rfl
  | s :: m, S => tell_fi m (tellOne S s)
theorem tell_rd : ∀ (m : List Ky) (S : SS) (l : List Ky), S.rd = some l → ∃ l', (tellAll S m).rd = some l' ∧ l'.length ≤ l.length + m.length
  | [], S, l, h => ⟨l, h, by simp⟩
  | s :: m, S, l, h => by
    by_cases e : S.np s - 1 = 0
    · obtain ⟨l', h1, h2⟩ := tell_rd m (tellOne S s) (l ++ [s]) (by show (if S.np s - 1 = 0 then S.rd.map (· ++ [s]) else S.rd) = _; rw [if_pos e, h]; rfl)
      skip
      exact ⟨l', h1, by simp at h2 ⊢; omega⟩
    · obtain ⟨l', h1, h2⟩ := tell_rd m (tellOne S s) l (by show (if S.np s - 1 = 0 then S.rd.map (· ++ [s]) else S.rd) = _; rw [if_neg e, h])
      skip
      exact ⟨l', h1, by simp; omega⟩

theorem c_done {l : List Ky} (r : Rep a S σ.h) (hr : S.rd = some l) (hk : k ∈ S.ord) (hnp : S.np k = -1) (hsz : l.length + (S.su k).length ≤ 1000) (hin : ∀ s ∈ S.su k, s ∈ S.ord) (Z : Here (Mine.hd1.heap_1 w.params) p loose mg mb Γ.base) (hA : Dp A n)
    (h : ∀ h', Rep a (doneOne S k) h' → Q .none ⟨σ.m, h'⟩) : mcode (kyK prog w) Γ A (.call (.ref 164) ⟨[.ref a.x, kyVal k t], []⟩) Q σ := by
  refine c_funV (ho := by k_is) (hb := by rfl) (hcd := by k_is) (hlk := by decide) (hlv := by rfl) (hco := by rfl) (hgen := by rfl) (hk := by rfl) (hcell := by decide) ["self"] [.ref a.x] "nodes" [kyV k] Z hA (.cons rfl .nil) (.cons ⟨t, rfl⟩ .nil) (by show 1 ≤ sizeLine; decide) ?_
  intro L' T hT
  have hh : ∀ e, (A.deeper e).handled = none := fun e => hA.hd
  have hx := r.hx
  have hdx := r.hdx
  unfold fieldsOf at hdx
  rw [hr] at hdx
  refine m_cons ?_
  refine m_If ?_
  refine m_isCompare (hm := by with_unfolding_all rfl) ?_
  refine m_Attr (he := by with_unfolding_all rfl) ?_
  refine evR (EvP.nm (v := .ref _) (by rfl)) ?_
  first | refine m_attrR (hg := by k_is) (hh := by k_is) (ha := by k_is) (hn := by k_is) (Here.X (by assumption)) (by walk_at "hl") (by walk_at "hl") (by rfl) ?_ | refine m_attrI (hg := by k_is) (hh := by k_is) (ha := by k_is) (hn := by k_is) (Here.X (by assumption)) (by walk_at "hl") (by walk_at "hl") (by rfl) fun _ => ?_ | refine m_attrN (hg := by k_is) (hh := by k_is) (ha := by k_is) (hn := by k_is) (Here.X (by assumption)) (by walk_at "hl") (by walk_at "hl") (by rfl) ?_
  refine evN EvP.none ?_
  refine m_is (by rfl) ?_
  refine m_trBool ?_
  skip
  refine ifalse rn ?_
  refine m_nil ?_
  refine m_cons ?_
  refine m_AssignName (hs := by rfl) ?_
  refine m_Attr (he := by with_unfolding_all rfl) ?_
  refine evR (EvP.nm (v := .ref _) (by rfl)) ?_
  first | refine m_attrR (hg := by k_is) (hh := by k_is) (ha := by k_is) (hn := by k_is) (Here.X (by assumption)) (by walk_at "hl") (by walk_at "hl") (by rfl) ?_ | refine m_attrI (hg := by k_is) (hh := by k_is) (ha := by k_is) (hn := by k_is) (Here.X (by assumption)) (by walk_at "hl") (by walk_at "hl") (by rfl) fun _ => ?_ | refine m_attrN (hg := by k_is) (hh := by k_is) (ha := by k_is) (hn := by k_is) (Here.X (by assumption)) (by walk_at "hl") (by walk_at "hl") (by rfl) ?_
  refine m_str' (hk := by rfl) (hl := by rfl) (he := by rfl) ?_
  refine m_cons ?_
  refine m_weak (m' := names [("self", .ref a.x), ("nodes", .ref T), ("n2i", .ref a.dd)]) (h' := put σ.h T (.tuple [kyV k])) (by exact Mine.Sub.of rfl) (fun _ _ e => e) ?_
  refine m_then (P := fun σ' => Rep a (doneOne S k) σ'.h) ?_ ?_
  · refine m_ForF (hs := by intro _; rfl) (hk := by rfl) (hl := by rfl) (he := by rfl) ?_
    refine evR (EvP.nm (v := .ref _) (by rfl)) ?_
    refine ⟨T, .tuple [kyV k], ⟨names [("self", .ref a.x), ("nodes", .ref T), ("n2i", .ref a.dd)], σ.h⟩, _, _, rfl, hT, yields_tuple (hh _), fun i σ' => if i = 0 then Fit σ' (names [("self", .ref a.x), ("n2i", .ref a.dd)]) σ.h else Rep a (doneOne S k) σ'.h, ?_, ?_, ?_⟩
    · exact (if_pos rfl).mpr (by exact ⟨by exact Mine.Sub.of rfl, fun _ _ e => e⟩)
    · rintro i y σ' I ob hb ob2 hb2 hy hf
      obtain ⟨rfl, rfl⟩ : i = 0 ∧ y = kyV k := by
        cases i with
        | zero => simpa using hy.symm
        | succ i => simp at hy
      have hf : Fit σ' (names [("self", .ref a.x), ("n2i", .ref a.dd)]) σ.h := hf
      refine m_fitS hf ?_
      clear hf hx hdx
      have hx := r.hx
      obtain ⟨ep, hdd⟩ := r.hdd
      have hN := r.hN k hk
      have hD := (r.hD k hk).1
      unfold nodeOf at hN
      rw [hnp] at hN
      refine m_abs fun Zq0 hZq0 => ?_
      refine m_cons ?_
      refine m_If ?_
      refine m_isCompare (hm := by with_unfolding_all rfl) ?_
      refine m_Named ?_
      refine m_abs fun Zq1 hZq1 => ?_
      refine m_Method (he := by rfl) ?_
      refine evR (EvP.nm (v := .ref _) (by rfl)) ?_
      refine m_methDict (by walk_at "hl") PySem.F.slot_dict_get PySem.F.type_dict_get ?_
      refine m_callB (he := by rfl) (hplain := by rfl) ?_
      refine m_splE (he := by rfl) ?_
      refine evS (EvP.nm (v := .str _) (by rfl)) fun _ => ?_
      refine m_splE0 ?_
      refine m_dictGet Z.sys hdd ky_is fun v' hv' => ?_
      rw [dGet_ord (f := fun k => V.ref (a.aN k)), if_pos hk] at hv'
      cases hv'
      refine hZq1 _ _ ?_
      refine m_assignName ?_
      refine m_str' (hk := by rfl) (hl := by rfl) (he := by rfl) ?_
      refine evN EvP.none ?_
      refine m_is (by rfl) ?_
      refine m_trBool ?_
      skip
      refine ifalse rn ?_
      refine m_nil ?_
      refine m_cons ?_
      refine m_AssignName (hs := by rfl) ?_
      refine m_Attr (he := by with_unfolding_all rfl) ?_
      refine evR (EvP.nm (v := .ref _) (by rfl)) ?_
      refine m_slotI (ha := by k_is) (hg := by k_is) (hc := by k_is) (hn := by k_is) (ht := by k_is) (p := 86) (j := 1) (Here.X (by assumption)) (by walk_at "hl") (by walk_at "hl") (by first | k_is | rfl) (by rfl) fun _ => ?_
      refine m_sti (hk := by rfl) (hl := by rfl) (he := by rfl) ?_
      refine m_cons ?_
      refine m_If ?_
      refine tvU (TvP.nei (hm := by with_unfolding_all rfl) (EvP.nm (v := .int _) (by rfl)) (EvP.gK (e := by k_is) (hk := by rfl) (he := by rfl) (v := .int _) (by assumption) ⟨_, rfl⟩)) ?_
      skip
      refine ifalse (by decide) ?_
      refine m_nil ?_
      refine m_cons ?_
      refine m_AssignAttr (hs := by rfl) ?_
      refine evI (EvP.gK (e := by k_is) (hk := by rfl) (he := by rfl) (v := .int _) (by assumption) ⟨_, rfl⟩) fun _ => ?_
      refine evR (EvP.nm (v := .ref _) (by rfl)) ?_
      refine m_setSlot (ht := by k_is) (hs := by k_is) (hp := by k_is) (hT := by k_is) (i := 1) (v := .int (-2)) Z.X hN hD ⟨_, rfl⟩ (by decide) ?_ (p := 86) (by first | k_is | rfl)
      refine m_cons ?_
      have r1 : Rep a { S with np := upd S.np k (-2) } (put σ.h (a.aN k) (nodeOf a k (-2))) := r.setNp hk (-2)
      refine m_weak (m' := names [("self", .ref a.x), ("n2i", .ref a.dd), ("nodeinfo", .ref (a.aN k))]) (h' := put σ.h (a.aN k) (nodeOf a k (-2))) (by exact Mine.Sub.of rfl) (fun _ _ e => e) ?_
      revert r1
      generalize put σ.h (a.aN k) (nodeOf a k (-2)) = hp1
      intro r1
      clear hx hdd hN hD
      have hN := r1.hN k hk
      have hD := (r1.hD k hk).1
      unfold nodeOf at hN
      refine m_then (P := fun σ' => ∃ hp, Fit σ' (names [("self", .ref a.x)]) hp ∧ Rep a (tellAll { S with np := upd S.np k (-2) } (S.su k)) hp) ?_ ?_
      · refine m_For (hs := by intro _; rfl) (hk := by rfl) (hl := by rfl) (he := by rfl) ?_
        refine m_Attr (he := by with_unfolding_all rfl) ?_
        refine evR (EvP.nm (v := .ref _) (by rfl)) ?_
        refine m_slotR (ha := by k_is) (hg := by k_is) (hc := by k_is) (hn := by k_is) (ht := by k_is) (p := 87) (j := 2) (Here.X (by assumption)) (by walk_at "hl") (by walk_at "hl") (by first | k_is | rfl) (by rfl) ?_
        refine ⟨_, _, _, yields_list (hh _) (xs := (S.su k).map kyV), fun i σ' => ∃ hp, Fit σ' (names [("self", .ref a.x), ("n2i", .ref a.dd), ("nodeinfo", .ref (a.aN k))]) hp ∧ Rep a (tellAll { S with np := upd S.np k (-2) } ((S.su k).take i)) hp, ⟨hp1, by exact ⟨by exact Mine.Sub.of rfl, fun _ _ e => e⟩, r1⟩, ?_, ?_, ?_⟩
        · rintro i σ' ⟨hp, hf, r2⟩
          have := r2.hL k (by rw [tell_ord]; exact hk)
          rw [tell_su] at this
          exact hf.2 _ _ this
        · rintro i y σ' I ob hb hy ⟨hp, hf, r2⟩
          obtain ⟨s, hs, rfl⟩ := map_get hy
          have hso : s ∈ S.ord := hin s (List.mem_of_getElem? hs)
          refine m_fitS hf ?_
          clear hf
          have hS2 : tellAll { S with np := upd S.np k (-2) } ((S.su k).take (i + 1)) = tellOne (tellAll { S with np := upd S.np k (-2) } ((S.su k).take i)) s := by rw [take_snoc hs, tell_snoc]
          obtain ⟨l2, hr2, hz2⟩ := tell_rd ((S.su k).take i) { S with np := upd S.np k (-2) } l hr
          have ho2 := tell_ord ((S.su k).take i) { S with np := upd S.np k (-2) }
          have hz3 : ((S.su k).take i).length ≤ (S.su k).length := by rw [List.length_take]; omega
          revert r2 hr2 ho2 hS2
          generalize tellAll { S with np := upd S.np k (-2) } ((S.su k).take i) = S2
          intro r2 hS2 hr2 ho2
          have hso2 : s ∈ S2.ord := by rw [ho2]; exact hso
          obtain ⟨ep, hdd⟩ := r2.hdd
          have hN := r2.hN s hso2
          have hD := (r2.hD s hso2).1
          unfold nodeOf at hN
          refine m_abs fun Zq2 hZq2 => ?_
          refine m_cons ?_
          refine m_AssignName (hs := by rfl) ?_
          refine m_Sub ?_
          refine evR (EvP.nm (v := .ref _) (by rfl)) ?_
          refine evS (EvP.nm (v := .str _) (by rfl)) fun _ => ?_
          refine m_tailDict (hs := by with_unfolding_all rfl) hdd (m_dictGetItem hdd ky_is (v := .ref (a.aN s)) (by rw [dGet_ord (f := fun k => V.ref (a.aN k)), if_pos hso2]) fun v' hv' => ?_)
          cases hv'
          refine m_str' (hk := by rfl) (hl := by rfl) (he := by rfl) ?_
          refine m_cons ?_
          refine m_AugAttr ?_
          refine evR (EvP.nm (v := .ref _) (by rfl)) ?_
          refine m_slotI (ha := by k_is) (hg := by k_is) (hc := by k_is) (hn := by k_is) (ht := by k_is) (p := 86) (j := 1) (Here.X (by assumption)) (by walk_at "hl") (by walk_at "hl") (by first | k_is | rfl) (by rfl) fun _ => ?_
          refine evI EvP.int fun _ => ?_
          refine m_isub fun _ => ?_
          refine m_setSlot (ht := by k_is) (hs := by k_is) (hp := by k_is) (hT := by k_is) (i := 1) (v := .int (S2.np s - 1)) Z.X hN hD ⟨_, rfl⟩ (by decide) ?_ (p := 86) (by first | k_is | rfl)
          refine m_cons ?_
          refine m_If ?_
          refine m_isCompare (hm := by with_unfolding_all rfl) ?_
          refine m_Attr (he := by with_unfolding_all rfl) ?_
          refine evR (EvP.nm (v := .ref _) (by rfl)) ?_
          refine m_slotI (ha := by k_is) (hg := by k_is) (hc := by k_is) (hn := by k_is) (ht := by k_is) (p := 86) (j := 1) (Here.X (by assumption)) (by walk_at "hl") (by walk_at "hl") (by first | k_is | rfl) (by rfl) fun _ => ?_
          refine evI EvP.int fun _ => ?_
          refine m_eqi ?_
          refine m_trBool ?_
          have r3 := r2.setNp hso2 (S2.np s - 1)
          refine ite_of (fun e => ?_) fun e => ?_
          · have e : S2.np s - 1 = 0 := by simpa using e
            refine m_weak (m' := names [("self", .ref a.x), ("n2i", .ref a.dd), ("nodeinfo", .ref (a.aN k)), ("successor", kyV s)]) (h' := put hp (a.aN s) (nodeOf a s (S2.np s - 1))) (by exact Mine.Sub.of rfl) (fun _ _ e => e) ?_
            revert r3
            generalize put hp (a.aN s) (nodeOf a s (S2.np s - 1)) = hp2
            intro r3
            have hx := r3.hx
            have hdx := r3.hdx
            have hra := (r3.hra l2 hr2).1
            unfold fieldsOf at hdx
            have hdx : hp2 a.dx = some (O.idict [("_node2info", V.ref a.dd), ("_ready_nodes", rdV a.ra S2.rd), ("_npassedout", V.int S2.po), ("_nfinished", V.int S2.fi)]) := hdx
            rw [hr2] at hdx
            refine m_abs fun Zq3 hZq3 => ?_
            refine m_cons ?_
            refine m_Expr (hi := by rfl) (hs := by rfl) ?_
            refine m_Method (he := by rfl) ?_
            refine m_Attr (he := by with_unfolding_all rfl) ?_
            refine evR (EvP.nm (v := .ref _) (by rfl)) ?_
            first | refine m_attrR (hg := by k_is) (hh := by k_is) (ha := by k_is) (hn := by k_is) (Here.X (by assumption)) (by walk_at "hl") (by walk_at "hl") (by rfl) ?_ | refine m_attrI (hg := by k_is) (hh := by k_is) (ha := by k_is) (hn := by k_is) (Here.X (by assumption)) (by walk_at "hl") (by walk_at "hl") (by rfl) fun _ => ?_ | refine m_attrN (hg := by k_is) (hh := by k_is) (ha := by k_is) (hn := by k_is) (Here.X (by assumption)) (by walk_at "hl") (by walk_at "hl") (by rfl) ?_
            refine m_methList (by walk_at "hl") PySem.F.slot_list_append PySem.F.type_list_append ?_
            refine m_callB (he := by rfl) (hplain := by rfl) ?_
            refine m_splE (he := by rfl) ?_
            refine evS (EvP.nm (v := .str _) (by rfl)) fun _ => ?_
            refine m_splE0 ?_
            refine m_append (x := kyV s) hra ⟨_, rfl⟩ ?_ ?_
            · rw [List.length_map]; exact Nat.le_trans (show l2.length ≤ 1000 by omega) (by decide)
            refine m_nil ?_
            refine hZq3 _ _ ?_
            refine m_nil ?_
            refine hZq2 _ _ ?_
            refine ⟨_, by exact ⟨by exact Mine.Sub.of rfl, fun _ _ e => e⟩, ?_⟩
            have r4 := r3.setRd (l' := l2 ++ [s]) (show ({ S2 with np := upd S2.np s (S2.np s - 1) } : SS).rd = some l2 from hr2)
            rw [hS2]
            have e4 : tellOne S2 s = { S2 with np := upd S2.np s (S2.np s - 1), rd := some (l2 ++ [s]) } := by unfold tellOne; rw [if_pos e, hr2]; rfl
            rw [e4]
            rw [List.map_append] at r4
            exact r4
          · have e : ¬ S2.np s - 1 = 0 := by simpa using e
            refine m_nil ?_
            refine m_nil ?_
            refine hZq2 _ _ ?_
            refine ⟨put hp (a.aN s) (nodeOf a s (S2.np s - 1)), by exact ⟨by exact Mine.Sub.of rfl, fun _ _ e => e⟩, ?_⟩
            rw [hS2]
            have e4 : tellOne S2 s = { S2 with np := upd S2.np s (S2.np s - 1) } := by unfold tellOne; rw [if_neg e]
            rw [e4]; exact r3
        · rintro σ' ⟨hp, hf, r2⟩
          rw [List.length_map, List.take_length] at r2
          skip
          refine ⟨rfl, hp, ⟨fun z v q => hf.1 z v ?_, hf.2⟩, r2⟩
          revert q; exact (show Sub (names _) (names _) by exact Mine.Sub.of rfl) z v
      · rintro σ' ⟨hp, hf, r2⟩
        refine m_fit hf ?_
        have hx := r2.hx
        have hdx := r2.hdx
        unfold fieldsOf at hdx
        refine m_cons ?_
        refine m_AugAttr ?_
        refine evR (EvP.nm (v := .ref _) (by rfl)) ?_
        first | refine m_attrR (hg := by k_is) (hh := by k_is) (ha := by k_is) (hn := by k_is) (Here.X (by assumption)) (by walk_at "hl") (by walk_at "hl") (by rfl) ?_ | refine m_attrI (hg := by k_is) (hh := by k_is) (ha := by k_is) (hn := by k_is) (Here.X (by assumption)) (by walk_at "hl") (by walk_at "hl") (by rfl) fun _ => ?_ | refine m_attrN (hg := by k_is) (hh := by k_is) (ha := by k_is) (hn := by k_is) (Here.X (by assumption)) (by walk_at "hl") (by walk_at "hl") (by rfl) ?_
        refine evI EvP.int fun _ => ?_
        refine m_iadd fun _ => ?_
        refine m_setAttr (hs := by k_is) (hp := by k_is) (ht := by k_is) (hh := by k_is) (v := .int (S.fi + 1)) Z.X (by walk_at "hl") (by walk_at "hl") ⟨_, by rw [tell_fi]⟩ (by show 4 ≤ 900; decide) ?_
        refine m_nil ?_
        refine hZq0 _ _ ?_
        have r3 := r2.setFi (S.fi + 1)
        exact r3
    · intro σ' hf
      skip
      exact ⟨rfl, hf⟩
  · intro σ' r'
    refine m_nil ?_
    exact ⟨_, fun _ _ e => e, h _ r'⟩
end
end Mine
end
section
open PySem PySem.W PyProof.Rows PySem.SeqAt
set_option maxHeartbeats 1000000
namespace Mine
theorem dPut_new {f : Ky → V} {l : List Ky} {k : Ky} {v : V} (h : k ∉ l) : dPut (l.map fun k => (k, f k)) k v = l.map (fun k => (k, f k)) ++ [(k, v)] := by
  unfold dPut
  rw [if_neg]
  intro e
  rw [List.any_eq_true] at e
  obtain ⟨p, hp, e⟩ := e
  obtain ⟨j, hj, rfl⟩ := List.mem_map.mp hp
  exact h (by simpa using (of_decide_eq_true e) ▸ hj)
noncomputable def SS.mk1 (S : SS) (k : Ky) : SS := { S with ord := S.ord ++ [k], np := upd S.np k 0, su := upd S.su k [] }
noncomputable def Ad.mk1 (a : Ad) (k : Ky) (x2 dx2 D : Addr) : Ad := { a with aN := upd a.aN k x2, aD := upd a.aD k dx2, aL := upd a.aL k D }
theorem Rep.newNode {a : Ad} {S : SS} {h h3 : Addr → Option (O Ky)} {k : Ky} {x2 dx2 D : Addr} {ep : Nat} (r : Rep a S h) (hk : k ∉ S.ord) (hs : ∀ b o, h b = some o → h3 b = some o) (n1 : h x2 = none) (n2 : h dx2 = none) (n3 : h D = none)
    (e1 : h3 x2 = some (.inst cNI dx2 [some (kyV k), some (.int 0), some (.ref D)])) (e2 : h3 dx2 = some (.idict [])) (e3 : h3 D = some (.list [])) :
    Rep (a.mk1 k x2 dx2 D) (S.mk1 k) (put h3 a.dd (.dict ((S.ord.map fun k => (k, V.ref (a.aN k))) ++ [(k, .ref x2)]) ep)) := by
  obtain ⟨ep0, hdd⟩ := r.hdd
  have hd3 := hs _ _ hdd
  have old : ∀ {k'}, k' ∈ S.ord → k' ≠ k := fun hk' e => hk (e ▸ hk')
  refine ⟨put_diff (hs _ _ r.hx) hd3 (by intro q; cases q), put_diff (hs _ _ r.hdx) hd3 (by intro q; cases q), ⟨ep, ?_⟩, ?_, ?_, ?_, ?_, ?_, ?_, ?_⟩
  · show put _ a.dd _ a.dd = _
    rw [put_same]
    show _ = some (O.dict ((S.ord ++ [k]).map fun k' => (k', V.ref (upd a.aN k x2 k'))) ep)
    rw [List.map_append]
    congr 3
    · refine List.map_congr_left fun k' hk' => ?_
      rw [upd_other (old hk')]
    · simp [upd_same]
  · show (S.ord ++ [k]).Nodup
    rw [List.nodup_append]
    skip
    exact ⟨r.nd, by simp, fun a ha b hb => by rw [List.mem_singleton.mp hb]; exact old ha⟩
  · intro k' hk'
    rcases List.mem_append.mp hk' with hk' | hk'
    · show put _ a.dd _ (upd a.aN k x2 k') = some (O.inst cNI (upd a.aD k dx2 k') [some (kyV k'), some (.int (upd S.np k 0 k')), some (.ref (upd a.aL k D k'))])
      rw [upd_other (old hk'), upd_other (old hk'), upd_other (old hk'), upd_other (old hk')]
      exact put_diff (hs _ _ (r.hN k' hk')) hd3 (by intro q; cases q)
    · rw [List.mem_singleton.mp hk']
      show put _ a.dd _ (upd a.aN k x2 k) = some (O.inst cNI (upd a.aD k dx2 k) [some (kyV k), some (.int (upd S.np k 0 k)), some (.ref (upd a.aL k D k))])
      rw [upd_same, upd_same, upd_same, upd_same]
      exact put_diff e1 hd3 (by intro q; cases q)
  · intro k' hk'
    rcases List.mem_append.mp hk' with hk' | hk'
    · show put _ a.dd _ (upd a.aD k dx2 k') = _ ∧ upd a.aD k dx2 k' ≠ a.dx
      rw [upd_other (old hk')]
      skip
      exact ⟨put_diff (hs _ _ (r.hD k' hk').1) hd3 (by intro q; cases q), (r.hD k' hk').2⟩
    · rw [List.mem_singleton.mp hk']
      show put _ a.dd _ (upd a.aD k dx2 k) = _ ∧ upd a.aD k dx2 k ≠ a.dx
      rw [upd_same]
      skip
      exact ⟨put_diff e2 hd3 (by intro q; cases q), (ne_none r.hdx n2).symm⟩
  · intro k' hk'
    rcases List.mem_append.mp hk' with hk' | hk'
    · show put _ a.dd _ (upd a.aL k D k') = some (O.list ((upd S.su k [] k').map kyV))
      rw [upd_other (old hk'), upd_other (old hk')]
      exact put_diff (hs _ _ (r.hL k' hk')) hd3 (by intro q; cases q)
    · rw [List.mem_singleton.mp hk']
      show put _ a.dd _ (upd a.aL k D k) = some (O.list ((upd S.su k [] k).map kyV))
      rw [upd_same, upd_same]
      exact put_diff e3 hd3 (by intro q; cases q)
  · intro k1 h1 k2 h2
    show upd a.aL k D k1 = upd a.aL k D k2 → k1 = k2
    rcases List.mem_append.mp h1 with h1 | h1 <;> rcases List.mem_append.mp h2 with h2 | h2
    · rw [upd_other (old h1), upd_other (old h2)]; exact r.iL k1 h1 k2 h2
    · rw [List.mem_singleton.mp h2, upd_other (old h1), upd_same]; exact fun e => absurd e (ne_none (r.hL k1 h1) n3)
    · rw [List.mem_singleton.mp h1, upd_other (old h2), upd_same]; exact fun e => absurd e.symm (ne_none (r.hL k2 h2) n3)
    · rw [List.mem_singleton.mp h1, List.mem_singleton.mp h2]; exact fun _ => rfl
  · intro l e
    obtain ⟨g1, g2⟩ := r.hra l e
    refine ⟨put_diff (hs _ _ g1) hd3 (by intro q; cases q), fun k' hk' => ?_⟩
    show upd a.aL k D k' ≠ a.ra
    rcases List.mem_append.mp hk' with hk' | hk'
    · rw [upd_other (old hk')]; exact g2 k' hk'
    · rw [List.mem_singleton.mp hk', upd_same]; exact (ne_none g1 n3).symm
  · intro k' hk'
    show upd a.aN k x2 k' ≠ a.x
    rcases List.mem_append.mp hk' with hk' | hk'
    · rw [upd_other (old hk')]; exact r.xN k' hk'
    · rw [List.mem_singleton.mp hk', upd_same]; exact (ne_none r.hx n1).symm
section
variable {prog : Program} {w : World} {Γ : Fx} {σ : MS Ky} {A : Around} {env : Env} {α : Type} {s : Shared} {Q : Value → MS Ky → Prop} {QB : Bool → MS Ky → Prop} {QU : Unit → MS Ky → Prop} {QF : Flow → MS Ky → Prop}
variable {p : Program} {loose : List Str} {mg mb : Str → Option Value} {t u v : Tok} {n : Nat} {l : Addr} {a : Ad} {S : SS} {k : Ky}

theorem c_nodeInit {x2 dx2 : Addr} (h1 : σ.h x2 = some (.inst cNI dx2 [])) (h2 : σ.h dx2 = some (.idict [])) (Z : Here (Mine.hd1.heap_1 w.params) p loose mg mb Γ.base) (hA : Dp A n)
    (h : ∀ D, σ.h D = none → Q .none ⟨σ.m, put (put σ.h D (.list [])) x2 (.inst cNI dx2 [some (kyV k), some (.int 0), some (.ref D)])⟩) : mcode (kyK prog w) Γ A (.call (.ref 80) ⟨[.ref x2, kyVal k t], []⟩) Q σ := by
  refine c_fun (ho := by k_is) (hb := by rfl) (hcd := by k_is) (hlk := by decide) (hco := by rfl) (hgen := by rfl) (hk := by rfl) (hcell := by decide) ["self", "node"] [.ref x2, kyV k] Z hA (.cons rfl (.cons ⟨t, rfl⟩ .nil)) ?_
  intro L'
  have n12 : dx2 ≠ x2 := fun e => by rw [e, h1] at h2; cases h2
  refine m_cons ?_
  refine m_AssignAttr (hs := by rfl) ?_
  refine evS (EvP.nm (v := .str _) (by rfl)) fun _ => ?_
  refine evR (EvP.nm (v := .ref _) (by rfl)) ?_
  refine m_setSlot (ht := by k_is) (hs := by k_is) (hp := by k_is) (hT := by k_is) (i := 0) (v := kyV k) Z.X h1 h2 ⟨_, rfl⟩ (by decide) ?_ (p := 85) (by first | k_is | rfl)
  refine m_cons ?_
  refine m_AssignAttr (hs := by rfl) ?_
  refine evI EvP.int fun _ => ?_
  refine evR (EvP.nm (v := .ref _) (by rfl)) ?_
  refine m_setSlot (ht := by k_is) (hs := by k_is) (hp := by k_is) (hT := by k_is) (i := 1) (v := .int 0) (sl := [some (kyV k)]) Z.X put_same (by walk_at "hl") ⟨_, rfl⟩ (by decide) ?_ (p := 86) (by first | k_is | rfl)
  refine m_cons ?_
  refine m_AssignAttr (hs := by rfl) ?_
  refine m_List ?_
  refine m_splE0 ?_
  refine m_newList .nil (by decide) fun D hD => ?_
  have nD : x2 ≠ D := ne_none put_same hD
  have hD0 : σ.h D = none := none_put (none_put hD)
  refine evR (EvP.nm (v := .ref _) (by rfl)) ?_
  refine m_setSlot (ht := by k_is) (hs := by k_is) (hp := by k_is) (hT := by k_is) (i := 2) (v := .ref D) (sl := [some (kyV k), some (.int 0)]) Z.X ((put_other nD).trans put_same) (by walk_at "hl") rfl (by decide) ?_ (p := 87) (by first | k_is | rfl)
  refine m_nil ?_
  refine ⟨_, ?_, h D hD0⟩
  intro b o e
  show put (put (put (put σ.h x2 _) x2 _) D _) x2 _ b = some o
  rw [put_put, put_comm nD, put_put]
  exact e

noncomputable def SS.ens (S : SS) (k : Ky) : SS := if k ∈ S.ord then S else S.mk1 k
theorem c_get_nodeinfo (r : Rep a S σ.h) (hsz : S.ord.length ≤ 1000) (Z : Here (Mine.hd1.heap_1 w.params) p loose mg mb Γ.base) (hA : Dp A (n + 2))
    (h : ∀ a' h', a'.x = a.x → Rep a' (S.ens k) h' → Q (.ref (a'.aN k)) ⟨σ.m, h'⟩) : mcode (kyK prog w) Γ A (.call (.ref 124) ⟨[.ref a.x, kyVal k t], []⟩) Q σ := by
  refine c_fun (ho := by k_is) (hb := by rfl) (hcd := by k_is) (hlk := by decide) (hco := by rfl) (hgen := by rfl) (hk := by rfl) (hcell := by decide) ["self", "node"] [.ref a.x, kyV k] Z hA (.cons rfl (.cons ⟨t, rfl⟩ .nil)) ?_
  intro L'
  have hx := r.hx
  have hdx := r.hdx
  obtain ⟨ep, hdd⟩ := r.hdd
  unfold fieldsOf at hdx
  refine m_cons ?_
  refine m_If ?_
  refine m_isCompare (hm := by with_unfolding_all rfl) ?_
  refine m_Named ?_
  refine m_abs fun Zq0 hZq0 => ?_
  refine m_Method (he := by rfl) ?_
  refine m_Attr (he := by with_unfolding_all rfl) ?_
  refine evR (EvP.nm (v := .ref _) (by rfl)) ?_
  first | refine m_attrR (hg := by k_is) (hh := by k_is) (ha := by k_is) (hn := by k_is) (Here.X (by assumption)) (by walk_at "hl") (by walk_at "hl") (by rfl) ?_ | refine m_attrI (hg := by k_is) (hh := by k_is) (ha := by k_is) (hn := by k_is) (Here.X (by assumption)) (by walk_at "hl") (by walk_at "hl") (by rfl) fun _ => ?_ | refine m_attrN (hg := by k_is) (hh := by k_is) (ha := by k_is) (hn := by k_is) (Here.X (by assumption)) (by walk_at "hl") (by walk_at "hl") (by rfl) ?_
  refine m_methDict (by walk_at "hl") PySem.F.slot_dict_get PySem.F.type_dict_get ?_
  refine m_callB (he := by rfl) (hplain := by rfl) ?_
  refine m_splE (he := by rfl) ?_
  refine evS (EvP.nm (v := .str _) (by rfl)) fun _ => ?_
  refine m_splE0 ?_
  refine m_dictGet Z.sys hdd ky_is fun v' hv' => ?_
  rw [dGet_ord (f := fun k => V.ref (a.aN k))] at hv'
  by_cases hk : k ∈ S.ord
  · rw [if_pos hk] at hv'
    cases hv'
    refine hZq0 _ _ ?_
    refine m_assignName ?_
    refine m_str' (hk := by rfl) (hl := by rfl) (he := by rfl) ?_
    refine evN EvP.none ?_
    refine m_is (by rfl) ?_
    refine m_trBool ?_
    skip
    refine ifalse rn ?_
    refine m_nil ?_
    refine m_cons ?_
    refine m_Return ?_
    refine evR (EvP.nm (v := .ref _) (by rfl)) ?_
    exact ⟨_, fun _ _ e => e, h a _ rfl (by unfold SS.ens; rw [if_pos hk]; exact r)⟩
  · rw [if_neg hk] at hv'
    cases hv'
    refine hZq0 _ _ ?_
    refine m_assignName ?_
    refine m_stn (hk := by rfl) (hl := by rfl) (he := by rfl) ?_
    refine evN EvP.none ?_
    refine m_is (by rfl) ?_
    refine m_trBool ?_
    skip
    refine itrue nn ?_
    refine m_abs fun Zq1 hZq1 => ?_
    refine m_cons ?_
    refine m_Assign2 (he := by rfl) (hw := by rfl) ?_
    refine m_Call (he := by rfl) ?_
    refine m_Name (hd := by decide) ?_
    first | refine m_gK (e := by k_is) (hk := by rfl) (hl := by rfl) (he := by rfl) (by assumption) ?_ | refine m_gB (e := by k_is) (hv := by rfl) (hn := by decide) (hk := by rfl) (hl := by rfl) (he := by rfl) (hf := by rfl) (by assumption) ?_
    refine m_callZ (hk := by k_is) (he := by rfl) (hplain := by rfl) (by assumption) ?_
    refine m_splE (he := by rfl) ?_
    refine evS (EvP.nm (v := .str _) (by rfl)) fun _ => ?_
    refine m_splE0 ?_
    refine c_make (hi := by k_is) (hm := by k_is) (hf := by k_is) (fI := 80) Z.X fun x2 dx2 n1 n2 n12 => ?_
    have n1 : σ.h x2 = none := n1
    have n2 : σ.h dx2 = none := n2
    refine c_nodeInit (k := k) put_same ((put_other (Ne.symm n12)).trans put_same) Z (hA.deeper _).make fun D hD => ⟨rfl, ?_⟩
    have nD1 : x2 ≠ D := ne_none put_same hD
    have hD : put σ.h dx2 (.idict []) D = none := none_put hD
    have nD2 : dx2 ≠ D := ne_none put_same hD
    have n3 : σ.h D = none := none_put hD
    obtain ⟨h3, eh3⟩ : ∃ h3 : Addr → Option (O Ky), h3 = put (put (put (put σ.h dx2 (.idict [])) x2 (.inst cNI dx2 [])) D (.list [])) x2 (.inst cNI dx2 [some (kyV k), some (.int 0), some (.ref D)]) := ⟨_, rfl⟩
    have e1 : h3 x2 = some (.inst cNI dx2 [some (kyV k), some (.int 0), some (.ref D)]) := by rw [eh3]; exact put_same
    have e2 : h3 dx2 = some (.idict []) := by rw [eh3, put_other (Ne.symm n12), put_other nD2, put_other (Ne.symm n12), put_same]
    have e3 : h3 D = some (.list []) := by rw [eh3, put_other (Ne.symm nD1), put_same]
    have hs : ∀ b o, σ.h b = some o → h3 b = some o := by rw [eh3]; exact sub_upd n1 (sub_upd n3 (sub_upd n1 (sub_upd n2 fun _ _ e => e)))
    refine m_weak (m' := names [("self", .ref a.x), ("node", kyV k)]) (h' := h3) (by exact Mine.Sub.of rfl) (by rw [eh3]; exact fun _ _ e => e) ?_
    clear eh3
    have hx := hs _ _ hx
    have hdx := hs _ _ hdx
    have hdd3 := hs _ _ hdd
    refine m_assignSub ?_
    refine m_Attr (he := by with_unfolding_all rfl) ?_
    refine evR (EvP.nm (v := .ref _) (by rfl)) ?_
    first | refine m_attrR (hg := by k_is) (hh := by k_is) (ha := by k_is) (hn := by k_is) (Here.X (by assumption)) (by walk_at "hl") (by walk_at "hl") (by rfl) ?_ | refine m_attrI (hg := by k_is) (hh := by k_is) (ha := by k_is) (hn := by k_is) (Here.X (by assumption)) (by walk_at "hl") (by walk_at "hl") (by rfl) fun _ => ?_ | refine m_attrN (hg := by k_is) (hh := by k_is) (ha := by k_is) (hn := by k_is) (Here.X (by assumption)) (by walk_at "hl") (by walk_at "hl") (by rfl) ?_
    refine evS (EvP.nm (v := .str _) (by rfl)) fun _ => ?_
    refine m_dictSetItem hdd3 ky_is (v := .ref x2) rfl (by rw [List.length_map]; exact Nat.le_trans hsz (by decide)) fun ep' => ?_
    rw [dPut_new (f := fun k => V.ref (a.aN k)) hk]
    refine m_assignName ?_
    refine m_str' (hk := by rfl) (hl := by rfl) (he := by rfl) ?_
    refine m_nil ?_
    refine hZq1 _ _ ?_
    refine m_cons ?_
    refine m_Return ?_
    refine evR (EvP.nm (v := .ref _) (by rfl)) ?_
    have r2 := r.newNode (ep := ep') hk hs n1 n2 n3 e1 e2 e3
    refine ⟨_, fun _ _ e => e, ?_⟩
    have := h (a.mk1 k x2 dx2 D) _ rfl (by unfold SS.ens; rw [if_neg hk]; exact r2)
    rw [show (a.mk1 k x2 dx2 D).aN k = x2 from upd_same] at this
    exact this

noncomputable def linkOne (k : Ky) (S : SS) (q : Ky) : SS := { S.ens q with su := upd (S.ens q).su q ((S.ens q).su q ++ [k]) }
noncomputable def SS.add (S : SS) (k : Ky) (ps : List Ky) : SS := ps.foldl (linkOne k) { S.ens k with np := upd (S.ens k).np k ((S.ens k).np k + ps.length) }

theorem ens_mem {S : SS} {k : Ky} : k ∈ (S.ens k).ord := by unfold SS.ens; split <;> simp_all [SS.mk1]
theorem ens_rd {S : SS} {k : Ky} : (S.ens k).rd = S.rd := by unfold SS.ens; split <;> simp [SS.mk1]
theorem ens_po {S : SS} {k : Ky} : (S.ens k).po = S.po := by unfold SS.ens; split <;> simp [SS.mk1]
theorem ens_fi {S : SS} {k : Ky} : (S.ens k).fi = S.fi := by unfold SS.ens; split <;> simp [SS.mk1]
theorem ens_len {S : SS} {k : Ky} : (S.ens k).ord.length ≤ S.ord.length + 1 := by unfold SS.ens; split <;> simp [SS.mk1]
theorem ens_su {S : SS} {k : Ky} {B : Nat} (h : ∀ j ∈ S.ord, (S.su j).length ≤ B) : ∀ j ∈ (S.ens k).ord, ((S.ens k).su j).length ≤ B := by
  unfold SS.ens
  split
  · exact h
  · rename_i hk
    intro j hj
    rcases List.mem_append.mp hj with hj | hj
    · show (upd S.su k [] j).length ≤ B
      rw [upd_other (show j ≠ k from fun e => hk (e ▸ hj))]; exact h j hj
    · rw [List.mem_singleton.mp hj]; show (upd S.su k [] k).length ≤ B; rw [upd_same]; simp
theorem link_size {k : Ky} : ∀ (ps : List Ky) (S : SS) (B : Nat), (∀ j ∈ S.ord, (S.su j).length ≤ B) →
    (ps.foldl (linkOne k) S).ord.length ≤ S.ord.length + ps.length ∧ (∀ j ∈ (ps.foldl (linkOne k) S).ord, ((ps.foldl (linkOne k) S).su j).length ≤ B + ps.length) ∧ (ps.foldl (linkOne k) S).rd = S.rd ∧ (ps.foldl (linkOne k) S).po = S.po ∧ (ps.foldl (linkOne k) S).fi = S.fi
  | [], S, B, h => ⟨by simp, by simpa using h, rfl, rfl, rfl⟩
  | q :: ps, S, B, h => by
    have h1 : ∀ j ∈ (linkOne k S q).ord, ((linkOne k S q).su j).length ≤ B + 1 := by
      intro j hj
      have := ens_su h j hj
      show (upd (S.ens q).su q ((S.ens q).su q ++ [k]) j).length ≤ B + 1
      by_cases e : j = q
      · subst e; rw [upd_same]; simp; exact this
      · rw [upd_other e]; lia
    obtain ⟨a1, a2, a3, a4, a5⟩ := link_size ps (linkOne k S q) (B + 1) h1
    have hl : (linkOne k S q).ord.length ≤ S.ord.length + 1 := ens_len
    refine ⟨?_, ?_, a3.trans ens_rd, a4.trans ens_po, a5.trans ens_fi⟩
    · rw [List.foldl_cons, List.length_cons]; lia
    · intro j hj
      rw [List.foldl_cons] at hj ⊢
      have := a2 j hj
      rw [List.length_cons]; lia

inductive AddJ (m : Str → Option V) (x : Addr) (S : SS) (σ' : MS Ky) : Prop
  | mk (a' : Ad) (hp : Addr → Option (O Ky)) (ea : a'.x = x) (hf : Fit σ' m hp) (r : Rep a' S hp)
theorem c_add {ps : List Ky} {vals : List Value} (r : Rep a S σ.h) (hr : S.rd = none) (hsz : S.ord.length + ps.length ≤ 900) (hsu : ∀ k ∈ S.ord, (S.su k).length + ps.length ≤ 1000) (hv : Are (ps.map kyV) vals) (Z : Here (Mine.hd1.heap_1 w.params) p loose mg mb Γ.base) (hA : Dp A (n + 3))
    (h : ∀ a' h', a'.x = a.x → Rep a' (S.add k ps) h' → Q .none ⟨σ.m, h'⟩) : mcode (kyK prog w) Γ A (.call (.ref 131) ⟨.ref a.x :: kyVal k t :: vals, []⟩) Q σ := by
  refine c_funV (ho := by k_is) (hcd := by k_is) (hlk := by decide) (hlv := by rfl) (hco := by rfl) (hgen := by rfl) (hk := by rfl) (hcell := by decide) ["self", "node"] [.ref a.x, kyV k] "predecessors" (ps.map kyV) Z hA (.cons rfl (.cons ⟨t, rfl⟩ .nil)) hv (by rw [List.length_map]; exact Nat.le_trans (show ps.length ≤ 1000 by lia) (by decide)) ?_ (hb := ?_)
  rotate_left
  · cases vals with
    | nil => rfl
    | cons v vs => rfl
  intro L' T hT
  have hh : ∀ e, (A.deeper e).handled = none := fun e => hA.hd
  have hx := r.hx
  have hdx := r.hdx
  unfold fieldsOf at hdx
  rw [hr] at hdx
  refine m_cons ?_
  refine m_If ?_
  refine m_isCompare (hm := by with_unfolding_all rfl) ?_
  refine m_Attr (he := by with_unfolding_all rfl) ?_
  refine evR (EvP.nm (v := .ref _) (by rfl)) ?_
  first | refine m_attrR (hg := by k_is) (hh := by k_is) (ha := by k_is) (hn := by k_is) (Here.X (by assumption)) (by walk_at "hl") (by walk_at "hl") (by rfl) ?_ | refine m_attrI (hg := by k_is) (hh := by k_is) (ha := by k_is) (hn := by k_is) (Here.X (by assumption)) (by walk_at "hl") (by walk_at "hl") (by rfl) fun _ => ?_ | refine m_attrN (hg := by k_is) (hh := by k_is) (ha := by k_is) (hn := by k_is) (Here.X (by assumption)) (by walk_at "hl") (by walk_at "hl") (by rfl) ?_
  refine evN EvP.none ?_
  refine m_isnot (by rfl) ?_
  refine m_trBool ?_
  skip
  refine ifalse (by decide) ?_
  refine m_nil ?_
  refine m_cons ?_
  refine m_AssignName (hs := by rfl) ?_
  refine m_Method (he := by rfl) ?_
  refine evR (EvP.nm (v := .ref _) (by rfl)) ?_
  refine m_method (hf := by k_is) (hg := by k_is) (ht := by k_is) (Here.X (by assumption)) (by walk_at "hl") (by walk_at "hl") (by rfl) ?_
  refine m_callZ (hk := by k_is) (he := by rfl) (hplain := by rfl) (by assumption) ?_
  refine m_splE (he := by rfl) ?_
  refine evS (EvP.nm (v := .str _) (by rfl)) fun _ => ?_
  refine m_splE0 ?_
  refine m_weak (σ := MS.mk _ _) (m' := names [("self", .ref a.x), ("node", kyV k), ("predecessors", .ref T)]) (h' := put σ.h T (.tuple (ps.map kyV))) (by exact Mine.Sub.of rfl) (fun _ _ e => e) ?_
  refine mwp_mono (m_frame (σ := ⟨names [("self", .ref a.x), ("node", kyV k), ("predecessors", .ref T)], σ.h⟩) (D := T) (o := .tuple (ps.map kyV)) (Q := fun v σ' => ∃ a', a'.x = a.x ∧ v = .ref (a'.aN k) ∧ Rep a' (S.ens k) σ'.h ∧ σ'.m = names [("self", .ref a.x), ("node", kyV k), ("predecessors", .ref T)]) hT fun ob hb => m_code ?_) ?_
  · exact c_get_nodeinfo (k := k) (a := a) (S := S) r (by lia) Z (hA.deeper _) fun a' h' e r' => ⟨a', e, rfl, r', rfl⟩
  rintro v ⟨m0, h0⟩ ⟨σ₀, e0, hn, a1, ea, rfl, r1, em⟩
  obtain ⟨m1, h1⟩ := σ₀
  have em : m1 = _ := em
  subst em
  cases e0
  have hT1 : h1 T = none := hn
  have r1 : Rep a1 (S.ens k) h1 := r1
  have hN := r1.hN k ens_mem
  have hD := (r1.hD k ens_mem).1
  unfold nodeOf at hN
  refine m_str' (hk := by rfl) (hl := by rfl) (he := by rfl) ?_
  refine m_cons ?_
  refine m_AugAttr ?_
  refine evR (EvP.nm (v := .ref _) (by rfl)) ?_
  refine m_slotI (ha := by k_is) (hg := by k_is) (hc := by k_is) (hn := by k_is) (ht := by k_is) (p := 86) (j := 1) (Here.X (by assumption)) (by walk_at "hl") (by walk_at "hl") (by first | k_is | rfl) (by rfl) fun _ => ?_
  refine m_abs fun Zq0 hZq0 => ?_
  refine m_Call (he := by rfl) ?_
  refine m_Name (hd := by decide) ?_
  first | refine m_gK (e := by k_is) (hk := by rfl) (hl := by rfl) (he := by rfl) (by assumption) ?_ | refine m_gB (e := by k_is) (hv := by rfl) (hn := by decide) (hk := by rfl) (hl := by rfl) (he := by rfl) (hf := by rfl) (by assumption) ?_
  refine m_callB (he := by rfl) (hplain := by rfl) ?_
  refine m_splE (he := by rfl) ?_
  refine evR (EvP.nm (v := .ref _) (by rfl)) ?_
  refine m_splE0 ?_
  refine m_lenTuple (xs := ps.map kyV) put_same (by rw [List.length_map]; lia) fun _ => ?_
  refine hZq0 _ _ ?_
  refine m_iadd fun _ => ?_
  refine m_setSlot (ht := by k_is) (hs := by k_is) (hp := by k_is) (hT := by k_is) (i := 1) (v := .int ((S.ens k).np k + ps.length)) Z.X (sub_put hT1 hN) (sub_put hT1 hD) ⟨_, by rw [List.length_map]⟩ (by decide) ?_ (p := 86) (by first | k_is | rfl)
  refine m_cons ?_
  have r2 := r1.setNp (ens_mem (S := S) (k := k)) ((S.ens k).np k + ps.length)
  have nT : T ≠ a1.aN k := (ne_none (r1.hN k ens_mem) hT1).symm
  have hT2 : put h1 (a1.aN k) (nodeOf a1 k ((S.ens k).np k + ps.length)) T = none := (put_other nT).trans hT1
  refine m_weak (m' := names [("self", .ref a.x), ("node", kyV k), ("predecessors", .ref T)]) (h' := put (put h1 (a1.aN k) (nodeOf a1 k ((S.ens k).np k + ps.length))) T (.tuple (ps.map kyV))) (by exact Mine.Sub.of rfl) (by rw [put_comm (Ne.symm nT)]; exact fun _ _ e => e) ?_
  revert r2 hT2
  generalize put h1 (a1.aN k) (nodeOf a1 k ((S.ens k).np k + ps.length)) = hp2
  intro r2 hT2
  clear hN hD r1 nT hT1 hn hx hdx
  have hsu2 : ∀ j ∈ (S.ens k).ord, ((S.ens k).su j).length ≤ 1000 - ps.length := ens_su fun j hj => by have := hsu j hj; lia
  have hol := ens_len (S := S) (k := k)
  have hrd2 : (S.ens k).rd = none := ens_rd.trans hr
  have hps : ps.length ≤ 1000 := by lia
  obtain ⟨S2, eS2⟩ : ∃ S2 : SS, S2 = { S.ens k with np := upd (S.ens k).np k ((S.ens k).np k + ps.length) } := ⟨_, rfl⟩
  have hadd : S.add k ps = ps.foldl (linkOne k) S2 := by rw [eS2]; rfl
  rw [← eS2] at r2
  have hsu2 : ∀ j ∈ S2.ord, (S2.su j).length ≤ 1000 - ps.length := by rw [eS2]; exact hsu2
  have hol : S2.ord.length ≤ S.ord.length + 1 := by rw [eS2]; exact hol
  clear eS2
  refine m_then (P := fun σ' => ∃ a', a'.x = a.x ∧ Rep a' (ps.foldl (linkOne k) S2) σ'.h) ?_ ?_
  · refine m_ForF (hs := by intro _; rfl) (hk := by rfl) (hl := by rfl) (he := by rfl) ?_
    refine evR (EvP.nm (v := .ref _) (by rfl)) ?_
    refine ⟨T, .tuple (ps.map kyV), ⟨names [("self", .ref a.x), ("node", kyV k), ("predecessors", .ref T)], hp2⟩, _, _, rfl, hT2, yields_tuple (hh _), fun i σ' => AddJ (names [("self", .ref a.x), ("node", kyV k)]) a.x ((ps.take i).foldl (linkOne k) S2) σ', ⟨a1, hp2, ea, by exact ⟨by exact Mine.Sub.of rfl, fun _ _ e => e⟩, r2⟩, ?_, ?_⟩
    · rintro i y σ' I ob hb ob2 hb2 hy ⟨a3, hp3, ea3, hf, r3⟩
      obtain ⟨q, hq, rfl⟩ := map_get hy
      have hi := (List.getElem?_eq_some_iff.mp hq).1
      refine m_fitS hf ?_
      clear hf
      have hS3 : (ps.take (i + 1)).foldl (linkOne k) S2 = linkOne k ((ps.take i).foldl (linkOne k) S2) q := by rw [take_snoc hq, List.foldl_append]; rfl
      obtain ⟨b1, b2, b3, _, _⟩ := link_size (k := k) (ps.take i) S2 _ hsu2
      have hti : (ps.take i).length = i := by rw [List.length_take]; lia
      rw [hti] at b1 b2
      revert r3 hS3 b1 b2 b3
      generalize (ps.take i).foldl (linkOne k) S2 = S3
      intro r3 hS3 b1 b2 b3
      have hx := r3.hx
      have hdx := r3.hdx
      unfold fieldsOf at hdx
      rw [ea3] at hx
      refine m_abs fun Zq1 hZq1 => ?_
      refine m_cons ?_
      refine m_AssignName (hs := by rfl) ?_
      refine m_abs fun Zq2 hZq2 => ?_
      refine m_Method (he := by rfl) ?_
      refine evR (EvP.nm (v := .ref _) (by rfl)) ?_
      refine m_method (hf := by k_is) (hg := by k_is) (ht := by k_is) (Here.X (by assumption)) (by walk_at "hl") (by walk_at "hl") (by rfl) ?_
      refine m_callZ (hk := by k_is) (he := by rfl) (hplain := by rfl) (by assumption) ?_
      refine m_splE (he := by rfl) ?_
      refine evS (EvP.nm (v := .str _) (by rfl)) fun _ => ?_
      refine m_splE0 ?_
      refine m_code ?_
      rw [show ([Value.ref a.x] : List Value) = [.ref a3.x] by rw [ea3]]
      refine c_get_nodeinfo (k := q) r3 (by lia) Z (hA.deeper _) fun a4 h4 ea4 r4 => ?_
      have hN := r4.hN q ens_mem
      have hD := (r4.hD q ens_mem).1
      have hL := r4.hL q ens_mem
      unfold nodeOf at hN
      refine hZq2 _ _ ?_
      refine m_str' (hk := by rfl) (hl := by rfl) (he := by rfl) ?_
      refine m_cons ?_
      refine m_Expr (hi := by rfl) (hs := by rfl) ?_
      refine m_Method (he := by rfl) ?_
      refine m_Attr (he := by with_unfolding_all rfl) ?_
      refine evR (EvP.nm (v := .ref _) (by rfl)) ?_
      refine m_slotR (ha := by k_is) (hg := by k_is) (hc := by k_is) (hn := by k_is) (ht := by k_is) (p := 87) (j := 2) (Here.X (by assumption)) (by walk_at "hl") (by walk_at "hl") (by first | k_is | rfl) (by rfl) ?_
      refine m_methList (by walk_at "hl") PySem.F.slot_list_append PySem.F.type_list_append ?_
      refine m_callB (he := by rfl) (hplain := by rfl) ?_
      refine m_splE (he := by rfl) ?_
      refine evS (EvP.nm (v := .str _) (by rfl)) fun _ => ?_
      refine m_splE0 ?_
      refine m_append (x := kyV k) hL ⟨_, rfl⟩ ?_ ?_
      · have := ens_su b2 q ens_mem
        rw [List.length_map]; exact Nat.le_trans (show _ ≤ 1000 by lia) (by decide)
      refine m_nil ?_
      refine hZq1 _ _ ?_
      refine ⟨a4, _, ea4.trans ea3, by exact ⟨by exact Mine.Sub.of rfl, fun _ _ e => e⟩, ?_⟩
      have r5 := r4.appSu (ens_mem (S := S3) (k := q)) ((S3.ens q).su q ++ [k])
      rw [hS3]
      rw [List.map_append] at r5
      exact r5
    · rintro σ' ⟨a', hp, ea', hf, r'⟩
      rw [List.length_map, List.take_length] at r'
      skip
      exact ⟨rfl, a', ea', r'.mono hf.2⟩
  · rintro σ' ⟨a', ea', r'⟩
    refine m_nil ?_
    rw [← hadd] at r'
    skip
    exact ⟨_, fun _ _ e => e, h a' _ ea' r'⟩
end
end Mine
end
section
open PySem PySem.W PyProof.Rows PySem.SeqAt
set_option maxHeartbeats 400000
namespace Mine
section
variable {prog : Program} {w : World} {K : Type} [DecidableEq K] {knd : PySem.KeyKind prog w K} {Γ : Fx} {σ : MS K} {A : Around} {env : Env} {α : Type} {s : Shared} {Q : Value → MS K → Prop} {QB : Bool → MS K → Prop} {QU : Unit → MS K → Prop} {QF : Flow → MS K → Prop}
variable {KK : Frag} {p : Program} {loose : List Str} {mg mb : Str → Option Value} {t u : Tok} {l l' : Addr}
theorem m_neg {a : Int} (h : ∀ t, Q (.int (-a) t) σ) : mwp knd Γ A (unaryOp .USub (.int a t)) Q σ := fun _ _ R => PyProof.Rows.neg_int ⟨σ, R.toks, h _⟩
theorem m_bound {x C dx f : Addr} {sl : List (Option V)} {fs : List (Str × V)} {name : Str} (X : KK.In Γ.base) (hx : σ.h x = some (.inst C dx sl)) (hd : σ.h dx = some (.idict fs)) (hl : fs.lookup name = none) (h : ∀ q, σ.h q = none → Q (.ref q) (σ.set q (.bound f x)))
    (hg : plainGet KK C name = true) (hh : hasDictIn KK C = true) (ha : findIn KK (.ref C) name = some (some (.ref f))) (hf : isFn KK (.ref f) = true)
    (hgf : specialIn KK (.ref f) "__get__" = some (some (.builtin "function.__get__"))) (ht : takesIn KK (.ref f) = some false) (hc : copiedNames.contains name = false) {expr : Bool} : mwp knd Γ A (getAttr (.ref x) name expr) Q σ := fun s E R => by
  obtain ⟨sl', es, n, I, _, hfs⟩ := R.inst hx hd
  exact get_bind (R.kin X) I (plainGet_of hg).1 (findObj_fn hh ha hgf ht hc (by show lookIn name (dictOf es n) = _; rw [lookIn_dict, hfs.miss hl])) (plainGet_of hg).2
    (wpAny_call (fn_get (s := { s with toks := s.toks + 1 }) (R.kin X) (beq_iff_eq.mp hf) (handed_on rfl ⟨_, R.push (o := .bound f x) rfl, h _ R.fresh⟩)))
theorem m_callMstar {q f x : Addr} {first : List Value} {e : Expr} {rest : List Expr} {pos : Pos} (Z : Here KK p loose mg mb Γ.base) (h : mwp knd Γ A (spliced (backTo pos (starEach (e :: rest) env))) (fun vs σ₁ => σ₁.h q = some (.bound f x) ∧ mwp knd Γ A (call (.ref q) (first ++ vs)) Q σ₁) σ)
    (hf : fnIn KK f = true) (he : starEach (e :: rest) env = (false, eval e env) :: starEach rest env) (hst : (backTo pos (starEach rest env)).any (·.1) = true) :
    mwp knd Γ A (callWith pos (.ref q) first (backTo pos (starEach (e :: rest) env)) []) Q σ := fun s E R => by
  have h2 := h.use (E := E) R (fun vs s₁ σ₁ R₁ z => (show MethP KK q f (.ref x) s₁.heap ∧ wpAny (model prog w) A (call (.ref q) (first ++ vs)) (fun a s' => ∃ σ', Rel knd Γ σ' s' ∧ Q a σ') E s₁ from by
    obtain ⟨z1, z2⟩ := z
    obtain ⟨ob, g, eo⟩ := R₁.obj _ _ z1
    have eo : ob = _ := eo
    subst eo
    exact ⟨⟨g, R₁.kin Z.X⟩, z2 s₁ E R₁⟩))
  rw [he] at h2 ⊢
  exact ks_call (by show (false || (backTo pos (starEach rest env)).any (·.1)) = true; rw [hst]; rfl) (keeps_M hf) (Calls.evalArgs_plain h2)
theorem m_MethodStar {o : Expr} {name : Str} {apos pos : Pos} {args : List Expr} (h : mwp knd Γ A (eval o env) (fun ov σ₁ => mwp knd Γ A (getAttr ov name true) (fun f σ₂ => mwp knd Γ A (callWith pos f [] (backTo pos (starEach args env)) []) Q σ₂) σ₁) σ)
    (he : eval (.Call (.Attribute o name apos) args [] pos) env = (do
      let ov ← eval o env
      standAt apos.atName
      let (f, first) ← holding [ov] (do pure (← getAttr ov name true, []))
      callWith pos f first (backTo pos (starEach args env)) [])) : mwp knd Γ A (eval (.Call (.Attribute o name apos) args [] pos) env) Q σ := fun s E R => by
  rw [he]
  exact wpAny_bind (h.use R fun ov s₁ σ₁ R₁ q => wpAny_bind (wpAny_standAt (wpAny_bind (wpAny_holding (wpAny_bind (q.use R₁ fun f s₂ σ₂ R₂ q => wpAny_pure (q s₂ E R₂)))))))
theorem m_callBound {q f x : Addr} {vs : List Value} (hq : σ.h q = some (.bound f x)) (h : mcode knd Γ A (.call (.ref f) ⟨.ref x :: vs, []⟩) Q σ) : mwp knd Γ A (call (.ref q) vs) Q σ := fun s E R => by
  obtain ⟨ob, g, eo⟩ := R.obj _ _ hq
  have eo : ob = _ := eo
  subst eo
  exact wpAny_call (method_call g (h s E R))
end
end Mine
end
section
open PySem PySem.W PyProof.Rows PySem.SeqAt
set_option maxHeartbeats 1000000
namespace Mine
noncomputable def SS0 : SS := ⟨[], fun _ => 0, fun _ => [], none, 0, 0⟩
noncomputable def addG (S : SS) (g : Ky × Addr × List Ky) : SS := S.add g.1 g.2.2
noncomputable def build (G : List (Ky × Addr × List Ky)) : SS := G.foldl addG SS0
theorem add_size {S : SS} {k : Ky} {ps : List Ky} {B : Nat} (h : ∀ j ∈ S.ord, (S.su j).length ≤ B) : (S.add k ps).ord.length ≤ S.ord.length + ps.length + 1 ∧ (∀ j ∈ (S.add k ps).ord, ((S.add k ps).su j).length ≤ B + ps.length) ∧ (S.add k ps).rd = S.rd ∧ (S.add k ps).po = S.po ∧ (S.add k ps).fi = S.fi := by
  obtain ⟨h1, h2, h3, h4, h5⟩ := link_size (k := k) ps { S.ens k with np := upd (S.ens k).np k ((S.ens k).np k + ps.length) } B (ens_su h)
  have hl := ens_len (S := S) (k := k)
  skip
  refine ⟨?_, h2, h3.trans ens_rd, h4.trans ens_po, h5.trans ens_fi⟩
  have : (S.add k ps).ord.length ≤ (S.ens k).ord.length + ps.length := h1
  omega
theorem addG_size : ∀ (G : List (Ky × Addr × List Ky)) (S : SS) (B : Nat), (∀ j ∈ S.ord, (S.su j).length ≤ B) → (∀ g ∈ G, g.2.2.length ≤ 10) →
    (G.foldl addG S).ord.length ≤ S.ord.length + 11 * G.length ∧ (∀ j ∈ (G.foldl addG S).ord, ((G.foldl addG S).su j).length ≤ B + 10 * G.length) ∧ (G.foldl addG S).rd = S.rd
  | [], S, B, h, _ => ⟨by simp, by simpa using h, rfl⟩
  | g :: G, S, B, h, hg => by
    obtain ⟨a1, a2, a3, _, _⟩ := add_size (k := g.1) (ps := g.2.2) h
    have := hg g List.mem_cons_self
    obtain ⟨b1, b2, b3⟩ := addG_size G (addG S g) (B + 10) (fun j hj => by have : ((addG S g).su j).length ≤ B + g.2.2.length := a2 j hj; omega) fun g' hg' => hg g' (List.mem_cons_of_mem _ hg')
    rw [List.foldl_cons, List.length_cons]
    skip
    refine ⟨?_, fun j hj => ?_, b3.trans a3⟩
    · have : (addG S g).ord.length ≤ S.ord.length + g.2.2.length + 1 := a1
      omega
    · have := b2 j hj; omega
section
variable {prog : Program} {w : World} {Γ : Fx} {σ : MS Ky} {A : Around} {env : Env} {α : Type} {s : Shared} {Q : Value → MS Ky → Prop} {QB : Bool → MS Ky → Prop} {QU : Unit → MS Ky → Prop} {QF : Flow → MS Ky → Prop}
variable {p : Program} {loose : List Str} {mg mb : Str → Option Value} {t u v : Tok} {n : Nat} {l : Addr} {a : Ad} {S : SS} {k : Ky}

inductive IE (G : List (Ky × Addr × List Ky)) (x : Addr) (h0 : Addr → Option (O Ky)) (σ' : MS Ky) : Prop
  | mk (a : Ad) (h1 : Addr → Option (O Ky)) (ea : a.x = x) (r : Rep a (build G) h1) (s0 : ∀ b o, h0 b = some o → σ'.h b = some o) (s1 : ∀ b o, h1 b = some o → σ'.h b = some o) (dj : ∀ b, h0 b ≠ none → h1 b = none)
inductive IJ (G : List (Ky × Addr × List Ky)) (x : Addr) (h0 : Addr → Option (O Ky)) (i : Nat) (σ' : MS Ky) : Prop
  | mk (a : Ad) (h1 hp : Addr → Option (O Ky)) (ea : a.x = x) (r : Rep a ((G.take i).foldl addG SS0) h1) (hf : Fit σ' (names [("self", .ref x)]) hp) (s0 : ∀ b o, h0 b = some o → hp b = some o) (s1 : ∀ b o, h1 b = some o → hp b = some o) (dj : ∀ b, h0 b ≠ none → h1 b = none)
theorem c_init {h0 : Addr → Option (O Ky)} {x dx dN : Addr} {ep : Nat} {G : List (Ky × Addr × List Ky)} (hσ : σ.h = put (put h0 dx (.idict [])) x (.inst cTS dx [])) (nx : h0 x = none) (nd : h0 dx = none) (nxd : x ≠ dx)
    (hG : h0 dN = some (.dict (G.map fun g => (g.1, V.ref g.2.1)) ep)) (hl : ∀ g ∈ G, h0 g.2.1 = some (.list (g.2.2.map kyV)) ∧ g.2.2.length ≤ 10) (hGl : G.length ≤ 40) (Z : Here (Mine.hd1.heap_1 w.params) p loose mg mb Γ.base) (hA : Dp A (n + 4))
    (h : ∀ a h1 hq, a.x = x → Rep a (build G) h1 → (∀ b o, h0 b = some o → hq b = some o) → (∀ b o, h1 b = some o → hq b = some o) → (∀ b, h0 b ≠ none → h1 b = none) → Q .none ⟨σ.m, hq⟩) :
    mcode (kyK prog w) Γ A (.call (.ref 117) ⟨[.ref x, .ref dN], []⟩) Q σ := by
  refine c_funD (ho := by k_is) (hd := by k_is) (hb := by rfl) (hb2 := by rfl) (hcd := by k_is) (hlk := by decide) (hco := by rfl) (hgen := by rfl) (hk := by rfl) (hcell := by decide) ["self", "graph"] [.ref x, .ref dN] Z hA (.cons rfl (.cons rfl .nil)) ?_
  intro L'
  have hh : ∀ e, (A.deeper e).handled = none := fun e => hA.hd
  rw [hσ]
  have hx : put (put h0 dx (.idict [])) x (.inst cTS dx []) x = some (.inst cTS dx []) := put_same
  have hdx : put (put h0 dx (.idict [])) x (.inst cTS dx []) dx = some (.idict []) := (put_other (Ne.symm nxd)).trans put_same
  refine m_cons ?_
  refine m_AssignAttr (hs := by rfl) ?_
  refine m_dict0 fun dd hdd => ?_
  refine evR (EvP.nm (v := .ref _) (by rfl)) ?_
  refine m_setAttr (hs := by k_is) (hp := by k_is) (ht := by k_is) (hh := by k_is) (v := .ref dd) Z.X (by walk_at "hl") (by walk_at "hl") rfl (by decide) ?_
  refine m_cons ?_
  refine m_AssignAttr (hs := by rfl) ?_
  refine evN EvP.none ?_
  refine evR (EvP.nm (v := .ref _) (by rfl)) ?_
  have hdd : put (put h0 dx (.idict [])) x (.inst cTS dx []) dd = none := hdd
  have ndx : dd ≠ x := ne_put hdd
  have ndd : dd ≠ dx := ne_put (none_put hdd)
  have hd0 : h0 dd = none := none_put (none_put hdd)
  refine m_setAttr (hs := by k_is) (hp := by k_is) (ht := by k_is) (hh := by k_is) (v := .none) Z.X (by walk_at "hl") put_same rfl (by show 1 ≤ 900; decide) ?_
  refine m_cons ?_
  refine m_AssignAttr (hs := by rfl) ?_
  refine evI EvP.int fun _ => ?_
  refine evR (EvP.nm (v := .ref _) (by rfl)) ?_
  refine m_setAttr (hs := by k_is) (hp := by k_is) (ht := by k_is) (hh := by k_is) (v := .int 0) Z.X (by walk_at "hl") put_same ⟨_, rfl⟩ (by show 2 ≤ 900; decide) ?_
  refine m_cons ?_
  refine m_AssignAttr (hs := by rfl) ?_
  refine evI EvP.int fun _ => ?_
  refine evR (EvP.nm (v := .ref _) (by rfl)) ?_
  refine m_setAttr (hs := by k_is) (hp := by k_is) (ht := by k_is) (hh := by k_is) (v := .int 0) Z.X (by walk_at "hl") put_same ⟨_, rfl⟩ (by show 3 ≤ 900; decide) ?_
  refine m_cons ?_
  refine m_If ?_
  refine m_isCompare (hm := by with_unfolding_all rfl) ?_
  refine evR (EvP.nm (v := .ref _) (by rfl)) ?_
  refine evN EvP.none ?_
  refine m_isnot (by rfl) ?_
  refine m_trBool ?_
  skip
  refine itrue (show (!(Value.ref dN == Value.none)) = true from rfl) ?_
  obtain ⟨a0, ea0⟩ : ∃ a0 : Ad, a0 = ⟨x, dx, dd, 0, fun _ => 0, fun _ => 0, fun _ => 0⟩ := ⟨_, rfl⟩
  obtain ⟨hp, ehp⟩ : ∃ hp : Addr → Option (O Ky), hp = put (put (put (put h0 dx (.idict [])) x (.inst cTS dx [])) dd (.dict [] 0)) dx (.idict (fieldsOf a0 SS0)) := ⟨_, rfl⟩
  obtain ⟨h1, eh1⟩ : ∃ h1 : Addr → Option (O Ky), h1 = put (put (put (fun _ => none) x (.inst cTS dx [])) dd (.dict [] 0)) dx (.idict (fieldsOf a0 SS0)) := ⟨_, rfl⟩
  refine m_weak (m' := names [("self", .ref x), ("graph", .ref dN)]) (h' := hp) (by exact Mine.Sub.of rfl) (by rw [ehp, ea0]; intro b o e; refine Eq.trans ?_ e; show put (put (put (put (put (put (put h0 dx _) x _) dd _) dx _) dx _) dx _) dx _ b = _; rw [put_put, put_put, put_put]; rfl) ?_
  have r1 : Rep a0 SS0 h1 := by
    rw [eh1, ea0]
    skip
    exact ⟨(put_other nxd).trans ((put_other (Ne.symm ndx)).trans put_same), put_same, ⟨0, (put_other ndd).trans put_same⟩, List.nodup_nil, nofun, nofun, nofun, nofun, nofun, nofun⟩
  have s0 : ∀ b o, h0 b = some o → hp b = some o := by rw [ehp]; exact sub_upd nd (sub_upd hd0 (sub_upd nx (sub_upd nd fun _ _ e => e)))
  have s1 : ∀ b o, h1 b = some o → hp b = some o := by
    rw [ehp, eh1]; exact put_mono (put_mono (put_mono fun _ _ e => by cases e))
  have dj : ∀ b, h0 b ≠ none → h1 b = none := by
    intro b hb
    rw [eh1, put_other (show b ≠ dx from fun e => hb (e ▸ nd)), put_other (show b ≠ dd from fun e => hb (e ▸ hd0)), put_other (show b ≠ x from fun e => hb (e ▸ nx))]
  have ex0 : a0.x = x := by rw [ea0]
  clear ehp eh1 ea0 hdd hx hdx
  refine m_abs fun Zq0 hZq0 => ?_
  refine m_cons ?_
  refine m_then (P := IE G x h0) ?_ ?_
  · refine m_ForItems (hs := by intro _; rfl) (hk := by rfl) (hlk := by rfl) (hlv := by rfl) (he := by rfl) (kv := kyV) ky_out (hh _) ?_
    have hG' := s0 _ _ hG
    refine m_Method (he := by rfl) ?_
    refine evR (EvP.nm (v := .ref _) (by rfl)) ?_
    refine m_methDict (by walk_at "hl") PySem.F.slot_dict_items PySem.F.type_dict_items ?_
    refine m_callB0 ?_
    refine m_dictItems Z.sys hG' fun vw hvw => ?_
    have hvw : hp vw = none := hvw
    skip
    refine ⟨dN, vw, _, ep, rfl, sub_put hvw hG', put_same, IJ G x h0,
      ⟨a0, h1, hp, ex0, r1, ⟨by exact Mine.Sub.of rfl, put_sub hvw⟩, s0, s1, dj⟩, ?_, ?_, ?_⟩
    · rintro i σ' ⟨a, h1, hp, _, _, hf, q0, _, _⟩; exact hf.2 _ _ (q0 _ _ hG)
    · rintro i k y σ' I ob hb hy ⟨a, h1, hp, ex, r, hf, q0, q1, qd⟩
      obtain ⟨g, hg, eg⟩ := map_get hy
      cases eg
      have hgl := hl g (List.mem_of_getElem? hg)
      refine m_weak (m' := names [("self", .ref x), ("node", kyV g.1), ("predecessors", .ref g.2.1)]) (h' := hp) ?_ hf.2 ?_
      · refine Sub.cons (hf.1 "self" _ rfl) (by exact Mine.Sub.of rfl)
      clear hf
      have hx := q1 _ _ r.hx
      have hdx := q1 _ _ r.hdx
      rw [ex] at hx
      unfold fieldsOf at hdx
      refine m_abs fun Zq1 hZq1 => ?_
      refine m_cons ?_
      refine m_Expr (hi := by rfl) (hs := by rfl) ?_
      refine m_MethodStar (he := by rfl) ?_
      refine evR (EvP.nm (v := .ref _) (by rfl)) ?_
      refine m_bound (hg := by k_is) (hh := by k_is) (ha := by k_is) (hf := by k_is) (hgf := by k_is) (ht := by k_is) (hc := by decide) (f := 131) (Here.X (by assumption)) (by walk_at "hl") (by walk_at "hl") (by rfl) fun qb hqb => ?_
      have hqb : hp qb = none := hqb
      refine m_callMstar (hf := by k_is) (he := by rfl) (hst := by rfl) (f := 131) (x := x) Z ?_
      refine m_splE (he := by rfl) ?_
      refine evS (EvP.nm (v := .str _) (by rfl)) fun _ => ?_
      refine m_splStar ?_
      refine evR (EvP.nm (v := .ref _) (by rfl)) ?_
      refine ⟨_, _, rfl, sub_put hqb (q0 _ _ hgl.1), by rw [List.length_map]; exact Nat.le_trans hgl.2 (by decide), fun vs hvs => ⟨put_same, ?_⟩⟩
      have h1q : h1 qb = none := none_sub q1 hqb
      obtain ⟨z1, z2, z3⟩ := addG_size (G.take i) SS0 0 (fun j hj => by cases hj) fun g' hg' => (hl g' (List.mem_of_mem_take hg')).2
      have hti : (G.take i).length ≤ 40 := Nat.le_trans (by rw [List.length_take]; omega) hGl
      have z1 : ((G.take i).foldl addG SS0).ord.length ≤ 11 * (G.take i).length := by simpa [SS0] using z1
      have hg10 := hgl.2
      refine mwp_mono (m_aside (h0 := put h1 qb (.bound 131 x)) (Q := fun v σ' => ∃ a', a'.x = x ∧ Rep a' ((G.take (i + 1)).foldl addG SS0) σ'.h ∧ σ'.m = names [("self", .ref x), ("node", kyV g.1), ("predecessors", .ref g.2.1)]) (put_mono q1) fun B' sub' => m_callBound put_same ?_) ?_
      · rw [← ex]
        refine c_add (k := g.1) (ps := g.2.2) (a := a) (S := (G.take i).foldl addG SS0) (r.fresh h1q) z3 (by omega) (fun j hj => by have := z2 j hj; omega) hvs Z (hA.deeper _) fun a' h' ea r' => ⟨a', ea, ?_, rfl⟩
        rw [take_snoc hg, List.foldl_append]; exact r'
      · rintro v σ' ⟨σ₁, ⟨a', ea, r', em⟩, em', k1, k2, k3⟩
        rw [em] at em'
        obtain ⟨m1, hp1⟩ := σ'
        cases em'
        refine m_nil ?_
        refine hZq1 _ _ ?_
        have hne : ∀ b, h0 b ≠ none → hp b ≠ none ∧ b ≠ qb := fun b hb => by
          cases z : h0 b with
          | none => exact absurd z hb
          | some o => have := q0 b o z; exact ⟨by rw [this]; exact nofun, ne_none this hqb⟩
        skip
        refine ⟨a', σ₁.h, hp1, ea, r', by exact ⟨by exact Mine.Sub.of rfl, fun _ _ e => e⟩, fun b o e => ?_, k1, fun b hb => ?_⟩
        · obtain ⟨_, nb⟩ := hne b (by rw [e]; exact nofun)
          exact k2 b o ((put_other nb).trans (q0 b o e)) ((put_other nb).trans (qd b (by rw [e]; exact nofun)))
        · obtain ⟨nh, nb⟩ := hne b hb
          exact k3 b (by show put hp qb _ b ≠ none; rw [put_other nb]; exact nh) ((put_other nb).trans (qd b hb))
    · rintro σ' ⟨a, h1, hp, ex, r, hf, q0, q1, qd⟩
      rw [List.length_map, List.take_length] at r
      skip
      exact ⟨rfl, a, h1, ex, r, fun b o e => hf.2 _ _ (q0 b o e), fun b o e => hf.2 _ _ (q1 b o e), qd⟩
  · rintro σ' ⟨a, h1, ex, r, q0, q1, qd⟩
    refine m_nil ?_
    refine hZq0 _ _ ?_
    refine m_nil ?_
    exact ⟨_, fun _ _ e => e, h a h1 _ ex r q0 q1 qd⟩
end
end Mine
end
section
open PySem PySem.W PyProof.Rows PySem.SeqAt
set_option maxHeartbeats 1000000
namespace Mine
structure En where
  k : Ky
  c : Nat
  nx : Addr
  it : Addr
structure Dfs (h0 : Addr → Option (O Ky)) (aL : Ky → Addr) (Ds Di De Dd : Addr) (ks : List Ky) (nxs : List Addr) (tp : List En) (seen : Ky → Bool) (n : Nat) (dl : List (Ky × V)) (hp : Addr → Option (O Ky)) : Prop where
  sub : ∀ b o, h0 b = some o → hp b = some o
  hs : hp Ds = some (.list (ks.map kyV))
  hi : hp Di = some (.list (nxs.map V.ref))
  he : hp De = some (.set seen n)
  hd : ∃ ep, hp Dd = some (.dict dl ep)
  its : ∀ e ∈ tp, hp e.nx = some (.nxt e.it) ∧ hp e.it = some (.liter (aL e.k) e.c) ∧ h0 e.it = none
  nit : (tp.map (·.it)).Nodup
  nSI : Ds ≠ Di
  n0 : h0 Ds = none ∧ h0 Di = none ∧ h0 De = none ∧ h0 Dd = none
section
variable {h0 hp : Addr → Option (O Ky)} {aL : Ky → Addr} {Ds Di De Dd X : Addr} {ks : List Ky} {nxs : List Addr} {tp : List En} {seen : Ky → Bool} {n : Nat} {dl : List (Ky × V)} {o : O Ky}
theorem Dfs.fresh (d : Dfs h0 aL Ds Di De Dd ks nxs tp seen n dl hp) (hX : hp X = none) : Dfs h0 aL Ds Di De Dd ks nxs tp seen n dl (put hp X o) :=
  ⟨fun b o e => sub_put hX (d.sub b o e), sub_put hX d.hs, sub_put hX d.hi, sub_put hX d.he, let ⟨ep, e⟩ := d.hd; ⟨ep, sub_put hX e⟩, fun e he => ⟨sub_put hX (d.its e he).1, sub_put hX (d.its e he).2.1, (d.its e he).2.2⟩, d.nit, d.nSI, d.n0⟩
theorem Dfs.setSeen (d : Dfs h0 aL Ds Di De Dd ks nxs tp seen n dl hp) {seen' : Ky → Bool} {n' : Nat} : Dfs h0 aL Ds Di De Dd ks nxs tp seen' n' dl (put hp De (.set seen' n')) :=
  ⟨sub_upd d.n0.2.2.1 d.sub, put_diff d.hs d.he (by intro q; cases q), put_diff d.hi d.he (by intro q; cases q), put_same, let ⟨ep, e⟩ := d.hd; ⟨ep, put_diff e d.he (by intro q; cases q)⟩,
    fun e he => ⟨put_diff (d.its e he).1 d.he (by intro q; cases q), put_diff (d.its e he).2.1 d.he (by intro q; cases q), (d.its e he).2.2⟩, d.nit, d.nSI, d.n0⟩
theorem Dfs.setD (d : Dfs h0 aL Ds Di De Dd ks nxs tp seen n dl hp) {dl' : List (Ky × V)} {ep : Nat} : Dfs h0 aL Ds Di De Dd ks nxs tp seen n dl' (put hp Dd (.dict dl' ep)) := by
  obtain ⟨ep0, e0⟩ := d.hd
  exact ⟨sub_upd d.n0.2.2.2 d.sub, put_diff d.hs e0 (by intro q; cases q), put_diff d.hi e0 (by intro q; cases q), put_diff d.he e0 (by intro q; cases q), ⟨ep, put_same⟩,
    fun e he => ⟨put_diff (d.its e he).1 e0 (by intro q; cases q), put_diff (d.its e he).2.1 e0 (by intro q; cases q), (d.its e he).2.2⟩, d.nit, d.nSI, d.n0⟩
theorem Dfs.setKs (d : Dfs h0 aL Ds Di De Dd ks nxs tp seen n dl hp) {ks' : List Ky} : Dfs h0 aL Ds Di De Dd ks' nxs tp seen n dl (put hp Ds (.list (ks'.map kyV))) :=
  ⟨sub_upd d.n0.1 d.sub, put_same, (put_other (Ne.symm d.nSI)).trans d.hi, put_diff d.he d.hs (by intro q; cases q), let ⟨ep, e⟩ := d.hd; ⟨ep, put_diff e d.hs (by intro q; cases q)⟩,
    fun e he => ⟨put_diff (d.its e he).1 d.hs (by intro q; cases q), put_diff (d.its e he).2.1 d.hs (by intro q; cases q), (d.its e he).2.2⟩, d.nit, d.nSI, d.n0⟩
theorem Dfs.setNxs (d : Dfs h0 aL Ds Di De Dd ks nxs tp seen n dl hp) {nxs' : List Addr} : Dfs h0 aL Ds Di De Dd ks nxs' tp seen n dl (put hp Di (.list (nxs'.map V.ref))) :=
  ⟨sub_upd d.n0.2.1 d.sub, (put_other d.nSI).trans d.hs, put_same, put_diff d.he d.hi (by intro q; cases q), let ⟨ep, e⟩ := d.hd; ⟨ep, put_diff e d.hi (by intro q; cases q)⟩,
    fun e he => ⟨put_diff (d.its e he).1 d.hi (by intro q; cases q), put_diff (d.its e he).2.1 d.hi (by intro q; cases q), (d.its e he).2.2⟩, d.nit, d.nSI, d.n0⟩
theorem Dfs.enter (d : Dfs h0 aL Ds Di De Dd ks nxs tp seen n dl hp) {k : Ky} {it nx : Addr} (h1 : hp it = none) (h2 : put hp it (.liter (aL k) 0) nx = none) :
    Dfs h0 aL Ds Di De Dd ks nxs (⟨k, 0, nx, it⟩ :: tp) seen n dl (put (put hp it (.liter (aL k) 0)) nx (.nxt it)) := by
  have d2 := (d.fresh (o := .liter (aL k) 0) h1).fresh (o := .nxt it) h2
  refine ⟨d2.sub, d2.hs, d2.hi, d2.he, d2.hd, fun e he => ?_, ?_, d.nSI, d.n0⟩
  · rcases List.mem_cons.mp he with rfl | he
    · exact ⟨put_same, sub_put h2 put_same, none_sub d.sub h1⟩
    · exact d2.its e he
  · rw [List.map_cons, List.nodup_cons]
    refine ⟨fun hm => ?_, d.nit⟩
    obtain ⟨e, he, q⟩ := List.mem_map.mp hm
    have q : e.it = it := q
    have := (d.its e he).2.1
    rw [q, h1] at this; cases this
theorem Dfs.step {e : En} (d : Dfs h0 aL Ds Di De Dd ks nxs (e :: tp) seen n dl hp) : Dfs h0 aL Ds Di De Dd ks nxs (⟨e.k, e.c + 1, e.nx, e.it⟩ :: tp) seen n dl (put hp e.it (.liter (aL e.k) (e.c + 1))) := by
  have ht := (d.its e List.mem_cons_self)
  refine ⟨sub_upd ht.2.2 d.sub, put_diff d.hs ht.2.1 (by intro q; cases q), put_diff d.hi ht.2.1 (by intro q; cases q), put_diff d.he ht.2.1 (by intro q; cases q), let ⟨ep, q⟩ := d.hd; ⟨ep, put_diff q ht.2.1 (by intro q; cases q)⟩, fun e' he => ?_, d.nit, d.nSI, d.n0⟩
  rcases List.mem_cons.mp he with rfl | he
  · exact ⟨put_diff ht.1 ht.2.1 (by intro q; cases q), put_same, ht.2.2⟩
  · obtain ⟨i1, i2, i3⟩ := d.its e' (List.mem_cons_of_mem _ he)
    refine ⟨put_diff i1 ht.2.1 (by intro q; cases q), (put_other fun q => ?_).trans i2, i3⟩
    have := d.nit
    rw [List.map_cons, List.nodup_cons] at this
    exact this.1 (List.mem_map.mpr ⟨e', he, q⟩)
theorem Dfs.drop {e : En} (d : Dfs h0 aL Ds Di De Dd ks nxs (e :: tp) seen n dl hp) : Dfs h0 aL Ds Di De Dd ks nxs tp seen n dl (fun b => if b = e.it then none else hp b) := by
  have ht := (d.its e List.mem_cons_self)
  have ne : ∀ {b o}, hp b = some o → o ≠ .liter (aL e.k) e.c → (if b = e.it then none else hp b) = some o := fun {b o} h1 h2 => by
    rw [if_neg (fun q => h2 (by rw [q, ht.2.1] at h1; exact (Option.some.inj h1).symm))]; exact h1
  refine ⟨fun b o q => ?_, ne d.hs (by intro q; cases q), ne d.hi (by intro q; cases q), ne d.he (by intro q; cases q), let ⟨ep, q⟩ := d.hd; ⟨ep, ne q (by intro q; cases q)⟩, fun e' he => ?_, (List.nodup_cons.mp d.nit).2, d.nSI, d.n0⟩
  · show (if b = e.it then none else hp b) = some o
    rw [if_neg (fun z => by rw [z, ht.2.2] at q; cases q)]; exact d.sub b o q
  · obtain ⟨i1, i2, i3⟩ := d.its e' (List.mem_cons_of_mem _ he)
    refine ⟨ne i1 (by intro q; cases q), ?_, i3⟩
    rw [if_neg fun q => (List.nodup_cons.mp d.nit).1 (List.mem_map.mpr ⟨e', he, q⟩)]; exact i2
end

noncomputable def GoodFrom (su : Ky → List Ky) (fin : List Ky) (x : Ky) : List En → Prop
  | [] => True
  | e :: r => (1 ≤ e.c ∧ (su e.k)[e.c - 1]? = some x ∧ ∀ j s, j < e.c - 1 → (su e.k)[j]? = some s → s ∈ fin) ∧ GoodFrom su fin e.k r
noncomputable def Topo (su : Ky → List Ky) (fin : List Ky) : Prop := ∃ rk : Ky → Nat, (∀ k ∈ fin, rk k < fin.length) ∧ ∀ k ∈ fin, ∀ s ∈ su k, s ∈ fin ∧ rk s < rk k
theorem GoodFrom.mono {su : Ky → List Ky} {fin fin' : List Ky} (h : ∀ k ∈ fin, k ∈ fin') : ∀ {x : Ky} {tp : List En}, GoodFrom su fin x tp → GoodFrom su fin' x tp
  | _, [], _ => trivial
  | _, e :: r, ⟨⟨h1, h2, h3⟩, h4⟩ => ⟨⟨h1, h2, fun j s hj hs => h s (h3 j s hj hs)⟩, h4.mono h⟩
theorem Topo.snoc {su : Ky → List Ky} {fin : List Ky} {k : Ky} (t : Topo su fin) (hk : ∀ s ∈ su k, s ∈ fin) (hn : k ∉ fin) : Topo su (fin ++ [k]) := by
  obtain ⟨rk, h1, h2⟩ := t
  refine ⟨fun j => if j = k then fin.length else rk j, fun j hj => ?_, fun j hj s hs => ?_⟩
  · rw [List.length_append, List.length_singleton]
    show (if j = k then _ else _) < _
    split
    · lia
    · rename_i q
      rcases List.mem_append.mp hj with hj | hj
      · have := h1 j hj; lia
      · exact absurd (List.mem_singleton.mp hj) q
  · show s ∈ fin ++ [k] ∧ (if s = k then _ else _) < (if j = k then _ else _)
    rcases List.mem_append.mp hj with hj | hj
    · obtain ⟨a1, a2⟩ := h2 j hj s hs
      have e1 : s ≠ k := fun q => hn (q ▸ a1)
      have e2 : j ≠ k := fun q => hn (q ▸ hj)
      rw [if_neg e1, if_neg e2]
      exact ⟨List.mem_append_left _ a1, a2⟩
    · have ej := List.mem_singleton.mp hj
      subst ej
      have hs' := hk s hs
      have e1 : s ≠ j := fun q => hn (q ▸ hs')
      rw [if_neg e1, if_pos rfl]
      exact ⟨List.mem_append_left _ hs', h1 s hs'⟩
noncomputable def unsum (ord : List Ky) (seen : Ky → Bool) (f : Ky → Nat) : Nat := ((ord.filter fun k => !seen k).map f).sum
theorem unsum_see {seen : Ky → Bool} {f : Ky → Nat} {k : Ky} (hs : seen k = false) : ∀ {ord : List Ky}, ord.Nodup → k ∈ ord → unsum ord seen f = unsum ord (fun j => seen j || decide (j = k)) f + f k
  | [], _, h => by cases h
  | j :: r, nd, h => by
    have nd' := List.nodup_cons.mp nd
    unfold unsum
    rw [List.filter_cons, List.filter_cons]
    by_cases e : j = k
    · subst e
      have e2 : r.filter (fun k => !(seen k || decide (k = j))) = r.filter fun k => !seen k := by
        refine List.filter_congr fun x hx => ?_
        have : x ≠ j := fun q => nd'.1 (q ▸ hx)
        simp [this]
      rw [if_pos (by simp [hs]), if_neg (by simp), e2, List.map_cons, List.sum_cons]; lia
    · have hk : k ∈ r := by rcases List.mem_cons.mp h with q | q; exact absurd q.symm e; exact q
      have ih := unsum_see (f := f) hs nd'.2 hk
      unfold unsum at ih
      cases z : seen j with
      | true => rw [if_neg (by simp [z]), if_neg (by simp [z])]; exact ih
      | false =>
        rw [if_pos (by simp [z]), if_pos (by simp [e, z]), List.map_cons, List.map_cons, List.sum_cons, List.sum_cons, ih]; lia
noncomputable def stsum (su : Ky → List Ky) (tp : List En) : Nat := (tp.map fun e => (su e.k).length - e.c + 1).sum
end Mine
end
section
open PySem PySem.W PyProof.Rows PySem.SeqAt
set_option maxHeartbeats 1000000
namespace Mine
theorem dGet_nil {k : Ky} : dGet ([] : List (Ky × V)) k = none := rfl
theorem dGet_cons {j k : Ky} {v : V} {dl : List (Ky × V)} : dGet ((j, v) :: dl) k = if j = k then some v else dGet dl k := by
  unfold dGet; rw [List.find?_cons]
  by_cases e : j = k
  · simp [e]
  · simp [e]
theorem dGet_app {k j : Ky} {v : V} : ∀ {dl : List (Ky × V)}, dGet (dl ++ [(k, v)]) j = if (dGet dl j).isSome then dGet dl j else if k = j then some v else none
  | [] => by rw [List.nil_append, dGet_cons, dGet_nil]; simp
  | (a, b) :: r => by
    rw [List.cons_append, dGet_cons, dGet_cons]
    by_cases e : a = j
    · simp [e]
    · rw [if_neg e, if_neg e]; exact dGet_app
theorem dGet_any {k : Ky} : ∀ {dl : List (Ky × V)}, dl.any (fun kv => kv.1 = k) = (dGet dl k).isSome
  | [] => rfl
  | (a, b) :: r => by
    rw [List.any_cons, dGet_cons, dGet_any]
    by_cases e : a = k
    · simp [e]
    · simp [e]
theorem dPut_new' {k : Ky} {v : V} {dl : List (Ky × V)} (h : dGet dl k = none) : dPut dl k v = dl ++ [(k, v)] := by
  unfold dPut
  rw [if_neg]
  rw [dGet_any, h]; exact Bool.false_ne_true
theorem dGet_filter {k j : Ky} : ∀ {dl : List (Ky × V)}, dGet (dl.filter fun kv => decide (kv.1 ≠ k)) j = if j = k then none else dGet dl j
  | [] => by rw [List.filter_nil, dGet_nil]; split <;> rfl
  | (a, b) :: r => by
    rw [List.filter_cons]
    by_cases e : a = k
    · subst e
      rw [if_neg (by simp), dGet_filter, dGet_cons]
      by_cases q : j = a
      · rw [if_pos q, if_pos q]
      · rw [if_neg q, if_neg q, if_neg (Ne.symm q)]
    · rw [if_pos (by simpa using e), dGet_cons, dGet_cons, dGet_filter]
      by_cases q : j = k
      · subst q; rw [if_pos rfl, if_neg e, if_pos rfl]
      · rw [if_neg q, if_neg q]
theorem unsum_none {ord : List Ky} : 0 + unsum ord (fun _ => false) (fun _ => 1) = ord.length := by
  unfold unsum
  induction ord with
  | nil => rfl
  | cons a r ih => rw [List.filter_cons, if_pos (by rfl), List.map_cons, List.sum_cons, List.length_cons]; lia
structure Log (S : SS) (tp : List En) (fin : List Ky) (seen : Ky → Bool) (n : Nat) (dl : List (Ky × V)) : Prop where
  sn : ∀ k, seen k = true ↔ (k ∈ fin ∨ k ∈ tp.map (·.k))
  topo : Topo S.su fin
  nk : (tp.map (·.k)).Nodup
  dj : ∀ k ∈ fin, k ∉ tp.map (·.k)
  ino : ∀ e ∈ tp, e.k ∈ S.ord
  cnt : n + unsum S.ord seen (fun _ => 1) = S.ord.length
  d1 : ∀ k, (dGet dl k).isSome = true → k ∈ tp.map (·.k)
  d2 : ∀ (j : Nat) (e : En), tp[j]? = some e → dGet dl e.k = some (.int (((tp.length - 1 - j : Nat)) : Int))
  d3 : dl.length ≤ n
  tl : tp.length ≤ n
section
variable {S : SS} {tp : List En} {fin : List Ky} {seen : Ky → Bool} {n : Nat} {dl : List (Ky × V)} {e : En}
theorem Log.le (g : Log S tp fin seen n dl) : n ≤ S.ord.length := by have := g.cnt; lia
theorem Log.start : Log S [] [] (fun _ => false) 0 [] :=
  ⟨fun k => by simp, ⟨fun _ => 0, fun k hk => (by cases hk), fun k hk => (by cases hk)⟩, List.nodup_nil, fun k hk => (by cases hk), fun e he => (by cases he), unsum_none, fun k h => (by cases h), fun j e h => by simp at h, by simp, by simp⟩
theorem Log.step (g : Log S (e :: tp) fin seen n dl) {c nx it} : Log S (⟨e.k, c, nx, it⟩ :: tp) fin seen n dl :=
  ⟨g.sn, g.topo, g.nk, g.dj, fun e' he => by
    rcases List.mem_cons.mp he with rfl | he
    · exact g.ino e List.mem_cons_self
    · exact g.ino e' (List.mem_cons_of_mem _ he), g.cnt, g.d1, fun j e' h => by
    cases j with
    | zero => simp at h; subst h; exact g.d2 0 e rfl
    | succ j => exact g.d2 (j + 1) e' (by simpa using h), g.d3, g.tl⟩
theorem Log.push (g : Log S tp fin seen n dl) (nd : S.ord.Nodup) {k : Ky} (hk : k ∈ S.ord) (hs : seen k = false) {nx it : Addr} :
    Log S (⟨k, 0, nx, it⟩ :: tp) fin (fun j => seen j || decide (j = k)) (n + 1) (dPut dl k (.int (tp.length : Nat))) := by
  have hn : k ∉ fin ∧ k ∉ tp.map (·.k) := by
    constructor
    · intro q; have := (g.sn k).mpr (.inl q); rw [hs] at this; cases this
    · intro q; have := (g.sn k).mpr (.inr q); rw [hs] at this; cases this
  have hd : dGet dl k = none := by
    cases z : dGet dl k with
    | none => rfl
    | some v => exact absurd (g.d1 k (by rw [z]; rfl)) hn.2
  rw [dPut_new' hd]
  refine ⟨fun j => ?_, g.topo, ?_, fun j hj => ?_, fun e he => ?_, ?_, fun j hj => ?_, fun j e he => ?_, by rw [List.length_append]; have := g.d3; simp; exact this, by have := g.tl; simp; exact this⟩
  · rw [Bool.or_eq_true, g.sn j, decide_eq_true_eq, List.map_cons, List.mem_cons]
    constructor
    · rintro ((h | h) | h)
      · exact .inl h
      · exact .inr (.inr h)
      · exact .inr (.inl h)
    · rintro (h | h | h)
      · exact .inl (.inl h)
      · exact .inr h
      · exact .inl (.inr h)
  · rw [List.map_cons, List.nodup_cons]; exact ⟨hn.2, g.nk⟩
  · rw [List.map_cons, List.mem_cons]
    rintro (h | h)
    · exact hn.1 ((show j = k from h) ▸ hj)
    · exact g.dj j hj h
  · rcases List.mem_cons.mp he with rfl | he
    · exact hk
    · exact g.ino e he
  · have := unsum_see (f := fun _ => 1) hs nd hk
    have := g.cnt
    lia
  · rw [dGet_app] at hj
    rw [List.map_cons, List.mem_cons]
    by_cases q : j = k
    · exact .inl q
    · refine .inr (g.d1 j ?_)
      cases z : dGet dl j with
      | none => rw [z, if_neg (by simp), if_neg (Ne.symm q)] at hj; cases hj
      | some v => rfl
  · rw [dGet_app]
    cases j with
    | zero =>
      simp at he
      subst he
      rw [hd, if_neg (by simp), if_pos rfl]; simp
    | succ j =>
      have he : tp[j]? = some e := by simpa using he
      have := g.d2 j e he
      rw [this, if_pos (by rfl), List.length_cons]
      have hl := (List.getElem?_eq_some_iff.mp he).1
      congr 2
      lia
theorem Log.pop (g : Log S (e :: tp) fin seen n dl) (h : ∀ s ∈ S.su e.k, s ∈ fin) : Log S tp (fin ++ [e.k]) seen n (dl.filter fun kv => decide (kv.1 ≠ e.k)) := by
  have nk := List.nodup_cons.mp g.nk
  have hf : e.k ∉ fin := fun q => g.dj _ q (by rw [List.map_cons]; exact List.mem_cons_self)
  refine ⟨fun k => ?_, g.topo.snoc h hf, nk.2, fun k hk hm => ?_, fun e' he => g.ino e' (List.mem_cons_of_mem _ he), g.cnt, fun k hk => ?_, fun j e' he => ?_, Nat.le_trans (List.length_filter_le _ _) g.d3, by have := g.tl; rw [List.length_cons] at this; lia⟩
  · rw [g.sn k, List.map_cons, List.mem_cons, List.mem_append, List.mem_singleton]
    constructor
    · rintro (q | q | q)
      · exact .inl (.inl q)
      · exact .inl (.inr q)
      · exact .inr q
    · rintro ((q | q) | q)
      · exact .inl q
      · exact .inr (.inl q)
      · exact .inr (.inr q)
  · rcases List.mem_append.mp hk with hk | hk
    · exact g.dj k hk (by rw [List.map_cons]; exact List.mem_cons_of_mem _ hm)
    · rw [List.mem_singleton.mp hk] at hm; exact nk.1 hm
  · rw [dGet_filter] at hk
    by_cases q : k = e.k
    · rw [if_pos q] at hk; cases hk
    · rw [if_neg q] at hk
      have := g.d1 k hk
      rw [List.map_cons, List.mem_cons] at this
      exact this.resolve_left q
  · have hm : e'.k ∈ tp.map (·.k) := List.mem_map.mpr ⟨e', List.mem_of_getElem? he, rfl⟩
    rw [dGet_filter, if_neg (show ¬ e'.k = e.k from fun q => nk.1 (by show e.k ∈ _; rw [← q]; exact hm))]
    have := g.d2 (j + 1) e' (by simpa using he)
    rw [this, List.length_cons]
    congr 2
    lia
end
end Mine
end
section
open PySem PySem.W PyProof.Rows PySem.SeqAt
set_option maxHeartbeats 1000000
namespace Mine
noncomputable def Acyc (S : SS) : Prop := ∃ rk : Ky → Nat, ∀ k ∈ S.ord, ∀ s ∈ S.su k, rk s < rk k
noncomputable def InGood (su : Ky → List Ky) (fin : List Ky) : List En → Prop
  | [] => True
  | e :: r => (∀ j s, j < e.c → (su e.k)[j]? = some s → s ∈ fin) ∧ GoodFrom su fin e.k r
noncomputable def nxsOf (tp : List En) : List Addr := (tp.map (·.nx)).reverse
noncomputable def ksOf (tp : List En) : List Ky := (tp.map (·.k)).reverse
noncomputable def mu (S : SS) (seen : Ky → Bool) (tp : List En) : Nat := unsum S.ord seen (fun k => (S.su k).length + 2) + stsum S.su tp
inductive CyR (S : SS) (h0 : Addr → Option (O Ky)) (v : Value) (σ' : MS Ky) : Prop
  | mk (D : Addr) (xs : List V) (e : v = .ref D) (h1 : ¬ Acyc S) (h2 : xs ≠ []) (h3 : xs.length ≤ 2000) (h4 : h0 D = none) (h5 : ∀ b o, h0 b = some o → σ'.h b = some o) (h6 : σ'.h D = some (.list xs))
inductive CyFor (S : SS) (a : Ad) (h0 : Addr → Option (O Ky)) (Ds Di De Dd : Addr) (i : Nat) (σ' : MS Ky) : Prop
  | mk (hp : Addr → Option (O Ky)) (fin : List Ky) (seen : Ky → Bool) (n : Nat) (dl : List (Ky × V)) (hf : Fit σ' (names [("n2i", .ref a.dd), ("stack", .ref Ds), ("itstack", .ref Di), ("seen", .ref De), ("node2stacki", .ref Dd)]) hp) (d : Dfs h0 a.aL Ds Di De Dd [] [] [] seen n dl hp) (g : Log S [] fin seen n dl) (se : ∀ k ∈ S.ord.take i, seen k = true)
inductive CyP1 (S : SS) (a : Ad) (h0 : Addr → Option (O Ky)) (Ds Di De Dd : Addr) (seen : Ky → Bool) (k : Ky) (σ' : MS Ky) : Prop
  | mk (hp : Addr → Option (O Ky)) (fin : List Ky) (seen' : Ky → Bool) (n : Nat) (dl : List (Ky × V)) (hf : Fit σ' (names [("n2i", .ref a.dd), ("stack", .ref Ds), ("itstack", .ref Di), ("seen", .ref De), ("node2stacki", .ref Dd)]) hp) (d : Dfs h0 a.aL Ds Di De Dd [] [] [] seen' n dl hp) (g : Log S [] fin seen' n dl) (hs : ∀ j, seen j = true → seen' j = true) (hk : seen' k = true)
inductive CyW1 (S : SS) (a : Ad) (h0 : Addr → Option (O Ky)) (Ds Di De Dd : Addr) (seen : Ky → Bool) (k : Ky) (m : Nat) (σ' : MS Ky) : Prop
  | mk (hp : Addr → Option (O Ky)) (tp : List En) (fin : List Ky) (seen' : Ky → Bool) (n : Nat) (dl : List (Ky × V)) (x : Ky) (hf : Fit σ' (names [("n2i", .ref a.dd), ("stack", .ref Ds), ("itstack", .ref Di), ("seen", .ref De), ("node2stacki", .ref Dd), ("node", kyV x)]) hp) (d : Dfs h0 a.aL Ds Di De Dd ((tp.map (·.k)).reverse) ((tp.map (·.nx)).reverse) tp seen' n dl hp) (g : Log S tp fin seen' n dl) (gf : GoodFrom S.su fin x tp) (hxo : x ∈ S.ord)
    (hs : ∀ j, seen j = true → seen' j = true) (t0 : tp = [] → seen' x = false ∧ x = k) (t1 : tp ≠ [] → seen' k = true) (hm : m = mu S seen' tp)
inductive CyP2 (S : SS) (a : Ad) (h0 : Addr → Option (O Ky)) (Ds Di De Dd : Addr) (seen : Ky → Bool) (k : Ky) (m0 : Nat) (σ' : MS Ky) : Prop
  | mk (hp : Addr → Option (O Ky)) (tp' : List En) (fin : List Ky) (seen'' : Ky → Bool) (n : Nat) (dl : List (Ky × V)) (hf : Fit σ' (names [("n2i", .ref a.dd), ("stack", .ref Ds), ("itstack", .ref Di), ("seen", .ref De), ("node2stacki", .ref Dd)]) hp) (d : Dfs h0 a.aL Ds Di De Dd ((tp'.map (·.k)).reverse) ((tp'.map (·.nx)).reverse) tp' seen'' n dl hp) (g : Log S tp' fin seen'' n dl) (ig : InGood S.su fin tp')
    (hs : ∀ j, seen j = true → seen'' j = true) (hk : seen'' k = true) (hm : mu S seen'' tp' ≤ m0)
inductive CyW2 (S : SS) (a : Ad) (h0 : Addr → Option (O Ky)) (Ds Di De Dd : Addr) (seen : Ky → Bool) (k : Ky) (m0 : Nat) (m : Nat) (σ' : MS Ky) : Prop
  | mk (hp : Addr → Option (O Ky)) (tp' : List En) (fin : List Ky) (seen'' : Ky → Bool) (n : Nat) (dl : List (Ky × V)) (hf : Fit σ' (names [("n2i", .ref a.dd), ("stack", .ref Ds), ("itstack", .ref Di), ("seen", .ref De), ("node2stacki", .ref Dd)]) hp) (d : Dfs h0 a.aL Ds Di De Dd (ksOf tp') (nxsOf tp') tp' seen'' n dl hp) (g : Log S tp' fin seen'' n dl) (ig : InGood S.su fin tp')
    (hs : ∀ j, seen j = true → seen'' j = true) (hk : seen'' k = true) (hm : mu S seen'' tp' ≤ m0) (hm' : m = mu S seen'' tp')
theorem GoodFrom.rank' {su : Ky → List Ky} {fin ord : List Ky} {rk : Ky → Nat} (hr : ∀ k ∈ ord, ∀ s ∈ su k, rk s < rk k) : ∀ {x : Ky} {tp : List En}, (∀ e ∈ tp, e.k ∈ ord) → GoodFrom su fin x tp → ∀ e ∈ tp, rk x < rk e.k
  | _, [], _, _, e, he => by cases he
  | x, e :: r, hin, ⟨⟨h1, h2, h3⟩, h4⟩, e', he => by
    have h5 := hr e.k (hin e List.mem_cons_self) x (List.mem_of_getElem? h2)
    rcases List.mem_cons.mp he with rfl | he
    · exact h5
    · exact Nat.lt_trans h5 (h4.rank' hr (fun e he => hin e (List.mem_cons_of_mem _ he)) e' he)
section
variable {prog : Program} {w : World} {Γ : Fx} {σ : MS Ky} {A : Around} {env : Env} {α : Type} {s : Shared} {Q : Value → MS Ky → Prop} {QB : Bool → MS Ky → Prop} {QU : Unit → MS Ky → Prop} {QF : Flow → MS Ky → Prop}
variable {p : Program} {loose : List Str} {mg mb : Str → Option Value} {t u v : Tok} {n : Nat} {l : Addr} {a : Ad} {S : SS} {k : Ky}
theorem m_notSys {α : Type} {c : Sem α} {Q : α → MS Ky → Prop} {d : Addr} {o : O Ky} (hs : ∃ o, Γ.base.get? sysModules = some o) (hd : σ.h d = some o) (h : (d == sysModules) = false → mwp (kyK prog w) Γ A c Q σ) : mwp (kyK prog w) Γ A c Q σ := by
  unfold mwp at *
  exact fun s E R => h (notSys R hs hd) s E R
theorem m_then' {c : Sem Flow} {P : MS Ky → Prop} {R : Value → MS Ky → Prop} (h : mwp (kyK prog w) Γ A c (fun fl σ' => (fl = .next ∧ P σ') ∨ ∃ v, fl = .ret v ∧ R v σ') σ) (k : ∀ σ', P σ' → QF .next σ') (k2 : ∀ v σ', R v σ' → QF (.ret v) σ') : mwp (kyK prog w) Γ A c QF σ :=
  mwp_mono h fun fl σ' z => by
    rcases z with ⟨rfl, z⟩ | ⟨v, rfl, z⟩
    · exact k σ' z
    · exact k2 v σ' z
theorem c_find_cycle (r : Rep a S σ.h) (hcl : ∀ k ∈ S.ord, ∀ s ∈ S.su k, s ∈ S.ord) (hsz : S.ord.length ≤ 1000) (F : Fits Γ A) (Z : Here (Mine.hd1.heap_1 w.params) p loose mg mb Γ.base) (hA : Dp A (n + 1))
    (h1 : Acyc S → Q .none σ) (h2 : ¬ Acyc S → ∀ D xs, xs ≠ [] → xs.length ≤ 2000 → σ.h D = none → Q (.ref D) (σ.set D (.list xs))) : mcode (kyK prog w) Γ A (.call (.ref 171) ⟨[.ref a.x], []⟩) Q σ := by
  refine c_fun (ho := by k_is) (hb := by rfl) (hcd := by k_is) (hlk := by decide) (hco := by rfl) (hgen := by rfl) (hk := by rfl) (hcell := by decide) ["self"] [.ref a.x] Z hA (.cons rfl .nil) ?_
  intro L'
  have hh : ∀ e, (A.deeper e).handled = none := fun e => hA.hd
  obtain ⟨outer, hfr, _⟩ := id F
  have hx := r.hx
  have hdx := r.hdx
  obtain ⟨ep, hdd⟩ := r.hdd
  unfold fieldsOf at hdx
  refine m_notSys (d := a.dd) Z.sys hdd fun hsys => ?_
  refine m_cons ?_
  refine m_AssignName (hs := by rfl) ?_
  refine m_Attr (he := by with_unfolding_all rfl) ?_
  refine evR (EvP.nm (v := .ref _) (by rfl)) ?_
  first | refine m_attrR (hg := by k_is) (hh := by k_is) (ha := by k_is) (hn := by k_is) (Here.X (by assumption)) (by walk_at "hl") (by walk_at "hl") (by rfl) ?_ | refine m_attrI (hg := by k_is) (hh := by k_is) (ha := by k_is) (hn := by k_is) (Here.X (by assumption)) (by walk_at "hl") (by walk_at "hl") (by rfl) fun _ => ?_ | refine m_attrN (hg := by k_is) (hh := by k_is) (ha := by k_is) (hn := by k_is) (Here.X (by assumption)) (by walk_at "hl") (by walk_at "hl") (by rfl) ?_
  refine m_str' (hk := by rfl) (hl := by rfl) (he := by rfl) ?_
  refine m_cons ?_
  refine m_AssignName (hs := by rfl) ?_
  refine m_List ?_
  refine m_splE0 ?_
  refine m_newList .nil (by decide) fun Ds hDs => ?_
  have hDs : σ.h Ds = none := hDs
  refine m_str' (hk := by rfl) (hl := by rfl) (he := by rfl) ?_
  refine m_cons ?_
  refine m_AssignName (hs := by rfl) ?_
  refine m_List ?_
  refine m_splE0 ?_
  refine m_newList .nil (by decide) fun Di hDi => ?_
  have hDi : put σ.h Ds (.list []) Di = none := hDi
  refine m_str' (hk := by rfl) (hl := by rfl) (he := by rfl) ?_
  refine m_cons ?_
  refine m_AssignName (hs := by rfl) ?_
  refine m_Call (he := by rfl) ?_
  refine m_Name (hd := by decide) ?_
  first | refine m_gK (e := by k_is) (hk := by rfl) (hl := by rfl) (he := by rfl) (by assumption) ?_ | refine m_gB (e := by k_is) (hv := by rfl) (hn := by decide) (hk := by rfl) (hl := by rfl) (he := by rfl) (hf := by rfl) (by assumption) ?_
  refine m_callT0 ?_
  refine m_setNew fun De hDe => ?_
  have hDe : put (put σ.h Ds (.list [])) Di (.list []) De = none := hDe
  refine m_str' (hk := by rfl) (hl := by rfl) (he := by rfl) ?_
  refine m_cons ?_
  refine m_AssignName (hs := by rfl) ?_
  refine m_dict0 fun Dd hDd => ?_
  have hDd : put (put (put σ.h Ds (.list [])) Di (.list [])) De (.set (fun _ => false) 0) Dd = none := hDd
  refine m_str' (hk := by rfl) (hl := by rfl) (he := by rfl) ?_
  refine m_cons ?_
  have d0 : Dfs σ.h a.aL Ds Di De Dd [] [] [] (fun _ => false) 0 [] (put (put (put (put σ.h Ds (.list [])) Di (.list [])) De (.set (fun _ => false) 0)) Dd (.dict [] 0)) :=
    ⟨fun b o e => sub_put hDd (sub_put hDe (sub_put hDi (sub_put hDs e))), sub_put hDd (sub_put hDe (sub_put hDi put_same)), sub_put hDd (sub_put hDe put_same), sub_put hDd put_same, ⟨0, put_same⟩, fun e he => (by cases he), List.nodup_nil, (ne_put hDi).symm,
      hDs, none_put hDi, none_put (none_put hDe), none_put (none_put (none_put hDd))⟩
  refine m_weak (m' := names [("n2i", .ref a.dd), ("stack", .ref Ds), ("itstack", .ref Di), ("seen", .ref De), ("node2stacki", .ref Dd)]) (h' := put (put (put (put σ.h Ds (.list [])) Di (.list [])) De (.set (fun _ => false) 0)) Dd (.dict [] 0)) (by exact Mine.Sub.of rfl) (fun _ _ e => e) ?_
  revert d0
  generalize put (put (put (put σ.h Ds (.list [])) Di (.list [])) De (.set (fun _ => false) 0)) Dd (.dict [] 0) = hp0
  intro d0
  clear hDs hDi hDe hDd
  refine m_For (hs := by intro _; rfl) (hk := by rfl) (hl := by rfl) (he := by rfl) ?_
  refine evR (EvP.nm (v := .ref _) (by rfl)) ?_
  refine ⟨_, _, _, yields_keys (hh _) ky_out hsys (kvs := S.ord.map fun k => (k, V.ref (a.aN k))) (ep := ep), CyFor S a σ.h Ds Di De Dd, ⟨hp0, [], _, 0, [], by exact ⟨by exact Mine.Sub.of rfl, fun _ _ e => e⟩, d0, Log.start, fun k hk => by simp at hk⟩, ?_, ?_, ?_⟩
  · rintro i σ' ⟨hp, fin, seen, n', dl, hf, d, g, _⟩; exact hf.2 _ _ (d.sub _ _ hdd)
  · rintro i y σ' I ob hb hy ⟨hp, fin, seen, n', dl, hf, d, g, hse⟩
    rw [List.map_map] at hy
    obtain ⟨k, hk, ey⟩ := map_get hy
    have ey : y = kyV k := ey
    subst ey
    have hko := List.mem_of_getElem? hk
    refine m_fitS hf ?_
    have he := d.he
    refine m_abs fun Zq0 hZq0 => ?_
    refine m_cons ?_
    refine m_If ?_
    refine m_isCompare (hm := by with_unfolding_all rfl) ?_
    refine evS (EvP.nm (v := .str _) (by rfl)) fun _ => ?_
    refine evR (EvP.nm (v := .ref _) (by rfl)) ?_
    refine m_setIn he ky_is rfl ?_
    refine m_trBool ?_
    refine ite_of (fun e => ?_) fun e => ?_
    · refine m_abs fun Zq1 hZq1 => ?_
      refine m_cons ?_
      refine m_Continue ?_
      refine hZq1 _ _ ?_
      refine hZq0 _ _ ?_
      skip
      refine ⟨hp, fin, seen, n', dl, by exact ⟨by exact Mine.Sub.of rfl, fun _ _ e => e⟩, d, g, fun j hj => ?_⟩
      rw [take_snoc hk] at hj
      rcases List.mem_append.mp hj with hj | hj
      · exact hse j hj
      · rw [List.mem_singleton.mp hj]; exact e
    have hns : seen k = false := Bool.eq_false_iff.mpr e
    refine m_nil ?_
    refine m_cons ?_
    refine m_then' (P := CyP1 S a σ.h Ds Di De Dd seen k) (R := CyR S σ.h) ?_ ?_ ?_
    · refine m_While (I := CyW1 S a σ.h Ds Di De Dd seen k) (n := mu S seen []) ⟨hp, [], fin, seen, n', dl, k, by exact ⟨by exact Mine.Sub.of rfl, fun _ _ e => e⟩, d, g, trivial, hko, fun _ e => e, fun _ => ⟨hns, rfl⟩, fun e => absurd rfl e, rfl⟩ ?_
      rintro m σ' ⟨hp, tp, fin, seen', n', dl, x, hf, d, g, gf, hxo, hse', ht0, ht1, rfl⟩
      refine m_fit hf ?_
      have he := d.he
      obtain ⟨epd, hd⟩ := d.hd
      refine m_abs fun Zq1 hZq1 => ?_
      refine m_isValue (he := by rfl) ?_
      refine evB EvP.bool ?_
      refine m_trBool ?_
      refine hZq1 _ _ ?_
      skip
      refine itrue rfl ?_
      refine m_cons ?_
      refine m_then' (P := CyP2 S a σ.h Ds Di De Dd seen k (mu S seen' tp))
        (R := CyR S σ.h) ?_ ?_ (fun v σ' z => .inr ⟨v, rfl, z⟩)
      · refine m_If ?_
        refine m_abs fun Zq2 hZq2 => ?_
        refine m_isCompare (hm := by with_unfolding_all rfl) ?_
        refine evS (EvP.nm (v := .str _) (by rfl)) fun _ => ?_
        refine evR (EvP.nm (v := .ref _) (by rfl)) ?_
        refine m_setIn he ky_is rfl ?_
        refine m_trBool ?_
        refine hZq2 _ _ ?_
        refine ite_of (fun e => ?_) fun e => ?_
        · refine m_abs fun Zq3 hZq3 => ?_
          refine m_cons ?_
          refine m_If ?_
          refine m_isCompare (hm := by with_unfolding_all rfl) ?_
          refine evS (EvP.nm (v := .str _) (by rfl)) fun _ => ?_
          refine evR (EvP.nm (v := .ref _) (by rfl)) ?_
          refine m_dictIn Z.sys hd ky_is ?_
          refine m_trBool ?_
          have htp : tp ≠ [] := fun q => by have := (ht0 q).1; rw [e] at this; cases this
          refine ite_of (fun e2 => ?_) fun e2 => ?_
          · have hm := g.d1 x e2
            obtain ⟨ee, hee, eq⟩ := List.mem_map.mp hm
            have eq : ee.k = x := eq
            obtain ⟨jj, hjj⟩ := List.mem_iff_getElem?.mp hee
            have hv := g.d2 jj ee hjj
            rw [eq] at hv
            have hac : ¬ Acyc S := fun ⟨rk, hr⟩ => by
              have := gf.rank' hr g.ino ee hee
              rw [eq] at this; exact Nat.lt_irrefl _ this
            have hs := d.hs
            have htl := g.tl
            have hnl := g.le
            refine m_abs fun Zq4 hZq4 => ?_
            refine m_cons ?_
            refine m_Return ?_
            refine m_BinOp ?_
            refine m_SubSlice ?_
            refine evR (EvP.nm (v := .ref _) (by rfl)) ?_
            refine m_part ?_
            refine m_Sub ?_
            refine evR (EvP.nm (v := .ref _) (by rfl)) ?_
            refine evS (EvP.nm (v := .str _) (by rfl)) fun _ => ?_
            refine m_tailDict (hs := by with_unfolding_all rfl) hd (m_dictGetItem hd ky_is hv fun v' hv' => ?_)
            obtain ⟨tv, rfl⟩ := hv'
            refine m_part0 ?_
            refine .inr ⟨Ds, _, rfl, hs, ?_, .inr ⟨_, _, rfl, rfl, fun D1 hD1 => ?_⟩⟩
            · rw [List.length_map, List.length_reverse, List.length_map]; exact Nat.le_trans (show tp.length ≤ 1000 by lia) (by decide)
            refine m_List ?_
            refine m_splE (he := by rfl) ?_
            refine evS (EvP.nm (v := .str _) (by rfl)) fun _ => ?_
            refine m_splE0 ?_
            refine m_newList (xs := [kyV x]) (.cons ⟨_, rfl⟩ .nil) (by show 1 ≤ sizeLine; decide) fun D2 hD2 => ?_
            have hD1 : hp D1 = none := hD1
            have hD2 : put hp D1 _ D2 = none := hD2
            skip
            refine m_addLists (l := D1) (l' := D2) (sub_put hD2 put_same) put_same ?_ fun D3 hD3 => ?_
            · rw [List.length_drop, List.length_map, List.length_reverse, List.length_map]
              exact Nat.le_trans (show tp.length - (tp.length - 1 - jj) + 1 ≤ 2000 by lia) (by decide)
            have hD3 : put (put hp D1 _) D2 _ D3 = none := hD3
            refine hZq4 _ _ ?_
            refine hZq3 _ _ ?_
            refine .inr ⟨_, rfl, D3, _, rfl, hac, ?_, ?_, none_sub d.sub (none_put (none_put hD3)), fun b o e => sub_put hD3 (sub_put hD2 (sub_put hD1 (d.sub b o e))), put_same⟩
            · exact List.append_ne_nil_of_right_ne_nil _ (by simp)
            · rw [List.length_append, List.length_drop, List.length_map, List.length_reverse, List.length_map, List.length_singleton]; lia
          · refine m_nil ?_
            refine m_nil ?_
            refine hZq3 _ _ ?_
            have hxf : x ∈ fin := by
              rcases (g.sn x).mp e with q | q
              · exact q
              · obtain ⟨ee, hee, eq⟩ := List.mem_map.mp q
                obtain ⟨jj, hjj⟩ := List.mem_iff_getElem?.mp hee
                have hv := g.d2 jj ee hjj
                have eq : ee.k = x := eq
                rw [eq] at hv
                rw [hv] at e2; exact absurd rfl e2
            skip
            refine .inl ⟨rfl, hp, tp, fin, seen', n', dl, by exact ⟨by exact Mine.Sub.of rfl, fun _ _ e => e⟩, d, g, ?_, hse', ht1 htp, Nat.le_refl _⟩
            cases tp with
            | nil => trivial
            | cons ee rr =>
              obtain ⟨⟨q1, q2, q3⟩, q4⟩ := gf
              skip
              refine ⟨fun j s hj hs => ?_, q4⟩
              by_cases z : j = ee.c - 1
              · subst z; rw [q2] at hs; cases hs; exact hxf
              · exact q3 j s (by lia) hs
        · have hns' : seen' x = false := Bool.eq_false_iff.mpr e
          refine m_abs fun Zq3 hZq3 => ?_
          refine m_cons ?_
          refine m_Expr (hi := by rfl) (hs := by rfl) ?_
          refine m_Method (he := by rfl) ?_
          refine evR (EvP.nm (v := .ref _) (by rfl)) ?_
          first | refine m_methSet (by walk_at "hl") ?_ | refine m_method (hf := by k_is) (hg := by k_is) (ht := by k_is) (Here.X (by assumption)) (by walk_at "hl") (by walk_at "hl") (by rfl) ?_
          refine m_callB (he := by rfl) (hplain := by rfl) ?_
          refine m_splE (he := by rfl) ?_
          refine evS (EvP.nm (v := .str _) (by rfl)) fun _ => ?_
          refine m_splE0 ?_
          refine m_setAdd he ky_is rfl (by have := g.le; show n' + 1 < 4096; lia) ?_
          rw [hns', if_neg (by decide)]
          have d1 := d.setSeen (seen' := fun k' => seen' k' || decide (k' = x)) (n' := n' + 1)
          refine m_weak (m' := names [("n2i", .ref a.dd), ("stack", .ref Ds), ("itstack", .ref Di), ("seen", .ref De), ("node2stacki", .ref Dd), ("node", kyV x)]) (h' := put hp De (.set (fun k' => seen' k' || decide (k' = x)) (n' + 1))) (by exact Mine.Sub.of rfl) (fun _ _ e => e) ?_
          revert d1
          generalize put hp De (.set (fun k' => seen' k' || decide (k' = x)) (n' + 1)) = hp1
          intro d1
          have hi := d1.hi
          have hdd1 := d1.sub _ _ hdd
          have hN := r.hN x hxo
          unfold nodeOf at hN
          have hN := d1.sub _ _ hN
          have hD := d1.sub _ _ (r.hD x hxo).1
          have hL := d1.sub _ _ (r.hL x hxo)
          have htl := g.tl
          have hnl := g.le
          refine m_cons ?_
          refine m_Expr (hi := by rfl) (hs := by rfl) ?_
          refine m_Method (he := by rfl) ?_
          refine evR (EvP.nm (v := .ref _) (by rfl)) ?_
          refine m_methList (by walk_at "hl") PySem.F.slot_list_append PySem.F.type_list_append ?_
          refine m_callB (he := by rfl) (hplain := by rfl) ?_
          refine m_splE (he := by rfl) ?_
          refine m_Attr (he := by with_unfolding_all rfl) ?_
          refine m_abs fun Zq4 hZq4 => ?_
          refine m_Call (he := by rfl) ?_
          refine m_Name (hd := by decide) ?_
          first | refine m_gK (e := by k_is) (hk := by rfl) (hl := by rfl) (he := by rfl) (by assumption) ?_ | refine m_gB (e := by k_is) (hv := by rfl) (hn := by decide) (hk := by rfl) (hl := by rfl) (he := by rfl) (hf := by rfl) (by assumption) ?_
          refine m_callB (he := by rfl) (hplain := by rfl) ?_
          refine m_splE (he := by rfl) ?_
          refine m_Attr (he := by with_unfolding_all rfl) ?_
          refine m_Sub ?_
          refine evR (EvP.nm (v := .ref _) (by rfl)) ?_
          refine evS (EvP.nm (v := .str _) (by rfl)) fun _ => ?_
          refine m_tailDict (hs := by with_unfolding_all rfl) hdd1 (m_dictGetItem hdd1 ky_is (v := .ref (a.aN x)) (by rw [dGet_ord (f := fun k => V.ref (a.aN k)), if_pos hxo]) fun v' hv' => ?_)
          cases hv'
          refine m_slotR (ha := by k_is) (hg := by k_is) (hc := by k_is) (hn := by k_is) (ht := by k_is) (p := 87) (j := 2) (Here.X (by assumption)) (by walk_at "hl") (by walk_at "hl") (by first | k_is | rfl) (by rfl) ?_
          refine m_splE0 ?_
          refine m_iterList hL fun it hit => ?_
          have hit : hp1 it = none := hit
          refine hZq4 _ _ ?_
          refine m_nextAttr (by walk_at "hl") fun _ _ => ?_
          refine m_splE0 ?_
          rename_i nx hnx
          have hnx : put hp1 it (.liter (a.aL x) 0) nx = none := hnx
          skip
          have d2 := d1.enter (k := x) hit hnx
          refine m_weak (m' := names [("n2i", .ref a.dd), ("stack", .ref Ds), ("itstack", .ref Di), ("seen", .ref De), ("node2stacki", .ref Dd), ("node", kyV x)]) (h' := put (put hp1 it (.liter (a.aL x) 0)) nx (.nxt it)) (by exact Mine.Sub.of rfl) (fun _ _ e => e) ?_
          revert d2
          generalize put (put hp1 it (.liter (a.aL x) 0)) nx (.nxt it) = hp2
          intro d2
          have hi2 := d2.hi
          refine m_append (x := .ref nx) hi2 rfl ?_ ?_
          · rw [List.length_map, List.length_reverse, List.length_map]; exact Nat.le_trans (show tp.length ≤ 1000 by lia) (by decide)
          have d3 := d2.setNxs (nxs' := nxsOf (⟨x, 0, nx, it⟩ :: tp))
          have e3 : ((tp.map (·.nx)).reverse).map V.ref ++ [V.ref nx] = (nxsOf (⟨x, 0, nx, it⟩ :: tp)).map V.ref := by simp [nxsOf]
          rw [e3]
          refine m_weak (m' := names [("n2i", .ref a.dd), ("stack", .ref Ds), ("itstack", .ref Di), ("seen", .ref De), ("node2stacki", .ref Dd), ("node", kyV x)]) (h' := put hp2 Di (.list ((nxsOf (⟨x, 0, nx, it⟩ :: tp)).map V.ref))) (by exact Mine.Sub.of rfl) (fun _ _ e => e) ?_
          revert d3
          generalize put hp2 Di (.list ((nxsOf (⟨x, 0, nx, it⟩ :: tp)).map V.ref)) = hp3
          intro d3
          have hs3 := d3.hs
          obtain ⟨ep3, hd3⟩ := d3.hd
          refine m_cons ?_
          refine m_AssignSub (hs := by rfl) ?_
          refine m_abs fun Zq5 hZq5 => ?_
          refine m_Call (he := by rfl) ?_
          refine m_Name (hd := by decide) ?_
          first | refine m_gK (e := by k_is) (hk := by rfl) (hl := by rfl) (he := by rfl) (by assumption) ?_ | refine m_gB (e := by k_is) (hv := by rfl) (hn := by decide) (hk := by rfl) (hl := by rfl) (he := by rfl) (hf := by rfl) (by assumption) ?_
          refine m_callB (he := by rfl) (hplain := by rfl) ?_
          refine m_splE (he := by rfl) ?_
          refine evR (EvP.nm (v := .ref _) (by rfl)) ?_
          refine m_splE0 ?_
          refine m_lenList hs3 (by rw [List.length_map, List.length_reverse, List.length_map]; lia) fun _ => ?_
          rw [List.length_map, List.length_reverse, List.length_map]
          refine hZq5 _ _ ?_
          refine evR (EvP.nm (v := .ref _) (by rfl)) ?_
          refine evS (EvP.nm (v := .str _) (by rfl)) fun _ => ?_
          refine m_dictSetItem hd3 ky_is (v := .int (tp.length : Nat)) ⟨_, rfl⟩ (by have := g.d3; exact Nat.le_trans (show dl.length ≤ 1000 by lia) (by decide)) fun ep4 => ?_
          have d4 := d3.setD (dl' := dPut dl x (.int (tp.length : Nat))) (ep := ep4)
          refine m_weak (m' := names [("n2i", .ref a.dd), ("stack", .ref Ds), ("itstack", .ref Di), ("seen", .ref De), ("node2stacki", .ref Dd), ("node", kyV x)]) (h' := put hp3 Dd (.dict (dPut dl x (.int (tp.length : Nat))) ep4)) (by exact Mine.Sub.of rfl) (fun _ _ e => e) ?_
          revert d4
          generalize put hp3 Dd (.dict (dPut dl x (.int (tp.length : Nat))) ep4) = hp4
          intro d4
          have hs4 := d4.hs
          refine m_cons ?_
          refine m_Expr (hi := by rfl) (hs := by rfl) ?_
          refine m_Method (he := by rfl) ?_
          refine evR (EvP.nm (v := .ref _) (by rfl)) ?_
          refine m_methList (by walk_at "hl") PySem.F.slot_list_append PySem.F.type_list_append ?_
          refine m_callB (he := by rfl) (hplain := by rfl) ?_
          refine m_splE (he := by rfl) ?_
          refine evS (EvP.nm (v := .str _) (by rfl)) fun _ => ?_
          refine m_splE0 ?_
          refine m_append (x := kyV x) hs4 ⟨_, rfl⟩ ?_ ?_
          · rw [List.length_map, List.length_reverse, List.length_map]; exact Nat.le_trans (show tp.length ≤ 1000 by lia) (by decide)
          have d5 := d4.setKs (ks' := ksOf (⟨x, 0, nx, it⟩ :: tp))
          have e5 : ((tp.map (·.k)).reverse).map kyV ++ [kyV x] = (ksOf (⟨x, 0, nx, it⟩ :: tp)).map kyV := by simp [ksOf]
          rw [e5]
          refine m_nil ?_
          refine hZq3 _ _ ?_
          refine .inl ⟨rfl, _, ⟨x, 0, nx, it⟩ :: tp, fin, _, _, _, by exact ⟨by exact Mine.Sub.of rfl, fun _ _ e => e⟩, d5, g.push r.nd hxo hns', ⟨fun j s hj => absurd hj (Nat.not_lt_zero _), gf⟩, fun j hj => by rw [hse' j hj]; rfl, ?_, ?_⟩
          · by_cases q : tp = []
            · rw [(ht0 q).2]; simp
            · rw [ht1 q]; rfl
          · unfold mu
            have := unsum_see (f := fun k => (S.su k).length + 2) hns' r.nd hxo
            rw [this]
            unfold stsum
            rw [List.map_cons, List.sum_cons]
            simp only
            lia
      · rintro σ' ⟨hp, tp', fin, seen'', n', dl, hf, d, g, ig, hse'', hk'', hmu⟩
        refine m_fit hf ?_
        clear hf
        refine m_abs fun Zq2 hZq2 => ?_
        refine m_cons ?_
        refine m_While (I := CyW2 S a σ.h Ds Di De Dd seen k (mu S seen' tp)) (n := mu S seen'' tp') ⟨hp, tp', fin, seen'', n', dl, by exact ⟨by exact Mine.Sub.of rfl, fun _ _ e => e⟩, d, g, ig, hse'', hk'', hmu, rfl⟩ ?_
        clear hmu hk'' hse'' ig g d dl n' seen'' fin tp' hp
        rintro m σ' ⟨hp, tp', fin, seen'', n', dl, hf, d, g, ig, hse'', hk'', hmu, rfl⟩
        refine m_fit hf ?_
        clear hf
        have hs := d.hs
        have hi := d.hi
        have htl := g.tl
        have hnl := g.le
        refine m_abs fun Zq3 hZq3 => ?_
        refine m_isValue (he := by rfl) ?_
        refine evR (EvP.nm (v := .ref _) (by rfl)) ?_
        refine m_trList hs (by unfold ksOf; rw [List.length_map, List.length_reverse, List.length_map]; lia) ?_
        cases tp' with
        | nil =>
          refine hZq3 _ _ ?_
          refine ifalse (by simp [ksOf]) ?_
          refine m_abs fun Zq4 hZq4 => ?_
          refine m_cons ?_
          refine m_Break ?_
          refine hZq4 _ _ ?_
          refine hZq2 _ _ ?_
          exact .inl ⟨rfl, hp, fin, seen'', n', dl, by exact ⟨by exact Mine.Sub.of rfl, fun _ _ e => e⟩, d, g, hse'', hk''⟩
        | cons e rr =>
          refine hZq3 _ _ ?_
          refine itrue (by simp [ksOf]) ?_
          refine m_cons ?_
          refine m_TryNext (hs := by rfl) (he := by rfl) (hk := by rfl) (hl := by rfl) (hge := by rfl) (hf := by rfl) (mg := mg) (mb := mb) (outer := outer) (by exact Z.T.g) (by exact mg_none_of Z.X Z.T.g (by k_is)) (by exact Z.T.b) (by exact (Z.T.builtins "StopIteration" (by decide)).trans (by rfl)) (by exact F.deeper (L := L') (m := σ.m)) (by show A.frames.map _ = _; rw [hfr]; rfl) (by rfl) (by exact hh _) ?_
          refine m_Sub ?_
          refine evR (EvP.nm (v := .ref _) (by rfl)) ?_
          refine m_UnaryOp ?_
          refine evI EvP.int fun _ => ?_
          refine m_neg fun _ => ?_
          skip
          have enx : nxsOf (e :: rr) = nxsOf rr ++ [e.nx] := by simp [nxsOf]
          have eks : ksOf (e :: rr) = ksOf rr ++ [e.k] := by simp [ksOf]
          have hi' := hi
          rw [enx, List.map_append] at hi'
          have hlr : ((nxsOf rr).map V.ref).length = rr.length := by simp [nxsOf]
          refine m_tailList (hs := by with_unfolding_all rfl) hi' (m_getListNeg (x := .ref e.nx) hi' (by decide) (by rw [List.length_append, hlr, List.length_map, List.length_singleton]; lia) (by decide) (by rw [List.length_append, hlr, List.length_map, List.length_singleton, show ((-1 : Int) + ((rr.length + 1 : Nat) : Int)).toNat = rr.length by lia, ← hlr, List.getElem?_append_right (Nat.le_refl _)]; simp) fun v' hv' => ?_)
          cases hv'
          obtain ⟨i1, i2, i3⟩ := d.its e List.mem_cons_self
          have hek := g.ino e List.mem_cons_self
          have hL := d.sub _ _ (r.hL e.k hek)
          skip
          refine ⟨e.nx, e.it, a.aL e.k, e.c, (S.su e.k).map kyV, rfl, i1, i2, hL, fun v v' hv iv => ?_, fun hv exc => ?_⟩
          · obtain ⟨y, hy, rfl⟩ := map_get hv
            obtain ⟨ty, rfl⟩ := iv
            refine m_sts (hk := by rfl) (hl := by rfl) (he := by rfl) ?_
            refine m_nil ?_
            refine hZq2 _ _ ?_
            have hlt := (List.getElem?_eq_some_iff.mp hy).1
            skip
            refine ⟨mu S seen'' (⟨e.k, e.c + 1, e.nx, e.it⟩ :: rr), ?_, put hp e.it (.liter (a.aL e.k) (e.c + 1)), ⟨e.k, e.c + 1, e.nx, e.it⟩ :: rr, fin, seen'', n', dl, y, by exact ⟨by exact Mine.Sub.of rfl, fun _ _ e => e⟩, d.step, g.step, ⟨⟨by simp, by simpa using hy, fun j s hj hs => ig.1 j s (by simpa using hj) hs⟩, ig.2⟩, hcl e.k hek y (List.mem_of_getElem? hy), hse'', (fun q => nomatch q), fun _ => hk'', rfl⟩
            refine Nat.lt_of_lt_of_le ?_ hmu
            unfold mu stsum
            rw [List.map_cons, List.sum_cons, List.map_cons, List.sum_cons]
            simp only
            lia
          · have hall : ∀ s ∈ S.su e.k, s ∈ fin := fun s hs => by
              obtain ⟨j, hj⟩ := List.mem_iff_getElem?.mp hs
              have h1 := (List.getElem?_eq_some_iff.mp hj).1
              have h2 : (S.su e.k).length ≤ e.c := by simpa using hv
              exact ig.1 j s (by lia) hj
            have dd := d.drop
            refine m_weak (m' := names [("n2i", .ref a.dd), ("stack", .ref Ds), ("itstack", .ref Di), ("seen", .ref De), ("node2stacki", .ref Dd)]) (h' := fun b => if b = e.it then none else hp b) (by exact Mine.Sub.of rfl) (fun _ _ e => e) ?_
            revert dd
            generalize (fun b => if b = e.it then none else hp b) = hp1
            intro dd
            clear hs hi hi' i1 i2 i3 hL d
            have hs := dd.hs
            rw [eks, List.map_append] at hs
            obtain ⟨epd, hd⟩ := dd.hd
            refine m_cons (m_Del (he := by rfl) ?_)
            refine evR (EvP.nm (v := .ref _) (by rfl)) ?_
            refine m_abs fun Zq4 hZq4 => ?_
            refine m_Method (he := by rfl) ?_
            refine evR (EvP.nm (v := .ref _) (by rfl)) ?_
            refine m_methList (by walk_at "hl") PySem.F.slot_list_pop PySem.F.type_list_pop ?_
            refine m_callB0 ?_
            refine m_pop (x := kyV e.k) hs ?_ fun v' hv' => ?_
            · rw [List.length_map]; unfold ksOf; rw [List.length_reverse, List.length_map]
              exact Nat.lt_of_lt_of_le (show rr.length < 1001 by rw [List.length_cons] at htl; lia) (by decide)
            obtain ⟨tv, rfl⟩ := hv'
            have d2 := dd.setKs (ks' := ksOf rr)
            refine hZq4 _ _ ?_
            refine m_weak (m' := names [("n2i", .ref a.dd), ("stack", .ref Ds), ("itstack", .ref Di), ("seen", .ref De), ("node2stacki", .ref Dd)]) (h' := put hp1 Ds (.list ((ksOf rr).map kyV))) (by exact Mine.Sub.of rfl) (fun _ _ e => e) ?_
            revert d2
            generalize put hp1 Ds (.list ((ksOf rr).map kyV)) = hp2
            intro d2
            obtain ⟨epd2, hd2⟩ := d2.hd
            refine m_dictDel hd2 ky_is (by rw [g.d2 0 e rfl]; rfl) (by have := g.d3; exact Nat.le_trans (show dl.length ≤ 1000 by lia) (by decide)) fun ep3 => ?_
            have d3 := d2.setD (dl' := dl.filter fun kv => decide (kv.1 ≠ e.k)) (ep := ep3)
            refine m_weak (m' := names [("n2i", .ref a.dd), ("stack", .ref Ds), ("itstack", .ref Di), ("seen", .ref De), ("node2stacki", .ref Dd)]) (h' := put hp2 Dd (.dict (dl.filter fun kv => decide (kv.1 ≠ e.k)) ep3)) (by exact Mine.Sub.of rfl) (fun _ _ e => e) ?_
            revert d3
            generalize put hp2 Dd (.dict (dl.filter fun kv => decide (kv.1 ≠ e.k)) ep3) = hp3
            intro d3
            have hi3 := d3.hi
            rw [enx, List.map_append] at hi3
            refine m_abs fun Zq5 hZq5 => ?_
            refine m_cons ?_
            refine m_Expr (hi := by rfl) (hs := by rfl) ?_
            refine m_Method (he := by rfl) ?_
            refine evR (EvP.nm (v := .ref _) (by rfl)) ?_
            refine m_methList (by walk_at "hl") PySem.F.slot_list_pop PySem.F.type_list_pop ?_
            refine m_callB0 ?_
            refine m_pop (x := .ref e.nx) hi3 ?_ fun v' hv' => ?_
            · rw [List.length_map]; unfold nxsOf; rw [List.length_reverse, List.length_map]
              exact Nat.lt_of_lt_of_le (show rr.length < 1001 by rw [List.length_cons] at htl; lia) (by decide)
            have d4 := d3.setNxs (nxs' := nxsOf rr)
            refine m_nil ?_
            refine hZq5 _ _ ?_
            refine m_nil ?_
            refine ⟨mu S seen'' rr, ?_, _, rr, fin ++ [e.k], seen'', n', _, by exact ⟨by exact Mine.Sub.of rfl, fun _ _ e => e⟩, d4, g.pop hall, ?_, hse'', hk'', ?_, rfl⟩
            · unfold mu stsum
              rw [List.map_cons, List.sum_cons]; lia
            · cases rr with
              | nil => trivial
              | cons e2 r2 =>
                obtain ⟨⟨q1, q2, q3⟩, q4⟩ := ig.2
                skip
                refine ⟨fun j s hj hs => ?_, q4.mono fun z hz => List.mem_append_left _ hz⟩
                by_cases z : j = e2.c - 1
                · subst z; rw [q2] at hs; cases hs; exact List.mem_append_right _ List.mem_cons_self
                · exact List.mem_append_left _ (q3 j s (by lia) hs)
            · refine Nat.le_trans ?_ hmu
              unfold mu stsum
              rw [List.map_cons, List.sum_cons]; lia
    · rintro σ' ⟨hp, fin, seen', n', dl, hf, d, g, h3, h4⟩
      refine m_fit hf ?_
      refine m_nil ?_
      refine hZq0 _ _ ?_
      refine ⟨hp, fin, seen', n', dl, by exact ⟨by exact Mine.Sub.of rfl, fun _ _ e => e⟩, d, g, fun j hj => ?_⟩
      rw [take_snoc hk] at hj
      rcases List.mem_append.mp hj with hj | hj
      · exact h3 j (hse j hj)
      · rw [List.mem_singleton.mp hj]; exact h4
    · rintro v σ' ⟨D, xs, rfl, q1, q2, q3, q4, q5, q6⟩
      refine hZq0 _ _ ?_
      refine ⟨put σ.h D (.list xs), fun b o e => ?_, h2 q1 D xs q2 q3 q4⟩
      unfold put at e; split at e
      · rename_i z; cases e; rw [z]; exact q6
      · exact q5 b o e
  · rintro σ' ⟨hp, fin, seen, n', dl, hf, d, g, hse⟩
    refine m_fit hf ?_
    refine m_cons ?_
    refine m_Return ?_
    refine evN EvP.none ?_
    refine ⟨σ.h, d.sub, h1 ?_⟩
    obtain ⟨rk, t1, t2⟩ := g.topo
    skip
    refine ⟨rk, fun k hk s hs => ?_⟩
    have : seen k = true := hse k (by rw [List.length_map, List.length_map, List.take_length]; exact hk)
    have hf := (g.sn k).mp this
    simp at hf
    exact (t2 k hf s hs).2
end
end Mine
end
section
open PySem PySem.W PyProof.Rows PySem.SeqAt
set_option maxHeartbeats 400000
namespace Mine
section
variable {prog : Program} {w : World} {K : Type} [DecidableEq K] {knd : PySem.KeyKind prog w K} {Γ : Fx} {σ : MS K} {A : Around} {env : Env} {α : Type} {s : Shared} {Q : Value → MS K → Prop} {QB : Bool → MS K → Prop} {QU : Unit → MS K → Prop} {QF : Flow → MS K → Prop}
variable {KK : Frag} {p : Program} {loose : List Str} {mg mb : Str → Option Value} {t u : Tok} {l l' : Addr}
inductive CompIQ (ι : Type) (knd : PySem.KeyKind prog w K) (Γ : Fx) (A : Around) (env : Env) (elt : Expr) (x : Str) (ifs : List Expr) (scope : Scope) (cl : List (Str × Addr)) (Q : Value → MS K → Prop) (v : Value) (σ₁ : MS K) : Prop
  | mk (L : List ι) (g : ι → V) (ok : MS K → Prop) (It : Nat → Obj → Prop) (Y : Yields knd A v (L.map g) ok It) (hsz : L.length ≤ sizeLine) (hok : ∀ σ : MS K, (∀ a o, σ₁.h a = some o → σ.h a = some o) → ok σ) (P : ι → Bool) (f : ι → V)
      (step : ∀ y ∈ L, ∀ C I ob hb D od hd, mTests knd (((Γ.enter C σ₁.m).freeze I ob hb).freeze D od hd) A (cenvOf scope env C cl) ifs (fun b σ₂ => b = P y ∧
        if b then mwp knd (((Γ.enter C σ₁.m).freeze I ob hb).freeze D od hd) A (eval elt (cenvOf scope env C cl)) (fun e σ₃ => (∀ a o, σ₁.h a = some o → σ₃.h a = some o) ∧ (f y).is e) σ₂ else (∀ a o, σ₁.h a = some o → σ₂.h a = some o)) ⟨fun z => if z = x then some (g y) else none, σ₁.h⟩)
      (fin : ∀ D, σ₁.h D = none → Q (.ref D) (σ₁.set D (.list ((L.filter P).map f))))
theorem m_CompI {ι : Type} {elt iter : Expr} {x : Str} {px : Pos} {ifs : List Expr} {scope : Scope} {pos : Pos} {cl : List (Str × Addr)}
    (h : mwp knd Γ A (eval iter env) (CompIQ ι knd Γ A env elt x ifs scope cl Q) σ)
    (hclos : closureFor scope env = pure cl) (hcell : ∀ y ∈ scope.names, y.2 ≠ .cell) (hkind : scope.kind = .function) (hnames : ∀ y ∈ scope.names, y.2 = .local → scope.names.lookup y.1 = some .local)
    (hx : (relabel scope env).names.lookup x = some .local) (hs : ∀ x, foldedSetIterable iter env x = pure x) :
    mwp knd Γ A (eval (.ListComp elt [⟨.Name x px, iter, ifs, 0⟩] scope pos) env) Q σ := by
  refine m_post (Q' := fun v σ' => ∃ (σ₁ : MS K) (D : Addr) (ys : List V) (hp : Addr → Option (O K)), v = .ref D ∧ σ' = ⟨σ₁.m, put hp D (.list ys)⟩ ∧ hp D = none ∧ (∀ a o, σ₁.h a = some o → hp a = some o) ∧ ∀ D, σ₁.h D = none → Q (.ref D) (σ₁.set D (.list ys))) (m_ListComp (mwp_mono h fun v σ₁ q => ?_) hclos hcell hkind hnames hx hs) ?_
  · obtain ⟨L, gg, ok, It, Y, hsz, hok, P, f, step, fin⟩ := q
    refine ⟨_, ok, It, Y, by rw [List.length_map]; exact hsz, fun i ys hp => (∀ a o, σ₁.h a = some o → hp a = some o) ∧ ys = ((L.take i).filter P).map f, ⟨fun _ _ e => e, by simp⟩, fun i ys hp m hj => hok _ hj.1, ?_, ?_, ?_⟩
    · rintro i ys hp ⟨_, rfl⟩
      rw [List.length_map]
      exact Nat.le_trans (List.length_filter_le _ _) (by rw [List.length_take]; omega)
    · rintro i y ys hp C I ob hb D od hd hy ⟨hs, rfl⟩
      rw [List.getElem?_map] at hy
      obtain ⟨z, hz, rfl⟩ := Option.map_eq_some_iff.mp hy
      have hmem := List.mem_of_getElem? hz
      have ht : L.take (i + 1) = L.take i ++ [z] := by rw [List.take_add_one, hz]; rfl
      refine mTests_weak hs (fun b h' e1 hs' q => ?_) (mTests_mono (step z hmem C I ob hb D od hd) ?_)
      · subst e1
        cases b with
        | true =>
          simp only [if_true] at q ⊢
          exact m_weak (σ := ⟨_, h'⟩) (fun _ _ e => e) hs' q
        | false => simp only [Bool.false_eq_true, if_false] at q ⊢; exact ⟨fun a o e => hs' a o (q.1 a o e), q.2⟩
      · rintro b σ₂ ⟨rfl, q⟩
        cases hb : P z with
        | true =>
          rw [hb] at q
          simp only [if_true] at q ⊢
          exact mwp_mono q fun e σ₃ ⟨q1, q2⟩ => ⟨_, q2, q1, by rw [ht, List.filter_append]; simp [hb]⟩
        | false =>
          rw [hb] at q
          simp only [Bool.false_eq_true, if_false] at q ⊢
          exact ⟨q, by rw [ht, List.filter_append]; simp [hb]⟩
    · rintro ys hp D ⟨hs, rfl⟩ hD
      rw [List.length_map, List.take_length]
      exact ⟨σ₁, D, _, hp, rfl, rfl, hD, hs, fin⟩
  · rintro v _ ⟨σ₁, D, ys, hp, rfl, rfl, hD, hs', q⟩
    have hD1 : σ₁.h D = none := by
      cases z : σ₁.h D with
      | none => rfl
      | some o => rw [hs' _ _ z] at hD; cases hD
    exact ⟨σ₁.set D (.list ys), put_mono hs', fun _ _ e => e, q D hD1⟩
end
end Mine
end
section
open PySem PySem.W PyProof.Rows PySem.SeqAt
set_option maxHeartbeats 400000
namespace Mine
section
variable {prog : Program} {w : World} {K : Type} [DecidableEq K] {knd : PySem.KeyKind prog w K} {Γ : Fx} {σ : MS K} {A : Around} {env : Env} {α : Type} {s : Shared} {Q : Value → MS K → Prop} {QB : Bool → MS K → Prop} {QU : Unit → MS K → Prop} {QF : Flow → MS K → Prop}
variable {KK : Frag} {p : Program} {loose : List Str} {mg mb : Str → Option Value} {t u : Tok} {l l' : Addr}
end
end Mine
end
section
open PySem PySem.W PyProof.Rows PySem.SeqAt
set_option maxHeartbeats 400000
namespace Mine
section
variable {prog : Program} {w : World} {K : Type} [DecidableEq K] {knd : PySem.KeyKind prog w K} {Γ : Fx} {σ : MS K} {A : Around} {env : Env} {α : Type} {s : Shared} {Q : Value → MS K → Prop} {QB : Bool → MS K → Prop} {QU : Unit → MS K → Prop} {QF : Flow → MS K → Prop}
theorem m_SubSliceB {value : Expr} {lower upper : Option Expr} {p pos : Pos}
    (h : mwp knd Γ A (eval value env) (fun o σ₁ => mwp knd Γ A (evalPart lower env) (fun vl σ₂ => mwp knd Γ A (evalPart upper env) (fun vu σ₃ => ∃ (l : Addr) (ob : Obj) (vs : Array Value) (n : Nat) (xs : List V) (b : Nat) (t : Tok), o = .ref l ∧ (Γ.B l = some ob ∧ ob.cls = .type "list" ∧ ob.data = .seq vs n) ∧ Are xs vs.toList ∧ xs.length ≤ sizeLine ∧ vl = .none ∧ vu = .int (b : Nat) t ∧
      ∀ D, σ₃.h D = none → Q (.ref D) (σ₃.set D (.list (xs.take b)))) σ₂) σ₁) σ) :
    mwp knd Γ A (eval (.Subscript value (.Slice lower upper none p) pos) env) Q σ := fun s E R => by
  refine eval_SubSlice _ _ _ _ _ _ (h.use R fun o s₁ σ₁ R₁ q => q.use R₁ fun vl s₂ σ₂ R₂ q => q.use R₂ fun vu s₃ σ₃ R₃ q => ?_)
  obtain ⟨l, ob, vs, n, xs, b, t, rfl, ⟨hB, hc, hd⟩, ar, hsz, rfl, rfl, hq⟩ := q
  have e : s₃.heap.IsList l vs := ⟨_, R₃.keep _ _ hB, hc, n, hd⟩
  have R₄ : Rel knd Γ σ₃ { s₃ with heap := s₃.heap.push { cls := .type "slice", data := .fields #[.none, .int (b : Nat) t, .none] } } := R₃.ext (tk := s₃.toks) fun _ _ e => Heap.get?_push_of_some _ e
  have e4 : (s₃.heap.push { cls := .type "slice", data := .fields #[.none, .int (b : Nat) t, .none] }).IsList l vs := e.push _
  refine tail_any (T := "list") e4.typeIs slot_list_getitem.lookup ?_ (by with_unfolding_all rfl)
  refine wpAny_getItem_list_slice (items := vs) e4 ⟨_, Heap.get?_push_size _ rfl, rfl, rfl⟩ .none (.int _ t) .none (by intro z; cases z) ?_ (by rw [ar.size]; exact hsz)
  refine ⟨_, R₄.push (o := .list (xs.take b)) (tk := s₃.toks) ⟨_, _, rfl, ?_⟩, hq _ ?_⟩
  · rw [slicePick_upto']; simpa using ar.take b
  · exact R₄.fresh
end
end Mine
end
section
open PySem PySem.W PyProof.Rows PySem.SeqAt
set_option maxHeartbeats 400000
namespace Mine
section
variable {prog : Program} {w : World} {K : Type} [DecidableEq K] {knd : PySem.KeyKind prog w K} {Γ : Fx} {σ : MS K} {A : Around} {env : Env} {α : Type} {s : Shared} {Q : Value → MS K → Prop} {QB : Bool → MS K → Prop} {QU : Unit → MS K → Prop} {QF : Flow → MS K → Prop}
variable {KK : Frag} {p : Program} {loose : List Str} {mg mb : Str → Option Value} {t u : Tok} {l l' : Addr}
theorem note_old {c : Value} {a : Addr} {outer : List Env} {E : Value → Shared → Prop} {P : Unit → Shared → Prop} (F : Fits Γ A) (hfr : A.frames = some (env :: outer)) (hL : env.frame = some Γ.L) (R : Rel knd Γ σ s) (x : OldExc Γ σ s.heap c a)
    (h : ∀ s', Rel knd Γ σ s' → OldExc Γ σ s'.heap c a → P () s') : wpAny (model prog w) A (noteFrame (.ref a) env) P E s := by
  obtain ⟨T, oe, vs, oT, ts, ⟨he, hc, hd, h1, hT, hdT, h3, hTe⟩, ⟨x1, x2, x3, x4⟩, y1, y2, y3, y4⟩ := id x
  unfold noteFrame
  simp only [hL]
  refine wpAny_bind (wpAny_field he hd h1 ?_)
  rw [if_pos (show (Value.ref T != Value.none) = true from by simp)]
  refine wpAny_bind (wpAny_field hT hdT (Array.getElem?_eq_getElem h3) ?_)
  split
  · exact wpAny_pure (h _ R x)
  refine wpAny_bind (wpAny_setField hT hdT h3 ?_)
  have R0 : Rel knd Γ σ { s with heap := s.heap.update T (Obj.mapFields (·.setIfInBounds 3 Value.none)) } := R.extBut (tk := s.toks) (I := T) y1 y2 y3 y4 fun b o hb q => (Heap.get?_update_other _ _ (Ne.symm hb)).trans q
  have he0 : (s.heap.update T (Obj.mapFields (·.setIfInBounds 3 Value.none))).get? a = some oe := (Heap.get?_update_other _ _ hTe).trans he
  generalize s.heap.update T (Obj.mapFields (·.setIfInBounds 3 Value.none)) = h0 at R0 he0 ⊢
  obtain ⟨ff, fs⟩ := F.fun R0 hfr
  refine wpAny_bind (wpAny_frameOf_fun hfr ff hL fun h₁ hs₁ => ?_)
  refine wpAny_bind (wpAny_entryPlaceOf fun pl hpl => ?_)
  unfold EntryCells.newEntry newFields
  refine wpAny_bind (wpAny_newObj_type ?_ (hpl.sizeOk5 _ _ _ _ _))
  have R1 := R0.slots hs₁ fs
  have he₁ : h₁.get? a = some _ := (hs₁.2.1 a fun hm => by
    rcases fs a hm with e | ⟨p, hp, e⟩
    · exact x2 e
    · exact x3 p hp e.symm).trans he0
  have R2 := R1.ext (h' := h₁.push { cls := .type "traceback", dict := none, data := .fields ([Value.ref T, .ref Γ.L, .none, rawInt Γ.L, .none] ++ (if pl.isEmpty then List.replicate 6 Value.none else pl)).toArray }) (tk := s.toks) fun b o q => Heap.get?_push_of_some _ q
  have hTe' : h₁.objs.size ≠ a := Nat.ne_of_gt (Heap.lt_size he₁)
  have he₂ := Heap.get?_push_of_some (h := h₁) { cls := .type "traceback", dict := none, data := .fields ([Value.ref T, .ref Γ.L, .none, rawInt Γ.L, .none] ++ (if pl.isEmpty then List.replicate 6 Value.none else pl)).toArray } he₁
  refine wpAny_setField he₂ hd (Array.getElem?_eq_some_iff.mp h1).1 (h _ (R2.extBut (tk := s.toks) (I := a) x1 x2 x3 x4 fun b o hb q => (Heap.get?_update_other _ _ (Ne.symm hb)).trans q) ?_)
  refine ⟨h₁.objs.size, _, _, _, _, ⟨Heap.get?_update_self _ he₂ (Obj.isFreed_of_fields (Obj.data_mapFields hd _)), (Obj.cls_mapFields _ _).trans hc, Obj.data_mapFields hd _, ?_, (Heap.get?_update_other _ _ (Ne.symm hTe')).trans (Heap.get?_push_size h₁ rfl), rfl, ?_, hTe'⟩, ⟨x1, x2, x3, x4⟩, ⟨R1.freshB, R1.freshL, R1.freshO, R1.fresh⟩⟩
  · simp [(Array.getElem?_eq_some_iff.mp h1).1]
  · simp
end
end Mine
end
section
open PySem PySem.W PyProof.Rows PySem.SeqAt
set_option maxHeartbeats 400000
namespace Mine
section
variable {prog : Program} {w : World} {K : Type} [DecidableEq K]
noncomputable def mwpX (knd : PySem.KeyKind prog w K) (Γ : Fx) (A : Around) {α : Type} (cc : Value) (c : Sem α) (Q : α → MS K → Prop) (X : MS K → Prop) (σ : MS K) : Prop :=
  ∀ s, Rel knd Γ σ s → wpAny (model prog w) A c (fun a s' => ∃ σ', Rel knd Γ σ' s' ∧ Q a σ') (fun e s' => ∃ a σ', e = .ref a ∧ Rel knd Γ σ' s' ∧ NewExc Γ σ' s'.heap cc a ∧ X σ') s
noncomputable def mwpO (knd : PySem.KeyKind prog w K) (Γ : Fx) (A : Around) {α : Type} (cc : Value) (c : Sem α) (Q : α → MS K → Prop) (X : MS K → Prop) (σ : MS K) : Prop :=
  ∀ s, Rel knd Γ σ s → wpAny (model prog w) A c (fun a s' => ∃ σ', Rel knd Γ σ' s' ∧ Q a σ') (fun e s' => ∃ a σ', e = .ref a ∧ Rel knd Γ σ' s' ∧ OldExc Γ σ' s'.heap cc a ∧ X σ') s
end
section
variable {prog : Program} {w : World} {K : Type} [DecidableEq K] {knd : PySem.KeyKind prog w K} {Γ : Fx} {σ : MS K} {A : Around} {env : Env} {α : Type} {s : Shared} {Q : Value → MS K → Prop} {QB : Bool → MS K → Prop} {QU : Unit → MS K → Prop} {QF : Flow → MS K → Prop} {X : MS K → Prop} {cc : Value}
variable {KK : Frag} {p : Program} {loose : List Str} {mg mb : Str → Option Value} {t u : Tok} {l l' : Addr} {n : Nat}
theorem x_mwp {c : Sem α} {Q : α → MS K → Prop} (h : mwp knd Γ A c Q σ) : mwpX knd Γ A cc c Q X σ := fun s R => h s _ R
theorem x_cons {st : Stmt} {rest : List Stmt} (h : mwp knd Γ A (exec st env) (fun f σ' => match f with | .next => mwpX knd Γ A cc (execs rest env) QF X σ' | f => QF f σ') σ) : mwpX knd Γ A cc (execs (st :: rest) env) QF X σ := fun s R =>
  wpAny_execs_cons (h.use R fun f s' σ' R' q => by
    cases f with
    | next => exact q s' R'
    | brk => exact ⟨σ', R', q⟩
    | cont => exact ⟨σ', R', q⟩
    | ret v => exact ⟨σ', R', q⟩)
theorem x_consX {st : Stmt} {rest : List Stmt} (h : mwpX knd Γ A cc (exec st env) (fun f σ' => match f with | .next => mwpX knd Γ A cc (execs rest env) QF X σ' | f => QF f σ') X σ) : mwpX knd Γ A cc (execs (st :: rest) env) QF X σ := fun s R =>
  wpAny_execs_cons (wpAny_mono (h s R) (fun f s' ⟨σ', R', q⟩ => by
    cases f with
    | next => exact q s' R'
    | brk => exact ⟨σ', R', q⟩
    | cont => exact ⟨σ', R', q⟩
    | ret v => exact ⟨σ', R', q⟩) fun _ _ e => e)
theorem x_If {test : Expr} {body orelse : List Stmt} {pos : Pos} (h : mwp knd Γ A (isTrue test env (eval test env)) (fun b σ' => if b then mwpX knd Γ A cc (execs body env) QF X σ' else mwpX knd Γ A cc (execs orelse env) QF X σ') σ) :
    mwpX knd Γ A cc (exec (.If test body orelse pos) env) QF X σ := fun s R => wpAny_If (h.use R fun b s' σ' R' q => by
  cases b with
  | true => exact q s' R'
  | false => exact q s' R')
theorem newExc_made {h' : Heap} {e C : Addr} {vs : List Value} (R : Rel knd Γ σ s) (M : Heap.MadeExcOf s.heap h' e (.ref C) vs) : Rel knd Γ σ { s with heap := h' } ∧ NewExc Γ σ h' (.ref C) e := by
  refine ⟨R.ext (tk := s.toks) M.keeps, ?_⟩
  obtain ⟨t, he, _⟩ := M.there
  refine ⟨⟨_, he, rfl⟩, ?_, ?_, ?_, ?_⟩
  · cases q : Γ.B e with
    | none => rfl
    | some o => have := R.keep _ _ q; rw [M.new] at this; cases this
  · intro x; obtain ⟨o, ho⟩ := R.cur.get; rw [← x, M.new] at ho; cases ho
  · intro p hp x; obtain ⟨o, ho⟩ := (R.out p hp).get; rw [← x, M.new] at ho; cases ho
  · cases q : σ.h e with
    | none => rfl
    | some o => obtain ⟨ob, h1, _⟩ := R.obj _ _ q; rw [M.new] at h1; cases h1
theorem x_Raise {x : Str} {np cpos pos : Pos} {e₀ : Expr} {rest : List Expr} {C : Addr} {B newId initId : String} {bmB : List Value} (Z : Here KK p loose mg mb Γ.base) (FB : ExcBaseFacts B newId initId bmB) (hh : A.handled = none)
    (h : mwp knd Γ A (spliced (backTo cpos (starEach (e₀ :: rest) env))) (fun vs σ' => vs.length ≤ sizeLine ∧ X σ') σ)
    (e : nsIn KK mainGlobals x = some (some (.ref C))) (q : excIn KK C bmB newId = true)
    (he : starEach (e₀ :: rest) env = (false, eval e₀ env) :: starEach rest env) (hplain : (backTo cpos (starEach rest env)).any (·.1) = false)
    (hk : (env.scope.kind, env.kindOf x, x == ("__debug__" : Str)) = (.function, some .globalImplicit, false)) (hge : env.globals = mainGlobals) :
    mwpX knd Γ A (.ref C) (exec (.Raise (some (.Call (.Name x np) (e₀ :: rest) [] cpos)) none pos) env) QF X σ := fun s R => by
  obtain ⟨tl, N, nm, q, bs, hdct, sn, sub, ab, col, dd, k0, k1, k2, k3, k5, mN, hC, hN, hni, T⟩ := (own_of_in Z.X Z.T e q).obj
  refine wpAny_Raise_call_subT (C := C) (nm := nm) (q := q) (N := N) (bs := bs) (bm := tl) (hdct := hdct) (sn := sn) (sub := sub) (ab := ab) (col := col) (dd := dd) (k0 := k0) (k1 := k1) (k2 := k2) (k3 := k3) (k5 := k5)
    FB (mN := mN) (T.hasType FB.hasBase) hh (by rw [he]; show (false || (backTo cpos (starEach rest env)).any (·.1)) = false; rw [hplain]; rfl) hni
    ((m_Name (m_gK Z (Q := fun v σ' => v = .ref C ∧ σ' = σ) ⟨rfl, rfl⟩ e (congrArg Prod.fst hk) (congrArg (·.2.1) hk) hge) (congrArg (·.2.2) hk)).use R fun f s₁ σ₁ R₁ ⟨e1, e2⟩ => ⟨e1, ?_⟩)
  subst e2
  rw [he] at h ⊢
  refine Calls.evalArgs_plain (h.use R₁ fun vs s₂ σ₂ R₂ ⟨q1, q2⟩ => ?_)
  have kb : ∀ b o, Γ.base.get? b = some o → s₂.heap.get? b = some o := fun b o e => R₂.keep b o (Γ.sub b o e)
  refine ⟨rfl, q1, kb _ _ hC, hN.keeps kb, T.keeps kb, fun h' e M => ?_⟩
  obtain ⟨R', x'⟩ := newExc_made R₂ M
  exact ⟨e, σ₂, rfl, R', x', q2⟩
noncomputable def mcodeO (knd : PySem.KeyKind prog w K) (Γ : Fx) (A : Around) (cc : Value) (c : Code) (Q : Value → MS K → Prop) (X : MS K → Prop) (σ : MS K) : Prop :=
  ∀ s, Rel knd Γ σ s → codeAny (model prog w) A c (fun r s' => match r with
    | .ok (.ret v) => ∃ σ', Rel knd Γ σ' s' ∧ Q v σ'
    | .error e => ∃ a σ', e = .ref a ∧ Rel knd Γ σ' s' ∧ OldExc Γ σ' s'.heap cc a ∧ X σ'
    | _ => False) s
theorem oldExc_leave {L' : Addr} {m : Str → Option V} {σ' : MS K} {h : Heap} {a : Addr} (x : OldExc (Γ.enter L' m) σ' h cc a) : OldExc Γ ⟨m, σ'.h⟩ h cc a := by
  obtain ⟨T, oe, vs, oT, ts, p1, ⟨x1, x2, x3, x4⟩, y1, y2, y3, y4⟩ := x
  exact ⟨T, oe, vs, oT, ts, p1, ⟨x1, x3 _ (.head _), fun p hp => x3 p (.tail _ hp), x4⟩, y1, y3 _ (.head _), fun p hp => y3 p (.tail _ hp), y4⟩
theorem c_funO {f : Addr} {args : List Value} {kws : List (Str × Value)} {name qual : Str} {params : Arguments} {body : List Stmt} {scope : Scope} {dV kV doc pm cdv ct oc : Value} {an od : Option Addr} {osl : Array (Option Value)} (ns : List Str) (vs : List V) {vals : List Value}
    (Z : Here KK p loose mg mb Γ.base) (hA : Dp A n) (F : Fits Γ A) (hv : Are vs vals)
    (h : ∀ L', mwpX knd (Γ.enter L' σ.m) (A.deeper (envOf qual scope L' f cdv)) cc (execs body (envOf qual scope L' f cdv)) (fun fl σ' => Q (match fl with | .ret v => v | _ => .none) ⟨σ.m, σ'.h⟩) (fun σ' => X ⟨σ.m, σ'.h⟩) ⟨fun x => (ns.zip vs).reverse.lookup x, σ.h⟩)
    (ho : KK.lookup f = some ⟨oc, od, .func (fnOf name qual params body scope dV kV doc pm an cdv ct), osl⟩)
    (hb : bindArgs (fnOf name qual params body scope dV kV doc pm an cdv ct) ⟨args, kws⟩ = pure (ns.zip vals)) (hcd : codeIn KK cdv qual = true)
    (hlk : ∀ x ∈ ns, scope.names.lookup x = some .local)
    (hco : scope.isCoroutine = false) (hgen : scope.isGenerator = false) (hk : scope.kind = .function) (hcell : ∀ x ∈ scope.names, x.2 ≠ .cell) :
    mcodeO knd Γ A cc (.call (.ref f) ⟨args, kws⟩) Q X σ := fun s R => by
  have kb : ∀ b o, Γ.base.get? b = some o → s.heap.get? b = some o := fun b o e => R.keep b o (Γ.sub b o e)
  refine codeAny_call_function hA.room (kb _ _ (Z.X _ _ ho)) rfl hco hgen rfl ((codeRec_of Z.X hcd).keeps kb) ?_
  rw [hb]
  refine wpAny_pure ?_
  refine wpAny_newFunctionEnv hcell (fun x hx => hlk x.1 (List.of_mem_zip (a := x.1) (b := x.2) hx).1) (fun h₁ ns' sb => ?_) hk
  have ext : ∀ b o, s.heap.get? b = some o → h₁.get? b = some o := fun b o e => (sb.2 b (Nat.ne_of_lt (Heap.lt_size e))).trans (Heap.get?_push_of_some _ e)
  refine ⟨(Z.T.nolimit.keeps kb).keeps ext, codeAny_func ?_⟩
  have R₂ : Rel knd (Γ.enter s.heap.objs.size σ.m) ⟨fun x => (ns.zip vs).reverse.lookup x, σ.h⟩ { s with heap := h₁, toks := s.toks + (ns.zip vals).length } :=
    R.entered noneAt ⟨_, ns', fun x v e => (binds_zip hv).reverse.lookup e⟩ ext
  refine wpAny_mono (h s.heap.objs.size _ R₂) (fun fl s' ⟨σ', R', q⟩ => ⟨_, R'.leave R.bL R.bO R.lO, q⟩) fun e s' ⟨a, σ', ee, R', x, q⟩ => ?_
  subst ee
  have F' : Fits (Γ.enter s.heap.objs.size σ.m) (A.deeper (envOf qual scope s.heap.objs.size f cdv)) := F.deeper (by rw [show (envOf qual scope s.heap.objs.size f cdv).scope.kind = scope.kind from rfl]; exact hk) rfl
  obtain ⟨outer, hfr, _⟩ := F
  unfold leaving
  exact wpAny_bind (note_new F' (by show A.frames.map _ = _; rw [hfr]; rfl) rfl R' x fun s₃ R₃ X₃ => flight_old R₃ X₃ fun s₄ R₄ X₄ => ⟨a, ⟨σ.m, σ'.h⟩, rfl, R₄.leave R.bL R.bO R.lO, oldExc_leave X₄, q⟩)
theorem o_MethodStmt {o : Expr} {name : Str} {apos pos spos : Pos} {pl : Sem Bool}
    (h : mwp knd Γ A (eval o env) (fun ov σ₁ => mwp knd Γ A (getMethod ov name pl) (fun fx σ₂ => keepIn KK fx.1 = true ∧ mcodeO knd Γ A cc (.call fx.1 ⟨fx.2 ++ [], []⟩) (fun _ => QF .next) X σ₂) σ₁) σ) (Z : Here KK p loose mg mb Γ.base)
    (he : eval (.Call (.Attribute o name apos) [] [] pos) env = (do
      let ov ← eval o env
      standAt apos.atName
      let (f, first) ← holding [ov] (getMethod ov name pl)
      callWith pos f first (backTo pos (starEach [] env)) []))
    (hi : interactive env = false) (hs : swapsWith (.Call (.Attribute o name apos) [] [] pos) none spos.line env = pure false) :
    mwpO knd Γ A cc (exec (.Expr (.Call (.Attribute o name apos) [] [] pos) spos) env) QF X σ := fun s R => by
  refine wpAny_Expr_any (MethodCall_ (h.use R fun ov s₁ σ₁ R₁ q => q.use R₁ fun fx s₂ σ₂ R₂ ⟨q1, q2⟩ => ?_) he) hi hs
  refine callWith_K0 (R₂.kin Z.X) q1 (wpAny_call (codeAny_mono (q2 s₂ R₂) fun r s' z => ?_))
  rcases r with e | (_ | _ | _ | v)
  · exact z
  · exact z.elim
  · exact z.elim
  · exact z.elim
  · exact z
theorem o_cons1 {st : Stmt} (h : mwpO knd Γ A cc (exec st env) QF X σ) : mwpO knd Γ A cc (execs [st] env) QF X σ := fun s R =>
  wpAny_execs_cons (wpAny_mono (h s R) (fun f s' ⟨σ', R', q⟩ => by
    cases f with
    | next => exact wpAny_execs_nil ⟨σ', R', q⟩
    | brk => exact ⟨σ', R', q⟩
    | cont => exact ⟨σ', R', q⟩
    | ret v => exact ⟨σ', R', q⟩) fun _ _ e => e)
theorem m_TryO {x : Str} {np p5 pos : Pos} {body suite : List Stmt} {b₀ : Stmt} {outer : List Env} {C : Addr} {newId : String} {bmB : List Value} (Z : Here KK p loose mg mb Γ.base) (F : Fits Γ A) (hfr : A.frames = some (env :: outer)) (hL : env.frame = some Γ.L)
    (h : mwpO knd Γ A (.ref C) (execs body env) QF X σ) (hX : ∀ e σ', X σ' → mwp knd Γ (A.mark (some (.ref e))) (execs (b₀ :: suite) env) QF σ')
    (e : nsIn KK mainGlobals x = some (some (.ref C))) (q : excIn KK C bmB newId = true) (hbase : bmB.contains (.type "BaseException") = true)
    (hk : (env.scope.kind, env.kindOf x, x == ("__debug__" : Str)) = (.function, some .globalImplicit, false)) (hge : env.globals = mainGlobals) :
    mwp knd Γ A (exec (.Try body [.ExceptHandler (some (.Name x np)) none (b₀ :: suite) p5] [] [] pos) env) QF σ := fun s E R => by
  refine wpAny_Try_except (wpAny_mono (h s R) (fun f s₁ ⟨σ₁, R₁, q⟩ => ?_) fun x s₁ ⟨a, σ₁, ex, R₁, x₁, q₁⟩ => ?_)
  · cases f with
    | next => exact wpAny_execs_nil ⟨σ₁, R₁, q⟩
    | brk => exact ⟨σ₁, R₁, q⟩
    | cont => exact ⟨σ₁, R₁, q⟩
    | ret v => exact ⟨σ₁, R₁, q⟩
  subst ex
  refine note_old F hfr hL R₁ x₁ fun s₂ R₂ x₂ => flight_old R₂ x₂ fun s₃ R₃ x₃ => ?_
  have kb : ∀ b o, Γ.base.get? b = some o → s₃.heap.get? b = some o := fun b o e => R₃.keep b o (Γ.sub b o e)
  have n : s₃.heap.Ns env.globals mg := hge ▸ Z.T.g.keeps kb
  have hn : loadName env x = loadGlobal env x := by unfold loadName; simp [congrArg Prod.fst hk, show env.kindOf x = some .globalImplicit from congrArg (·.2.1) hk, ScopeKind.isAnnotationScope, Env.blockKind, show env.scope.kind = .function from congrArg Prod.fst hk]
  refine wpAny_handleBy_cons (codeAny_handlers_test (wpAny_Name (x := x) ?_ (congrArg (·.2.2) hk))) (by intro q; cases q)
  rw [hn]
  refine Calls.loadGlobal_global n (mg_of Z.X Z.T.g e) ?_
  obtain ⟨bm, N, nm, qn, bs, hdct, sn, sub, ab, col, dd, k0, k1, k2, k3, k5, mN, hC, hN, hni, TL⟩ := ((own_of_in Z.X Z.T e q).keeps kb).obj
  obtain ⟨T, oe, vs, oT, ts, ⟨heo, hec, hed, _⟩, _⟩ := id x₃
  refine wpAny_excMatches_sub_self hC heo hec (TL.hasType hbase) (codeAny_handlers_suite ?_)
  exact flight_old R₃ x₃ fun s₅ R₅ x₅ => hX a σ₁ q₁ s₅ _ R₅
end
end Mine
end
section
open PySem PySem.W PyProof.Rows PySem.SeqAt
set_option maxHeartbeats 1000000
namespace Mine
theorem mul_sign {c k : Nat} : Txt.mul (T [c]) (k : Int) = T (List.replicate k c) := by
  unfold Txt.mul
  by_cases h0 : (k : Int) < 1
  · rw [if_pos h0]
    have : k = 0 := by omega
    subst this; rfl
  · rw [if_neg h0]
    by_cases h1 : k = 1
    · subst h1; rfl
    · rw [if_neg (by rw [T_len]; simp; omega)]
      have gen : ∀ (n : Nat) (acc : Array Nat), (List.replicate n (#[c] : Array Nat)).foldl (fun x1 x2 => x1 ++ x2) acc = acc ++ (List.replicate n c).toArray := by
        intro n
        induction n with
        | zero => intro acc; simp
        | succ n ih => intro acc; rw [List.replicate_succ, List.foldl_cons, ih, List.replicate_succ]; apply Array.ext'; simp
      have := gen k #[]
      show (Str.mk ((List.replicate ((k : Int)).toNat #[c]).foldl (fun x1 x2 => x1 ++ x2) #[])) = Str.mk (List.replicate k c).toArray
      rw [Int.toNat_natCast, this]; simp
section
variable {prog : Program} {w : World} {K : Type} [DecidableEq K] {knd : PySem.KeyKind prog w K} {Γ : Fx} {σ : MS K} {A : Around} {env : Env} {α : Type} {s : Shared} {Q : Value → MS K → Prop} {QB : Bool → MS K → Prop} {QU : Unit → MS K → Prop} {QF : Flow → MS K → Prop}
variable {KK : Frag} {p : Program} {loose : List Str} {mg mb : Str → Option Value} {t u : Tok} {l l' : Addr} {xs ys : List V}
theorem m_mulSign {c k : Nat} (hk : k ≤ 1000) (h : ∀ t, Q (.str (T (List.replicate k c)) t) σ) : mwp knd Γ A (binaryOp .Mult (.str (T [c]) t) (.int (k : Int) u)) Q σ := fun s E R => by
  refine SB.mul ⟨by simp; omega, fun h1 h2 => ?_, fun h1 h2 => ?_⟩ fun t' k' => ⟨σ, R.toks, by rw [mul_sign]; exact h t'⟩
  · rw [T_len]
    have : (1000 : Int) ≤ (2 ^ 63 - 1) / (k : Int) := by
      rw [Int.le_ediv_iff_mul_le (by omega)]; omega
    simp only [List.length_cons, List.length_nil]; omega
  · rw [T_len]
    have : ([c].length * ((k : Int)).toNat) ≤ 1000 := by simp; omega
    exact decide_eq_false (Nat.not_lt.mpr (Nat.le_trans this (by decide)))
theorem m_extend (hl : σ.h l = some (.list xs)) (hb : σ.h l' = some (.list ys)) (hsz : xs.length + ys.length ≤ 1000) (h : Q .none (σ.set l (.list (xs ++ ys)))) : mwp knd Γ A (call (.builtin "list.extend") [.ref l, .ref l']) Q σ := fun s E R => by
  obtain ⟨vs, n, e, ar⟩ := R.listX hl
  obtain ⟨us, n2, e2, ar2⟩ := R.listX hb
  have z1 := ar.size
  have z2 := ar2.size
  have z3 : vs.size + us.size ≤ sizeLine := Nat.le_trans (show _ ≤ 1000 by omega) (by decide)
  refine call_meets PySem.F.slot_list_extend ⟨_, e, rfl⟩ PySem.F.entry_list_extend (PySem.F.args_list_extend_2 _ _) (AutoSeq1.list_extend_list_list_0 l vs n l' us n2 (extend_door z3) (Nat.le_trans (Nat.le_add_right _ _) z3) (Nat.le_succ_of_le z3)) ⟨e, e2, ?_⟩
  have e3 : Obj.mapSeq (fun x => x ++ us) ({ cls := .type "list", data := .seq vs n } : Obj) = { cls := .type "list", data := .seq (vs ++ us) (if (vs ++ us).size == vs.size then n else n + 1) } := by unfold Obj.mapSeq; rfl
  exact ⟨_, R.change (tk := s.toks) (o := .list (xs ++ ys)) hl (fun b o hb q => ((Heap.SameBut.update s.heap l _).2 b hb).trans q) (by rw [Heap.get?_update_self _ e (by rw [e3]; rfl), e3]) ⟨_, _, rfl, by simpa using ar.append ar2⟩, h⟩
theorem m_neBool {a b : Bool} (h : Q (.bool (!(a == b))) σ) : mwp knd Γ A (compareOp .NotEq (.bool a) (.bool b)) Q σ := fun s E R => RcNeAt.bool_bool a b _ _ _ _ ⟨σ, R, h⟩
inductive TRows (h : Addr → Option (O K)) : List Addr → List Str → Prop
  | nil : TRows h [] []
  | cons {a : Addr} {k : Str} {as : List Addr} {ks : List Str} : h a = some (.tuple [.str k]) → TRows h as ks → TRows h (a :: as) (k :: ks)
theorem TRows.mono {h h' : Addr → Option (O K)} {as : List Addr} {ks : List Str} (r : TRows h as ks) (hs : ∀ a ∈ as, ∀ o, h a = some o → h' a = some o) : TRows h' as ks := by
  induction r with
  | nil => exact .nil
  | cons e _ ih => exact .cons (hs _ List.mem_cons_self _ e) (ih fun a ha => hs a (List.mem_cons_of_mem _ ha))
theorem TRows.fresh {h : Addr → Option (O K)} {as : List Addr} {ks : List Str} (r : TRows h as ks) {X : Addr} {o : O K} (hX : h X = none) : TRows (put h X o) as ks := r.mono fun _ _ _ e => sub_put hX e
theorem TRows.snoc {h : Addr → Option (O K)} {as : List Addr} {ks : List Str} (r : TRows h as ks) {a : Addr} {k : Str} (e : h a = some (.tuple [.str k])) : TRows h (as ++ [a]) (ks ++ [k]) := by
  induction r with
  | nil => exact .cons e .nil
  | cons e' _ ih => exact .cons e' ih
theorem TRows.length {h : Addr → Option (O K)} {as : List Addr} {ks : List Str} (r : TRows h as ks) : as.length = ks.length := by
  induction r with
  | nil => rfl
  | cons _ _ ih => simp [ih]
theorem TRows.get {h : Addr → Option (O K)} {as : List Addr} {ks : List Str} (r : TRows h as ks) {i : Nat} {a : Addr} (e : as[i]? = some a) : ∃ k, ks[i]? = some k ∧ h a = some (.tuple [.str k]) := by
  induction r generalizing i with
  | nil => simp at e
  | cons e' _ ih =>
    cases i with
    | zero => simp at e; subst e; exact ⟨_, rfl, e'⟩
    | succ i => simpa using ih (by simpa using e)
theorem TRows.mem {h : Addr → Option (O K)} {as : List Addr} {ks : List Str} (r : TRows h as ks) {a : Addr} (e : a ∈ as) : ∃ k, h a = some (.tuple [.str k]) := by
  obtain ⟨i, hi⟩ := List.getElem?_of_mem e
  obtain ⟨k, _, q⟩ := r.get hi
  exact ⟨k, q⟩
noncomputable def TNest (h : Addr → Option (O K)) (D : Addr) (ks : List Str) : Prop := ∃ as, h D = some (.list (as.map .ref)) ∧ TRows h as ks
theorem m_neTups {D D' : Addr} {ks : List Str} (hu : A.units + 10 < cLine) (h1 : TNest σ.h D ks) (h2 : TNest σ.h D' ks) (h : Q (.bool false) σ) : mwp knd Γ A (compareOp .NotEq (.ref D) (.ref D')) Q σ := fun s E R => by
  obtain ⟨as, e1, r1⟩ := h1
  obtain ⟨bs, e2, r2⟩ := h2
  obtain ⟨vs, l1, a1⟩ := R.list e1
  obtain ⟨us, l2, a2⟩ := R.list e2
  have s1 := a1.size
  have s2 := a2.size
  rw [List.length_map] at s1 s2
  have f1 := are_refs a1
  have f2 := are_refs a2
  have := RcNeAt.lists (A := A) (s := s) (e := fun _ => true) l1 l2 (by rw [s1, s2, r1.length, r2.length]) (Nat.lt_of_le_of_lt (Nat.le_add_right _ _) hu) (fun j h1 h2 => by
    have g1 : vs[j]? = some vs[j] := Array.getElem?_eq_getElem h1
    have g2 : us[j]? = some us[j] := Array.getElem?_eq_getElem h2
    rw [← Array.getElem?_toList, f1, List.getElem?_map] at g1
    rw [← Array.getElem?_toList, f2, List.getElem?_map] at g2
    obtain ⟨a, ha, ea⟩ := Option.map_eq_some_iff.mp g1
    obtain ⟨b, hb, eb⟩ := Option.map_eq_some_iff.mp g2
    obtain ⟨k, hx, k1⟩ := r1.get ha
    obtain ⟨k', hy, k2⟩ := r2.get hb
    rw [hx] at hy; cases hy
    rw [← ea, ← eb]
    by_cases hab : a = b
    · subst hab; exact EqAt.same _
    · obtain ⟨vs', l1', a1'⟩ := R.tuple k1
      obtain ⟨us', l2', a2'⟩ := R.tuple k2
      have z1 := a1'.size
      have z2 := a2'.size
      have := RcAt.tuples (A := A.in1) (s := s) (e := fun _ => true) l1' l2' (by show A.units + _ < _; omega) (fun j h1 h2 => by
        have hj : j = 0 := by simp only [List.length_cons, List.length_nil] at z1; omega
        subst hj
        obtain ⟨v1, q1, t1, i1⟩ := a1'.get (i := 0) (x := .str k) rfl
        obtain ⟨v2, q2, t2, i2⟩ := a2'.get (i := 0) (x := .str k) rfl
        rw [Array.getElem?_toList, Array.getElem?_eq_getElem h1] at q1
        rw [Array.getElem?_toList, Array.getElem?_eq_getElem h2] at q2
        cases q1; cases q2
        rw [i1, i2]
        have := EqAt.str_str (A := A.in1.in1) (s := s) k t1 k t2
        rwa [beq_self_eq_true] at this)
      rw [show (((List.range (min vs'.size us'.size)).all fun _ => true) && (vs'.size == us'.size)) = true by rw [z1, z2]; simp] at this
      exact EqAt.of_refs hab this)
  rw [show (!(List.range vs.size).all fun _ => true) = false by simp] at this
  exact this _ _ _ _ ⟨σ, R, h⟩
end
end Mine
end
section
open PySem PySem.W PyProof.Rows PySem.SeqAt
set_option maxHeartbeats 1000000
namespace Mine
section
variable {prog : Program} {w : World} {A : Around} {R : Result → Shared → Prop} {s : Shared}
noncomputable abbrev comp2 (elt t1 i1 t2 i2 : Expr) (scope : Scope) (pos : Pos) : Expr := .ListComp elt [⟨t1, i1, [], 0⟩, ⟨t2, i2, [], 0⟩] scope pos
theorem turn2_in (elt t1 i1 t2 i2 : Expr) (scope : Scope) (pos : Pos) (it acc : Value) (env : Env) :
    compTurn (comp2 elt t1 i1 t2 i2 scope pos) 1 it acc env = (standAt i2.pos >>= fun _ => pyNext it >>= fun r => match r with
      | none => pure (.done .next)
      | some v => letOwnedTupleGo t2 it v >>= fun _ => assign t2 env v >>= fun _ =>
        (eval elt env >>= fun x => call (.builtin "list.append") [acc, x] >>= fun _ => pure ()) >>= fun _ =>
          again (.compLoop (comp2 elt t1 i1 t2 i2 scope pos) 1 it acc env)) := by rfl
theorem turn2_out (elt t1 i1 t2 i2 : Expr) (scope : Scope) (pos : Pos) (it acc : Value) (env : Env) :
    compTurn (comp2 elt t1 i1 t2 i2 scope pos) 0 it acc env = (standAt i1.pos >>= fun _ => pyNext it >>= fun r => match r with
      | none => pure (.done .next)
      | some v => letOwnedTupleGo t1 it v >>= fun _ => assign t1 env v >>= fun _ =>
        eval i2 env >>= fun x => standAt i2.pos >>= fun _ => foldedSetIterable i2 env x >>= fun x => holding [x] (pyIter x) >>= fun it' =>
          runOwn (.compStart (comp2 elt t1 i1 t2 i2 scope pos) 1 it' acc env) env >>= fun _ =>
          again (.compLoop (comp2 elt t1 i1 t2 i2 scope pos) 0 it acc env)) := by rfl
theorem comp2_in {elt t1 i1 t2 i2 : Expr} {scope : Scope} {pos : Pos} {it acc : Value} {env : Env} (I : Nat → Shared → Prop)
    (turn : ∀ n s, I n s → wpAny (model prog w) A (pyNext it) (fun r s₁ => match r with
      | none => R (.ok .next) s₁
      | some v => wpAny (model prog w) A (assign t2 env v) (fun _ s₂ => wpAny (model prog w) A (eval elt env) (fun x s₃ =>
          wpAny (model prog w) A (call (.builtin "list.append") [acc, x]) (fun _ s₄ => ∃ m, m < n ∧ I m s₄) (notedBy (model prog w) A env fun e s' => R (.error e) s') s₃)
          (notedBy (model prog w) A env fun e s' => R (.error e) s') s₂) (notedBy (model prog w) A env fun e s' => R (.error e) s') s₁) (notedBy (model prog w) A env fun e s' => R (.error e) s') s)
    (n : Nat) (h : I n s) (ht : ∀ v, letOwnedTupleGo t2 it v = pure ()) :
    codeAny (model prog w) A (.compLoop (comp2 elt t1 i1 t2 i2 scope pos) 1 it acc env) R s := by
  refine codeAny_loop rfl I (fun n s hI => ?_) n h
  show wpAny _ _ ((compTurn (comp2 elt t1 i1 t2 i2 scope pos) 1 it acc env).onRaise (fun x => do noteFrame x env; theTreesLotGoes x)) _ _ s
  refine wpAny_noted ?_
  rw [turn2_in]
  refine wpAny_bind (wpAny_standAt (wpAny_bind (wpAny_mono (turn n s hI) (fun r s₁ h₁ => ?_) fun _ _ h' => h')))
  cases r with
  | none => exact wpAny_pure h₁
  | some v =>
    refine wpAny_bind (wpAny_of_eq (ht v) ?_)
    exact wpAny_bind (wpAny_mono h₁ (fun _ s₂ h₂ => wpAny_bind (wpAny_bind (wpAny_mono h₂ (fun x s₃ h₃ => wpAny_bind (wpAny_mono h₃
      (fun _ s₄ h₄ => wpAny_pure (wpAny_pure ⟨rfl, h₄⟩)) fun _ _ h' => h')) fun _ _ h' => h'))) fun _ _ h' => h')
theorem comp2_out {elt t1 i1 t2 i2 : Expr} {scope : Scope} {pos : Pos} {it acc : Value} {env : Env} (I : Nat → Shared → Prop)
    (turn : ∀ n s, I n s → wpAny (model prog w) A (pyNext it) (fun r s₁ => match r with
      | none => R (.ok .next) s₁
      | some v => wpAny (model prog w) A (assign t1 env v) (fun _ s₂ => wpAny (model prog w) A (eval i2 env) (fun x s₃ => wpAny (model prog w) A (pyIter x) (fun it' s₄ =>
          codeAny (model prog w) A (.compStart (comp2 elt t1 i1 t2 i2 scope pos) 1 it' acc env) (fun r s₅ => match r with | .ok _ => ∃ m, m < n ∧ I m s₅ | .error e => cameBackBy (model prog w) A env (notedBy (model prog w) A env fun e s' => R (.error e) s') e s₅) s₄)
          (notedBy (model prog w) A env fun e s' => R (.error e) s') s₃)
          (notedBy (model prog w) A env fun e s' => R (.error e) s') s₂) (notedBy (model prog w) A env fun e s' => R (.error e) s') s₁) (notedBy (model prog w) A env fun e s' => R (.error e) s') s)
    (n : Nat) (h : I n s) (ht : ∀ v, letOwnedTupleGo t1 it v = pure ()) (hs : ∀ x, foldedSetIterable i2 env x = pure x) :
    codeAny (model prog w) A (.compLoop (comp2 elt t1 i1 t2 i2 scope pos) 0 it acc env) R s := by
  refine codeAny_loop rfl I (fun n s hI => ?_) n h
  show wpAny _ _ ((compTurn (comp2 elt t1 i1 t2 i2 scope pos) 0 it acc env).onRaise (fun x => do noteFrame x env; theTreesLotGoes x)) _ _ s
  refine wpAny_noted ?_
  rw [turn2_out]
  refine wpAny_bind (wpAny_standAt (wpAny_bind (wpAny_mono (turn n s hI) (fun r s₁ h₁ => ?_) fun _ _ h' => h')))
  cases r with
  | none => exact wpAny_pure h₁
  | some v =>
    refine wpAny_bind (wpAny_of_eq (ht v) ?_)
    refine wpAny_bind (wpAny_mono h₁ (fun _ s₂ h₂ => wpAny_bind (wpAny_mono h₂ (fun x s₃ h₃ => wpAny_bind (wpAny_standAt (wpAny_bind (wpAny_of_eq (hs x) (wpAny_bind (wpAny_holding (wpAny_mono h₃ (fun it' s₄ h₄ => ?_) fun _ _ h' => h'))))))) fun _ _ h' => h')) fun _ _ h' => h')
    refine wpAny_bind (wpAny_runOwn ?_)
    rw [Around.mark_none]
    refine codeAny_mono h₄ fun r s₅ z => ?_
    cases r with
    | ok f => exact wpAny_pure ⟨rfl, z⟩
    | error e => exact z
theorem comp2_start {elt t1 i1 t2 i2 : Expr} {scope : Scope} {pos : Pos} {it acc : Value} {env : Env}
    (h0 : codeAny (model prog w) A (.compLoop (comp2 elt t1 i1 t2 i2 scope pos) 1 it acc env) R s)
    (h : wpAny (model prog w) A (pyIter it) (fun it' s' => codeAny (model prog w) A (.compLoop (comp2 elt t1 i1 t2 i2 scope pos) 1 it' acc env) R s')
      (notedBy (model prog w) A env fun x s' => R (.error x) s') s) :
    codeAny (model prog w) A (.compStart (comp2 elt t1 i1 t2 i2 scope pos) 1 it acc env) R s := by
  refine codeAny_of_tree ?_
  show wpAny _ _ ((compStart (comp2 elt t1 i1 t2 i2 scope pos) 1 it acc env).onRaise (fun x => do noteFrame x env; standAt theWindowsPlace)) _ _ s
  refine wpAny_notedAt ?_
  unfold compStart
  show wpAny _ _ (ask >>= _) _ _ s
  refine wpAny_bind (wpAny_askSetting (wpAny_ite ?_))
  split
  · first
      | exact wpAny_bind (wpAny_pure (wpAny_pure (And.intro rfl h0)))
      | exact wpAny_pure (And.intro rfl h0)
  · first
      | exact wpAny_bind (wpAny_rule (wpAny_bind (wpAny_standAt (wpAny_bind (wpAny_mono h (fun it' s' h' => wpAny_pure (And.intro rfl h')) fun _ _ x => x)))))
      | (refine wpAny_bind (wpAny_rule ?_); show wpAny _ _ (standAt i2.pos >>= _) _ _ s; exact wpAny_bind (wpAny_standAt (wpAny_bind (wpAny_mono h (fun it' s' h' => wpAny_pure (And.intro rfl h')) fun _ _ x => x))))
end
end Mine
end
section
open PySem PySem.W PyProof.Rows PySem.SeqAt
set_option maxHeartbeats 1000000
namespace Mine
section
variable {prog : Program} {w : World} {K : Type} [DecidableEq K] {knd : PySem.KeyKind prog w K} {Γ : Fx} {σ : MS K} {A : Around} {env : Env} {α : Type} {s : Shared} {Q : Value → MS K → Prop} {QB : Bool → MS K → Prop} {QU : Unit → MS K → Prop} {QF : Flow → MS K → Prop}
theorem inner2 {D I : Addr} {od ob : Obj} {bI : Γ.B I = none} {bD : Γ.B D = none} {bD' : (Γ.freeze I ob bI).B D = none} {elt t1 i1 i2 : Expr} {x : Str} {px : Pos} {scope : Scope} {pos : Pos} {cenv : Env} {R : Result → Shared → Prop} {v : Value} {xs : List V} {ok : MS K → Prop} {It : Nat → Obj → Prop}
    (hl : cenv.locals = Γ.L) (hx : cenv.kindOf x = some .local) (hk : cenv.scope.kind = .function) (Y : Yields knd A v xs ok It) {m : Str → Option V} {hp h0 : Addr → Option (O K)} {ys : List V} {f : V → V}
    (Rs : Rel knd ((Γ.freeze I ob bI).freeze D od bD') ⟨m, hp⟩ s) (i0 : It 0 ob) (hod : (O.list ys : O K).is knd od) (hsub : ∀ a o, h0 a = some o → hp a = some o) (hok : ∀ m' h', (∀ a o, h0 a = some o → h' a = some o) → ok ⟨m', h'⟩) (hsz : ys.length + xs.length ≤ sizeLine)
    (step : ∀ y ∈ xs, ∀ ob1 hb1 od1 hd1, mwp knd ((Γ.freeze I ob1 hb1).freeze D od1 hd1) A (eval elt cenv) (fun e σ₃ => (∀ a o, h0 a = some o → σ₃.h a = some o) ∧ (f y).is e) ⟨fun z => if z = x then some y else none, h0⟩)
    (fin : ∀ s' m' hp' od', Rel knd (Γ.freeze D od' bD) ⟨m', hp'⟩ s' → (∀ a o, h0 a = some o → hp' a = some o) → (O.list (ys ++ xs.map f) : O K).is knd od' → R (.ok .next) s') :
    codeAny (model prog w) A (.compLoop (comp2 elt t1 i1 (.Name x px) i2 scope pos) 1 (.ref I) (.ref D) cenv) R s := by
  have hDI : D ≠ I := fun q => by have := bD'; simp only [Fx.freeze, put] at this; rw [if_pos q] at this; cases this
  have hCD : D ≠ Γ.L := Rs.frozenL
  have hCI : I ≠ Γ.L := Rs.thaw.frozenL
  have oI : ∀ p ∈ Γ.outs, I ≠ p.1 := Rs.thaw.frozenO
  have oD : ∀ p ∈ Γ.outs, D ≠ p.1 := Rs.frozenO
  have bDI : ∀ oi, (Γ.freeze I oi bI).B D = none := fun oi => freeze_none bD hDI
  refine comp2_in (ht := by intro _; rfl) (fun k s' => ∃ i m hp oi od, Rel knd ((Γ.freeze I oi bI).freeze D od (bDI oi)) ⟨m, hp⟩ s' ∧ (∀ a o, h0 a = some o → hp a = some o) ∧ It i oi ∧ (O.list (ys ++ (xs.take i).map f) : O K).is knd od ∧ i ≤ xs.length ∧ k = xs.length + 1 - i) ?_ (xs.length + 1)
    ⟨0, m, hp, ob, od, Rs, hsub, i0, by simpa using hod, Nat.zero_le _, rfl⟩
  rintro k s' ⟨i, m, hp, oi, od, R', hJ, hi, hod, hle, rfl⟩
  have RI := R'.thaw
  have Rb := RI.thaw
  by_cases hlt : i < xs.length
  · obtain ⟨y, hy⟩ : ∃ y, xs[i]? = some y := ⟨xs[i], by simp [hlt]⟩
    refine Y.item _ ⟨m, hp⟩ s' _ _ I oi i y Rb (hok _ _ hJ) RI.frozenH RI.frozenG hi hy fun v' h₁ tk₁ ob₁ hv e₁ g₁ i₁ => ?_
    have Ra : Rel knd (Γ.freeze I ob₁ bI) ⟨m, hp⟩ { s' with heap := h₁, toks := tk₁ } := (Rb.extBut bI hCI oI RI.frozenH e₁).freeze g₁ bI hCI oI RI.frozenH
    have Rf : Rel knd ((Γ.freeze I ob₁ bI).freeze D od (bDI ob₁)) ⟨m, hp⟩ { s' with heap := h₁, toks := tk₁ } := Ra.freeze (e₁ _ _ hDI R'.frozenG) (bDI ob₁) hCD oD R'.frozenH
    refine wpAny_assign_Name ?_
    refine (m_store (knd := knd) (Γ := (Γ.freeze I ob₁ bI).freeze D od (bDI ob₁)) (env := cenv) (x := x) (Q := fun _ σ₂ => σ₂ = MS.store ⟨m, hp⟩ x y) hv rfl hk hx hl).use Rf ?_
    rintro _ s₂ σ₂ R₅ rfl
    have R₆ := R₅.less (σ' := ⟨fun z => if z = x then some y else none, h0⟩) (fun a o e => hJ a o e) (fun z v e => by
      show putS m x y z = some v
      simp only [putS]
      dsimp only at e
      split at e
      · rename_i q; rw [if_pos q]; exact e
      · cases e)
    refine (step y (List.mem_of_getElem? hy) ob₁ bI od (bDI ob₁)).use R₆ fun e s₄ σ₄ R₈ ⟨hJ', he'⟩ => ?_
    obtain ⟨vs, n, rfl, ar⟩ := hod
    have Rt := R₈.thaw
    refine append_at (its := vs) (n := n) R₈.frozenG (fun h₉ sb₉ g₉ => ?_) (by
      have a2 := ar.length
      have a3 : vs.toList.length = vs.size := Array.length_toList
      rw [← a3, ← a2, List.length_append, List.length_map, List.length_take]
      exact Nat.le_trans (by lia) hsz)
    refine ⟨xs.length + 1 - (i + 1), by lia, i + 1, σ₄.m, σ₄.h, ob₁, { cls := .type "list", data := .seq (vs.push e) (n + 1) }, ?_, hJ', i₁, ⟨vs.push e, n + 1, rfl, ?_⟩, hlt, rfl⟩
    · exact (Rt.extBut (bDI ob₁) hCD oD R₈.frozenH (fun b o hb q => (sb₉.2 b hb).trans q)).freeze g₉ (bDI ob₁) hCD oD R₈.frozenH
    · have := ar.push he'
      rw [List.take_add_one, hy]
      simpa using this
  · have hin : i = xs.length := by lia
    subst hin
    refine Y.done _ ⟨m, hp⟩ s' _ _ I oi Rb (hok _ _ hJ) RI.frozenH RI.frozenG hi fun h₁ tk₁ e₁ => ?_
    have Ra : Rel knd Γ ⟨m, hp⟩ { s' with heap := h₁, toks := tk₁ } := Rb.extBut bI hCI oI RI.frozenH e₁
    have Rd : Rel knd (Γ.freeze D od bD) ⟨m, hp⟩ { s' with heap := h₁, toks := tk₁ } := Ra.freeze (e₁ _ _ hDI R'.frozenG) bD hCD oD R'.frozenH
    exact fin _ _ _ _ Rd hJ (by simpa using hod)
inductive Comp2Q (knd : PySem.KeyKind prog w K) (Γ : Fx) (A : Around) (env : Env) (elt : Expr) (x2 : Str) (scope : Scope) (cl : List (Str × Addr)) (Q : Value → MS K → Prop) (v : Value) (σ₁ : MS K) : Prop
  | mk (as : List Addr) (gr : Addr → List V) (l : Addr) (hv : v = .ref l) (hl : σ₁.h l = some (.list (as.map .ref))) (hg : ∀ a ∈ as, σ₁.h a = some (.tuple (gr a))) (hsz : (as.flatMap gr).length ≤ sizeLine) (f : V → V)
      (step : ∀ a ∈ as, ∀ y ∈ gr a, ∀ C I ob hb I2 ob2 hb2 D od hd, mwp knd ((((Γ.enter C σ₁.m).freeze I ob hb).freeze I2 ob2 hb2).freeze D od hd) A (eval elt (cenvOf scope env C cl)) (fun e σ₃ => (∀ a o, σ₁.h a = some o → σ₃.h a = some o) ∧ (f y).is e) ⟨fun z => if z = x2 then some y else none, σ₁.h⟩)
      (fin : ∀ D, σ₁.h D = none → Q (.ref D) (σ₁.set D (.list ((as.flatMap gr).map f))))
theorem m_Comp2 {elt iter : Expr} {x1 x2 : Str} {p1 p2 p3 : Pos} {scope : Scope} {pos : Pos} {cl : List (Str × Addr)} (hh : A.handled = none)
    (h : mwp knd Γ A (eval iter env) (Comp2Q knd Γ A env elt x2 scope cl Q) σ)
    (hclos : closureFor scope env = pure cl) (hcell : ∀ y ∈ scope.names, y.2 ≠ .cell) (hkind : scope.kind = .function) (hnames : ∀ y ∈ scope.names, y.2 = .local → scope.names.lookup y.1 = some .local)
    (hx : (relabel scope env).names.lookup x1 = some .local) (hx2 : (relabel scope env).names.lookup x2 = some .local) (hd1 : (x1 == ("__debug__" : Str)) = false) (hs : ∀ x, foldedSetIterable iter env x = pure x) :
    mwp knd Γ A (eval (.ListComp elt [⟨.Name x1 p1, iter, [], 0⟩, ⟨.Name x2 p2, .Name x1 p3, [], 0⟩] scope pos) env) Q σ := fun s E R => by
  rw [eval_ListComp]
  refine comp_pre (use := none) (P := fun a s' => ∃ σ', Rel knd Γ σ' s' ∧ Q a σ') hclos hcell hkind hnames hs (mwp_mono h fun v σ₁ q => ?_) R
  obtain ⟨as, gr, l, hv, hl, hg, hsz, f, step, fin⟩ := q
  subst hv
  refine ⟨as.map V.ref, _, _, yields_list (knd := knd) (A := A) hh (ax := l) (xs := as.map V.ref), hl, fun C I D ob s₄ K i0 => ?_⟩
  have Y := yields_list (knd := knd) (A := A) hh (ax := l) (xs := as.map V.ref)
  obtain ⟨bI', bD, hDI, hCD, hCI, oI', oD', R₄, gI4, gD4, h1, hDh⟩ := K
  have bDI : ∀ oi, ((Γ.enter C σ₁.m).freeze I oi bI').B D = none := fun oi => freeze_none bD hDI
  have hal : (as.map V.ref).length = as.length := List.length_map _
  refine comp2_out (ht := by intro _; rfl) (hs := by intro _; rfl) (fun k s' => ∃ (i : Nat), ∃ hp m oi od, Rel knd (((Γ.enter C σ₁.m).freeze I oi bI').freeze D od (bDI oi)) ⟨m, hp⟩ s' ∧ (∀ a o, σ₁.h a = some o → hp a = some o) ∧ (oi.cls = .type "list_iterator" ∧ oi.data = .fields #[.ref l, .int i 0]) ∧ (O.list (((as.take i).flatMap gr).map f) : O K).is knd od ∧ i ≤ as.length ∧ k = as.length + 1 - i) ?_ (as.length + 1)
    ⟨0, σ₁.h, _, ob, _, (R₄.freeze gI4 bI' hCI oI' h1).freeze gD4 (bDI ob) hCD oD' hDh, fun _ _ e => e, i0, ⟨_, _, rfl, .nil⟩, Nat.zero_le _, rfl⟩
  rintro k s' ⟨i, hp, m, oi, od, R', hJ, hi, hod, hle, rfl⟩
  have RI := R'.thaw
  have Rb := RI.thaw
  by_cases hlt : i < as.length
  · obtain ⟨a, ha⟩ : ∃ a, as[i]? = some a := ⟨as[i], by simp [hlt]⟩
    have ham := List.mem_of_getElem? ha
    have hy : (as.map V.ref)[i]? = some (.ref a) := by rw [List.getElem?_map, ha]; rfl
    refine Y.item _ ⟨m, hp⟩ s' _ _ I oi i (.ref a) Rb (hJ _ _ hl) RI.frozenH RI.frozenG hi hy fun v' h₁ tk₁ ob₁ hv e₁ g₁ i₁ => ?_
    have Ra : Rel knd ((Γ.enter C σ₁.m).freeze I ob₁ bI') ⟨m, hp⟩ { s' with heap := h₁, toks := tk₁ } := (Rb.extBut bI' hCI oI' RI.frozenH e₁).freeze g₁ bI' hCI oI' RI.frozenH
    have Rf : Rel knd (((Γ.enter C σ₁.m).freeze I ob₁ bI').freeze D od (bDI ob₁)) ⟨m, hp⟩ { s' with heap := h₁, toks := tk₁ } := Ra.freeze (e₁ _ _ hDI R'.frozenG) (bDI ob₁) hCD oD' R'.frozenH
    refine wpAny_assign_Name ?_
    refine (m_store (knd := knd) (Γ := ((Γ.enter C σ₁.m).freeze I ob₁ bI').freeze D od (bDI ob₁)) (env := cenvOf scope env C cl) (x := x1) (Q := fun _ σ₂ => σ₂ = MS.store ⟨m, hp⟩ x1 (.ref a)) hv rfl hkind hx rfl).use Rf ?_
    rintro _ s₂ σ₂ R₅ rfl
    refine (m_Name (knd := knd) (Γ := ((Γ.enter C σ₁.m).freeze I ob₁ bI').freeze D od (bDI ob₁)) (env := cenvOf scope env C cl) (x := x1) (Q := fun v σ₂ => v = .ref a ∧ σ₂ = MS.store ⟨m, hp⟩ x1 (.ref a)) (m_lr (by show putS m x1 (.ref a) x1 = _; unfold putS; rw [if_pos rfl]) ⟨rfl, rfl⟩ hkind hx rfl) hd1).use R₅ ?_
    rintro _ s₃ σ₃ R₆ ⟨rfl, rfl⟩
    have Y2 := yields_tuple (knd := knd) (A := A) hh (ax := a) (xs := gr a)
    refine Y2.start _ _ s₃ _ _ R₆ (hJ _ _ (hg a ham)) fun I2 h₇ tk₇ ob2 hI2 ext7 gI2 i20 => ?_
    have R₇ := R₆.ext (h' := h₇) (tk := tk₇) ext7
    have R₇i := R₇.thaw
    have bI2 : ((Γ.enter C σ₁.m).freeze I ob₁ bI').B I2 = none := by
      cases q : ((Γ.enter C σ₁.m).freeze I ob₁ bI').B I2 with
      | none => rfl
      | some o => have := R₆.thaw.keep _ _ q; rw [hI2] at this; cases this
    have lI2 : I2 ≠ ((Γ.enter C σ₁.m).freeze I ob₁ bI').L := fun x => by obtain ⟨o, ho⟩ := R₆.cur.get; rw [show (((Γ.enter C σ₁.m).freeze I ob₁ bI').freeze D od (bDI ob₁)).L = _ from rfl] at ho; rw [x] at hI2; rw [show s₃.heap.get? ((Γ.enter C σ₁.m).freeze I ob₁ bI').L = some o from ho] at hI2; cases hI2
    have oI2 : ∀ p ∈ ((Γ.enter C σ₁.m).freeze I ob₁ bI').outs, I2 ≠ p.1 := fun p hp x => by obtain ⟨o, ho⟩ := (R₆.out p hp).get; rw [← x, hI2] at ho; cases ho
    have hI2h : hp I2 = none := by
      cases q : hp I2 with
      | none => rfl
      | some o => obtain ⟨ob, h1, _⟩ := R₆.obj I2 _ q; rw [hI2] at h1; cases h1
    have hDI2 : D ≠ I2 := fun x => by have := R₆.frozenG; rw [x, hI2] at this; cases this
    have bD2 : ∀ o2, (((Γ.enter C σ₁.m).freeze I ob₁ bI').freeze I2 o2 bI2).B D = none := fun o2 => freeze_none (bDI ob₁) hDI2
    have Rin : Rel knd ((((Γ.enter C σ₁.m).freeze I ob₁ bI').freeze I2 ob2 bI2).freeze D od (bD2 ob2)) (MS.store ⟨m, hp⟩ x1 (.ref a)) { s₃ with heap := h₇, toks := tk₇ } :=
      (R₇i.freeze gI2 bI2 lI2 oI2 hI2h).freeze (ext7 _ _ R₆.frozenG) (bD2 ob2) hCD oD' R'.frozenH
    have tk2 : as.take (i + 1) = as.take i ++ [a] := by rw [List.take_add_one, ha]; rfl
    have lin : codeAny (model prog w) A (.compLoop (comp2 elt (.Name x1 p1) iter (.Name x2 p2) (.Name x1 p3) scope pos) 1 (.ref I2) (.ref D) (cenvOf scope env C cl)) (fun r s₅ => match r with
        | .ok _ => ∃ k, k < as.length + 1 - i ∧ ∃ (i : Nat), ∃ hp m oi od, Rel knd (((Γ.enter C σ₁.m).freeze I oi bI').freeze D od (bDI oi)) ⟨m, hp⟩ s₅ ∧ (∀ a o, σ₁.h a = some o → hp a = some o) ∧ (oi.cls = .type "list_iterator" ∧ oi.data = .fields #[.ref l, .int i 0]) ∧ (O.list (((as.take i).flatMap gr).map f) : O K).is knd od ∧ i ≤ as.length ∧ k = as.length + 1 - i
        | .error e => cameBackBy (model prog w) A (cenvOf scope env C cl) (notedBy (model prog w) A (cenvOf scope env C cl) fun e s' => compPost (model prog w) A E none (fun a s' => ∃ σ', Rel knd Γ σ' s' ∧ Q a σ') (.ref D) C (.error e) s') e s₅) { s₃ with heap := h₇, toks := tk₇ } := by
      refine inner2 (Γ := (Γ.enter C σ₁.m).freeze I ob₁ bI') (bI := bI2) (bD := bDI ob₁) (bD' := bD2 ob2) rfl hx2 hkind Y2 (h0 := σ₁.h) (f := f) (ys := ((as.take i).flatMap gr).map f) Rin i20 hod hJ (fun m' h' q => q _ _ (hg a ham)) ?_ (fun y hy ob1 hb1 od1 hd1 => step a ham y hy C I ob₁ bI' I2 ob1 hb1 D od1 hd1) ?_
      · have hsp : as = as.take (i + 1) ++ as.drop (i + 1) := (List.take_append_drop _ _).symm
        have : ((as.take (i + 1)).flatMap gr).length ≤ (as.flatMap gr).length := by
          conv => rhs; rw [hsp, List.flatMap_append, List.length_append]
          lia
        rw [tk2, List.flatMap_append, List.length_append] at this
        simp only [List.flatMap_cons, List.flatMap_nil, List.append_nil] at this
        rw [List.length_map]
        lia
      · intro s₈ m8 hp8 od8 R8 sub8 is8
        refine ⟨as.length + 1 - (i + 1), by lia, i + 1, hp8, m8, ob₁, od8, R8, sub8, i₁, ?_, hlt, rfl⟩
        rw [tk2, List.flatMap_append]
        simpa using is8
    refine comp2_start lin ?_
    exact Y2.again _ _ _ _ _ I2 ob2 R₇ (hJ _ _ (hg a ham)) gI2 i20 lin
  · have hin : i = as.length := by lia
    subst hin
    refine Y.done _ ⟨m, hp⟩ s' _ _ I oi Rb (hJ _ _ hl) RI.frozenH RI.frozenG (by rw [hal]; exact hi) fun h₁ tk₁ e₁ => ?_
    have Ra : Rel knd (Γ.enter C σ₁.m) ⟨m, hp⟩ { s' with heap := h₁, toks := tk₁ } := Rb.extBut bI' hCI oI' RI.frozenH e₁
    have Rd : Rel knd ((Γ.enter C σ₁.m).freeze D od bD) ⟨m, hp⟩ { s' with heap := h₁, toks := tk₁ } := Ra.freeze (e₁ _ _ hDI R'.frozenG) bD hCD oD' R'.frozenH
    have Ro := Rd.own hod
    have Rl : Rel knd Γ ⟨σ₁.m, put hp D (.list (((as.take as.length).flatMap gr).map f))⟩ { s' with heap := h₁, toks := tk₁ } := Ro.leave R.bL R.bO R.lO
    have bC : Γ.B C = none := Ro.bL
    have lC : C ≠ Γ.L := fun x => Ro.lO (Γ.L, σ₁.m) (.head _) x.symm
    have oC : ∀ p ∈ Γ.outs, C ≠ p.1 := fun p hp x => Ro.lO p (.tail _ hp) x.symm
    have hCh : put hp D (O.list (((as.take as.length).flatMap gr).map f)) C = none := Ro.hL
    obtain ⟨mC, nC, _⟩ := Ra.cur
    have fq := fin D (none_sub hJ R'.frozenH)
    rw [List.take_length] at Rl hCh
    have Rz := Rl.less (σ' := σ₁.set D (.list ((as.flatMap gr).map f))) (put_mono hJ) (fun _ _ e => e)
    exact ⟨mC, nC, fun h'' sb'' => ⟨_, Rz.extBut (tk := tk₁) bC lC oC (none_sub (put_mono hJ) hCh) fun b o hb q => (sb''.2 b hb).trans q, fq⟩⟩
end
end Mine
end
section
open PySem PySem.W PyProof.Rows PySem.SeqAt
set_option maxHeartbeats 1000000
namespace Mine
section
variable {prog : Program} {w : World} {K : Type} [DecidableEq K] {knd : PySem.KeyKind prog w K} {Γ : Fx} {σ : MS K} {A : Around} {env : Env} {α : Type} {s : Shared} {Q : Value → MS K → Prop} {QB : Bool → MS K → Prop} {QU : Unit → MS K → Prop} {QF : Flow → MS K → Prop} {X : MS K → Prop} {cc : Value}
theorem o_aside {c : Code} {h0 : Addr → Option (O K)} (hs : ∀ a o, h0 a = some o → σ.h a = some o)
    (h : ∀ B' sub', mcodeO knd { Γ with B := B', sub := sub' } A cc c Q X ⟨σ.m, h0⟩) :
    mcodeO knd Γ A cc c (fun v σ' => ∃ σ₁, Q v σ₁ ∧ Aside σ h0 σ₁ σ') (fun σ' => ∃ σ₁, X σ₁ ∧ Aside σ h0 σ₁ σ') σ := fun s R => by
  classical
  refine codeAny_mono (h _ (Γ.aside (fun a => h0 a = none ∧ σ.h a ≠ none) s.heap).sub s (aside_in hs R)) fun r s' z => ?_
  rcases r with e | (_ | _ | _ | v)
  · obtain ⟨a, σ₁, rfl, R', ⟨T, oe, vs, oT, ts, p1, ⟨x1, x2, x3, x4⟩, y1, y2, y3, y4⟩, q⟩ := z
    obtain ⟨σ', Rn, as, nn⟩ := aside_out R R'
    exact ⟨a, σ', rfl, Rn, ⟨T, oe, vs, oT, ts, p1, ⟨(nn a x1 x4).1, x2, x3, (nn a x1 x4).2⟩, (nn T y1 y4).1, y2, y3, (nn T y1 y4).2⟩, σ₁, q, as⟩
  · exact z
  · exact z
  · exact z
  · obtain ⟨σ₁, R', q⟩ := z
    obtain ⟨σ', Rn, as, _⟩ := aside_out R R'
    exact ⟨σ', Rn, σ₁, q, as⟩
theorem mcodeO_mono {c : Code} {Q' : Value → MS K → Prop} {X' : MS K → Prop} (h : mcodeO knd Γ A cc c Q X σ) (q : ∀ v σ', Q v σ' → Q' v σ') (x : ∀ σ', X σ' → X' σ') : mcodeO knd Γ A cc c Q' X' σ := fun s R => codeAny_mono (h s R) fun r s' z => by
  rcases r with e | (_ | _ | _ | v)
  · obtain ⟨a, σ₁, e1, R', o1, q1⟩ := z; exact ⟨a, σ₁, e1, R', o1, x _ q1⟩
  · exact z
  · exact z
  · exact z
  · obtain ⟨σ₁, R', q1⟩ := z; exact ⟨σ₁, R', q _ _ q1⟩
end
end Mine
end
section
open PySem PySem.W PyProof.Rows PySem.SeqAt
set_option maxHeartbeats 1000000
namespace Mine
section
variable {prog : Program} {w : World} {Γ : Fx} {σ : MS Ky} {A : Around} {env : Env} {α : Type} {s : Shared} {Q : Value → MS Ky → Prop} {QB : Bool → MS Ky → Prop} {QU : Unit → MS Ky → Prop} {QF : Flow → MS Ky → Prop}
variable {p : Program} {loose : List Str} {mg mb : Str → Option Value} {t u v : Tok} {n : Nat} {l : Addr} {a : Ad} {S : SS} {k : Ky}
noncomputable def SS.prep (S : SS) : SS := { S with rd := some (S.ord.filter fun k => S.np k == 0) }
theorem m_Joined1 {v : Expr} {pos : Pos} (h : mwp (kyK prog w) Γ A (eval v env) Q σ) : mwp (kyK prog w) Γ A (eval (.JoinedStr [v] pos) env) Q σ := by
  unfold mwp at *
  exact fun s E R => wpAny_JoinedStr_one (h s E R)
theorem c_prepareO {X : MS Ky → Prop} (r : Rep a S σ.h) (hr : S.rd = none) (hcl : ∀ k ∈ S.ord, ∀ s ∈ S.su k, s ∈ S.ord) (hsz : S.ord.length ≤ 1000) (F : Fits Γ A) (Z : Here (Mine.hd1.heap_1 w.params) p loose mg mb Γ.base) (hA : Dp A (n + 2))
    (h : Acyc S → ∀ a' h', a'.x = a.x → Rep a' S.prep h' → Q .none ⟨σ.m, h'⟩) (hX : ¬ Acyc S → ∀ a' h', a'.x = a.x → Rep a' S.prep h' → X ⟨σ.m, h'⟩) : mcodeO (kyK prog w) Γ A (.ref 99) (.call (.ref 136) ⟨[.ref a.x], []⟩) Q X σ := by
  refine c_funO (ho := by k_is) (hb := by rfl) (hcd := by k_is) (hlk := by decide) (hco := by rfl) (hgen := by rfl) (hk := by rfl) (hcell := by decide) ["self"] [.ref a.x] Z hA F (.cons rfl .nil) ?_
  intro L'
  have hh : ∀ e, (A.deeper e).handled = none := fun e => hA.hd
  have hx := r.hx
  have hdx := r.hdx
  obtain ⟨ep, hdd⟩ := r.hdd
  unfold fieldsOf at hdx
  rw [hr] at hdx
  refine x_cons ?_
  refine m_If ?_
  refine m_abs fun Zq0 hZq0 => ?_
  refine m_isCompare (hm := by with_unfolding_all rfl) ?_
  refine m_Attr (he := by with_unfolding_all rfl) ?_
  refine evR (EvP.nm (v := .ref _) (by rfl)) ?_
  first | refine m_attrR (hg := by k_is) (hh := by k_is) (ha := by k_is) (hn := by k_is) (Here.X (by assumption)) (by walk_at "hl") (by walk_at "hl") (by rfl) ?_ | refine m_attrI (hg := by k_is) (hh := by k_is) (ha := by k_is) (hn := by k_is) (Here.X (by assumption)) (by walk_at "hl") (by walk_at "hl") (by rfl) fun _ => ?_ | refine m_attrN (hg := by k_is) (hh := by k_is) (ha := by k_is) (hn := by k_is) (Here.X (by assumption)) (by walk_at "hl") (by walk_at "hl") (by rfl) ?_
  refine evN EvP.none ?_
  refine m_isnot (by rfl) ?_
  refine m_trBool ?_
  refine hZq0 _ _ ?_
  skip
  refine ifalse (by decide) ?_
  refine m_nil ?_
  refine x_cons ?_
  refine m_AssignAttr (hs := by rfl) ?_
  refine m_CompI (hclos := by rfl) (hcell := by decide) (hkind := by rfl) (hnames := by decide) (hx := by rfl) (hs := by intro _; rfl) (ι := Ky) ?_
  refine m_abs fun Zq1 hZq1 => ?_
  refine m_Method (he := by rfl) ?_
  refine m_Attr (he := by with_unfolding_all rfl) ?_
  refine evR (EvP.nm (v := .ref _) (by rfl)) ?_
  first | refine m_attrR (hg := by k_is) (hh := by k_is) (ha := by k_is) (hn := by k_is) (Here.X (by assumption)) (by walk_at "hl") (by walk_at "hl") (by rfl) ?_ | refine m_attrI (hg := by k_is) (hh := by k_is) (ha := by k_is) (hn := by k_is) (Here.X (by assumption)) (by walk_at "hl") (by walk_at "hl") (by rfl) fun _ => ?_ | refine m_attrN (hg := by k_is) (hh := by k_is) (ha := by k_is) (hn := by k_is) (Here.X (by assumption)) (by walk_at "hl") (by walk_at "hl") (by rfl) ?_
  refine m_methDict (by walk_at "hl") PySem.F.slot_dict_values PySem.F.type_dict_values ?_
  refine m_callB0 ?_
  refine m_dictValues Z.sys hdd fun vw hvw => ?_
  have hvw : σ.h vw = none := hvw
  refine hZq1 _ _ ?_
  have yv := fun e => yields_values (knd := kyK prog w) (A := A.deeper e) (hh e) (v := vw) (d := a.dd) (kvs := S.ord.map fun k => (k, V.ref (a.aN k))) (ep := ep)
  have em : (S.ord.map fun k => (k, V.ref (a.aN k))).map (·.2) = S.ord.map fun k => V.ref (a.aN k) := by rw [List.map_map]; rfl
  rw [em] at yv
  skip
  refine ⟨S.ord, fun k => V.ref (a.aN k), _, _, yv _, Nat.le_trans hsz (by decide), fun σ' hs => ⟨hs _ _ (sub_put hvw hdd), hs _ _ put_same⟩, fun k => S.np k == 0, kyV, ?_, ?_⟩
  · intro y hy C I ob hb D od hd
    refine (?_ : mwp (kyK prog w) _ _ _ _ _)
    have hN := r.hN y hy
    unfold nodeOf at hN
    have hN := sub_put (x := O.values a.dd) hvw hN
    have hD := sub_put (x := O.values a.dd) hvw (r.hD y hy).1
    refine m_abs fun Zq2 hZq2 => ?_
    refine m_isCompare (hm := by with_unfolding_all rfl) ?_
    refine m_Attr (he := by with_unfolding_all rfl) ?_
    refine evR (EvP.nm (v := .ref _) (by rfl)) ?_
    refine m_slotI (ha := by k_is) (hg := by k_is) (hc := by k_is) (hn := by k_is) (ht := by k_is) (p := 86) (j := 1) (Here.X (by assumption)) (by walk_at "hl") (by walk_at "hl") (by first | k_is | rfl) (by rfl) fun _ => ?_
    refine evI EvP.int fun _ => ?_
    refine m_eqi ?_
    refine m_trBool ?_
    refine hZq2 _ _ ?_
    refine ⟨rfl, ite_of (fun e => ?_) fun e => ?_⟩
    · refine m_Attr (he := by with_unfolding_all rfl) ?_
      refine evR (EvP.nm (v := .ref _) (by rfl)) ?_
      first | refine m_slotI (ha := by k_is) (hg := by k_is) (hc := by k_is) (hn := by k_is) (ht := by k_is) (p := 85) (j := 0) (Here.X (by assumption)) (by walk_at "hl") (by walk_at "hl") (by first | k_is | rfl) (by rfl) fun _ => ?_ | refine m_slotS (ha := by k_is) (hg := by k_is) (hc := by k_is) (hn := by k_is) (ht := by k_is) (p := 85) (j := 0) (Here.X (by assumption)) (by walk_at "hl") (by walk_at "hl") (by first | k_is | rfl) (by rfl) fun _ => ?_
      skip
      exact ⟨fun _ _ e => e, _, rfl⟩
    · exact fun _ _ e => e
  intro D hD
  have hD : put σ.h vw (.values a.dd) D = none := hD
  refine evR (EvP.nm (v := .ref _) (by rfl)) ?_
  refine m_setAttr (hs := by k_is) (hp := by k_is) (ht := by k_is) (hh := by k_is) (v := .ref D) Z.X (by walk_at "hl") (by walk_at "hl") rfl (by show 4 ≤ 900; decide) ?_
  skip
  refine x_cons ?_
  have r2 := r.mkRd hr (none_put hD) (S.ord.filter fun k => S.np k == 0)
  have nvw : vw ≠ D := (ne_put hD).symm
  have nvx : vw ≠ a.dx := (ne_none r.hdx hvw).symm
  refine m_weak (m' := names [("self", .ref a.x)]) (h' := put (put σ.h D (.list ((S.ord.filter fun k => S.np k == 0).map kyV))) a.dx (.idict (fieldsOf { a with ra := D } { S with rd := some (S.ord.filter fun k => S.np k == 0) }))) (by exact Mine.Sub.of rfl) ?_ ?_
  · intro b o e
    show put (put (put σ.h vw _) D _) a.dx _ b = some o
    rw [put_comm nvw, put_comm nvx]
    refine sub_put ?_ e
    rw [put_other nvx, put_other nvw]; exact hvw
  revert r2
  generalize put (put σ.h D (.list ((S.ord.filter fun k => S.np k == 0).map kyV))) a.dx (.idict (fieldsOf { a with ra := D } { S with rd := some (S.ord.filter fun k => S.np k == 0) })) = hp2
  intro r2
  clear hx hdx hdd
  have hx := r2.hx
  have hdx := r2.hdx
  unfold fieldsOf at hdx
  refine m_AssignName (hs := by rfl) ?_
  refine m_abs fun Zq2 hZq2 => ?_
  refine m_Method (he := by rfl) ?_
  refine evR (EvP.nm (v := .ref _) (by rfl)) ?_
  refine m_method (hf := by k_is) (hg := by k_is) (ht := by k_is) (Here.X (by assumption)) (by walk_at "hl") (by walk_at "hl") (by rfl) ?_
  refine m_callZ0 (hk := by k_is) (by assumption) ?_
  refine m_code (c_find_cycle (a := { a with ra := D }) (S := S.prep) r2 hcl hsz (F.deeper (L := L') (m := σ.m)) Z (hA.deeper _) (fun hac => ?_) fun hna Dc xs hne hlen hDc => ?_)
  · refine hZq2 _ _ ?_
    refine m_stn (hk := by rfl) (hl := by rfl) (he := by rfl) ?_
    refine x_consX (x_If ?_)
    refine m_abs fun Zq3 hZq3 => ?_
    refine m_isValue (he := by rfl) ?_
    refine evN (EvP.nm (v := .none) (by rfl)) ?_
    refine m_trNone ?_
    refine hZq3 _ _ ?_
    skip
    refine ifalse (by decide) ?_
    refine x_mwp ?_
    refine m_nil ?_
    refine x_mwp ?_
    refine m_nil ?_
    exact h hac { a with ra := D } _ rfl r2
  · refine hZq2 _ _ ?_
    refine m_str' (hk := by rfl) (hl := by rfl) (he := by rfl) ?_
    refine x_consX (x_If ?_)
    refine m_abs fun Zq3 hZq3 => ?_
    refine m_isValue (he := by rfl) ?_
    refine evR (EvP.nm (v := .ref _) (by rfl)) ?_
    refine m_trList put_same (by omega) ?_
    refine hZq3 _ _ ?_
    refine itrue (by cases xs with | nil => exact absurd rfl hne | cons _ _ => rfl) ?_
    refine x_consX (x_Raise (he := by rfl) (hplain := by rfl) (hk := by rfl) (hge := by rfl) (bmB := [.type "ValueError", .type "Exception", .type "BaseException", .type "object"]) (newId := "ValueError.__new__") Z PySem.F.excBase_ValueError (hA.deeper _).hd ?_ (by k_is) (by k_exc))
    refine m_splE (he := by rfl) ?_
    refine m_Joined1 ?_
    refine evS EvP.str fun _ => ?_
    refine m_splE (he := by rfl) ?_
    refine evR (EvP.nm (v := .ref _) (by rfl)) ?_
    refine m_splE0 ?_
    refine ⟨by show 2 ≤ sizeLine; decide, ?_⟩
    exact hX (fun q => hna q) { a with ra := D } _ rfl (r2.fresh hDc)
end
end Mine
end
section
open PySem PySem.W PyProof.Rows PySem.SeqAt
set_option maxHeartbeats 1000000
namespace Mine
section
variable {prog : Program} {w : World} {K : Type} [DecidableEq K] {knd : PySem.KeyKind prog w K} {Γ : Fx} {σ : MS K} {A : Around} {env : Env} {α : Type} {s : Shared} {Q : Value → MS K → Prop} {QB : Bool → MS K → Prop} {QU : Unit → MS K → Prop} {QF : Flow → MS K → Prop}
variable {p : Program} {loose : List Str} {mg mb : Str → Option Value} {t u v : Tok} {n : Nat} {l : Addr}
noncomputable def signD (a b : Int) : Int := if (a == b) = true then 0 else if decide (a < 52) = true then (if decide (b < 52) = true then (if (a.fmod 26 == b.fmod 26) = true then 1 else 2) else 2) else 2
theorem c_sign {a b : Int} (Z : Here (Mine.hd1.heap_1 w.params) p loose mg mb Γ.base) (hA : Dp A n) (h : ∀ t, Q (.int (signD a b) t) σ) : mcode knd Γ A (.call (.ref 204) ⟨[.int a t, .int b u], []⟩) Q σ := by
  refine c_fun (ho := by k_is) (hb := by rfl) (hcd := by k_is) (hlk := by decide) (hco := by rfl) (hgen := by rfl) (hk := by rfl) (hcell := by decide) ["a", "b"] [.int a, .int b] Z hA (.cons ⟨t, rfl⟩ (.cons ⟨u, rfl⟩ .nil)) ?_
  intro L'
  unfold signD at h
  refine m_cons ?_
  refine m_If ?_
  refine tvU (TvP.eqi (hm := by with_unfolding_all rfl) (EvP.nm (v := .int _) (by rfl)) (EvP.nm (v := .int _) (by rfl))) ?_
  refine ite_of (fun e => ?_) fun e => ?_
  · rw [if_pos e] at h
    refine m_abs fun Zq0 hZq0 => ?_
    refine m_cons ?_
    refine m_Return ?_
    refine evI EvP.int fun _ => ?_
    refine hZq0 _ _ ?_
    exact ⟨_, fun _ _ e => e, h _⟩
  rw [if_neg e] at h
  refine m_nil ?_
  refine m_cons ?_
  refine m_If ?_
  refine m_isBoolOp ?_
  refine m_andCons ?_
  refine tvU (TvP.lti (hm := by with_unfolding_all rfl) (EvP.nm (v := .int _) (by rfl)) EvP.int) ?_
  refine ite_of (fun e1 => ?_) fun e1 => ?_
  rotate_left
  · rw [if_neg e1] at h
    skip
    refine ifalse (by decide) ?_
    refine m_nil ?_
    refine m_cons ?_
    refine m_Return ?_
    refine evI EvP.int fun _ => ?_
    exact ⟨_, fun _ _ e => e, h _⟩
  rw [if_pos e1] at h
  refine m_andCons ?_
  refine tvU (TvP.lti (hm := by with_unfolding_all rfl) (EvP.nm (v := .int _) (by rfl)) EvP.int) ?_
  refine ite_of (fun e2 => ?_) fun e2 => ?_
  rotate_left
  · rw [if_neg e2] at h
    skip
    refine ifalse (by decide) ?_
    refine m_nil ?_
    refine m_cons ?_
    refine m_Return ?_
    refine evI EvP.int fun _ => ?_
    exact ⟨_, fun _ _ e => e, h _⟩
  rw [if_pos e2] at h
  refine m_andCons ?_
  refine tvU (TvP.eqi (hm := by with_unfolding_all rfl) (EvP.mod (EvP.nm (v := .int _) (by rfl)) EvP.int (by first | decide | assumption)) (EvP.mod (EvP.nm (v := .int _) (by rfl)) EvP.int (by first | decide | assumption))) ?_
  refine ite_of (fun e3 => ?_) fun e3 => ?_
  · rw [if_pos e3] at h
    refine m_andNil ?_
    refine itrue rfl ?_
    refine m_abs fun Zq0 hZq0 => ?_
    refine m_cons ?_
    refine m_Return ?_
    refine evI EvP.int fun _ => ?_
    refine hZq0 _ _ ?_
    exact ⟨_, fun _ _ e => e, h _⟩
  · rw [if_neg e3] at h
    skip
    refine ifalse (by decide) ?_
    refine m_nil ?_
    refine m_cons ?_
    refine m_Return ?_
    refine evI EvP.int fun _ => ?_
    exact ⟨_, fun _ _ e => e, h _⟩
noncomputable def leastStep (c d : Int) (s : Int × Int) (one : Int) : Int × Int := (min s.1 (s.2 + signD d one), min s.2 (signD c one))
noncomputable def leastF (c d : Int) : List Int → Int
  | [] => 4
  | v :: vs => (vs.foldl (leastStep c d) (4, signD c v)).1
inductive LeastJ {K : Type} (c d : Int) (s0 : Int × Int) (vs : List Int) (h0 : Addr → Option (O K)) (i : Nat) (σ' : MS K) : Prop
  | mk (r : Int × Int) (e : (vs.take i).foldl (leastStep c d) s0 = r) (hf : Fit σ' (names [("c", .int c), ("d", .int d), ("least", .int r.1), ("ahead", .int r.2)]) h0)
theorem c_least {c d v0 : Int} {vs : List Int} (hl : σ.h l = some (.list ((v0 :: vs).map V.int))) (hlen : (v0 :: vs).length ≤ 1000) (Z : Here (Mine.hd1.heap_1 w.params) p loose mg mb Γ.base) (hA : Dp A (n + 1)) (h : ∀ t, Q (.int (leastF c d (v0 :: vs)) t) σ) :
    mcode knd Γ A (.call (.ref 211) ⟨[.ref l, .int c t, .int d u], []⟩) Q σ := by
  refine c_fun (ho := by k_is) (hb := by rfl) (hcd := by k_is) (hlk := by decide) (hco := by rfl) (hgen := by rfl) (hk := by rfl) (hcell := by decide) ["values", "c", "d"] [.ref l, .int c, .int d] Z hA (.cons rfl (.cons ⟨t, rfl⟩ (.cons ⟨u, rfl⟩ .nil))) ?_
  intro L'
  have hh : ∀ e, (A.deeper e).handled = none := fun e => hA.hd
  have hA1 : ∀ e, Dp (A.deeper e) n := fun e => hA.deeper e
  refine m_AssignE (hk := by rfl) (he := by rfl) (hs := by rfl) EvP.int ?_
  refine m_cons ?_
  refine m_AssignName (hs := by rfl) ?_
  refine m_Call (he := by rfl) ?_
  refine m_Name (hd := by decide) ?_
  first | refine m_gK (e := by k_is) (hk := by rfl) (hl := by rfl) (he := by rfl) (by assumption) ?_ | refine m_gB (e := by k_is) (hv := by rfl) (hn := by decide) (hk := by rfl) (hl := by rfl) (he := by rfl) (hf := by rfl) (by assumption) ?_
  refine m_callZ (hk := by k_is) (he := by rfl) (hplain := by rfl) (by assumption) ?_
  refine m_splE (he := by rfl) ?_
  refine evI (EvP.nm (v := .int _) (by rfl)) fun _ => ?_
  refine m_splE (he := by rfl) ?_
  refine m_Sub ?_
  refine evR (EvP.nm (v := .ref _) (by rfl)) ?_
  refine evI EvP.int fun _ => ?_
  refine m_atLi (hs := by with_unfolding_all rfl) (k := 0) hl (by decide) rfl fun _ => ?_
  refine m_splE0 ?_
  refine m_code (c_sign Z (hA1 _) fun _ => ?_)
  refine m_sti (hk := by rfl) (hl := by rfl) (he := by rfl) ?_
  refine m_cons ?_
  refine m_then (P := fun σ' => Fit σ' (names [("least", .int (leastF c d (v0 :: vs)))]) σ.h) ?_ ?_
  · refine m_For (hs := by intro _; rfl) (hk := by rfl) (hl := by rfl) (he := by rfl) ?_
    refine m_SubSlice ?_
    refine evR (EvP.nm (v := .ref _) (by rfl)) ?_
    refine m_part ?_
    refine evI EvP.int fun _ => ?_
    refine m_part0 ?_
    refine .inr ⟨l, _, rfl, hl, by rw [List.length_map]; exact Nat.le_trans hlen (by decide), .inr ⟨1, _, rfl, rfl, fun D hD => ?_⟩⟩
    skip
    refine ⟨_, _, _, yields_list (hh _) (xs := vs.map V.int), LeastJ c d (4, signD c v0) vs (put σ.h D (.list (vs.map V.int))), ⟨_, rfl, by exact ⟨by exact Mine.Sub.of rfl, fun _ _ e => e⟩⟩, ?_, ?_, ?_⟩
    · rintro i σ' ⟨r, e, hf⟩; exact hf.2 _ _ put_same
    · rintro i y σ' I ob hb hy ⟨r, e, hf⟩
      obtain ⟨one, ho, rfl⟩ := map_get hy
      refine m_fitS hf ?_
      refine m_abs fun Zq0 hZq0 => ?_
      refine m_cons ?_
      refine m_AssignName (hs := by rfl) ?_
      refine m_Call (he := by rfl) ?_
      refine m_Name (hd := by decide) ?_
      first | refine m_gK (e := by k_is) (hk := by rfl) (hl := by rfl) (he := by rfl) (by assumption) ?_ | refine m_gB (e := by k_is) (hv := by rfl) (hn := by decide) (hk := by rfl) (hl := by rfl) (he := by rfl) (hf := by rfl) (by assumption) ?_
      refine m_callB (he := by rfl) (hplain := by rfl) ?_
      refine m_splE (he := by rfl) ?_
      refine evI (EvP.nm (v := .int _) (by rfl)) fun _ => ?_
      refine m_splE (he := by rfl) ?_
      refine m_BinOp ?_
      refine evI (EvP.nm (v := .int _) (by rfl)) fun _ => ?_
      refine m_abs fun Zq1 hZq1 => ?_
      refine m_Call (he := by rfl) ?_
      refine m_Name (hd := by decide) ?_
      first | refine m_gK (e := by k_is) (hk := by rfl) (hl := by rfl) (he := by rfl) (by assumption) ?_ | refine m_gB (e := by k_is) (hv := by rfl) (hn := by decide) (hk := by rfl) (hl := by rfl) (he := by rfl) (hf := by rfl) (by assumption) ?_
      refine m_callZ (hk := by k_is) (he := by rfl) (hplain := by rfl) (by assumption) ?_
      refine m_splE (he := by rfl) ?_
      refine evI (EvP.nm (v := .int _) (by rfl)) fun _ => ?_
      refine m_splE (he := by rfl) ?_
      refine evI (EvP.nm (v := .int _) (by rfl)) fun _ => ?_
      refine m_splE0 ?_
      refine m_code (c_sign Z (hA1 _) fun _ => ?_)
      refine hZq1 _ _ ?_
      refine m_add fun _ => ?_
      refine m_splE0 ?_
      refine m_min (hh _) fun _ => ?_
      refine m_sti (hk := by rfl) (hl := by rfl) (he := by rfl) ?_
      refine m_cons ?_
      refine m_AssignName (hs := by rfl) ?_
      refine m_Call (he := by rfl) ?_
      refine m_Name (hd := by decide) ?_
      first | refine m_gK (e := by k_is) (hk := by rfl) (hl := by rfl) (he := by rfl) (by assumption) ?_ | refine m_gB (e := by k_is) (hv := by rfl) (hn := by decide) (hk := by rfl) (hl := by rfl) (he := by rfl) (hf := by rfl) (by assumption) ?_
      refine m_callB (he := by rfl) (hplain := by rfl) ?_
      refine m_splE (he := by rfl) ?_
      refine evI (EvP.nm (v := .int _) (by rfl)) fun _ => ?_
      refine m_splE (he := by rfl) ?_
      refine m_abs fun Zq2 hZq2 => ?_
      refine m_Call (he := by rfl) ?_
      refine m_Name (hd := by decide) ?_
      first | refine m_gK (e := by k_is) (hk := by rfl) (hl := by rfl) (he := by rfl) (by assumption) ?_ | refine m_gB (e := by k_is) (hv := by rfl) (hn := by decide) (hk := by rfl) (hl := by rfl) (he := by rfl) (hf := by rfl) (by assumption) ?_
      refine m_callZ (hk := by k_is) (he := by rfl) (hplain := by rfl) (by assumption) ?_
      refine m_splE (he := by rfl) ?_
      refine evI (EvP.nm (v := .int _) (by rfl)) fun _ => ?_
      refine m_splE (he := by rfl) ?_
      refine evI (EvP.nm (v := .int _) (by rfl)) fun _ => ?_
      refine m_splE0 ?_
      refine m_code (c_sign Z (hA1 _) fun _ => ?_)
      refine hZq2 _ _ ?_
      refine m_splE0 ?_
      refine m_min (hh _) fun _ => ?_
      refine m_sti (hk := by rfl) (hl := by rfl) (he := by rfl) ?_
      refine m_nil ?_
      refine hZq0 _ _ ?_
      refine ⟨leastStep c d r one, ?_, by exact ⟨by exact Mine.Sub.of rfl, fun _ _ e => e⟩⟩
      rw [List.take_add_one, ho, List.foldl_append, e]; rfl
    · rintro σ' ⟨r, e, hf⟩
      rw [List.length_map, List.take_length] at e
      skip
      refine ⟨rfl, ?_, fun a o q => hf.2 a o (put_sub hD a o q)⟩
      show Sub _ _
      have e' : leastF c d (v0 :: vs) = r.1 := by show (List.foldl (leastStep c d) (4, signD c v0) vs).fst = _; rw [e]
      rw [e']
      exact fun z v q => hf.1 z v (show names _ z = _ by revert q; exact (show Sub (names _) (names _) by exact Mine.Sub.of rfl) z v)
  intro σ' hf
  refine m_fit hf ?_
  refine m_cons ?_
  refine m_Return ?_
  refine evI (EvP.nm (v := .int _) (by rfl)) fun _ => ?_
  exact ⟨_, fun _ _ e => e, h _⟩
end
end Mine
end
section
open PySem PySem.W PyProof.Rows PySem.SeqAt
set_option maxHeartbeats 1000000
namespace Mine
noncomputable def numF (b : Int) (xs : List Int) : Int := xs.foldl (fun a x => a * b + x) 0
theorem numF_snoc {b x : Int} {xs : List Int} : numF b (xs ++ [x]) = numF b xs * b + x := by unfold numF; rw [List.foldl_append]; rfl
theorem pow5 {m : Nat} (h : m ≤ 5) : Builtin.Int.intBits ((2 : Int) ^ m) ≤ 64 := by
  have : ∀ m : Fin 6, Builtin.Int.intBits ((2 : Int) ^ m.val) ≤ 64 := by decide
  exact this ⟨m, by omega⟩
noncomputable def valsF : Nat → Int → List Int → List Int
  | 0, _, acc => acc
  | k + 1, num, acc => valsF k (num.fdiv 64) (num.fmod 64 :: acc)
noncomputable def sizeF (n : Nat) : Nat := (8 * n + 5) / 6
noncomputable def valuesF (xs : List Int) : List Int := valsF (sizeF xs.length) (numF 256 xs * 2 ^ (6 * sizeF xs.length - 8 * xs.length)) []
section
variable {prog : Program} {w : World} {K : Type} [DecidableEq K] {knd : PySem.KeyKind prog w K} {Γ : Fx} {σ : MS K} {A : Around} {env : Env} {α : Type} {s : Shared} {Q : Value → MS K → Prop} {QB : Bool → MS K → Prop} {QU : Unit → MS K → Prop} {QF : Flow → MS K → Prop}
variable {p : Program} {loose : List Str} {mg mb : Str → Option Value} {t u v : Tok} {n : Nat} {l : Addr}
inductive ValJ {K : Type} (R : Addr) (sz : Nat) (res : List Int) (h0 : Addr → Option (O K)) (i : Nat) (σ' : MS K) : Prop
  | mk (num : Int) (acc : List Int) (Dv : Addr) (hp : Addr → Option (O K)) (e : valsF (sz - i) num acc = res) (ea : acc.length = i) (hf : Fit σ' (names [("number", .int num), ("values", .ref Dv)]) hp) (hs : ∀ a o, h0 a = some o → hp a = some o) (hv : hp Dv = some (.list (acc.map V.int))) (n0 : h0 Dv = none) (hR : hp R = some (.range 0 sz 1))
inductive ValE {K : Type} (res : List Int) (h0 : Addr → Option (O K)) (σ' : MS K) : Prop
  | mk (Dv : Addr) (hp : Addr → Option (O K)) (hf : Fit σ' (names [("values", .ref Dv)]) hp) (hs : ∀ a o, h0 a = some o → hp a = some o) (hv : hp Dv = some (.list (res.map V.int))) (n0 : h0 Dv = none)
theorem c_values {xs : List Int} (hl : σ.h l = some (.list (xs.map V.int))) (hx : ∀ x ∈ xs, 0 ≤ x ∧ x < 256) (hlen : xs.length ≤ 4) (Z : Here (Mine.hd1.heap_1 w.params) p loose mg mb Γ.base) (hA : Dp A n) (h : ∀ D, σ.h D = none → Q (.ref D) (σ.set D (.list ((valuesF xs).map V.int)))) :
    mcode knd Γ A (.call (.ref 192) ⟨[.ref l], []⟩) Q σ := by
  refine c_fun (ho := by k_is) (hb := by rfl) (hcd := by k_is) (hlk := by decide) (hco := by rfl) (hgen := by rfl) (hk := by rfl) (hcell := by decide) ["octets"] [.ref l] Z hA (.cons rfl .nil) ?_
  intro L'
  have hh : ∀ e, (A.deeper e).handled = none := fun e => hA.hd
  have hm1 : ∀ b, IntMulOk 8 b := fun b => .of_left (by decide)
  refine m_cons ?_
  refine m_AssignName (hs := by rfl) ?_
  refine m_BinOp ?_
  refine m_BinOp ?_
  refine m_BinOp ?_
  refine evI EvP.int fun _ => ?_
  refine m_abs fun Zq0 hZq0 => ?_
  refine m_Call (he := by rfl) ?_
  refine m_Name (hd := by decide) ?_
  first | refine m_gK (e := by k_is) (hk := by rfl) (hl := by rfl) (he := by rfl) (by assumption) ?_ | refine m_gB (e := by k_is) (hv := by rfl) (hn := by decide) (hk := by rfl) (hl := by rfl) (he := by rfl) (hf := by rfl) (by assumption) ?_
  refine m_callB (he := by rfl) (hplain := by rfl) ?_
  refine m_splE (he := by rfl) ?_
  refine evR (EvP.nm (v := .ref _) (by rfl)) ?_
  refine m_splE0 ?_
  refine m_lenList hl (by rw [List.length_map]; omega) fun _ => ?_
  refine hZq0 _ _ ?_
  first | refine m_mul (by first | exact IntMulOk.of_right (by decide) | exact IntMulOk.of_left (by decide) | assumption) fun _ => ?_ | refine m_mul ?_ fun _ => ?_
  refine evI EvP.int fun _ => ?_
  refine m_add fun _ => ?_
  refine evI EvP.int fun _ => ?_
  first | refine m_div (by first | decide | assumption) (noPylong (by first | decide | assumption)) fun _ => ?_ | refine m_div ?_ ?_ fun _ => ?_
  refine m_sti (hk := by rfl) (hl := by rfl) (he := by rfl) ?_
  refine m_AssignE (hk := by rfl) (he := by rfl) (hs := by rfl) EvP.int ?_
  refine m_cons ?_
  rw [List.length_map]
  have esz : (8 * (xs.length : Int) + 5).fdiv 6 = (sizeF xs.length : Nat) := by unfold sizeF; rw [Int.fdiv_eq_ediv_of_nonneg _ (by decide)]; omega
  rw [esz]
  refine m_then (P := fun σ' => Fit σ' (names [("octets", .ref l), ("size", .int (sizeF xs.length : Nat)), ("number", .int (numF 256 xs))]) σ.h) ?_ ?_
  · refine m_For (hs := by intro _; rfl) (hk := by rfl) (hl := by rfl) (he := by rfl) ?_
    refine evR (EvP.nm (v := .ref _) (by rfl)) ?_
    refine ⟨_, _, _, yields_list (hh _) (xs := xs.map V.int), fun i σ' => Fit σ' (names [("octets", .ref l), ("size", .int (sizeF xs.length : Nat)), ("number", .int (numF 256 (xs.take i)))]) σ.h, by exact ⟨by exact Mine.Sub.of rfl, fun _ _ e => e⟩, fun i σ' hf => hf.2 _ _ hl, ?_, ?_⟩
    · rintro i y σ' I ob hb hy hf
      obtain ⟨one, ho, rfl⟩ := map_get hy
      refine m_fitS hf ?_
      have hi : i < xs.length := (List.getElem?_eq_some_iff.mp ho).1
      refine m_AssignE (hk := by rfl) (he := by rfl) (hs := by rfl) (EvP.add (EvP.mul (EvP.nm (v := .int _) (by rfl)) EvP.int (by first | exact IntMulOk.of_right (by decide) | exact IntMulOk.of_left (by decide) | assumption)) (EvP.nm (v := .int _) (by rfl))) ?_
      refine m_nil ?_
      rw [show xs.take (i + 1) = xs.take i ++ [one] by rw [List.take_add_one, ho]; rfl, numF_snoc]
      exact by exact ⟨by exact Mine.Sub.of rfl, fun _ _ e => e⟩
    · intro σ' hf
      rw [List.length_map, List.take_length] at hf
      exact ⟨rfl, hf⟩
  intro σ' hf
  refine m_fit hf ?_
  have hsz : sizeF xs.length ≤ 6 := by unfold sizeF; omega
  have hsz2 : 8 * xs.length ≤ 6 * sizeF xs.length ∧ 6 * sizeF xs.length - 8 * xs.length ≤ 5 := by unfold sizeF; omega
  refine m_cons ?_
  refine m_AssignName (hs := by rfl) ?_
  refine m_BinOp ?_
  refine evI (EvP.nm (v := .int _) (by rfl)) fun _ => ?_
  refine m_BinOp ?_
  refine evI EvP.int fun _ => ?_
  refine m_BinOp ?_
  refine evI (EvP.mul EvP.int (EvP.nm (v := .int _) (by rfl)) (by first | exact IntMulOk.of_right (by decide) | exact IntMulOk.of_left (by decide) | assumption)) fun _ => ?_
  refine m_BinOp ?_
  refine evI EvP.int fun _ => ?_
  refine m_abs fun Zq1 hZq1 => ?_
  refine m_Call (he := by rfl) ?_
  refine m_Name (hd := by decide) ?_
  first | refine m_gK (e := by k_is) (hk := by rfl) (hl := by rfl) (he := by rfl) (by assumption) ?_ | refine m_gB (e := by k_is) (hv := by rfl) (hn := by decide) (hk := by rfl) (hl := by rfl) (he := by rfl) (hf := by rfl) (by assumption) ?_
  refine m_callB (he := by rfl) (hplain := by rfl) ?_
  refine m_splE (he := by rfl) ?_
  refine evR (EvP.nm (v := .ref _) (by rfl)) ?_
  refine m_splE0 ?_
  refine m_lenList hl (by rw [List.length_map]; omega) fun _ => ?_
  refine hZq1 _ _ ?_
  first | refine m_mul (by first | exact IntMulOk.of_right (by decide) | exact IntMulOk.of_left (by decide) | assumption) fun _ => ?_ | refine m_mul ?_ fun _ => ?_
  refine m_sub fun _ => ?_
  rw [List.length_map]
  have ep : ((6 : Int) * (sizeF xs.length : Nat) - 8 * (xs.length : Int)).toNat = 6 * sizeF xs.length - 8 * xs.length := by omega
  refine m_pow (by omega) (by show (2 : Int) * _ ≤ _; omega) fun _ => ?_
  first | refine m_mul (by first | exact IntMulOk.of_right (by decide) | exact IntMulOk.of_left (by decide) | assumption) fun _ => ?_ | refine m_mul ?_ fun _ => ?_
  · exact IntMulOk.of_right (by rw [ep]; exact pow5 hsz2.2)
  rw [ep]
  refine m_sti (hk := by rfl) (hl := by rfl) (he := by rfl) ?_
  refine m_cons ?_
  refine m_AssignName (hs := by rfl) ?_
  refine m_List ?_
  refine m_splE0 ?_
  refine m_newList .nil (by decide) fun D0 hD0 => ?_
  have hD0 : σ.h D0 = none := hD0
  refine m_str' (hk := by rfl) (hl := by rfl) (he := by rfl) ?_
  refine m_cons ?_
  refine m_then (P := ValE (valuesF xs) σ.h) ?_ ?_
  · refine m_For (hs := by intro _; rfl) (hk := by rfl) (hl := by rfl) (he := by rfl) ?_
    refine m_Call (he := by rfl) ?_
    refine m_Name (hd := by decide) ?_
    first | refine m_gK (e := by k_is) (hk := by rfl) (hl := by rfl) (he := by rfl) (by assumption) ?_ | refine m_gB (e := by k_is) (hv := by rfl) (hn := by decide) (hk := by rfl) (hl := by rfl) (he := by rfl) (hf := by rfl) (by assumption) ?_
    refine m_callT (he := by rfl) (hplain := by rfl) ?_
    refine m_splE (he := by rfl) ?_
    refine evI (EvP.nm (v := .int _) (by rfl)) fun _ => ?_
    refine m_splE0 ?_
    refine m_range1 fun R hR => ?_
    have hR : put σ.h D0 (.list []) R = none := hR
    skip
    refine ⟨_, _, _, yields_range (hh _) (sizeF xs.length) (range_small (by omega)).1 (range_small (by omega)).2, ValJ R (sizeF xs.length) (valuesF xs) σ.h,
      ⟨_, [], D0, _, rfl, rfl, by exact ⟨by exact Mine.Sub.of rfl, fun _ _ e => e⟩, fun a o e => sub_put hR (sub_put hD0 e), sub_put hR put_same, hD0, put_same⟩, ?_, ?_, ?_⟩
    · rintro i σ' ⟨num, acc, Dv, hp, e, ea, hf, hs, hv, n0, hR'⟩; exact hf.2 _ _ hR'
    · rintro i y σ' I ob hb hy ⟨num, acc, Dv, hp, e, ea, hf, hs, hv, n0, hR'⟩
      obtain ⟨hi, rfl⟩ := range_item hy
      refine m_fitS hf ?_
      refine m_abs fun Zq2 hZq2 => ?_
      refine m_cons ?_
      refine m_AssignName (hs := by rfl) ?_
      refine m_BinOp ?_
      refine m_List ?_
      refine m_splE (he := by rfl) ?_
      refine evI (EvP.mod (EvP.nm (v := .int _) (by rfl)) EvP.int (by first | decide | assumption)) fun _ => ?_
      refine m_splE0 ?_
      refine m_newList (xs := [.int (num.fmod 64)]) (.cons ⟨_, rfl⟩ .nil) (by show 1 ≤ sizeLine; decide) fun D1 hD1 => ?_
      have hD1 : hp D1 = none := hD1
      refine evR (EvP.nm (v := .ref _) (by rfl)) ?_
      refine m_addLists (l := D1) (l' := Dv) put_same (sub_put hD1 hv) (by rw [List.length_map, ea]; exact Nat.le_trans (show [V.int (num.fmod 64)].length + i ≤ 10 by simp; omega) (by decide)) fun D2 hD2 => ?_
      have hD2 : put hp D1 _ D2 = none := hD2
      refine m_str' (hk := by rfl) (hl := by rfl) (he := by rfl) ?_
      refine m_AssignE (hk := by rfl) (he := by rfl) (hs := by rfl) (EvP.div (EvP.nm (v := .int _) (by rfl)) EvP.int (by first | decide | assumption) (by first | decide | assumption)) ?_
      refine m_nil ?_
      refine hZq2 _ _ ?_
      refine ⟨num.fdiv 64, num.fmod 64 :: acc, D2, _, ?_, by simp [ea], by exact ⟨by exact Mine.Sub.of rfl, fun _ _ e => e⟩, fun a o q => sub_put hD2 (sub_put hD1 (hs a o q)), put_same, none_sub hs (none_put hD2), sub_put hD2 (sub_put hD1 hR')⟩
      rw [← e, show sizeF xs.length - i = (sizeF xs.length - (i + 1)) + 1 by omega]; rfl
    · rintro σ' ⟨num, acc, Dv, hp, e, ea, hf, hs, hv, n0, hR'⟩
      rw [List.length_map, List.length_range, Nat.sub_self] at e
      have e : acc = valuesF xs := e
      subst e
      exact ⟨rfl, Dv, hp, ⟨fun z v q => hf.1 z v (by revert q; exact (show Sub (names _) (names _) by exact Mine.Sub.of rfl) z v), hf.2⟩, hs, hv, n0⟩
  rintro σ' ⟨Dv, hp, hf, hs, hv, n0⟩
  refine m_fit hf ?_
  refine m_cons ?_
  refine m_Return ?_
  refine evR (EvP.nm (v := .ref _) (by rfl)) ?_
  refine ⟨put σ.h Dv (.list ((valuesF xs).map V.int)), fun a o q => ?_, h Dv n0⟩
  unfold put at q
  split at q
  · rename_i z; rw [z]; cases q; exact hv
  · exact hs a o q
end
end Mine
end
section
open PySem PySem.W PyProof.Rows PySem.SeqAt
set_option maxHeartbeats 4000000
namespace Mine
noncomputable def cod (a : Int) : Nat := (sign a).toNat
theorem tab_sign : ∀ a b : Fin 64, sc (cod (a.val : Int)) (cod (b.val : Int)) = signD (a.val : Int) (b.val : Int) := by decide +kernel
theorem tab_cod : ∀ a b : Fin 64, cod (a.val : Int) = cod (b.val : Int) → a = b := by decide +kernel
theorem to64 {m : Int} (h : 0 ≤ m ∧ m < 64) : ∃ f : Fin 64, m = (f.val : Int) := ⟨⟨m.toNat, by omega⟩, by simp; omega⟩
theorem sc_sign {a b : Int} (ha : 0 ≤ a ∧ a < 64) (hb : 0 ≤ b ∧ b < 64) : sc (cod a) (cod b) = signD a b := by
  obtain ⟨f, rfl⟩ := to64 ha; obtain ⟨g, rfl⟩ := to64 hb; exact tab_sign f g
theorem cod_inj {a b : Int} (ha : 0 ≤ a ∧ a < 64) (hb : 0 ≤ b ∧ b < 64) (h : cod a = cod b) : a = b := by
  obtain ⟨f, rfl⟩ := to64 ha; obtain ⟨g, rfl⟩ := to64 hb; rw [tab_cod f g h]
end Mine
end
section
open PySem PySem.W PyProof.Rows PySem.SeqAt
set_option maxHeartbeats 1000000
namespace Mine
noncomputable def Dd : List Nat → List Nat → Int
  | [], rb => 2 * (rb.length : Int)
  | _ :: ra, [] => 2 * ((ra.length : Int) + 1)
  | c :: ra, x :: rb => min (min (Dd ra (x :: rb)) (Dd (c :: ra) rb) + 2) (Dd ra rb + sc x c)
termination_by ra rb => ra.length + rb.length
theorem Dd_nil (rb : List Nat) : Dd [] rb = 2 * (rb.length : Int) := by unfold Dd; rfl
theorem Dd_nil2 (ra : List Nat) : Dd ra [] = 2 * (ra.length : Int) := by cases ra <;> unfold Dd <;> simp
theorem Dd_cons (c x : Nat) (ra rb : List Nat) : Dd (c :: ra) (x :: rb) = min (min (Dd ra (x :: rb)) (Dd (c :: ra) rb) + 2) (Dd ra rb + sc x c) := by rw [Dd]
theorem sc_b (x y : Nat) : 0 ≤ sc x y ∧ sc x y ≤ 2 := by
  unfold sc sCost; split
  · lia
  · split <;> lia
theorem sc_self (x : Nat) : sc x x = 0 := by unfold sc sCost; rw [if_pos (by simp)]
theorem min_le1 {a b c : Int} : min (min a b + 2) c ≤ a + 2 := by lia
theorem min_le2 {a b c : Int} : min (min a b + 2) c ≤ b + 2 := by lia
theorem min_le3 {a b c : Int} : min (min a b + 2) c ≤ c := by lia
theorem min_cases {a b c : Int} : min (min a b + 2) c = a + 2 ∨ min (min a b + 2) c = b + 2 ∨ min (min a b + 2) c = c := by lia
theorem Dd_up1 (c : Nat) (ra rb : List Nat) : Dd (c :: ra) rb ≤ Dd ra rb + 2 := by
  cases rb with
  | nil => rw [Dd_nil2, Dd_nil2, List.length_cons]; lia
  | cons x rb => rw [Dd_cons]; exact min_le1
theorem Dd_up2 (x : Nat) (ra rb : List Nat) : Dd ra (x :: rb) ≤ Dd ra rb + 2 := by
  cases ra with
  | nil => rw [Dd_nil, Dd_nil, List.length_cons]; lia
  | cons c ra => rw [Dd_cons]; exact min_le2
theorem Dd_low2 (x : Nat) : ∀ ra rb : List Nat, Dd ra rb ≤ Dd ra (x :: rb) + 2
  | [], rb => by rw [Dd_nil, Dd_nil, List.length_cons]; lia
  | c :: ra, rb => by
    rw [Dd_cons]
    have h1 := Dd_low2 x ra rb
    have h2 := Dd_up1 c ra rb
    have h3 := (sc_b x c).1
    rcases min_cases (a := Dd ra (x :: rb)) (b := Dd (c :: ra) rb) (c := Dd ra rb + sc x c) with e | e | e <;> rw [e] <;> lia
theorem Dd_low1 (c : Nat) : ∀ rb ra : List Nat, Dd ra rb ≤ Dd (c :: ra) rb + 2
  | [], ra => by rw [Dd_nil2, Dd_nil2, List.length_cons]; lia
  | x :: rb, ra => by
    rw [Dd_cons]
    have h1 := Dd_low1 c rb ra
    have h2 := Dd_up2 x ra rb
    have h3 := (sc_b x c).1
    rcases min_cases (a := Dd ra (x :: rb)) (b := Dd (c :: ra) rb) (c := Dd ra rb + sc x c) with e | e | e <;> rw [e] <;> lia
theorem Dd_same (c : Nat) (ra rb : List Nat) : Dd (c :: ra) (c :: rb) = Dd ra rb := by
  rw [Dd_cons, sc_self]
  have h1 := Dd_low2 c ra rb
  have h2 := Dd_low1 c rb ra
  have h3 := min_le3 (a := Dd ra (c :: rb)) (b := Dd (c :: ra) rb) (c := Dd ra rb + 0)
  rcases min_cases (a := Dd ra (c :: rb)) (b := Dd (c :: ra) rb) (c := Dd ra rb + 0) with e | e | e <;> rw [e] at h3 ⊢ <;> lia
theorem Dd_end (c : Nat) : ∀ ra rb : List Nat, Dd (ra ++ [c]) (rb ++ [c]) = Dd ra rb
  | [], [] => by rw [List.nil_append, Dd_same]
  | [], x :: rb => by
    have ih := Dd_end c [] rb
    rw [List.nil_append] at ih
    rw [List.nil_append, List.cons_append, Dd_cons, ih, Dd_nil, Dd_nil, Dd_nil, Dd_nil]
    have := sc_b x c
    simp only [List.length_cons, List.length_append, List.length_nil]
    lia
  | d :: ra, [] => by
    have ih := Dd_end c ra []
    rw [List.nil_append] at ih
    rw [List.nil_append, List.cons_append, Dd_cons, ih, Dd_nil2, Dd_nil2, Dd_nil2, Dd_nil2]
    have := sc_b c d
    simp only [List.length_cons, List.length_append, List.length_nil]
    lia
  | d :: ra, x :: rb => by
    have h1 := Dd_end c ra (x :: rb)
    have h2 := Dd_end c (d :: ra) rb
    have h3 := Dd_end c ra rb
    rw [List.cons_append] at h1 h2
    rw [List.cons_append, List.cons_append, Dd_cons, Dd_cons, h1, h2, h3]
termination_by ra rb => ra.length + rb.length
end Mine
end
section
open PySem PySem.W PyProof.Rows PySem.SeqAt
set_option maxHeartbeats 1000000
namespace Mine
noncomputable def exts : List Nat → List Nat → List (List Nat)
  | _, [] => []
  | ra, c :: a => (c :: ra) :: exts (c :: ra) a
theorem inner_D (x : Nat) (rb : List Nat) : ∀ (a ra : List Nat) (mn : Int),
    (inner x a ((exts ra a).map fun q => Dd q rb) (Dd ra rb) (Dd ra (x :: rb)) mn).1 = (exts ra a).map (fun q => Dd q (x :: rb)) ∧
    (inner x a ((exts ra a).map fun q => Dd q rb) (Dd ra rb) (Dd ra (x :: rb)) mn).2.1 = Dd (a.reverse ++ ra) (x :: rb)
  | [], ra, mn => by simp [exts, inner]
  | c :: a, ra, mn => by
    have e : min (min (Dd ra (x :: rb)) (Dd (c :: ra) rb) + 2) (Dd ra rb + sc x c) = Dd (c :: ra) (x :: rb) := (Dd_cons c x ra rb).symm
    simp only [exts, List.map_cons, inner, e]
    obtain ⟨h1, h2⟩ := inner_D x rb a (c :: ra) (if Dd (c :: ra) (x :: rb) < mn then Dd (c :: ra) (x :: rb) else mn)
    refine ⟨by rw [h1], ?_⟩
    rw [h2, List.reverse_cons, List.append_assoc]; rfl
theorem inner_mn (x : Nat) : ∀ (a : List Nat) (row : List Int) (d res mn : Int), (inner x a row d res mn).2.2 ≤ mn
  | [], [], _, _, mn => Int.le_refl _
  | [], _ :: _, _, _, mn => Int.le_refl _
  | _ :: _, [], _, _, mn => Int.le_refl _
  | c :: a, r :: row, d, res, mn => by
    simp only [inner]
    refine Int.le_trans (inner_mn x a row _ _ _) ?_
    split <;> lia
theorem inner_mn1 (x c : Nat) (a : List Nat) (row : List Int) (r d res mn : Int) : (inner x (c :: a) (r :: row) d res mn).2.2 ≤ min (min res r + 2) (d + sc x c) := by
  simp only [inner]
  refine Int.le_trans (inner_mn x a row _ _ _) ?_
  split <;> lia
theorem mnr {n k D s : Int} (hk : n ≤ k) (hs : s ≤ 2) : min (min (2 * k) D + 2) (2 * n + s) = min (D + 2) (2 * n + s) := by
  by_cases h : D ≤ 2 * k
  · rw [Int.min_eq_right h]
  · rw [Int.min_eq_left (show 2 * k ≤ D by lia), Int.min_eq_right (show 2 * n + s ≤ 2 * k + 2 by lia), Int.min_eq_right (show 2 * n + s ≤ D + 2 by lia)]
theorem rows_D (c : Nat) (a : List Nat) (mx : Int) : ∀ (b rb : List Nat), 2 * ((b.length : Int) + rb.length) ≤ mx →
    rows (c :: a) mx b rb.length ((exts [] (c :: a)).map fun q => Dd q rb) (Dd (c :: a).reverse rb) = Dd (c :: a).reverse (b.reverse ++ rb)
  | [], rb, _ => by simp [rows]
  | x :: b, rb, h => by
    have e0 : Dd [] rb = 2 * (rb.length : Int) := Dd_nil rb
    have e1 : min (min (2 * (rb.length : Int)) (Dd [c] rb) + 2) (2 * (rb.length : Int) + sc x c) = Dd [c] (x :: rb) := by
      rw [Dd_cons, Dd_nil, Dd_nil, List.length_cons]
      have h2 := (sc_b x c).2
      rw [mnr (D := Dd [c] rb) (Int.le_refl _) h2, ← mnr (D := Dd [c] rb) (k := ((rb.length + 1 : Nat) : Int)) (by lia) h2]
    have hm : (inner x (c :: a) ((exts [] (c :: a)).map fun q => Dd q rb) (2 * (rb.length : Int)) (2 * (rb.length : Int)) 9223372036854775807).2.2 ≤ mx := by
      have h1 := inner_mn1 x c a ((exts [c] a).map fun q => Dd q rb) (Dd [c] rb) (2 * (rb.length : Int)) (2 * (rb.length : Int)) 9223372036854775807
      rw [e1] at h1
      refine Int.le_trans h1 ?_
      have h2 := Dd_up2 x [c] rb
      have h3 := Dd_up1 c [] rb
      have h4 : Dd [c] (x :: rb) ≤ Dd [] rb + sc x c := by rw [Dd_cons]; exact min_le3
      have h5 := sc_b x c
      rw [e0] at h4
      simp only [List.length_cons] at h
      lia
    have h1 := inner_D x rb a [c] (if Dd [c] (x :: rb) < 9223372036854775807 then Dd [c] (x :: rb) else 9223372036854775807)
    have hq : (inner x (c :: a) ((exts [] (c :: a)).map fun q => Dd q rb) (2 * (rb.length : Int)) (2 * (rb.length : Int)) 9223372036854775807).1 = (exts [] (c :: a)).map (fun q => Dd q (x :: rb)) ∧
        (inner x (c :: a) ((exts [] (c :: a)).map fun q => Dd q rb) (2 * (rb.length : Int)) (2 * (rb.length : Int)) 9223372036854775807).2.1 = Dd (c :: a).reverse (x :: rb) := by
      simp only [exts, List.map_cons, inner, e1]
      refine ⟨by rw [h1.1], ?_⟩
      rw [h1.2, List.reverse_cons]
    rw [rows]
    rw [if_neg (Int.not_lt.mpr hm), hq.1, hq.2]
    have ih := rows_D c a mx b (x :: rb) (by simp only [List.length_cons] at h ⊢; lia)
    rw [List.length_cons] at ih
    rw [ih, show (x :: b).reverse ++ rb = b.reverse ++ x :: rb by simp]
theorem row0_D : ∀ (a : List Nat), (exts [] a).map (fun q => Dd q []) = row0 a.length := by
  have gen : ∀ (a ra : List Nat), (exts ra a).map (fun q => Dd q []) = (List.range a.length).map fun i : Nat => 2 * (ra.length : Int) + 2 + (i : Int) * 2 := by
    intro a
    induction a with
    | nil => intro ra; rfl
    | cons c a ih =>
      intro ra
      rw [exts, List.map_cons, ih, Dd_nil2, List.length_cons, List.length_cons, List.range_succ_eq_map, List.map_cons, List.map_map]
      congr 1
      simp
      intro i _; lia
  intro a
  rw [gen]; unfold row0
  apply List.map_congr_left; intro i _; simp
theorem levC_D {a b : List Nat} {mx : Int} (ha : a ≠ []) (hb : b ≠ []) (h : 2 * (b.length : Int) ≤ mx) : levC a b mx = Dd a.reverse b.reverse := by
  unfold levC
  rw [if_neg (by lia)]
  obtain ⟨c, a, rfl⟩ : ∃ c a', a = c :: a' := by cases a with | nil => exact absurd rfl ha | cons c a => exact ⟨c, a, rfl⟩
  obtain ⟨x, b, rfl⟩ : ∃ c a', b = c :: a' := by cases b with | nil => exact absurd rfl hb | cons c a => exact ⟨c, a, rfl⟩
  have h1 := rows_D c a mx (x :: b) [] (by simpa using h)
  rw [row0_D, List.append_nil] at h1
  rw [← h1]
  -- the first result is not read
  rw [rows, rows]; rfl
end Mine
end
section
open PySem PySem.W PyProof.Rows PySem.SeqAt
set_option maxHeartbeats 1000000
namespace Mine
theorem sc_comm (x y : Nat) : sc x y = sc y x := by
  have e : ∀ a b : Str, sCost a b = sCost b a := fun a b => by
    unfold sCost
    rw [show (a == b) = (b == a) from Bool.beq_comm, show (Txt.lower a == Txt.lower b) = (Txt.lower b == Txt.lower a) from Bool.beq_comm]
  exact e _ _
theorem Dd_comm : ∀ ra rb : List Nat, Dd ra rb = Dd rb ra
  | [], rb => by rw [Dd_nil, Dd_nil2]
  | c :: ra, [] => by rw [Dd_nil, Dd_nil2]
  | c :: ra, x :: rb => by
    rw [Dd_cons, Dd_cons, Dd_comm ra (x :: rb), Dd_comm (c :: ra) rb, Dd_comm ra rb, sc_comm x c, Int.min_comm (Dd (x :: rb) ra)]
termination_by ra rb => ra.length + rb.length
theorem Dd_refl : ∀ ra : List Nat, Dd ra ra = 0
  | [] => by rw [Dd_nil]; rfl
  | c :: ra => by rw [Dd_same, Dd_refl ra]
theorem stripP_front : ∀ a b : List Nat, Dd a.reverse b.reverse = Dd (stripP a b).1.reverse (stripP a b).2.reverse
  | [], b => by simp [stripP]
  | x :: a, [] => by simp [stripP]
  | x :: a, y :: b => by
    unfold stripP
    split
    · rename_i e; subst e
      rw [List.reverse_cons, List.reverse_cons, Dd_end]; exact stripP_front a b
    · rfl
theorem stripP_head : ∀ a b : List Nat, Dd a b = Dd (stripP a b).1 (stripP a b).2
  | [], b => by simp [stripP]
  | x :: a, [] => by simp [stripP]
  | x :: a, y :: b => by
    unfold stripP
    split
    · rename_i e; subst e
      rw [Dd_same]; exact stripP_head a b
    · rfl
theorem stripP_len : ∀ a b : List Nat, (stripP a b).1.length ≤ a.length ∧ (stripP a b).2.length ≤ b.length ∧ (stripP a b).1.length + b.length = a.length + (stripP a b).2.length
  | [], b => by simp [stripP]
  | x :: a, [] => by simp [stripP]
  | x :: a, y :: b => by
    unfold stripP
    split
    · have := stripP_len a b
      simp only [List.length_cons]; lia
    · simp
theorem stripS_D (a b : List Nat) : Dd a.reverse b.reverse = Dd (stripS a b).1.reverse (stripS a b).2.reverse := by
  unfold stripS
  simp only [List.reverse_reverse]
  exact stripP_head _ _
theorem stripS_len (a b : List Nat) : (stripS a b).1.length ≤ a.length ∧ (stripS a b).2.length ≤ b.length ∧ (stripS a b).1.length + b.length = a.length + (stripS a b).2.length := by
  have := stripP_len a.reverse b.reverse
  unfold stripS
  simp only [List.length_reverse] at this ⊢
  exact this
theorem levB_D {a b : List Nat} {mx : Int} (ha : a.length ≤ 40) (hb : b.length ≤ 40) (h1 : 2 * (a.length : Int) ≤ mx) (h2 : 2 * (b.length : Int) ≤ mx) : levB a b mx = Dd a.reverse b.reverse := by
  unfold levB
  split
  · rename_i e
    rcases e with e | e <;> subst e
    · rw [List.reverse_nil, Dd_nil, List.length_reverse]; simp
    · rw [List.reverse_nil, Dd_nil2, List.length_reverse]; simp
  · rename_i e
    have e1 : a ≠ [] := fun q => e (.inl q)
    have e2 : b ≠ [] := fun q => e (.inr q)
    rw [if_neg (by lia)]
    split
    · rw [levC_D e2 e1 h1, Dd_comm]
    · exact levC_D e1 e2 h2
theorem lev_D {a b : List Nat} {mx : Int} (ha : a.length ≤ 40) (hb : b.length ≤ 40) (h1 : 2 * (a.length : Int) ≤ mx) (h2 : 2 * (b.length : Int) ≤ mx) : lev a b mx = Dd a.reverse b.reverse := by
  unfold lev
  split
  · rename_i e; subst e; rw [Dd_refl]
  · have p := stripP_len a b
    have q := stripS_len (stripP a b).1 (stripP a b).2
    rw [stripP_front a b, stripS_D]
    exact levB_D (by lia) (by lia) (by lia) (by lia)
theorem lev_short {a b : List Nat} {mx : Int} (hl : a.length ≤ b.length) (hb : b.length ≤ 40) (hm : mx < 2 * ((b.length : Int) - a.length)) (hne : Dd a.reverse b.reverse ≠ 2 * ((b.length : Int) - a.length)) : lev a b mx = mx + 1 := by
  have p := stripP_len a b
  have q := stripS_len (stripP a b).1 (stripP a b).2
  have hd : Dd a.reverse b.reverse = Dd (stripS (stripP a b).1 (stripP a b).2).1.reverse (stripS (stripP a b).1 (stripP a b).2).2.reverse := by rw [stripP_front a b, stripS_D]
  unfold lev
  split
  · rename_i e; subst e; rw [Dd_refl] at hne; lia
  · dsimp only
    rw [hd] at hne
    revert hne q
    generalize (stripS (stripP a b).1 (stripP a b).2).1 = r1
    generalize (stripS (stripP a b).1 (stripP a b).2).2 = r2
    intro hne q
    unfold levB
    split
    · rename_i e
      exfalso
      apply hne
      rcases e with e | e <;> subst e
      · rw [List.reverse_nil, Dd_nil, List.length_reverse]; simp at q; lia
      · simp at q
        have : r1.length = 0 := by lia
        rw [List.length_eq_zero_iff.mp this, List.reverse_nil, Dd_nil]; simp; lia
    · rw [if_neg (by lia), if_neg (by lia)]
      unfold levC
      rw [if_pos (by lia)]
end Mine
end
section
open PySem PySem.W PyProof.Rows PySem.SeqAt
set_option maxHeartbeats 1000000
namespace Mine
theorem signD_comm {a b : Int} (ha : 0 ≤ a ∧ a < 64) (hb : 0 ≤ b ∧ b < 64) : signD a b = signD b a := by rw [← sc_sign ha hb, sc_comm, sc_sign hb ha]
theorem signD_b {a b : Int} (ha : 0 ≤ a ∧ a < 64) (hb : 0 ≤ b ∧ b < 64) : 0 ≤ signD a b ∧ signD a b ≤ 2 := by rw [← sc_sign ha hb]; exact sc_b _ _
theorem one_D {c v : Nat} : Dd [c] [v] = sc v c := by
  rw [Dd_cons, Dd_nil, Dd_nil2, Dd_nil]
  have := sc_b v c
  simp only [List.length_cons, List.length_nil]
  lia
theorem two_one {c d v : Nat} : 2 ≤ Dd [d, c] [v] ∧ Dd [d, c] [v] ≤ 4 := by
  rw [Dd_cons, one_D, Dd_nil2, Dd_nil2]
  have h1 := sc_b v c
  have h2 := sc_b v d
  simp only [List.length_cons, List.length_nil]
  lia
theorem mn1 {n y b : Int} (hy : y ≤ 2) : min (min (2 * (n + 1 + 1)) (2 * n + y) + 2) (2 * (n + 1) + b) = 2 * (n + 1) + min y b := by
  rw [Int.min_eq_right (show 2 * n + y ≤ 2 * (n + 1 + 1) by lia)]; lia
theorem mn2 {n m s1 s2 b : Int} (h1 : s1 ≤ 4) (hm : 0 ≤ m) : min (min (2 * (n + 1) + m) (2 * n - 2 + s1) + 2) (2 * n + s2 + b) = 2 * (n + 1) - 2 + min s1 (s2 + b) := by
  rw [Int.min_eq_right (show 2 * n - 2 + s1 ≤ 2 * (n + 1) + m by lia)]; lia
theorem mn3 {m s2 b D : Int} (hm : 0 ≤ m) (h2 : 2 ≤ D) (h4 : D ≤ 4) (hs : 0 ≤ s2) (hb : b ≤ 2) (hs2 : s2 ≤ 2) : min (min (2 * (0 + 1) + m) D + 2) (2 * 0 + s2 + b) = 2 * (0 + 1) - 2 + min 4 (s2 + b) := by
  have : 4 ≤ min (2 * (0 + 1) + m) D + 2 := by have := Int.le_min.mpr ⟨show 2 ≤ 2 * (0 + 1) + m by lia, h2⟩; lia
  rw [Int.min_eq_right (show 2 * 0 + s2 + b ≤ _ by lia), Int.min_eq_right (show s2 + b ≤ 4 by lia)]; lia
theorem two_D {c d v0 : Int} (hc : 0 ≤ c ∧ c < 64) (hd : 0 ≤ d ∧ d < 64) (h0 : 0 ≤ v0 ∧ v0 < 64) : ∀ (rv : List Int), (∀ x ∈ rv, 0 ≤ x ∧ x < 64) → ∀ s, (rv.reverse).foldl (leastStep c d) (4, signD c v0) = s →
    Dd [cod c] ((rv ++ [v0]).map cod) = 2 * (rv.length : Int) + s.2 ∧ 0 ≤ s.2 ∧ s.2 ≤ 2 ∧ s.1 ≤ 4 ∧ 0 ≤ s.1 ∧ (rv ≠ [] → Dd [cod d, cod c] ((rv ++ [v0]).map cod) = 2 * (rv.length : Int) - 2 + s.1)
  | [], _, s, hs => by
    subst hs
    have := signD_b hc h0
    simp only [List.reverse_nil, List.foldl_nil, List.nil_append, List.map_cons, List.map_nil, List.length_nil]
    rw [one_D, sc_sign h0 hc, signD_comm h0 hc]
    refine ⟨by simp, this.1, this.2, by lia, by lia, fun q => absurd rfl q⟩
  | x :: rv, hx, s, hs => by
    have hx0 := hx x List.mem_cons_self
    obtain ⟨h1, h2, h3, h4, h5, h6⟩ := two_D hc hd h0 rv (fun y hy => hx y (List.mem_cons_of_mem _ hy)) _ rfl
    rw [List.reverse_cons, List.foldl_append] at hs
    have h7 : rv = [] → ((rv.reverse).foldl (leastStep c d) (4, signD c v0)).1 = 4 := fun q => by subst q; rfl
    generalize (rv.reverse).foldl (leastStep c d) (4, signD c v0) = r at *
    have hs : leastStep c d r x = s := hs
    subst hs
    have b1 := signD_b hc hx0
    have b2 := signD_b hd hx0
    have e1 : Dd [cod c] (((x :: rv) ++ [v0]).map cod) = 2 * ((x :: rv).length : Int) + min r.2 (signD c x) := by
      rw [List.cons_append, List.map_cons, Dd_cons, h1, Dd_nil, Dd_nil, sc_sign hx0 hc, signD_comm hx0 hc]
      simp only [List.length_cons, List.length_map, List.length_append, List.length_nil]
      exact mn1 h3
    have m0 : 0 ≤ min r.2 (signD c x) := Int.le_min.mpr ⟨h2, b1.1⟩
    refine ⟨e1, m0, Int.le_trans (Int.min_le_left _ _) h3, Int.le_trans (Int.min_le_left _ _) h4, Int.le_min.mpr ⟨h5, Int.add_nonneg h2 b2.1⟩, fun _ => ?_⟩
    rw [List.cons_append, List.map_cons] at e1
    rw [List.cons_append, List.map_cons, Dd_cons, e1, h1, sc_sign hx0 hd, signD_comm hx0 hd]
    show _ = _ + min r.1 (r.2 + signD d x)
    by_cases hrv : rv = []
    · have h8 := h7 hrv
      subst hrv
      have := two_one (c := cod c) (d := cod d) (v := cod v0)
      simp only [List.nil_append, List.map_cons, List.map_nil, List.length_cons, List.length_nil]
      rw [h8]
      exact mn3 m0 this.1 this.2 h2 b2.2 h3
    · rw [h6 hrv]
      simp only [List.length_cons]
      push_cast
      exact mn2 h4 m0
end Mine
end
section
open PySem PySem.W PyProof.Rows PySem.SeqAt
set_option maxHeartbeats 1000000
namespace Mine
theorem sc_zero {x y : Nat} (h : sc x y = 0) : x = y := by
  unfold sc sCost at h
  split at h
  · rename_i q
    rw [T_beq] at q
    have := of_decide_eq_true q
    simpa using this
  · split at h <;> lia
theorem least_D {c d v0 : Int} {vs : List Int} (hc : 0 ≤ c ∧ c < 64) (hd : 0 ≤ d ∧ d < 64) (hv : ∀ x ∈ v0 :: vs, 0 ≤ x ∧ x < 64) (hne : vs ≠ []) : Dd ([cod c, cod d].reverse) (((v0 :: vs).map cod).reverse) = 2 * ((v0 :: vs).length : Int) - 4 + leastF c d (v0 :: vs) := by
  have h := two_D hc hd (hv v0 List.mem_cons_self) vs.reverse (fun x hx => hv x (List.mem_cons_of_mem _ (List.mem_reverse.mp hx))) _ rfl
  rw [List.reverse_reverse] at h
  have h6 := h.2.2.2.2.2 (by simpa using hne)
  have e2 : ((v0 :: vs).map cod).reverse = (vs.reverse ++ [v0]).map cod := by rw [← List.map_reverse, List.reverse_cons]
  rw [e2]
  show Dd [cod d, cod c] _ = _
  rw [h6]
  show _ = _ + (List.foldl (leastStep c d) (4, signD c v0) vs).1
  simp only [List.length_reverse, List.length_cons]
  lia
theorem rep_D {c : Nat} : ∀ (k : Nat) (rb : List Nat), 2 * ((rb.length : Int) - k) ≤ Dd (List.replicate k c) rb ∧ (k ≤ rb.length → (Dd (List.replicate k c) rb = 2 * ((rb.length : Int) - k) ↔ k ≤ rb.count c)) ∧ 0 ≤ Dd (List.replicate k c) rb
  | 0, rb => by
    rw [List.replicate_zero, Dd_nil]
    refine ⟨by lia, fun _ => ⟨fun _ => Nat.zero_le _, fun _ => by simp⟩, by lia⟩
  | k + 1, [] => by
    rw [Dd_nil2, List.length_replicate]
    simp only [List.length_nil]
    refine ⟨by lia, fun h => absurd h (by lia), by lia⟩
  | k + 1, x :: rb => by
    obtain ⟨a1, a2, a3⟩ := rep_D (c := c) k (x :: rb)
    obtain ⟨b1, b2, b3⟩ := rep_D (c := c) (k + 1) rb
    obtain ⟨c1, c2, c3⟩ := rep_D (c := c) k rb
    have hs := sc_b x c
    rw [List.replicate_succ] at b1 b2 b3 ⊢
    rw [Dd_cons]
    have m1 := min_le1 (a := Dd (List.replicate k c) (x :: rb)) (b := Dd (c :: List.replicate k c) rb) (c := Dd (List.replicate k c) rb + sc x c)
    have m2 := min_le2 (a := Dd (List.replicate k c) (x :: rb)) (b := Dd (c :: List.replicate k c) rb) (c := Dd (List.replicate k c) rb + sc x c)
    have m3 := min_le3 (a := Dd (List.replicate k c) (x :: rb)) (b := Dd (c :: List.replicate k c) rb) (c := Dd (List.replicate k c) rb + sc x c)
    have m4 := min_cases (a := Dd (List.replicate k c) (x :: rb)) (b := Dd (c :: List.replicate k c) rb) (c := Dd (List.replicate k c) rb + sc x c)
    generalize min (min (Dd (List.replicate k c) (x :: rb)) (Dd (c :: List.replicate k c) rb) + 2) (Dd (List.replicate k c) rb + sc x c) = M at m1 m2 m3 m4 ⊢
    simp only [List.length_cons] at *
    have hcnt : (x :: rb).count c = rb.count c + if x = c then 1 else 0 := by rw [List.count_cons]; congr 1; simp
    refine ⟨by lia, fun hk => ?_, by lia⟩
    rw [hcnt]
    by_cases hx : x = c
    · subst hx
      rw [sc_self] at m3 m4
      rw [if_pos rfl]
      have e := c2 (by lia)
      constructor
      · intro h
        by_cases hk2 : k + 1 ≤ rb.length
        · have e2 := b2 hk2
          by_cases h3 : Dd (List.replicate k x) rb = 2 * ((rb.length : Int) - k)
          · have := e.mp h3; lia
          · by_cases h4 : Dd (x :: List.replicate k x) rb = 2 * ((rb.length : Int) - (k + 1 : Nat))
            · have := e2.mp h4; lia
            · exfalso; lia
        · by_cases h3 : Dd (List.replicate k x) rb = 2 * ((rb.length : Int) - k)
          · have := e.mp h3; lia
          · exfalso; lia
      · intro h
        have := e.mpr (by lia)
        lia
    · rw [if_neg hx]
      have hsc : 1 ≤ sc x c := by
        apply Classical.byContradiction; intro q; exact hx (sc_zero (by lia))
      constructor
      · intro h
        by_cases hk2 : k + 1 ≤ rb.length
        · have e2 := b2 hk2
          by_cases h4 : Dd (c :: List.replicate k c) rb = 2 * ((rb.length : Int) - (k + 1 : Nat))
          · have := e2.mp h4; lia
          · exfalso; lia
        · exfalso; lia
      · intro h
        have hk2 : k + 1 ≤ rb.length := Nat.le_trans (by lia) (List.count_le_length (a := c) (l := rb))
        have := (b2 hk2).mpr (by lia)
        lia
termination_by k rb => k + rb.length
end Mine
end
section
open PySem PySem.W PyProof.Rows PySem.SeqAt
set_option maxHeartbeats 1000000
namespace Mine
theorem valsF_step {q r : Int} {k : Nat} {acc : List Int} (h : 0 ≤ r ∧ r < 64) : valsF (k + 1) (q * 64 + r) acc = valsF k q (r :: acc) := by
  have e1 : (q * 64 + r).fdiv 64 = q := by rw [Int.fdiv_eq_ediv_of_nonneg _ (by decide)]; lia
  have e2 : (q * 64 + r).fmod 64 = r := by rw [Int.fmod_eq_emod_of_nonneg _ (by decide)]; lia
  show valsF k ((q * 64 + r).fdiv 64) ((q * 64 + r).fmod 64 :: acc) = _
  rw [e1, e2]
theorem dig16 {h l : Int} (hh : 0 ≤ h ∧ h < 4) (hl : 0 ≤ l ∧ l < 16) : 0 ≤ h * 16 + l ∧ h * 16 + l < 64 := by lia
theorem dig4 {h l : Int} (hh : 0 ≤ h ∧ h < 16) (hl : 0 ≤ l ∧ l < 4) : 0 ≤ h * 4 + l ∧ h * 4 + l < 64 := by lia
theorem dig16' {h : Int} (hh : 0 ≤ h ∧ h < 4) : 0 ≤ h * 16 ∧ h * 16 < 64 := by lia
theorem dig4' {h : Int} (hh : 0 ≤ h ∧ h < 16) : 0 ≤ h * 4 ∧ h * 4 < 64 := by lia
theorem chunk4 {x : Int} (hx : 0 ≤ x ∧ x < 256) : ∃ h l, x = h * 4 + l ∧ (0 ≤ h ∧ h < 64) ∧ 0 ≤ l ∧ l < 4 := ⟨x / 4, x % 4, by lia, by lia, by lia⟩
theorem chunk16 {x : Int} (hx : 0 ≤ x ∧ x < 256) : ∃ h l, x = h * 16 + l ∧ (0 ≤ h ∧ h < 16) ∧ 0 ≤ l ∧ l < 16 := ⟨x / 16, x % 16, by lia, by lia, by lia⟩
theorem chunk64 {x : Int} (hx : 0 ≤ x ∧ x < 256) : ∃ h l, x = h * 64 + l ∧ (0 ≤ h ∧ h < 4) ∧ 0 ≤ l ∧ l < 64 := ⟨x / 64, x % 64, by lia, by lia, by lia⟩
theorem hor2 (x a1 a0 b1 b0 : Int) : (x * 256 + (a1 * 4 + a0)) * 256 + (b1 * 16 + b0) = ((x * 64 + a1) * 64 + (a0 * 16 + b1)) * 16 + b0 := by lia
theorem hor3 (y u b0 c1 c0 : Int) : ((y * 64 + u) * 16 + b0) * 256 + (c1 * 64 + c0) = (((y * 64 + u) * 64 + (b0 * 4 + c1)) * 64 + c0) := by lia
theorem values_of {xs : List Int} {k : Nat} {N p : Int} (h1 : sizeF xs.length = k) (h2 : numF 256 xs = N) (h3 : (2 : Int) ^ (6 * k - 8 * xs.length) = p) : valuesF xs = valsF k (N * p) [] := by unfold valuesF; rw [h1, h2, h3]
theorem vals1 {a1 a0 : Int} (h1 : 0 ≤ a1 ∧ a1 < 64) (h0 : 0 ≤ a0 ∧ a0 < 4) : valuesF [a1 * 4 + a0] = [a1, a0 * 16] := by
  rw [values_of (k := 2) (N := 0 * 256 + (a1 * 4 + a0)) (p := 16) (by show sizeF 1 = 2; decide) rfl (by show (2 : Int) ^ (6 * 2 - 8 * 1) = 16; decide)]
  rw [show (0 * 256 + (a1 * 4 + a0)) * 16 = (0 * 64 + a1) * 64 + a0 * 16 by lia, valsF_step (dig16' h0), valsF_step h1]; rfl
theorem vals2 {a1 a0 b1 b0 : Int} (h1 : 0 ≤ a1 ∧ a1 < 64) (h0 : 0 ≤ a0 ∧ a0 < 4) (g1 : 0 ≤ b1 ∧ b1 < 16) (g0 : 0 ≤ b0 ∧ b0 < 16) : valuesF [a1 * 4 + a0, b1 * 16 + b0] = [a1, a0 * 16 + b1, b0 * 4] := by
  rw [values_of (k := 3) (N := (0 * 256 + (a1 * 4 + a0)) * 256 + (b1 * 16 + b0)) (p := 4) (by show sizeF 2 = 3; decide) rfl (by show (2 : Int) ^ (6 * 3 - 8 * 2) = 4; decide)]
  rw [hor2, show ((((0 : Int) * 64 + a1) * 64 + (a0 * 16 + b1)) * 16 + b0) * 4 = ((0 * 64 + a1) * 64 + (a0 * 16 + b1)) * 64 + b0 * 4 by lia, valsF_step (dig4' g0), valsF_step (dig16 h0 g1), valsF_step h1]; rfl
theorem vals3 {a1 a0 b1 b0 c1 c0 : Int} (h1 : 0 ≤ a1 ∧ a1 < 64) (h0 : 0 ≤ a0 ∧ a0 < 4) (g1 : 0 ≤ b1 ∧ b1 < 16) (g0 : 0 ≤ b0 ∧ b0 < 16) (f1 : 0 ≤ c1 ∧ c1 < 4) (f0 : 0 ≤ c0 ∧ c0 < 64) :
    valuesF [a1 * 4 + a0, b1 * 16 + b0, c1 * 64 + c0] = [a1, a0 * 16 + b1, b0 * 4 + c1, c0] := by
  rw [values_of (k := 4) (N := ((0 * 256 + (a1 * 4 + a0)) * 256 + (b1 * 16 + b0)) * 256 + (c1 * 64 + c0)) (p := 1) (by show sizeF 3 = 4; decide) rfl (by show (2 : Int) ^ (6 * 4 - 8 * 3) = 1; decide)]
  rw [Int.mul_one, hor2, hor3, valsF_step f0, valsF_step (dig4 g0 f1), valsF_step (dig16 h0 g1), valsF_step h1]; rfl
theorem vals4 {a1 a0 b1 b0 c1 c0 d1 d0 : Int} (h1 : 0 ≤ a1 ∧ a1 < 64) (h0 : 0 ≤ a0 ∧ a0 < 4) (g1 : 0 ≤ b1 ∧ b1 < 16) (g0 : 0 ≤ b0 ∧ b0 < 16) (f1 : 0 ≤ c1 ∧ c1 < 4) (f0 : 0 ≤ c0 ∧ c0 < 64) (e1 : 0 ≤ d1 ∧ d1 < 64) (e0 : 0 ≤ d0 ∧ d0 < 4) :
    valuesF [a1 * 4 + a0, b1 * 16 + b0, c1 * 64 + c0, d1 * 4 + d0] = [a1, a0 * 16 + b1, b0 * 4 + c1, c0, d1, d0 * 16] := by
  rw [values_of (k := 6) (N := (((0 * 256 + (a1 * 4 + a0)) * 256 + (b1 * 16 + b0)) * 256 + (c1 * 64 + c0)) * 256 + (d1 * 4 + d0)) (p := 16) (by show sizeF 4 = 6; decide) rfl (by show (2 : Int) ^ (6 * 6 - 8 * 4) = 16; decide)]
  have e : ∀ x : Int, (x * 256 + (d1 * 4 + d0)) * 16 = (x * 64 + d1) * 64 + d0 * 16 := fun x => by lia
  rw [hor2, hor3, e, valsF_step (dig16' e0), valsF_step e1, valsF_step f0, valsF_step (dig4 g0 f1), valsF_step (dig16 h0 g1), valsF_step h1]; rfl
end Mine
end
section
open PySem PySem.W PyProof.Rows PySem.SeqAt
set_option maxHeartbeats 1000000
namespace Mine
theorem drain8 {lc : Int} : drain lc (0 + 8) = ([sign (lc / 4 % 64)], 2) := by unfold drain; rw [if_neg (by decide), if_pos (by decide)]; rfl
theorem drain10 {lc : Int} : drain lc (2 + 8) = ([sign (lc / 16 % 64)], 4) := by unfold drain; rw [if_neg (by decide), if_pos (by decide)]; rfl
theorem drain12 {lc : Int} : drain lc (4 + 8) = ([sign (lc / 64 % 64), sign (lc / 1 % 64)], 0) := by unfold drain; rw [if_pos (by decide)]; rfl
theorem low16 (M b : Int) : (M % 65536 * 256 + b) % 65536 = (M * 256 + b) % 65536 := by lia
theorem at2 (q d l : Int) (hd : 0 ≤ d ∧ d < 64) (hl : 0 ≤ l ∧ l < 4) : ((q * 64 + d) * 4 + l) % 65536 / 4 % 64 = d := by lia
theorem at4 (q d l : Int) (hd : 0 ≤ d ∧ d < 64) (hl : 0 ≤ l ∧ l < 16) : ((q * 64 + d) * 16 + l) % 65536 / 16 % 64 = d := by lia
theorem at6 (q d l : Int) (hd : 0 ≤ d ∧ d < 64) (hl : 0 ≤ l ∧ l < 64) : ((q * 64 + d) * 64 + l) % 65536 / 64 % 64 = d := by lia
theorem at0 (q d : Int) (hd : 0 ≤ d ∧ d < 64) : (q * 64 + d) % 65536 / 1 % 64 = d := by lia
theorem encB_cons {b M : Int} {r : List Int} {lb : Nat} : encB (b :: r) (M % 65536) lb = ((drain ((M * 256 + b) % 65536) (lb + 8)).1 ++ (encB r ((M * 256 + b) % 65536) (drain ((M * 256 + b) % 65536) (lb + 8)).2).1, (encB r ((M * 256 + b) % 65536) (drain ((M * 256 + b) % 65536) (lb + 8)).2).2) := by
  show ((drain ((M % 65536 * 256 + b) % 65536) (lb + 8)).1 ++ (encB r ((M % 65536 * 256 + b) % 65536) (drain ((M % 65536 * 256 + b) % 65536) (lb + 8)).2).1, (encB r ((M % 65536 * 256 + b) % 65536) (drain ((M % 65536 * 256 + b) % 65536) (lb + 8)).2).2) = _
  rw [low16]
theorem stA {M d1 d0 : Int} {r : List Int} (h1 : 0 ≤ d1 ∧ d1 < 64) (h0 : 0 ≤ d0 ∧ d0 < 4) : encB ((d1 * 4 + d0) :: r) (M % 65536) 0 = (sign d1 :: (encB r (((M * 64 + d1) * 4 + d0) % 65536) 2).1, (encB r (((M * 64 + d1) * 4 + d0) % 65536) 2).2) := by
  rw [encB_cons, show M * 256 + (d1 * 4 + d0) = (M * 64 + d1) * 4 + d0 by lia, drain8, at2 _ _ _ h1 h0]; rfl
theorem stB {M a0 b1 b0 : Int} {r : List Int} (h0 : 0 ≤ a0 ∧ a0 < 4) (g1 : 0 ≤ b1 ∧ b1 < 16) (g0 : 0 ≤ b0 ∧ b0 < 16) : encB ((b1 * 16 + b0) :: r) ((M * 4 + a0) % 65536) 2 = (sign (a0 * 16 + b1) :: (encB r (((M * 64 + (a0 * 16 + b1)) * 16 + b0) % 65536) 4).1, (encB r (((M * 64 + (a0 * 16 + b1)) * 16 + b0) % 65536) 4).2) := by
  rw [encB_cons, show (M * 4 + a0) * 256 + (b1 * 16 + b0) = (M * 64 + (a0 * 16 + b1)) * 16 + b0 by lia, drain10, at4 _ _ _ (dig16 h0 g1) g0]; rfl
theorem stC {M b0 c1 c0 : Int} {r : List Int} (g0 : 0 ≤ b0 ∧ b0 < 16) (f1 : 0 ≤ c1 ∧ c1 < 4) (f0 : 0 ≤ c0 ∧ c0 < 64) : encB ((c1 * 64 + c0) :: r) ((M * 16 + b0) % 65536) 4 = (sign (b0 * 4 + c1) :: sign c0 :: (encB r (((M * 64 + (b0 * 4 + c1)) * 64 + c0) % 65536) 0).1, (encB r (((M * 64 + (b0 * 4 + c1)) * 64 + c0) % 65536) 0).2) := by
  rw [encB_cons, show (M * 16 + b0) * 256 + (c1 * 64 + c0) = (M * 64 + (b0 * 4 + c1)) * 64 + c0 by lia, drain12, at6 _ _ _ (dig4 g0 f1) f0, at0 _ _ f0]; rfl
theorem end2 (q l : Int) (h : 0 ≤ l ∧ l < 4) : (q * 4 + l) % 65536 % 4 = l := by lia
theorem end4 (q l : Int) (h : 0 ≤ l ∧ l < 16) : (q * 16 + l) % 65536 % 16 = l := by lia
theorem enc1 {a1 a0 : Int} (h1 : 0 ≤ a1 ∧ a1 < 64) (h0 : 0 ≤ a0 ∧ a0 < 4) : enc [a1 * 4 + a0] = [sign a1, sign (a0 * 16), 61, 61] := by
  unfold enc
  rw [show (0 : Int) = 0 % 65536 from rfl, stA h1 h0]
  show [sign a1] ++ [sign ((((0 : Int) * 64 + a1) * 4 + a0) % 65536 % 4 * 16), 61, 61] = _
  rw [end2 _ _ h0]; rfl
theorem enc2 {a1 a0 b1 b0 : Int} (h1 : 0 ≤ a1 ∧ a1 < 64) (h0 : 0 ≤ a0 ∧ a0 < 4) (g1 : 0 ≤ b1 ∧ b1 < 16) (g0 : 0 ≤ b0 ∧ b0 < 16) : enc [a1 * 4 + a0, b1 * 16 + b0] = [sign a1, sign (a0 * 16 + b1), sign (b0 * 4), 61] := by
  unfold enc
  rw [show (0 : Int) = 0 % 65536 from rfl, stA h1 h0, stB h0 g1 g0]
  show [sign a1, sign (a0 * 16 + b1)] ++ [sign (((((0 : Int) * 64 + a1) * 64 + (a0 * 16 + b1)) * 16 + b0) % 65536 % 16 * 4), 61] = _
  rw [end4 _ _ g0]; rfl
theorem enc3 {a1 a0 b1 b0 c1 c0 : Int} (h1 : 0 ≤ a1 ∧ a1 < 64) (h0 : 0 ≤ a0 ∧ a0 < 4) (g1 : 0 ≤ b1 ∧ b1 < 16) (g0 : 0 ≤ b0 ∧ b0 < 16) (f1 : 0 ≤ c1 ∧ c1 < 4) (f0 : 0 ≤ c0 ∧ c0 < 64) :
    enc [a1 * 4 + a0, b1 * 16 + b0, c1 * 64 + c0] = [sign a1, sign (a0 * 16 + b1), sign (b0 * 4 + c1), sign c0] := by
  unfold enc
  rw [show (0 : Int) = 0 % 65536 from rfl, stA h1 h0, stB h0 g1 g0, stC g0 f1 f0]; rfl
theorem enc4o {a1 a0 b1 b0 c1 c0 d1 d0 : Int} (h1 : 0 ≤ a1 ∧ a1 < 64) (h0 : 0 ≤ a0 ∧ a0 < 4) (g1 : 0 ≤ b1 ∧ b1 < 16) (g0 : 0 ≤ b0 ∧ b0 < 16) (f1 : 0 ≤ c1 ∧ c1 < 4) (f0 : 0 ≤ c0 ∧ c0 < 64) (e1 : 0 ≤ d1 ∧ d1 < 64) (e0 : 0 ≤ d0 ∧ d0 < 4) :
    enc [a1 * 4 + a0, b1 * 16 + b0, c1 * 64 + c0, d1 * 4 + d0] = [sign a1, sign (a0 * 16 + b1), sign (b0 * 4 + c1), sign c0, sign d1, sign (d0 * 16), 61, 61] := by
  unfold enc
  rw [show (0 : Int) = 0 % 65536 from rfl, stA h1 h0, stB h0 g1 g0, stC g0 f1 f0, stA e1 e0]
  show [sign a1, sign (a0 * 16 + b1), sign (b0 * 4 + c1), sign c0, sign d1] ++ [sign ((((((((0 : Int) * 64 + a1) * 64 + (a0 * 16 + b1)) * 64 + (b0 * 4 + c1)) * 64 + c0) * 64 + d1) * 4 + d0) % 65536 % 4 * 16), 61, 61] = _
  rw [end2 _ _ e0]; rfl
end Mine
end
section
open PySem PySem.W PyProof.Rows PySem.SeqAt
set_option maxHeartbeats 1000000
namespace Mine
structure Vals (vs : List Int) : Prop where
  lo : 2 ≤ vs.length
  hi : vs.length ≤ 6
  b : ∀ x ∈ vs, 0 ≤ x ∧ x < 64
theorem enc_vals {oct : List Int} (h1 : 1 ≤ oct.length) (h4 : oct.length ≤ 4) (hb : ∀ x ∈ oct, 0 ≤ x ∧ x < 256) :
    Vals (valuesF oct) ∧ (enc oct).map Int.toNat = (valuesF oct).map cod ++ List.replicate ((-((valuesF oct).length : Int)).fmod 4).toNat 61 := by
  have e2 : ((-((6 : Nat) : Int)).fmod 4).toNat = 2 := by decide
  match oct, h1, h4, hb with
  | [a], _, _, hb =>
    obtain ⟨a1, a0, rfl, k1, k0⟩ := chunk4 (hb a List.mem_cons_self)
    rw [vals1 k1 k0, enc1 k1 k0]
    exact ⟨⟨Nat.le_refl 2, (by show 2 ≤ 6; decide), List.forall_mem_cons.mpr ⟨k1, List.forall_mem_cons.mpr ⟨dig16' k0, fun _ h => nomatch h⟩⟩⟩, by rfl⟩
  | [a, b], _, _, hb =>
    have hb := List.forall_mem_cons.mp hb
    obtain ⟨a1, a0, rfl, k1, k0⟩ := chunk4 hb.1
    obtain ⟨b1, b0, rfl, g1, g0⟩ := chunk16 (hb.2 b List.mem_cons_self)
    rw [vals2 k1 k0 g1 g0, enc2 k1 k0 g1 g0]
    exact ⟨⟨(by show 2 ≤ 3; decide), (by show 3 ≤ 6; decide), List.forall_mem_cons.mpr ⟨k1, List.forall_mem_cons.mpr ⟨dig16 k0 g1, List.forall_mem_cons.mpr ⟨dig4' g0, fun _ h => nomatch h⟩⟩⟩⟩, by rfl⟩
  | [a, b, c], _, _, hb =>
    have hb := List.forall_mem_cons.mp hb
    have hb2 := List.forall_mem_cons.mp hb.2
    obtain ⟨a1, a0, rfl, k1, k0⟩ := chunk4 hb.1
    obtain ⟨b1, b0, rfl, g1, g0⟩ := chunk16 hb2.1
    obtain ⟨c1, c0, rfl, f1, f0⟩ := chunk64 (hb2.2 c List.mem_cons_self)
    rw [vals3 k1 k0 g1 g0 f1 f0, enc3 k1 k0 g1 g0 f1 f0]
    exact ⟨⟨(by show 2 ≤ 4; decide), (by show 4 ≤ 6; decide), List.forall_mem_cons.mpr ⟨k1, List.forall_mem_cons.mpr ⟨dig16 k0 g1, List.forall_mem_cons.mpr ⟨dig4 g0 f1, List.forall_mem_cons.mpr ⟨f0, fun _ h => nomatch h⟩⟩⟩⟩⟩, by rfl⟩
  | [a, b, c, d], _, _, hb =>
    have hb := List.forall_mem_cons.mp hb
    have hb2 := List.forall_mem_cons.mp hb.2
    have hb3 := List.forall_mem_cons.mp hb2.2
    obtain ⟨a1, a0, rfl, k1, k0⟩ := chunk4 hb.1
    obtain ⟨b1, b0, rfl, g1, g0⟩ := chunk16 hb2.1
    obtain ⟨c1, c0, rfl, f1, f0⟩ := chunk64 hb3.1
    obtain ⟨d1, d0, rfl, l1, l0⟩ := chunk4 (hb3.2 d List.mem_cons_self)
    rw [vals4 k1 k0 g1 g0 f1 f0 l1 l0, enc4o k1 k0 g1 g0 f1 f0 l1 l0]
    exact ⟨⟨(by show 2 ≤ 6; decide), (by show 6 ≤ 6; decide), List.forall_mem_cons.mpr ⟨k1, List.forall_mem_cons.mpr ⟨dig16 k0 g1, List.forall_mem_cons.mpr ⟨dig4 g0 f1, List.forall_mem_cons.mpr ⟨f0, List.forall_mem_cons.mpr ⟨l1, List.forall_mem_cons.mpr ⟨dig16' l0, fun _ h => nomatch h⟩⟩⟩⟩⟩⟩⟩, by show _ = _ ++ List.replicate ((-((6 : Nat) : Int)).fmod 4).toNat 61; rw [e2]; rfl⟩
noncomputable def presentOf (vs : List Int) : List Int := ((List.range 64).map fun i : Nat => (i : Int)).filter fun x => vs.any (· == x)
theorem mem_present {vs : List Int} (h : Vals vs) {x : Int} : x ∈ presentOf vs ↔ x ∈ vs := by
  unfold presentOf
  rw [List.mem_filter, List.any_eq_true]
  constructor
  · rintro ⟨_, y, hy, e⟩; have : y = x := by simpa using e
    exact this ▸ hy
  · intro hx
    obtain ⟨h0, h1⟩ := h.b x hx
    exact ⟨List.mem_map.mpr ⟨x.toNat, List.mem_range.mpr (by lia), by lia⟩, x, hx, by simp⟩
theorem present_nd (vs : List Int) : (presentOf vs).Nodup := by
  unfold presentOf
  refine List.Pairwise.filter _ ?_
  exact List.Pairwise.map _ (fun a b h q => h (by have : (a : Int) = b := q; lia)) List.nodup_range
end Mine
end
section
open PySem PySem.W PyProof.Rows PySem.SeqAt
set_option maxHeartbeats 1000000
namespace Mine
section
variable {vs : List Int} {c d tt : Int} {k : Nat}
theorem two_Dd (h : Vals vs) (hc : 0 ≤ c ∧ c < 64) (hd : 0 ≤ d ∧ d < 64) : Dd ([cod c, cod d].reverse) ((vs.map cod).reverse) = 2 * (vs.length : Int) - 4 + leastF c d vs := by
  have hl := h.lo
  match vs, h with
  | [], h => simp at hl
  | [v], h => simp at hl
  | v0 :: v1 :: r, h => exact least_D hc hd h.b (by simp)
theorem far_eq (h : Vals vs) (hc : 0 ≤ c ∧ c < 64) (hd : 0 ≤ d ∧ d < 64) (ht : 0 ≤ tt) : lev [cod c, cod d] (vs.map cod) (12 + tt) = 2 * (vs.length : Int) - 4 + leastF c d vs := by
  have hl := h.hi
  rw [lev_D (by simp) (by rw [List.length_map]; lia) (by simp only [List.length_cons, List.length_nil]; lia) (by rw [List.length_map]; lia), two_Dd h hc hd]
theorem far_short (h : Vals vs) (hc : 0 ≤ c ∧ c < 64) (hd : 0 ≤ d ∧ d < 64) (hn : leastF c d vs ≠ 0) : lev [cod c, cod d] (vs.map cod) (2 * (vs.length : Int) - 5) = 2 * (vs.length : Int) - 4 := by
  have hl := h.hi
  have hl2 := h.lo
  rw [lev_short (by rw [List.length_map]; simpa using hl2) (by rw [List.length_map]; lia) (by rw [List.length_map]; simp only [List.length_cons, List.length_nil]; lia) (by rw [two_Dd h hc hd, List.length_map]; simp only [List.length_cons, List.length_nil]; lia)]
  lia
theorem count_cod : ∀ (vs : List Int), (∀ x ∈ vs, 0 ≤ x ∧ x < 64) → 0 ≤ d ∧ d < 64 → (vs.map cod).count (cod d) = vs.count d
  | [], _, _ => rfl
  | v :: vs, h, hd => by
    rw [List.map_cons, List.count_cons, List.count_cons, count_cod vs (fun x hx => h x (List.mem_cons_of_mem _ hx)) hd]
    congr 1
    by_cases e : v = d
    · subst e; simp
    · have : cod v ≠ cod d := fun q => e (cod_inj (h v List.mem_cons_self) hd q)
      simp [e, this]
theorem oft_eq (h : Vals vs) (hd : 0 ≤ d ∧ d < 64) (ht : 0 ≤ tt) (hk : k < vs.length) : (lev (vs.map cod) (List.replicate (k + 1) (cod d)) (12 + tt) == 2 * ((vs.length : Int) - k - 1)) = decide (k + 1 ≤ vs.count d) := by
  have hl := h.hi
  rw [lev_D (by rw [List.length_map]; lia) (by rw [List.length_replicate]; lia) (by rw [List.length_map]; lia) (by rw [List.length_replicate]; lia), List.reverse_replicate, Dd_comm]
  have e := (rep_D (c := cod d) (k + 1) (vs.map cod).reverse).2.1 (by rw [List.length_reverse, List.length_map]; lia)
  rw [List.length_reverse, List.length_map, List.count_reverse, count_cod vs h.b hd] at e
  by_cases q : k + 1 ≤ vs.count d
  · rw [decide_eq_true q, e.mpr q]
    simp; lia
  · rw [decide_eq_false q]
    have := fun z => q (e.mp z)
    rw [beq_eq_false_iff_ne]
    intro z; apply this; rw [z]; push_cast; lia
end
end Mine
end
section
open PySem PySem.W PyProof.Rows PySem.SeqAt
set_option maxHeartbeats 1000000
namespace Mine
noncomputable def lastFn : List Stmt → List Stmt × Scope
  | [.FunctionDef _ _ b _ _ _ sc _ _ _] => (b, sc)
  | _ :: r => lastFn r
  | [] => ([], default)
noncomputable def lawBody : List Stmt := (lastFn PySem.Challenge.pw_ny0306_02.main.body).1
noncomputable def lawScope : Scope := (lastFn PySem.Challenge.pw_ny0306_02.main.body).2
noncomputable def Two (hp h1 hr : Addr → Option (O Ky)) : Prop := (∀ b o, h1 b = some o → hp b = some o) ∧ (∀ b o, hr b = some o → hp b = some o) ∧ ∀ b, hr b ≠ none → h1 b = none
theorem Two.put {hp h1 hr : Addr → Option (O Ky)} {X : Addr} {o : O Ky} (t : Two hp h1 hr) (h : h1 X = none) : Two (put hp X o) h1 (put hr X o) :=
  ⟨fun b o e => (put_other (fun q => by rw [q, h] at e; cases e)).trans (t.1 b o e), put_mono t.2.1, fun b hb => by
    by_cases q : b = X
    · rw [q]; exact h
    · rw [put_other q] at hb; exact t.2.2 b hb⟩
section
variable {prog : Program} {w : World} {Γ : Fx} {σ : MS Ky} {A : Around} {env : Env} {α : Type} {s : Shared} {Q : Value → MS Ky → Prop} {QB : Bool → MS Ky → Prop} {QU : Unit → MS Ky → Prop} {QF : Flow → MS Ky → Prop}
variable {p : Program} {loose : List Str} {mg mb : Str → Option Value} {t u v : Tok} {n : Nat} {l : Addr} {a : Ad} {S : SS} {k : Ky}
theorem m_two {α : Type} {c : Sem α} {Q : α → MS Ky → Prop} {Q0 : α → (Addr → Option (O Ky)) → Prop} {m : Str → Option V} {hp h1 hr : Addr → Option (O Ky)} (t : Two hp h1 hr)
    (h : ∀ B' sub', mwp (kyK prog w) { Γ with B := B', sub := sub' } A c (fun v σ₁ => σ₁.m = m ∧ Q0 v σ₁.h) ⟨m, h1⟩) (k : ∀ v hp' h1', Two hp' h1' hr → Q0 v h1' → Q v ⟨m, hp'⟩) : mwp (kyK prog w) Γ A c Q ⟨m, hp⟩ := by
  refine mwp_mono (m_aside (σ := ⟨m, hp⟩) (h0 := h1) t.1 h) ?_
  rintro v ⟨m', hp'⟩ ⟨⟨m1, h1'⟩, ⟨q1, q2⟩, e1, e2, e3, e4⟩
  have e1 : m' = m1 := e1
  have q1 : m1 = m := q1
  subst e1 q1
  refine k v hp' h1' ⟨e2, fun b o e => e3 b o (t.2.1 b o e) (t.2.2 b (by rw [e]; exact nofun)), fun b hb => ?_⟩ q2
  refine e4 b ?_ (t.2.2 b hb)
  cases z : hr b with
  | none => exact absurd z hb
  | some o => show hp b ≠ none; rw [t.2.1 b o z]; exact nofun
theorem m_sorter {dN : Addr} {ep : Nat} {G : List (Ky × Addr × List Ky)} (hG : σ.h dN = some (.dict (G.map fun g => (g.1, V.ref g.2.1)) ep)) (hl : ∀ g ∈ G, σ.h g.2.1 = some (.list (g.2.2.map kyV)) ∧ g.2.2.length ≤ 10) (hGl : G.length ≤ 40) (Z : Here (Mine.hd1.heap_1 w.params) p loose mg mb Γ.base) (hA : Dp A (n + 5))
    (h : ∀ a h1 hq, Rep a (build G) h1 → Two hq h1 σ.h → Q (.ref a.x) ⟨σ.m, hq⟩) : mwp (kyK prog w) Γ A (call (.ref 181) [.ref dN]) Q σ := by
  refine c_make (hi := by k_is) (hm := by k_is) (hf := by k_is) (fI := 117) Z.X fun x dx n1 n2 n12 => ?_
  refine c_init (h0 := σ.h) rfl n1 n2 n12 hG hl hGl Z hA.make fun a h1 hq ea r s0 s1 dj => ⟨rfl, ?_⟩
  have := h a h1 hq r ⟨s1, s0, dj⟩
  rw [ea] at this
  exact this
end
end Mine
end
section
open PySem PySem.W PyProof.Rows PySem.SeqAt
set_option maxHeartbeats 4000000
namespace Mine
noncomputable abbrev lenv (L fa : Addr) (cdv : Value) : Env := envOfC "law" lawScope L fa cdv
theorem ca {L i j : Nat} (h : i ≠ j) : L + i ≠ L + j := by omega
structure Cs (L : Addr) (v1 v2 v3 v4 v5 v6 : Option V) (hp : Addr → Option (O Ky)) : Prop where
  c1 : hp (L + 1) = some (.cell v1)
  c2 : hp (L + 1 + 1) = some (.cell v2)
  c3 : hp (L + 1 + 1 + 1) = some (.cell v3)
  c4 : hp (L + 1 + 1 + 1 + 1) = some (.cell v4)
  c5 : hp (L + 1 + 1 + 1 + 1 + 1) = some (.cell v5)
  c6 : hp (L + 1 + 1 + 1 + 1 + 1 + 1) = some (.cell v6)
noncomputable def codes : List Nat := b64s.map (·.toNat)
theorem signs_T : Str.ofString "ABCDEFGHIJKLMNOPQRSTUVWXYZabcdefghijklmnopqrstuvwxyz0123456789+/" = T codes := by decide +kernel
theorem code_at {k : Nat} (h : k < 64) : codes[k]? = some (cod (k : Nat)) := by
  have : ∀ k : Fin 64, codes[k.val]? = some (cod (k.val : Nat)) := by decide +kernel
  exact this ⟨k, h⟩
theorem code_atI {x : Int} (h : 0 ≤ x ∧ x < 64) : ∃ k : Nat, x = (k : Int) ∧ k < 64 ∧ codes[k]? = some (cod x) := by
  obtain ⟨k, rfl⟩ := Int.eq_ofNat_of_zero_le h.1
  exact ⟨k, rfl, by omega, code_at (by omega)⟩
theorem fmN (x : Int) {m : Int} (hm : 0 < m) : ∃ k : Nat, x.fmod m = (k : Int) ∧ (k : Int) < m := by
  have h := Int.toNat_of_nonneg (Int.fmod_nonneg_of_pos x hm)
  exact ⟨(x.fmod m).toNat, h.symm, by rw [h]; exact Int.fmod_lt_of_pos x hm⟩
theorem m12 (x : Int) : ∃ m : Nat, 1 + (x.fmod 12).fdiv 4 = (m : Int) ∧ m ≤ 3 := by
  obtain ⟨k, e, h⟩ := fmN x (m := 12) (by decide)
  rw [e, Int.fdiv_eq_ediv_of_nonneg _ (by decide)]
  exact ⟨1 + k / 4, by omega, by omega⟩
theorem m4n (x : Int) : ∃ nn : Nat, 1 + (x + 2).fmod 4 = (nn : Int) ∧ 1 ≤ nn ∧ nn ≤ 4 := by
  obtain ⟨k, e, h⟩ := fmN (x + 2) (m := 4) (by decide)
  exact ⟨k + 1, by rw [e]; omega, by omega, by omega⟩
theorem rep_flat (m : Nat) (z : Int) : (List.replicate m [V.int z]).flatten = (List.replicate m z).map V.int := by
  induction m with
  | zero => rfl
  | succ m ih => rw [List.replicate_succ, List.flatten_cons, ih, List.replicate_succ]; rfl
noncomputable def tail6 : List Int := [4, 1, 2, 3, 9, 8]
section
variable {L X : Addr} {v1 v2 v3 v4 v5 v6 v : Option V} {hp : Addr → Option (O Ky)} {o : O Ky}
theorem Cs.mono {hq : Addr → Option (O Ky)} (c : Cs L v1 v2 v3 v4 v5 v6 hp) (h : ∀ b v, hp b = some (.cell v) → hq b = some (.cell v)) : Cs L v1 v2 v3 v4 v5 v6 hq := ⟨h _ _ c.c1, h _ _ c.c2, h _ _ c.c3, h _ _ c.c4, h _ _ c.c5, h _ _ c.c6⟩
theorem Cs.fresh (c : Cs L v1 v2 v3 v4 v5 v6 hp) (hX : hp X = none) : Cs L v1 v2 v3 v4 v5 v6 (put hp X o) := c.mono fun _ _ e => sub_put hX e
theorem Cs.own {od : O Ky} (c : Cs L v1 v2 v3 v4 v5 v6 hp) (hX : hp X = some od) (hn : ∀ v, O.cell v ≠ od) : Cs L v1 v2 v3 v4 v5 v6 (put hp X o) := c.mono fun _ v e => put_diff e hX (hn v)
theorem Cs.s1 (c : Cs L v1 v2 v3 v4 v5 v6 hp) : Cs L v v2 v3 v4 v5 v6 (put hp (L + 1) (.cell v)) := ⟨put_same, (put_other (ca (i := 2) (j := 1) (by decide))).trans c.c2, (put_other (ca (i := 3) (j := 1) (by decide))).trans c.c3, (put_other (ca (i := 4) (j := 1) (by decide))).trans c.c4, (put_other (ca (i := 5) (j := 1) (by decide))).trans c.c5, (put_other (ca (i := 6) (j := 1) (by decide))).trans c.c6⟩
theorem Cs.s2 (c : Cs L v1 v2 v3 v4 v5 v6 hp) : Cs L v1 v v3 v4 v5 v6 (put hp (L + 1 + 1) (.cell v)) := ⟨(put_other (ca (i := 1) (j := 2) (by decide))).trans c.c1, put_same, (put_other (ca (i := 3) (j := 2) (by decide))).trans c.c3, (put_other (ca (i := 4) (j := 2) (by decide))).trans c.c4, (put_other (ca (i := 5) (j := 2) (by decide))).trans c.c5, (put_other (ca (i := 6) (j := 2) (by decide))).trans c.c6⟩
theorem Cs.s3 (c : Cs L v1 v2 v3 v4 v5 v6 hp) : Cs L v1 v2 v v4 v5 v6 (put hp (L + 1 + 1 + 1) (.cell v)) := ⟨(put_other (ca (i := 1) (j := 3) (by decide))).trans c.c1, (put_other (ca (i := 2) (j := 3) (by decide))).trans c.c2, put_same, (put_other (ca (i := 4) (j := 3) (by decide))).trans c.c4, (put_other (ca (i := 5) (j := 3) (by decide))).trans c.c5, (put_other (ca (i := 6) (j := 3) (by decide))).trans c.c6⟩
theorem Cs.s4 (c : Cs L v1 v2 v3 v4 v5 v6 hp) : Cs L v1 v2 v3 v v5 v6 (put hp (L + 1 + 1 + 1 + 1) (.cell v)) := ⟨(put_other (ca (i := 1) (j := 4) (by decide))).trans c.c1, (put_other (ca (i := 2) (j := 4) (by decide))).trans c.c2, (put_other (ca (i := 3) (j := 4) (by decide))).trans c.c3, put_same, (put_other (ca (i := 5) (j := 4) (by decide))).trans c.c5, (put_other (ca (i := 6) (j := 4) (by decide))).trans c.c6⟩
theorem Cs.s5 (c : Cs L v1 v2 v3 v4 v5 v6 hp) : Cs L v1 v2 v3 v4 v v6 (put hp (L + 1 + 1 + 1 + 1 + 1) (.cell v)) := ⟨(put_other (ca (i := 1) (j := 5) (by decide))).trans c.c1, (put_other (ca (i := 2) (j := 5) (by decide))).trans c.c2, (put_other (ca (i := 3) (j := 5) (by decide))).trans c.c3, (put_other (ca (i := 4) (j := 5) (by decide))).trans c.c4, put_same, (put_other (ca (i := 6) (j := 5) (by decide))).trans c.c6⟩
end
inductive A1 (ls : Addr) (h1 : Addr → Option (O Ky)) (D1 : Addr) (N : List Int) (σ' : MS Ky) : Prop
  | mk (tt : Int) (h2 : Addr → Option (O Ky)) (h0 : 0 ≤ tt) (hf : Fit σ' (names [("script", .ref ls), ("total", .int tt)]) h2) (q1 : ∀ b o, h1 b = some o → h2 b = some o) (q2 : h2 D1 = some (.list (N.map V.int)))
inductive A5 (ls Dk D6 D3 L : Addr) (tt : Int) (Ns Kd : List Int) (i : Nat) (σ' : MS Ky) : Prop
  | mk (zs : List Int) (h2 : Addr → Option (O Ky)) (hf : Fit σ' (names [("script", .ref ls), ("total", .int tt), ("kinds", .ref Dk), ("sixes", .ref D6)]) h2) (cc : Cs L (some (.str (T codes))) none none none none none h2) (d6 : h2 D6 = some (.list (zs.map V.int))) (hz : zs.length ≤ 4 * i) (d3 : h2 D3 = some (.list (Ns.map V.int))) (dk : h2 Dk = some (.list (Kd.map V.int)))
inductive A7 (L D9 : Addr) (tt : Int) (N : List Int) (σ' : MS Ky) : Prop
  | mk (v3 : Option V) (nb : Int) (h2 : Addr → Option (O Ky)) (hf : Fit σ' (names [("total", .int tt)]) h2) (cc : Cs L (some (.str (T codes))) (some (.int nb)) v3 none none none h2) (d9 : h2 D9 = some (.list (N.map V.int)))
inductive B1 (ls : Addr) (h1 : Addr → Option (O Ky)) (σ' : MS Ky) : Prop
  | mk (tt : Int) (h2 : Addr → Option (O Ky)) (h0 : 0 ≤ tt) (hf : Fit σ' (names [("script", .ref ls), ("total", .int tt)]) h2) (q1 : ∀ b o, h1 b = some o → h2 b = some o)
inductive B5 (D6 L : Addr) (tt : Int) (σ' : MS Ky) : Prop
  | mk (zs : List Int) (h5 : Addr → Option (O Ky)) (hf : Fit σ' (names [("total", .int tt), ("sixes", .ref D6)]) h5) (cc : Cs L (some (.str (T codes))) none none none none none h5) (d6 : h5 D6 = some (.list (zs.map V.int))) (hz : zs.length ≤ 100)
inductive B7 (L : Addr) (tt : Int) (σ' : MS Ky) : Prop
  | mk (v3 : Option V) (nb : Int) (h5 : Addr → Option (O Ky)) (hf : Fit σ' (names [("total", .int tt)]) h5) (cc : Cs L (some (.str (T codes))) (some (.int nb)) v3 none none none h5)
section
variable {prog : Program} {w : World} {Γ : Fx} {σ : MS Ky} {A : Around} {env : Env} {α : Type} {s : Shared} {Q : Value → MS Ky → Prop} {QB : Bool → MS Ky → Prop} {QU : Unit → MS Ky → Prop} {QF : Flow → MS Ky → Prop}
variable {p : Program} {loose : List Str} {mg mb : Str → Option Value} {t u v : Tok} {n : Nat} {l : Addr} {a : Ad} {S : SS} {k : Ky}
theorem law_A {rest : List Stmt} {fa ls : Addr} {cdv : Value} {hp : Addr → Option (O Ky)} {ns : List Int} {oL : Obj} {vs : Array Value} {nn : Nat} (hns : ns.length ≤ 63) (hB : Γ.B ls = some oL ∧ oL.cls = .type "list" ∧ oL.data = .seq vs nn) (ar : Are (ns.map V.int) vs.toList)
    (c : Cs Γ.L none none none none none none hp) (Z : Here (Mine.hd1.heap_1 w.params) p loose mg mb Γ.base) (hA : Dp A (n + 6))
    (k : ∀ (tt : Int) (oct : List Int) (Do : Addr) (h' : Addr → Option (O Ky)) v2 v3, 0 ≤ tt → 1 ≤ oct.length → oct.length ≤ 4 → (∀ x ∈ oct, 0 ≤ x ∧ x < 256) → h' Do = some (.list (oct.map V.int)) → Cs Γ.L (some (.str (T codes))) v2 v3 none none none h' → mwp (kyK prog w) Γ A (execs rest (lenv Γ.L fa cdv)) QF ⟨names [("total", .int tt), ("octets", .ref Do)], h'⟩) :
    mwp (kyK prog w) Γ A (execs ((lawBody.drop 0).take 10 ++ rest) (lenv Γ.L fa cdv)) QF ⟨names [("script", .ref ls)], hp⟩ := by
  have hh : A.handled = none := hA.hd
  have c1 := c.c1
  refine m_cons ?_
  refine m_AssignName (hs := by rfl) ?_
  refine evS EvP.str fun _ => ?_
  refine m_storeCell (hk := by rfl) (hl := by rfl) (he := by rfl) (v := .str _) (c := Γ.L + 1) ⟨_, rfl⟩ c1 ?_
  rw [signs_T]
  have cc := c.s1 (v := some (.str (T codes)))
  skip
  refine m_weak (m' := names [("script", .ref ls)]) (h' := put hp (Γ.L + 1) (.cell (some (.str (T codes))))) (by exact Mine.Sub.of rfl) (fun _ _ e => e) ?_
  revert cc
  generalize put hp (Γ.L + 1) (.cell (some (.str (T codes)))) = h1
  intro cc
  clear c c1
  refine m_AssignE (hk := by rfl) (he := by rfl) (hs := by rfl) EvP.int ?_
  refine m_weak (m' := names [("script", .ref ls), ("total", .int 0)]) (h' := h1) (by exact Mine.Sub.of rfl) (fun _ _ e => e) ?_
  have hsl : ns.length ≤ sizeLine := Nat.le_trans hns (by decide)
  refine m_cons ?_
  refine m_then (P := B1 ls h1) ?_ ?_
  · refine m_For (hs := by intro _; rfl) (hk := by rfl) (hl := by rfl) (he := by rfl) ?_
    refine m_SubSliceB ?_
    refine evR (EvP.nm (v := .ref _) (by rfl)) ?_
    refine m_part0 ?_
    refine m_part ?_
    refine evI EvP.int fun _ => ?_
    refine ⟨ls, oL, vs, nn, _, 18, _, rfl, hB, ar, by rw [List.length_map]; exact hsl, rfl, rfl, fun D1 hD1 => ?_⟩
    have hD1 : h1 D1 = none := hD1
    rw [← List.map_take]
    skip
    refine ⟨_, _, _, yields_list hh (xs := (ns.take 18).map V.int), fun _ σ' => A1 ls h1 D1 (ns.take 18) σ', ⟨0, _, by decide, by exact ⟨by exact Mine.Sub.of rfl, fun _ _ e => e⟩, fun b o e => sub_put hD1 e, put_same⟩, fun i σ' q => by obtain ⟨tt, h2, _, hf, _, q⟩ := q; exact hf.2 _ _ q, ?_, ?_⟩
    · rintro i y σ' I ob hb hy ⟨tt, h2, h0, hf, q1, q2⟩
      obtain ⟨x, hx, rfl⟩ := map_get hy
      refine m_fitS hf ?_
      refine m_IaddE (hk := by rfl) (he := by rfl) (by rfl) (EvP.mod (EvP.nm (v := .int _) (by rfl)) EvP.int (by first | decide | assumption)) ?_
      refine m_nil ?_
      exact ⟨tt + x.fmod 1000000000000000, h2, Int.add_nonneg h0 (Int.fmod_nonneg_of_pos x (by decide)), by exact ⟨by exact Mine.Sub.of rfl, fun _ _ e => e⟩, q1, q2⟩
    · rintro σ' ⟨tt, h2, h0, hf, q1, q2⟩
      skip
      exact ⟨rfl, tt, h2, h0, hf, q1⟩
  rintro σ' ⟨tt, h2, htt, hf, q1⟩
  refine m_fit hf ?_
  clear hf
  replace cc := cc.mono fun b v e => q1 b _ e
  clear q1
  clear h1
  refine m_cons ?_
  refine m_AssignName (hs := by rfl) ?_
  refine m_List ?_
  refine m_splE (he := by rfl) ?_
  refine evI (EvP.mod (EvP.add (EvP.nm (v := .int _) (by rfl)) EvP.int) EvP.int (by first | decide | assumption)) fun _ => ?_
  refine m_splE (he := by rfl) ?_
  refine evI (EvP.mod (EvP.add (EvP.nm (v := .int _) (by rfl)) EvP.int) EvP.int (by first | decide | assumption)) fun _ => ?_
  refine m_splE (he := by rfl) ?_
  refine evI (EvP.mod (EvP.add (EvP.div (EvP.nm (v := .int _) (by rfl)) EvP.int (by first | decide | assumption) (by first | decide | assumption)) EvP.int) EvP.int (by first | decide | assumption)) fun _ => ?_
  refine m_splE (he := by rfl) ?_
  refine evI EvP.int fun _ => ?_
  refine m_splE0 ?_
  refine m_newList (xs := [(tt + 7).fmod 64, (tt + 33).fmod 64, (tt.fdiv 64 + 55).fmod 64, 0].map V.int) (.cons ⟨_, rfl⟩ (.cons ⟨_, rfl⟩ (.cons ⟨_, rfl⟩ (.cons ⟨_, rfl⟩ .nil)))) (by show 4 ≤ sizeLine; decide) fun Dk hDk => ?_
  have hDk : h2 Dk = none := hDk
  have cc2 := cc.fresh (o := .list ([(tt + 7).fmod 64, (tt + 33).fmod 64, (tt.fdiv 64 + 55).fmod 64, 0].map V.int)) hDk
  have dk : put h2 Dk (.list ([(tt + 7).fmod 64, (tt + 33).fmod 64, (tt.fdiv 64 + 55).fmod 64, 0].map V.int)) Dk = some (.list ([(tt + 7).fmod 64, (tt + 33).fmod 64, (tt.fdiv 64 + 55).fmod 64, 0].map V.int)) := put_same
  refine m_str' (hk := by rfl) (hl := by rfl) (he := by rfl) ?_
  skip
  refine m_weak (m' := names [("script", .ref ls), ("total", .int tt), ("kinds", .ref Dk)]) (h' := put h2 Dk (.list ([(tt + 7).fmod 64, (tt + 33).fmod 64, (tt.fdiv 64 + 55).fmod 64, 0].map V.int))) (by exact Mine.Sub.of rfl) (fun _ _ e => e) ?_
  revert cc2 dk
  generalize put h2 Dk (.list ([(tt + 7).fmod 64, (tt + 33).fmod 64, (tt.fdiv 64 + 55).fmod 64, 0].map V.int)) = h3
  generalize hK : [(tt + 7).fmod 64, (tt + 33).fmod 64, (tt.fdiv 64 + 55).fmod 64, 0] = Kd
  have hKl : Kd.length = 4 := by rw [← hK]; rfl
  clear hK cc hDk
  intro cc dk
  refine m_cons ?_
  refine m_AssignName (hs := by rfl) ?_
  refine m_List ?_
  refine m_splE0 ?_
  refine m_newList .nil (by decide) fun D6 hD6 => ?_
  have hD6 : h3 D6 = none := hD6
  refine m_str' (hk := by rfl) (hl := by rfl) (he := by rfl) ?_
  skip
  have cc2 := cc.fresh (o := .list []) hD6
  have dk2 := sub_put (x := O.list ([] : List V)) hD6 dk
  have d6 : put h3 D6 (.list []) D6 = some (.list []) := put_same
  have n6 : Dk ≠ D6 := ne_none dk hD6
  refine m_weak (m' := names [("script", .ref ls), ("total", .int tt), ("kinds", .ref Dk), ("sixes", .ref D6)]) (h' := put h3 D6 (.list [])) (by exact Mine.Sub.of rfl) (fun _ _ e => e) ?_
  revert cc2 dk2 d6
  generalize put h3 D6 (.list []) = h4
  clear cc dk hD6
  intro cc dk d6
  refine m_cons ?_
  refine m_then (P := B5 D6 Γ.L tt) ?_ ?_
  · refine m_For (hs := by intro _; rfl) (hk := by rfl) (hl := by rfl) (he := by rfl) ?_
    refine m_BinOp ?_
    refine m_SubSliceB ?_
    refine evR (EvP.nm (v := .ref _) (by rfl)) ?_
    refine m_part0 ?_
    refine m_part ?_
    refine evI EvP.int fun _ => ?_
    refine ⟨ls, oL, vs, nn, _, 18, _, rfl, hB, ar, by rw [List.length_map]; exact hsl, rfl, rfl, fun D1 hD1 => ?_⟩
    have hD1 : h4 D1 = none := hD1
    rw [← List.map_take]
    refine m_List ?_
    refine m_splE (he := by rfl) ?_
    refine evI EvP.int fun _ => ?_
    refine m_splE (he := by rfl) ?_
    refine evI EvP.int fun _ => ?_
    refine m_splE (he := by rfl) ?_
    refine evI EvP.int fun _ => ?_
    refine m_splE (he := by rfl) ?_
    refine evI EvP.int fun _ => ?_
    refine m_splE (he := by rfl) ?_
    refine evI EvP.int fun _ => ?_
    refine m_splE (he := by rfl) ?_
    refine evI EvP.int fun _ => ?_
    refine m_splE0 ?_
    refine m_newList (xs := tail6.map V.int) (.cons ⟨_, rfl⟩ (.cons ⟨_, rfl⟩ (.cons ⟨_, rfl⟩ (.cons ⟨_, rfl⟩ (.cons ⟨_, rfl⟩ (.cons ⟨_, rfl⟩ .nil)))))) (by show 6 ≤ sizeLine; decide) fun D2 hD2 => ?_
    have hD2 : put h4 D1 (.list ((ns.take 18).map V.int)) D2 = none := hD2
    skip
    refine m_addLists (sub_put hD2 put_same) put_same ?_ fun D3 hD3 => ?_
    · rw [List.length_map, List.length_map, List.length_take]; exact Nat.le_trans (show _ ≤ 1000 by show min 18 ns.length + 6 ≤ 1000; omega) (by decide)
    rw [← List.map_append]
    have hD3 : put (put h4 D1 (.list ((ns.take 18).map V.int))) D2 (.list (tail6.map V.int)) D3 = none := hD3
    have cc2 := ((cc.fresh (o := .list ((ns.take 18).map V.int)) hD1).fresh (o := .list (tail6.map V.int)) hD2).fresh (o := .list ((ns.take 18 ++ tail6).map V.int)) hD3
    have dk2 := sub_put (x := O.list ((ns.take 18 ++ tail6).map V.int)) hD3 (sub_put (x := O.list (tail6.map V.int)) hD2 (sub_put (x := O.list ((ns.take 18).map V.int)) hD1 dk))
    have d62 := sub_put (x := O.list ((ns.take 18 ++ tail6).map V.int)) hD3 (sub_put (x := O.list (tail6.map V.int)) hD2 (sub_put (x := O.list ((ns.take 18).map V.int)) hD1 d6))
    have d3 : put (put (put h4 D1 (.list ((ns.take 18).map V.int))) D2 (.list (tail6.map V.int))) D3 (.list ((ns.take 18 ++ tail6).map V.int)) D3 = some (.list ((ns.take 18 ++ tail6).map V.int)) := put_same
    have n36 : D3 ≠ D6 := fun q => by
      have := none_put (none_put hD3); rw [q, d6] at this; cases this
    have hlen : (ns.take 18 ++ tail6).length ≤ 24 := by rw [List.length_append, List.length_take]; show min 18 ns.length + 6 ≤ 24; omega
    skip
    revert cc2 dk2 d62 d3
    show _ → _ → _ → _ → ForQ _ _ _ _ _ _ _ _ ⟨names [("script", .ref ls), ("total", .int tt), ("kinds", .ref Dk), ("sixes", .ref D6)], put (put (put h4 D1 (.list ((ns.take 18).map V.int))) D2 (.list (tail6.map V.int))) D3 (.list ((ns.take 18 ++ tail6).map V.int))⟩
    generalize put (put (put h4 D1 (.list ((ns.take 18).map V.int))) D2 (.list (tail6.map V.int))) D3 (.list ((ns.take 18 ++ tail6).map V.int)) = h5
    generalize ns.take 18 ++ tail6 = Ns at hlen ⊢
    clear cc dk d6 hD1 hD2 hD3
    intro cc dk d6 d3
    refine ⟨_, _, _, yields_list hh (xs := Ns.map V.int), fun i σ' => A5 ls Dk D6 D3 Γ.L tt Ns Kd i σ', ⟨[], h5, by exact ⟨by exact Mine.Sub.of rfl, fun _ _ e => e⟩, cc, d6, Nat.zero_le _, d3, dk⟩, fun i σ' q => by obtain ⟨zs, h2, hf, _, _, _, q, _⟩ := q; exact hf.2 _ _ q, ?_, ?_⟩
    · clear cc dk d6 d3
      rintro i y σ' I ob hb hy ⟨zs, h2, hf, cc, d6, hz, d3, dk⟩
      obtain ⟨x, hx, rfl⟩ := map_get hy
      have hi : i < 24 := Nat.lt_of_lt_of_le (List.getElem?_eq_some_iff.mp hx).1 hlen
      refine m_fitS hf ?_
      clear hf
      obtain ⟨k4, e4, h4⟩ := fmN x (m := 4) (by decide)
      have h4 : k4 < 4 := Int.ofNat_lt.mp h4
      obtain ⟨mN, em, hm⟩ := m12 x
      refine m_abs fun Zq0 hZq0 => ?_
      refine m_cons ?_
      refine m_Expr (hi := by rfl) (hs := by rfl) ?_
      refine m_Method (he := by rfl) ?_
      refine evR (EvP.nm (v := .ref _) (by rfl)) ?_
      refine m_methList (by walk_at "hl") PySem.F.slot_list_extend PySem.F.type_list_extend ?_
      refine m_callB (he := by rfl) (hplain := by rfl) ?_
      refine m_splE (he := by rfl) ?_
      refine m_BinOp ?_
      refine m_List ?_
      refine m_splE (he := by rfl) ?_
      refine m_Sub ?_
      refine evR (EvP.nm (v := .ref _) (by rfl)) ?_
      refine evI (EvP.mod (EvP.nm (v := .int _) (by rfl)) EvP.int (by first | decide | assumption)) fun _ => ?_
      rw [e4]
      refine m_atLi (hs := by with_unfolding_all rfl) (k := k4) (z := Kd.getD k4 0) dk (by omega) (by rw [List.getElem?_map, List.getElem?_eq_getElem (by omega), List.getD_eq_getElem?_getD, List.getElem?_eq_getElem (by omega)]; rfl) fun _ => ?_
      refine m_splE0 ?_
      refine m_newList (xs := [.int (Kd.getD k4 0)]) (.cons ⟨_, rfl⟩ .nil) (by show 1 ≤ sizeLine; decide) fun D7 hD7 => ?_
      have hD7 : h2 D7 = none := hD7
      refine evI (EvP.add EvP.int (EvP.div (EvP.mod (EvP.nm (v := .int _) (by rfl)) EvP.int (by first | decide | assumption)) EvP.int (by first | decide | assumption) (by first | decide | assumption))) fun _ => ?_
      rw [em]
      refine m_mulList put_same (by simp) (Int.natCast_nonneg _) (Int.lt_of_le_of_lt (Int.ofNat_le.mpr hm) (by decide)) (by rw [Int.toNat_natCast]; exact Nat.le_trans (show 1 * mN ≤ 3 by omega) (by decide)) fun D8 hD8 => ?_
      have hD8 : put h2 D7 (.list [.int (Kd.getD k4 0)]) D8 = none := hD8
      refine m_splE0 ?_
      rw [rep_flat, Int.toNat_natCast]
      have n68 : D6 ≠ D8 := ne_none (sub_put hD7 d6) hD8
      refine m_extend (xs := zs.map V.int) (ys := (List.replicate mN (Kd.getD k4 0)).map V.int) (sub_put hD8 (sub_put hD7 d6)) put_same (by rw [List.length_map, List.length_map, List.length_replicate]; omega) ?_
      refine m_nil ?_
      refine hZq0 _ _ ?_
      rw [← List.map_append]
      have d62 := sub_put (x := O.list ((List.replicate mN (Kd.getD k4 0)).map V.int)) hD8 (sub_put (x := O.list [.int (Kd.getD k4 0)]) hD7 d6)
      refine ⟨zs ++ List.replicate mN (Kd.getD k4 0), _, by exact ⟨by exact Mine.Sub.of rfl, fun _ _ e => e⟩, ((cc.fresh hD7).fresh hD8).own d62 (fun _ q => by cases q), put_same, by rw [List.length_append, List.length_replicate]; omega, (put_other n36).trans (sub_put hD8 (sub_put hD7 d3)), (put_other n6).trans (sub_put hD8 (sub_put hD7 dk))⟩
    · rintro σ' ⟨zs, h2, hf, cc, d6, hz, d3, dk⟩
      rw [List.length_map] at hz
      skip
      refine ⟨rfl, zs, h2, ⟨fun z v q => hf.1 z v ?_, hf.2⟩, cc, d6, by omega⟩
      revert q; exact (show Sub (names _) (names _) by exact Mine.Sub.of rfl) z v
  rintro σ' ⟨zs, h5, hf, cc5, d65, hz⟩
  refine m_fit hf ?_
  clear hf
  refine m_weak (m' := names [("total", .int tt), ("sixes", .ref D6)]) (h' := h5) (by exact Mine.Sub.of rfl) (fun _ _ e => e) ?_
  clear cc dk d6 n6 hKl
  have c2 := cc5.c2
  refine m_cons ?_
  refine m_AssignName (hs := by rfl) ?_
  refine evI EvP.int fun _ => ?_
  refine m_storeCell (hk := by rfl) (hl := by rfl) (he := by rfl) (v := .int _) (c := Γ.L + 1 + 1) ⟨_, rfl⟩ c2 ?_
  skip
  have cc := cc5.s2 (v := some (.int 0))
  have d6 : put h5 (Γ.L + 1 + 1) (.cell (some (.int 0))) D6 = _ := put_diff d65 c2 (by intro q; cases q)
  refine m_weak (m' := names [("total", .int tt), ("sixes", .ref D6)]) (h' := put h5 (Γ.L + 1 + 1) (.cell (some (.int 0)))) (by exact Mine.Sub.of rfl) (fun _ _ e => e) ?_
  revert cc d6
  generalize put h5 (Γ.L + 1 + 1) (.cell (some (.int 0))) = h6
  clear c2 cc5 d65 h5
  intro cc d6
  refine m_cons ?_
  refine m_then (P := B7 Γ.L tt) ?_ ?_
  · refine m_ForG (hs := by intro _; rfl) ?_
    refine m_SubSlice ?_
    refine evR (EvP.nm (v := .ref _) (by rfl)) ?_
    refine m_part0 ?_
    refine m_part ?_
    refine evI EvP.int fun _ => ?_
    refine .inr ⟨D6, _, rfl, d6, by rw [List.length_map]; exact Nat.le_trans hz (by decide), .inl ⟨6, _, rfl, rfl, fun D9 hD9 => ?_⟩⟩
    have hD9 : h6 D9 = none := hD9
    rw [← List.map_take]
    skip
    refine ⟨_, _, _, yields_list hh (xs := (zs.take 6).map V.int), fun _ σ' => A7 Γ.L D9 tt (zs.take 6) σ', ⟨none, 0, _, by exact ⟨by exact Mine.Sub.of rfl, fun _ _ e => e⟩, cc.fresh hD9, put_same⟩, fun i σ' q => by obtain ⟨v3, nb, h5, hf, _, q⟩ := q; exact hf.2 _ _ q, ?_, ?_⟩
    · rintro i y v' σ' I ob hb hy iv ⟨v3, nb, h2, hf, cc, d9⟩
      obtain ⟨x, hx, rfl⟩ := map_get hy
      obtain ⟨tx, rfl⟩ := iv
      refine m_fit hf ?_
      clear hf
      have c3 := cc.c3
      refine m_storeCell (hk := by rfl) (hl := by rfl) (he := by rfl) (v := .int _) (c := Γ.L + 1 + 1 + 1) ⟨_, rfl⟩ c3 ?_
      have cc1 := cc.s3 (v := some (.int x))
      have d91 : put h2 (Γ.L + 1 + 1 + 1) (.cell (some (.int x))) D9 = _ := put_diff d9 c3 (by intro q; cases q)
      refine m_weak (m' := names [("total", .int tt)]) (h' := put h2 (Γ.L + 1 + 1 + 1) (.cell (some (.int x)))) (by exact Mine.Sub.of rfl) (fun _ _ e => e) ?_
      revert cc1 d91
      generalize put h2 (Γ.L + 1 + 1 + 1) (.cell (some (.int x))) = h3
      clear cc d9 c3
      intro cc d9
      have c2 := cc.c2
      have c3 := cc.c3
      refine m_abs fun Zq0 hZq0 => ?_
      refine m_cons ?_
      refine m_AssignName (hs := by rfl) ?_
      refine evI (EvP.add (EvP.mul (EvP.cell c2) EvP.int (by first | exact IntMulOk.of_right (by decide) | exact IntMulOk.of_left (by decide) | assumption)) (EvP.cell c3)) fun _ => ?_
      refine m_storeCell (hk := by rfl) (hl := by rfl) (he := by rfl) (v := .int _) (c := Γ.L + 1 + 1) ⟨_, rfl⟩ c2 ?_
      refine m_nil ?_
      refine hZq0 _ _ ?_
      exact ⟨some (.int x), nb * 64 + x, _, by exact ⟨by exact Mine.Sub.of rfl, fun _ _ e => e⟩, cc.s2, put_diff d9 c2 (by intro q; cases q)⟩
    · rintro σ' ⟨v3, nb, h5, hf, cc, d9⟩
      skip
      exact ⟨rfl, v3, nb, h5, hf, cc⟩
  rintro σ' ⟨v3, nb, h7, hf, cc7⟩
  refine m_fit hf ?_
  clear hf
  have c2 := cc7.c2
  obtain ⟨nn, en, hn⟩ := m4n tt
  refine m_AssignE (hk := by rfl) (he := by rfl) (hs := by rfl) (EvP.add EvP.int (EvP.mod (EvP.add (EvP.nm (v := .int _) (by rfl)) EvP.int) EvP.int (by first | decide | assumption))) ?_
  refine m_cons ?_
  rw [en]
  refine m_AComp (hsw := by rfl) (hclos := by rfl) (hcell := by decide) (hkind := by rfl) (hnames := by decide) (hx := by rfl) (hs := by intro _; rfl) (hk := by rfl) (hy := by rfl) (he := by rfl) ?_
  refine m_abs fun Zq0 hZq0 => ?_
  refine m_Call (he := by rfl) ?_
  refine m_Name (hd := by decide) ?_
  first | refine m_gK (e := by k_is) (hk := by rfl) (hl := by rfl) (he := by rfl) (by assumption) ?_ | refine m_gB (e := by k_is) (hv := by rfl) (hn := by decide) (hk := by rfl) (hl := by rfl) (he := by rfl) (hf := by rfl) (by assumption) ?_
  refine m_callT (he := by rfl) (hplain := by rfl) ?_
  refine m_splE (he := by rfl) ?_
  refine evI (EvP.nm (v := .int _) (by rfl)) fun _ => ?_
  refine m_splE0 ?_
  refine m_range1 fun R hR => ?_
  have hR : h7 R = none := hR
  refine hZq0 _ _ ?_
  refine ⟨_, _, _, yields_range hh nn (range_small (by omega)).1 (range_small (by omega)).2, by rw [List.length_map, List.length_range]; exact Nat.le_trans hn.2 (by decide), fun σ' hs => hs _ _ put_same, fun _ => true, fun y => match y with | .int i => .int ((nb.fdiv (2 ^ (28 - 8 * i).toNat)).fmod 256) | y => y, ?_, ?_⟩
  · intro y hy C I ob hb D od hd
    obtain ⟨i, hi, rfl⟩ := List.mem_map.mp hy
    have hi := List.mem_range.mp hi
    skip
    refine ⟨rfl, ?_⟩
    skip
    refine itrue rfl ?_
    have c2' := sub_put (x := O.range 0 (nn : Nat) 1) hR c2
    refine m_weak (m' := names [("k", .int (0 + (i : Nat) * 1))]) (h' := put h7 R (.range 0 (nn : Nat) 1)) (by exact Mine.Sub.of rfl) (fun _ _ e => e) ?_
    refine mwp_mono (Q := fun e σ₃ => (∀ a o, put h7 R (.range 0 (nn : Nat) 1) a = some o → σ₃.h a = some o) ∧ V.is (.int ((nb.fdiv (2 ^ (28 - 8 * (0 + (i : Nat) * 1) : Int).toNat)).fmod 256)) e) ?_ (fun _ _ q => q)
    revert c2'
    generalize put h7 R (.range 0 (nn : Nat) 1) = h8
    intro c2'
    have hpw : ((2 : Int) ^ (28 - 8 * (0 + (i : Nat) * 1) : Int).toNat) ≠ 0 ∧ ((2 : Int) ^ (28 - 8 * (0 + (i : Nat) * 1) : Int).toNat).natAbs < 2 ^ 64 := by
      have : i = 0 ∨ i = 1 ∨ i = 2 ∨ i = 3 := by omega
      rcases this with rfl | rfl | rfl | rfl <;> decide
    have hpw1 := hpw.1
    have hpw2 := hpw.2
    refine m_BinOp ?_
    refine m_BinOp ?_
    refine evI (EvP.cell c2') fun _ => ?_
    refine m_BinOp ?_
    refine evI EvP.int fun _ => ?_
    refine evI (EvP.sub EvP.int (EvP.mul EvP.int (EvP.nm (v := .int _) (by rfl)) (by first | exact IntMulOk.of_right (by decide) | exact IntMulOk.of_left (by decide) | assumption))) fun _ => ?_
    refine m_pow (by omega) (by show (2 : Int) * _ ≤ _; omega) fun _ => ?_
    first | refine m_div (by first | decide | assumption) (noPylong (by first | decide | assumption)) fun _ => ?_ | refine m_div ?_ ?_ fun _ => ?_
    refine evI EvP.int fun _ => ?_
    refine m_mod (by first | decide | assumption) fun _ => ?_
    exact ⟨fun _ _ e => e, _, rfl⟩
  · intro D hD
    have hD : put h7 R (.range 0 (nn : Nat) 1) D = none := hD
    have eo : List.map (fun y => match y with | V.int i => V.int ((nb.fdiv (2 ^ (28 - 8 * i).toNat)).fmod 256) | y => y) (List.filter (fun x => true) ((List.range nn).map fun i : Nat => V.int (0 + (i : Nat) * 1))) = ((List.range nn).map fun i : Nat => (nb.fdiv (2 ^ (28 - 8 * (0 + (i : Nat) * 1) : Int).toNat)).fmod 256).map V.int := by
      rw [filter_all, List.map_map, List.map_map]; rfl
    rw [eo]
    skip
    refine m_weak (m' := names [("total", .int tt), ("octets", .ref D)]) (h' := put (put h7 R (.range 0 (nn : Nat) 1)) D (.list (((List.range nn).map fun i : Nat => (nb.fdiv (2 ^ (28 - 8 * (0 + (i : Nat) * 1) : Int).toNat)).fmod 256).map V.int))) (by exact Mine.Sub.of rfl) (fun _ _ e => e) ?_
    refine k tt _ D _ _ _ htt (by rw [List.length_map, List.length_range]; exact hn.1) (by rw [List.length_map, List.length_range]; exact hn.2) (fun x hx => ?_) put_same ((cc7.fresh hR).fresh hD)
    obtain ⟨i, _, rfl⟩ := List.mem_map.mp hx
    exact ⟨Int.fmod_nonneg_of_pos _ (by decide), Int.fmod_lt_of_pos _ (by decide)⟩
end
end Mine
end
section
open PySem PySem.W PyProof.Rows PySem.SeqAt
set_option maxHeartbeats 4000000
namespace Mine
section
variable {prog : Program} {w : World} {Γ : Fx} {σ : MS Ky} {A : Around} {env : Env} {α : Type} {s : Shared} {Q : Value → MS Ky → Prop} {QB : Bool → MS Ky → Prop} {QU : Unit → MS Ky → Prop} {QF : Flow → MS Ky → Prop}
variable {p : Program} {loose : List Str} {mg mb : Str → Option Value} {t u v : Tok} {n : Nat} {l : Addr} {a : Ad} {S : SS} {k : Ky}
theorem law_B {rest : List Stmt} {fa Do : Addr} {cdv : Value} {hp : Addr → Option (O Ky)} {tt : Int} {oct : List Int} {v2 v3 : Option V} (htt : 0 ≤ tt) (h1 : 1 ≤ oct.length) (h4 : oct.length ≤ 4) (hb : ∀ x ∈ oct, 0 ≤ x ∧ x < 256) (dq : hp Do = some (.list (oct.map V.int)))
    (c : Cs Γ.L (some (.str (T codes))) v2 v3 none none none hp) (Z : Here (Mine.hd1.heap_1 w.params) p loose mg mb Γ.base) (hA : Dp A (n + 6))
    (k : ∀ (vs : List Int) (Dv Dp : Addr) (h' : Addr → Option (O Ky)), Vals vs → h' Dv = some (.list (vs.map V.int)) → h' Dp = some (.list ((presentOf vs).map V.int)) → Cs Γ.L (some (.str (T codes))) v2 v3 (some (.ref Dv)) none none h' →
      mwp (kyK prog w) Γ A (execs rest (lenv Γ.L fa cdv)) QF ⟨names [("size", .int (vs.length : Nat)), ("text", .str (T (vs.map cod))), ("bound", .int (12 + tt)), ("present", .ref Dp)], h'⟩) :
    mwp (kyK prog w) Γ A (execs ((lawBody.drop 10).take 7 ++ rest) (lenv Γ.L fa cdv)) QF ⟨names [("total", .int tt), ("octets", .ref Do)], hp⟩ := by
  have hh : A.handled = none := hA.hd
  have c4 := c.c4
  obtain ⟨hV, eT⟩ := enc_vals h1 h4 hb
  refine m_cons ?_
  refine m_AssignName (hs := by rfl) ?_
  refine m_Call (he := by rfl) ?_
  refine m_Name (hd := by decide) ?_
  first | refine m_gK (e := by k_is) (hk := by rfl) (hl := by rfl) (he := by rfl) (by assumption) ?_ | refine m_gB (e := by k_is) (hv := by rfl) (hn := by decide) (hk := by rfl) (hl := by rfl) (he := by rfl) (hf := by rfl) (by assumption) ?_
  refine m_callZ (hk := by k_is) (he := by rfl) (hplain := by rfl) (by assumption) ?_
  refine m_splE (he := by rfl) ?_
  refine evR (EvP.nm (v := .ref _) (by rfl)) ?_
  refine m_splE0 ?_
  refine m_code (c_values dq hb h4 Z (hA.le (by omega) : Dp A n) fun Dv hDv => ?_)
  have hDv : hp Dv = none := hDv
  skip
  revert hV eT
  generalize valuesF oct = vs
  intro hV eT
  refine m_storeCell (hk := by rfl) (hl := by rfl) (he := by rfl) (v := .ref Dv) (c := Γ.L + 1 + 1 + 1 + 1) rfl (sub_put hDv c4) ?_
  skip
  have cc := (c.fresh (o := .list (vs.map V.int)) hDv).s4 (v := some (.ref Dv))
  have dv : put (put hp Dv (.list (vs.map V.int))) (Γ.L + 1 + 1 + 1 + 1) (.cell (some (.ref Dv))) Dv = some (.list (vs.map V.int)) := put_diff put_same (sub_put hDv c4) (by intro q; cases q)
  have dq2 : put (put hp Dv (.list (vs.map V.int))) (Γ.L + 1 + 1 + 1 + 1) (.cell (some (.ref Dv))) Do = some (.list (oct.map V.int)) := put_diff (sub_put hDv dq) (sub_put hDv c4) (by intro q; cases q)
  refine m_weak (m' := names [("total", .int tt), ("octets", .ref Do)]) (h' := put (put hp Dv (.list (vs.map V.int))) (Γ.L + 1 + 1 + 1 + 1) (.cell (some (.ref Dv)))) (by exact Mine.Sub.of rfl) (fun _ _ e => e) ?_
  revert cc dv dq2
  generalize put (put hp Dv (.list (vs.map V.int))) (Γ.L + 1 + 1 + 1 + 1) (.cell (some (.ref Dv))) = h2
  clear c c4 hDv dq
  intro cc dv dq
  have c1 := cc.c1
  have c4 := cc.c4
  have hvl := hV.hi
  refine m_cons ?_
  refine m_AssignName (hs := by rfl) ?_
  refine m_Call (he := by rfl) ?_
  refine m_Name (hd := by decide) ?_
  first | refine m_gK (e := by k_is) (hk := by rfl) (hl := by rfl) (he := by rfl) (by assumption) ?_ | refine m_gB (e := by k_is) (hv := by rfl) (hn := by decide) (hk := by rfl) (hl := by rfl) (he := by rfl) (hf := by rfl) (by assumption) ?_
  refine m_callB (he := by rfl) (hplain := by rfl) ?_
  refine m_splE (he := by rfl) ?_
  refine evR (EvP.cell c4) ?_
  refine m_splE0 ?_
  refine m_lenList dv (by rw [List.length_map]; omega) fun _ => ?_
  rw [List.length_map]
  refine m_sti (hk := by rfl) (hl := by rfl) (he := by rfl) ?_
  refine m_cons ?_
  refine m_AssignName (hs := by rfl) ?_
  refine m_Call (he := by rfl) ?_
  refine m_Name (hd := by decide) ?_
  first | refine m_gK (e := by k_is) (hk := by rfl) (hl := by rfl) (he := by rfl) (by assumption) ?_ | refine m_gB (e := by k_is) (hv := by rfl) (hn := by decide) (hk := by rfl) (hl := by rfl) (he := by rfl) (hf := by rfl) (by assumption) ?_
  refine m_callZ (hk := by k_is) (he := by rfl) (hplain := by rfl) (by assumption) ?_
  refine m_splE (he := by rfl) ?_
  refine m_abs fun Zq0 hZq0 => ?_
  refine m_Call (he := by rfl) ?_
  refine m_Name (hd := by decide) ?_
  first | refine m_gK (e := by k_is) (hk := by rfl) (hl := by rfl) (he := by rfl) (by assumption) ?_ | refine m_gB (e := by k_is) (hv := by rfl) (hn := by decide) (hk := by rfl) (hl := by rfl) (he := by rfl) (hf := by rfl) (by assumption) ?_
  refine m_callZ (hk := by k_is) (he := by rfl) (hplain := by rfl) (by assumption) ?_
  refine m_splE (he := by rfl) ?_
  refine m_Call (he := by rfl) ?_
  refine m_Name (hd := by decide) ?_
  first | refine m_gK (e := by k_is) (hk := by rfl) (hl := by rfl) (he := by rfl) (by assumption) ?_ | refine m_gB (e := by k_is) (hv := by rfl) (hn := by decide) (hk := by rfl) (hl := by rfl) (he := by rfl) (hf := by rfl) (by assumption) ?_
  refine m_callT (he := by rfl) (hplain := by rfl) ?_
  refine m_splE (he := by rfl) ?_
  refine evR (EvP.nm (v := .ref _) (by rfl)) ?_
  refine m_splE0 ?_
  refine m_bytes hh dq hb (Nat.le_trans h4 (by decide)) fun _ => ?_
  refine m_splE0 ?_
  refine m_code (c_b64 hb (by omega) Z (hA.le (by omega) : Dp A (n + 2)) fun _ => ?_)
  refine hZq0 _ _ ?_
  refine m_splE0 ?_
  refine m_code (c_text (enc_ok oct) (by have := enc_len oct; omega) Z (hA.le (by omega) : Dp A n) fun _ => ?_)
  rw [eT]
  skip
  refine m_sts (hk := by rfl) (hl := by rfl) (he := by rfl) ?_
  refine m_cons ?_
  skip
  refine m_weak (m' := names [("total", .int tt), ("octets", .ref Do), ("size", .int (vs.length : Nat)), ("text", .str (T (vs.map cod ++ List.replicate ((-(vs.length : Int)).fmod 4).toNat 61)))]) (h' := h2) (by exact Mine.Sub.of rfl) (fun _ _ e => e) ?_
  refine m_If ?_
  refine m_isCompare (hm := by with_unfolding_all rfl) ?_
  refine evS (EvP.nm (v := .str _) (by rfl)) fun _ => ?_
  refine m_BinOp ?_
  refine m_abs fun Zq1 hZq1 => ?_
  refine m_Method (he := by rfl) ?_
  refine evS EvP.str fun _ => ?_
  refine m_methStr PySem.F.slot_str_join PySem.F.type_str_join ?_
  refine m_callB (he := by rfl) (hplain := by rfl) ?_
  refine m_splE (he := by rfl) ?_
  refine m_Comp (hclos := by rfl) (hcell := by decide) (hkind := by rfl) (hnames := by decide) (hx := by rfl) (hs := by intro _; rfl) ?_
  refine evR (EvP.cell c4) ?_
  refine ⟨_, _, _, yields_list hh (xs := vs.map V.int), by rw [List.length_map]; exact Nat.le_trans hvl (by decide), fun σ' hs => hs _ _ dv, fun _ => true, fun y => match y with | .int i => .str (T [cod i]) | y => y, ?_, ?_⟩
  · intro y hy C I ob hb D od hd
    obtain ⟨q, hq, rfl⟩ := List.mem_map.mp hy
    obtain ⟨kq, rfl, hk1, hk2⟩ := code_atI (hV.b q hq)
    skip
    refine ⟨rfl, ?_⟩
    skip
    refine itrue rfl ?_
    refine m_Sub ?_
    refine evS (EvP.cell c1) fun _ => ?_
    refine evI (EvP.nm (v := .int _) (by rfl)) fun _ => ?_
    refine m_atT (hs := by with_unfolding_all rfl) (k := kq) (by omega) hk2 fun _ => ?_
    skip
    exact ⟨fun _ _ e => e, ⟨_, rfl⟩⟩
  intro D5 hD5
  have hD5 : h2 D5 = none := hD5
  have el : List.map (fun y => match y with | V.int i => V.str (T [cod i]) | y => y) (List.filter (fun x => true) (vs.map V.int)) = ((((vs.map cod).map fun i => [i]).map T).map V.str) := by rw [filter_all, List.map_map, List.map_map, List.map_map, List.map_map]; rfl
  rw [el]
  refine m_splE0 ?_
  refine m_join put_same (by decide) (by show _ ≤ 1048576; rw [ones_sum]; simp; omega) fun _ => ?_
  rw [join_T, ones_flat]
  obtain ⟨m4, e4, h44⟩ : ∃ m : Nat, (-(vs.length : Int)).fmod 4 = (m : Int) ∧ m < 4 := by
    have h1 := Int.fmod_nonneg_of_pos (-(vs.length : Int)) (show (0 : Int) < 4 by decide)
    have h2 := Int.fmod_lt_of_pos (-(vs.length : Int)) (show (0 : Int) < 4 by decide)
    exact ⟨((-(vs.length : Int)).fmod 4).toNat, by omega, by omega⟩
  refine hZq1 _ _ ?_
  refine m_BinOp ?_
  refine evS EvP.str fun _ => ?_
  refine m_BinOp ?_
  refine m_UnaryOp ?_
  refine evI (EvP.nm (v := .int _) (by rfl)) fun _ => ?_
  refine m_neg fun _ => ?_
  refine evI EvP.int fun _ => ?_
  refine m_mod (by first | decide | assumption) fun _ => ?_
  rw [e4]
  rw [show (Str.ofString "=" : Str) = T [61] by decide +kernel]
  refine m_mulSign (by omega) fun _ => ?_
  skip
  refine m_adds ?_ fun _ => ?_
  · rw [T_len, T_len, List.length_map, List.length_replicate]; exact Nat.le_trans (show vs.length + m4 ≤ 1000 by omega) (by decide)
  rw [T_app, Int.toNat_natCast]
  refine m_nes ?_
  refine m_trBool ?_
  refine ifalse (by rw [T_bne]; simp) ?_
  refine m_nil ?_
  refine m_cons ?_
  refine m_AssignName (hs := by rfl) ?_
  refine m_SubSlice ?_
  refine evS (EvP.nm (v := .str _) (by rfl)) fun _ => ?_
  refine m_part0 ?_
  refine m_part ?_
  refine evI (EvP.nm (v := .int _) (by rfl)) fun _ => ?_
  refine slS .none (.int _ _) (by rw [List.length_append, List.length_map, List.length_replicate]; omega) (l' := vs.map cod) (by rw [slice_take (k := vs.length) (by rw [List.length_append, List.length_map]; omega), List.take_left' (by rw [List.length_map])]) fun _ => ?_
  refine m_sts (hk := by rfl) (hl := by rfl) (he := by rfl) ?_
  skip
  refine m_weak (m' := names [("total", .int tt), ("size", .int (vs.length : Nat)), ("text", .str (T (vs.map cod)))]) (h' := h2) (by exact Mine.Sub.of rfl) (fun _ _ e => sub_put hD5 e) ?_

  refine m_AssignE (hk := by rfl) (he := by rfl) (hs := by rfl) (EvP.add EvP.int (EvP.nm (v := .int _) (by rfl))) ?_
  skip
  refine m_weak (m' := names [("size", .int (vs.length : Nat)), ("text", .str (T (vs.map cod))), ("bound", .int (12 + tt))]) (h' := h2) (by exact Mine.Sub.of rfl) (fun _ _ e => e) ?_
  refine m_cons (m_AComp (hsw := by rfl) (hclos := by rfl) (hcell := by decide) (hkind := by rfl) (hnames := by decide) (hx := by rfl) (hs := by intro _; rfl) (hk := by rfl) (hy := by rfl) (he := by rfl) ?_)
  refine m_abs fun Zq2 hZq2 => ?_
  refine m_Call (he := by rfl) ?_
  refine m_Name (hd := by decide) ?_
  first | refine m_gK (e := by k_is) (hk := by rfl) (hl := by rfl) (he := by rfl) (by assumption) ?_ | refine m_gB (e := by k_is) (hv := by rfl) (hn := by decide) (hk := by rfl) (hl := by rfl) (he := by rfl) (hf := by rfl) (by assumption) ?_
  refine m_callT (he := by rfl) (hplain := by rfl) ?_
  refine m_splE (he := by rfl) ?_
  refine evI EvP.int fun _ => ?_
  refine m_splE0 ?_
  refine m_range1 fun R hR => ?_
  have hR : h2 R = none := hR
  refine hZq2 _ _ ?_
  refine ⟨_, _, _, yields_range hh 64 (by decide) (by decide), by rw [List.length_map, List.length_range]; decide, fun σ' hs => hs _ _ put_same, fun y => match y with | .int i => vs.any (· == i) | _ => false, fun y => y, ?_, ?_⟩
  · intro y hy C I ob hb D od hd
    obtain ⟨i, hi, rfl⟩ := List.mem_map.mp hy
    have hi := List.mem_range.mp hi
    refine (?_ : mwp (kyK prog w) _ _ _ _ _)
    have c4' := sub_put (x := O.range 0 64 1) hR c4
    have dv' := sub_put (x := O.range 0 64 1) hR dv
    refine m_weak (m' := names [("one", .int (0 + (i : Nat) * 1))]) (h' := put h2 R (.range 0 64 1)) (by exact Mine.Sub.of rfl) (fun _ _ e => e) ?_
    refine mwp_mono (Q := fun b σ₂ => b = vs.any (· == 0 + (i : Nat) * 1) ∧ σ₂ = ⟨names [("one", .int (0 + (i : Nat) * 1))], put h2 R (.range 0 64 1)⟩) ?_ ?_
    · revert c4' dv'
      generalize put h2 R (.range 0 64 1) = h8
      intro c4' dv'
      refine m_isCompare (hm := by with_unfolding_all rfl) ?_
      refine evI (EvP.nm (v := .int _) (by rfl)) fun _ => ?_
      refine evR (EvP.cell c4') ?_
      refine m_inInts dv' ?_
      refine m_trBool ?_
      exact ⟨rfl, rfl⟩
    · rintro b _ ⟨rfl, rfl⟩
      refine ⟨rfl, ite_of (fun e => ?_) fun e => ?_⟩
      · refine evI (EvP.nm (v := .int _) (by rfl)) fun _ => ?_
        exact ⟨fun _ _ e => e, _, rfl⟩
      · exact fun _ _ e => e
  intro D hD
  have hD : put h2 R (.range 0 64 1) D = none := hD
  have eo : List.map (fun y => y) (List.filter (fun y => match y with | .int i => vs.any (· == i) | _ => false) ((List.range 64).map fun i : Nat => V.int (0 + (i : Nat) * 1))) = (presentOf vs).map V.int := by
    have e0 : (fun i : Nat => V.int (0 + (i : Nat) * 1)) = fun i : Nat => V.int (i : Int) := by funext i; congr 1; omega
    rw [e0, List.map_id']
    unfold presentOf
    rw [List.filter_map, List.filter_map, List.map_map]
    rfl
  skip
  rw [eo]
  refine m_weak (m' := names [("size", .int (vs.length : Nat)), ("text", .str (T (vs.map cod))), ("bound", .int (12 + tt)), ("present", .ref D)]) (h' := put (put h2 R (.range 0 64 1)) D (.list ((presentOf vs).map V.int))) (by exact Mine.Sub.of rfl) (fun _ _ e => e) ?_
  exact k vs Dv D _ hV (sub_put hD (sub_put hR dv)) put_same ((cc.fresh hR).fresh hD)
end
end Mine
end
section
open PySem PySem.W PyProof.Rows PySem.SeqAt
set_option maxHeartbeats 4000000
namespace Mine
noncomputable def laterBody : List Stmt := match lawBody.drop 19 with
  | .For _ _ b _ _ :: _ => b
  | _ => []
noncomputable def farBody : List Stmt := match laterBody.drop 2 with
  | .For _ _ b _ _ :: _ => b
  | _ => []
section
variable {prog : Program} {w : World} {Γ : Fx} {σ : MS Ky} {A : Around} {env : Env} {α : Type} {s : Shared} {Q : Value → MS Ky → Prop} {QB : Bool → MS Ky → Prop} {QU : Unit → MS Ky → Prop} {QF : Flow → MS Ky → Prop}
variable {p : Program} {loose : List Str} {mg mb : Str → Option Value} {t u v : Tok} {n : Nat} {l : Addr} {a : Ad} {S : SS} {k : Ky}
noncomputable abbrev farNames (sz : Nat) (tx : List Nat) (bd : Int) (Dq Dn : Addr) (d : Int) : Str → Option V := names [("size", .int (sz : Nat)), ("text", .str (T tx)), ("bound", .int bd), ("present", .ref Dq), ("needs", .ref Dn), ("later", .int d), ("mine", .str (T [cod d]))]
theorem law_far {fa Dq Dv Dn Dm : Addr} {cdv : Value} {hp : Addr → Option (O Ky)} {tt c d : Int} {vs : List Int} {kvs : List (Ky × V)} {ep : Nat} {acc : List Str} (hV : Vals vs) (htt : 0 ≤ tt) (hc : 0 ≤ c ∧ c < 64) (hd : 0 ≤ d ∧ d < 64)
    (c1 : hp (Γ.L + 1) = some (.cell (some (.str (T codes))))) (c4 : hp (Γ.L + 1 + 1 + 1 + 1) = some (.cell (some (.ref Dv)))) (dv : hp Dv = some (.list (vs.map V.int))) (dn : hp Dn = some (.dict kvs ep)) (dg : dGet kvs (T [cod d]) = some (.ref Dm)) (dm : hp Dm = some (.list (acc.map kyV))) (ha : acc.length ≤ 100)
    (Z : Here (Mine.hd1.heap_1 w.params) p loose mg mb Γ.base) (hA : Dp A (n + 6)) :
    mwp (kyK prog w) Γ A (execs farBody (lenv Γ.L fa cdv)) (fun f σ' => f = .next ∧ ∃ hp', Fit σ' (farNames vs.length (vs.map cod) (12 + tt) Dq Dn d) hp' ∧ hp' Dm = some (.list ((if (c != d && leastF c d vs == 0) = true then acc ++ [T [cod c]] else acc).map kyV)) ∧ ∀ b o, hp b = some o → b ≠ Dm → hp' b = some o)
      ⟨putS (farNames vs.length (vs.map cod) (12 + tt) Dq Dn d) "other" (.int c), hp⟩ := by
  have hh : A.handled = none := hA.hd
  have hlo := hV.lo
  have hhi := hV.hi
  obtain ⟨kc, rfl, hk1, hk2⟩ := code_atI hc
  obtain ⟨v0, vr, evs⟩ : ∃ v0 vr, vs = v0 :: vr := by
    cases vs with
    | nil => simp at hlo
    | cons a r => exact ⟨a, r, rfl⟩
  refine m_abs fun Zq0 hZq0 => ?_
  refine m_cons ?_
  refine m_If ?_
  refine tvU (TvP.nei (hm := by with_unfolding_all rfl) (EvP.nm (v := .int _) (by rfl)) (EvP.nm (v := .int _) (by rfl))) ?_
  refine ite_of (fun e1 => ?_) fun e1 => ?_
  rotate_left
  · refine m_nil ?_
    refine m_nil ?_
    refine hZq0 _ _ ?_
    refine ⟨rfl, hp, by exact ⟨by exact Mine.Sub.of rfl, fun _ _ e => e⟩, ?_, fun b o e _ => e⟩
    rw [show ((kc : Int) != d && leastF (kc : Int) d vs == 0) = false by rw [Bool.eq_false_iff.mpr e1]; rfl]
    exact dm
  have eb : ((kc : Int) != d && leastF (kc : Int) d vs == 0) = (leastF (kc : Int) d vs == 0) := by rw [e1]; rfl
  have hfar := far_eq hV hc hd htt
  have hsh := far_short hV hc hd
  refine m_abs fun Zq1 hZq1 => ?_
  refine m_cons ?_
  refine m_AssignName (hs := by rfl) ?_
  refine m_Call (he := by rfl) ?_
  refine m_Name (hd := by decide) ?_
  first | refine m_gK (e := by k_is) (hk := by rfl) (hl := by rfl) (he := by rfl) (by assumption) ?_ | refine m_gB (e := by k_is) (hv := by rfl) (hn := by decide) (hk := by rfl) (hl := by rfl) (he := by rfl) (hf := by rfl) (by assumption) ?_
  refine m_callZ (hk := by k_is) (he := by rfl) (hplain := by rfl) (by assumption) ?_
  refine m_splE (he := by rfl) ?_
  refine m_BinOp ?_
  refine m_Sub ?_
  refine evS (EvP.cell c1) fun _ => ?_
  refine evI (EvP.nm (v := .int _) (by rfl)) fun _ => ?_
  refine m_atT (hs := by with_unfolding_all rfl) (k := kc) (by lia) hk2 fun _ => ?_
  refine evS (EvP.nm (v := .str _) (by rfl)) fun _ => ?_
  refine m_adds (by rw [T_len, T_len]; show 2 ≤ sizeLine; decide) fun _ => ?_
  rw [T_app]
  refine m_splE (he := by rfl) ?_
  refine evS (EvP.nm (v := .str _) (by rfl)) fun _ => ?_
  refine m_splE (he := by rfl) ?_
  refine evI (EvP.nm (v := .int _) (by rfl)) fun _ => ?_
  refine m_splE0 ?_
  refine m_code (c_lev (by simp) (by rw [List.length_map]; lia) Z (hA.le (by lia) : Dp A (n + 1)) fun _ => ?_)
  rw [show [cod (kc : Nat)] ++ [cod d] = [cod (kc : Nat), cod d] from rfl, hfar]
  refine m_sti (hk := by rfl) (hl := by rfl) (he := by rfl) ?_
  refine m_cons ?_
  refine m_If ?_
  refine m_isCompare (hm := by with_unfolding_all rfl) ?_
  refine evI (EvP.nm (v := .int _) (by rfl)) fun _ => ?_
  refine m_BinOp ?_
  refine evI (EvP.sub (EvP.mul EvP.int (EvP.nm (v := .int _) (by rfl)) (by first | exact IntMulOk.of_right (by decide) | exact IntMulOk.of_left (by decide) | assumption)) EvP.int) fun _ => ?_
  refine m_abs fun Zq2 hZq2 => ?_
  refine m_Call (he := by rfl) ?_
  refine m_Name (hd := by decide) ?_
  first | refine m_gK (e := by k_is) (hk := by rfl) (hl := by rfl) (he := by rfl) (by assumption) ?_ | refine m_gB (e := by k_is) (hv := by rfl) (hn := by decide) (hk := by rfl) (hl := by rfl) (he := by rfl) (hf := by rfl) (by assumption) ?_
  refine m_callZ (hk := by k_is) (he := by rfl) (hplain := by rfl) (by assumption) ?_
  refine m_splE (he := by rfl) ?_
  refine evR (EvP.cell c4) ?_
  refine m_splE (he := by rfl) ?_
  refine evI (EvP.nm (v := .int _) (by rfl)) fun _ => ?_
  refine m_splE (he := by rfl) ?_
  refine evI (EvP.nm (v := .int _) (by rfl)) fun _ => ?_
  refine m_splE0 ?_
  refine m_code (c_least (v0 := v0) (vs := vr) (by rw [← evs]; exact dv) (by rw [← evs]; lia) Z (hA.le (by lia) : Dp A (n + 1)) fun _ => ?_)
  rw [← evs]
  refine hZq2 _ _ ?_
  refine m_add fun _ => ?_
  refine m_nei ?_
  refine m_trBool ?_
  refine ifalse (by simp) ?_
  generalize hL : leastF (kc : Int) d vs = lst at hfar hsh eb ⊢
  refine m_nil ?_
  refine m_cons ?_
  refine m_If ?_
  refine tvU (TvP.eqi (hm := by with_unfolding_all rfl) (EvP.nm (v := .int _) (by rfl)) (EvP.sub (EvP.mul EvP.int (EvP.nm (v := .int _) (by rfl)) (by first | exact IntMulOk.of_right (by decide) | exact IntMulOk.of_left (by decide) | assumption)) EvP.int)) ?_
  refine ite_of (fun e2 => ?_) fun e2 => ?_
  · have e3 : lst = 0 := by simp at e2; lia
    refine m_abs fun Zq3 hZq3 => ?_
    refine m_cons ?_
    refine m_Expr (hi := by rfl) (hs := by rfl) ?_
    refine m_Method (he := by rfl) ?_
    refine m_Sub ?_
    refine evR (EvP.nm (v := .ref _) (by rfl)) ?_
    refine evS (EvP.nm (v := .str _) (by rfl)) fun _ => ?_
    refine m_tailDict (hs := by with_unfolding_all rfl) dn (m_dictGetItem dn (k := (T [cod d] : Ky)) ky_is dg fun v' hv' => ?_)
    have hv' : v' = .ref Dm := hv'
    subst hv'
    refine m_methList (by walk_at "hl") PySem.F.slot_list_append PySem.F.type_list_append ?_
    refine m_callB (he := by rfl) (hplain := by rfl) ?_
    refine m_splE (he := by rfl) ?_
    refine m_Sub ?_
    refine evS (EvP.cell c1) fun _ => ?_
    refine evI (EvP.nm (v := .int _) (by rfl)) fun _ => ?_
    refine m_atT (hs := by with_unfolding_all rfl) (k := kc) (by lia) hk2 fun _ => ?_
    refine m_splE0 ?_
    refine m_append (x := .str (T [cod (kc : Nat)])) dm ⟨_, rfl⟩ (by rw [List.length_map]; exact Nat.le_trans ha (by decide)) ?_
    refine m_nil ?_
    refine hZq3 _ _ ?_
    refine m_nil ?_
    refine hZq1 _ _ ?_
    refine m_nil ?_
    refine hZq0 _ _ ?_
    refine ⟨rfl, put hp Dm (.list (acc.map kyV ++ [.str (T [cod (kc : Nat)])])), by exact ⟨by exact Mine.Sub.of rfl, fun _ _ e => e⟩, ?_, fun b o e nb => (put_other nb).trans e⟩
    rw [hL, eb, e3, put_same, if_pos (by rfl), List.map_append]; rfl
  · have e3 : lst ≠ 0 := fun q => e2 (by subst q; simp)
    refine m_abs fun Zq3 hZq3 => ?_
    refine m_cons ?_
    refine m_If ?_
    refine m_isCompare (hm := by with_unfolding_all rfl) ?_
    refine m_abs fun Zq4 hZq4 => ?_
    refine m_Call (he := by rfl) ?_
    refine m_Name (hd := by decide) ?_
    first | refine m_gK (e := by k_is) (hk := by rfl) (hl := by rfl) (he := by rfl) (by assumption) ?_ | refine m_gB (e := by k_is) (hv := by rfl) (hn := by decide) (hk := by rfl) (hl := by rfl) (he := by rfl) (hf := by rfl) (by assumption) ?_
    refine m_callZ (hk := by k_is) (he := by rfl) (hplain := by rfl) (by assumption) ?_
    refine m_splE (he := by rfl) ?_
    refine m_BinOp ?_
    refine m_Sub ?_
    refine evS (EvP.cell c1) fun _ => ?_
    refine evI (EvP.nm (v := .int _) (by rfl)) fun _ => ?_
    refine m_atT (hs := by with_unfolding_all rfl) (k := kc) (by lia) hk2 fun _ => ?_
    refine evS (EvP.nm (v := .str _) (by rfl)) fun _ => ?_
    refine m_adds (by rw [T_len, T_len]; show 2 ≤ sizeLine; decide) fun _ => ?_
    rw [T_app]
    refine m_splE (he := by rfl) ?_
    refine evS (EvP.nm (v := .str _) (by rfl)) fun _ => ?_
    refine m_splE (he := by rfl) ?_
    refine evI (EvP.sub (EvP.mul EvP.int (EvP.nm (v := .int _) (by rfl)) (by first | exact IntMulOk.of_right (by decide) | exact IntMulOk.of_left (by decide) | assumption)) EvP.int) fun _ => ?_
    refine m_splE0 ?_
    refine m_code (c_lev (by simp) (by rw [List.length_map]; lia) Z (hA.le (by lia) : Dp A (n + 1)) fun _ => ?_)
    rw [show [cod (kc : Nat)] ++ [cod d] = [cod (kc : Nat), cod d] from rfl, hsh e3]
    refine hZq4 _ _ ?_
    refine evI (EvP.sub (EvP.mul EvP.int (EvP.nm (v := .int _) (by rfl)) (by first | exact IntMulOk.of_right (by decide) | exact IntMulOk.of_left (by decide) | assumption)) EvP.int) fun _ => ?_
    refine m_nei ?_
    refine m_trBool ?_
    refine ifalse (by simp) ?_
    refine m_nil ?_
    refine m_nil ?_
    refine hZq3 _ _ ?_
    refine m_nil ?_
    refine hZq1 _ _ ?_
    refine m_nil ?_
    refine hZq0 _ _ ?_
    refine ⟨rfl, hp, by exact ⟨by exact Mine.Sub.of rfl, fun _ _ e => e⟩, ?_, fun b o e _ => e⟩
    rw [hL, eb, show (lst == 0) = false by simpa using e3]
    exact dm
end
end Mine
end
section
open PySem PySem.W PyProof.Rows PySem.SeqAt
set_option maxHeartbeats 4000000
namespace Mine
theorem present_len (vs : List Int) : (presentOf vs).length ≤ 64 := Nat.le_trans (List.length_filter_le _ _) (by rw [List.length_map, List.length_range]; decide)
noncomputable def needsOf (vs : List Int) (d : Int) : List Int := (presentOf vs).filter fun c => c != d && leastF c d vs == 0
noncomputable def entG (G : List (Ky × Addr × List Ky)) : List (Ky × V) := G.map fun g => (g.1, V.ref g.2.1)
structure NSt (L Dq Dn Dc Dv : Addr) (vs : List Int) (G : List (Ky × Addr × List Ky)) (K : List (Ky × V)) (v2 v3 v6 : Option V) (hp : Addr → Option (O Ky)) : Prop where
  cs : Cs L (some (.str (T codes))) v2 v3 (some (.ref Dv)) (some (.ref Dc)) v6 hp
  dv : hp Dv = some (.list (vs.map V.int))
  dp : hp Dq = some (.list ((presentOf vs).map V.int))
  dn : ∃ ep, hp Dn = some (.dict (entG G) ep)
  gl : ∀ g ∈ G, hp g.2.1 = some (.list (g.2.2.map kyV))
  dc : ∃ ep, hp Dc = some (.dict K ep)
  ne : Dn ≠ Dc
section
variable {prog : Program} {w : World} {Γ : Fx} {σ : MS Ky} {A : Around} {env : Env} {α : Type} {s : Shared} {Q : Value → MS Ky → Prop} {QB : Bool → MS Ky → Prop} {QU : Unit → MS Ky → Prop} {QF : Flow → MS Ky → Prop}
variable {p : Program} {loose : List Str} {mg mb : Str → Option Value} {t u v : Tok} {n : Nat} {l : Addr} {a : Ad} {S : SS} {k : Ky}
noncomputable abbrev lNames (sz : Nat) (tx : List Nat) (bd : Int) (Dq Dn : Addr) : Str → Option V := names [("size", .int (sz : Nat)), ("text", .str (T tx)), ("bound", .int bd), ("present", .ref Dq), ("needs", .ref Dn)]
theorem law_often {fa : Addr} {cdv : Value} {hp : Addr → Option (O Ky)} {tt d : Int} {vs : List Int} {Dq Dn : Addr} (hV : Vals vs) (htt : 0 ≤ tt) (hd : 0 ≤ d ∧ d < 64)
    (Z : Here (Mine.hd1.heap_1 w.params) p loose mg mb Γ.base) (hA : Dp A (n + 6)) (k : ∀ σ', Fit σ' (names [("size", .int (vs.length : Nat)), ("text", .str (T (vs.map cod))), ("bound", .int (12 + tt)), ("present", .ref Dq), ("needs", .ref Dn), ("mine", .str (T [cod d])), ("often", .int (vs.count d : Nat))]) hp → mwp (kyK prog w) Γ A (execs (laterBody.drop 5) (lenv Γ.L fa cdv)) QF σ') :
    mwp (kyK prog w) Γ A (execs (laterBody.drop 3) (lenv Γ.L fa cdv)) QF ⟨names [("size", .int (vs.length : Nat)), ("text", .str (T (vs.map cod))), ("bound", .int (12 + tt)), ("present", .ref Dq), ("needs", .ref Dn), ("mine", .str (T [cod d]))], hp⟩ := by
  have hh : A.handled = none := hA.hd
  have hhi := hV.hi
  have hcl : vs.count d ≤ vs.length := List.count_le_length
  refine m_AssignE (hk := by rfl) (he := by rfl) (hs := by rfl) EvP.int ?_
  refine m_cons ?_
  refine m_weak (m' := names [("size", .int (vs.length : Nat)), ("text", .str (T (vs.map cod))), ("bound", .int (12 + tt)), ("present", .ref Dq), ("needs", .ref Dn), ("mine", .str (T [cod d])), ("often", .int (0 : Nat))]) (h' := hp) (by exact Mine.Sub.of rfl) (fun _ _ e => e) ?_
  refine m_then (P := fun σ' => Fit σ' (names [("size", .int (vs.length : Nat)), ("text", .str (T (vs.map cod))), ("bound", .int (12 + tt)), ("present", .ref Dq), ("needs", .ref Dn), ("mine", .str (T [cod d])), ("often", .int (vs.count d : Nat))]) hp) ?_ ?_
  · refine m_While (I := fun m σ' => ∃ j : Nat, m = vs.length - j ∧ j ≤ vs.count d ∧ Fit σ' (names [("size", .int (vs.length : Nat)), ("text", .str (T (vs.map cod))), ("bound", .int (12 + tt)), ("present", .ref Dq), ("needs", .ref Dn), ("mine", .str (T [cod d])), ("often", .int (j : Nat))]) hp) (n := vs.length) ⟨0, rfl, Nat.zero_le _, by exact ⟨by exact Mine.Sub.of rfl, fun _ _ e => e⟩⟩ ?_
    rintro m σ' ⟨j, rfl, hj, hf⟩
    refine m_fit hf ?_
    clear hf
    refine m_abs fun Zq0 hZq0 => ?_
    refine m_isBoolOp ?_
    refine m_andCons ?_
    refine tvU (TvP.lti (hm := by with_unfolding_all rfl) (EvP.nm (v := .int _) (by rfl)) (EvP.nm (v := .int _) (by rfl))) ?_
    refine ite_of (fun e1 => ?_) fun e1 => ?_
    · have hjl : j < vs.length := by simp at e1; omega
      refine m_andCons ?_
      refine m_isCompare (hm := by with_unfolding_all rfl) ?_
      refine m_Call (he := by rfl) ?_
      refine m_Name (hd := by decide) ?_
      first | refine m_gK (e := by k_is) (hk := by rfl) (hl := by rfl) (he := by rfl) (by assumption) ?_ | refine m_gB (e := by k_is) (hv := by rfl) (hn := by decide) (hk := by rfl) (hl := by rfl) (he := by rfl) (hf := by rfl) (by assumption) ?_
      refine m_callZ (hk := by k_is) (he := by rfl) (hplain := by rfl) (by assumption) ?_
      refine m_splE (he := by rfl) ?_
      refine evS (EvP.nm (v := .str _) (by rfl)) fun _ => ?_
      refine m_splE (he := by rfl) ?_
      refine m_BinOp ?_
      refine evS (EvP.nm (v := .str _) (by rfl)) fun _ => ?_
      refine evI (EvP.add (EvP.nm (v := .int _) (by rfl)) EvP.int) fun _ => ?_
      rw [show (j : Int) + 1 = ((j + 1 : Nat) : Int) from rfl]
      refine m_mulSign (k := j + 1) (by omega) fun _ => ?_
      refine m_splE (he := by rfl) ?_
      refine evI (EvP.nm (v := .int _) (by rfl)) fun _ => ?_
      refine m_splE0 ?_
      refine m_code (c_lev (by rw [List.length_map]; omega) (by rw [List.length_replicate]; omega) Z (hA.le (by omega) : Dp A (n + 1)) fun _ => ?_)
      refine evI (EvP.mul EvP.int (EvP.sub (EvP.sub (EvP.nm (v := .int _) (by rfl)) (EvP.nm (v := .int _) (by rfl))) EvP.int) (by first | exact IntMulOk.of_right (by decide) | exact IntMulOk.of_left (by decide) | assumption)) fun _ => ?_
      refine m_eqi ?_
      refine m_trBool ?_
      rw [oft_eq hV hd htt hjl]
      refine ite_of (fun e2 => ?_) fun e2 => ?_
      · have e2 := of_decide_eq_true e2
        refine m_andNil ?_
        refine hZq0 _ _ ?_
        skip
        refine itrue rfl ?_
        refine m_IaddE (hk := by rfl) (he := by rfl) (by rfl) EvP.int ?_
        refine m_nil ?_
        refine ⟨vs.length - (j + 1), by omega, j + 1, rfl, e2, by exact ⟨by exact Mine.Sub.of rfl, fun _ _ e => e⟩⟩
      · have e2 : ¬ (j + 1 ≤ vs.count d) := fun q => e2 (by simpa using q)
        have : j = vs.count d := by omega
        subst this
        refine hZq0 _ _ ?_
        refine ifalse (by decide) ?_
        refine m_nil ?_
        exact ⟨rfl, by exact ⟨by exact Mine.Sub.of rfl, fun _ _ e => e⟩⟩
    · have hjl : j = vs.length := by simp at e1; omega
      have : j = vs.count d := by omega
      refine hZq0 _ _ ?_
      refine ifalse (by decide) ?_
      refine m_nil ?_
      refine ⟨rfl, ?_⟩
      rw [← this]
      exact ⟨by exact Mine.Sub.of rfl, fun _ _ e => e⟩
  · intro σ' hf
    exact k σ' hf
end
end Mine
end
section
open PySem PySem.W PyProof.Rows PySem.SeqAt
set_option maxHeartbeats 4000000
namespace Mine
section
variable {L Dq Dn Dc Dv X : Addr} {vs : List Int} {G : List (Ky × Addr × List Ky)} {K : List (Ky × V)} {v2 v3 v6 v : Option V} {hp : Addr → Option (O Ky)} {o : O Ky}
theorem NSt.fresh (s : NSt L Dq Dn Dc Dv vs G K v2 v3 v6 hp) (hX : hp X = none) : NSt L Dq Dn Dc Dv vs G K v2 v3 v6 (put hp X o) :=
  ⟨s.cs.fresh hX, sub_put hX s.dv, sub_put hX s.dp, let ⟨e, q⟩ := s.dn; ⟨e, sub_put hX q⟩, fun g hg => sub_put hX (s.gl g hg), let ⟨e, q⟩ := s.dc; ⟨e, sub_put hX q⟩, s.ne⟩
theorem NSt.addK (s : NSt L Dq Dn Dc Dv vs G K v2 v3 v6 hp) {K' : List (Ky × V)} {ep : Nat} : NSt L Dq Dn Dc Dv vs G K' v2 v3 v6 (put hp Dc (.dict K' ep)) := by
  obtain ⟨e, q⟩ := s.dc
  obtain ⟨e2, q2⟩ := s.dn
  exact ⟨s.cs.own q (fun _ z => by cases z), put_diff s.dv q (by intro z; cases z), put_diff s.dp q (by intro z; cases z), ⟨e2, (put_other s.ne).trans q2⟩, fun g hg => put_diff (s.gl g hg) q (by intro z; cases z), ⟨ep, put_same⟩, s.ne⟩
theorem NSt.addG (s : NSt L Dq Dn Dc Dv vs G K v2 v3 v6 hp) {g : Ky × Addr × List Ky} {ep : Nat} (hX : hp g.2.1 = some (.list (g.2.2.map kyV))) : NSt L Dq Dn Dc Dv vs (G ++ [g]) K v2 v3 v6 (put hp Dn (.dict (entG (G ++ [g])) ep)) := by
  obtain ⟨e, q⟩ := s.dc
  obtain ⟨e2, q2⟩ := s.dn
  refine ⟨s.cs.own q2 (fun _ z => by cases z), put_diff s.dv q2 (by intro z; cases z), put_diff s.dp q2 (by intro z; cases z), ⟨ep, put_same⟩, fun g' hg => ?_, ⟨e, (put_other (Ne.symm s.ne)).trans q⟩, s.ne⟩
  rcases List.mem_append.mp hg with hg | hg
  · exact put_diff (s.gl g' hg) q2 (by intro z; cases z)
  · rw [List.mem_singleton.mp hg]; exact put_diff hX q2 (by intro z; cases z)
theorem NSt.setL (s : NSt L Dq Dn Dc Dv vs (G ++ [(a, X, l)]) K v2 v3 v6 hp) (hg : ∀ g ∈ G, g.2.1 ≠ X) {l' : List Ky} {hq : Addr → Option (O Ky)} (hs : ∀ b o, hp b = some o → b ≠ X → hq b = some o) (hX : hq X = some (.list (l'.map kyV)))
    (n1 : Dv ≠ X) (n2 : Dq ≠ X) : NSt L Dq Dn Dc Dv vs (G ++ [(a, X, l')]) K v2 v3 v6 hq := by
  have hx := s.gl (a, X, l) (List.mem_append_right _ List.mem_cons_self)
  have nl : ∀ {b o}, hp b = some o → (∀ k, o ≠ .list k) → hq b = some o := fun h1 h2 => hs _ _ h1 (fun q => by rw [q, hx] at h1; exact h2 _ (Option.some.inj h1).symm)
  obtain ⟨e, q⟩ := s.dc
  obtain ⟨e2, q2⟩ := s.dn
  refine ⟨s.cs.mono fun b v e => nl e (fun _ z => by cases z), hs _ _ s.dv n1, hs _ _ s.dp n2, ⟨e2, ?_⟩, fun g' hg' => ?_, ⟨e, nl q (fun _ z => by cases z)⟩, s.ne⟩
  · have := nl q2 (fun _ z => by cases z)
    unfold entG at this ⊢
    simpa using this
  · rcases List.mem_append.mp hg' with h | h
    · exact hs _ _ (s.gl g' (List.mem_append_left _ h)) (hg g' h)
    · rw [List.mem_singleton.mp h]; exact hX
end
inductive MJ (m : Str → Option V) (L Dq Dn Dc Dv Dm : Addr) (vs : List Int) (G : List (Ky × Addr × List Ky)) (K : List (Ky × V)) (k : Ky) (cs : List Int) (v2 v3 v6 : Option V) (σ' : MS Ky) : Prop
  | mk (h2 : Addr → Option (O Ky)) (hf : Fit σ' m h2) (st : NSt L Dq Dn Dc Dv vs (G ++ [(k, Dm, cs.map fun c => T [cod c])]) K v2 v3 v6 h2)
section
variable {prog : Program} {w : World} {Γ : Fx} {σ : MS Ky} {A : Around} {env : Env} {α : Type} {s : Shared} {Q : Value → MS Ky → Prop} {QB : Bool → MS Ky → Prop} {QU : Unit → MS Ky → Prop} {QF : Flow → MS Ky → Prop}
variable {p : Program} {loose : List Str} {mg mb : Str → Option Value} {t u v : Tok} {n : Nat} {l : Addr} {a : Ad} {S : SS} {k : Ky}
theorem law_later {fa Dq Dn Dc Dv : Addr} {cdv : Value} {hp : Addr → Option (O Ky)} {tt d : Int} {vs : List Int} {G : List (Ky × Addr × List Ky)} {K : List (Ky × V)} {v2 v3 v6 : Option V} (hV : Vals vs) (htt : 0 ≤ tt) (hd : 0 ≤ d ∧ d < 64) (st : NSt Γ.L Dq Dn Dc Dv vs G K v2 v3 v6 hp)
    (g1 : dGet (entG G) (T [cod d]) = none) (g2 : dGet K (T [cod d]) = none) (gl : G.length ≤ 100) (kl : K.length ≤ 100) (Z : Here (Mine.hd1.heap_1 w.params) p loose mg mb Γ.base) (hA : Dp A (n + 6)) :
    mwp (kyK prog w) Γ A (execs laterBody (lenv Γ.L fa cdv)) (fun f σ' => f = .next ∧ ∃ hp' Dm, Fit σ' (lNames vs.length (vs.map cod) (12 + tt) Dq Dn) hp' ∧ NSt Γ.L Dq Dn Dc Dv vs (G ++ [(T [cod d], Dm, (needsOf vs d).map fun c => T [cod c])]) (K ++ [(T [cod d], .int (vs.count d : Nat))]) v2 v3 v6 hp')
      ⟨putS (lNames vs.length (vs.map cod) (12 + tt) Dq Dn) "later" (.int d), hp⟩ := by
  have hh : A.handled = none := hA.hd
  have hhi := hV.hi
  obtain ⟨kd, rfl, hk1, hk2⟩ := code_atI hd
  have c1 := st.cs.c1
  obtain ⟨ep, dn⟩ := st.dn
  refine m_abs fun Zq0 hZq0 => ?_
  refine m_cons ?_
  refine m_AssignName (hs := by rfl) ?_
  refine m_Sub ?_
  refine evS (EvP.cell c1) fun _ => ?_
  refine evI (EvP.nm (v := .int _) (by rfl)) fun _ => ?_
  refine m_atT (hs := by with_unfolding_all rfl) (k := kd) (by omega) hk2 fun _ => ?_
  refine m_sts (hk := by rfl) (hl := by rfl) (he := by rfl) ?_
  refine m_cons ?_
  refine m_AssignSub (hs := by rfl) ?_
  refine m_List ?_
  refine m_splE0 ?_
  refine m_newList .nil (by decide) fun Dm hDm => ?_
  have hDm : hp Dm = none := hDm
  refine evR (EvP.nm (v := .ref _) (by rfl)) ?_
  refine evS (EvP.nm (v := .str _) (by rfl)) fun _ => ?_
  refine m_dictSetItem (sub_put hDm dn) (k := (T [cod (kd : Nat)] : Ky)) ky_is (v := .ref Dm) rfl (by unfold entG; rw [List.length_map]; exact Nat.le_trans gl (by decide)) fun ep' => ?_
  rw [dPut_new' g1]
  skip
  have st1 := (st.fresh (o := .list []) hDm).addG (g := ((T [cod (kd : Nat)] : Ky), Dm, ([] : List Ky))) (ep := ep') put_same
  have eG : entG G ++ [((T [cod (kd : Nat)] : Ky), V.ref Dm)] = entG (G ++ [((T [cod (kd : Nat)] : Ky), Dm, ([] : List Ky))]) := by unfold entG; rw [List.map_append]; rfl
  rw [eG]
  have n1 : Dv ≠ Dm := ne_none st.dv hDm
  have n2 : Dq ≠ Dm := ne_none st.dp hDm
  have n3 : ∀ g ∈ G, g.2.1 ≠ Dm := fun g hg => ne_none (st.gl g hg) hDm
  refine m_weak (m' := names [("size", .int (vs.length : Nat)), ("text", .str (T (vs.map cod))), ("bound", .int (12 + tt)), ("present", .ref Dq), ("needs", .ref Dn), ("later", .int (kd : Nat)), ("mine", .str (T [cod (kd : Nat)]))]) (h' := put (put hp Dm (.list [])) Dn (.dict (entG (G ++ [((T [cod (kd : Nat)] : Ky), Dm, ([] : List Ky))])) ep')) (by exact Mine.Sub.of rfl) (fun _ _ e => e) ?_
  revert st1
  generalize put (put hp Dm (.list [])) Dn (.dict (entG (G ++ [((T [cod (kd : Nat)] : Ky), Dm, ([] : List Ky))])) ep') = h1
  intro st1
  clear st dn c1 eG
  refine m_cons ?_
  refine m_then (P := MJ (names [("size", .int (vs.length : Nat)), ("text", .str (T (vs.map cod))), ("bound", .int (12 + tt)), ("present", .ref Dq), ("needs", .ref Dn), ("mine", .str (T [cod (kd : Nat)]))]) Γ.L Dq Dn Dc Dv Dm vs G K (T [cod (kd : Nat)]) (needsOf vs (kd : Nat)) v2 v3 v6) ?_ ?_
  · refine m_For (hs := by intro _; rfl) (hk := by rfl) (hl := by rfl) (he := by rfl) ?_
    refine evR (EvP.nm (v := .ref _) (by rfl)) ?_
    refine ⟨_, _, _, yields_list hh (xs := (presentOf vs).map V.int), fun i σ' => MJ (farNames vs.length (vs.map cod) (12 + tt) Dq Dn (kd : Nat)) Γ.L Dq Dn Dc Dv Dm vs G K (T [cod (kd : Nat)]) (((presentOf vs).take i).filter fun c : Int => c != ((kd : Nat) : Int) && leastF c (kd : Nat) vs == 0) v2 v3 v6 σ', ⟨h1, by exact ⟨by exact Mine.Sub.of rfl, fun _ _ e => e⟩, st1⟩, fun i σ' q => by obtain ⟨h2, hf, q⟩ := q; exact hf.2 _ _ q.dp, ?_, ?_⟩
    · rintro i y σ' I ob hb hy ⟨h2, hf, st2⟩
      obtain ⟨x, hx, rfl⟩ := map_get hy
      have hxb := hV.b x ((mem_present hV).mp (List.mem_of_getElem? hx))
      refine m_fitS hf ?_
      clear hf
      obtain ⟨ep2, dn2⟩ := st2.dn
      refine m_post (law_far (Γ := Γ.freeze I ob hb) (fa := fa) (cdv := cdv) (n := n) hV htt hxb hd st2.cs.c1 st2.cs.c4 st2.dv dn2 (Dm := Dm) ?_ (st2.gl _ (List.mem_append_right _ List.mem_cons_self)) ?_ (by exact Z) hA) ?_
      · unfold entG at g1 ⊢
        rw [List.map_append]
        show dGet (_ ++ [(_, _)]) _ = _
        rw [dGet_app, g1]; simp
      · rw [List.length_map]
        have h1 := List.length_filter_le (fun c : Int => c != ((kd : Nat) : Int) && leastF c (kd : Nat) vs == 0) ((presentOf vs).take i)
        rw [List.length_take] at h1
        have h2 := present_len vs
        omega
      rintro fl σ'' ⟨rfl, hp2, hf2, q3, q4⟩
      skip
      refine ⟨σ'', fun _ _ e => e, fun _ _ e => e, hp2, hf2, st2.setL n3 q4 ?_ n1 n2⟩
      rw [q3, take_snoc hx, List.filter_append]
      by_cases e : (x != ((kd : Nat) : Int) && leastF x (kd : Nat) vs == 0) = true
      · rw [if_pos e, List.filter_cons, if_pos e, List.filter_nil, List.map_append, List.map_append (l₂ := [x]), List.map_append]; rfl
      · rw [if_neg e, List.filter_cons, if_neg e]; simp
    · rintro σ' ⟨h2, hf, st2⟩
      rw [List.length_map, List.take_length] at st2
      skip
      refine ⟨rfl, h2, ⟨fun z v q => hf.1 z v ?_, hf.2⟩, st2⟩
      revert q; exact (show Sub (names _) (names _) by exact Mine.Sub.of rfl) z v
  rintro σ' ⟨h2, hf, st2⟩
  refine m_fit hf ?_
  clear hf st1
  refine m_weak (m' := names [("size", .int (vs.length : Nat)), ("text", .str (T (vs.map cod))), ("bound", .int (12 + tt)), ("present", .ref Dq), ("needs", .ref Dn), ("mine", .str (T [cod (kd : Nat)]))]) (h' := h2) (by exact Mine.Sub.of rfl) (fun _ _ e => e) ?_
  refine law_often (fa := fa) (cdv := cdv) (n := n) hV htt hd Z hA fun σ' hf => ?_
  refine m_fit hf ?_
  clear hf
  have c5 := st2.cs.c5
  obtain ⟨ep3, dc⟩ := st2.dc
  refine m_cons ?_
  refine m_AssignSub (hs := by rfl) ?_
  refine evI (EvP.nm (v := .int _) (by rfl)) fun _ => ?_
  refine evR (EvP.cell c5) ?_
  refine evS (EvP.nm (v := .str _) (by rfl)) fun _ => ?_
  refine m_dictSetItem dc (k := (T [cod (kd : Nat)] : Ky)) ky_is (v := .int (vs.count (kd : Int) : Nat)) ⟨_, rfl⟩ (Nat.le_trans kl (by decide)) fun ep' => ?_
  rw [dPut_new' g2]
  refine m_nil ?_
  refine hZq0 _ _ ?_
  refine ⟨rfl, put h2 Dc (.dict (K ++ [((T [cod (kd : Nat)] : Ky), .int (vs.count (kd : Int) : Nat))]) ep'), Dm, by exact ⟨by exact Mine.Sub.of rfl, fun _ _ e => e⟩, st2.addK⟩
end
end Mine
end
section
open PySem PySem.W PyProof.Rows PySem.SeqAt
set_option maxHeartbeats 4000000
namespace Mine
theorem dGet_none {k : Ky} {dl : List (Ky × V)} (h : k ∉ dl.map (·.1)) : dGet dl k = none := by
  cases z : dGet dl k with
  | none => rfl
  | some v =>
    have := dGet_any (k := k) (dl := dl)
    rw [z] at this
    obtain ⟨q, hq, e⟩ := List.any_eq_true.mp this
    exact absurd (List.mem_map.mpr ⟨q, hq, of_decide_eq_true e⟩) h
noncomputable def kNeeds (vs : List Int) (ps : List Int) : List (Ky × List Ky) := ps.map fun d => ((T [cod d] : Ky), ((needsOf vs d).map fun c => (T [cod c] : Ky)))
noncomputable def kCounts (vs : List Int) (ps : List Int) : List (Ky × V) := ps.map fun d => ((T [cod d] : Ky), .int (vs.count d : Nat))
theorem sg_new {ps : List Int} {i : Nat} {d : Int} (hb : ∀ x ∈ ps, 0 ≤ x ∧ x < 64) (nd : ps.Nodup) (h : ps[i]? = some d) : (T [cod d] : Ky) ∉ (ps.take i).map fun d => (T [cod d] : Ky) := by
  intro q
  obtain ⟨c, hc, e⟩ := List.mem_map.mp q
  have e2 : cod c = cod d := by have := T_inj e; simpa using this
  have e3 := cod_inj (hb c (List.mem_of_mem_take hc)) (hb d (List.mem_of_getElem? h)) e2
  subst e3
  have hi := List.getElem?_eq_some_iff.mp h
  have : ps = ps.take i ++ c :: ps.drop (i + 1) := by
    conv => lhs; rw [← List.take_append_drop i ps, List.drop_eq_getElem_cons hi.1, hi.2]
  rw [this] at nd
  exact (List.nodup_append.mp nd).2.2 c hc c List.mem_cons_self rfl
inductive CJ (m : Str → Option V) (L Dq Dn Dc Dv : Addr) (vs ps : List Int) (v2 v3 : Option V) (σ' : MS Ky) : Prop
  | mk (h2 : Addr → Option (O Ky)) (G : List (Ky × Addr × List Ky)) (hf : Fit σ' m h2) (st : NSt L Dq Dn Dc Dv vs G (kCounts vs ps) v2 v3 none h2) (eG : G.map (fun g => (g.1, g.2.2)) = kNeeds vs ps)
section
variable {prog : Program} {w : World} {Γ : Fx} {σ : MS Ky} {A : Around} {env : Env} {α : Type} {s : Shared} {Q : Value → MS Ky → Prop} {QB : Bool → MS Ky → Prop} {QU : Unit → MS Ky → Prop} {QF : Flow → MS Ky → Prop}
variable {p : Program} {loose : List Str} {mg mb : Str → Option Value} {t u v : Tok} {n : Nat} {l : Addr} {a : Ad} {S : SS} {k : Ky}
theorem law_C {rest : List Stmt} {fa Dq Dv : Addr} {cdv : Value} {hp : Addr → Option (O Ky)} {tt : Int} {vs : List Int} {v2 v3 : Option V} (hV : Vals vs) (htt : 0 ≤ tt) (dv : hp Dv = some (.list (vs.map V.int))) (dp : hp Dq = some (.list ((presentOf vs).map V.int)))
    (cc : Cs Γ.L (some (.str (T codes))) v2 v3 (some (.ref Dv)) none none hp) (Z : Here (Mine.hd1.heap_1 w.params) p loose mg mb Γ.base) (hA : Dp A (n + 6))
    (k : ∀ (Dn Dc : Addr) (G : List (Ky × Addr × List Ky)) (h' : Addr → Option (O Ky)), NSt Γ.L Dq Dn Dc Dv vs G (kCounts vs (presentOf vs)) v2 v3 none h' → G.map (fun g => (g.1, g.2.2)) = kNeeds vs (presentOf vs) →
      mwp (kyK prog w) Γ A (execs rest (lenv Γ.L fa cdv)) QF ⟨names [("text", .str (T (vs.map cod))), ("present", .ref Dq), ("needs", .ref Dn)], h'⟩) :
    mwp (kyK prog w) Γ A (execs ((lawBody.drop 17).take 3 ++ rest) (lenv Γ.L fa cdv)) QF ⟨names [("size", .int (vs.length : Nat)), ("text", .str (T (vs.map cod))), ("bound", .int (12 + tt)), ("present", .ref Dq)], hp⟩ := by
  have hh : A.handled = none := hA.hd
  have hhi := hV.hi
  have c5 := cc.c5
  refine m_cons ?_
  refine m_AssignName (hs := by rfl) ?_
  refine m_dict0 fun Dn hDn => ?_
  have hDn : hp Dn = none := hDn
  refine m_str' (hk := by rfl) (hl := by rfl) (he := by rfl) ?_
  refine m_cons ?_
  refine m_AssignName (hs := by rfl) ?_
  refine m_dict0 fun Dc hDc => ?_
  have hDc : put hp Dn (.dict [] 0) Dc = none := hDc
  refine m_storeCell (hk := by rfl) (hl := by rfl) (he := by rfl) (v := .ref Dc) (c := Γ.L + 1 + 1 + 1 + 1 + 1) rfl (sub_put hDc (sub_put hDn c5)) ?_
  skip
  have hp2 : put (put hp Dn (.dict [] 0)) Dc (.dict [] 0) (Γ.L + 1 + 1 + 1 + 1 + 1) = _ := sub_put hDc (sub_put hDn c5)
  have st0 : NSt Γ.L Dq Dn Dc Dv vs [] (kCounts vs ((presentOf vs).take 0)) v2 v3 none (put (put (put hp Dn (.dict [] 0)) Dc (.dict [] 0)) (Γ.L + 1 + 1 + 1 + 1 + 1) (.cell (some (.ref Dc)))) :=
    ⟨((cc.fresh hDn).fresh hDc).s5, put_diff (sub_put hDc (sub_put hDn dv)) hp2 (by intro q; cases q), put_diff (sub_put hDc (sub_put hDn dp)) hp2 (by intro q; cases q), ⟨0, put_diff (sub_put hDc put_same) hp2 (by intro q; cases q)⟩, (fun g hg => nomatch hg), ⟨0, put_diff put_same hp2 (by intro q; cases q)⟩, (ne_put hDc).symm⟩
  refine m_weak (m' := lNames vs.length (vs.map cod) (12 + tt) Dq Dn) (h' := put (put (put hp Dn (.dict [] 0)) Dc (.dict [] 0)) (Γ.L + 1 + 1 + 1 + 1 + 1) (.cell (some (.ref Dc)))) (by exact Mine.Sub.of rfl) (fun _ _ e => e) ?_
  revert st0
  generalize put (put (put hp Dn (.dict [] 0)) Dc (.dict [] 0)) (Γ.L + 1 + 1 + 1 + 1 + 1) (.cell (some (.ref Dc))) = h1
  intro st0
  clear hp2 cc dv dp c5
  have hpb : ∀ x ∈ presentOf vs, 0 ≤ x ∧ x < 64 := fun x hx => hV.b x ((mem_present hV).mp hx)
  have hpl := present_len vs
  refine m_cons ?_
  refine m_then (P := CJ (names [("text", .str (T (vs.map cod))), ("present", .ref Dq), ("needs", .ref Dn)]) Γ.L Dq Dn Dc Dv vs (presentOf vs) v2 v3) ?_ ?_
  · refine m_For (hs := by intro _; rfl) (hk := by rfl) (hl := by rfl) (he := by rfl) ?_
    refine evR (EvP.nm (v := .ref _) (by rfl)) ?_
    refine ⟨_, _, _, yields_list hh (xs := (presentOf vs).map V.int), fun i σ' => CJ (lNames vs.length (vs.map cod) (12 + tt) Dq Dn) Γ.L Dq Dn Dc Dv vs ((presentOf vs).take i) v2 v3 σ', ⟨h1, [], by exact ⟨by exact Mine.Sub.of rfl, fun _ _ e => e⟩, st0, rfl⟩, fun i σ' q => by obtain ⟨h2, G, hf, q, _⟩ := q; exact hf.2 _ _ q.dp, ?_, ?_⟩
    · clear st0
      rintro i y σ' I ob hb hy ⟨h2, G, hf, st, eG⟩
      obtain ⟨d, hd, rfl⟩ := map_get hy
      have hdb := hpb d (List.mem_of_getElem? hd)
      have hil : i < (presentOf vs).length := (List.getElem?_eq_some_iff.mp hd).1
      have hGl : G.length = i := by
        have := congrArg List.length eG
        unfold kNeeds at this
        rw [List.length_map, List.length_map, List.length_take] at this
        lia
      refine m_fitS hf ?_
      clear hf
      refine m_post (law_later (Γ := Γ.freeze I ob hb) (fa := fa) (cdv := cdv) (n := n) hV htt hdb st ?_ ?_ (by lia) ?_ (by exact Z) hA) ?_
      · refine dGet_none ?_
        have := congrArg (List.map (·.1)) eG
        unfold kNeeds at this
        rw [List.map_map, List.map_map] at this
        unfold entG
        rw [List.map_map]
        show _ ∉ G.map ((fun x => x.1) ∘ fun g => (g.1, g.2.2))
        rw [this]
        exact sg_new hpb (present_nd vs) hd
      · refine dGet_none ?_
        unfold kCounts
        rw [List.map_map]
        exact sg_new hpb (present_nd vs) hd
      · unfold kCounts; rw [List.length_map, List.length_take]; lia
      rintro fl σ'' ⟨rfl, hp2, Dm, hf2, st2⟩
      skip
      refine ⟨σ'', fun _ _ e => e, fun _ _ e => e, hp2, G ++ [(T [cod d], Dm, (needsOf vs d).map fun c => T [cod c])], hf2, ?_, ?_⟩
      · unfold kCounts at st2 ⊢
        rw [take_snoc hd, List.map_append]
        exact st2
      · unfold kNeeds at eG ⊢
        rw [List.map_append, eG, take_snoc hd, List.map_append]; rfl
    · rintro σ' ⟨h2, G, hf, st, eG⟩
      rw [List.length_map, List.take_length] at st eG
      skip
      refine ⟨rfl, h2, G, ⟨fun z v q => hf.1 z v ?_, hf.2⟩, st, eG⟩
      revert q; exact (show Sub (names _) (names _) by exact Mine.Sub.of rfl) z v
  rintro σ' ⟨h2, G, hf, st, eG⟩
  refine m_fit hf ?_
  exact k Dn Dc G h2 st eG
end
end Mine
end
section
open PySem PySem.W PyProof.Rows PySem.SeqAt
set_option maxHeartbeats 4000000
namespace Mine
noncomputable def runsStep (r : List Int) (v : Int) : List Int := if r = [] then r ++ [v] else if r.getLast? = some v then r else r ++ [v]
noncomputable def runsOf (vs : List Int) : List Int := vs.foldl runsStep []
noncomputable def once (R : List Int) (x : Int) : Bool := decide ((R.filter (· == x)).length ≤ 1)
noncomputable def leadOf (R : List Int) : List Int := R.takeWhile (once R)
theorem takeWhile_at {P : Int → Bool} {R : List Int} {i : Nat} {y : Int} (h : ∀ x ∈ R.take i, P x = true) (hy : R[i]? = some y) (hP : P y = false) : R.takeWhile P = R.take i := by
  have hi := List.getElem?_eq_some_iff.mp hy
  have : R = R.take i ++ y :: R.drop (i + 1) := by
    conv => lhs; rw [← List.take_append_drop i R, List.drop_eq_getElem_cons hi.1, hi.2]
  conv => lhs; rw [this]
  rw [List.takeWhile_append_of_pos h, List.takeWhile_cons, hP]; simp
theorem takeWhile_all {P : Int → Bool} {R : List Int} (h : ∀ x ∈ R, P x = true) : R.takeWhile P = R := by
  have := List.takeWhile_append_of_pos (p := P) (l₁ := R) (l₂ := []) h
  simpa using this
theorem runs_len : ∀ (vs r : List Int), (vs.foldl runsStep r).length ≤ r.length + vs.length
  | [], r => by simp
  | v :: vs, r => by
    rw [List.foldl_cons]
    have h := runs_len vs (runsStep r v)
    have : (runsStep r v).length ≤ r.length + 1 := by
      unfold runsStep; split
      · rw [List.length_append]; simp
      · split
        · omega
        · rw [List.length_append]; simp
    rw [List.length_cons]; omega
section
variable {L Dq Dn Dc Dv X : Addr} {vs : List Int} {G : List (Ky × Addr × List Ky)} {K : List (Ky × V)} {v2 v3 v6 v : Option V} {hp hq : Addr → Option (O Ky)} {o : O Ky}
theorem Cs.keep3 {v1 v2 v3 v4 v5 v6 : Option V} (c : Cs L v1 v2 v3 v4 v5 v6 hp) (hs : ∀ b o, hp b = some o → b ≠ L + 1 + 1 + 1 → hq b = some o) (h3 : hq (L + 1 + 1 + 1) = some (.cell v)) : Cs L v1 v2 v v4 v5 v6 hq :=
  ⟨hs _ _ c.c1 (ca (i := 1) (j := 3) (by decide)), hs _ _ c.c2 (ca (i := 2) (j := 3) (by decide)), h3, hs _ _ c.c4 (ca (i := 4) (j := 3) (by decide)), hs _ _ c.c5 (ca (i := 5) (j := 3) (by decide)), hs _ _ c.c6 (ca (i := 6) (j := 3) (by decide))⟩
theorem NSt.keep3 (s : NSt L Dq Dn Dc Dv vs G K v2 v3 v6 hp) (hs : ∀ b o, hp b = some o → b ≠ L + 1 + 1 + 1 → hq b = some o) (h3 : hq (L + 1 + 1 + 1) = some (.cell v)) : NSt L Dq Dn Dc Dv vs G K v2 v v6 hq := by
  have nc : ∀ {b o}, hp b = some o → (∀ v, o ≠ .cell v) → hq b = some o := fun h1 h2 => hs _ _ h1 (fun q => by rw [q, s.cs.c3] at h1; exact h2 _ (Option.some.inj h1).symm)
  obtain ⟨e, q⟩ := s.dc
  obtain ⟨e2, q2⟩ := s.dn
  exact ⟨s.cs.keep3 hs h3, nc s.dv (fun _ z => by cases z), nc s.dp (fun _ z => by cases z), ⟨e2, nc q2 (fun _ z => by cases z)⟩, fun g hg => nc (s.gl g hg) (fun _ z => by cases z), ⟨e, nc q (fun _ z => by cases z)⟩, s.ne⟩
end
inductive RJ (tx : List Nat) (Dq Dn Dr L : Addr) (hp : Addr → Option (O Ky)) (rs : List Int) (σ' : MS Ky) : Prop
  | mk (h2 : Addr → Option (O Ky)) (v : Option V) (hf : Fit σ' (names [("text", .str (T tx)), ("present", .ref Dq), ("needs", .ref Dn), ("runs", .ref Dr)]) h2) (q1 : ∀ b o, hp b = some o → b ≠ L + 1 + 1 + 1 → h2 b = some o) (q2 : h2 (L + 1 + 1 + 1) = some (.cell v)) (q3 : h2 Dr = some (.list (rs.map V.int)))
section
variable {prog : Program} {w : World} {Γ : Fx} {σ : MS Ky} {A : Around} {env : Env} {α : Type} {s : Shared} {Q : Value → MS Ky → Prop} {QB : Bool → MS Ky → Prop} {QU : Unit → MS Ky → Prop} {QF : Flow → MS Ky → Prop}
variable {p : Program} {loose : List Str} {mg mb : Str → Option Value} {t u v : Tok} {n : Nat} {l : Addr} {a : Ad} {S : SS} {k : Ky}
theorem law_runs {rest : List Stmt} {fa Dv : Addr} {cdv : Value} {hp : Addr → Option (O Ky)} {vs : List Int} {v1 v2 v3 v5 v6 : Option V} (hvl : vs.length ≤ 6) (dv : hp Dv = some (.list (vs.map V.int)))
    (cc : Cs Γ.L v1 v2 v3 (some (.ref Dv)) v5 v6 hp) (Z : Here (Mine.hd1.heap_1 w.params) p loose mg mb Γ.base) (hA : Dp A (n + 6))
    (k : ∀ (Dr : Addr) (h' : Addr → Option (O Ky)) (v : Option V) σ', Fit σ' (names [("text", .str (T tx)), ("present", .ref Dq), ("needs", .ref Dn), ("runs", .ref Dr)]) h' → (∀ b o, hp b = some o → b ≠ Γ.L + 1 + 1 + 1 → h' b = some o) → h' (Γ.L + 1 + 1 + 1) = some (.cell v) → hp Dr = none → h' Dr = some (.list ((runsOf vs).map V.int)) →
      mwp (kyK prog w) Γ A (execs rest (lenv Γ.L fa cdv)) QF σ') :
    mwp (kyK prog w) Γ A (execs ((lawBody.drop 20).take 2 ++ rest) (lenv Γ.L fa cdv)) QF ⟨names [("text", .str (T tx)), ("present", .ref Dq), ("needs", .ref Dn)], hp⟩ := by
  have hh : A.handled = none := hA.hd
  have c4 := cc.c4
  have c3 := cc.c3
  refine m_cons ?_
  refine m_AssignName (hs := by rfl) ?_
  refine m_List ?_
  refine m_splE0 ?_
  refine m_newList .nil (by decide) fun Dr hDr => ?_
  have hDr : hp Dr = none := hDr
  refine m_str' (hk := by rfl) (hl := by rfl) (he := by rfl) ?_
  skip
  have hn3 : Dr ≠ Γ.L + 1 + 1 + 1 := (ne_none c3 hDr).symm
  refine m_weak (m' := names [("text", .str (T tx)), ("present", .ref Dq), ("needs", .ref Dn), ("runs", .ref Dr)]) (h' := put hp Dr (.list [])) (by exact Mine.Sub.of rfl) (fun _ _ e => e) ?_
  refine m_cons ?_
  refine m_then (P := RJ tx Dq Dn Dr Γ.L hp (runsOf vs)) ?_ ?_
  · refine m_ForG (hs := by intro _; rfl) ?_
    have c4' := sub_put (x := O.list ([] : List V)) hDr c4
    refine m_Name (hd := by decide) (m_ciR (hk := by rfl) (hl := by rfl) (he := by rfl) (c := Γ.L + 1 + 1 + 1 + 1) c4' ?_)
    refine ⟨_, _, _, yields_list hh (xs := vs.map V.int), fun i σ' => RJ tx Dq Dn Dr Γ.L hp (runsOf (vs.take i)) σ', ⟨_, v3, by exact ⟨by exact Mine.Sub.of rfl, fun _ _ e => e⟩, fun b o e _ => sub_put hDr e, sub_put hDr c3, put_same⟩, fun i σ' q => by obtain ⟨h2, v, hf, q, _⟩ := q; exact hf.2 _ _ (q _ _ dv (fun z => by rw [z, c3] at dv; cases dv)), ?_, ?_⟩
    · rintro i y v' σ' I ob hb hy iv ⟨h2, v, hf, q1, q2, q3⟩
      obtain ⟨x, hx, rfl⟩ := map_get hy
      obtain ⟨tx1, rfl⟩ := iv
      have hi : i < 6 := Nat.lt_of_lt_of_le (List.getElem?_eq_some_iff.mp hx).1 hvl
      have hrl : (runsOf (vs.take i)).length ≤ 6 := by
        have := runs_len (vs.take i) []
        rw [List.length_take] at this
        unfold runsOf; simp only [List.length_nil] at this; omega
      have er : runsOf (vs.take (i + 1)) = runsStep (runsOf (vs.take i)) x := by unfold runsOf; rw [take_snoc hx, List.foldl_append]; rfl
      refine m_fit hf ?_
      clear hf
      refine m_storeCell (hk := by rfl) (hl := by rfl) (he := by rfl) (v := .int x) (c := Γ.L + 1 + 1 + 1) ⟨_, rfl⟩ q2 ?_
      have r1 : ∀ b o, hp b = some o → b ≠ Γ.L + 1 + 1 + 1 → put h2 (Γ.L + 1 + 1 + 1) (.cell (some (.int x))) b = some o := fun b o e nb => (put_other nb).trans (q1 b o e nb)
      have r2 : put h2 (Γ.L + 1 + 1 + 1) (.cell (some (.int x))) (Γ.L + 1 + 1 + 1) = some (.cell (some (.int x))) := put_same
      have r3 := (put_other (f := h2) (x := O.cell (some (.int x))) hn3).trans q3
      refine m_weak (m' := names [("text", .str (T tx)), ("present", .ref Dq), ("needs", .ref Dn), ("runs", .ref Dr)]) (h' := put h2 (Γ.L + 1 + 1 + 1) (.cell (some (.int x)))) (by exact Mine.Sub.of rfl) (fun _ _ e => e) ?_
      revert r1 r2 r3
      generalize put h2 (Γ.L + 1 + 1 + 1) (.cell (some (.int x))) = h3
      generalize runsOf (vs.take i) = rr at hrl er
      clear q1 q2 q3
      intro r1 r2 r3
      refine m_abs fun Zq0 hZq0 => ?_
      refine m_cons ?_
      refine m_If ?_
      refine m_isBoolOp ?_
      refine m_orCons ?_
      refine m_abs fun Zq1 hZq1 => ?_
      refine m_isCompare (hm := by with_unfolding_all rfl) ?_
      refine evR (EvP.nm (v := .ref _) (by rfl)) ?_
      refine m_List ?_
      refine m_splE0 ?_
      refine m_newList .nil (by decide) fun D1 hD1 => ?_
      have hD1 : h3 D1 = none := hD1
      have n1 : Dr ≠ D1 := ne_none r3 hD1
      refine m_eqInts (as := rr) (bs := []) (by have := hA.un; omega) (sub_put hD1 r3) put_same ?_
      refine m_trBool ?_
      refine hZq1 _ _ ?_
      refine ite_of (fun e1 => ?_) fun e1 => ?_
      · have e1 : rr = [] := of_decide_eq_true e1
        skip
        refine itrue rfl ?_
        refine m_weak (m' := names [("text", .str (T tx)), ("present", .ref Dq), ("needs", .ref Dn), ("runs", .ref Dr)]) (h' := h3) (by exact Mine.Sub.of rfl) (fun _ _ e => sub_put hD1 e) ?_
        refine m_abs fun Zq2 hZq2 => ?_
        refine m_cons ?_
        refine m_Expr (hi := by rfl) (hs := by rfl) ?_
        refine m_Method (he := by rfl) ?_
        refine evR (EvP.nm (v := .ref _) (by rfl)) ?_
        refine m_methList (by walk_at "hl") PySem.F.slot_list_append PySem.F.type_list_append ?_
        refine m_callB (he := by rfl) (hplain := by rfl) ?_
        refine m_splE (he := by rfl) ?_
        refine evI (EvP.cell r2) fun _ => ?_
        refine m_splE0 ?_
        refine m_append (x := .int x) (xs := rr.map V.int) r3 ⟨_, rfl⟩ (by rw [List.length_map]; exact Nat.le_trans hrl (by decide)) ?_
        refine m_nil ?_
        refine hZq2 _ _ ?_
        refine m_nil ?_
        refine hZq0 _ _ ?_
        refine ⟨put h3 Dr (.list (rr.map V.int ++ [.int x])), _, by exact ⟨by exact Mine.Sub.of rfl, fun _ _ e => e⟩, fun b o e nb => (put_other (ne_none e hDr)).trans (r1 b o e nb), (put_other (Ne.symm hn3)).trans r2, ?_⟩
        rw [put_same, er]
        unfold runsStep
        rw [if_pos e1, List.map_append]; rfl
      · have e1 : rr ≠ [] := fun q => e1 (decide_eq_true q)
        have hpos : 0 < rr.length := List.length_pos_iff.mpr e1
        obtain ⟨z, hz⟩ : ∃ z, rr.getLast? = some z := by
          cases h : rr.getLast? with
          | none => exact absurd (List.getLast?_eq_none_iff.mp h) e1
          | some z => exact ⟨z, rfl⟩
        have hz2 : (rr.map V.int)[((-1 : Int) + (rr.map V.int).length).toNat]? = some (.int z) := by
          rw [List.length_map, show ((-1 : Int) + rr.length).toNat = rr.length - 1 by omega, List.getElem?_map]
          rw [List.getLast?_eq_getElem?] at hz
          rw [hz]; rfl
        refine m_weak (m' := names [("text", .str (T tx)), ("present", .ref Dq), ("needs", .ref Dn), ("runs", .ref Dr)]) (h' := h3) (by exact Mine.Sub.of rfl) (fun _ _ e => sub_put hD1 e) ?_
        refine m_orCons ?_
        refine m_abs fun Zq2 hZq2 => ?_
        refine m_isCompare (hm := by with_unfolding_all rfl) ?_
        refine m_Sub ?_
        refine evR (EvP.nm (v := .ref _) (by rfl)) ?_
        refine m_UnaryOp ?_
        refine evI EvP.int fun _ => ?_
        refine m_neg fun _ => ?_
        skip
        refine m_tailList (hs := by with_unfolding_all rfl) r3 (m_getListNeg r3 (by decide) (by rw [List.length_map]; omega) (by decide) hz2 fun v' hv' => ?_)
        obtain ⟨tz, rfl⟩ := hv'
        refine evI (EvP.cell r2) fun _ => ?_
        refine m_nei ?_
        refine m_trBool ?_
        refine hZq2 _ _ ?_
        refine ite_of (fun e2 => ?_) fun e2 => ?_
        · have e2 : z ≠ x := by simpa using e2
          skip
          refine itrue rfl ?_
          refine m_abs fun Zq3 hZq3 => ?_
          refine m_cons ?_
          refine m_Expr (hi := by rfl) (hs := by rfl) ?_
          refine m_Method (he := by rfl) ?_
          refine evR (EvP.nm (v := .ref _) (by rfl)) ?_
          refine m_methList (by walk_at "hl") PySem.F.slot_list_append PySem.F.type_list_append ?_
          refine m_callB (he := by rfl) (hplain := by rfl) ?_
          refine m_splE (he := by rfl) ?_
          refine evI (EvP.cell r2) fun _ => ?_
          refine m_splE0 ?_
          refine m_append (x := .int x) (xs := rr.map V.int) r3 ⟨_, rfl⟩ (by rw [List.length_map]; exact Nat.le_trans hrl (by decide)) ?_
          refine m_nil ?_
          refine hZq3 _ _ ?_
          refine m_nil ?_
          refine hZq0 _ _ ?_
          refine ⟨put h3 Dr (.list (rr.map V.int ++ [.int x])), _, by exact ⟨by exact Mine.Sub.of rfl, fun _ _ e => e⟩, fun b o e nb => (put_other (ne_none e hDr)).trans (r1 b o e nb), (put_other (Ne.symm hn3)).trans r2, ?_⟩
          rw [put_same, er]
          unfold runsStep
          rw [if_neg e1, hz, if_neg (fun q => e2 (Option.some.inj q)), List.map_append]; rfl
        · have e2 : z = x := by simpa using e2
          refine m_orNil ?_
          skip
          refine ifalse (by decide) ?_
          refine m_nil ?_
          refine m_nil ?_
          refine hZq0 _ _ ?_
          refine ⟨h3, _, by exact ⟨by exact Mine.Sub.of rfl, fun _ _ e => e⟩, r1, r2, ?_⟩
          rw [er]
          unfold runsStep
          rw [if_neg e1, hz, e2, if_pos rfl]; exact r3
    · rintro σ' ⟨h2, v, hf, q1, q2, q3⟩
      rw [List.length_map, List.take_length] at q3
      skip
      exact ⟨rfl, h2, v, hf, q1, q2, q3⟩
  rintro σ' ⟨h2, v, hf, q1, q2, q3⟩
  exact k Dr h2 v σ' hf q1 q2 hDr q3
end
end Mine
end
section
open PySem PySem.W PyProof.Rows PySem.SeqAt
set_option maxHeartbeats 1000000
namespace Mine
theorem sub_snoc {c d x : Int} {P : List Int} : [c, d].Sublist (P ++ [x]) ↔ ([c, d].Sublist P ∨ (c ∈ P ∧ d = x)) := by
  rw [List.sublist_append_iff]
  constructor
  · rintro ⟨l1, l2, e, h1, h2⟩
    cases h2 with
    | cons _ h =>
      cases h
      rw [List.append_nil] at e; subst e; exact .inl h1
    | cons_cons _ h =>
      cases h
      have : [c] ++ [d] = l1 ++ [x] := e
      obtain ⟨e1, e2⟩ := List.append_inj' this rfl
      subst e1
      exact .inr ⟨List.singleton_sublist.mp h1, by simpa using e2⟩
  · rintro (h | ⟨h, rfl⟩)
    · exact ⟨[c, d], [], by simp, h, by simp⟩
    · exact ⟨[c], [d], rfl, List.singleton_sublist.mpr h, List.Sublist.refl _⟩
theorem signD_zero {a b : Int} : signD a b = 0 ↔ a = b := by
  unfold signD
  constructor
  · intro h
    split at h
    · rename_i e; simpa using e
    · split at h
      · split at h
        · split at h <;> omega
        · omega
      · omega
  · intro h; rw [if_pos (by simpa using h)]
theorem signD_nn (a b : Int) : 0 ≤ signD a b := by
  unfold signD
  split
  · omega
  · split
    · split
      · split <;> omega
      · omega
    · omega
theorem least_fold {c d v0 : Int} : ∀ (n : Nat) (P : List Int), P.length = n → ∀ s, P.foldl (leastStep c d) (4, signD c v0) = s → 0 ≤ s.1 ∧ 0 ≤ s.2 ∧ (s.2 = 0 ↔ c ∈ v0 :: P) ∧ (s.1 = 0 ↔ [c, d].Sublist (v0 :: P))
  | 0, P, hP, s, hs => by
    have : P = [] := List.length_eq_zero_iff.mp hP
    subst this
    have hs : (4, signD c v0) = s := hs
    subst hs
    refine ⟨by show (0 : Int) ≤ 4; decide, signD_nn _ _, ?_, ?_⟩
    · rw [signD_zero]; simp
    · constructor
      · intro h; exact absurd (show (4 : Int) = 0 from h) (by decide)
      · intro h; have := h.length_le; simp at this
  | n + 1, P, hP, s, hs => by
    obtain ⟨P', x, rfl⟩ : ∃ P' x, P = P' ++ [x] := by
      refine ⟨P.dropLast, P.getLast (by intro q; rw [q] at hP; simp at hP), (List.dropLast_concat_getLast _).symm⟩
    rw [List.length_append] at hP
    obtain ⟨h1, h2, h3, h4⟩ := least_fold n P' (by simpa using hP) _ rfl
    rw [List.foldl_append] at hs
    generalize List.foldl (leastStep c d) (4, signD c v0) P' = r at *
    have hs : leastStep c d r x = s := hs
    subst hs
    have b1 := signD_nn d x
    have b2 := signD_nn c x
    have z1 := signD_zero (a := d) (b := x)
    have z2 := signD_zero (a := c) (b := x)
    refine ⟨by show 0 ≤ min r.1 _; omega, by show 0 ≤ min r.2 _; omega, ?_, ?_⟩
    · show min r.2 (signD c x) = 0 ↔ _
      rw [← List.cons_append, List.mem_append, ← h3, List.mem_singleton, ← z2]
      omega
    · show min r.1 (r.2 + signD d x) = 0 ↔ _
      rw [← List.cons_append, sub_snoc, ← h4, ← h3, ← z1]
      omega
theorem least_sub {c d : Int} {vs : List Int} (h : Vals vs) : leastF c d vs = 0 ↔ [c, d].Sublist vs := by
  have hl := h.lo
  match vs, h with
  | [], h => simp at hl
  | v0 :: r, h => exact (least_fold _ r rfl _ rfl).2.2.2
theorem runs_snoc {P : List Int} {x : Int} : runsOf (P ++ [x]) = runsStep (runsOf P) x := by unfold runsOf; rw [List.foldl_append]; rfl
theorem snoc_ind {Q : List Int → Prop} (h0 : Q []) (h1 : ∀ P x, Q P → Q (P ++ [x])) : ∀ (n : Nat) (P : List Int), P.length = n → Q P
  | 0, P, hP => by rw [List.length_eq_zero_iff.mp hP]; exact h0
  | n + 1, P, hP => by
    obtain ⟨P', x, rfl⟩ : ∃ P' x, P = P' ++ [x] := by
      refine ⟨P.dropLast, P.getLast (by intro q; rw [q] at hP; simp at hP), (List.dropLast_concat_getLast _).symm⟩
    rw [List.length_append] at hP
    exact h1 P' x (snoc_ind h0 h1 n P' (by simpa using hP))
theorem runs_cases (R : List Int) (x : Int) : (runsStep R x = R ∧ R.getLast? = some x) ∨ (runsStep R x = R ++ [x] ∧ R.getLast? ≠ some x) := by
  unfold runsStep
  split
  · rename_i e; subst e; exact .inr ⟨rfl, by simp⟩
  · split
    · rename_i e; exact .inl ⟨rfl, e⟩
    · rename_i e; exact .inr ⟨rfl, e⟩
theorem last_snoc {R : List Int} {x : Int} (h : R.getLast? = some x) : ∃ R0, R = R0 ++ [x] := by
  obtain ⟨R0, e⟩ := List.getLast?_eq_some_iff.mp h
  exact ⟨R0, e⟩
theorem runs_mem (P : List Int) : ∀ x, x ∈ runsOf P ↔ x ∈ P := by
  refine snoc_ind (Q := fun P => ∀ x, x ∈ runsOf P ↔ x ∈ P) (fun x => Iff.rfl) (fun P y ih x => ?_) _ P rfl
  rw [runs_snoc, List.mem_append, ← ih x]
  rcases runs_cases (runsOf P) y with ⟨e, l⟩ | ⟨e, l⟩ <;> rw [e]
  · obtain ⟨R0, e0⟩ := last_snoc l
    constructor
    · exact .inl
    · rintro (h | h)
      · exact h
      · rw [List.mem_singleton.mp h, e0]; simp
  · rw [List.mem_append]
theorem runs_sub {c d : Int} (hcd : c ≠ d) (P : List Int) : [c, d].Sublist P ↔ [c, d].Sublist (runsOf P) := by
  refine snoc_ind (Q := fun P => [c, d].Sublist P ↔ [c, d].Sublist (runsOf P)) Iff.rfl (fun P x ih => ?_) _ P rfl
  rw [runs_snoc, sub_snoc, ih, ← runs_mem P c]
  rcases runs_cases (runsOf P) x with ⟨e, l⟩ | ⟨e, l⟩ <;> rw [e]
  · obtain ⟨R0, e0⟩ := last_snoc l
    constructor
    · rintro (h | ⟨h, rfl⟩)
      · exact h
      · rw [e0] at h ⊢
        rw [sub_snoc]
        rcases List.mem_append.mp h with h | h
        · exact .inr ⟨h, rfl⟩
        · exact absurd (List.mem_singleton.mp h) hcd
    · exact .inl
  · rw [sub_snoc]
noncomputable def adj : List Int → Prop
  | x :: y :: r => x ≠ y ∧ adj (y :: r)
  | _ => True
theorem adj_snoc : ∀ {R : List Int} {v : Int}, adj R → R.getLast? ≠ some v → adj (R ++ [v])
  | [], _, _, _ => trivial
  | [x], v, _, h => ⟨fun q => h (by rw [q]; rfl), trivial⟩
  | x :: y :: r, v, h, hl => ⟨h.1, adj_snoc (R := y :: r) h.2 (by rwa [List.getLast?_cons_cons] at hl)⟩
theorem adj_tail : ∀ {a b : List Int}, adj (a ++ b) → adj b
  | [], _, h => h
  | [x], [], _ => trivial
  | [x], y :: b, h => h.2
  | x :: y :: a, b, h => adj_tail (a := y :: a) h.2
theorem runs_adj (P : List Int) : adj (runsOf P) := by
  refine snoc_ind (Q := fun P => adj (runsOf P)) trivial (fun P x ih => ?_) _ P rfl
  rw [runs_snoc]
  rcases runs_cases (runsOf P) x with ⟨e, l⟩ | ⟨e, l⟩ <;> rw [e]
  · exact ih
  · exact adj_snoc ih l
end Mine
end
section
open PySem PySem.W PyProof.Rows PySem.SeqAt
set_option maxHeartbeats 1000000
namespace Mine
structure Led (R done rest : List Int) : Prop where
  e : R = done ++ rest
  nd : done.Nodup
  dj : ∀ x ∈ done, x ∉ rest
theorem once_count {R : List Int} {x : Int} : once R x = true ↔ R.count x ≤ 1 := by
  unfold once
  rw [decide_eq_true_eq, List.count_eq_length_filter]
theorem lead_led (R : List Int) : ∃ rest, Led R (leadOf R) rest ∧ (∀ r t, rest = r :: t → r ∈ t) := by
  refine ⟨R.dropWhile (once R), ?_, ?_⟩
  · have e : R = leadOf R ++ R.dropWhile (once R) := (List.takeWhile_append_dropWhile).symm
    have hc : ∀ x ∈ leadOf R, R.count x ≤ 1 := fun x hx => once_count.mp (by
      have := List.all_takeWhile (p := once R) (l := R)
      exact List.all_eq_true.mp this x hx)
    have hcc : ∀ x, R.count x = (leadOf R).count x + (R.dropWhile (once R)).count x := fun x => by
      conv => lhs; rw [e]
      exact List.count_append
    refine ⟨e, List.nodup_iff_count.mpr fun x => ?_, fun x hx hr => ?_⟩
    · by_cases hx : x ∈ leadOf R
      · have := hc x hx; have := hcc x; lia
      · rw [List.count_eq_zero_of_not_mem hx]; lia
    · have h1 := hc x hx
      have h2 := hcc x
      have h3 := List.count_pos_iff.mpr hx
      have h4 := List.count_pos_iff.mpr hr
      lia
  · intro r t h
    have hn : once R r = false := by
      have := List.head?_dropWhile_not (once R) R
      rw [h] at this
      simpa using this
    have e : R = leadOf R ++ r :: t := by rw [← h]; exact (List.takeWhile_append_dropWhile).symm
    have hnc : ¬ R.count r ≤ 1 := fun q => by rw [once_count.mpr q] at hn; cases hn
    have hnl : r ∉ leadOf R := fun q => by
      have := List.all_takeWhile (p := once R) (l := R)
      have := List.all_eq_true.mp this r q
      rw [this] at hn; cases hn
    have hcc : R.count r = (leadOf R).count r + (r :: t).count r := by
      conv => lhs; rw [e]
      exact List.count_append
    rw [List.count_eq_zero_of_not_mem hnl, List.count_cons_self] at hcc
    exact List.count_pos_iff.mp (by lia)
theorem Led.take {R done rest : List Int} (h : Led R done rest) (i : Nat) : Led R (done.take i) (done.drop i ++ rest) := by
  refine ⟨by rw [← List.append_assoc, List.take_append_drop]; exact h.e, (List.take_sublist _ _).nodup h.nd, fun x hx hr => ?_⟩
  rcases List.mem_append.mp hr with hr | hr
  · have := h.nd
    rw [← List.take_append_drop i done] at this
    exact (List.nodup_append.mp this).2.2 x hx x hr rfl
  · exact h.dj x (List.mem_of_mem_take hx) hr
theorem sub_skip {c k : Int} : ∀ {a b : List Int}, c ∉ a → ([c, k].Sublist (a ++ b) ↔ [c, k].Sublist b)
  | [], _, _ => Iff.rfl
  | x :: a, b, h => by
    have h2 : c ∉ a := fun q => h (List.mem_cons_of_mem _ q)
    rw [List.cons_append, List.sublist_cons_iff]
    constructor
    · rintro (q | ⟨r, e, _⟩)
      · exact (sub_skip h2).mp q
      · injection e with e _
        exact absurd (e ▸ List.mem_cons_self) h
    · exact fun q => .inl ((sub_skip h2).mpr q)
noncomputable def pre2 (R : List Int) (c k : Int) : Prop := c ≠ k ∧ [c, k].Sublist R
noncomputable def Mini (R done : List Int) (k : Int) : Prop := (k ∈ R ∧ k ∉ done) ∧ ∀ c, c ∈ R → c ∉ done → ¬ pre2 R c k
section
variable {R done t : List Int} {r k : Int}
theorem mini_head (h : Led R done (r :: t)) (hm : Mini R done k) : k = r := by
  apply Classical.byContradiction
  intro hk
  have hr : r ∉ done := fun q => h.dj r q List.mem_cons_self
  have hkt : k ∈ t := by
    have := hm.1.1
    rw [h.e] at this
    rcases List.mem_append.mp this with q | q
    · exact absurd q hm.1.2
    · rcases List.mem_cons.mp q with q | q
      · exact absurd q hk
      · exact q
  refine hm.2 r (by rw [h.e]; exact List.mem_append_right _ List.mem_cons_self) hr ⟨Ne.symm hk, ?_⟩
  rw [h.e, sub_skip hr]
  exact List.Sublist.cons_cons _ (List.singleton_sublist.mpr hkt)
theorem mini_one (h : Led R done (r :: t)) (hr : r ∉ t) : Mini R done k ↔ k = r := by
  constructor
  · exact mini_head h
  · rintro rfl
    have hk : k ∉ done := fun q => h.dj k q List.mem_cons_self
    refine ⟨⟨by rw [h.e]; exact List.mem_append_right _ List.mem_cons_self, hk⟩, fun c _ hc => ?_⟩
    rintro ⟨hne, hs⟩
    rw [h.e, sub_skip hc, List.sublist_cons_iff] at hs
    rcases hs with hs | ⟨r', e, _⟩
    · exact hr (hs.subset (by simp))
    · injection e with e _; exact hne e
theorem ring (h : Led R done (r :: t)) (ha : adj R) (hr : r ∈ t) : ∃ x, x ≠ r ∧ x ∈ R ∧ x ∉ done ∧ pre2 R x r ∧ pre2 R r x := by
  have hrd : r ∉ done := fun q => h.dj r q List.mem_cons_self
  cases t with
  | nil => cases hr
  | cons x t =>
    have had := ha
    rw [h.e] at had
    have hx : r ≠ x := (adj_tail had).1
    have hrt : r ∈ t := by
      rcases List.mem_cons.mp hr with q | q
      · exact absurd q hx
      · exact q
    have hxd : x ∉ done := fun q => h.dj x q (List.mem_cons_of_mem _ List.mem_cons_self)
    refine ⟨x, Ne.symm hx, by rw [h.e]; simp, hxd, ⟨Ne.symm hx, ?_⟩, hx, ?_⟩
    · rw [h.e, sub_skip hxd]
      exact (List.Sublist.cons_cons _ (List.singleton_sublist.mpr hrt)).cons _
    · rw [h.e, sub_skip hrd]
      exact List.Sublist.cons_cons _ (List.singleton_sublist.mpr List.mem_cons_self)
theorem mini_none (h : Led R done (r :: t)) (ha : adj R) (hr : r ∈ t) : ¬ Mini R done k := by
  intro hm
  have := mini_head h hm
  subst this
  obtain ⟨x, _, hxR, hxd, hp, _⟩ := ring h ha hr
  exact hm.2 x hxR hxd hp
theorem mini_end (h : Led R done []) : ¬ Mini R done k := by
  intro hm
  have := hm.1.1
  rw [h.e, List.append_nil] at this
  exact hm.1.2 this
end
theorem rep_skip {v : Int} {P : List Int} : ∀ {l : List Int}, v ∉ l → l.flatMap (fun c => List.replicate ((P ++ [v]).count c) c) = l.flatMap (fun c => List.replicate (P.count c) c)
  | [], _ => rfl
  | a :: l, hl => by
    rw [List.flatMap_cons, List.flatMap_cons, rep_skip (fun q => hl (List.mem_cons_of_mem _ q))]
    have : v ≠ a := fun q => hl (q ▸ List.mem_cons_self)
    rw [List.count_append, show [v].count a = 0 from List.count_eq_zero_of_not_mem (by simpa using Ne.symm this)]
    rfl
theorem lead_text (P : List Int) : ∀ done rest, Led (runsOf P) done rest → done.flatMap (fun c => List.replicate (P.count c) c) = P.take (P.filter fun x => done.any (· == x)).length := by
  refine snoc_ind (Q := fun P => ∀ done rest, Led (runsOf P) done rest → done.flatMap (fun c => List.replicate (P.count c) c) = P.take (P.filter fun x => done.any (· == x)).length) (fun done rest h => ?_) (fun P v ih done rest h => ?_) _ P rfl
  · have : done = [] := by
      have := h.e
      cases done with
      | nil => rfl
      | cons a d => cases this
    subst this; rfl
  · have hle : (P.filter fun x => done.any (· == x)).length ≤ P.length := List.length_filter_le _ _
    have skip : v ∉ done → done.flatMap (fun c => List.replicate ((P ++ [v]).count c) c) = done.flatMap (fun c => List.replicate (P.count c) c) ∧ (P ++ [v]).filter (fun x => done.any (· == x)) = P.filter fun x => done.any (· == x) := fun hv => by
      refine ⟨?_, ?_⟩
      · exact rep_skip hv
      · have hf : (done.any fun x => x == v) = false := by
          rw [Bool.eq_false_iff]; intro q
          obtain ⟨z, hz, e⟩ := List.any_eq_true.mp q
          have : z = v := by simpa using e
          exact hv (this ▸ hz)
        rw [List.filter_append, List.filter_cons, if_neg (by rw [hf]; decide)]; simp
    -- all of the signs so far
    have allOf : ∀ d, Led (runsOf P) d [] → (P.filter fun x => d.any (· == x)) = P := fun d hd => by
      rw [List.filter_eq_self]
      intro x hx
      have : x ∈ runsOf P := (runs_mem P x).mpr hx
      rw [hd.e, List.append_nil] at this
      exact List.any_eq_true.mpr ⟨x, this, by simp⟩
    have hE := h.e
    rw [runs_snoc] at hE
    rcases runs_cases (runsOf P) v with ⟨e, l⟩ | ⟨e, l⟩ <;> rw [e] at hE
    · obtain ⟨R0, e0⟩ := last_snoc l
      by_cases hr : rest = []
      · -- the last run grows
        subst hr
        rw [List.append_nil] at hE
        have hd : done = R0 ++ [v] := by rw [← hE, e0]
        have hv0 : v ∉ R0 := by
          have := h.nd
          rw [hd] at this
          intro q
          exact (List.nodup_append.mp this).2.2 v q v List.mem_cons_self rfl
        have i0 := ih done [] ⟨by rw [List.append_nil]; exact hE, h.nd, fun _ _ q => nomatch q⟩
        rw [allOf done ⟨by rw [List.append_nil]; exact hE, h.nd, fun _ _ q => nomatch q⟩, List.take_length] at i0
        have hall : ((P ++ [v]).filter fun x => done.any (· == x)) = P ++ [v] := by
          rw [List.filter_eq_self]
          intro x hx
          have : x ∈ runsOf (P ++ [v]) := (runs_mem _ x).mpr hx
          rw [h.e, List.append_nil] at this
          exact List.any_eq_true.mpr ⟨x, this, by simp⟩
        rw [hall, List.take_length]
        rw [hd, List.flatMap_append] at i0 ⊢
        have s0 : R0.flatMap (fun c => List.replicate ((P ++ [v]).count c) c) = R0.flatMap (fun c => List.replicate (P.count c) c) := by
          exact rep_skip hv0
        rw [s0]
        conv => rhs; rw [← i0]
        simp only [List.flatMap_cons, List.flatMap_nil, List.append_nil]
        rw [List.append_assoc]
        congr 1
        rw [List.count_append, show [v].count v = 1 by simp, List.replicate_succ']
      · have hvr : v ∈ rest := by
          have : (done ++ rest).getLast? = some v := by rw [← hE]; exact l
          rw [List.getLast?_append] at this
          cases z : rest.getLast? with
          | none => exact absurd (List.getLast?_eq_none_iff.mp z) hr
          | some y =>
            rw [z] at this
            have : y = v := by simpa using this
            subst this
            exact List.mem_of_getLast? z
        have hvd : v ∉ done := fun q => h.dj v q hvr
        obtain ⟨s1, s2⟩ := skip hvd
        rw [s1, s2, ih done rest ⟨hE, h.nd, h.dj⟩, List.take_append_of_le_length hle]
    · by_cases hr : rest = []
      · subst hr
        rw [List.append_nil] at hE
        have hv0 : v ∉ runsOf P := by
          have := h.nd
          rw [← hE] at this
          intro q
          exact (List.nodup_append.mp this).2.2 v q v List.mem_cons_self rfl
        have hvP : v ∉ P := fun q => hv0 ((runs_mem P v).mpr q)
        have hL : Led (runsOf P) (runsOf P) [] := ⟨by simp, by have := h.nd; rw [← hE] at this; exact (List.nodup_append.mp this).1, fun _ _ q => nomatch q⟩
        have i0 := ih (runsOf P) [] hL
        rw [allOf _ hL, List.take_length] at i0
        have hall : ((P ++ [v]).filter fun x => done.any (· == x)) = P ++ [v] := by
          rw [List.filter_eq_self]
          intro x hx
          have : x ∈ runsOf (P ++ [v]) := (runs_mem _ x).mpr hx
          rw [h.e, List.append_nil] at this
          exact List.any_eq_true.mpr ⟨x, this, by simp⟩
        rw [hall, List.take_length, ← hE, List.flatMap_append]
        have s0 : (runsOf P).flatMap (fun c => List.replicate ((P ++ [v]).count c) c) = (runsOf P).flatMap (fun c => List.replicate (P.count c) c) := by
          exact rep_skip hv0
        rw [s0, i0]
        simp only [List.flatMap_cons, List.flatMap_nil, List.append_nil]
        rw [List.count_append, List.count_eq_zero_of_not_mem hvP]; simp
      · obtain ⟨rest0, z, rfl⟩ : ∃ r z, rest = r ++ [z] := ⟨rest.dropLast, rest.getLast hr, (List.dropLast_concat_getLast hr).symm⟩
        rw [← List.append_assoc] at hE
        obtain ⟨e1, e2⟩ := List.append_inj' hE rfl
        have e2 : v = z := by simpa using e2
        subst e2
        have hvd : v ∉ done := fun q => h.dj v q (by simp)
        obtain ⟨s1, s2⟩ := skip hvd
        rw [s1, s2, ih done rest0 ⟨e1, h.nd, fun x hx q => h.dj x hx (List.mem_append_left _ q)⟩, List.take_append_of_le_length hle]
end Mine
end
section
open PySem PySem.W PyProof.Rows PySem.SeqAt
set_option maxHeartbeats 4000000
namespace Mine
theorem filt_eq (x : Int) (R : List Int) : List.map (fun y => y) (List.filter (fun y => match y with | .int i => i == x | _ => false) (R.map V.int)) = (R.filter (· == x)).map V.int := by
  rw [List.map_id', List.filter_map]; rfl
inductive LJ (tx : List Nat) (Dq Dn Dr Dl L : Addr) (hp : Addr → Option (O Ky)) (ls : List Int) (P : Prop) (σ' : MS Ky) : Prop
  | mk (h2 : Addr → Option (O Ky)) (v : Option V) (hf : Fit σ' (names [("text", .str (T tx)), ("present", .ref Dq), ("needs", .ref Dn), ("runs", .ref Dr)]) h2) (q1 : ∀ b o, hp b = some o → b ≠ L + 1 + 1 + 1 → b ≠ L + 1 + 1 + 1 + 1 + 1 + 1 → h2 b = some o) (q3 : h2 (L + 1 + 1 + 1) = some (.cell v)) (q6 : h2 (L + 1 + 1 + 1 + 1 + 1 + 1) = some (.cell (some (.ref Dl)))) (ql : h2 Dl = some (.list (ls.map V.int))) (qo : P)
section
variable {prog : Program} {w : World} {Γ : Fx} {σ : MS Ky} {A : Around} {env : Env} {α : Type} {s : Shared} {Q : Value → MS Ky → Prop} {QB : Bool → MS Ky → Prop} {QU : Unit → MS Ky → Prop} {QF : Flow → MS Ky → Prop}
variable {p : Program} {loose : List Str} {mg mb : Str → Option Value} {t u v : Tok} {n : Nat} {l : Addr} {a : Ad} {S : SS} {k : Ky}
theorem law_lead {rest : List Stmt} {fa Dr : Addr} {cdv : Value} {hp : Addr → Option (O Ky)} {tx : List Nat} {Dq Dn : Addr} {R : List Int} {v1 v2 v3 v4 v5 v6 : Option V} (hvl : R.length ≤ 6) (dr : hp Dr = some (.list (R.map V.int)))
    (cc : Cs Γ.L v1 v2 v3 v4 v5 v6 hp) (Z : Here (Mine.hd1.heap_1 w.params) p loose mg mb Γ.base) (hA : Dp A (n + 6))
    (k : ∀ (Dl : Addr) (h' : Addr → Option (O Ky)) (v : Option V) σ', Fit σ' (names [("text", .str (T tx)), ("present", .ref Dq), ("needs", .ref Dn), ("runs", .ref Dr)]) h' → (∀ b o, hp b = some o → b ≠ Γ.L + 1 + 1 + 1 → b ≠ Γ.L + 1 + 1 + 1 + 1 + 1 + 1 → h' b = some o) → h' (Γ.L + 1 + 1 + 1) = some (.cell v) → h' (Γ.L + 1 + 1 + 1 + 1 + 1 + 1) = some (.cell (some (.ref Dl))) → hp Dl = none → h' Dl = some (.list ((leadOf R).map V.int)) →
      mwp (kyK prog w) Γ A (execs rest (lenv Γ.L fa cdv)) QF σ') :
    mwp (kyK prog w) Γ A (execs ((lawBody.drop 22).take 2 ++ rest) (lenv Γ.L fa cdv)) QF ⟨names [("text", .str (T tx)), ("present", .ref Dq), ("needs", .ref Dn), ("runs", .ref Dr)], hp⟩ := by
  have hh : A.handled = none := hA.hd
  have c6 := cc.c6
  have c3 := cc.c3
  refine m_cons ?_
  refine m_AssignName (hs := by rfl) ?_
  refine m_List ?_
  refine m_splE0 ?_
  refine m_newList .nil (by decide) fun Dl hDl => ?_
  have hDl : hp Dl = none := hDl
  refine m_storeCell (hk := by rfl) (hl := by rfl) (he := by rfl) (v := .ref Dl) (c := Γ.L + 1 + 1 + 1 + 1 + 1 + 1) rfl (sub_put hDl c6) ?_
  skip
  have hn3 : Dl ≠ Γ.L + 1 + 1 + 1 := (ne_none c3 hDl).symm
  have hn6 : Dl ≠ Γ.L + 1 + 1 + 1 + 1 + 1 + 1 := (ne_none c6 hDl).symm
  have n36 : Γ.L + 1 + 1 + 1 ≠ Γ.L + 1 + 1 + 1 + 1 + 1 + 1 := ca (i := 3) (j := 6) (by decide)
  have s1 : ∀ b o, hp b = some o → b ≠ Γ.L + 1 + 1 + 1 → b ≠ Γ.L + 1 + 1 + 1 + 1 + 1 + 1 → put (put hp Dl (.list [])) (Γ.L + 1 + 1 + 1 + 1 + 1 + 1) (.cell (some (.ref Dl))) b = some o := fun b o e _ n6 => (put_other n6).trans (sub_put hDl e)
  have s3 : put (put hp Dl (.list [])) (Γ.L + 1 + 1 + 1 + 1 + 1 + 1) (.cell (some (.ref Dl))) (Γ.L + 1 + 1 + 1) = some (.cell v3) := (put_other n36).trans (sub_put hDl c3)
  have s6 : put (put hp Dl (.list [])) (Γ.L + 1 + 1 + 1 + 1 + 1 + 1) (.cell (some (.ref Dl))) (Γ.L + 1 + 1 + 1 + 1 + 1 + 1) = some (.cell (some (.ref Dl))) := put_same
  have sl : put (put hp Dl (.list [])) (Γ.L + 1 + 1 + 1 + 1 + 1 + 1) (.cell (some (.ref Dl))) Dl = some (.list []) := (put_other hn6).trans put_same
  refine m_weak (m' := names [("text", .str (T tx)), ("present", .ref Dq), ("needs", .ref Dn), ("runs", .ref Dr)]) (h' := put (put hp Dl (.list [])) (Γ.L + 1 + 1 + 1 + 1 + 1 + 1) (.cell (some (.ref Dl)))) (by exact Mine.Sub.of rfl) (fun _ _ e => e) ?_
  revert s1 s3 s6 sl
  generalize put (put hp Dl (.list [])) (Γ.L + 1 + 1 + 1 + 1 + 1 + 1) (.cell (some (.ref Dl))) = h1
  intro s1 s3 s6 sl
  have dr3 : Dr ≠ Γ.L + 1 + 1 + 1 := fun z => by rw [z, c3] at dr; cases dr
  have dr6 : Dr ≠ Γ.L + 1 + 1 + 1 + 1 + 1 + 1 := fun z => by rw [z, c6] at dr; cases dr
  refine m_cons ?_
  refine m_then (P := LJ tx Dq Dn Dr Dl Γ.L hp (leadOf R) True) ?_ ?_
  · refine m_ForG (hs := by intro _; rfl) ?_
    refine evR (EvP.nm (v := .ref _) (by rfl)) ?_
    refine ⟨_, _, _, yields_list hh (xs := R.map V.int), fun i σ' => LJ tx Dq Dn Dr Dl Γ.L hp (R.take i) (∀ x ∈ R.take i, once R x = true) σ', ⟨h1, v3, by exact ⟨by exact Mine.Sub.of rfl, fun _ _ e => e⟩, s1, s3, s6, sl, fun x hx => nomatch hx⟩, fun i σ' q => by obtain ⟨h2, v, hf, q, _⟩ := q; exact hf.2 _ _ (q _ _ dr dr3 dr6), ?_, ?_⟩
    · clear s1 s3 s6 sl
      rintro i y v' σ' I ob hb hy iv ⟨h2, v, hf, q1, q3, q6, ql, qo⟩
      obtain ⟨x, hx, rfl⟩ := map_get hy
      obtain ⟨tx1, rfl⟩ := iv
      have hi : i < 6 := Nat.lt_of_lt_of_le (List.getElem?_eq_some_iff.mp hx).1 hvl
      refine m_fit hf ?_
      clear hf
      refine m_storeCell (hk := by rfl) (hl := by rfl) (he := by rfl) (v := .int x) (c := Γ.L + 1 + 1 + 1) ⟨_, rfl⟩ q3 ?_
      have r1 : ∀ b o, hp b = some o → b ≠ Γ.L + 1 + 1 + 1 → b ≠ Γ.L + 1 + 1 + 1 + 1 + 1 + 1 → put h2 (Γ.L + 1 + 1 + 1) (.cell (some (.int x))) b = some o := fun b o e nb n6 => (put_other nb).trans (q1 b o e nb n6)
      have r3 : put h2 (Γ.L + 1 + 1 + 1) (.cell (some (.int x))) (Γ.L + 1 + 1 + 1) = some (.cell (some (.int x))) := put_same
      have r6 := (put_other (f := h2) (x := O.cell (some (.int x))) (Ne.symm n36)).trans q6
      have rl := (put_other (f := h2) (x := O.cell (some (.int x))) hn3).trans ql
      refine m_weak (m' := names [("text", .str (T tx)), ("present", .ref Dq), ("needs", .ref Dn), ("runs", .ref Dr)]) (h' := put h2 (Γ.L + 1 + 1 + 1) (.cell (some (.int x)))) (by exact Mine.Sub.of rfl) (fun _ _ e => e) ?_
      revert r1 r3 r6 rl
      generalize put h2 (Γ.L + 1 + 1 + 1) (.cell (some (.int x))) = h3
      clear q1 q3 q6 ql
      intro r1 r3 r6 rl
      have dr' := r1 _ _ dr dr3 dr6
      refine m_abs fun Zq0 hZq0 => ?_
      refine m_cons ?_
      refine m_If ?_
      refine m_isCompare (hm := by with_unfolding_all rfl) ?_
      refine m_abs fun Zq1 hZq1 => ?_
      refine m_Call (he := by rfl) ?_
      refine m_Name (hd := by decide) ?_
      first | refine m_gK (e := by k_is) (hk := by rfl) (hl := by rfl) (he := by rfl) (by assumption) ?_ | refine m_gB (e := by k_is) (hv := by rfl) (hn := by decide) (hk := by rfl) (hl := by rfl) (he := by rfl) (hf := by rfl) (by assumption) ?_
      refine m_callB (he := by rfl) (hplain := by rfl) ?_
      refine m_splE (he := by rfl) ?_
      refine m_Comp (hclos := by rfl) (hcell := by decide) (hkind := by rfl) (hnames := by decide) (hx := by rfl) (hs := by intro _; rfl) ?_
      refine evR (EvP.nm (v := .ref _) (by rfl)) ?_
      refine ⟨_, _, _, yields_list hh (xs := R.map V.int), by rw [List.length_map]; exact Nat.le_trans hvl (by decide), fun σ' hs => hs _ _ dr', fun y => match y with | .int i => i == x | _ => false, fun y => y, ?_, ?_⟩
      · intro y hy C I ob hb D od hd
        obtain ⟨z, hz, rfl⟩ := List.mem_map.mp hy
        refine (?_ : mwp (kyK prog w) _ _ _ _ _)
        refine m_weak (m' := names [("two", .int z)]) (h' := h3) (by exact Mine.Sub.of rfl) (fun _ _ e => e) ?_
        refine tvU (TvP.eqi (hm := by with_unfolding_all rfl) (EvP.nm (v := .int _) (by rfl)) (EvP.cell r3)) ?_
        refine ⟨rfl, ite_of (fun e => ?_) fun e => ?_⟩
        · refine evI (EvP.nm (v := .int _) (by rfl)) fun _ => ?_
          exact ⟨fun _ _ e => e, _, rfl⟩
        · exact fun _ _ e => e
      intro D5 hD5
      rw [filt_eq]
      have hD5 : h3 D5 = none := hD5
      refine m_splE0 ?_
      refine m_lenList put_same (by rw [List.length_map]; have := List.length_filter_le (· == x) R; omega) fun _ => ?_
      rw [List.length_map]
      refine hZq1 _ _ ?_
      refine m_weak (m' := names [("text", .str (T tx)), ("present", .ref Dq), ("needs", .ref Dn), ("runs", .ref Dr)]) (h' := h3) (by exact Mine.Sub.of rfl) (fun _ _ e => sub_put hD5 e) ?_
      refine evI EvP.int fun _ => ?_
      refine m_gti ?_
      refine m_trBool ?_
      refine ite_of (fun e1 => ?_) fun e1 => ?_
      · have e1 : once R x = false := decide_eq_false (by have := of_decide_eq_true e1; omega)
        refine m_abs fun Zq2 hZq2 => ?_
        refine m_cons ?_
        refine m_Break ?_
        refine hZq2 _ _ ?_
        refine hZq0 _ _ ?_
        skip
        refine ⟨rfl, h3, _, by exact ⟨by exact Mine.Sub.of rfl, fun _ _ e => e⟩, r1, r3, r6, ?_, trivial⟩
        unfold leadOf
        rw [takeWhile_at qo hx e1]; exact rl
      · have e1 : once R x = true := decide_eq_true (by have : ¬ (1 : Int) < _ := fun q => e1 (decide_eq_true q); omega)
        refine m_nil ?_
        refine m_cons ?_
        refine m_Expr (hi := by rfl) (hs := by rfl) ?_
        refine m_Method (he := by rfl) ?_
        refine evR (EvP.cell r6) ?_
        refine m_methList (by walk_at "hl") PySem.F.slot_list_append PySem.F.type_list_append ?_
        refine m_callB (he := by rfl) (hplain := by rfl) ?_
        refine m_splE (he := by rfl) ?_
        refine evI (EvP.cell r3) fun _ => ?_
        refine m_splE0 ?_
        refine m_append (x := .int x) (xs := (R.take i).map V.int) rl ⟨_, rfl⟩ (by rw [List.length_map, List.length_take]; exact Nat.le_trans (show min i R.length ≤ 1000 by omega) (by decide)) ?_
        refine m_nil ?_
        refine hZq0 _ _ ?_
        refine ⟨put h3 Dl (.list ((R.take i).map V.int ++ [.int x])), _, by exact ⟨by exact Mine.Sub.of rfl, fun _ _ e => e⟩, fun b o e nb n6 => (put_other (ne_none e hDl)).trans (r1 b o e nb n6), (put_other (Ne.symm hn3)).trans r3, (put_other (Ne.symm hn6)).trans r6, ?_, ?_⟩
        · rw [put_same, take_snoc hx, List.map_append]; rfl
        · intro y hy
          rw [take_snoc hx] at hy
          rcases List.mem_append.mp hy with hy | hy
          · exact qo y hy
          · rw [List.mem_singleton.mp hy]; exact e1
    · rintro σ' ⟨h2, v, hf, q1, q3, q6, ql, qo⟩
      rw [List.length_map, List.take_length] at ql qo
      skip
      refine ⟨rfl, h2, v, hf, q1, q3, q6, ?_, trivial⟩
      unfold leadOf
      rw [takeWhile_all qo]; exact ql
  rintro σ' ⟨h2, v, hf, q1, q3, q6, ql, _⟩
  exact k Dl h2 v σ' hf q1 q3 q6 hDl ql
end
end Mine
end
section
open PySem PySem.W PyProof.Rows PySem.SeqAt
set_option maxHeartbeats 1000000
namespace Mine
theorem tell_np : ∀ (m : List Ky) (S : SS), m.Nodup → ∀ j, (tellAll S m).np j = if j ∈ m then S.np j - 1 else S.np j
  | [], S, _, j => by simp [tellAll]
  | s :: m, S, nd, j => by
    have nd' := List.nodup_cons.mp nd
    have ih := tell_np m (tellOne S s) nd'.2 j
    have e : tellAll S (s :: m) = tellAll (tellOne S s) m := rfl
    rw [e, ih]
    show (if j ∈ m then upd S.np s (S.np s - 1) j - 1 else upd S.np s (S.np s - 1) j) = _
    by_cases q : j = s
    · subst q
      rw [if_neg nd'.1, upd_same, if_pos List.mem_cons_self]
    · rw [upd_other q]
      simp [q]
theorem tell_rd' : ∀ (m : List Ky) (S : SS) (r : List Ky), m.Nodup → S.rd = some r → (tellAll S m).rd = some (r ++ m.filter fun j => S.np j - 1 == 0)
  | [], S, r, _, h => by simp [tellAll, h]
  | s :: m, S, r, nd, h => by
    have nd' := List.nodup_cons.mp nd
    have e : tellAll S (s :: m) = tellAll (tellOne S s) m := rfl
    have ef : m.filter (fun j => (tellOne S s).np j - 1 == 0) = m.filter fun j => S.np j - 1 == 0 := by
      refine List.filter_congr fun j hj => ?_
      show (upd S.np s (S.np s - 1) j - 1 == 0) = _
      rw [upd_other (show j ≠ s from fun q => nd'.1 (q ▸ hj))]
    rw [e]
    by_cases q : S.np s - 1 = 0
    · rw [tell_rd' m (tellOne S s) (r ++ [s]) nd'.2 (by show (if S.np s - 1 = 0 then S.rd.map (· ++ [s]) else S.rd) = _; rw [if_pos q, h]; rfl), ef, List.filter_cons, if_pos (by simpa using q)]
      simp
    · rw [tell_rd' m (tellOne S s) r nd'.2 (by show (if S.np s - 1 = 0 then S.rd.map (· ++ [s]) else S.rd) = _; rw [if_neg q, h]), ef, List.filter_cons, if_neg (by simpa using q)]
theorem filter_drop {P : Ky → Bool} {k : Ky} : ∀ {l : List Ky}, l.Nodup → k ∈ l → P k = true → (l.filter P).length = (l.filter fun i => P i && decide (i ≠ k)).length + 1
  | [], _, h, _ => by cases h
  | j :: r, nd, h, hp => by
    have nd' := List.nodup_cons.mp nd
    rw [List.filter_cons, List.filter_cons]
    by_cases e : j = k
    · subst e
      rw [if_pos hp, if_neg (by simp), List.length_cons]
      congr 2
      refine List.filter_congr fun i hi => ?_
      have : i ≠ j := fun q => nd'.1 (q ▸ hi)
      simp [this]
    · have hk : k ∈ r := by rcases List.mem_cons.mp h with q | q; exact absurd q.symm e; exact q
      have ih := filter_drop nd'.2 hk hp
      by_cases z : P j = true
      · rw [if_pos z, if_pos (by simp [z, e]), List.length_cons, List.length_cons, ih]
      · rw [if_neg z, if_neg (by simp [z]), ih]

section
variable (pre : Ky → Ky → Bool)
structure Graph (S : SS) : Prop where
  nd : S.ord.Nodup
  su : ∀ k ∈ S.ord, (S.su k).Nodup ∧ ∀ j, j ∈ S.su k ↔ (j ∈ S.ord ∧ pre k j = true)
structure SI (S : SS) (left : List Ky) : Prop where
  g : Graph pre S
  lf : ∀ k ∈ left, k ∈ S.ord
  nl : left.Nodup
  up : ∀ k ∈ left, ∀ j ∈ S.ord, pre k j = true → j ∈ left
  np : ∀ k ∈ left, S.np k = ((left.filter fun i => pre i k).length : Int)
  rd : ∃ l, S.rd = some l ∧ l.Nodup ∧ ∀ k, k ∈ l ↔ (k ∈ left ∧ ∀ i ∈ left, pre i k = false)
  fp : S.fi = S.po
structure MI (S : SS) (left l todo : List Ky) : Prop where
  g : Graph pre S
  lf : ∀ k ∈ left, k ∈ S.ord
  nl : left.Nodup
  up : ∀ k ∈ left, ∀ j ∈ S.ord, pre k j = true → j ∈ left
  ll : ∀ k, k ∈ l ↔ (k ∈ left ∧ ∀ i ∈ left, pre i k = false)
  tl : ∀ k ∈ todo, k ∈ l
  nt : todo.Nodup
  out : ∀ k ∈ todo, S.np k = -1
  np : ∀ j ∈ left, j ∉ l → S.np j = ((left.filter fun i => pre i j && (decide (i ∉ l) || decide (i ∈ todo))).length : Int)
  rd : ∃ r, S.rd = some r ∧ r.Nodup ∧ ∀ j, j ∈ r ↔ (j ∈ left ∧ j ∉ l ∧ ∀ i ∈ left, (i ∉ l ∨ i ∈ todo) → pre i j = false)
  fp : S.fi + todo.length = S.po
variable {pre}
noncomputable def readyS (S : SS) (l : List Ky) : SS := { S with np := outNp S.np l, rd := some [], po := S.po + l.length }
theorem SI.ready {S : SS} {left l : List Ky} (h : SI pre S left) (hl : S.rd = some l) : MI pre (readyS S l) left l l := by
  obtain ⟨l', e, n1, n2⟩ := h.rd
  rw [hl] at e; cases e
  refine ⟨⟨h.g.nd, h.g.su⟩, h.lf, h.nl, h.up, n2, fun k hk => hk, n1, fun k hk => ?_, fun j hj hjl => ?_, ⟨[], rfl, List.nodup_nil, fun j => ?_⟩, ?_⟩
  · show (if k ∈ l then _ else _) = _; rw [if_pos hk]
  · show (if j ∈ l then _ else _) = _
    rw [if_neg hjl, h.np j hj]
    congr 2
    refine List.filter_congr fun i hi => ?_
    by_cases q : i ∈ l <;> simp [q]
  · constructor
    · intro q; cases q
    · rintro ⟨a1, a2, a3⟩
      exact absurd ((n2 j).mpr ⟨a1, fun i hi => a3 i hi (by by_cases q : i ∈ l; exact .inr q; exact .inl q)⟩) a2
  · show S.fi + _ = S.po + _; rw [h.fp]
theorem MI.done {S : SS} {left l todo : List Ky} {k : Ky} (h : MI pre S left l (k :: todo)) : MI pre (doneOne S k) left l todo := by
  have hkl := h.tl k List.mem_cons_self
  have hkL := ((h.ll k).mp hkl).1
  have hko := h.lf k hkL
  have nt := List.nodup_cons.mp h.nt
  obtain ⟨sn, sm⟩ := h.g.su k hko
  obtain ⟨r, er, n1, n2⟩ := h.rd
  have hord : (doneOne S k).ord = S.ord := tell_ord _ _
  have hsu : (doneOne S k).su = S.su := tell_su _ _
  -- successors lie in left, not in l
  have hs1 : ∀ j ∈ S.su k, j ∈ left ∧ j ∉ l := fun j hj => by
    obtain ⟨j1, j2⟩ := (sm j).mp hj
    refine ⟨h.up k hkL j j1 j2, fun q => ?_⟩
    have := ((h.ll j).mp q).2 k hkL
    rw [j2] at this; cases this
  have hks : k ∉ S.su k := fun q => (hs1 k q).2 hkl
  have hnp : ∀ j, (doneOne S k).np j = if j ∈ S.su k then upd S.np k (-2) j - 1 else upd S.np k (-2) j := fun j => tell_np (S.su k) { S with np := upd S.np k (-2) } sn j
  have hrd : (doneOne S k).rd = some (r ++ (S.su k).filter fun j => upd S.np k (-2) j - 1 == 0) := tell_rd' (S.su k) { S with np := upd S.np k (-2) } r sn er
  -- the count behind
  have cnt : ∀ j ∈ left, j ∉ l → ((left.filter fun i => pre i j && (decide (i ∉ l) || decide (i ∈ k :: todo))).length : Int) = ((left.filter fun i => pre i j && (decide (i ∉ l) || decide (i ∈ todo))).length : Int) + (if j ∈ S.su k then 1 else 0) := fun j hj hjl => by
    by_cases q : j ∈ S.su k
    · have hp := ((sm j).mp q).2
      rw [if_pos q, filter_drop h.nl hkL (P := fun i => pre i j && (decide (i ∉ l) || decide (i ∈ k :: todo))) (by simp [hp])]
      have : (left.filter fun i => (pre i j && (decide (i ∉ l) || decide (i ∈ k :: todo))) && decide (i ≠ k)) = left.filter fun i => pre i j && (decide (i ∉ l) || decide (i ∈ todo)) := by
        refine List.filter_congr fun i hi => ?_
        by_cases z : i = k
        · subst z; simp [hkl, nt.1]
        · simp [z]
      rw [this]; push_cast; rfl
    · have hp : pre k j = false := by
        cases z : pre k j with
        | false => rfl
        | true => exact absurd ((sm j).mpr ⟨h.lf j hj, z⟩) q
      rw [if_neg q, Int.add_zero]
      congr 2
      refine List.filter_congr fun i hi => ?_
      by_cases z : i = k
      · subst z; simp [hp]
      · simp [z]
  refine ⟨⟨by rw [hord]; exact h.g.nd, by rw [hord, hsu]; exact h.g.su⟩, by rw [hord]; exact h.lf, h.nl, by rw [hord]; exact h.up, h.ll, fun j hj => h.tl j (List.mem_cons_of_mem _ hj), nt.2, fun j hj => ?_, fun j hj hjl => ?_, ⟨_, hrd, ?_, fun j => ?_⟩, ?_⟩
  · have hjl := h.tl j (List.mem_cons_of_mem _ hj)
    rw [hnp j, if_neg (fun q => (hs1 j q).2 hjl), upd_other (show j ≠ k from fun q => nt.1 (q ▸ hj))]
    exact h.out j (List.mem_cons_of_mem _ hj)
  · have hjk : j ≠ k := fun q => hjl (q ▸ hkl)
    rw [hnp j, upd_other hjk]
    have c := cnt j hj hjl
    rw [← h.np j hj hjl] at c
    split
    · rename_i q; rw [if_pos q] at c; omega
    · rename_i q; rw [if_neg q] at c; omega
  · rw [List.nodup_append]
    refine ⟨n1, sn.filter _, fun i hi j hj => ?_⟩
    rintro rfl
    obtain ⟨q1, q2⟩ := List.mem_filter.mp hj
    have := ((n2 i).mp hi).2.2 k hkL (.inr List.mem_cons_self)
    rw [((sm i).mp q1).2] at this; cases this
  · rw [List.mem_append, n2 j, List.mem_filter]
    constructor
    · rintro (⟨a1, a2, a3⟩ | ⟨a1, a2⟩)
      · exact ⟨a1, a2, fun i hi q => a3 i hi (q.imp id (List.mem_cons_of_mem _))⟩
      · obtain ⟨b1, b2⟩ := hs1 j a1
        have hjk : j ≠ k := fun q => b2 (q ▸ hkl)
        rw [upd_other hjk, h.np j b1 b2] at a2
        have c := cnt j b1 b2
        rw [if_pos a1] at c
        have a2 : ((left.filter fun i => pre i j && (decide (i ∉ l) || decide (i ∈ k :: todo))).length : Int) - 1 = 0 := by simpa using a2
        have z : (left.filter fun i => pre i j && (decide (i ∉ l) || decide (i ∈ todo))).length = 0 := by omega
        rw [List.length_eq_zero_iff, List.filter_eq_nil_iff] at z
        refine ⟨b1, b2, fun i hi q => ?_⟩
        have := z i hi
        cases pz : pre i j with
        | false => rfl
        | true =>
          refine absurd ?_ this
          rcases q with q | q <;> simp [pz, q]
    · rintro ⟨a1, a2, a3⟩
      by_cases q : j ∈ S.su k
      · refine .inr ⟨q, ?_⟩
        have hjk : j ≠ k := fun q => a2 (q ▸ hkl)
        rw [upd_other hjk, h.np j a1 a2]
        have c := cnt j a1 a2
        rw [if_pos q] at c
        have z : (left.filter fun i => pre i j && (decide (i ∉ l) || decide (i ∈ todo))) = [] := by
          rw [List.filter_eq_nil_iff]
          intro i hi
          by_cases w : i ∉ l ∨ i ∈ todo
          · rw [a3 i hi w]; simp
          · have w1 : i ∈ l := by by_cases z : i ∈ l; exact z; exact absurd (.inl z) w
            have w2 : i ∉ todo := fun z => w (.inr z)
            simp [w1, w2]
        rw [z] at c
        simp only [List.length_nil] at c
        rw [c]; rfl
      · refine .inl ⟨a1, a2, fun i hi w => ?_⟩
        rcases w with w | w
        · exact a3 i hi (.inl w)
        · rcases List.mem_cons.mp w with w | w
          · rw [w]
            cases z : pre k j with
            | false => rfl
            | true => exact absurd ((sm j).mpr ⟨h.lf j a1, z⟩) q
          · exact a3 i hi (.inr w)
  · have e1 : (doneOne S k).fi = S.fi + 1 := rfl
    have e2 : (doneOne S k).po = S.po := tell_po _ _
    have := h.fp
    rw [List.length_cons] at this
    rw [e1, e2]; push_cast at this; omega
theorem MI.end {S : SS} {left l left' : List Ky} (h : MI pre S left l []) (hl' : left'.Nodup ∧ ∀ k, k ∈ left' ↔ (k ∈ left ∧ k ∉ l)) : SI pre S left' := by
  obtain ⟨r, er, n1, n2⟩ := h.rd
  refine ⟨h.g, fun k hk => h.lf k ((hl'.2 k).mp hk).1, hl'.1, fun k hk j hj hp => ?_, fun k hk => ?_, ⟨r, er, n1, fun k => ?_⟩, by have := h.fp; simpa using this⟩
  · obtain ⟨a1, a2⟩ := (hl'.2 k).mp hk
    refine (hl'.2 j).mpr ⟨h.up k a1 j hj hp, fun q => ?_⟩
    have := ((h.ll j).mp q).2 k a1
    rw [hp] at this; cases this
  · obtain ⟨a1, a2⟩ := (hl'.2 k).mp hk
    rw [h.np k a1 a2]
    congr 1
    refine List.Perm.length_eq ((List.perm_ext_iff_of_nodup (h.nl.filter _) (hl'.1.filter _)).mpr fun i => ?_)
    rw [List.mem_filter, List.mem_filter, hl'.2 i]
    simp
    constructor
    · rintro ⟨q1, q2, q3⟩; exact ⟨⟨q1, q3⟩, q2⟩
    · rintro ⟨⟨q1, q3⟩, q2⟩; exact ⟨q1, q2, q3⟩
  · rw [n2 k, hl'.2 k]
    constructor
    · rintro ⟨a1, a2, a3⟩
      exact ⟨⟨a1, a2⟩, fun i hi => a3 i ((hl'.2 i).mp hi).1 (.inl ((hl'.2 i).mp hi).2)⟩
    · rintro ⟨⟨a1, a2⟩, a3⟩
      refine ⟨a1, a2, fun i hi w => ?_⟩
      rcases w with w | w
      · exact a3 i ((hl'.2 i).mpr ⟨hi, w⟩)
      · cases w
end
end Mine
end
section
open PySem PySem.W PyProof.Rows PySem.SeqAt
set_option maxHeartbeats 1000000
namespace Mine
noncomputable def Zer (S : SS) : Prop := ∀ j, j ∉ S.ord → S.su j = [] ∧ S.np j = 0
theorem upd_self {α : Type} {f : Ky → α} {k : Ky} {v : α} (h : f k = v) : upd f k v = f := by
  funext j; unfold upd; split
  · rename_i e; rw [e, h]
  · rfl
section
variable {S : SS} {k : Ky}
theorem ens_su' (z : Zer S) : (S.ens k).su = S.su := by
  unfold SS.ens; split
  · rfl
  · rename_i h; exact upd_self (z k h).1
theorem ens_np' (z : Zer S) : (S.ens k).np = S.np := by
  unfold SS.ens; split
  · rfl
  · rename_i h; exact upd_self (z k h).2
theorem ens_ord {j : Ky} : j ∈ (S.ens k).ord ↔ (j ∈ S.ord ∨ j = k) := by
  unfold SS.ens; split
  · rename_i h
    exact ⟨.inl, fun q => q.elim id fun e => e ▸ h⟩
  · show j ∈ S.ord ++ [k] ↔ _
    rw [List.mem_append, List.mem_singleton]
theorem ens_nd (nd : S.ord.Nodup) : (S.ens k).ord.Nodup := by
  unfold SS.ens; split
  · exact nd
  · rename_i h
    show (S.ord ++ [k]).Nodup
    rw [List.nodup_append]
    exact ⟨nd, by simp, fun a ha b hb => by rw [List.mem_singleton.mp hb]; exact fun e => h (e ▸ ha)⟩
theorem ens_zer (z : Zer S) : Zer (S.ens k) := fun j hj => by
  rw [ens_su' z, ens_np' z]
  exact z j fun q => hj (ens_ord.mpr (.inl q))
end
theorem link_all {k : Ky} : ∀ (ps : List Ky) (S : SS), ps.Nodup → Zer S → S.ord.Nodup →
    (ps.foldl (linkOne k) S).ord.Nodup ∧ (∀ j, j ∈ (ps.foldl (linkOne k) S).ord ↔ (j ∈ S.ord ∨ j ∈ ps)) ∧ (∀ j, (ps.foldl (linkOne k) S).su j = if j ∈ ps then S.su j ++ [k] else S.su j) ∧ (ps.foldl (linkOne k) S).np = S.np ∧ Zer (ps.foldl (linkOne k) S)
  | [], S, _, z, nd => ⟨nd, fun j => by simp, fun j => by simp, rfl, z⟩
  | q :: ps, S, np, z, nd => by
    have np' := List.nodup_cons.mp np
    have hsu : (linkOne k S q).su = upd S.su q (S.su q ++ [k]) := by show upd (S.ens q).su q ((S.ens q).su q ++ [k]) = _; rw [ens_su' z]
    have hnp : (linkOne k S q).np = S.np := ens_np' z
    have ho : ∀ j, j ∈ (linkOne k S q).ord ↔ (j ∈ S.ord ∨ j = q) := fun j => ens_ord
    have z1 : Zer (linkOne k S q) := fun j hj => by
      have hj' : ¬ (j ∈ S.ord ∨ j = q) := fun e => hj ((ho j).mpr e)
      rw [hsu, hnp, upd_other (show j ≠ q from fun e => hj' (.inr e))]
      exact z j fun e => hj' (.inl e)
    obtain ⟨a1, a2, a3, a4, a5⟩ := link_all ps (linkOne k S q) np'.2 z1 (ens_nd nd)
    rw [List.foldl_cons]
    refine ⟨a1, fun j => ?_, fun j => ?_, a4.trans hnp, a5⟩
    · rw [a2 j, ho j, List.mem_cons]
      constructor
      · rintro ((h | h) | h)
        · exact .inl h
        · exact .inr (.inl h)
        · exact .inr (.inr h)
      · rintro (h | h | h)
        · exact .inl (.inl h)
        · exact .inl (.inr h)
        · exact .inr h
    · rw [a3 j, hsu]
      by_cases e : j = q
      · subst e; rw [if_neg np'.1, upd_same, if_pos List.mem_cons_self]
      · rw [upd_other e]
        by_cases h : j ∈ ps
        · rw [if_pos h, if_pos (List.mem_cons_of_mem _ h)]
        · rw [if_neg h, if_neg (by simp [e, h])]
theorem add_all {k : Ky} {ps : List Ky} {S : SS} (np : ps.Nodup) (z : Zer S) (nd : S.ord.Nodup) (hk : S.np k = 0) :
    (S.add k ps).ord.Nodup ∧ (∀ j, j ∈ (S.add k ps).ord ↔ (j ∈ S.ord ∨ j = k ∨ j ∈ ps)) ∧ (∀ j, (S.add k ps).su j = if j ∈ ps then S.su j ++ [k] else S.su j) ∧ (∀ j, (S.add k ps).np j = if j = k then (ps.length : Int) else S.np j) ∧ Zer (S.add k ps) := by
  have z1 : Zer { S.ens k with np := upd (S.ens k).np k ((S.ens k).np k + ps.length) } := fun j hj => by
    have hj : j ∉ (S.ens k).ord := hj
    have hj' : ¬ (j ∈ S.ord ∨ j = k) := fun e => hj (ens_ord.mpr e)
    refine ⟨(ens_zer z j hj).1, ?_⟩
    show upd (S.ens k).np k _ j = 0
    rw [upd_other (show j ≠ k from fun e => hj' (.inr e))]; exact (ens_zer z j hj).2
  obtain ⟨a1, a2, a3, a4, a5⟩ := link_all (k := k) ps _ np z1 (ens_nd nd)
  refine ⟨a1, fun j => ?_, fun j => ?_, fun j => ?_, a5⟩
  · show j ∈ (List.foldl (linkOne k) { S.ens k with np := upd (S.ens k).np k ((S.ens k).np k + ps.length) } ps).ord ↔ _
    rw [a2 j]
    show (j ∈ (S.ens k).ord ∨ _) ↔ _
    rw [ens_ord, or_assoc]
  · show (List.foldl (linkOne k) { S.ens k with np := upd (S.ens k).np k ((S.ens k).np k + ps.length) } ps).su j = _
    rw [a3 j]
    show (if _ then (S.ens k).su j ++ [k] else (S.ens k).su j) = _
    rw [ens_su' z]
  · show (List.foldl (linkOne k) { S.ens k with np := upd (S.ens k).np k ((S.ens k).np k + ps.length) } ps).np j = _
    rw [a4]
    show upd (S.ens k).np k ((S.ens k).np k + ps.length) j = _
    rw [ens_np' z, hk]
    by_cases e : j = k
    · subst e; rw [upd_same, if_pos rfl]; lia
    · rw [upd_other e, if_neg e]
theorem build_all : ∀ (G : List (Ky × Addr × List Ky)) (S : SS), (∀ g ∈ G, g.2.2.Nodup) → (G.map (·.1)).Nodup → Zer S → S.ord.Nodup → (∀ g ∈ G, S.np g.1 = 0) →
    (G.foldl addG S).ord.Nodup ∧ (∀ j, j ∈ (G.foldl addG S).ord ↔ (j ∈ S.ord ∨ ∃ g ∈ G, j = g.1 ∨ j ∈ g.2.2)) ∧ (∀ j, (G.foldl addG S).su j = S.su j ++ (G.filter fun g => decide (j ∈ g.2.2)).map (·.1)) ∧
      (∀ g ∈ G, (G.foldl addG S).np g.1 = g.2.2.length) ∧ (∀ j, j ∉ G.map (·.1) → (G.foldl addG S).np j = S.np j)
  | [], S, _, _, _, nd, _ => ⟨nd, fun j => by simp, fun j => by simp, fun g hg => (by cases hg), fun j _ => rfl⟩
  | g :: G, S, h1, h2, z, nd, h3 => by
    have h2' := List.nodup_cons.mp h2
    obtain ⟨a1, a2, a3, a4, a5⟩ := add_all (k := g.1) (h1 g List.mem_cons_self) z nd (h3 g List.mem_cons_self)
    have ne : ∀ g' ∈ G, g'.1 ≠ g.1 := fun g' hg' e => h2'.1 (List.mem_map.mpr ⟨g', hg', e⟩)
    obtain ⟨b1, b2, b3, b4, b5⟩ := build_all G (addG S g) (fun g' hg' => h1 g' (List.mem_cons_of_mem _ hg')) h2'.2 a5 a1 (fun g' hg' => by
      show (S.add g.1 g.2.2).np g'.1 = 0
      rw [a4, if_neg (ne g' hg')]; exact h3 g' (List.mem_cons_of_mem _ hg'))
    rw [List.foldl_cons]
    refine ⟨b1, fun j => ?_, fun j => ?_, fun g' hg' => ?_, fun j hj => ?_⟩
    · rw [b2 j]
      show (j ∈ (S.add g.1 g.2.2).ord ∨ _) ↔ _
      rw [a2 j]
      constructor
      · rintro ((h | h) | ⟨g', hg', h⟩)
        · exact .inl h
        · exact .inr ⟨g, List.mem_cons_self, h⟩
        · exact .inr ⟨g', List.mem_cons_of_mem _ hg', h⟩
      · rintro (h | ⟨g', hg', h⟩)
        · exact .inl (.inl h)
        · rcases List.mem_cons.mp hg' with rfl | hg'
          · exact .inl (.inr h)
          · exact .inr ⟨g', hg', h⟩
    · rw [b3 j]
      show (S.add g.1 g.2.2).su j ++ _ = _
      rw [a3 j, List.filter_cons]
      by_cases e : j ∈ g.2.2
      · rw [if_pos e, if_pos (by simpa using e)]; simp
      · rw [if_neg e, if_neg (by simpa using e)]
    · rcases List.mem_cons.mp hg' with rfl | hg'
      · rw [b5 _ h2'.1]
        show (S.add g'.1 g'.2.2).np g'.1 = _
        rw [a4, if_pos rfl]
      · exact b4 g' hg'
    · rw [List.map_cons, List.mem_cons] at hj
      rw [b5 j (fun q => hj (.inr q))]
      show (S.add g.1 g.2.2).np j = _
      rw [a4, if_neg (fun q => hj (.inl q))]
theorem build_SI {pre : Ky → Ky → Bool} {G : List (Ky × Addr × List Ky)} {left : List Ky} (h1 : ∀ g ∈ G, g.2.2.Nodup) (h2 : G.map (·.1) = left) (h3 : left.Nodup) (h4 : ∀ g ∈ G, ∀ i, i ∈ g.2.2 ↔ (i ∈ left ∧ pre i g.1 = true)) :
    SI pre (build G).prep left ∧ (∀ j, j ∈ (build G).ord ↔ j ∈ left) ∧ (build G).rd = none ∧ Graph pre (build G) := by
  obtain ⟨a1, a2, a3, a4, a5⟩ := build_all G SS0 h1 (by rw [h2]; exact h3) (fun j _ => ⟨rfl, rfl⟩) List.nodup_nil (fun _ _ => rfl)
  have hord : ∀ j, j ∈ (build G).ord ↔ j ∈ left := fun j => by
    show j ∈ (G.foldl addG SS0).ord ↔ _
    rw [a2 j]
    constructor
    · rintro (h | ⟨g, hg, h | h⟩)
      · cases h
      · rw [h, ← h2]; exact List.mem_map.mpr ⟨g, hg, rfl⟩
      · exact ((h4 g hg j).mp h).1
    · intro h
      rw [← h2] at h
      obtain ⟨g, hg, e⟩ := List.mem_map.mp h
      exact .inr ⟨g, hg, .inl e.symm⟩
  have gr : Graph pre (build G) := by
    refine ⟨a1, fun k hk => ⟨?_, fun j => ?_⟩⟩
    · show ((G.foldl addG SS0).su k).Nodup
      rw [a3 k]
      show ([] ++ _).Nodup
      rw [List.nil_append]
      have : ((G.filter fun g => decide (k ∈ g.2.2)).map (·.1)).Sublist (G.map (·.1)) := List.Sublist.map _ List.filter_sublist
      exact this.nodup (by rw [h2]; exact h3)
    · show j ∈ (G.foldl addG SS0).su k ↔ _
      rw [a3 k]
      show j ∈ [] ++ _ ↔ _
      rw [List.nil_append, List.mem_map, hord j]
      constructor
      · rintro ⟨g, hg, rfl⟩
        obtain ⟨g1, g2⟩ := List.mem_filter.mp hg
        refine ⟨by rw [← h2]; exact List.mem_map.mpr ⟨g, g1, rfl⟩, ((h4 g g1 k).mp (of_decide_eq_true g2)).2⟩
      · rintro ⟨q1, q2⟩
        rw [← h2] at q1
        obtain ⟨g, hg, rfl⟩ := List.mem_map.mp q1
        exact ⟨g, List.mem_filter.mpr ⟨hg, by simpa using (h4 g hg k).mpr ⟨(hord k).mp hk, q2⟩⟩, rfl⟩
  have hrd : (build G).rd = none ∧ (build G).po = 0 ∧ (build G).fi = 0 := by
    have : ∀ (G : List (Ky × Addr × List Ky)) (S : SS), (G.foldl addG S).rd = S.rd ∧ (G.foldl addG S).po = S.po ∧ (G.foldl addG S).fi = S.fi := by
      intro G
      induction G with
      | nil => intro S; exact ⟨rfl, rfl, rfl⟩
      | cons g G ih =>
        intro S
        obtain ⟨b1, b2, b3⟩ := ih (addG S g)
        obtain ⟨B, hB⟩ : ∃ B, ∀ j ∈ S.ord, (S.su j).length ≤ B := by
          refine ⟨(S.ord.map fun j => (S.su j).length).sum, fun j hj => ?_⟩
          generalize S.ord = o at hj
          induction o with
          | nil => cases hj
          | cons a r ih2 =>
            rw [List.map_cons, List.sum_cons]
            rcases List.mem_cons.mp hj with rfl | hj
            · lia
            · have := ih2 hj; lia
        obtain ⟨_, _, c1, c2, c3⟩ := add_size (S := S) (k := g.1) (ps := g.2.2) hB
        exact ⟨b1.trans c1, b2.trans c2, b3.trans c3⟩
    exact this G SS0
  have npk : ∀ k ∈ left, (build G).np k = ((left.filter fun i => pre i k).length : Int) := fun k hk => by
    rw [← h2] at hk
    obtain ⟨g, hg, rfl⟩ := List.mem_map.mp hk
    show (G.foldl addG SS0).np g.1 = _
    rw [a4 g hg]
    congr 1
    refine List.Perm.length_eq ((List.perm_ext_iff_of_nodup (h1 g hg) (h3.filter _)).mpr fun i => ?_)
    rw [h4 g hg i, List.mem_filter]
  refine ⟨⟨⟨gr.nd, gr.su⟩, fun k hk => (hord k).mpr hk, h3, fun k _ j hj _ => (hord j).mp hj, npk, ⟨_, rfl, gr.nd.filter _, fun k => ?_⟩, ?_⟩, hord, hrd.1, gr⟩
  · rw [List.mem_filter, hord k]
    constructor
    · rintro ⟨q1, q2⟩
      refine ⟨q1, fun i hi => ?_⟩
      rw [npk k q1] at q2
      have z : (left.filter fun i => pre i k).length = 0 := by have q2 : ((left.filter fun i => pre i k).length : Int) = 0 := by simpa using q2
                                                               lia
      rw [List.length_eq_zero_iff, List.filter_eq_nil_iff] at z
      have := z i hi
      simpa using this
    · rintro ⟨q1, q2⟩
      refine ⟨q1, ?_⟩
      rw [npk k q1, List.filter_eq_nil_iff.mpr (fun i hi => by rw [q2 i hi]; simp)]; rfl
  · show (build G).fi = (build G).po
    rw [hrd.2.1, hrd.2.2]
end Mine
end
section
open PySem PySem.W PyProof.Rows PySem.SeqAt
set_option maxHeartbeats 1000000
namespace Mine
noncomputable abbrev sgn (c : Int) : Ky := T [cod c]
theorem sgn_inj {a b : Int} (ha : 0 ≤ a ∧ a < 64) (hb : 0 ≤ b ∧ b < 64) (h : sgn a = sgn b) : a = b := cod_inj ha hb (by have := T_inj h; simpa using this)
theorem nd_map {l : List Int} (hb : ∀ x ∈ l, 0 ≤ x ∧ x < 64) (h : l.Nodup) : (l.map sgn).Nodup := by
  induction l with
  | nil => exact List.nodup_nil
  | cons a l ih =>
    have h' := List.nodup_cons.mp h
    rw [List.map_cons, List.nodup_cons]
    refine ⟨fun q => ?_, ih (fun x hx => hb x (List.mem_cons_of_mem _ hx)) h'.2⟩
    obtain ⟨b, hb2, e⟩ := List.mem_map.mp q
    exact h'.1 (sgn_inj (hb b (List.mem_cons_of_mem _ hb2)) (hb a List.mem_cons_self) e ▸ hb2)
noncomputable def preK (vs : List Int) (x y : Ky) : Bool := decide (x ≠ y) && (presentOf vs).any fun c => (presentOf vs).any fun d => decide (x = sgn c) && decide (y = sgn d) && leastF c d vs == 0
section
variable {vs : List Int} {c d : Int} {R done rest : List Int}
theorem pres_b (h : Vals vs) : ∀ x ∈ presentOf vs, 0 ≤ x ∧ x < 64 := fun x hx => h.b x ((mem_present h).mp hx)
theorem preK_iff (h : Vals vs) (hc : c ∈ vs) (hd : d ∈ vs) : preK vs (sgn c) (sgn d) = true ↔ pre2 (runsOf vs) c d := by
  unfold preK pre2
  rw [Bool.and_eq_true, decide_eq_true_eq]
  have hcb := h.b c hc
  have hdb := h.b d hd
  constructor
  · rintro ⟨h1, h2⟩
    have hne : c ≠ d := fun q => h1 (by rw [q])
    refine ⟨hne, (runs_sub hne vs).mp ?_⟩
    obtain ⟨c', hc', h2⟩ := List.any_eq_true.mp h2
    obtain ⟨d', hd', h2⟩ := List.any_eq_true.mp h2
    rw [Bool.and_eq_true, Bool.and_eq_true, decide_eq_true_eq, decide_eq_true_eq] at h2
    have e1 := sgn_inj hcb (pres_b h c' hc') h2.1.1
    have e2 := sgn_inj hdb (pres_b h d' hd') h2.1.2
    subst e1; subst e2
    exact (least_sub h).mp (by simpa using h2.2)
  · rintro ⟨hne, hs⟩
    refine ⟨fun q => hne (sgn_inj hcb hdb q), ?_⟩
    have := (least_sub h).mpr ((runs_sub hne vs).mpr hs)
    refine List.any_eq_true.mpr ⟨c, (mem_present h).mpr hc, List.any_eq_true.mpr ⟨d, (mem_present h).mpr hd, ?_⟩⟩
    rw [this]; simp
theorem nodup_lenG {α : Type} [BEq α] [LawfulBEq α] : ∀ (l r : List α), l.Nodup → (∀ k ∈ l, k ∈ r) → l.length ≤ r.length
  | [], _, _, _ => Nat.zero_le _
  | x :: l, r, nd, hx => by
    have nd' := List.nodup_cons.mp nd
    have hxr := hx x List.mem_cons_self
    have := nodup_lenG l (r.erase x) nd'.2 fun k hk => (List.mem_erase_of_ne (show k ≠ x from fun q => nd'.1 (q ▸ hk))).mpr (hx k (List.mem_cons_of_mem _ hk))
    have e := List.length_erase_of_mem hxr
    have : 0 < r.length := List.length_pos_of_mem hxr
    rw [List.length_cons]; omega
theorem present6 (h : Vals vs) : (presentOf vs).length ≤ 6 := Nat.le_trans (nodup_lenG _ _ (present_nd vs) fun k hk => (mem_present h).mp hk) h.hi
theorem kNeeds_ok {G : List (Ky × Addr × List Ky)} (h : Vals vs) (eG : G.map (fun g => (g.1, g.2.2)) = kNeeds vs (presentOf vs)) :
    (∀ g ∈ G, g.2.2.Nodup ∧ g.2.2.length ≤ 6) ∧ G.map (·.1) = (presentOf vs).map sgn ∧ ∀ g ∈ G, ∀ i, i ∈ g.2.2 ↔ (i ∈ (presentOf vs).map sgn ∧ preK vs i g.1 = true) := by
  have hg : ∀ g ∈ G, ∃ d ∈ presentOf vs, g.1 = sgn d ∧ g.2.2 = (needsOf vs d).map sgn := fun g hg => by
    have : (g.1, g.2.2) ∈ kNeeds vs (presentOf vs) := by rw [← eG]; exact List.mem_map.mpr ⟨g, hg, rfl⟩
    unfold kNeeds at this
    obtain ⟨d, hd, e⟩ := List.mem_map.mp this
    exact ⟨d, hd, (congrArg Prod.fst e).symm, (congrArg Prod.snd e).symm⟩
  have hpl := present6 h
  refine ⟨fun g hg' => ?_, ?_, fun g hg' i => ?_⟩
  · obtain ⟨d, hd, _, e2⟩ := hg g hg'
    rw [e2]
    have hsub : ∀ x ∈ needsOf vs d, x ∈ presentOf vs := fun x hx => (List.mem_filter.mp hx).1
    refine ⟨nd_map (fun x hx => pres_b h x (hsub x hx)) ((present_nd vs).filter _), ?_⟩
    rw [List.length_map]
    exact Nat.le_trans (List.length_filter_le _ _) hpl
  · have := congrArg (List.map (·.1)) eG
    unfold kNeeds at this
    rw [List.map_map, List.map_map] at this
    exact this
  · obtain ⟨d, hd, e1, e2⟩ := hg g hg'
    have hdv := (mem_present h).mp hd
    rw [e1, e2]
    constructor
    · intro hi
      obtain ⟨c, hc, rfl⟩ := List.mem_map.mp hi
      obtain ⟨hc1, hc2⟩ := List.mem_filter.mp hc
      have hcv := (mem_present h).mp hc1
      refine ⟨List.mem_map.mpr ⟨c, hc1, rfl⟩, (preK_iff h hcv hdv).mpr ?_⟩
      rw [Bool.and_eq_true] at hc2
      have hne : c ≠ d := by simpa using hc2.1
      exact ⟨hne, (runs_sub hne vs).mp ((least_sub h).mp (by simpa using hc2.2))⟩
    · rintro ⟨hi, hp⟩
      obtain ⟨c, hc, rfl⟩ := List.mem_map.mp hi
      have hcv := (mem_present h).mp hc
      obtain ⟨hne, hs⟩ := (preK_iff h hcv hdv).mp hp
      refine List.mem_map.mpr ⟨c, List.mem_filter.mpr ⟨hc, ?_⟩, rfl⟩
      rw [Bool.and_eq_true]
      refine ⟨by simpa using hne, ?_⟩
      rw [(least_sub h).mpr ((runs_sub hne vs).mpr hs)]; rfl
noncomputable def leftK (vs done : List Int) : List Ky := ((presentOf vs).filter fun c => !(done.any (· == c))).map sgn
theorem mem_leftK (h : Vals vs) {k : Ky} : k ∈ leftK vs done ↔ ∃ c, c ∈ vs ∧ c ∉ done ∧ k = sgn c := by
  unfold leftK
  rw [List.mem_map]
  have hany : ∀ c, (!(done.any (· == c))) = true ↔ c ∉ done := fun c => by
    rw [Bool.not_eq_true', Bool.eq_false_iff]
    constructor
    · exact fun q z => q (List.any_eq_true.mpr ⟨c, z, by simp⟩)
    · intro q z
      obtain ⟨y, hy, e⟩ := List.any_eq_true.mp z
      have : y = c := by simpa using e
      exact q (this ▸ hy)
  constructor
  · rintro ⟨c, hc, rfl⟩
    obtain ⟨h1, h2⟩ := List.mem_filter.mp hc
    exact ⟨c, (mem_present h).mp h1, (hany c).mp h2, rfl⟩
  · rintro ⟨c, h1, h2, rfl⟩
    exact ⟨c, List.mem_filter.mpr ⟨(mem_present h).mpr h1, (hany c).mpr h2⟩, rfl⟩
theorem left0 : leftK vs [] = (presentOf vs).map sgn := by
  unfold leftK
  have : ((presentOf vs).filter fun c => !(([] : List Int).any (· == c))) = presentOf vs := List.filter_eq_self.mpr (fun _ _ => rfl)
  rw [this]
theorem left_nd (h : Vals vs) : (leftK vs done).Nodup := nd_map (fun x hx => pres_b h x (List.mem_filter.mp hx).1) ((present_nd vs).filter _)
theorem ready_mini (h : Vals vs) {k : Ky} : (k ∈ leftK vs done ∧ ∀ i ∈ leftK vs done, preK vs i k = false) ↔ ∃ c, k = sgn c ∧ Mini (runsOf vs) done c := by
  constructor
  · rintro ⟨h1, h2⟩
    obtain ⟨c, hc, hcd, rfl⟩ := (mem_leftK h).mp h1
    refine ⟨c, rfl, ⟨(runs_mem vs c).mpr hc, hcd⟩, fun x hx hxd hp => ?_⟩
    have hxv := (runs_mem vs x).mp hx
    have := h2 (sgn x) ((mem_leftK h).mpr ⟨x, hxv, hxd, rfl⟩)
    rw [(preK_iff h hxv hc).mpr hp] at this; cases this
  · rintro ⟨c, rfl, ⟨hc, hcd⟩, hm⟩
    have hcv := (runs_mem vs c).mp hc
    refine ⟨(mem_leftK h).mpr ⟨c, hcv, hcd, rfl⟩, fun i hi => ?_⟩
    obtain ⟨x, hxv, hxd, rfl⟩ := (mem_leftK h).mp hi
    rw [Bool.eq_false_iff]
    intro q
    exact hm x ((runs_mem vs x).mpr hxv) hxd ((preK_iff h hxv hcv).mp q)
theorem one_list {l : List Ky} {k : Ky} (nd : l.Nodup) (h : ∀ j, j ∈ l ↔ j = k) : l = [k] := by
  cases l with
  | nil => exact absurd ((h k).mpr rfl) (by simp)
  | cons a l =>
    have ha := (h a).mp List.mem_cons_self
    subst ha
    cases l with
    | nil => rfl
    | cons b l =>
      have hb := (h b).mp (List.mem_cons_of_mem _ List.mem_cons_self)
      subst hb
      exact absurd List.mem_cons_self (List.nodup_cons.mp nd).1
theorem no_list {l : List Ky} (h : ∀ j, j ∉ l) : l = [] := by
  cases l with
  | nil => rfl
  | cons a l => exact absurd List.mem_cons_self (h a)
theorem ready_at (h : Vals vs) {i : Nat} {r : Int} (hi : (leadOf (runsOf vs))[i]? = some r) {l : List Ky} (nd : l.Nodup) (hl : ∀ k, k ∈ l ↔ (k ∈ leftK vs ((leadOf (runsOf vs)).take i) ∧ ∀ j ∈ leftK vs ((leadOf (runsOf vs)).take i), preK vs j k = false)) : l = [sgn r] := by
  obtain ⟨rest, hL, _⟩ := lead_led (runsOf vs)
  have hT := hL.take i
  have hg := List.getElem?_eq_some_iff.mp hi
  rw [List.drop_eq_getElem_cons hg.1, hg.2, List.cons_append] at hT
  have hr : r ∉ (leadOf (runsOf vs)).drop (i + 1) ++ rest := by
    intro q
    rcases List.mem_append.mp q with q | q
    · have := hL.nd
      rw [← List.take_append_drop i (leadOf (runsOf vs)), List.drop_eq_getElem_cons hg.1, hg.2] at this
      exact (List.nodup_cons.mp (List.nodup_append.mp this).2.1).1 q
    · exact hL.dj r (List.mem_of_getElem? hi) q
  refine one_list nd fun k => ?_
  rw [hl, ready_mini h]
  constructor
  · rintro ⟨c, rfl, hm⟩; rw [(mini_one hT hr).mp hm]
  · rintro rfl; exact ⟨r, rfl, (mini_one hT hr).mpr rfl⟩
theorem ready_end (h : Vals vs) {l : List Ky} (hl : ∀ k, k ∈ l ↔ (k ∈ leftK vs (leadOf (runsOf vs)) ∧ ∀ j ∈ leftK vs (leadOf (runsOf vs)), preK vs j k = false)) : l = [] := by
  obtain ⟨rest, hL, hr⟩ := lead_led (runsOf vs)
  refine no_list fun k hk => ?_
  rw [hl, ready_mini h] at hk
  obtain ⟨c, _, hm⟩ := hk
  cases rest with
  | nil => exact mini_end hL hm
  | cons r t => exact mini_none hL (runs_adj vs) (hr r t rfl) hm
theorem nd_rankK {RK : List Ky} {c k : Ky} (hn : RK.Nodup) (hne : c ≠ k) (hs : [c, k].Sublist RK) : RK.idxOf c < RK.idxOf k := by
  induction RK with
  | nil => cases hs
  | cons x R ih =>
    have hn' := List.nodup_cons.mp hn
    rw [List.sublist_cons_iff] at hs
    rcases hs with hs | ⟨r', e, hs⟩
    · have := ih hn'.2 hs
      have hc : c ∈ R := hs.subset (by simp)
      have hk : k ∈ R := hs.subset (by simp)
      have n1 : x ≠ c := fun q => hn'.1 (q ▸ hc)
      have n2 : x ≠ k := fun q => hn'.1 (q ▸ hk)
      rw [List.idxOf_cons, List.idxOf_cons]
      simp only [beq_eq_false_iff_ne.mpr n1, beq_eq_false_iff_ne.mpr n2, cond_false]
      omega
    · injection e with e1 e2
      subst e1; subst e2
      rw [List.idxOf_cons, List.idxOf_cons]
      simp only [beq_self_eq_true, cond_true, beq_eq_false_iff_ne.mpr hne, cond_false]
      omega
theorem acyc_iff (h : Vals vs) {S : SS} (gr : Graph (preK vs) S) (ho : ∀ j, j ∈ S.ord ↔ j ∈ (presentOf vs).map sgn) : Acyc S ↔ ¬ ((leadOf (runsOf vs)).length < (runsOf vs).length) := by
  obtain ⟨rest, hL, hr⟩ := lead_led (runsOf vs)
  have hord : ∀ k, k ∈ S.ord ↔ ∃ c, c ∈ vs ∧ k = sgn c := fun k => by
    rw [ho, List.mem_map]
    constructor
    · rintro ⟨c, hc, rfl⟩; exact ⟨c, (mem_present h).mp hc, rfl⟩
    · rintro ⟨c, hc, rfl⟩; exact ⟨c, (mem_present h).mpr hc, rfl⟩
  cases rest with
  | nil =>
    have e : runsOf vs = leadOf (runsOf vs) := by have := hL.e; rwa [List.append_nil] at this
    refine ⟨fun _ => by rw [← e]; exact Nat.lt_irrefl _, fun _ => ?_⟩
    have hn : (runsOf vs).Nodup := by rw [e]; exact hL.nd
    have hnK : ((runsOf vs).map sgn).Nodup := nd_map (fun x hx => h.b x ((runs_mem vs x).mp hx)) hn
    refine ⟨fun k => (runsOf vs).length - ((runsOf vs).map sgn).idxOf k, fun k hk s hs => ?_⟩
    obtain ⟨h1, h2⟩ := ((gr.su k hk).2 s).mp hs
    obtain ⟨c, hc, rfl⟩ := (hord k).mp hk
    obtain ⟨d, hd, rfl⟩ := (hord s).mp h1
    obtain ⟨hne, hsub⟩ := (preK_iff h hc hd).mp h2
    have hlt := nd_rankK hnK (fun q => hne (sgn_inj (h.b c hc) (h.b d hd) q)) (hsub.map sgn)
    have hd2 : ((runsOf vs).map sgn).idxOf (sgn d) < ((runsOf vs).map sgn).length := List.idxOf_lt_length_of_mem (List.mem_map.mpr ⟨d, (runs_mem vs d).mpr hd, rfl⟩)
    rw [List.length_map] at hd2
    show _ - _ < _ - _
    omega
  | cons r t =>
    have hlen : (leadOf (runsOf vs)).length < (runsOf vs).length := by
      have := congrArg List.length hL.e
      rw [List.length_append, List.length_cons] at this
      omega
    refine ⟨fun ⟨rank, hk⟩ => ?_, fun q => absurd hlen q⟩
    obtain ⟨x, hx, hxR, _, p1, p2⟩ := ring hL (runs_adj vs) (hr r t rfl)
    have hxv := (runs_mem vs x).mp hxR
    have hrv : r ∈ vs := (runs_mem vs r).mp (by rw [hL.e]; simp)
    have ox := (hord (sgn x)).mpr ⟨x, hxv, rfl⟩
    have or' := (hord (sgn r)).mpr ⟨r, hrv, rfl⟩
    have a1 := hk _ ox _ (((gr.su _ ox).2 _).mpr ⟨or', (preK_iff h hxv hrv).mpr p1⟩)
    have a2 := hk _ or' _ (((gr.su _ or').2 _).mpr ⟨ox, (preK_iff h hrv hxv).mpr p2⟩)
    omega
end
end Mine
end
section
open PySem PySem.W PyProof.Rows PySem.SeqAt
set_option maxHeartbeats 4000000
namespace Mine
section
variable {prog : Program} {w : World} {Γ : Fx} {σ : MS Ky} {A : Around} {env : Env} {α : Type} {s : Shared} {Q : Value → MS Ky → Prop} {QB : Bool → MS Ky → Prop} {QU : Unit → MS Ky → Prop} {QF : Flow → MS Ky → Prop}
variable {p : Program} {loose : List Str} {mg mb : Str → Option Value} {t u v : Tok} {n : Nat} {l : Addr} {a : Ad} {S : SS} {k : Ky}
theorem o_two {c : Code} {cc : Value} {X : MS Ky → Prop} {Q0 : Value → (Addr → Option (O Ky)) → Prop} {X0 : (Addr → Option (O Ky)) → Prop} {m : Str → Option V} {hp h1 hr : Addr → Option (O Ky)} (t : Two hp h1 hr)
    (h : ∀ B' sub', mcodeO (kyK prog w) { Γ with B := B', sub := sub' } A cc c (fun v σ₁ => σ₁.m = m ∧ Q0 v σ₁.h) (fun σ₁ => σ₁.m = m ∧ X0 σ₁.h) ⟨m, h1⟩) (k : ∀ v hp' h1', Two hp' h1' hr → Q0 v h1' → Q v ⟨m, hp'⟩) (kx : ∀ hp' h1', Two hp' h1' hr → X0 h1' → X ⟨m, hp'⟩) :
    mcodeO (kyK prog w) Γ A cc c Q X ⟨m, hp⟩ := by
  have key : ∀ {σ₁ σ' : MS Ky}, σ₁.m = m → Aside ⟨m, hp⟩ h1 σ₁ σ' → Two σ'.h σ₁.h hr ∧ σ'.m = m := fun {σ₁ σ'} e as =>
    ⟨⟨as.s1, fun b o q => as.s2 b o (t.2.1 b o q) (t.2.2 b (by rw [q]; exact nofun)), fun b hb => as.n b (by
      cases z : hr b with
      | none => exact absurd z hb
      | some o => show hp b ≠ none; rw [t.2.1 b o z]; exact nofun) (t.2.2 b hb)⟩, as.m.trans e⟩
  refine mcodeO_mono (o_aside (σ := ⟨m, hp⟩) (h0 := h1) t.1 h) ?_ ?_
  · rintro v ⟨m', h'⟩ ⟨σ₁, ⟨e, q⟩, as⟩
    obtain ⟨tw, em⟩ := key e as
    have em : m' = m := em
    subst em
    exact k v _ _ tw q
  · rintro ⟨m', h'⟩ ⟨σ₁, ⟨e, q⟩, as⟩
    obtain ⟨tw, em⟩ := key e as
    have em : m' = m := em
    subst em
    exact kx _ _ tw q
theorem law_sorter {rest : List Stmt} {fa Dq Dn Dr : Addr} {cdv : Value} {hp : Addr → Option (O Ky)} {tx : List Nat} {vs : List Int} {G : List (Ky × Addr × List Ky)} {ep : Nat} {outer : List Env} (hV : Vals vs) (dn : hp Dn = some (.dict (entG G) ep)) (gl : ∀ g ∈ G, hp g.2.1 = some (.list (g.2.2.map kyV))) (eG : G.map (fun g => (g.1, g.2.2)) = kNeeds vs (presentOf vs))
    (F : Fits Γ A) (hfr : A.frames = some (lenv Γ.L fa cdv :: outer)) (Z : Here (Mine.hd1.heap_1 w.params) p loose mg mb Γ.base) (hA : Dp A (n + 6))
    (k : ∀ (a : Ad) (hq h1 : Addr → Option (O Ky)) σ', Fit σ' (names [("text", .str (T tx)), ("present", .ref Dq), ("runs", .ref Dr), ("sorter", .ref a.x), ("held", .bool (decide ((leadOf (runsOf vs)).length < (runsOf vs).length)))]) hq → Two hq h1 hp → Rep a (build G).prep h1 →
      mwp (kyK prog w) Γ A (execs rest (lenv Γ.L fa cdv)) QF σ') :
    mwp (kyK prog w) Γ A (execs ((lawBody.drop 24).take 3 ++ rest) (lenv Γ.L fa cdv)) QF ⟨names [("text", .str (T tx)), ("present", .ref Dq), ("needs", .ref Dn), ("runs", .ref Dr)], hp⟩ := by
  have hh : A.handled = none := hA.hd
  obtain ⟨hGn, hG1, hGp⟩ := kNeeds_ok hV eG
  have ndL : ((presentOf vs).map sgn).Nodup := nd_map (pres_b hV) (present_nd vs)
  obtain ⟨si, hord, hrn, gr⟩ := build_SI (pre := preK vs) (fun g hg => (hGn g hg).1) hG1 ndL hGp
  have hac := acyc_iff hV gr hord
  have hol : (build G).ord.length ≤ 64 := by
    have := List.Perm.length_eq ((List.perm_ext_iff_of_nodup gr.nd ndL).mpr hord)
    rw [this, List.length_map]; exact present_len vs
  have hpl : (presentOf vs).length ≤ 64 := present_len vs
  refine m_cons ?_
  refine m_AssignName (hs := by rfl) ?_
  refine m_Call (he := by rfl) ?_
  refine m_Name (hd := by decide) ?_
  first | refine m_gK (e := by k_is) (hk := by rfl) (hl := by rfl) (he := by rfl) (by assumption) ?_ | refine m_gB (e := by k_is) (hv := by rfl) (hn := by decide) (hk := by rfl) (hl := by rfl) (he := by rfl) (hf := by rfl) (by assumption) ?_
  refine m_callZ (hk := by k_is) (he := by rfl) (hplain := by rfl) (by assumption) ?_
  refine m_splE (he := by rfl) ?_
  refine evR (EvP.nm (v := .ref _) (by rfl)) ?_
  refine m_splE0 ?_
  refine m_sorter (G := G) dn (fun g hg => ⟨gl g hg, Nat.le_trans (hGn g hg).2 (by decide)⟩) ?_ Z (hA.le (by lia) : Dp A (n + 5)) fun a h1 hq r tw => ?_
  · have := congrArg List.length hG1
    rw [List.length_map, List.length_map] at this
    have := present6 hV
    lia
  have hx := tw.1 _ _ r.hx
  have hdx := tw.1 _ _ r.hdx
  unfold fieldsOf at hdx
  refine m_str' (hk := by rfl) (hl := by rfl) (he := by rfl) ?_
  refine m_AssignE (hk := by rfl) (he := by rfl) (hs := by rfl) EvP.bool ?_
  refine m_cons ?_
  refine m_weak (m' := names [("text", .str (T tx)), ("present", .ref Dq), ("runs", .ref Dr), ("sorter", .ref a.x), ("held", .bool false)]) (h' := hq) (by exact Mine.Sub.of rfl) (fun _ _ e => e) ?_
  refine m_TryO (hk := by rfl) (hge := by rfl) (C := 99) (bmB := [.type "ValueError", .type "Exception", .type "BaseException", .type "object"]) (newId := "ValueError.__new__") (X := fun σ' => ∃ (hq' h1' : Addr → Option (O Ky)) (a' : Ad), a'.x = a.x ∧ Fit σ' (names [("text", .str (T tx)), ("present", .ref Dq), ("runs", .ref Dr), ("sorter", .ref a.x)]) hq' ∧ Two hq' h1' hp ∧ Rep a' (build G).prep h1' ∧ ¬ Acyc (build G)) Z F hfr rfl (o_cons1 (o_MethodStmt (he := by rfl) (hi := by rfl) (hs := by rfl) (KK := Mine.hd1.heap_1 w.params) ?_ Z)) ?_ (by k_is) (by k_exc) rfl
  · refine evR (EvP.nm (v := .ref _) (by rfl)) ?_
    refine m_method (hf := by k_is) (hg := by k_is) (ht := by k_is) (Here.X (by assumption)) (by walk_at "hl") (by walk_at "hl") (by rfl) ?_
    refine ⟨by k_is, ?_⟩
    refine o_two (Q0 := fun v h1' => Acyc (build G) ∧ ∃ a', a'.x = a.x ∧ Rep a' (build G).prep h1') (X0 := fun h1' => ¬ Acyc (build G) ∧ ∃ a', a'.x = a.x ∧ Rep a' (build G).prep h1') tw (fun B' sub' => c_prepareO r hrn (fun k hk s hs => (((gr.su k hk).2 s).mp hs).1) (by lia) (by exact F) (by exact Z) (by exact (hA.le (by lia) : Dp A (n + 2))) (fun ha a' h' ea r' => ⟨rfl, ha, a', ea, r'⟩) fun ha a' h' ea r' => ⟨rfl, ha, a', ea, r'⟩) ?_ ?_
    · rintro v hq' h1' tw' ⟨ha, a', ea, r'⟩
      skip
      refine k a' hq' h1' _ ?_ tw' r'
      rw [ea, decide_eq_false (hac.mp ha)]
      exact ⟨by exact Mine.Sub.of rfl, fun _ _ e => e⟩
    · rintro hq' h1' tw' ⟨ha, a', ea, r'⟩
      exact ⟨hq', h1', a', ea, by exact ⟨by exact Mine.Sub.of rfl, fun _ _ e => e⟩, tw', r', ha⟩
  · rintro e σ' ⟨hq', h1', a', ea, hf, tw', r', ha⟩
    refine m_fit hf ?_
    clear hf
    refine m_AssignE (hk := by rfl) (he := by rfl) (hs := by rfl) EvP.bool ?_
    refine m_nil ?_
    skip
    refine k a' hq' h1' _ ?_ tw' r'
    rw [ea, decide_eq_true (Classical.byContradiction fun q => ha (hac.mpr q))]
    exact ⟨by exact Mine.Sub.of rfl, fun _ _ e => e⟩
end
end Mine
end
section
open PySem PySem.W PyProof.Rows PySem.SeqAt
set_option maxHeartbeats 4000000
namespace Mine
noncomputable def whBody : List Stmt := match lawBody.drop 28 with
  | .While _ b _ _ :: _ => b
  | _ => []
structure HR (hp hr : Addr → Option (O Ky)) (Dt : Addr) (as : List Addr) (ks : List Ky) : Prop where
  sub : ∀ b o, hp b = some o → hr b = some o
  dt : hr Dt = some (.list (as.map .ref))
  rows : TRows hr as ks
noncomputable abbrev wNames (tx : List Nat) (Dq Dr x : Addr) (hb : Bool) (Dt : Addr) : Str → Option V := names [("text", .str (T tx)), ("present", .ref Dq), ("runs", .ref Dr), ("sorter", .ref x), ("held", .bool hb), ("told", .ref Dt)]
inductive HJ (tx : List Nat) (Dq Dr Dt : Addr) (hb : Bool) (a : Ad) (pre : Ky → Ky → Bool) (left l todo PK : List Ky) (hr9 : Addr → Option (O Ky)) (σ' : MS Ky) : Prop
  | mk (hp9 h9 : Addr → Option (O Ky)) (S9 : SS) (hf : Fit σ' (wNames tx Dq Dr a.x hb Dt) hp9) (tw : Two hp9 h9 hr9) (r : Rep a S9 h9) (mi : MI pre S9 left l todo) (o9 : ∀ k ∈ S9.ord, k ∈ PK)
section
variable {prog : Program} {w : World} {Γ : Fx} {σ : MS Ky} {A : Around} {env : Env} {α : Type} {s : Shared} {Q : Value → MS Ky → Prop} {QB : Bool → MS Ky → Prop} {QU : Unit → MS Ky → Prop} {QF : Flow → MS Ky → Prop}
variable {p : Program} {loose : List Str} {mg mb : Str → Option Value} {t u v : Tok} {n : Nat} {l : Addr} {a : Ad} {S : SS} {k : Ky}
theorem law_hand {fa T' Dt Dq Dr : Addr} {cdv : Value} {tx : List Nat} {hb : Bool} {pre : Ky → Ky → Bool} {left l PK : List Ky} {as : List Addr} {ks : List Ky} {hp hp9 h9 hr9 : Addr → Option (O Ky)} (hPK : PK.length ≤ 64)
    (tw9 : Two hp9 h9 hr9) (r9 : Rep a S h9) (mi : MI pre S left l l) (l6 : ∀ k ∈ left, k ∈ PK) (o6 : ∀ k ∈ S.ord, k ∈ PK) (hr : HR hp hr9 Dt as ks) (hT9 : hr9 T' = some (.tuple (l.map kyV)))
    (Z : Here (Mine.hd1.heap_1 w.params) p loose mg mb Γ.base) (hA : Dp A (n + 6)) :
    mwp (kyK prog w) Γ A (execs (whBody.drop 2) (lenv Γ.L fa cdv)) (fun f σ' => f = .next ∧ ∃ hp9 h9 S9, Fit σ' (wNames tx Dq Dr a.x hb Dt) hp9 ∧ Two hp9 h9 hr9 ∧ Rep a S9 h9 ∧ MI pre S9 left l [] ∧ (∀ k ∈ S9.ord, k ∈ PK))
      ⟨putS (wNames tx Dq Dr a.x hb Dt) "handed" (.ref T'), hp9⟩ := by
  have hh : A.handled = none := hA.hd
  have ml := mi.ll
  refine m_cons (m_For (hs := by intro _; rfl) (hk := by rfl) (hl := by rfl) (he := by rfl) ?_)
  refine evR (EvP.nm (v := .ref _) (by rfl)) ?_
  refine ⟨_, _, _, yields_tuple hh (xs := l.map kyV), fun i σ' => HJ tx Dq Dr Dt hb a pre left l (l.drop i) PK hr9 σ',
    ⟨hp9, h9, _, by exact ⟨by exact Mine.Sub.of rfl, fun _ _ e => e⟩, tw9, r9, by simpa using mi, o6⟩, ?_, ?_, ?_⟩
  · rintro i σ' ⟨hp9, h9, S9, hf, tw, _, _, _⟩; exact hf.2 _ _ (tw.2.1 _ _ hT9)
  · clear tw9 r9 mi o6 hp9 h9
    rintro i y σ' I ob hb2 hy ⟨hp9, h9, S9, hf, tw9, r9, mi, o9⟩
    obtain ⟨j, hj, rfl⟩ := map_get hy
    refine m_fitS hf ?_
    clear hf
    have hdrop : l.drop i = j :: l.drop (i + 1) := by
      have hi := List.getElem?_eq_some_iff.mp hj
      rw [List.drop_eq_getElem_cons hi.1, hi.2]
    rw [hdrop] at mi
    have hx := tw9.1 _ _ r9.hx
    have hdx := tw9.1 _ _ r9.hdx
    unfold fieldsOf at hdx
    obtain ⟨rr, err, nrr, mrr⟩ := mi.rd
    have hjl := mi.tl j List.mem_cons_self
    have hjo := mi.lf j ((ml j).mp hjl).1
    have hrr6 : rr.length ≤ PK.length := nodup_lenG _ _ nrr fun k hk => l6 k ((mrr k).mp hk).1
    have hsu6 : (S9.su j).length ≤ PK.length := nodup_lenG _ _ (mi.g.su j hjo).1 fun k hk => o9 k (((mi.g.su j hjo).2 k).mp hk).1
    refine m_abs fun Zq0 hZq0 => ?_
    refine m_cons ?_
    refine m_Expr (hi := by rfl) (hs := by rfl) ?_
    refine m_Method (he := by rfl) ?_
    refine evR (EvP.nm (v := .ref _) (by rfl)) ?_
    refine m_method (hf := by k_is) (hg := by k_is) (ht := by k_is) (Here.X (by assumption)) (by walk_at "hl") (by walk_at "hl") (by rfl) ?_
    refine m_callZ (hk := by k_is) (he := by rfl) (hplain := by rfl) (by assumption) ?_
    refine m_splE (he := by rfl) ?_
    refine evS (EvP.nm (v := .str _) (by rfl)) fun _ => ?_
    refine m_splE0 ?_
    refine m_two (Q0 := fun v h1'' => Rep a (doneOne S9 j) h1'') tw9 (fun B' sub' => m_code (c_done (k := j) r9 err hjo (mi.out j List.mem_cons_self) (by omega) (fun s hs => (((mi.g.su j hjo).2 s).mp hs).1) (by exact Z) (by exact (hA.le (by omega) : Dp A n)) fun h' r' => ⟨rfl, r'⟩)) ?_
    rintro v hp11 h11 tw11 r11
    refine m_nil ?_
    refine hZq0 _ _ ?_
    skip
    exact ⟨hp11, h11, doneOne S9 j, by exact ⟨by exact Mine.Sub.of rfl, fun _ _ e => e⟩, tw11, r11, mi.done, fun k hk => o9 k (by rw [← show (doneOne S9 j).ord = S9.ord from tell_ord _ _]; exact hk)⟩
  · rintro σ' ⟨hp9, h9, S9, hf, tw9, r9, mi, o9⟩
    rw [List.length_map, List.drop_length] at mi
    refine m_nil ?_
    skip
    exact ⟨rfl, hp9, h9, S9, hf, tw9, r9, mi, o9⟩
theorem law_turn {fa Dt Dq Dr : Addr} {cdv : Value} {tx : List Nat} {hb : Bool} {vs done : List Int} {r : Int} {PK : List Ky} {as : List Addr} {ks : List Ky} {hp hp6 h1 hr5 : Addr → Option (O Ky)} (hPK : PK.length ≤ 64) (hV : Vals vs) (hrb : 0 ≤ r ∧ r < 64)
    (tw6 : Two hp6 h1 hr5) (rp : Rep a S h1) (si : SI (preK vs) S (leftK vs done)) (l6 : ∀ k ∈ leftK vs done, k ∈ PK) (o6 : ∀ k ∈ S.ord, k ∈ PK) (hr : HR hp hr5 Dt as ks) (hDt0 : hp Dt = none) (has : as.length ≤ 100)
    (hrd : S.rd = some [sgn r]) (Z : Here (Mine.hd1.heap_1 w.params) p loose mg mb Γ.base) (hA : Dp A (n + 6)) :
    mwp (kyK prog w) Γ A (execs whBody (lenv Γ.L fa cdv)) (fun f σ' => f = .next ∧ ∃ hp9 h9 hr9 S9 T', Fit σ' (wNames tx Dq Dr a.x hb Dt) hp9 ∧ Two hp9 h9 hr9 ∧ Rep a S9 h9 ∧ SI (preK vs) S9 (leftK vs (done ++ [r])) ∧ (∀ k ∈ S9.ord, k ∈ PK) ∧ HR hp hr9 Dt (as ++ [T']) (ks ++ [sgn r]))
      ⟨wNames tx Dq Dr a.x hb Dt, hp6⟩ := by
  have hh : A.handled = none := hA.hd
  have ml : ∀ k, k ∈ [sgn r] ↔ (k ∈ leftK vs done ∧ ∀ i ∈ leftK vs done, preK vs i k = false) := by
    obtain ⟨l, e, _, h2⟩ := si.rd
    rw [hrd] at e; cases e; exact h2
  have hx := tw6.1 _ _ rp.hx
  have hdx := tw6.1 _ _ rp.hdx
  unfold fieldsOf at hdx
  refine m_abs fun Zq0 hZq0 => ?_
  refine m_cons ?_
  refine m_AssignName (hs := by rfl) ?_
  refine m_Method (he := by rfl) ?_
  refine evR (EvP.nm (v := .ref _) (by rfl)) ?_
  refine m_method (hf := by k_is) (hg := by k_is) (ht := by k_is) (Here.X (by assumption)) (by walk_at "hl") (by walk_at "hl") (by rfl) ?_
  refine m_callZ0 (hk := by k_is) (by assumption) ?_
  refine m_two (Q0 := fun v h1'' => ∃ T h', v = .ref T ∧ h1'' = put h' T (.tuple ([sgn r].map kyV)) ∧ Rep a (readyS S [sgn r]) h' ∧ h' T = none) tw6 (fun B' sub' => m_code (c_get_ready rp hrd (by show 1 ≤ 1000; decide) (fun k hk => si.lf k ((ml k).mp hk).1) (by exact Z) (by exact (hA.le (by omega) : Dp A n)) fun T h' r' hT _ => ⟨rfl, T, h', rfl, rfl, r', hT⟩)) ?_
  rintro v hp7 _ tw7 ⟨T', h7, rfl, rfl, r7, hT7⟩
  have hrT : hr5 T' = none := by
    cases z : hr5 T' with
    | none => rfl
    | some o => have := tw7.2.2 T' (by rw [z]; exact nofun); rw [put_same] at this; cases this
  have tw8 : Two hp7 h7 (put hr5 T' (.tuple ([sgn r].map kyV))) := ⟨fun b o e => tw7.1 b o (sub_put hT7 e), fun b o e => by
    by_cases q : b = T'
    · subst q; rw [put_same] at e; cases e; exact tw7.1 _ _ put_same
    · rw [put_other q] at e; exact tw7.2.1 b o e, fun b hb => by
    by_cases q : b = T'
    · rw [q]; exact hT7
    · rw [put_other q] at hb; have := tw7.2.2 b hb; rw [put_other q] at this; exact this⟩
  have hpDt := tw7.2.1 _ _ hr.dt
  have nT : Dt ≠ T' := fun z => by have := hr.dt; rw [z, hrT] at this; cases this
  have h7Dt : h7 Dt = none := by
    have := tw7.2.2 Dt (by rw [hr.dt]; exact nofun)
    rwa [put_other nT] at this
  have tw9 := tw8.put (X := Dt) (o := .list (as.map V.ref ++ [V.ref T'])) h7Dt
  have hr9 : HR hp (put (put hr5 T' (.tuple ([sgn r].map kyV))) Dt (.list (as.map V.ref ++ [V.ref T']))) Dt (as ++ [T']) (ks ++ [sgn r]) := by
    refine ⟨fun b o e => (put_other (ne_none e hDt0)).trans (sub_put hrT (hr.sub b o e)), by rw [put_same, List.map_append]; rfl, ?_⟩
    refine TRows.snoc ?_ ((put_other (Ne.symm nT)).trans put_same)
    refine (hr.rows.fresh (o := .tuple ([sgn r].map kyV)) hrT).mono fun b hb o e => ?_
    obtain ⟨k, ek⟩ := hr.rows.mem hb
    exact (put_other (fun z => by rw [z, hr.dt] at ek; cases ek)).trans e
  have hT9 : put (put hr5 T' (.tuple ([sgn r].map kyV))) Dt (.list (as.map V.ref ++ [V.ref T'])) T' = some (.tuple ([sgn r].map kyV)) := (put_other (Ne.symm nT)).trans put_same
  refine m_str' (hk := by rfl) (hl := by rfl) (he := by rfl) ?_
  refine m_cons ?_
  refine m_Expr (hi := by rfl) (hs := by rfl) ?_
  refine m_Method (he := by rfl) ?_
  refine evR (EvP.nm (v := .ref _) (by rfl)) ?_
  refine m_methList (by walk_at "hl") PySem.F.slot_list_append PySem.F.type_list_append ?_
  refine m_callB (he := by rfl) (hplain := by rfl) ?_
  refine m_splE (he := by rfl) ?_
  refine evR (EvP.nm (v := .ref _) (by rfl)) ?_
  refine m_splE0 ?_
  refine m_append (x := .ref T') (xs := as.map V.ref) hpDt rfl (by rw [List.length_map]; exact Nat.le_trans has (by decide)) ?_
  skip
  refine m_weak (m' := putS (wNames tx Dq Dr a.x hb Dt) "handed" (.ref T')) (h' := put hp7 Dt (.list (as.map V.ref ++ [V.ref T']))) (fun _ _ e => e) (fun _ _ e => e) ?_
  revert tw9 hr9 hT9
  generalize put hp7 Dt (.list (as.map V.ref ++ [V.ref T'])) = hp9
  generalize put (put hr5 T' (.tuple ([sgn r].map kyV))) Dt (.list (as.map V.ref ++ [V.ref T'])) = hr9
  intro tw9 hr9' hT9
  have mi0 := si.ready hrd
  refine (m_post (law_hand (fa := fa) (cdv := cdv) (n := n) hPK tw9 r7 mi0 l6 o6 hr9' hT9 Z hA) ?_)
  rintro f σ' ⟨rfl, hp9, h9, S9, hf, tw9, r9, mi, o9⟩
  skip
  refine ⟨σ', fun _ _ e => e, fun _ _ e => e, hZq0 _ _ ⟨rfl, hp9, h9, hr9, S9, T', hf, tw9, r9, mi.end ⟨left_nd hV, fun k => ?_⟩, o9, hr9'⟩⟩
  rw [mem_leftK hV, mem_leftK hV]
  constructor
  · rintro ⟨c, h1, h2, rfl⟩
    refine ⟨⟨c, h1, fun q => h2 (List.mem_append_left _ q), rfl⟩, fun q => h2 ?_⟩
    have := sgn_inj (hV.b c h1) hrb (List.mem_singleton.mp q)
    rw [this]; simp
  · rintro ⟨⟨c, h1, h2, rfl⟩, h3⟩
    refine ⟨c, h1, fun q => ?_, rfl⟩
    rcases List.mem_append.mp q with q | q
    · exact h2 q
    · rw [List.mem_singleton.mp q] at h3; exact h3 List.mem_cons_self
end
end Mine
end
section
open PySem PySem.W PyProof.Rows PySem.SeqAt
set_option maxHeartbeats 4000000
namespace Mine
section
variable {prog : Program} {w : World} {Γ : Fx} {σ : MS Ky} {A : Around} {env : Env} {α : Type} {s : Shared} {Q : Value → MS Ky → Prop} {QB : Bool → MS Ky → Prop} {QU : Unit → MS Ky → Prop} {QF : Flow → MS Ky → Prop}
variable {p : Program} {loose : List Str} {mg mb : Str → Option Value} {t u v : Tok} {n : Nat} {l : Addr} {a : Ad} {S : SS} {k : Ky}
inductive WJ (vs : List Int) (PK : List Ky) (tx : List Nat) (Dq Dr x : Addr) (hb : Bool) (Dt : Addr) (hp : Addr → Option (O Ky)) (m : Nat) (σ' : MS Ky) : Prop
  | mk (i : Nat) (a : Ad) (hp5 h1 hr5 : Addr → Option (O Ky)) (S : SS) (as : List Addr) (ea : a.x = x) (hf : Fit σ' (wNames tx Dq Dr x hb Dt) hp5) (tw : Two hp5 h1 hr5) (r : Rep a S h1) (si : SI (preK vs) S (leftK vs ((leadOf (runsOf vs)).take i))) (o6 : ∀ k ∈ S.ord, k ∈ PK) (hr : HR hp hr5 Dt as (((leadOf (runsOf vs)).take i).map sgn)) (hi : i ≤ (leadOf (runsOf vs)).length) (em : m = (leadOf (runsOf vs)).length - i)
theorem law_while {rest : List Stmt} {fa Dq Dr : Addr} {cdv : Value} {tx : List Nat} {hb : Bool} {vs : List Int} {hp hq h1 : Addr → Option (O Ky)} (hV : Vals vs) (tw : Two hq h1 hp) (r : Rep a S h1) (si : SI (preK vs) S (leftK vs [])) (o6 : ∀ k ∈ S.ord, k ∈ (presentOf vs).map sgn)
    (Z : Here (Mine.hd1.heap_1 w.params) p loose mg mb Γ.base) (hA : Dp A (n + 6))
    (k : ∀ (Dt : Addr) (as : List Addr) (hp' hr' : Addr → Option (O Ky)) σ', Fit σ' (wNames tx Dq Dr a.x hb Dt) hp' → (∀ b o, hr' b = some o → hp' b = some o) → HR hp hr' Dt as ((leadOf (runsOf vs)).map sgn) →
      mwp (kyK prog w) Γ A (execs rest (lenv Γ.L fa cdv)) QF σ') :
    mwp (kyK prog w) Γ A (execs ((lawBody.drop 27).take 2 ++ rest) (lenv Γ.L fa cdv)) QF ⟨names [("text", .str (T tx)), ("present", .ref Dq), ("runs", .ref Dr), ("sorter", .ref a.x), ("held", .bool hb)], hq⟩ := by
  have hh : A.handled = none := hA.hd
  have hPK : ((presentOf vs).map sgn).length ≤ 64 := by rw [List.length_map]; exact present_len vs
  have lPK : ∀ d, ∀ k ∈ leftK vs d, k ∈ (presentOf vs).map sgn := fun d k hk => by
    obtain ⟨c, h1, h2, rfl⟩ := (mem_leftK hV).mp hk
    exact List.mem_map.mpr ⟨c, (mem_present hV).mpr h1, rfl⟩
  have hll : (leadOf (runsOf vs)).length ≤ 64 := by
    have h1 : (leadOf (runsOf vs)).length ≤ (runsOf vs).length := (List.takeWhile_sublist _).length_le
    have h2 := runs_len vs []
    have h3 := hV.hi
    simp only [List.length_nil] at h2
    have : (runsOf vs).length ≤ vs.length := by unfold runsOf; lia
    lia
  refine m_cons ?_
  refine m_AssignName (hs := by rfl) ?_
  refine m_List ?_
  refine m_splE0 ?_
  refine m_newList .nil (by decide) fun Dt hDt => ?_
  have hDt : hq Dt = none := hDt
  refine m_str' (hk := by rfl) (hl := by rfl) (he := by rfl) ?_
  skip
  have hDp : hp Dt = none := none_sub tw.2.1 hDt
  have tw0 := tw.put (o := .list []) (none_sub tw.1 hDt)
  have hr0 : HR hp (put hp Dt (.list [])) Dt [] [] := ⟨fun b o e => sub_put hDp e, put_same, .nil⟩
  refine m_weak (m' := wNames tx Dq Dr a.x hb Dt) (h' := put hq Dt (.list [])) (by exact Mine.Sub.of rfl) (fun _ _ e => e) ?_
  refine m_cons ?_
  refine m_then (P := fun σ' => ∃ (as : List Addr) (hp' hr' : Addr → Option (O Ky)), Fit σ' (wNames tx Dq Dr a.x hb Dt) hp' ∧ (∀ b o, hr' b = some o → hp' b = some o) ∧ HR hp hr' Dt as ((leadOf (runsOf vs)).map sgn)) ?_ ?_
  · refine m_While (I := WJ vs ((presentOf vs).map sgn) tx Dq Dr a.x hb Dt hp) (n := (leadOf (runsOf vs)).length) ⟨0, a, _, h1, _, S, [], rfl, by exact ⟨by exact Mine.Sub.of rfl, fun _ _ e => e⟩, tw0, r, si, o6, hr0, Nat.zero_le _, rfl⟩ ?_
    clear tw0 hr0 tw si r o6 h1
    rintro m5 σ' ⟨i, a5, hp5, h1, hr5, S, as, ea, hf, tw, r, si, o6, hr, hi, rfl⟩
    rw [← ea]
    rw [← ea] at hf
    refine m_fit hf ?_
    clear hf
    obtain ⟨l, hrd, nl, ml⟩ := si.rd
    have hl6 : l.length ≤ 64 := Nat.le_trans (nodup_lenG _ _ nl fun k hk => lPK _ k ((ml k).mp hk).1) hPK
    have hx := tw.1 _ _ r.hx
    have hdx := tw.1 _ _ r.hdx
    unfold fieldsOf at hdx
    refine m_abs fun Zq0 hZq0 => ?_
    refine m_isValue (he := by rfl) ?_
    refine m_Method (he := by rfl) ?_
    refine evR (EvP.nm (v := .ref _) (by rfl)) ?_
    refine m_method (hf := by k_is) (hg := by k_is) (ht := by k_is) (Here.X (by assumption)) (by walk_at "hl") (by walk_at "hl") (by rfl) ?_
    refine m_callZ0 (hk := by k_is) (by assumption) ?_
    refine m_two (Q0 := fun v h1' => v = .bool (decide (S.fi < S.po) || !l.isEmpty) ∧ h1' = h1) tw (fun B' sub' => m_code (c_is_active r hrd (by lia) (by exact Z) (by exact (hA.le (by lia) : Dp A n)) ⟨rfl, rfl, rfl⟩)) ?_
    rintro v hp6 h1' tw6 ⟨rfl, rfl⟩
    rw [si.fp, decide_eq_false (Int.lt_irrefl _), Bool.false_or]
    refine m_trBool ?_
    refine hZq0 _ _ ?_
    have hal : as.length = i := by
      have := hr.rows.length
      rw [List.length_map, List.length_take] at this
      lia
    refine ite_of (fun e1 => ?_) fun e1 => ?_
    · have hlne : l ≠ [] := by intro q; rw [q] at e1; cases e1
      have hilt : i < (leadOf (runsOf vs)).length := by
        apply Classical.byContradiction
        intro q
        have : i = (leadOf (runsOf vs)).length := by lia
        subst this
        rw [List.take_length] at ml
        exact hlne (ready_end hV ml)
      obtain ⟨r', hr'⟩ : ∃ r', (leadOf (runsOf vs))[i]? = some r' := ⟨_, List.getElem?_eq_getElem hilt⟩
      have el := ready_at hV hr' nl ml
      subst el
      have hrb : 0 ≤ r' ∧ r' < 64 := hV.b r' ((runs_mem vs r').mp ((List.takeWhile_sublist _).subset (List.mem_of_getElem? hr')))
      have hDt' : hp5 Dt = hp5 Dt := rfl
      refine m_post (law_turn (fa := fa) (cdv := cdv) (n := n) hPK hV hrb tw6 r si (lPK _) o6 hr hDp (by lia) hrd Z hA) ?_
      rintro fl σ' ⟨rfl, hp9, h9, hr9, S9, T', hf, tw9, r9, si9, o9, hr9'⟩
      skip
      refine ⟨σ', fun _ _ e => e, fun _ _ e => e, _, ?_, i + 1, a5, hp9, h9, hr9, S9, as ++ [T'], rfl, hf, tw9, r9, ?_, o9, ?_, hilt, rfl⟩
      · lia
      · rw [take_snoc hr']; exact si9
      · rw [take_snoc hr', List.map_append]; exact hr9'
    · have hlnil : l = [] := by cases l with | nil => rfl | cons a r => exact absurd rfl e1
      subst hlnil
      have hie : i = (leadOf (runsOf vs)).length := by
        apply Classical.byContradiction
        intro q
        have hilt : i < (leadOf (runsOf vs)).length := by lia
        have := ready_at hV (List.getElem?_eq_getElem hilt) nl ml
        cases this
      subst hie
      rw [List.take_length] at hr
      refine m_nil ?_
      refine ⟨rfl, as, hp6, hr5, by exact ⟨by exact Mine.Sub.of rfl, fun _ _ e => e⟩, tw6.2.1, hr⟩
  · rintro σ' ⟨as, hp', hr', hf, h2, h3⟩
    exact k Dt as hp' hr' σ' hf h2 h3
end
end Mine
end
section
open PySem PySem.W PyProof.Rows PySem.SeqAt
set_option maxHeartbeats 4000000
namespace Mine
structure ESt (L Dq Dv Dc Dl Dr Dt : Addr) (vs : List Int) (as : List Addr) (v2 v3 : Option V) (hp : Addr → Option (O Ky)) : Prop where
  cs : Cs L (some (.str (T codes))) v2 v3 (some (.ref Dv)) (some (.ref Dc)) (some (.ref Dl)) hp
  dv : hp Dv = some (.list (vs.map V.int))
  dp : hp Dq = some (.list ((presentOf vs).map V.int))
  dc : ∃ ep, hp Dc = some (.dict (kCounts vs (presentOf vs)) ep)
  dr : hp Dr = some (.list ((runsOf vs).map V.int))
  dl : hp Dl = some (.list ((leadOf (runsOf vs)).map V.int))
  dt : hp Dt = some (.list (as.map .ref))
  rows : TRows hp as ((leadOf (runsOf vs)).map sgn)
section
variable {L Dq Dv Dc Dl Dr Dt X : Addr} {vs : List Int} {as : List Addr} {v2 v3 v : Option V} {hp : Addr → Option (O Ky)} {o : O Ky}
theorem ESt.set3 (s : ESt L Dq Dv Dc Dl Dr Dt vs as v2 v3 hp) : ESt L Dq Dv Dc Dl Dr Dt vs as v2 v (put hp (L + 1 + 1 + 1) (.cell v)) := by
  have c3 := s.cs.c3
  obtain ⟨e, q⟩ := s.dc
  exact ⟨s.cs.s3, put_diff s.dv c3 (by intro q; cases q), put_diff s.dp c3 (by intro q; cases q), ⟨e, put_diff q c3 (by intro q; cases q)⟩, put_diff s.dr c3 (by intro q; cases q), put_diff s.dl c3 (by intro q; cases q), put_diff s.dt c3 (by intro q; cases q), s.rows.mono fun a ha o e => by
    obtain ⟨k, ek⟩ := s.rows.mem ha
    rw [ek] at e; cases e
    exact put_diff ek c3 (by intro q; cases q)⟩
end
inductive TJ (hp : Addr → Option (O Ky)) (ks : List Ky) (i : Nat) (ys : List V) (h' : Addr → Option (O Ky)) : Prop
  | mk (bs : List Addr) (e : ys = bs.map V.ref) (el : bs.length = i) (rows : TRows h' bs (ks.take i)) (sub : ∀ b o, hp b = some o → h' b = some o)
theorem lead_len {vs : List Int} (hV : Vals vs) : (leadOf (runsOf vs)).length ≤ 6 ∧ (runsOf vs).length ≤ 6 ∧ ∀ x ∈ leadOf (runsOf vs), x ∈ vs := by
  have h1 : (leadOf (runsOf vs)).length ≤ (runsOf vs).length := (List.takeWhile_sublist _).length_le
  have h2 := runs_len vs []
  have h3 := hV.hi
  simp only [List.length_nil] at h2
  have h4 : (runsOf vs).length ≤ vs.length := by unfold runsOf; omega
  exact ⟨by omega, by omega, fun x hx => (runs_mem vs x).mp ((List.takeWhile_sublist _).subset hx)⟩
section
variable {prog : Program} {w : World} {Γ : Fx} {σ : MS Ky} {A : Around} {env : Env} {α : Type} {s : Shared} {Q : Value → MS Ky → Prop} {QB : Bool → MS Ky → Prop} {QU : Unit → MS Ky → Prop} {QF : Flow → MS Ky → Prop}
variable {p : Program} {loose : List Str} {mg mb : Str → Option Value} {t u v : Tok} {n : Nat} {l : Addr} {a : Ad} {S : SS} {k : Ky}
theorem law_told {rest : List Stmt} {fa Dq Dv Dc Dl Dr Dt x : Addr} {cdv : Value} {tx : List Nat} {vs : List Int} {as : List Addr} {v2 v3 : Option V} {hp : Addr → Option (O Ky)} (hV : Vals vs) (st : ESt Γ.L Dq Dv Dc Dl Dr Dt vs as v2 v3 hp)
    (Z : Here (Mine.hd1.heap_1 w.params) p loose mg mb Γ.base) (hA : Dp A (n + 6))
    (k : mwp (kyK prog w) Γ A (execs rest (lenv Γ.L fa cdv)) QF ⟨names [("text", .str (T tx)), ("present", .ref Dq), ("told", .ref Dt)], hp⟩) :
    mwp (kyK prog w) Γ A (execs ((lawBody.drop 29).take 1 ++ rest) (lenv Γ.L fa cdv)) QF ⟨wNames tx Dq Dr x (decide ((leadOf (runsOf vs)).length < (runsOf vs).length)) Dt, hp⟩ := by
  have hh : A.handled = none := hA.hd
  obtain ⟨hl1, hl2, hl3⟩ := lead_len hV
  have c1 := st.cs.c1
  have c6 := st.cs.c6
  refine m_cons ?_
  refine m_If ?_
  refine m_isBoolOp ?_
  refine m_orCons ?_
  refine m_abs fun Zq0 hZq0 => ?_
  refine m_isCompare (hm := by with_unfolding_all rfl) ?_
  refine evR (EvP.nm (v := .ref _) (by rfl)) ?_
  refine m_ListComp (hclos := by rfl) (hcell := by decide) (hkind := by rfl) (hnames := by decide) (hx := by rfl) (hs := by intro _; rfl) ?_
  refine evR (EvP.cell c6) ?_
  refine ⟨_, _, _, yields_list hh (xs := (leadOf (runsOf vs)).map V.int), by rw [List.length_map]; exact Nat.le_trans hl1 (by decide), TJ hp ((leadOf (runsOf vs)).map sgn), ⟨[], rfl, rfl, .nil, fun _ _ e => e⟩, ?_, ?_, ?_, ?_⟩
  · rintro i ys h' m ⟨bs, _, _, _, q⟩; exact q _ _ st.dl
  · rintro i ys h' ⟨bs, rfl, rfl, _⟩; rw [List.length_map]; exact Nat.le_refl _
  · rintro i y ys h' C I ob hb D od hd hy ⟨bs, rfl, el, rows, sub⟩
    obtain ⟨q, hq, rfl⟩ := map_get hy
    obtain ⟨kq, rfl, hk1, hk2⟩ := code_atI (hV.b q (hl3 q (List.mem_of_getElem? hq)))
    have c1' := sub _ _ c1
    unfold mTests
    skip
    refine itrue rfl ?_
    refine m_Tuple ?_
    refine m_splE (he := by rfl) ?_
    refine m_Sub ?_
    refine evS (EvP.cell c1') fun _ => ?_
    refine evI (EvP.nm (v := .int _) (by rfl)) fun _ => ?_
    refine m_atT (hs := by with_unfolding_all rfl) (k := kq) (by omega) hk2 fun _ => ?_
    refine m_splE0 ?_
    refine m_newTuple (xs := [.str (T [cod (kq : Nat)])]) (.cons ⟨_, rfl⟩ .nil) (by show 1 ≤ sizeLine; decide) fun D1 hD1 => ?_
    have hD1 : h' D1 = none := hD1
    skip
    refine ⟨.ref D1, rfl, bs ++ [D1], by simp, by simp [el], ?_, fun b o e => sub_put hD1 (sub b o e)⟩
    rw [← List.map_take, take_snoc hq, List.map_append]
    rw [← List.map_take] at rows
    exact (rows.fresh hD1).snoc put_same
  · rintro ys h' D ⟨bs, rfl, el, rows, sub⟩ hD
    rw [List.length_map, ← List.map_take, List.take_length] at rows
    have st2 : ESt Γ.L Dq Dv Dc Dl Dr Dt vs as v2 v3 (put h' D (.list (bs.map V.ref))) :=
      ⟨st.cs.mono fun b v e => sub_put hD (sub _ _ e), sub_put hD (sub _ _ st.dv), sub_put hD (sub _ _ st.dp), let ⟨e, q⟩ := st.dc; ⟨e, sub_put hD (sub _ _ q)⟩, sub_put hD (sub _ _ st.dr), sub_put hD (sub _ _ st.dl), sub_put hD (sub _ _ st.dt), st.rows.mono fun a _ o e => sub_put hD (sub a o e)⟩
    refine m_neTups (ks := (leadOf (runsOf vs)).map sgn) (by have := hA.un; omega) ⟨as, st2.dt, st2.rows⟩ ⟨bs, put_same, rows.fresh hD⟩ ?_
    refine m_trBool ?_
    refine hZq0 _ _ ?_
    refine ifalse (by decide) ?_
    have c6' := st2.cs.c6
    have dl' := st2.dl
    have dr' := st2.dr
    have sub2 : ∀ b o, hp b = some o → put h' D (.list (bs.map V.ref)) b = some o := fun b o e => sub_put hD (sub b o e)
    refine m_weak (m' := wNames tx Dq Dr x (decide ((leadOf (runsOf vs)).length < (runsOf vs).length)) Dt) (h' := put h' D (.list (bs.map V.ref))) (fun _ _ e => e) (fun _ _ e => e) ?_
    revert c6' dl' dr' sub2
    generalize put h' D (.list (bs.map V.ref)) = h2
    clear st2
    intro c6 dl dr sub2
    refine m_orCons ?_
    refine m_abs fun Zq1 hZq1 => ?_
    refine m_isCompare (hm := by with_unfolding_all rfl) ?_
    refine evB (EvP.nm (v := .bool _) (by rfl)) ?_
    refine m_Compare (hm := by with_unfolding_all rfl) ?_
    refine m_abs fun Zq2 hZq2 => ?_
    refine m_Call (he := by rfl) ?_
    refine m_Name (hd := by decide) ?_
    first | refine m_gK (e := by k_is) (hk := by rfl) (hl := by rfl) (he := by rfl) (by assumption) ?_ | refine m_gB (e := by k_is) (hv := by rfl) (hn := by decide) (hk := by rfl) (hl := by rfl) (he := by rfl) (hf := by rfl) (by assumption) ?_
    refine m_callB (he := by rfl) (hplain := by rfl) ?_
    refine m_splE (he := by rfl) ?_
    refine evR (EvP.cell c6) ?_
    refine m_splE0 ?_
    refine m_lenList dl (by rw [List.length_map]; omega) fun _ => ?_
    rw [List.length_map]
    refine hZq2 _ _ ?_
    refine m_Call (he := by rfl) ?_
    refine m_Name (hd := by decide) ?_
    first | refine m_gK (e := by k_is) (hk := by rfl) (hl := by rfl) (he := by rfl) (by assumption) ?_ | refine m_gB (e := by k_is) (hv := by rfl) (hn := by decide) (hk := by rfl) (hl := by rfl) (he := by rfl) (hf := by rfl) (by assumption) ?_
    refine m_callB (he := by rfl) (hplain := by rfl) ?_
    refine m_splE (he := by rfl) ?_
    refine evR (EvP.nm (v := .ref _) (by rfl)) ?_
    refine m_splE0 ?_
    refine m_lenList dr (by rw [List.length_map]; omega) fun _ => ?_
    rw [List.length_map]
    refine m_lti ?_
    refine m_neBool ?_
    refine m_trBool ?_
    refine hZq1 _ _ ?_
    refine ifalse (by simp) ?_
    refine m_orNil ?_
    skip
    refine ifalse (by decide) ?_
    refine m_nil ?_
    skip
    exact m_weak (m' := names [("text", .str (T tx)), ("present", .ref Dq), ("told", .ref Dt)]) (h' := hp) (by exact Mine.Sub.of rfl) sub2 k
end
end Mine
end
section
open PySem PySem.W PyProof.Rows PySem.SeqAt
set_option maxHeartbeats 4000000
namespace Mine
theorem dGet_counts {vs : List Int} (hV : Vals vs) {c : Int} (hc : c ∈ vs) : dGet (kCounts vs (presentOf vs)) (sgn c) = some (.int (vs.count c : Nat)) := by
  have key : ∀ ps : List Int, (∀ x ∈ ps, 0 ≤ x ∧ x < 64) → c ∈ ps → dGet (kCounts vs ps) (sgn c) = some (.int (vs.count c : Nat)) := by
    intro ps
    induction ps with
    | nil => intro _ h; cases h
    | cons d ps ih =>
      intro hb hc'
      show dGet ((sgn d, V.int (vs.count d : Nat)) :: kCounts vs ps) (sgn c) = _
      rw [dGet_cons]
      by_cases e : sgn d = sgn c
      · have := sgn_inj (hb d List.mem_cons_self) (hV.b c hc) e
        rw [if_pos e, this]
      · rw [if_neg e]
        refine ih (fun x hx => hb x (List.mem_cons_of_mem _ hx)) ?_
        rcases List.mem_cons.mp hc' with q | q
        · exact absurd (by rw [q]) e
        · exact q
  exact key _ (pres_b hV) ((mem_present hV).mpr hc)
inductive KJ (tx : List Nat) (L Dq Dv Dc Dl Dr Dt : Addr) (vs : List Int) (as : List Addr) (v2 : Option V) (σ' : MS Ky) : Prop
  | mk (v3' : Option V) (hp' : Addr → Option (O Ky)) (hf : Fit σ' (names [("text", .str (T tx)), ("told", .ref Dt)]) hp') (st : ESt L Dq Dv Dc Dl Dr Dt vs as v2 v3' hp')
section
variable {prog : Program} {w : World} {Γ : Fx} {σ : MS Ky} {A : Around} {env : Env} {α : Type} {s : Shared} {Q : Value → MS Ky → Prop} {QB : Bool → MS Ky → Prop} {QU : Unit → MS Ky → Prop} {QF : Flow → MS Ky → Prop}
variable {p : Program} {loose : List Str} {mg mb : Str → Option Value} {t u v : Tok} {n : Nat} {l : Addr} {a : Ad} {S : SS} {k : Ky}
theorem law_counts {rest : List Stmt} {fa Dq Dv Dc Dl Dr Dt : Addr} {cdv : Value} {tx : List Nat} {vs : List Int} {as : List Addr} {v2 v3 : Option V} {hp : Addr → Option (O Ky)} (hV : Vals vs) (st : ESt Γ.L Dq Dv Dc Dl Dr Dt vs as v2 v3 hp)
    (Z : Here (Mine.hd1.heap_1 w.params) p loose mg mb Γ.base) (hA : Dp A (n + 6))
    (k : ∀ v3' hp' σ', Fit σ' (names [("text", .str (T tx)), ("told", .ref Dt)]) hp' → ESt Γ.L Dq Dv Dc Dl Dr Dt vs as v2 v3' hp' → mwp (kyK prog w) Γ A (execs rest (lenv Γ.L fa cdv)) QF σ') :
    mwp (kyK prog w) Γ A (execs ((lawBody.drop 30).take 1 ++ rest) (lenv Γ.L fa cdv)) QF ⟨names [("text", .str (T tx)), ("present", .ref Dq), ("told", .ref Dt)], hp⟩ := by
  have hh : A.handled = none := hA.hd
  have hhi := hV.hi
  have hpl := present6 hV
  refine m_cons ?_
  refine m_then (P := KJ tx Γ.L Dq Dv Dc Dl Dr Dt vs as v2) ?_ ?_
  · refine m_ForG (hs := by intro _; rfl) ?_
    refine evR (EvP.nm (v := .ref _) (by rfl)) ?_
    refine ⟨_, _, _, yields_list hh (xs := (presentOf vs).map V.int), fun _ σ' => KJ tx Γ.L Dq Dv Dc Dl Dr Dt vs as v2 σ', ⟨v3, hp, by exact ⟨by exact Mine.Sub.of rfl, fun _ _ e => e⟩, st⟩, fun i σ' q => by obtain ⟨_, h2, hf, q⟩ := q; exact hf.2 _ _ q.dp, ?_, ?_⟩
    · clear st
      rintro i y v' σ' I ob hb hy iv ⟨v3', h2, hf, st⟩
      obtain ⟨x, hx, rfl⟩ := map_get hy
      obtain ⟨tx1, rfl⟩ := iv
      have hxv := (mem_present hV).mp (List.mem_of_getElem? hx)
      obtain ⟨kx, rfl, hk1, hk2⟩ := code_atI (hV.b x hxv)
      refine m_fit hf ?_
      clear hf
      refine m_storeCell (hk := by rfl) (hl := by rfl) (he := by rfl) (v := .int (kx : Nat)) (c := Γ.L + 1 + 1 + 1) ⟨_, rfl⟩ st.cs.c3 ?_
      have st1 := st.set3 (v := some (.int (kx : Nat)))
      refine m_weak (m' := names [("text", .str (T tx)), ("told", .ref Dt)]) (h' := put h2 (Γ.L + 1 + 1 + 1) (.cell (some (.int (kx : Nat))))) (by exact Mine.Sub.of rfl) (fun _ _ e => e) ?_
      revert st1
      generalize put h2 (Γ.L + 1 + 1 + 1) (.cell (some (.int (kx : Nat)))) = h3
      clear st
      intro st
      have c1 := st.cs.c1
      have c3 := st.cs.c3
      have c4 := st.cs.c4
      have c5 := st.cs.c5
      have c6 := st.cs.c6
      obtain ⟨ep, dc⟩ := st.dc
      refine m_abs fun Zq0 hZq0 => ?_
      refine m_cons ?_
      refine m_If ?_
      refine m_isBoolOp ?_
      refine m_andCons ?_
      refine m_abs fun Zq1 hZq1 => ?_
      refine m_isCompare (hm := by with_unfolding_all rfl) ?_
      refine evI (EvP.cell c3) fun _ => ?_
      refine evR (EvP.cell c6) ?_
      refine m_notinInts st.dl ?_
      refine m_trBool ?_
      refine hZq1 _ _ ?_
      refine ite_of (fun e1 => ?_) fun e1 => ?_
      · refine m_andCons ?_
        refine m_abs fun Zq2 hZq2 => ?_
        refine m_isCompare (hm := by with_unfolding_all rfl) ?_
        refine m_Sub ?_
        refine evR (EvP.cell c5) ?_
        refine m_Sub ?_
        refine evS (EvP.cell c1) fun _ => ?_
        refine evI (EvP.cell c3) fun _ => ?_
        refine m_atT (hs := by with_unfolding_all rfl) (k := kx) (by omega) hk2 fun _ => ?_
        skip
        refine m_tailDict (hs := by with_unfolding_all rfl) dc (m_dictGetItem dc (k := (T [cod (kx : Nat)] : Ky)) ky_is (dGet_counts hV hxv) fun v' hv' => ?_)
        obtain ⟨tv, rfl⟩ := hv'
        refine m_Call (he := by rfl) ?_
        refine m_Name (hd := by decide) ?_
        first | refine m_gK (e := by k_is) (hk := by rfl) (hl := by rfl) (he := by rfl) (by assumption) ?_ | refine m_gB (e := by k_is) (hv := by rfl) (hn := by decide) (hk := by rfl) (hl := by rfl) (he := by rfl) (hf := by rfl) (by assumption) ?_
        refine m_callB (he := by rfl) (hplain := by rfl) ?_
        refine m_splE (he := by rfl) ?_
        have dv := st.dv
        refine m_Comp (hclos := by rfl) (hcell := by decide) (hkind := by rfl) (hnames := by decide) (hx := by rfl) (hs := by intro _; rfl) ?_
        refine evR (EvP.cell c4) ?_
        refine ⟨_, _, _, yields_list hh (xs := vs.map V.int), by rw [List.length_map]; exact Nat.le_trans hhi (by decide), fun σ' hs => hs _ _ dv, fun y => match y with | .int i => i == ((kx : Nat) : Int) | _ => false, fun y => y, ?_, ?_⟩
        · intro y hy C I ob hb D od hd
          obtain ⟨z, hz, rfl⟩ := List.mem_map.mp hy
          refine (?_ : mwp (kyK prog w) _ _ _ _ _)
          refine m_weak (m' := names [("two", .int z)]) (h' := h3) (by exact Mine.Sub.of rfl) (fun _ _ e => e) ?_
          refine tvU (TvP.eqi (hm := by with_unfolding_all rfl) (EvP.nm (v := .int _) (by rfl)) (EvP.cell c3)) ?_
          refine ⟨rfl, ite_of (fun e => ?_) fun e => ?_⟩
          · refine evI (EvP.nm (v := .int _) (by rfl)) fun _ => ?_
            exact ⟨fun _ _ e => e, _, rfl⟩
          · exact fun _ _ e => e
        intro D5 hD5
        rw [show List.map (fun y => y) (List.filter (fun y => match y with | .int i => i == ((kx : Nat) : Int) | _ => false) (vs.map V.int)) = (vs.filter (· == ((kx : Nat) : Int))).map V.int from filt_eq _ _]
        have hD5 : h3 D5 = none := hD5
        have ec : (vs.filter (· == ((kx : Nat) : Int))).length = vs.count ((kx : Nat) : Int) := (List.count_eq_length_filter).symm
        refine m_splE0 ?_
        refine m_lenList put_same (by rw [List.length_map]; have := List.length_filter_le (· == ((kx : Nat) : Int)) vs; omega) fun _ => ?_
        rw [List.length_map, ec]
        refine m_nei ?_
        refine m_weak (m' := names [("text", .str (T tx)), ("told", .ref Dt)]) (h' := h3) (by exact Mine.Sub.of rfl) (fun _ _ e => sub_put hD5 e) ?_
        refine m_trBool ?_
        refine hZq2 _ _ ?_
        refine ifalse (by simp) ?_
        skip
        refine ifalse (by decide) ?_
        refine m_nil ?_
        refine m_nil ?_
        refine hZq0 _ _ ?_
        exact ⟨_, h3, by exact ⟨by exact Mine.Sub.of rfl, fun _ _ e => e⟩, st⟩
      · skip
        refine ifalse (by decide) ?_
        refine m_nil ?_
        refine m_nil ?_
        refine hZq0 _ _ ?_
        exact ⟨_, h3, by exact ⟨by exact Mine.Sub.of rfl, fun _ _ e => e⟩, st⟩
    · rintro σ' ⟨v3', h2, hf, st⟩
      skip
      exact ⟨rfl, v3', h2, hf, st⟩
  rintro σ' ⟨v3', h2, hf, st⟩
  exact k v3' h2 σ' hf st
end
end Mine
end
section
open PySem PySem.W PyProof.Rows PySem.SeqAt
set_option maxHeartbeats 4000000
namespace Mine
noncomputable def grT (h : Addr → Option (O Ky)) (a : Addr) : List V := match h a with | some (.tuple xs) => xs | _ => []
theorem grT_of {h : Addr → Option (O Ky)} {a : Addr} {xs : List V} (e : h a = some (.tuple xs)) : grT h a = xs := by unfold grT; rw [e]
theorem grT_all {h : Addr → Option (O Ky)} {as : List Addr} {ks : List Ky} (r : TRows h as ks) : as.flatMap (grT h) = ks.map V.str := by
  induction r with
  | nil => rfl
  | cons e _ ih => rw [List.flatMap_cons, ih, grT_of e]; rfl
noncomputable def mulF (vs : List Int) (y : V) : V := match y with
  | .str k => match dGet (kCounts vs (presentOf vs)) k with
    | some (.int n) => .str (Txt.mul k n)
    | _ => .none
  | _ => .none
theorem mulF_of {vs : List Int} (hV : Vals vs) {c : Int} (hc : c ∈ vs) : mulF vs (.str (sgn c)) = .str (T (List.replicate (vs.count c) (cod c))) := by
  unfold mulF
  dsimp only
  rw [dGet_counts hV hc]
  show V.str _ = _
  rw [mul_sign]
theorem flat_rep (f : Int → Nat) : ∀ l : List Int, (l.map fun c => List.replicate (f c) (cod c)).flatten = (l.flatMap fun c => List.replicate (f c) c).map cod
  | [] => rfl
  | a :: l => by rw [List.map_cons, List.flatten_cons, flat_rep f l, List.flatMap_cons, List.map_append, List.map_replicate]
theorem rep_sum (f : Int → Nat) (hf : ∀ c, f c ≤ 6) : ∀ l : List Int, (((l.map fun c => List.replicate (f c) (cod c)).map T).map (·.length)).sum ≤ 6 * l.length
  | [] => Nat.le_refl _
  | a :: l => by
    have ih := rep_sum f hf l
    have := hf a
    rw [List.map_cons, List.map_cons, List.map_cons, List.sum_cons, T_len, List.length_replicate, List.length_cons]
    lia
section
variable {prog : Program} {w : World} {Γ : Fx} {σ : MS Ky} {A : Around} {env : Env} {α : Type} {s : Shared} {Q : Value → MS Ky → Prop} {QB : Bool → MS Ky → Prop} {QU : Unit → MS Ky → Prop} {QF : Flow → MS Ky → Prop}
variable {p : Program} {loose : List Str} {mg mb : Str → Option Value} {t u v : Tok} {n : Nat} {l : Addr} {a : Ad} {S : SS} {k : Ky}
theorem law_built {fa Dq Dv Dc Dl Dr Dt : Addr} {cdv : Value} {vs : List Int} {as : List Addr} {v2 v3 : Option V} {hp : Addr → Option (O Ky)} (hV : Vals vs) (st : ESt Γ.L Dq Dv Dc Dl Dr Dt vs as v2 v3 hp)
    (Z : Here (Mine.hd1.heap_1 w.params) p loose mg mb Γ.base) (hA : Dp A (n + 6)) :
    mwp (kyK prog w) Γ A (execs (lawBody.drop 31) (lenv Γ.L fa cdv)) (fun f σ' => f = .ret (.bool true)) ⟨names [("text", .str (T (vs.map cod))), ("told", .ref Dt)], hp⟩ := by
  have hh : A.handled = none := hA.hd
  have hhi := hV.hi
  obtain ⟨hl1, hl2, hl3⟩ := lead_len hV
  have c5 := st.cs.c5
  obtain ⟨ep, dc⟩ := st.dc
  have hgr := grT_all st.rows
  refine m_cons ?_
  refine m_AssignName (hs := by rfl) ?_
  refine m_Method (he := by rfl) ?_
  refine evS EvP.str fun _ => ?_
  refine m_methStr PySem.F.slot_str_join PySem.F.type_str_join ?_
  refine m_callB (he := by rfl) (hplain := by rfl) ?_
  refine m_splE (he := by rfl) ?_
  refine m_Comp2 (hclos := by rfl) (hcell := by decide) (hkind := by rfl) (hnames := by decide) (hx := by rfl) (hx2 := by rfl) (hd1 := by decide) (hs := by intro _; rfl) hh ?_
  refine evR (EvP.nm (v := .ref _) (by rfl)) ?_
  refine ⟨as, grT hp, Dt, rfl, st.dt, fun a ha => ?_, ?_, mulF vs, ?_, ?_⟩
  · obtain ⟨k, ek⟩ := st.rows.mem ha
    rw [grT_of ek]; exact ek
  · rw [hgr, List.length_map, List.length_map]; exact Nat.le_trans hl1 (by decide)
  · intro a ha y hy C I ob hb I2 ob2 hb2 D od hd
    have hym : y ∈ as.flatMap (grT hp) := List.mem_flatMap.mpr ⟨a, ha, hy⟩
    rw [hgr, List.map_map] at hym
    obtain ⟨c, hc, rfl⟩ := List.mem_map.mp hym
    have hcv := hl3 c hc
    have ef : mulF vs (.str (sgn c)) = _ := mulF_of hV hcv
    show mwp _ _ _ _ (fun e σ₃ => _ ∧ V.is (mulF vs (.str (sgn c))) e) _
    rw [ef]
    refine m_weak (m' := names [("sign", .str (T [cod c]))]) (h' := hp) (by exact Mine.Sub.of rfl) (fun _ _ e => e) ?_
    refine m_BinOp ?_
    refine evS (EvP.nm (v := .str _) (by rfl)) fun _ => ?_
    refine m_Sub ?_
    refine evR (EvP.cell c5) ?_
    refine evS (EvP.nm (v := .str _) (by rfl)) fun _ => ?_
    refine m_tailDict (hs := by with_unfolding_all rfl) dc (m_dictGetItem dc (k := (T [cod c] : Ky)) ky_is (dGet_counts hV hcv) fun v' hv' => ?_)
    obtain ⟨tv, rfl⟩ := hv'
    skip
    refine m_mulSign (Nat.le_trans List.count_le_length (by lia)) fun _ => ?_
    exact ⟨fun _ _ e => e, _, rfl⟩
  · intro D5 hD5
    have hD5 : hp D5 = none := hD5
    have el : (as.flatMap (grT hp)).map (mulF vs) = (((leadOf (runsOf vs)).map fun c => List.replicate (vs.count c) (cod c)).map T).map V.str := by
      rw [hgr, List.map_map, List.map_map, List.map_map, List.map_map]
      refine List.map_congr_left fun c hc => ?_
      exact mulF_of hV (hl3 c hc)
    rw [el]
    refine m_splE0 ?_
    refine m_join put_same (by decide) ?_ fun _ => ?_
    · have h1 := rep_sum (fun c => vs.count c) (fun c => Nat.le_trans List.count_le_length hhi) (leadOf (runsOf vs))
      rw [List.length_map, List.length_map]
      lia
    rw [join_T, flat_rep]
    refine m_sts (hk := by rfl) (hl := by rfl) (he := by rfl) ?_
    skip
    refine m_weak (m' := names [("text", .str (T (vs.map cod))), ("told", .ref Dt), ("built", .str (T (((leadOf (runsOf vs)).flatMap fun c => List.replicate (vs.count c) c).map cod)))]) (h' := hp) (by exact Mine.Sub.of rfl) (fun _ _ e => sub_put hD5 e) ?_
    have c4 := st.cs.c4
    have c6 := st.cs.c6
    have dv := st.dv
    have dl := st.dl
    refine m_cons ?_
    refine m_Return ?_
    refine m_Compare (hm := by with_unfolding_all rfl) ?_
    refine evS (EvP.nm (v := .str _) (by rfl)) fun _ => ?_
    refine m_SubSlice ?_
    refine evS (EvP.nm (v := .str _) (by rfl)) fun _ => ?_
    refine m_part0 ?_
    refine m_part ?_
    refine m_abs fun Zq0 hZq0 => ?_
    refine m_Call (he := by rfl) ?_
    refine m_Name (hd := by decide) ?_
    first | refine m_gK (e := by k_is) (hk := by rfl) (hl := by rfl) (he := by rfl) (by assumption) ?_ | refine m_gB (e := by k_is) (hv := by rfl) (hn := by decide) (hk := by rfl) (hl := by rfl) (he := by rfl) (hf := by rfl) (by assumption) ?_
    refine m_callB (he := by rfl) (hplain := by rfl) ?_
    refine m_splE (he := by rfl) ?_
    refine m_Comp (hclos := by rfl) (hcell := by decide) (hkind := by rfl) (hnames := by decide) (hx := by rfl) (hs := by intro _; rfl) ?_
    refine evR (EvP.cell c4) ?_
    refine ⟨_, _, _, yields_list hh (xs := vs.map V.int), by rw [List.length_map]; exact Nat.le_trans hhi (by decide), fun σ' hs => hs _ _ dv, fun y => match y with | .int i => (leadOf (runsOf vs)).any (· == i) | _ => false, fun y => y, ?_, ?_⟩
    · intro y hy C I ob hb D od hd
      obtain ⟨z, hz, rfl⟩ := List.mem_map.mp hy
      refine (?_ : mwp (kyK prog w) _ _ _ _ _)
      refine m_weak (m' := names [("one", .int z)]) (h' := hp) (by exact Mine.Sub.of rfl) (fun _ _ e => e) ?_
      refine m_abs fun Zq1 hZq1 => ?_
      refine m_isCompare (hm := by with_unfolding_all rfl) ?_
      refine evI (EvP.nm (v := .int _) (by rfl)) fun _ => ?_
      refine evR (EvP.cell c6) ?_
      refine m_inInts dl ?_
      refine m_trBool ?_
      refine hZq1 _ _ ?_
      refine ⟨rfl, ite_of (fun e => ?_) fun e => ?_⟩
      · refine evI (EvP.nm (v := .int _) (by rfl)) fun _ => ?_
        exact ⟨fun _ _ e => e, _, rfl⟩
      · exact fun _ _ e => e
    intro D6 hD6
    have hD6 : hp D6 = none := hD6
    rw [show List.map (fun y => y) (List.filter (fun y => match y with | .int i => (leadOf (runsOf vs)).any (· == i) | _ => false) (vs.map V.int)) = (vs.filter fun x => (leadOf (runsOf vs)).any (· == x)).map V.int by rw [List.map_id', List.filter_map]; rfl]
    have hfl := List.length_filter_le (fun x => (leadOf (runsOf vs)).any (· == x)) vs
    refine m_splE0 ?_
    refine m_lenList put_same (by rw [List.length_map]; lia) fun _ => ?_
    rw [List.length_map]
    obtain ⟨rest, hL, _⟩ := lead_led (runsOf vs)
    have key := lead_text vs (leadOf (runsOf vs)) rest hL
    refine hZq0 _ _ ?_
    refine slS .none (.int _ _) (by rw [List.length_map]; lia) (slice_take (by rw [List.length_map]; exact hfl)) fun _ => ?_
    rw [key, List.map_take]
    refine m_eqs ?_
    rw [T_beq, decide_eq_true rfl]
end
end Mine
end
section
open PySem PySem.W PyProof.Rows PySem.SeqAt
set_option maxHeartbeats 4000000
namespace Mine
section
variable {L Dq Dn Dc Dv X : Addr} {vs : List Int} {G : List (Ky × Addr × List Ky)} {K : List (Ky × V)} {v2 v3 v6 v v' : Option V} {hp hq : Addr → Option (O Ky)} {o : O Ky}
theorem NSt.keep36 (s : NSt L Dq Dn Dc Dv vs G K v2 v3 v6 hp) (hs : ∀ b o, hp b = some o → b ≠ L + 1 + 1 + 1 → b ≠ L + 1 + 1 + 1 + 1 + 1 + 1 → hq b = some o) (h3 : hq (L + 1 + 1 + 1) = some (.cell v)) (h6 : hq (L + 1 + 1 + 1 + 1 + 1 + 1) = some (.cell v')) : NSt L Dq Dn Dc Dv vs G K v2 v v' hq := by
  have nc : ∀ {b o}, hp b = some o → (∀ v, o ≠ .cell v) → hq b = some o := fun h1 h2 => hs _ _ h1 (fun q => by rw [q, s.cs.c3] at h1; exact h2 _ (Option.some.inj h1).symm) (fun q => by rw [q, s.cs.c6] at h1; exact h2 _ (Option.some.inj h1).symm)
  have c := s.cs
  obtain ⟨e, q⟩ := s.dc
  obtain ⟨e2, q2⟩ := s.dn
  exact ⟨⟨hs _ _ c.c1 (ca (i := 1) (j := 3) (by decide)) (ca (i := 1) (j := 6) (by decide)), hs _ _ c.c2 (ca (i := 2) (j := 3) (by decide)) (ca (i := 2) (j := 6) (by decide)), h3, hs _ _ c.c4 (ca (i := 4) (j := 3) (by decide)) (ca (i := 4) (j := 6) (by decide)), hs _ _ c.c5 (ca (i := 5) (j := 3) (by decide)) (ca (i := 5) (j := 6) (by decide)), h6⟩,
    nc s.dv (fun _ z => by cases z), nc s.dp (fun _ z => by cases z), ⟨e2, nc q2 (fun _ z => by cases z)⟩, fun g hg => nc (s.gl g hg) (fun _ z => by cases z), ⟨e, nc q (fun _ z => by cases z)⟩, s.ne⟩
end
section
variable {prog : Program} {w : World} {Γ : Fx} {σ : MS Ky} {A : Around} {env : Env} {α : Type} {s : Shared} {Q : Value → MS Ky → Prop} {QB : Bool → MS Ky → Prop} {QU : Unit → MS Ky → Prop} {QF : Flow → MS Ky → Prop}
variable {p : Program} {loose : List Str} {mg mb : Str → Option Value} {t u v : Tok} {n : Nat} {l : Addr} {a : Ad} {S : SS} {k : Ky}
theorem seg (i n : Nat) : lawBody.drop i = (lawBody.drop i).take n ++ lawBody.drop (i + n) := by rw [← List.drop_drop, List.take_append_drop]
theorem law_all {fa ls : Addr} {cdv : Value} {hp : Addr → Option (O Ky)} {ns : List Int} {oL : Obj} {vs : Array Value} {nn : Nat} {outer : List Env} (hns : ns.length ≤ 63) (hB : Γ.B ls = some oL ∧ oL.cls = .type "list" ∧ oL.data = .seq vs nn) (ar : Are (ns.map V.int) vs.toList)
    (c : Cs Γ.L none none none none none none hp) (F : Fits Γ A) (hfr : A.frames = some (lenv Γ.L fa cdv :: outer)) (Z : Here (Mine.hd1.heap_1 w.params) p loose mg mb Γ.base) (hA : Dp A (n + 6)) :
    mwp (kyK prog w) Γ A (execs (lawBody.drop 0) (lenv Γ.L fa cdv)) (fun f σ' => f = .ret (.bool true)) ⟨names [("script", .ref ls)], hp⟩ := by
  rw [seg 0 10]
  refine law_A (n := n) hns hB ar c Z hA fun tt oct Do h1 v2 v3 htt ho1 ho4 hob dq c1 => ?_
  rw [seg 10 7]
  refine law_B (n := n) htt ho1 ho4 hob dq c1 Z hA fun vs Dv Dq h2 hV dv dp c2 => ?_
  rw [seg 17 3]
  refine law_C (n := n) hV htt dv dp c2 Z hA fun Dn Dc G h3 st eG => ?_
  rw [seg 20 2]
  refine law_runs (n := n) hV.hi st.dv st.cs Z hA fun Dr h4 v4 σ4 hf4 q1 q2 hDr q3 => ?_
  refine m_fit hf4 ?_
  have st4 := st.keep3 q1 q2
  rw [seg 22 2]
  refine law_lead (n := n) (lead_len hV).2.1 q3 st4.cs Z hA fun Dl h5 v5 σ5 hf5 p1 p3 p6 hDl pl => ?_
  refine m_fit hf5 ?_
  have st5 := st4.keep36 p1 p3 p6
  have dr5 : h5 Dr = some (.list ((runsOf vs).map V.int)) := p1 _ _ q3 (fun z => by rw [z, q2] at q3; cases q3) (fun z => by rw [z, st4.cs.c6] at q3; cases q3)
  obtain ⟨ep, dn5⟩ := st5.dn
  obtain ⟨hGn, hG1, hGp⟩ := kNeeds_ok hV eG
  have ndL : ((presentOf vs).map sgn).Nodup := nd_map (pres_b hV) (present_nd vs)
  obtain ⟨si, hord, hrn, gr⟩ := build_SI (pre := preK vs) (fun g hg => (hGn g hg).1) hG1 ndL hGp
  rw [seg 24 3]
  refine law_sorter (n := n) hV dn5 st5.gl eG F hfr Z hA fun a hq h6 σ6 hf6 tw r => ?_
  refine m_fit hf6 ?_
  rw [seg 27 2]
  refine law_while (n := n) hV tw r (by rw [left0]; exact si) (fun k hk => (hord k).mp hk) Z hA fun Dt as h7 h8 σ7 hf7 s7 hr => ?_
  refine m_fit hf7 ?_
  refine m_weak (h' := h8) (fun _ _ e => e) s7 ?_
  have est : ESt Γ.L Dq Dv Dc Dl Dr Dt vs as v2 v5 h8 :=
    ⟨st5.cs.mono fun b v e => hr.sub _ _ e, hr.sub _ _ st5.dv, hr.sub _ _ st5.dp, let ⟨e, q⟩ := st5.dc; ⟨e, hr.sub _ _ q⟩, hr.sub _ _ dr5, hr.sub _ _ pl, hr.dt, hr.rows⟩
  rw [seg 29 1]
  refine law_told (n := n) hV est Z hA ?_
  rw [seg 30 1]
  refine law_counts (n := n) hV est Z hA fun v9 h9 σ9 hf9 est9 => ?_
  refine m_fit hf9 ?_
  exact law_built (n := n) hV est9 Z hA
end
end Mine
end
section
open PySem PySem.W PyProof.Rows PySem.SeqAt
set_option maxHeartbeats 8000000
namespace Mine
theorem callerDp (e : Env) : Dp (callerA.deeper e) 8 := ⟨rfl, by show 1 + claimMargin + 1 + 24 < recursionLimit; decide, by show 4 + 3 + 320 < cLine; decide⟩
theorem put_cases {f : Addr → Option (O Ky)} {a b : Addr} {x o : O Ky} (e : put f a x b = some o) : (b = a ∧ o = x) ∨ f b = some o := by
  by_cases h : b = a
  · subst h; rw [put_same] at e; exact .inl ⟨rfl, (Option.some.inj e).symm⟩
  · rw [put_other h] at e; exact .inr e
theorem law_start {w : World} {s₁ : Shared} {mg mb : Str → Option Value} {p : Program} {loose : List Str} {fa ls : Addr} {cdv : Value} {h₁ : Heap} {tk : Nat} {m : Str → Option Value} {vs : List Value} {ns : List Int} {o1 o2 o3 o4 o5 o6 : Obj} {E : Value → Shared → Prop} {Q : Flow → Shared → Prop}
    (KX : (Mine.hd1.heap_1 w.params).In s₁.heap) (T : TopRead p loose mg mb s₁.heap) (sys : s₁.heap.NoSeer) (hL : s₁.heap.IsList ls vs.toArray) (hI : IntsAre vs ns) (hlen : ns.length ≤ 63) (F : Fr s₁.heap s₁.heap.objs.size h₁ m) (hm : m "script" = some (.ref ls))
    (N : News s₁.heap s₁.heap.objs.size h₁ [(s₁.heap.objs.size + 1 + 1 + 1 + 1 + 1 + 1, o6), (s₁.heap.objs.size + 1 + 1 + 1 + 1 + 1, o5), (s₁.heap.objs.size + 1 + 1 + 1 + 1, o4), (s₁.heap.objs.size + 1 + 1 + 1, o3), (s₁.heap.objs.size + 1 + 1, o2), (s₁.heap.objs.size + 1, o1)])
    (d1 : o1.data = .cell none) (d2 : o2.data = .cell none) (d3 : o3.data = .cell none) (d4 : o4.data = .cell none) (d5 : o5.data = .cell none) (d6 : o6.data = .cell none)
    (hQ : ∀ h' tk', (∀ b o, s₁.heap.get? b = some o → h'.get? b = some o) → Q (.ret (.bool true)) { s₁ with heap := h', toks := tk' }) :
    wpAny (model PySem.Challenge.rw_ny0306_02.row.prog w) (callerA.deeper (lenv s₁.heap.objs.size fa cdv)) (execs lawBody (lenv s₁.heap.objs.size fa cdv)) Q E { s₁ with heap := h₁, toks := tk } := by
  obtain ⟨oL, eL, cL, nn, dL⟩ := hL
  let Γ : Fx := ⟨s₁.heap, s₁.heap.get?, s₁.heap.objs.size, [], s₁, fun _ _ e => e⟩
  have nL : s₁.heap.get? s₁.heap.objs.size = none := noneAt
  let hp : Addr → Option (O Ky) := put (put (put (put (put (put (fun _ => none) (s₁.heap.objs.size + 1) (.cell none)) (s₁.heap.objs.size + 1 + 1) (.cell none)) (s₁.heap.objs.size + 1 + 1 + 1) (.cell none)) (s₁.heap.objs.size + 1 + 1 + 1 + 1) (.cell none)) (s₁.heap.objs.size + 1 + 1 + 1 + 1 + 1) (.cell none)) (s₁.heap.objs.size + 1 + 1 + 1 + 1 + 1 + 1) (.cell none)
  have Z : Here (Mine.hd1.heap_1 w.params) p loose mg mb Γ.base := ⟨KX, T, by obtain ⟨mm, ⟨o, _, _, e, _⟩, _⟩ := sys.mods; exact ⟨o, e⟩⟩
  have g1 := N (s₁.heap.objs.size + 1, o1) (by simp)
  have g2 := N (s₁.heap.objs.size + 1 + 1, o2) (by simp)
  have g3 := N (s₁.heap.objs.size + 1 + 1 + 1, o3) (by simp)
  have g4 := N (s₁.heap.objs.size + 1 + 1 + 1 + 1, o4) (by simp)
  have g5 := N (s₁.heap.objs.size + 1 + 1 + 1 + 1 + 1, o5) (by simp)
  have g6 := N (s₁.heap.objs.size + 1 + 1 + 1 + 1 + 1 + 1, o6) (by simp)
  have hcase : ∀ a o, hp a = some o → (∃ ob, h₁.get? a = some ob ∧ o.is (kyK PySem.Challenge.rw_ny0306_02.row.prog w) ob) ∧ a ≠ s₁.heap.objs.size ∧ s₁.heap.get? a = none := by
    intro a o e
    have : ∀ {o' : Obj} {b : Addr}, (h₁.get? b = some o' ∧ b ≠ s₁.heap.objs.size ∧ s₁.heap.get? b = none) → o'.data = .cell none → (∃ ob, h₁.get? b = some ob ∧ (O.cell none : O Ky).is (kyK PySem.Challenge.rw_ny0306_02.row.prog w) ob) ∧ b ≠ s₁.heap.objs.size ∧ s₁.heap.get? b = none := fun h d => ⟨⟨_, h.1, _, d, trivial⟩, h.2⟩
    rcases put_cases e with ⟨rfl, rfl⟩ | e
    · exact this g6 d6
    rcases put_cases e with ⟨rfl, rfl⟩ | e
    · exact this g5 d5
    rcases put_cases e with ⟨rfl, rfl⟩ | e
    · exact this g4 d4
    rcases put_cases e with ⟨rfl, rfl⟩ | e
    · exact this g3 d3
    rcases put_cases e with ⟨rfl, rfl⟩ | e
    · exact this g2 d2
    rcases put_cases e with ⟨rfl, rfl⟩ | e
    · exact this g1 d1
    · cases e
  have hpL : hp s₁.heap.objs.size = none := by
    cases z : hp s₁.heap.objs.size with
    | none => rfl
    | some o => exact absurd rfl (hcase _ _ z).2.1
  have R : Rel (kyK PySem.Challenge.rw_ny0306_02.row.prog w) Γ ⟨names [("script", .ref ls)], hp⟩ { s₁ with heap := h₁, toks := tk } :=
    { keep := fun b o q => F.keep b o q
      rest := rfl
      cur := ⟨m, F.ns, fun x v e => by
        have : x = "script" ∧ v = .ref ls := by
          have e : (List.find? (fun p : Str × V => decide (x = p.1)) [("script", V.ref ls)]).map (·.2) = some v := e
          rw [List.find?_cons] at e
          by_cases q : x = "script"
          · simp [q] at e; exact ⟨q, e.symm⟩
          · simp [q] at e
        obtain ⟨rfl, rfl⟩ := this
        exact ⟨_, hm, rfl⟩⟩
      out := fun p hp => nomatch hp
      obj := fun a o e => (hcase a o e).1
      bL := nL
      bO := fun p hp => nomatch hp
      bH := fun a o e => (hcase a o e).2.2
      lO := fun p hp => nomatch hp
      hL := hpL
      hO := fun p hp => nomatch hp }
  have Ft : Fits Γ (callerA.deeper (lenv s₁.heap.objs.size fa cdv)) := ⟨[lenv s₁.heap.objs.size fa cdv], rfl, fun e he => by rw [List.mem_singleton.mp he]; exact ⟨(by rw [show (lenv s₁.heap.objs.size fa cdv).scope.kind = .function from rfl]; decide), _, rfl, .inl rfl⟩⟩
  have lt : ∀ a b : Nat, a < b → s₁.heap.objs.size + a ≠ s₁.heap.objs.size + b := fun a b h q => by omega
  have k6 : hp (s₁.heap.objs.size + 6) = some (.cell none) := put_same
  have k5 : hp (s₁.heap.objs.size + 5) = some (.cell none) := ((put_other (lt 5 6 (by decide))).trans put_same)
  have k4 : hp (s₁.heap.objs.size + 4) = some (.cell none) := ((put_other (lt 4 6 (by decide))).trans ((put_other (lt 4 5 (by decide))).trans put_same))
  have k3 : hp (s₁.heap.objs.size + 3) = some (.cell none) := ((put_other (lt 3 6 (by decide))).trans ((put_other (lt 3 5 (by decide))).trans ((put_other (lt 3 4 (by decide))).trans put_same)))
  have k2 : hp (s₁.heap.objs.size + 2) = some (.cell none) := ((put_other (lt 2 6 (by decide))).trans ((put_other (lt 2 5 (by decide))).trans ((put_other (lt 2 4 (by decide))).trans ((put_other (lt 2 3 (by decide))).trans put_same))))
  have k1 : hp (s₁.heap.objs.size + 1) = some (.cell none) := ((put_other (lt 1 6 (by decide))).trans ((put_other (lt 1 5 (by decide))).trans ((put_other (lt 1 4 (by decide))).trans ((put_other (lt 1 3 (by decide))).trans ((put_other (lt 1 2 (by decide))).trans put_same)))))
  have key := law_all (Γ := Γ) (fa := fa) (cdv := cdv) (ls := ls) (n := 2) (prog := PySem.Challenge.rw_ny0306_02.row.prog) (hp := hp) (outer := []) hlen ⟨eL, cL, dL⟩ (by simpa using Are.of_ints hI) ⟨k1, k2, k3, k4, k5, k6⟩ Ft rfl Z (callerDp _)
  refine key.use R fun f s' σ' R' q => ?_
  have q : f = .ret (.bool true) := q
  subst q
  have e' := R'.rest
  rw [e']
  exact hQ _ _ fun b o e => R'.keep b o e
end Mine
end
open PySem PySem.W PyProof.Rows PySem.SeqAt
set_option maxHeartbeats 8000000 in
theorem PySem.Challenge.cw_ny0306_02_holds : PySem.Challenge.rw_ny0306_02.Holds := by
  exact Mine.hd1 (by
  obtain ⟨vw, hvw⟩ : ∃ v, v = Mine.view1 := ⟨_, rfl⟩
  rw [← hvw]
  k_go0
  rename_i w s0 s1 mg mb G Y fa o pm cd doc ho hcd hg KX X V T B D TE TW x1 x2 MM ns hs1 hlay0 hL1 hr1 hl2 x3 x4 ls vs x5 hL ra w1 r0 hI hr hcond hcond' K0 hD h1 tk1 F o6 o5 o4 o3 o2 o1 d6 d5 d4 d3 d2 d1 N0 X0
  subst hvw
  refine Mine.law_start (o1 := o1) (o2 := o2) (o3 := o3) (o4 := o4) (o5 := o5) (o6 := o6) KX (topRead_of T) (T.seer (by decide +kernel)) hL hI (by omega) F (by rfl) N0 d1 d2 d3 d4 d5 d6 (fun h' tk' hk => ?_)
  refine ⟨.inl ⟨_, .bool true, [], rfl, fun cls => ?_, .bool true, ?_, ?_⟩, hk, rfl, hg⟩
  · first | rfl | decide | exact rfl
  · first | with_unfolding_all rfl | kernel_rfl | decide +kernel
  · intro _; exact ⟨List.nodup_nil, fun a ha => nomatch ha⟩)
