import PyProof.Rows.All
import Wide.All
import OpenK.AllK
import Wide.FinOn
import PySem.Challenge.RW_ux0010_01
set_option Elab.async false
set_option linter.unusedVariables false
set_option linter.unusedSimpArgs false
set_option genSizeOf false
set_option bootstrap.genMatcherCode false
section
open PySem PySem.W PyProof.Rows
namespace Mine.Internal
noncomputable def viewT : Program := { PySem.Challenge.pw_ux0010_01 with main := { PySem.Challenge.pw_ux0010_01.main with body := (PySem.Challenge.pw_ux0010_01.main.body.drop 4).take 3 ++ ((PySem.Challenge.pw_ux0010_01.main.body.drop 8).take 3 ++ PySem.Challenge.pw_ux0010_01.main.body.drop 12) } }
set_option maxRecDepth 100000 in
theorem saidT : PySem.Challenge.rw_ux0010_01.wellSaid = true := by decide +kernel
theorem headDef : ∃ d k, defOf viewT (RowW.name PySem.Challenge.rw_ux0010_01.row.toRowW) = some (d, k) ∧ (RowW.prog PySem.Challenge.rw_ux0010_01.row.toRowW).theDef (RowW.name PySem.Challenge.rw_ux0010_01.row.toRowW) = some (d.params, d.body, d.scope) ∧ kwWritten? d.params.kwonlyargs d.params.kw_defaults = some k := ⟨_, _, rfl, rfl, rfl⟩
theorem headOf {d : DefRec} {kwd : List (Str × Expr)} (H : Hook)
    (hl : LeftO (RowW.prog PySem.Challenge.rw_ux0010_01.row.toRowW) viewT [Str.ofString "insort_right", Str.ofString "bisect_right"] (fun s => xlAt viewT [] s && recOk (RowW.records PySem.Challenge.rw_ux0010_01.row.toRowW) s) (Hook.obs H) (Hook.val H) 1304)
    (hd : defOf viewT (RowW.name PySem.Challenge.rw_ux0010_01.row.toRowW) = some (d, kwd)) (hw : PySem.Challenge.rw_ux0010_01.row.toRowW.promised)
    (hc : WalkO viewT [Str.ofString "insort_right", Str.ofString "bisect_right"] (XL viewT []) (Hook.says H) PySem.Challenge.rw_ux0010_01.row.toRowW d kwd fun f vs => PySem.call f vs) : PySem.Challenge.rw_ux0010_01.row.Holds := by
  obtain ⟨d0, k0, e, hp, hk⟩ := headDef
  cases e.symm.trans hd
  exact holds_open (Xt := fun s => xlAt viewT [] s && recOk (RowW.records PySem.Challenge.rw_ux0010_01.row.toRowW) s) hl (Hook.of H) (Hook.keeps H) (fun s e => xl_of s (Bool.and_eq_true_iff.mp e).1) XL.keeps hd hp hk (fun s e => recFacts_of (Bool.and_eq_true_iff.mp e).2) (by rfl) (row_said saidT) (by decide +kernel) ⟨rfl, rfl, rfl, rfl, rfl, by decide +kernel⟩ hw hc
theorem lawH (h : PySem.Challenge.rw_ux0010_01.row.Holds) : PySem.Challenge.rw_ux0010_01.Holds := holds_law saidT fun _ => h
end Mine.Internal
local macro_rules | `(tactic| o_law) => `(tactic| apply Mine.Internal.lawH)
local macro_rules | `(tactic| o_head $H) => `(tactic| apply Mine.Internal.headOf $H (fun _ => by kernel_rfl) rfl)
set_option maxRecDepth 100000 in
set_option maxHeartbeats 8000000 in
open_top Mine.Internal.hd for PySem.Challenge.rw_ux0010_01
end
section
open PySem PySem.W PyProof.Rows PySem.Calls
namespace Mine.Internal
inductive D where
  | none
  | bool (b : Bool)
  | int (i : Int)
  | str (x : Str)
  | list (l : List D)
  | fn (a : Addr)
inductive V where
  | d (x : D)
  | ref (n : Nat)
inductive Gh where
  | none
  | own (n : Nat)
  | fix
  | held (o : Obj)
noncomputable abbrev LO (vs : List Value) (n : Nat) : Obj := { cls := .type "list", dict := .none, data := .seq vs.toArray n, slots := #[] }
abbrev Tau := Addr → Gh
mutual
noncomputable def DR (τ : Tau) (h : Heap) : D → Value → Prop
  | .none, v => v = .none
  | .bool b, v => v = .bool b
  | .int i, v => ∃ t, v = .int i t
  | .str x, v => ∃ t, v = .str x t
  | .fn a, v => v = .ref a
  | .list l, v => ∃ a vs n, v = .ref a ∧ τ a = .none ∧ h.get? a = some (LO vs n) ∧ DRs τ h l vs
noncomputable def DRs (τ : Tau) (h : Heap) : List D → List Value → Prop
  | [], vs => vs = []
  | d :: ds, vs => ∃ v r, vs = v :: r ∧ DR τ h d v ∧ DRs τ h ds r
end
structure Ext (τ : Tau) (h : Heap) (τ' : Tau) (h' : Heap) : Prop where
  claim : ∀ a, τ a ≠ .none → τ' a = τ a
  keep : ∀ a o, τ a = .none → h.get? a = some o → τ' a = .none ∧ h'.get? a = some o
theorem Ext.refl (τ : Tau) (h : Heap) : Ext τ h τ h := ⟨fun _ _ => rfl, fun _ _ e g => ⟨e, g⟩⟩
theorem Ext.trans {τ τ' τ'' : Tau} {h h' h'' : Heap} (x : Ext τ h τ' h') (y : Ext τ' h' τ'' h'') : Ext τ h τ'' h'' :=
  ⟨fun a e => (y.claim a (by rw [x.claim a e]; exact e)).trans (x.claim a e), fun a o e g => have z := x.keep a o e g; y.keep a o z.1 z.2⟩
mutual
theorem DR.keepL {τ τ' : Tau} {h h' : Heap} (x : ∀ a vs n, τ a = .none → h.get? a = some (LO vs n) → τ' a = .none ∧ h'.get? a = some (LO vs n)) : ∀ {d : D} {v : Value}, DR τ h d v → DR τ' h' d v
  | .none, _, e => e
  | .bool _, _, e => e
  | .int _, _, e => e
  | .str _, _, e => e
  | .fn _, _, e => e
  | .list l, v, e => by
    obtain ⟨a, vs, n, e1, e2, e3, e4⟩ := e
    have z := x a _ _ e2 e3
    exact ⟨a, vs, n, e1, z.1, z.2, DRs.keepL x e4⟩
theorem DRs.keepL {τ τ' : Tau} {h h' : Heap} (x : ∀ a vs n, τ a = .none → h.get? a = some (LO vs n) → τ' a = .none ∧ h'.get? a = some (LO vs n)) : ∀ {ds : List D} {vs : List Value}, DRs τ h ds vs → DRs τ' h' ds vs
  | [], _, e => e
  | d :: ds, vs, e => by
    obtain ⟨v, r, e1, e2, e3⟩ := e
    exact ⟨v, r, e1, DR.keepL x e2, DRs.keepL x e3⟩
end
theorem DR.keep {τ τ' : Tau} {h h' : Heap} (x : ∀ a o, τ a = .none → h.get? a = some o → τ' a = .none ∧ h'.get? a = some o) {d : D} {v : Value} (e : DR τ h d v) : DR τ' h' d v := e.keepL fun a vs n => x a _
theorem DR.mono {τ τ' : Tau} {h h' : Heap} (x : Ext τ h τ' h') {d : D} {v : Value} (e : DR τ h d v) : DR τ' h' d v := e.keep x.keep
noncomputable def VR (τ : Tau) (h : Heap) : V → Value → Prop
  | .d x, v => DR τ h x v
  | .ref n, v => ∃ a, v = .ref a ∧ τ a = .own n
theorem VR.mono {τ τ' : Tau} {h h' : Heap} (x : Ext τ h τ' h') {v : V} {r : Value} (e : VR τ h v r) : VR τ' h' v r := by
  cases v with
  | d y => exact DR.mono x e
  | ref n =>
    obtain ⟨a, e1, e2⟩ := e
    exact ⟨a, e1, (x.claim a (by rw [e2]; exact fun z => nomatch z)).trans e2⟩
inductive VRs (τ : Tau) (h : Heap) : List V → List Value → Prop where
  | nil : VRs τ h [] []
  | cons {v : V} {r : Value} {vs : List V} {rs : List Value} : VR τ h v r → VRs τ h vs rs → VRs τ h (v :: vs) (r :: rs)
theorem VRs.mono {τ τ' : Tau} {h h' : Heap} (x : Ext τ h τ' h') {vs : List V} {rs : List Value} (e : VRs τ h vs rs) : VRs τ' h' vs rs := by
  induction e with
  | nil => exact .nil
  | cons a _ ih => exact .cons (VR.mono x a) ih
theorem VRs.length {τ : Tau} {h : Heap} {vs : List V} {rs : List Value} (e : VRs τ h vs rs) : vs.length = rs.length := by
  induction e with
  | nil => rfl
  | cons _ _ ih => simp [ih]
theorem VRs.get {τ : Tau} {h : Heap} {vs : List V} {rs : List Value} (e : VRs τ h vs rs) : ∀ {i : Nat} {v : V}, vs[i]? = some v → ∃ r, rs[i]? = some r ∧ VR τ h v r := by
  induction e with
  | nil => intro i v hi; simp at hi
  | cons a _ ih =>
    intro i v hi
    cases i with
    | zero => simp at hi; subst hi; exact ⟨_, rfl, a⟩
    | succ i => exact ih (by simpa using hi)
theorem VRs.append {τ : Tau} {h : Heap} {vs us : List V} {rs ts : List Value} (e : VRs τ h vs rs) (f : VRs τ h us ts) : VRs τ h (vs ++ us) (rs ++ ts) := by
  induction e with
  | nil => exact f
  | cons a _ ih => exact .cons a ih
theorem VRs.snoc {τ : Tau} {h : Heap} {vs : List V} {rs : List Value} {v : V} {r : Value} (e : VRs τ h vs rs) (f : VR τ h v r) : VRs τ h (vs ++ [v]) (rs ++ [r]) := e.append (.cons f .nil)
theorem VRs.set {τ : Tau} {h : Heap} {vs : List V} {rs : List Value} {v : V} {r : Value} (e : VRs τ h vs rs) (f : VR τ h v r) : ∀ i, VRs τ h (vs.set i v) (rs.set i r) := by
  induction e with
  | nil => intro i; exact .nil
  | cons a b ih =>
    intro i
    cases i with
    | zero => exact .cons f b
    | succ i => exact .cons a (ih i)
theorem VRs.insertIdx {τ : Tau} {h : Heap} {vs : List V} {rs : List Value} {v : V} {r : Value} (e : VRs τ h vs rs) (f : VR τ h v r) : ∀ i, VRs τ h (vs.insertIdx i v) (rs.insertIdx i r) := by
  induction e with
  | nil => intro i; cases i with
    | zero => exact .cons f .nil
    | succ i => exact .nil
  | cons a b ih =>
    intro i
    cases i with
    | zero => exact .cons f (.cons a b)
    | succ i => exact .cons a (ih i)
theorem VRs.eraseIdx {τ : Tau} {h : Heap} {vs : List V} {rs : List Value} (e : VRs τ h vs rs) : ∀ i, VRs τ h (vs.eraseIdx i) (rs.eraseIdx i) := by
  induction e with
  | nil => intro i; exact .nil
  | cons a b ih =>
    intro i
    cases i with
    | zero => exact b
    | succ i => exact .cons a (ih i)
theorem VRs.take {τ : Tau} {h : Heap} {vs : List V} {rs : List Value} (e : VRs τ h vs rs) : ∀ i, VRs τ h (vs.take i) (rs.take i) := by
  induction e with
  | nil => intro i; simp; exact .nil
  | cons a b ih =>
    intro i
    cases i with
    | zero => exact .nil
    | succ i => exact .cons a (ih i)
theorem VRs.reverse {τ : Tau} {h : Heap} {vs : List V} {rs : List Value} (e : VRs τ h vs rs) : VRs τ h vs.reverse rs.reverse := by
  induction e with
  | nil => exact .nil
  | cons a b ih => simp only [List.reverse_cons]; exact ih.snoc a
theorem VRs.replicate {τ : Tau} {h : Heap} {vs : List V} {rs : List Value} (e : VRs τ h vs rs) : ∀ n, VRs τ h (List.replicate n vs).flatten (List.replicate n rs).flatten
  | 0 => .nil
  | n + 1 => by simp only [List.replicate_succ, List.flatten_cons]; exact e.append (VRs.replicate e n)
theorem DRs.vrs {τ : Tau} {h : Heap} : ∀ {ds : List D} {vs : List Value}, DRs τ h ds vs → VRs τ h (ds.map V.d) vs
  | [], vs, e => by cases e; exact .nil
  | d :: ds, vs, e => by
    obtain ⟨v, r, rfl, e2, e3⟩ := e
    exact .cons e2 (DRs.vrs e3)
inductive Loc where
  | dict (L : Addr) (x : Str)
  | cell (c : Addr) (own : Bool)
  | tab (P : Addr)
noncomputable def Loc.own : Loc → Bool
  | .dict _ _ => true
  | .cell _ b => b
  | .tab _ => true
noncomputable def LocHas (h : Heap) : Loc → Value → Prop
  | .dict L x, v => ∃ m, h.Ns L m ∧ m x = some v
  | .cell c _, v => h.IsCell c (some v)
  | .tab _, _ => False
noncomputable def LocOk (τ : Tau) (h : Heap) : Loc → Prop
  | .dict L _ => τ L = .fix ∧ ∃ m, h.Ns L m
  | .cell c b => (τ c = .fix ∨ (b = false ∧ τ c = .none)) ∧ ∃ v, h.IsCell c v
  | .tab P => τ P = .fix ∧ ∃ ps, h.get? P = some (tabObj ps) ∧ TriplesOk ps.toList
noncomputable def Loc.at : Loc → Addr
  | .dict L _ => L
  | .cell c _ => c
  | .tab P => P
structure PS where
  vars : List (Option V)
  own : List (List V)
structure Wd where
  w : World
  h₀ : Heap
  ex : Addr → Option Obj
  hg : Nat → Option GenState
  dr : Drawn
  os : OsState
noncomputable def Wd.B (W : Wd) (a : Addr) (o : Obj) : Prop := W.h₀.get? a = some o ∨ W.ex a = some o
structure Wd.Ok (W : Wd) : Prop where
  X : (hd.heap_1 W.w.params).In W.h₀
  T : ∃ loose mean mg mb, Top topProg loose mean mg mb W.h₀
noncomputable abbrev pw : Program := PySem.Challenge.pw_ux0010_01
structure R (W : Wd) (τ : Tau) (ls : List Loc) (st : PS) (s : Shared) : Prop where
  ok : W.Ok
  dr : s.drawn = W.dr
  os : s.os = W.os
  gens : AllBare s.gens
  hgens : ∀ g gs, W.hg g = some gs → s.gens[g]? = some gs
  base : ∀ a o, W.B a o → s.heap.get? a = some o ∧ τ a = .none
  own : ∀ (n : Nat) l, st.own[n]? = some l → ∃ a vs ep, τ a = .own n ∧ s.heap.get? a = some (LO vs ep) ∧ VRs τ s.heap l vs
  uniq : ∀ a b n, τ a = .own n → τ b = .own n → a = b
  bound : ∀ a n, τ a = .own n → n < st.own.length
  held : ∀ a o, τ a = .held o → s.heap.get? a = some o
  alive : ∀ a, τ a ≠ .none → ∃ o, s.heap.get? a = some o
  locs : ∀ l ∈ ls, LocOk τ s.heap l
  vars : ∀ (i : Nat) v, st.vars[i]? = some (some v) → ∃ loc r, ls[i]? = some loc ∧ LocHas s.heap loc r ∧ VR τ s.heap v r
  fixed : ∀ a, τ a = .fix → ∃ o, s.heap.get? a = some o ∧ ∀ xs n, o.data ≠ .seq xs n
end Mine.Internal
end
section
set_option genInjectivity false
open PySem PySem.W PyProof.Rows PySem.Calls
namespace Mine.Internal
variable {W : Wd} {τ : Tau} {ls : List Loc} {st : PS} {s : Shared}
theorem R.tok (r : R W τ ls st s) (t : Nat) : R W τ ls st { s with toks := t } :=
  ⟨r.ok, r.dr, r.os, r.gens, r.hgens, r.base, r.own, r.uniq, r.bound, r.held, r.alive, r.locs, r.vars, r.fixed⟩
theorem R.fresh (r : R W τ ls st s) {a : Addr} (h : s.heap.get? a = none) : τ a = .none := by
  cases e : τ a with
  | none => rfl
  | own n => obtain ⟨o, ho⟩ := r.alive a (by rw [e]; exact fun z => nomatch z); rw [h] at ho; cases ho
  | fix => obtain ⟨o, ho⟩ := r.alive a (by rw [e]; exact fun z => nomatch z); rw [h] at ho; cases ho
  | held o => have ho := r.held a o e; rw [h] at ho; cases ho
theorem get_size (h : Heap) : h.get? h.objs.size = none := by
  cases e : h.get? h.objs.size with
  | none => rfl
  | some o => exact absurd (Heap.lt_size e) (Nat.lt_irrefl _)
theorem R.freshSize (r : R W τ ls st s) : τ s.heap.objs.size = .none := r.fresh (get_size _)
theorem LocOk.keeps {τ τ' : Tau} {h h' : Heap} {l : Loc} (x : LocOk τ h l) (ht : τ l.at = .fix ∨ τ l.at = .none → τ' l.at = τ l.at) (hk : ∀ o, h.get? l.at = some o → h'.get? l.at = some o) : LocOk τ' h' l := by
  cases l with
  | dict L x' =>
    obtain ⟨e, m, hm⟩ := x
    exact ⟨(ht (.inl e)).trans e, m, hm.at hk⟩
  | cell c b =>
    obtain ⟨e, v, o, ho, hd⟩ := x
    rcases e with e | ⟨e1, e2⟩
    · exact ⟨.inl ((ht (.inl e)).trans e), v, o, hk o ho, hd⟩
    · exact ⟨.inr ⟨e1, (ht (.inr e2)).trans e2⟩, v, o, hk o ho, hd⟩
  | tab P =>
    obtain ⟨e, ps, h1, h2⟩ := x
    exact ⟨(ht (.inl e)).trans e, ps, hk _ h1, h2⟩
theorem LocHas.keeps {h h' : Heap} {l : Loc} {v : Value} (x : LocHas h l v) (hk : ∀ o, h.get? l.at = some o → h'.get? l.at = some o) : LocHas h' l v := by
  cases l with
  | dict L x' =>
    obtain ⟨m, hm, e⟩ := x
    exact ⟨m, hm.at hk, e⟩
  | cell c b =>
    obtain ⟨o, ho, hd⟩ := x
    exact ⟨o, hk o ho, hd⟩
  | tab P => exact x
theorem LocOk.fix {τ : Tau} {h : Heap} {l : Loc} (z : LocOk τ h l) : τ l.at = .fix ∨ τ l.at = .none := by
  cases l with
  | dict L y => exact .inl z.1
  | cell c b => exact z.1.imp id (·.2)
  | tab P => exact .inl z.1
theorem LocOk.own {τ : Tau} {h : Heap} {l : Loc} (z : LocOk τ h l) (ho : l.own = true) : τ l.at = .fix := by
  cases l with
  | dict L y => exact z.1
  | cell c b => exact z.1.elim id fun q => by rw [show b = true from ho] at q; cases q.1
  | tab P => exact z.1
theorem LocOk.alive {τ : Tau} {h : Heap} {l : Loc} (z : LocOk τ h l) : ∃ o, h.get? l.at = some o := by
  cases l with
  | dict L y => obtain ⟨_, m, o, es, ep, h1, _⟩ := z; exact ⟨o, h1⟩
  | cell c b => obtain ⟨_, v, o, h1, _⟩ := z; exact ⟨o, h1⟩
  | tab P => obtain ⟨_, ps, h1, _⟩ := z; exact ⟨_, h1⟩
theorem R.grow (r : R W τ ls st s) {h' : Heap} {t : Nat} (hk : ∀ b o, s.heap.get? b = some o → h'.get? b = some o) : R W τ ls st { s with heap := h', toks := t } ∧ Ext τ s.heap τ h' := by
  have x : Ext τ s.heap τ h' := ⟨fun _ _ => rfl, fun a o e g => ⟨e, hk a o g⟩⟩
  refine ⟨⟨r.ok, r.dr, r.os, r.gens, r.hgens, fun a o e => ⟨hk a o (r.base a o e).1, (r.base a o e).2⟩, fun n l e => ?_, r.uniq, r.bound, fun a o e => hk a o (r.held a o e), fun a e => ?_, fun l hl => (r.locs l hl).keeps (fun _ => rfl) fun o e => hk _ o e, fun i v e => ?_, fun a e => let ⟨o, h1, h2⟩ := r.fixed a e; ⟨o, hk a o h1, h2⟩⟩, x⟩
  · obtain ⟨a, vs, ep, h1, h2, h3⟩ := r.own n l e
    exact ⟨a, vs, ep, h1, hk a _ h2, h3.mono x⟩
  · obtain ⟨o, ho⟩ := r.alive a e
    exact ⟨o, hk a o ho⟩
  · obtain ⟨loc, v', h1, h2, h3⟩ := r.vars i v e
    exact ⟨loc, v', h1, h2.keeps fun o e => hk _ o e, h3.mono x⟩
theorem R.push (r : R W τ ls st s) (o : Obj) {t : Nat} : R W τ ls st { s with heap := s.heap.push o, toks := t } ∧ Ext τ s.heap τ (s.heap.push o) :=
  r.grow fun _ _ e => Heap.get?_push_of_some _ e
noncomputable def upd (τ : Tau) (a : Addr) (g : Gh) : Tau := fun b => if b = a then g else τ b
theorem upd_self (τ : Tau) (a : Addr) (g : Gh) : upd τ a g a = g := if_pos rfl
theorem upd_ne {τ : Tau} {a b : Addr} {g : Gh} (h : b ≠ a) : upd τ a g b = τ b := if_neg h
theorem R.new (r : R W τ ls st s) {a : Addr} {vs : List Value} {ep t : Nat} {l : List V} {h' : Heap} (hk : ∀ b o, s.heap.get? b = some o → h'.get? b = some o)
    (ha : s.heap.get? a = none) (ho : h'.get? a = some (LO vs ep)) (hl : VRs τ s.heap l vs) :
    R W (upd τ a (.own st.own.length)) ls { st with own := st.own ++ [l] } { s with heap := h', toks := t } ∧ Ext τ s.heap (upd τ a (.own st.own.length)) h' := by
  have hta := r.fresh ha
  have ne : ∀ b, τ b ≠ .none → b ≠ a := fun b hb e => hb (e ▸ hta)
  have ne' : ∀ b o, s.heap.get? b = some o → b ≠ a := fun b o e z => by rw [z, ha] at e; cases e
  have x : Ext τ s.heap (upd τ a (.own st.own.length)) h' := ⟨fun b e => upd_ne (ne b e), fun b o e g => ⟨(upd_ne (ne' b o g)).trans e, hk b o g⟩⟩
  refine ⟨⟨r.ok, r.dr, r.os, r.gens, r.hgens, fun b o e => ?_, fun n l' e => ?_, fun b c n e1 e2 => ?_, fun b n e => ?_, fun b o e => ?_, fun b e => ?_, fun l' hl' => ?_, fun i v e => ?_, fun b e => ?_⟩, x⟩
  · have z := r.base b o e
    exact (x.keep b o z.2 z.1).symm
  · dsimp only at e
    by_cases hn : n < st.own.length
    · rw [List.getElem?_append_left hn] at e
      obtain ⟨b, us, ep', h1, h2, h3⟩ := r.own n l' e
      exact ⟨b, us, ep', (x.claim b (by rw [h1]; exact fun z => nomatch z)).trans h1, hk b _ h2, h3.mono x⟩
    · have hn' : n = st.own.length := by
        have := (List.getElem?_eq_some_iff.mp e).1
        simp at this; (first | lia | omega)
      subst hn'
      simp at e
      subst e
      exact ⟨a, vs, ep, upd_self .., ho, hl.mono x⟩
  · by_cases hb : b = a
    · by_cases hc : c = a
      · rw [hb, hc]
      · rw [upd_ne hc] at e2
        rw [hb, upd_self] at e1
        have := r.bound c n e2
        cases e1
        exact absurd this (Nat.lt_irrefl _)
    · rw [upd_ne hb] at e1
      by_cases hc : c = a
      · rw [hc, upd_self] at e2
        have := r.bound b n e1
        cases e2
        exact absurd this (Nat.lt_irrefl _)
      · rw [upd_ne hc] at e2
        exact r.uniq b c n e1 e2
  · dsimp only
    rw [List.length_append]
    by_cases hb : b = a
    · rw [hb, upd_self] at e
      cases e
      exact Nat.lt_succ_self _
    · rw [upd_ne hb] at e
      exact Nat.lt_of_lt_of_le (r.bound b n e) (Nat.le_add_right _ _)
  · by_cases hb : b = a
    · rw [hb, upd_self] at e; cases e
    · rw [upd_ne hb] at e
      exact hk b o (r.held b o e)
  · by_cases hb : b = a
    · exact ⟨_, hb ▸ ho⟩
    · rw [upd_ne hb] at e
      obtain ⟨o, h1⟩ := r.alive b e
      exact ⟨o, hk b o h1⟩
  · have z := r.locs l' hl'
    obtain ⟨o, ho'⟩ := z.alive
    exact z.keeps (fun q => upd_ne (ne' _ o ho')) fun o e => hk _ o e
  · obtain ⟨loc, v', h1, h2, h3⟩ := r.vars i v e
    exact ⟨loc, v', h1, h2.keeps fun o e => hk _ o e, h3.mono x⟩
  · by_cases hb : b = a
    · rw [hb, upd_self] at e; cases e
    · rw [upd_ne hb] at e
      obtain ⟨o, h1, h2⟩ := r.fixed b e
      exact ⟨o, hk b o h1, h2⟩
theorem R.mut (r : R W τ ls st s) {a : Addr} {n : Nat} {vs' : List Value} {ep' t : Nat} {l' : List V} {h' : Heap} (hn : τ a = .own n) (hs : Heap.SameBut a s.heap h')
    (ho : h'.get? a = some (LO vs' ep')) (hl : VRs τ s.heap l' vs') :
    R W τ ls { st with own := st.own.set n l' } { s with heap := h', toks := t } ∧ Ext τ s.heap τ h' := by
  have ne : ∀ b, τ b ≠ .own n → b ≠ a := fun b hb e => hb (e ▸ hn)
  have x : Ext τ s.heap τ h' := ⟨fun _ _ => rfl, fun b o e g => ⟨e, (hs.2 b (ne b (by rw [e]; exact fun z => nomatch z))).trans g⟩⟩
  refine ⟨⟨r.ok, r.dr, r.os, r.gens, r.hgens, fun b o e => ?_, fun m l e => ?_, r.uniq, fun b m e => ?_, fun b o e => (hs.2 b (ne b (by rw [e]; exact fun z => nomatch z))).trans (r.held b o e), fun b e => ?_, fun l hl => ?_, fun i v e => ?_, fun b e => ?_⟩, x⟩
  · have z := r.base b o e
    exact ⟨(x.keep b o z.2 z.1).2, z.2⟩
  · dsimp only at e
    by_cases hm : m = n
    · subst hm
      have hb := r.bound a m hn
      rw [List.getElem?_set_self hb] at e
      cases e
      exact ⟨a, vs', ep', hn, ho, hl.mono x⟩
    · rw [List.getElem?_set_ne (Ne.symm hm)] at e
      obtain ⟨b, us, ep, h1, h2, h3⟩ := r.own m l e
      have hb : b ≠ a := ne b (by rw [h1]; intro z; cases z; exact hm rfl)
      exact ⟨b, us, ep, h1, (hs.2 b hb).trans h2, h3.mono x⟩
  · dsimp only
    rw [List.length_set]
    exact r.bound b m e
  · by_cases hb : b = a
    · exact ⟨_, hb ▸ ho⟩
    · obtain ⟨o, h1⟩ := r.alive b e
      exact ⟨o, (hs.2 b hb).trans h1⟩
  · have z := r.locs l hl
    exact z.keeps (fun _ => rfl) fun o e => (hs.2 _ (ne _ (by rcases z.fix with q | q <;> rw [q] <;> exact fun q => nomatch q))).trans e
  · obtain ⟨loc, v', h1, h2, h3⟩ := r.vars i v e
    have z := r.locs loc (List.mem_of_getElem? h1)
    exact ⟨loc, v', h1, h2.keeps fun o e => (hs.2 _ (ne _ (by rcases z.fix with q | q <;> rw [q] <;> exact fun q => nomatch q))).trans e, h3.mono x⟩
  · obtain ⟨o, h1, h2⟩ := r.fixed b e
    exact ⟨o, (hs.2 b (ne b (by rw [e]; exact fun z => nomatch z))).trans h1, h2⟩
theorem dict_cell {h : Heap} {L : Addr} {m : Str → Option Value} {v : Option Value} (x : h.Ns L m) (y : h.IsCell L v) : False := by
  obtain ⟨o, es, ep, h1, h2, _⟩ := x
  obtain ⟨o', g1, g2⟩ := y
  rw [h1] at g1
  cases g1
  rw [h2] at g2
  cases g2
theorem R.store (r : R W τ ls st s) (hd : ls.Nodup) {i : Nat} {loc : Loc} {v : V} {rv : Value} {h' : Heap} {t : Nat} (hi : ls[i]? = some loc) (hs : Heap.SameBut loc.at s.heap h')
    (ho : LocHas h' loc rv) (hoth : ∀ L x y u, loc = .dict L x → y ≠ x → LocHas s.heap (.dict L y) u → LocHas h' (.dict L y) u) (hv : VR τ s.heap v rv) (hlen : i < st.vars.length) (hown : loc.own = true) (hcells : ∀ c b b', Loc.cell c b ∈ ls → Loc.cell c b' ∈ ls → b = b') :
    R W τ ls { st with vars := st.vars.set i (some v) } { s with heap := h', toks := t } ∧ Ext τ s.heap τ h' := by
  have hm := List.mem_of_getElem? hi
  have hfix := (r.locs loc hm).own hown
  have ne : ∀ b, τ b ≠ .fix → b ≠ loc.at := fun b hb e => hb (e ▸ hfix)
  have x : Ext τ s.heap τ h' := ⟨fun _ _ => rfl, fun b o e g => ⟨e, (hs.2 b (ne b (by rw [e]; exact fun z => nomatch z))).trans g⟩⟩
  have alive : ∃ o, h'.get? loc.at = some o := by
    cases loc with
    | dict L y => obtain ⟨m, ⟨o, es, ep, h1, _⟩, _⟩ := ho; exact ⟨o, h1⟩
    | cell c _ => obtain ⟨o, h1, _⟩ := ho; exact ⟨o, h1⟩
    | tab P => exact ho.elim
  have kindNe : ∀ l ∈ ls, l.at = loc.at → (∃ L y z, l = .dict L y ∧ loc = .dict L z) ∨ ∃ c b b', l = .cell c b ∧ loc = .cell c b' := fun l hl e => by
    have z := r.locs l hl
    have z' := r.locs loc hm
    cases l with
    | dict L y => cases loc with
      | dict L' y' =>
        have e' : L = L' := e
        subst e'
        exact .inl ⟨L, y, y', rfl, rfl⟩
      | cell c b =>
        have e' : L = c := e
        subst e'
        obtain ⟨_, m, hm⟩ := z
        obtain ⟨_, u, hu⟩ := z'
        exact (dict_cell hm hu).elim
      | tab P => exact ho.elim
    | tab P => cases loc with
      | dict L y =>
        have e' : P = L := e
        subst e'
        obtain ⟨_, ps, h1, _⟩ := z
        obtain ⟨_, m, o, es, ep, h2, h3, _⟩ := z'
        rw [h1] at h2; cases h2; cases h3
      | cell c b =>
        have e' : P = c := e
        subst e'
        obtain ⟨_, ps, h1, _⟩ := z
        obtain ⟨_, v, o, h2, h3⟩ := z'
        rw [h1] at h2; cases h2; cases h3
      | tab P => exact ho.elim
    | cell c b => cases loc with
      | dict L' y' =>
        have e' : c = L' := e
        subst e'
        obtain ⟨_, m, hm⟩ := z'
        obtain ⟨_, u, hu⟩ := z
        exact (dict_cell hm hu).elim
      | cell c' b' =>
        have e' : c = c' := e
        subst e'
        exact .inr ⟨_, _, _, rfl, rfl⟩
      | tab P => exact ho.elim
  have locsNew : ∀ l ∈ ls, LocOk τ h' l := fun l hl => by
    have z := r.locs l hl
    by_cases e : l.at = loc.at
    · rcases kindNe l hl e with ⟨L, y, y', rfl, rfl⟩ | ⟨c, b, b', rfl, rfl⟩
      · obtain ⟨m, hm', _⟩ := ho
        exact ⟨z.1, m, hm'⟩
      · exact ⟨z.1, _, ho⟩
    · exact z.keeps (fun _ => rfl) fun o g => (hs.2 _ e).trans g
  refine ⟨⟨r.ok, r.dr, r.os, r.gens, r.hgens, fun b o e => ?_, fun m l e => ?_, r.uniq, r.bound, fun b o e => (hs.2 b (ne b (by rw [e]; exact fun z => nomatch z))).trans (r.held b o e), fun b e => ?_, locsNew, fun j u e => ?_, fun b e => ?_⟩, x⟩
  · have z := r.base b o e
    exact ⟨(x.keep b o z.2 z.1).2, z.2⟩
  · obtain ⟨b, us, ep, h1, h2, h3⟩ := r.own m l e
    exact ⟨b, us, ep, h1, (hs.2 b (ne b (by rw [h1]; exact fun z => nomatch z))).trans h2, h3.mono x⟩
  · by_cases hb : b = loc.at
    · rw [hb]; exact alive
    · obtain ⟨o, h1⟩ := r.alive b e
      exact ⟨o, (hs.2 b hb).trans h1⟩
  · dsimp only at e
    by_cases hj : j = i
    · subst hj
      rw [List.getElem?_set_self hlen] at e
      cases e
      exact ⟨loc, rv, hi, ho, hv.mono x⟩
    · rw [List.getElem?_set_ne (Ne.symm hj)] at e
      obtain ⟨l, v', h1, h2, h3⟩ := r.vars j u e
      refine ⟨l, v', h1, ?_, h3.mono x⟩
      have hl := List.mem_of_getElem? h1
      have hne : l ≠ loc := fun q => hj (by
        subst q
        have l1 := (List.getElem?_eq_some_iff.mp h1).1
        have l2 := (List.getElem?_eq_some_iff.mp hi).1
        have := (List.getElem_inj (h₀ := l1) (h₁ := l2) hd).mp (by rw [(List.getElem?_eq_some_iff.mp h1).2, (List.getElem?_eq_some_iff.mp hi).2])
        exact this)
      by_cases hat : l.at = loc.at
      · rcases kindNe l hl hat with ⟨L, y, z, e1, e2⟩ | ⟨c, b, b', e1, e2⟩
        · subst e1 e2
          exact hoth L z y v' rfl (fun q => hne (by rw [q])) h2
        · subst e1 e2
          have := hcells c b b' hl hm
          exact absurd (by rw [this]) hne
      · exact h2.keeps fun o g => (hs.2 _ hat).trans g
  · by_cases hb : b = loc.at
    · subst hb
      cases loc with
      | dict L y => obtain ⟨m, ⟨o, es, ep, h1, h2, _⟩, _⟩ := ho; exact ⟨o, h1, fun xs n => by rw [h2]; exact fun z => nomatch z⟩
      | cell c _ => obtain ⟨o, h1, h2⟩ := ho; exact ⟨o, h1, fun xs n => by rw [h2]; exact fun z => nomatch z⟩
      | tab P => exact ho.elim
    · obtain ⟨o, h1, h2⟩ := r.fixed b e
      exact ⟨o, (hs.2 b hb).trans h1, h2⟩
end Mine.Internal
end
section
set_option genInjectivity false
open PySem PySem.W PyProof.Rows PySem.Calls
namespace Mine.Internal
structure AOk (A : Around) (k : Nat) : Prop where
  handled : A.handled = none
  depth : A.depth + k < 990
  units : A.units + 40 * k < 9000
structure Cx where
  env : Env
  ls : List Loc
  ix : List (Str × Nat)
  cap : Nat
structure Cx.Ok (c : Cx) : Prop where
  kind : c.env.scope.kind = .function
  glob : c.env.globals = mainGlobals
  blt : c.env.builtins = builtinsNs
  nodup : c.ls.Nodup
  cells : ∀ a b b', Loc.cell a b ∈ c.ls → Loc.cell a b' ∈ c.ls → b = b'
  own : ∀ i l, i < c.cap → c.ls[i]? = some l → l.own = true
  inj : ∀ x y i, c.ix.lookup x = some i → c.ix.lookup y = some i → x = y
  ix : ∀ x i, c.ix.lookup x = some i → (c.env.kindOf x = some .local ∧ c.ls[i]? = some (.dict c.env.locals x)) ∨
    ((c.env.kindOf x = some .cell ∨ c.env.kindOf x = some .free) ∧ ∃ a b, c.env.cells.lookup x = some a ∧ c.ls[i]? = some (.cell a b))
inductive Fl where
  | next
  | brk
  | cont
  | ret (v : V)
noncomputable def FR (τ : Tau) (h : Heap) : Fl → Flow → Prop
  | .next, f => f = .next
  | .brk, f => f = .brk
  | .cont, f => f = .cont
  | .ret v, f => ∃ r, f = .ret r ∧ VR τ h v r
section
variable (W : Wd) (c : Cx) (k : Nat)
noncomputable def TE (st : PS) (e : Expr) (v : V) (st' : PS) : Prop :=
  c.Ok → ∀ (A : Around) (τ : Tau) (s : Shared) (Q : Value → Shared → Prop) (E : Value → Shared → Prop), AOk A k → R W τ c.ls st s → 0 < s.toks →
    (∀ τ' s' v', 0 < s'.toks → Ext τ s.heap τ' s'.heap → R W τ' c.ls st' s' → VR τ' s'.heap v v' → Q v' s') → wpAny (model pw W.w) A (eval e c.env) Q E s
noncomputable def TEs (st : PS) (es : List Expr) (v : List V) (st' : PS) : Prop :=
  c.Ok → ∀ (A : Around) (τ : Tau) (s : Shared) (Q : List Value → Shared → Prop) (E : Value → Shared → Prop) (pos : Pos), AOk A k → R W τ c.ls st s → 0 < s.toks →
    (∀ τ' s' v', 0 < s'.toks → Ext τ s.heap τ' s'.heap → R W τ' c.ls st' s' → VRs τ' s'.heap v v' → Q v' s') → wpAny (model pw W.w) A (spliced (backTo pos (starEach es c.env))) Q E s
noncomputable def TB (st : PS) (e : Expr) (b : Bool) (st' : PS) : Prop :=
  c.Ok → ∀ (A : Around) (τ : Tau) (s : Shared) (Q : Bool → Shared → Prop) (E : Value → Shared → Prop), AOk A k → R W τ c.ls st s → 0 < s.toks →
    (∀ τ' s', 0 < s'.toks → Ext τ s.heap τ' s'.heap → R W τ' c.ls st' s' → Q b s') → wpAny (model pw W.w) A (isTrue e c.env (eval e c.env)) Q E s
noncomputable def TS1 (st : PS) (x : Stmt) (f : Fl) (st' : PS) : Prop :=
  c.Ok → ∀ (A : Around) (τ : Tau) (s : Shared) (Q : Flow → Shared → Prop) (E : Value → Shared → Prop), AOk A k → R W τ c.ls st s → 0 < s.toks →
    (∀ τ' s' f', 0 < s'.toks → Ext τ s.heap τ' s'.heap → R W τ' c.ls st' s' → FR τ' s'.heap f f' → Q f' s') → wpAny (model pw W.w) A (exec x c.env) Q E s
noncomputable def TS (st : PS) (xs : List Stmt) (f : Fl) (st' : PS) : Prop :=
  c.Ok → ∀ (A : Around) (τ : Tau) (s : Shared) (Q : Flow → Shared → Prop) (E : Value → Shared → Prop), AOk A k → R W τ c.ls st s → 0 < s.toks →
    (∀ τ' s' f', 0 < s'.toks → Ext τ s.heap τ' s'.heap → R W τ' c.ls st' s' → FR τ' s'.heap f f' → Q f' s') → wpAny (model pw W.w) A (execs xs c.env) Q E s
end
theorem AOk.up {A : Around} {k : Nat} (h : AOk A (k + 1)) : AOk A k := ⟨h.handled, by have := h.depth; (first | lia | omega), by have := h.units; (first | lia | omega)⟩
section
variable {W : Wd} {c : Cx} {k : Nat} {st st1 st2 st3 : PS}
theorem TE.up {e : Expr} {v : V} (h : TE W c k st e v st1) : TE W c (k + 1) st e v st1 := fun ok A τ s Q E hA => h ok A τ s Q E hA.up
theorem TEs.up {e : List Expr} {v : List V} (h : TEs W c k st e v st1) : TEs W c (k + 1) st e v st1 := fun ok A τ s Q E p hA => h ok A τ s Q E p hA.up
theorem TB.up {e : Expr} {v : Bool} (h : TB W c k st e v st1) : TB W c (k + 1) st e v st1 := fun ok A τ s Q E hA => h ok A τ s Q E hA.up
theorem TS1.up {e : Stmt} {v : Fl} (h : TS1 W c k st e v st1) : TS1 W c (k + 1) st e v st1 := fun ok A τ s Q E hA => h ok A τ s Q E hA.up
theorem TS.up {e : List Stmt} {v : Fl} (h : TS W c k st e v st1) : TS W c (k + 1) st e v st1 := fun ok A τ s Q E hA => h ok A τ s Q E hA.up
theorem TE.mk {e : Expr} {v : V} (h : c.Ok → ∀ (A : Around) (τ : Tau) (s : Shared) (Q : Value → Shared → Prop) (E : Value → Shared → Prop), AOk A k → R W τ c.ls st s → 0 < s.toks →
    (∀ τ' s' v', Ext τ s.heap τ' s'.heap → R W τ' c.ls st1 s' → VR τ' s'.heap v v' → Q v' s') → wpAny (model pw W.w) A (eval e c.env) Q E s) : TE W c k st e v st1 :=
  fun ok A τ s Q E hA r ht hQ => wpAny_with_toks (n := 1) ht (h ok A τ s _ _ hA r ht fun τ' s' v' x R' hv htk => hQ τ' s' v' htk x R' hv)
theorem TEs.mk {e : List Expr} {v : List V} (h : c.Ok → ∀ (A : Around) (τ : Tau) (s : Shared) (Q : List Value → Shared → Prop) (E : Value → Shared → Prop) (pos : Pos), AOk A k → R W τ c.ls st s → 0 < s.toks →
    (∀ τ' s' v', Ext τ s.heap τ' s'.heap → R W τ' c.ls st1 s' → VRs τ' s'.heap v v' → Q v' s') → wpAny (model pw W.w) A (spliced (backTo pos (starEach e c.env))) Q E s) : TEs W c k st e v st1 :=
  fun ok A τ s Q E pos hA r ht hQ => wpAny_with_toks (n := 1) ht (h ok A τ s _ _ pos hA r ht fun τ' s' v' x R' hv htk => hQ τ' s' v' htk x R' hv)
theorem TB.mk {e : Expr} {v : Bool} (h : c.Ok → ∀ (A : Around) (τ : Tau) (s : Shared) (Q : Bool → Shared → Prop) (E : Value → Shared → Prop), AOk A k → R W τ c.ls st s → 0 < s.toks →
    (∀ τ' s', Ext τ s.heap τ' s'.heap → R W τ' c.ls st1 s' → Q v s') → wpAny (model pw W.w) A (isTrue e c.env (eval e c.env)) Q E s) : TB W c k st e v st1 :=
  fun ok A τ s Q E hA r ht hQ => wpAny_with_toks (n := 1) ht (h ok A τ s _ _ hA r ht fun τ' s' x R' htk => hQ τ' s' htk x R')
theorem TS1.mk {e : Stmt} {v : Fl} (h : c.Ok → ∀ (A : Around) (τ : Tau) (s : Shared) (Q : Flow → Shared → Prop) (E : Value → Shared → Prop), AOk A k → R W τ c.ls st s → 0 < s.toks →
    (∀ τ' s' v', Ext τ s.heap τ' s'.heap → R W τ' c.ls st1 s' → FR τ' s'.heap v v' → Q v' s') → wpAny (model pw W.w) A (exec e c.env) Q E s) : TS1 W c k st e v st1 :=
  fun ok A τ s Q E hA r ht hQ => wpAny_with_toks (n := 1) ht (h ok A τ s _ _ hA r ht fun τ' s' v' x R' hv htk => hQ τ' s' v' htk x R' hv)
theorem TE.pureTok {e : Expr} (v : V)
    (h : ∀ (A : Around) (s : Shared) (Q : Value → Shared → Prop) (E : Value → Shared → Prop) τ, R W τ c.ls st s → (∀ v' t, VR τ s.heap v v' → Q v' { s with toks := t }) → wpAny (model pw W.w) A (eval e c.env) Q E s) : TE W c k st e v st :=
  .mk fun _ A τ s Q E _ r _ hQ => h A s Q E τ r fun v' t hv => hQ τ _ v' (Ext.refl ..) (r.tok t) hv
theorem TE.none {kd : Nat} {p : Pos} : TE W c k st (.Constant .none kd p) (.d .none) st :=
  .pureTok _ fun A s Q E τ r hQ => wpAny_Constant_none (hQ _ s.toks rfl)
theorem TE.bool {b : Bool} {kd : Nat} {p : Pos} : TE W c k st (.Constant (.bool b) kd p) (.d (.bool b)) st :=
  .pureTok _ fun A s Q E τ r hQ => wpAny_Constant_bool (hQ _ s.toks rfl)
theorem TE.int {i : Int} {kd : Nat} {p : Pos} : TE W c k st (.Constant (.int i) kd p) (.d (.int i)) st :=
  .pureTok _ fun A s Q E τ r hQ => wpAny_Constant_int (hQ _ _ ⟨_, rfl⟩)
theorem TE.str {x : Str} {kd : Nat} {p : Pos} : TE W c k st (.Constant (.str x) kd p) (.d (.str x)) st :=
  .pureTok _ fun A s Q E τ r hQ => wpAny_Constant_str (hQ _ _ ⟨_, rfl⟩)
theorem TE.name {x : Str} {p : Pos} {i : Nat} {v : V} (hi : c.ix.lookup x = some i) (hv : st.vars[i]? = some (some v))
    (hd : (x == ("__debug__" : Str)) = false) (hc : (x == ("__classdict__" : Str)) = false) : TE W c k st (.Name x p) v st :=
  .mk fun ok A τ s Q E hA r ht hQ => by
  obtain ⟨loc, rv, h1, h2, h3⟩ := r.vars i v hv
  have fin : Q rv s := hQ τ s rv (Ext.refl ..) r h3
  rcases ok.ix x i hi with ⟨hk, hl⟩ | ⟨hk, a, b, ha, hl⟩
  · rw [h1] at hl
    cases hl
    obtain ⟨m, hm, he⟩ := h2
    exact wpAny_Name (wpAny_loadName_local ok.kind hk hm he fin) hd
  · rw [h1] at hl
    cases hl
    rcases hk with hk | hk
    · exact wpAny_Name (wpAny_loadName_cell ok.kind hk ha h2 fin) hd
    · exact wpAny_Name (wpAny_loadName_free ok.kind hk ha h2 fin hc) hd
theorem R.glob {τ : Tau} {ls : List Loc} {st : PS} {s : Shared} (r : R W τ ls st s) {x : Str} {v : Value} (e : nsIn (hd.heap_1 W.w.params) mainGlobals x = some (some v)) : ∃ mg, s.heap.Ns mainGlobals mg ∧ mg x = some v := by
  obtain ⟨loose, mean, mg, mb, T⟩ := r.ok.T
  exact ⟨mg, T.g.keeps fun b o e => (r.base b o (.inl e)).1, mg_of r.ok.X T.g e⟩
theorem R.blt {τ : Tau} {ls : List Loc} {st : PS} {s : Shared} (r : R W τ ls st s) {x : Str} {v : Value} (e : nsIn (hd.heap_1 W.w.params) mainGlobals x = some none) (hv : bootBuiltins x = some v) (hn : x ≠ "__name__") :
    ∃ mg mb, s.heap.Ns mainGlobals mg ∧ mg x = none ∧ s.heap.Ns builtinsNs mb ∧ mb x = some v := by
  obtain ⟨loose, mean, mg, mb, T⟩ := r.ok.T
  exact ⟨mg, mb, T.g.keeps fun b o e => (r.base b o (.inl e)).1, mg_none_of r.ok.X T.g e, T.b.keeps fun b o e => (r.base b o (.inl e)).1, (T.builtins x hn).trans hv⟩
theorem wpAny_globName {τ : Tau} {ls : List Loc} {st : PS} {s : Shared} {A : Around} {Q : Value → Shared → Prop} {E : Value → Shared → Prop} (ok : c.Ok) (r : R W τ ls st s) {x : Str} {p : Pos} {v : Value}
    (e : nsIn (hd.heap_1 W.w.params) mainGlobals x = some (some v)) (hx : c.env.kindOf x = some .globalImplicit) (h : Q v s) (hd : (x == ("__debug__" : Str)) = false := by decide) : wpAny (model pw W.w) A (eval (.Name x p) c.env) Q E s := by
  obtain ⟨mg, hg, he⟩ := r.glob e
  exact Name_function_global ok.kind hx (loadGlobal_global (by rw [ok.glob]; exact hg) he h) hd
theorem wpAny_bltName {τ : Tau} {ls : List Loc} {st : PS} {s : Shared} {A : Around} {Q : Value → Shared → Prop} {E : Value → Shared → Prop} (ok : c.Ok) (r : R W τ ls st s) {x : Str} {p : Pos} {v : Value}
    (e : nsIn (hd.heap_1 W.w.params) mainGlobals x = some none) (hv : bootBuiltins x = some v) (hn : x ≠ "__name__") (hx : c.env.kindOf x = some .globalImplicit) (h : Q v s) (hd : (x == ("__debug__" : Str)) = false := by decide) :
    wpAny (model pw W.w) A (eval (.Name x p) c.env) Q E s := by
  obtain ⟨mg, mb, hg, he, hb, hbv⟩ := r.blt e hv hn
  exact Name_function_global ok.kind hx (loadGlobal_builtin (by rw [ok.glob]; exact hg) he (by rw [ok.blt]; exact hb) hbv h) hd
theorem TE.glob {x : Str} {p : Pos} {a : Addr} (e : ∀ q, nsIn (hd.heap_1 q) mainGlobals x = some (some (.ref a))) (hx : c.env.kindOf x = some .globalImplicit)
    (hd : (x == ("__debug__" : Str)) = false) : TE W c k st (.Name x p) (.d (.fn a)) st :=
  .mk fun ok A τ s Q E hA r _ hQ => wpAny_globName ok r (e _) hx (hQ τ s _ (Ext.refl ..) r rfl) hd
theorem TEs.nil : TEs W c k st [] [] st :=
  .mk fun ok A τ s Q E pos hA R0 ht hQ => wpAny_items_nil (hQ τ s [] (Ext.refl ..) R0 .nil)
theorem TEs.cons {e : Expr} {es : List Expr} {v : V} {vs : List V} (h1 : TE W c k st e v st1) (h2 : TEs W c k st1 es vs st2)
    (he : starEach (e :: es) c.env = (false, eval e c.env) :: starEach es c.env) : TEs W c k st (e :: es) (v :: vs) st2 :=
  .mk fun ok A τ s Q E pos hA R0 ht hQ => wpAny_items_cons (h1 ok A τ s _ E hA R0 ht fun τ1 s1 a' t1 x1 R1 v1 => h2 ok A τ1 s1 _ E pos hA R1 t1 fun τ2 s2 b' t2 x2 R2 v2 =>
    hQ τ2 s2 _ (x1.trans x2) R2 (.cons (v1.mono x2) v2)) he
theorem TE.list {es : List Expr} {p : Pos} {vs : List V} (h : TEs W c k st es vs st1) (hl : vs.length ≤ 1000) : TE W c k st (.List es p) (.ref st1.own.length) { st1 with own := st1.own ++ [vs] } :=
  .mk fun ok A τ s Q E hA R0 ht hQ => wpAny_List (h ok A τ s _ E p hA R0 ht fun τ1 s1 a' t1 x1 R1 v1 => by
    have z := R1.new (a := s1.heap.objs.size) (h' := s1.heap.push (LO a' 0)) (t := s1.toks) (fun b o e => Heap.get?_push_of_some _ e) (get_size _) (Heap.get?_push_size _ rfl) v1
    refine ⟨?_, hQ _ _ _ (x1.trans z.2) z.1 ⟨_, rfl, upd_self ..⟩⟩
    have := v1.length
    rw [sizeLine_eq]
    (first | lia | omega))
theorem TS.nil : TS W c k st [] .next st :=
  fun ok A τ s Q E hA R0 ht hQ => wpAny_execs_nil (hQ τ s _ ht (Ext.refl ..) R0 rfl)
theorem TS.cons {x : Stmt} {xs : List Stmt} {f : Fl} (h1 : TS1 W c k st x .next st1) (h2 : TS W c k st1 xs f st2) : TS W c k st (x :: xs) f st2 :=
  fun ok A τ s Q E hA R0 ht hQ => wpAny_execs_cons (h1 ok A τ s _ E hA R0 ht fun τ1 s1 f' t1 x1 R1 v1 => by
    cases v1
    exact h2 ok A τ1 s1 Q E hA R1 t1 fun τ2 s2 g' t2 x2 R2 v2 => hQ τ2 s2 g' t2 (x1.trans x2) R2 v2)
theorem TS.stop {x : Stmt} {xs : List Stmt} {f : Fl} (h1 : TS1 W c k st x f st1) (hf : f ≠ .next) : TS W c k st (x :: xs) f st1 :=
  fun ok A τ s Q E hA R0 ht hQ => wpAny_execs_cons (h1 ok A τ s _ E hA R0 ht fun τ1 s1 f' t1 x1 R1 v1 => by
    cases f with
    | next => exact absurd rfl hf
    | brk => cases v1; exact hQ τ1 s1 _ t1 x1 R1 rfl
    | cont => cases v1; exact hQ τ1 s1 _ t1 x1 R1 rfl
    | ret v => obtain ⟨r, rfl, hr⟩ := v1; exact hQ τ1 s1 _ t1 x1 R1 ⟨r, rfl, hr⟩)
theorem TS1.ret {e : Expr} {p : Pos} {v : V} (h : TE W c k st e v st1) : TS1 W c k st (.Return (some e) p) (.ret v) st1 :=
  .mk fun ok A τ s Q E hA R0 ht hQ => wpAny_Return_some (h ok A τ s _ E hA R0 ht fun τ1 s1 a' t1 x1 R1 v1 => hQ τ1 s1 _ x1 R1 ⟨a', rfl, v1⟩)
theorem TS1.brk {p : Pos} : TS1 W c k st (.Break p) .brk st :=
  .mk fun ok A τ s Q E hA R0 ht hQ => wpAny_Break (hQ τ s _ (Ext.refl ..) R0 rfl)
theorem TS1.ite {test : Expr} {b o : List Stmt} {p : Pos} {t : Bool} {f : Fl} (h1 : TB W c k st test t st1) (h2 : TS W c k st1 (if t then b else o) f st2) : TS1 W c k st (.If test b o p) f st2 :=
  .mk fun ok A τ s Q E hA R0 ht hQ => wpAny_If (h1 ok A τ s _ E hA R0 ht fun τ1 s1 t1 x1 R1 => by
    cases t with
    | true => exact h2 ok A τ1 s1 Q E hA R1 t1 fun τ2 s2 g' t2 x2 R2 v2 => hQ τ2 s2 g' (x1.trans x2) R2 v2
    | false => exact h2 ok A τ1 s1 Q E hA R1 t1 fun τ2 s2 g' t2 x2 R2 v2 => hQ τ2 s2 g' (x1.trans x2) R2 v2)
theorem storeTo (ok : c.Ok) {A : Around} {τ : Tau} {s : Shared} {Q : Unit → Shared → Prop} {E : Value → Shared → Prop} {x : Str} {i : Nat} {v : V} {rv : Value} (r : R W τ c.ls st s) (hi : c.ix.lookup x = some i)
    (hl : i < st.vars.length) (hcap : i < c.cap) (hnf : c.env.kindOf x ≠ some .free) (hv : VR τ s.heap v rv)
    (hQ : ∀ s', R W τ c.ls { st with vars := st.vars.set i (some v) } s' → Ext τ s.heap τ s'.heap → Q () s') : wpAny (model pw W.w) A (storeName c.env x rv) Q E s := by
  rcases ok.ix x i hi with ⟨hk, h1⟩ | ⟨hk, a, bb, ha, h1⟩
  · have hm := List.mem_of_getElem? h1
    obtain ⟨_, m, hn⟩ := r.locs _ hm
    refine wpAny_storeName_local hk hn (fun h' hn' hs => ?_) (by rw [ok.kind]; rfl)
    have z := r.store ok.nodup (t := s.toks + 1) h1 hs ⟨_, hn', by simp⟩ (fun L y z u e hne hu => by
      cases e
      obtain ⟨m', hm', he⟩ := hu
      refine ⟨_, hn', ?_⟩
      show (if z = x then some rv else m z) = some u
      rw [if_neg hne, ← he]
      exact Heap.Ns.agree hn hm' z) hv hl (ok.own _ _ hcap h1) ok.cells
    exact hQ _ z.1 z.2
  · have hm := List.mem_of_getElem? h1
    obtain ⟨_, u, hc⟩ := r.locs _ hm
    rcases hk with hk | hk
    · refine wpAny_storeName_cell ok.kind hk ha hc fun h' hc' hs => ?_
      have z := r.store ok.nodup (t := s.toks) h1 hs hc' (fun L y z u e => nomatch e) hv hl (ok.own _ _ hcap h1) ok.cells
      exact hQ _ z.1 z.2
    · exact absurd hk hnf
theorem TS1.assign {x : Str} {px p : Pos} {e : Expr} {i : Nat} {v : V} (hs : swapsWith e (some (.Name x px)) p.line c.env = pure false) (hi : c.ix.lookup x = some i) (hcap : i < c.cap) (hnf : c.env.kindOf x ≠ some .free)
    (h : TE W c k st e v st1) (hl : i < st1.vars.length) : TS1 W c k st (.Assign [.Name x px] e p) .next { st1 with vars := st1.vars.set i (some v) } :=
  .mk fun ok A τ s Q E hA R0 ht hQ => wpAny_Assign_Name (h ok A τ s _ E hA R0 ht fun τ1 s1 a' t1 x1 R1 v1 => storeTo ok R1 hi hl hcap hnf v1 fun s' R' x' => hQ τ1 s' _ (x1.trans x') R' rfl) hs
end
end Mine.Internal
end
section
set_option genInjectivity false
open PySem PySem.W PyProof.Rows PySem.Calls
namespace Mine.Internal
noncomputable def bd {α β : Type} (x : Option α) (f : α → Option β) : Option β := match x with
  | .none => .none
  | some a => f a
noncomputable def bd2 {α β : Type} (x : Option (α × PS)) (f : α → PS → Option β) : Option β := match x with
  | .none => .none
  | some (a, s) => f a s
noncomputable def gd {β : Type} (p : Prop) [Decidable p] (x : Option β) : Option β := if p then x else .none
noncomputable def ifB {β : Type} (b : Bool) (x y : β) : β := match b with
  | true => x
  | false => y
noncomputable def asI : V → Option Int
  | .d (.int i) => some i
  | _ => .none
noncomputable def asS : V → Option Str
  | .d (.str x) => some x
  | _ => .none
noncomputable def asB : V → Option Bool
  | .d (.bool b) => some b
  | _ => .none
noncomputable def asF : V → Option Addr
  | .d (.fn a) => some a
  | _ => .none
noncomputable def bdI {β : Type} (x : Option (V × PS)) (f : Int → PS → Option β) : Option β := bd2 x fun v s => bd (asI v) fun i => f i s
noncomputable def bdS {β : Type} (x : Option (V × PS)) (f : Str → PS → Option β) : Option β := bd2 x fun v s => bd (asS v) fun i => f i s
noncomputable def bdB {β : Type} (x : Option (V × PS)) (f : Bool → PS → Option β) : Option β := bd2 x fun v s => bd (asB v) fun i => f i s
noncomputable def getV (st : PS) (i : Nat) : Option V := (st.vars[i]?).join
section
variable {α β : Type} {P : Prop} {r : β}
theorem bd_c {x : Option α} {f : α → Option β} (h : bd x f = some r) (k : ∀ a, x = some a → f a = some r → P) : P := by
  cases x with
  | none => cases h
  | some a => exact k a rfl h
theorem bd2_c {x : Option (α × PS)} {f : α → PS → Option β} (h : bd2 x f = some r) (k : ∀ a s, x = some (a, s) → f a s = some r → P) : P := by
  cases x with
  | none => cases h
  | some a => exact k a.1 a.2 rfl h
theorem gd_c {p : Prop} [Decidable p] {x : Option β} (h : gd p x = some r) (k : p → x = some r → P) : P := by
  unfold gd at h
  by_cases hp : p
  · rw [if_pos hp] at h; exact k hp h
  · rw [if_neg hp] at h; cases h
theorem bd_s {x : Option α} {a : α} {f : α → Option β} (h : x = some a) : bd x f = f a := by rw [h]; rfl
theorem bd2_s {x : Option (α × PS)} {a : α} {s : PS} {f : α → PS → Option β} (h : x = some (a, s)) : bd2 x f = f a s := by rw [h]; rfl
theorem gd_s {p : Prop} [Decidable p] {x : Option β} (h : p) : gd p x = x := if_pos h
theorem asI_e {v : V} {i : Int} (h : asI v = some i) : v = .d (.int i) := by
  cases v with
  | ref n => cases h
  | d x => cases x <;> cases h; rfl
theorem asS_e {v : V} {i : Str} (h : asS v = some i) : v = .d (.str i) := by
  cases v with
  | ref n => cases h
  | d x => cases x <;> cases h; rfl
theorem asB_e {v : V} {i : Bool} (h : asB v = some i) : v = .d (.bool i) := by
  cases v with
  | ref n => cases h
  | d x => cases x <;> cases h; rfl
theorem asF_e {v : V} {i : Addr} (h : asF v = some i) : v = .d (.fn i) := by
  cases v with
  | ref n => cases h
  | d x => cases x <;> cases h; rfl
theorem bdI_c {x : Option (V × PS)} {f : Int → PS → Option β} (h : bdI x f = some r) (k : ∀ i s, x = some (.d (.int i), s) → f i s = some r → P) : P :=
  bd2_c h fun v s e h => bd_c h fun i e2 h => k i s (asI_e e2 ▸ e) h
theorem bdS_c {x : Option (V × PS)} {f : Str → PS → Option β} (h : bdS x f = some r) (k : ∀ i s, x = some (.d (.str i), s) → f i s = some r → P) : P :=
  bd2_c h fun v s e h => bd_c h fun i e2 h => k i s (asS_e e2 ▸ e) h
theorem bdB_c {x : Option (V × PS)} {f : Bool → PS → Option β} (h : bdB x f = some r) (k : ∀ i s, x = some (.d (.bool i), s) → f i s = some r → P) : P :=
  bd2_c h fun v s e h => bd_c h fun i e2 h => k i s (asB_e e2 ▸ e) h
theorem some_c {x : β} (h : some x = some r) (k : x = r → P) : P := k (Option.some.inj h)
theorem ret_c {γ : Type} {x : γ} {s s' : PS} {v : γ} (h : some (x, s) = some (v, s')) (p : γ → PS → Prop) (k : p x s) : p v s' := by
  cases h; exact k
theorem setVar_c {P : PS → Prop} {st1 st2 : PS} {i : Nat} {v : V} (h : (if i < st1.vars.length then some { st1 with vars := st1.vars.set i (some v) } else Option.none) = some st2) (k : i < st1.vars.length → P { st1 with vars := st1.vars.set i (some v) }) : P st2 :=
  gd_c h fun hi e => Option.some.inj e ▸ k hi
theorem join_c {o : Option (Option α)} {v : α} (h : o.join = some v) : o = some (some v) := by
  cases o with
  | none => cases h
  | some w => cases w with
    | none => cases h
    | some a => cases h; rfl
end
noncomputable def items (st : PS) : V → Option (List V)
  | .d (.list l) => some (l.map V.d)
  | .ref n => st.own[n]?
  | _ => none
noncomputable def isNo : V → Bool
  | .d .none => true
  | _ => false
mutual
inductive E
  | none
  | bool (b : Bool)
  | int (i : Int)
  | str (x : Str)
  | var (i : Nat)
  | gfn (a : Addr)
  | bin (op : Operator) (a b : E)
  | neg (a : E)
  | not (a : E)
  | cmp (op : CmpOp) (a b : E)
  | and (a b : E)
  | or (a b : E)
  | sub (a b : E)
  | take (a : E) (n : Nat)
  | rev (a : E)
  | sfrom (a b : E)
  | scut (a b c : E)
  | list (es : Es)
  | len (a : E)
  | sum (a : E)
  | min (a b : E)
  | max (a b : E)
  | copy (a : E)
  | pop (a b : E)
  | replace (a : E) (x y : Str)
  | join (x : Str) (a : E)
  | call (a : Addr) (args : Es)
  | callKey (a : Addr) (args : Es) (key : E)
  | callVar (i : Nat) (a : E)
  | frz (a : E)
  | comp (m : Nat) (caps : List Nat) (elt : E) (i : Nat) (it : It) (t : Op) (g : Gs)
inductive Es
  | nil
  | cons (e : E) (es : Es)
inductive Gs
  | nil
  | cons (i : Nat) (it : It) (t : Op) (g : Gs)
inductive Op
  | no
  | yes (e : E)
inductive It
  | list (e : E)
  | range1 (a : E)
  | range2 (a b : E)
  | range3 (a b c : E)
end
mutual
inductive S
  | assign (i : Nat) (e : E)
  | setItem (a i e : E)
  | aug (i : Nat) (op : Operator) (e : E)
  | for (i : Nat) (it : It) (body : Ss)
  | forEsc (i j : Nat) (e : E) (body : Ss)
  | forGrp (i : Nat) (e : E) (body : Ss)
  | while (t : E) (body : Ss)
  | ite (t : E) (a b : Ss)
  | ret (e : E)
  | brk
  | append (a e : E)
  | insert (a i e : E)
  | insort (f k z : Nat)
inductive Ss
  | nil
  | cons (s : S) (ss : Ss)
  | stuck
end
structure Fn where
  np : Nat
  dfl : List V
  key : Bool
  nv : Nat
  cap : List V
  prim : Bool
  body : Ss
inductive Src
  | rng (x step : Int) (left : Nat)
  | lst (v : V) (i : Nat)
noncomputable def Src.next (st : PS) : Src → Option (Option (V × Src))
  | .rng _ _ 0 => some .none
  | .rng x step (n + 1) => some (some (.d (.int x), .rng (x + step) step n))
  | .lst v i => bd (items st v) fun l => some (l[i]?.map fun y => (y, .lst v (i + 1)))
theorem next_end {st : PS} {v : V} {i : Nat} {l : List V} (h : items st v = some l) (h2 : l[i]? = .none) : Src.next st (.lst v i) = some .none := by
  show bd (items st v) (fun l => some (l[i]?.map fun y => (y, Src.lst v (i + 1)))) = _
  rw [h]
  show some (l[i]?.map _) = _
  rw [h2]; rfl
theorem next_lst {st : PS} {v y : V} {i : Nat} {l : List V} (h : items st v = some l) (h2 : l[i]? = some y) : Src.next st (.lst v i) = some (some (y, .lst v (i + 1))) := by
  show bd (items st v) (fun l => some (l[i]?.map fun y => (y, Src.lst v (i + 1)))) = _
  rw [h]
  show some (l[i]?.map _) = _
  rw [h2]; rfl
noncomputable def mapO {α β : Type} (f : α → Option β) : List α → Option (List β)
  | [] => some []
  | x :: r => bd (f x) fun y => bd (mapO f r) fun ys => some (y :: ys)
noncomputable def deepV : Nat → List (List V) → Nat → V → Option D
  | 0, _, _, _ => .none
  | _ + 1, _, _, .d x => some x
  | n + 1, own, m, .ref i => gd (¬ i < m) (bd own[i]? fun l => bd (mapO (deepV n own m) l) fun ds => some (.list ds))
theorem deepV_ref {n m i : Nat} {own : List (List V)} {l : List V} {ds : List D} (hi : ¬ i < m) (h : own[i]? = some l) (h2 : mapO (deepV n own m) l = some ds) : deepV (n + 1) own m (.ref i) = some (.list ds) := by
  show gd (¬ i < m) (bd own[i]? fun l => bd (mapO (deepV n own m) l) fun ds => some (D.list ds)) = _
  unfold gd
  rw [if_pos hi, h]
  show bd (mapO (deepV n own m) l) _ = _
  rw [h2]; rfl
noncomputable def small (m : Nat) : V → Bool
  | .ref n => n < m
  | .d _ => true
noncomputable def okOwn (m : Nat) (own : List (List V)) : Bool := own.all fun l => l.all (small m)
noncomputable def okVars (m : Nat) (vars : List (Option V)) : Bool := vars.all fun v => match v with | some v => small m v | .none => true
noncomputable def frz (m : Nat) (v : V) (st : PS) : Option (V × PS) :=
  gd (m ≤ st.own.length ∧ okVars m st.vars ∧ (st.own.length = m ∨ okOwn m (st.own.take m))) (bd (deepV 5 st.own m v) fun d => some (.d d, ⟨st.vars, st.own.take m⟩))
theorem frz_s {m : Nat} {v : V} {st : PS} {d : D} (h1 : m ≤ st.own.length) (h2 : okVars m st.vars = true) (h3 : st.own.length = m ∨ okOwn m (st.own.take m) = true) (h4 : deepV 5 st.own m v = some d) : frz m v st = some (.d d, ⟨st.vars, st.own.take m⟩) := by
  show gd _ (bd (deepV 5 st.own m v) _) = _
  unfold gd
  rw [if_pos ⟨h1, h2, h3⟩, h4]; rfl
mutual
noncomputable def D.py : D → Option PyData
  | .none => some .none
  | .bool b => some (.bool b)
  | .int a => some (.int a)
  | .str a => some (.str a)
  | .list a => bd (D.pys a) fun l => some (.list l)
  | .fn _ => .none
noncomputable def D.pys : List D → Option (List PyData)
  | [] => some []
  | a :: r => bd (D.py a) fun x => bd (D.pys r) fun l => some (x :: l)
end
theorem pys_s {a : D} {r : List D} {x : PyData} {l : List PyData} (h1 : a.py = some x) (h2 : D.pys r = some l) : D.pys (a :: r) = some (x :: l) := by
  show bd (D.py a) (fun x => bd (D.pys r) fun l => some (x :: l)) = _
  rw [h1]
  show bd (D.pys r) (fun l => some (x :: l)) = _
  rw [h2]; rfl
theorem py_s {r : List D} {l : List PyData} (h2 : D.pys r = some l) : D.py (.list r) = some (.list l) := by
  show bd (D.pys r) (fun l => some (PyData.list l)) = _
  rw [h2]; rfl
noncomputable def dataOf (st : PS) (v : V) : Option PyData := bd (deepV 5 st.own 0 v) fun d => bd d.py fun p => gd (p.canLay0 = true ∧ p.depth ≤ 10) (some p)
theorem data_s {st : PS} {v : V} {d : D} {p : PyData} (h1 : deepV 5 st.own 0 v = some d) (h2 : d.py = some p) (h3 : p.canLay0 = true) (h4 : p.depth ≤ 10) : dataOf st v = some p := by
  show bd (deepV 5 st.own 0 v) _ = _
  rw [h1]
  show bd d.py _ = _
  rw [h2]
  exact if_pos ⟨h3, h4⟩
noncomputable def strLt (x y : Str) : Bool := decide (x.cps.toList < y.cps.toList)
noncomputable def hasSub (x y : Str) : Bool := !(Builtin.Str.occurrences y x 0 y.length 1).isEmpty
noncomputable def pr {α β : Type} (x : Option α) (y : Option β) : Option (α × β) := bd x fun a => bd y fun b => some (a, b)
theorem pr_e {α β : Type} {x : Option α} {y : Option β} {p : α × β} (h : pr x y = some p) : x = some p.1 ∧ y = some p.2 := bd_c h fun a e1 h => bd_c h fun b e2 h => by cases h; exact ⟨e1, e2⟩
theorem el_c {α β : Type} {P : Prop} {r : β} {x : Option α} {o : Option β} {f : α → Option β} (h : x.elim o f = some r) (k1 : ∀ a, x = some a → f a = some r → P) (k2 : o = some r → P) : P := by
  cases x with
  | none => exact k2 h
  | some a => exact k1 a rfl h
noncomputable def twoV {β : Type} (a b : V) (f : Int → Int → Option β) (g : Str → Str → Option β) (o : Option β) : Option β := (pr (asI a) (asI b)).elim ((pr (asS a) (asS b)).elim o fun p => g p.1 p.2) fun p => f p.1 p.2
theorem two_c {β : Type} {P : Prop} {a b : V} {f : Int → Int → Option β} {g : Str → Str → Option β} {o : Option β} {r : β} (h : twoV a b f g o = some r) (k1 : ∀ x y, a = .d (.int x) → b = .d (.int y) → f x y = some r → P)
    (k2 : ∀ x y, a = .d (.str x) → b = .d (.str y) → g x y = some r → P) (k3 : o = some r → P) : P :=
  el_c h (fun p e h => k1 _ _ (asI_e (pr_e e).1) (asI_e (pr_e e).2) h) fun h => el_c h (fun p e h => k2 _ _ (asS_e (pr_e e).1) (asS_e (pr_e e).2) h) k3
noncomputable def addOf (a b : V) (st : PS) : Option (V × PS) := twoV a b (fun x y => some (.d (.int (x + y)), st)) (fun x y => gd (x.length + y.length ≤ 1000) (some (.d (.str (x ++ y)), st)))
  (bd (items st a) fun x => bd (items st b) fun y => gd (x.length + y.length ≤ 1000) (some (.ref st.own.length, { st with own := st.own ++ [x ++ y] })))
noncomputable def mulOf (a b : V) (st : PS) : Option (V × PS) := bd (asI b) fun y => (asS a).elim (bd (items st a) fun l => gd (0 < y ∧ y < 1000 ∧ l.length < 1000) (some (.ref st.own.length, { st with own := st.own ++ [(List.replicate y.toNat l).flatten] }))) fun x =>
  gd (y < 1000 ∧ 0 ≤ y ∧ x.length < 1000) (some (.d (.str (Txt.mul x y)), st))
noncomputable def ofBin (op : Operator) (a b : V) (st : PS) : Option (V × PS) :=
  match op with
  | .Add => addOf a b st
  | .Sub => bd (asI a) fun x => bd (asI b) fun y => some (.d (.int (x - y)), st)
  | .Mod => bd (asI a) fun x => bd (asI b) fun y => gd (y ≠ 0) (some (.d (.int (x.fmod y)), st))
  | .FloorDiv => bd (asI a) fun x => bd (asI b) fun y => gd (y ≠ 0 ∧ y.natAbs ≤ 1000) (some (.d (.int (x.fdiv y)), st))
  | .Mult => mulOf a b st
  | _ => .none
noncomputable def isOf (a b : V) : Option Bool := ifB (isNo b) (some (isNo a)) (bd (asB a) fun x => bd (asB b) fun y => some (x == y))
noncomputable def asPL : PyData → Option (List PyData)
  | .list y => some y
  | _ => .none
noncomputable def inOf (a b : V) (st : PS) : Option Bool := bd (dataOf st a) fun x => bd (dataOf st b) fun q => bd (asPL q) fun y => some (y.any fun z => PyData.eqv z x)
noncomputable def ofCmp (op : CmpOp) (a b : V) (st : PS) : Option Bool :=
  match op with
  | .Lt => twoV a b (fun x y => some (decide (x < y))) (fun x y => some (strLt x y)) .none
  | .Gt => twoV a b (fun x y => some (decide (x > y))) (fun x y => some (strLt y x)) .none
  | .Eq => twoV a b (fun x y => some (x == y)) (fun x y => some (x == y)) .none
  | .GtE => bd (asS a) fun x => bd (asS b) fun y => some (!strLt x y)
  | .Is => isOf a b
  | .IsNot => bd (isOf a b) fun r => some (!r)
  | .NotEq => twoV a b (fun x y => some (!(x == y))) (fun _ _ => .none) (bd (dataOf st a) fun x => bd (dataOf st b) fun y => some (!PyData.eqv x y))
  | .In => inOf a b st
  | .NotIn => twoV a b (fun _ _ => .none) (fun x y => some (!hasSub x y)) (bd (inOf a b st) fun r => some (!r))
  | _ => .none
noncomputable def ofSub (a b : V) (st : PS) : Option V :=
  bd (asI b) fun i => gd (0 ≤ i ∧ i < 1000) (bd (items st a) fun l => l[i.toNat]?)
theorem ofSub_s {a : V} {i : Int} {st : PS} {l : List V} (h1 : 0 ≤ i ∧ i < 1000) (h2 : items st a = some l) : ofSub a (.d (.int i)) st = l[i.toNat]? := by
  show gd _ (bd (items st a) _) = _
  unfold gd
  rw [if_pos h1, h2]; rfl
noncomputable def ints? (l : List V) : Option (List Int) := mapO asI l
noncomputable def strs? (l : List V) : Option (List Str) := mapO asS l
noncomputable def one (c : Nat) : Str := ⟨#[c]⟩
noncomputable def escs : Int → Bool → List Nat → List (Int × Str)
  | i, true, [] => [(i - 1, one 92)]
  | _, false, [] => []
  | i, true, c :: r => (i, ⟨#[92, c]⟩) :: escs (i + 1) false r
  | i, false, c :: r => if c = 92 then escs (i + 1) true r else (i, one c) :: escs (i + 1) false r
noncomputable def place (z : List Int) (k : Int) (l : List Int) : Option Nat :=
  bd z[k.toNat]? fun b => match l with
    | [] => some 0
    | [x] => bd z[x.toNat]? fun a => some (if b > a then 0 else 1)
    | [x, y] => bd z[x.toNat]? fun a => bd z[y.toNat]? fun a' => some (if b > a' then (if b > a then 0 else 1) else 2)
    | _ => .none
noncomputable def laidIn (z : List Int) (k : Int) (l : List Int) : Option (List Int) :=
  gd (l.length ≤ 2 ∧ 0 ≤ k ∧ k < 3 ∧ z.length = 3 ∧ l.all (fun x => 0 ≤ x ∧ x < 3)) ((place z k l).map fun i => l.insertIdx i k)
noncomputable def asR : V → Option Nat
  | .ref n => some n
  | .d _ => .none
noncomputable def asZ : V → Option (List D)
  | .d (.list l) => some l
  | _ => .none
theorem asR_e {v : V} {n : Nat} (h : asR v = some n) : v = .ref n := by cases v <;> cases h; rfl
theorem asZ_e {v : V} {l : List D} (h : asZ v = some l) : v = .d (.list l) := by
  cases v with
  | ref n => cases h
  | d x => cases x <;> cases h; rfl
noncomputable def insortOf (st : PS) (f k z : Nat) : Option PS :=
  bd (getV st f) fun a => bd (asR a) fun n => bd (getV st k) fun b => bd (asI b) fun i => bd (getV st z) fun c => bd (asZ c) fun zs => bd (st.own[n]?) fun l => bd (ints? l) fun is => bd (ints? (zs.map V.d)) fun zi =>
    bd (laidIn zi i is) fun r => some { st with own := st.own.set n (r.map fun x => .d (.int x)) }
inductive Grp
  | run (rest : List Int) (last : Option Int)
  | loop (v : Int)
noncomputable def Grp.next : Grp → Option (Option (Int × Grp))
  | .loop v => some (some (v, .loop v))
  | .run [] _ => some .none
  | .run (x :: r) last => if x = 127 then some .none else if x = 0 then (match last with | .none => .none | some v => some (some (v, .loop v))) else some (some (x, .run r (some x)))
noncomputable def Fn.bind (f : Fn) (pos : List V) (key : Option V) : Option (List V) :=
  ifB f.key (bd key fun k => ifB (decide (pos.length = 4 ∧ f.np = 4)) (some (pos ++ [k])) (gd (pos.length = 2 ∧ f.np = 4) (some (pos ++ [.d (.int 0), .d .none] ++ [k]))))
    (ifB key.isNone (gd (pos.length = f.np) (some pos)) .none)
theorem bind_c {P : Prop} {f : Fn} {vs ws : List V} {key : Option V} (h : f.bind vs key = some ws) (hk : f.key = false) (k : key = .none → vs.length = f.np → ws = vs → P) : P := by
  delta Fn.bind at h
  rw [hk] at h
  cases key with
  | some k => cases h
  | none => exact gd_c (x := some vs) h fun hl e => k rfl hl (Option.some.inj e).symm
theorem bindK_c {P : Prop} {f : Fn} {vs ws : List V} {key : Option V} (h : f.bind vs key = some ws) (hk : f.key = true) (k4 : ∀ k, key = some k → vs.length = 4 → ws = vs ++ [k] → P) (k2 : ∀ k, key = some k → vs.length = 2 → ws = vs ++ [.d (.int 0), .d .none] ++ [k] → P) : P := by
  delta Fn.bind at h
  rw [hk] at h
  refine bd_c (x := key) h fun k e h => ?_
  by_cases h4 : vs.length = 4 ∧ f.np = 4
  · rw [decide_eq_true h4] at h; exact k4 k e h4.1 (Option.some.inj h).symm
  · rw [decide_eq_false h4] at h; exact gd_c (p := vs.length = 2 ∧ f.np = 4) (x := some (vs ++ [V.d (D.int 0), V.d D.none] ++ [k])) h fun h2 h => k2 k e h2.1 (Option.some.inj h).symm
noncomputable def allD (l : List V) : Bool := l.all fun v => match v with | .d _ => true | .ref _ => false
noncomputable def setVar (st : PS) (i : Nat) (v : V) : Option PS := if i < st.vars.length then some { st with vars := st.vars.set i (some v) } else .none
noncomputable def setOwn (st : PS) (a : V) (f : List V → Option (List V)) : Option PS := bd (asR a) fun n => bd st.own[n]? fun l => bd (f l) fun l' => some { st with own := st.own.set n l' }
theorem setOwn_s {st : PS} {n : Nat} {f : List V → Option (List V)} {l l' : List V} (h : st.own[n]? = some l) (h2 : f l = some l') : setOwn st (.ref n) f = some { st with own := st.own.set n l' } := by
  show bd st.own[n]? _ = _
  rw [h]
  show bd (f l) _ = _
  rw [h2]; rfl
noncomputable def retV : Fl → Option V
  | .ret v => some v
  | .next => some (.d .none)
  | .brk => .none
  | .cont => .none
noncomputable def outOf (m : Nat) (r : Option (Fl × PS)) : Option (V × PS) := bd2 r fun f st => bd (retV f) fun v => frz m v ⟨[], st.own⟩
theorem out_d {own : List (List V)} {vars : List (Option V)} {d : D} : outOf own.length (some (.ret (.d d), ⟨vars, own⟩)) = some (.d d, ⟨[], own⟩) := by
  show frz own.length (.d d) ⟨[], own⟩ = _
  rw [frz_s (st := ⟨[], own⟩) (Nat.le_refl _) rfl (.inl rfl) rfl, List.take_length]
theorem out_n {own : List (List V)} {vars : List (Option V)} : outOf own.length (some (.next, ⟨vars, own⟩)) = some (.d .none, ⟨[], own⟩) := out_d (vars := vars)
theorem out_0 {own : List (List V)} {vars : List (Option V)} {d : D} : outOf 0 (some (.ret (.d d), ⟨vars, own⟩)) = some (.d d, ⟨[], []⟩) := frz_s (st := ⟨[], own⟩) (Nat.zero_le _) rfl (.inr rfl) rfl
noncomputable def lenOf (x : V) (st : PS) : Option Nat := (asS x).elim (bd (items st x) fun l => gd (l.length < 1000) (some l.length)) fun t => gd (t.length < 1000) (some t.length)
theorem lenOf_c {P : Prop} {x : V} {st : PS} {k : Nat} (h : lenOf x st = some k) (k1 : ∀ t, x = .d (.str t) → t.length < 1000 → t.length = k → P) (k2 : ∀ l, items st x = some l → l.length < 1000 → l.length = k → P) : P :=
  el_c h (fun t e h => gd_c h fun hk h => k1 _ (asS_e e) hk (Option.some.inj h)) fun h => bd_c h fun l hl h => gd_c h fun hk h => k2 l hl hk (Option.some.inj h)
noncomputable def onNext (f : Fl) (st : PS) (x : Option (Fl × PS)) : Option (Fl × PS) := match f with
  | .next => x
  | g => some (g, st)
theorem onNext_c {P : Prop} {f : Fl} {st : PS} {x : Option (Fl × PS)} {r : Fl × PS} (h : onNext f st x = some r) (k1 : f = .next → x = some r → P) (k2 : f ≠ .next → some (f, st) = some r → P) : P := by
  cases f with
  | next => exact k1 rfl h
  | brk => exact k2 (fun q => nomatch q) h
  | cont => exact k2 (fun q => nomatch q) h
  | ret v => exact k2 (fun q => nomatch q) h
noncomputable def loopOn (f : Fl) (st : PS) (x : Option (Fl × PS)) : Option (Fl × PS) := match f with
  | .next => x
  | .cont => x
  | .brk => some (.next, st)
  | .ret v => some (.ret v, st)
noncomputable def augOf : Operator → Int → Int → Option Int
  | .Add, x, y => some (x + y)
  | .Sub, x, y => some (x - y)
  | _, _, _ => .none
theorem aug_c {op : Operator} {x y z : Int} (h : augOf op x y = some z) : (op = .Add ∧ z = x + y) ∨ (op = .Sub ∧ z = x - y) := by
  cases op with
  | Add => cases h; exact .inl ⟨rfl, rfl⟩
  | Sub => cases h; exact .inr ⟨rfl, rfl⟩
  | _ => cases h
noncomputable def callOf (f : Fn) (ws : List V) (st : PS) (g : PS → Option (Fl × PS)) : Option (V × PS) := ifB f.prim (bd ws.head? fun v => bd (items st v) fun l => gd (l.length < 1000) (some (.d (.bool true), st)))
  (ifB (allD ws) (bd2 (outOf 0 (g ⟨ws.map some ++ f.cap.map some ++ List.replicate f.nv .none, []⟩)) fun v _ => some (v, st))
    (bd2 (outOf st.own.length (g ⟨ws.map some ++ f.cap.map some ++ List.replicate f.nv .none, st.own⟩)) fun v st1 => some (v, ⟨st.vars, st1.own⟩)))
theorem callOf_c {P : Prop} {f : Fn} {ws : List V} {st st1 : PS} {g : PS → Option (Fl × PS)} {v : V} (h : callOf f ws st g = some (v, st1)) (hp : f.prim = false)
    (k1 : ∀ sx, allD ws = true → outOf 0 (g ⟨ws.map some ++ f.cap.map some ++ List.replicate f.nv .none, []⟩) = some (v, sx) → st1 = st → P)
    (k2 : ∀ sx, allD ws = false → outOf st.own.length (g ⟨ws.map some ++ f.cap.map some ++ List.replicate f.nv .none, st.own⟩) = some (v, sx) → st1 = ⟨st.vars, sx.own⟩ → P) : P := by
  unfold callOf at h
  rw [hp] at h
  cases hd : allD ws with
  | true =>
    rw [hd] at h
    refine bd2_c h fun v' sx hout h => ?_
    cases h
    exact k1 sx hd hout rfl
  | false =>
    rw [hd] at h
    refine bd2_c h fun v' sx hout h => ?_
    cases h
    exact k2 sx hd hout rfl
section
variable (F : Addr → Option Fn)
mutual
noncomputable def evE : Nat → E → PS → Option (V × PS)
  | 0, _, _ => .none
  | n + 1, e, st => match e with
    | .none => some (.d .none, st)
    | .bool b => some (.d (.bool b), st)
    | .int i => some (.d (.int i), st)
    | .str x => some (.d (.str x), st)
    | .var i => bd (getV st i) fun v => some (v, st)
    | .gfn a => some (.d (.fn a), st)
    | .bin op a b => bd2 (evE n a st) fun x st1 => bd2 (evE n b st1) fun y st2 => ofBin op x y st2
    | .neg a => bdI (evE n a st) fun x st1 => some (.d (.int (-x)), st1)
    | .not _ => .none
    | .cmp op a b => bd2 (evE n a st) fun x st1 => bd2 (evE n b st1) fun y st2 => bd (ofCmp op x y st2) fun r => some (.d (.bool r), st2)
    | .and a b => bdB (evE n a st) fun p st1 => ifB p (evE n b st1) (some (.d (.bool false), st1))
    | .or _ _ => .none
    | .sub a b => bd2 (evE n a st) fun x st1 => bd2 (evE n b st1) fun y st2 => bd (ofSub x y st2) fun r => some (r, st2)
    | .take a k => bd2 (evE n a st) fun x st1 => bd (items st1 x) fun l => gd (k ≤ l.length ∧ l.length < 1000) (some (.ref st1.own.length, { st1 with own := st1.own ++ [l.take k] }))
    | .rev a => bd2 (evE n a st) fun x st1 => bd (items st1 x) fun l => gd (l.length < 1000) (some (.ref st1.own.length, { st1 with own := st1.own ++ [l.reverse] }))
    | .sfrom a b => bdS (evE n a st) fun x st1 => bdI (evE n b st1) fun i st2 => gd (x.length < 1000) (some (.d (.str (Txt.slice x (some i) .none)), st2))
    | .scut a b c => bdS (evE n a st) fun x st1 => bdI (evE n b st1) fun i st2 => bdI (evE n c st2) fun j st3 => gd (x.length < 1000) (some (.d (.str (Txt.slice x (some i) (some j))), st3))
    | .list es => bd2 (evEs n es st) fun vs st1 => gd (vs.length ≤ 1000) (some (.ref st1.own.length, { st1 with own := st1.own ++ [vs] }))
    | .len a => bd2 (evE n a st) fun x st1 => bd (lenOf x st1) fun k => some (.d (.int k), st1)
    | .sum a => bd2 (evE n a st) fun x st1 => bd (items st1 x) fun l => bd (ints? l) fun is => gd (is.length < 1000) (some (.d (.int is.sum), st1))
    | .min a b => bdI (evE n a st) fun x st1 => bdI (evE n b st1) fun y st2 => some (.d (.int (if y < x then y else x)), st2)
    | .max a b => bdI (evE n a st) fun x st1 => bdI (evE n b st1) fun y st2 => some (.d (.int (if x < y then y else x)), st2)
    | .copy a => bd2 (evE n a st) fun x st1 => bd (items st1 x) fun l => gd (l.length < 1000) (some (.ref st1.own.length, { st1 with own := st1.own ++ [l] }))
    | .pop a b => bd2 (evE n a st) fun x st1 => bdI (evE n b st1) fun i st2 => gd (0 ≤ i ∧ i < 1000) (bd (ofSub x (.d (.int i)) st2) fun r =>
        bd (setOwn st2 x fun l => if l.length < 1000 then some (l.eraseIdx i.toNat) else .none) fun st3 => some (r, st3))
    | .replace a x y => bdS (evE n a st) fun z st1 => gd (z.length < 1000 ∧ y.length < 15 ∧ (x == y) = false) (some (.d (.str (Txt.replace z x y)), st1))
    | .join x a => bd2 (evE n a st) fun v st1 => bd (items st1 v) fun l => bd (strs? l) fun ts => gd (JoinOk x ts = true) (some (.d (.str (Txt.join x ts)), st1))
    | .call a es => bd2 (evEs n es st) fun vs st1 => evC n a vs .none st1
    | .callKey a es k => bd2 (evEs n es st) fun vs st1 => bd2 (evE n k st1) fun v st2 => evC n a vs (some v) st2
    | .callVar i e => bd (getV st i) fun w => bd (asF w) fun a => bd2 (evE n e st) fun v st1 => evC n a [v] .none st1
    | .frz a => bd2 (evE n a st) fun x st1 => frz st.own.length x st1
    | .comp m caps elt i it t g => bd2 (evI n it st) fun src st1 => bd (evK n elt i t g src st1.own.length ⟨List.replicate m .none ++ caps.map (fun j => (st1.vars[j]?).join), st1.own ++ [[]]⟩) fun st2 =>
        some (.ref st1.own.length, ⟨st1.vars, st2.own⟩)
termination_by structural n _ _ => n
noncomputable def evEs : Nat → Es → PS → Option (List V × PS)
  | 0, _, _ => .none
  | n + 1, es, st => match es with
    | .nil => some ([], st)
    | .cons e r => bd2 (evE n e st) fun v st1 => bd2 (evEs n r st1) fun vs st2 => some (v :: vs, st2)
termination_by structural n _ _ => n
noncomputable def evB : Nat → E → PS → Option (Bool × PS)
  | 0, _, _ => .none
  | n + 1, e, st => match e with
    | .cmp op a b => bd2 (evE n a st) fun x st1 => bd2 (evE n b st1) fun y st2 => bd (ofCmp op x y st2) fun r => some (r, st2)
    | .not a => bd2 (evB n a st) fun b st1 => some (!b, st1)
    | .and a b => bd2 (evB n a st) fun p st1 => ifB p (evB n b st1) (some (false, st1))
    | .or a b => bd2 (evB n a st) fun p st1 => ifB p (some (true, st1)) (evB n b st1)
    | .var i => bd (getV st i) fun v => bd (asB v) fun b => some (b, st)
    | .call a es => bdB (evE n (.call a es) st) fun b st1 => some (b, st1)
    | _ => .none
termination_by structural n _ _ => n
noncomputable def evI : Nat → It → PS → Option (Src × PS)
  | 0, _, _ => .none
  | n + 1, it, st => match it with
    | .list e => bd2 (evE n e st) fun v st1 => bd (items st1 v) fun _ => some (.lst v 0, st1)
    | .range1 a => bdI (evE n a st) fun x st1 => gd (x < 1000 ∧ -1000 < x) (some (.rng 0 1 x.toNat, st1))
    | .range2 a b => bdI (evE n a st) fun x st1 => bdI (evE n b st1) fun y st2 => gd (x.natAbs < 1000 ∧ y.natAbs < 1000) (some (.rng x 1 (y - x).toNat, st2))
    | .range3 a b c => bdI (evE n a st) fun x st1 => bdI (evE n b st1) fun y st2 => bdI (evE n c st2) fun z st3 => gd (x.natAbs < 1000 ∧ y.natAbs < 1000 ∧ z = -1) (some (.rng x (-1) (x - y).toNat, st3))
termination_by structural n _ _ => n
noncomputable def evK : Nat → E → Nat → Op → Gs → Src → Nat → PS → Option PS
  | 0, _, _, _, _, _, _, _ => .none
  | n + 1, elt, i, t, g, src, acc, st => bd (src.next st) fun nx => match nx with
    | .none => some st
    | some (v, src') => bd (setVar st i v) fun st1 => bd2 (evO n t st1) fun p st2 => ifB p (match g with
      | .nil => bd2 (evE n elt st2) fun x st3 => bd (setOwn st3 (.ref acc) fun l => if l.length < 1000 then some (l ++ [x]) else .none) fun st4 => evK n elt i t g src' acc st4
      | .cons i' it' t' g' => bd2 (evI n it' st2) fun src2 st3 => bd (evK n elt i' t' g' src2 acc st3) fun st4 => evK n elt i t g src' acc st4) (evK n elt i t g src' acc st2)
termination_by structural n _ _ _ _ _ _ _ => n
noncomputable def evO : Nat → Op → PS → Option (Bool × PS)
  | 0, _, _ => .none
  | n + 1, t, st => match t with
    | .no => some (true, st)
    | .yes e => evB n e st
termination_by structural n _ _ => n
noncomputable def evC : Nat → Addr → List V → Option V → PS → Option (V × PS)
  | 0, _, _, _, _ => .none
  | n + 1, a, vs, key, st => bd (F a) fun f => bd (f.bind vs key) fun ws => callOf f ws st (evSs n f.body)
termination_by structural n _ _ _ _ => n
noncomputable def evS : Nat → S → PS → Option (Fl × PS)
  | 0, _, _ => .none
  | n + 1, x, st => match x with
    | .assign i e => bd2 (evE n e st) fun v st1 => bd (setVar st1 i v) fun st2 => some (.next, st2)
    | .setItem a i e => bd2 (evE n e st) fun v st1 => bd2 (evE n a st1) fun x st2 => bdI (evE n i st2) fun j st3 =>
        bd (setOwn st3 x fun l => if 0 ≤ j ∧ j < l.length ∧ j < 1000 then some (l.set j.toNat v) else .none) fun st4 => some (.next, st4)
    | .aug i op e => bd (getV st i) fun u => bd (asI u) fun x => bdI (evE n e st) fun y st1 => bd (augOf op x y) fun z => bd (setVar st1 i (.d (.int z))) fun st2 => some (.next, st2)
    | .for i it body => bd2 (evI n it st) fun src st1 => evF n i src body st1
    | .forEsc i j e body => bdS (evE n e st) fun x st1 => gd (x.length < 1000) (evX n i j (escs 0 false x.cps.toList) body st1)
    | .forGrp i e body => bd2 (evE n e st) fun v st1 => bd (asZ v) fun l => bd (ints? (l.map V.d)) fun is => evG n i (.run is .none) body st1
    | .while t body => evW n t body st
    | .ite t a b => bd2 (evB n t st) fun p st1 => ifB p (evSs n a st1) (evSs n b st1)
    | .ret e => bd2 (evE n e st) fun v st1 => some (.ret v, st1)
    | .brk => some (.brk, st)
    | .append a e => bd2 (evE n a st) fun x st1 => bd2 (evE n e st1) fun v st2 => bd (setOwn st2 x fun l => if l.length < 1000 then some (l ++ [v]) else .none) fun st3 => some (.next, st3)
    | .insert a i e => bd2 (evE n a st) fun x st1 => bdI (evE n i st1) fun j st2 => bd2 (evE n e st2) fun v st3 =>
        bd (setOwn st3 x fun l => if 0 ≤ j ∧ j ≤ l.length ∧ l.length < 1000 then some (l.insertIdx j.toNat v) else .none) fun st4 => some (.next, st4)
    | .insort f k z => bd (insortOf st f k z) fun st1 => some (.next, st1)
termination_by structural n _ _ => n
noncomputable def evSs : Nat → Ss → PS → Option (Fl × PS)
  | 0, _, _ => .none
  | n + 1, xs, st => match xs with
    | .nil => some (.next, st)
    | .stuck => .none
    | .cons x r => bd2 (evS n x st) fun f st1 => onNext f st1 (evSs n r st1)
termination_by structural n _ _ => n
noncomputable def evF : Nat → Nat → Src → Ss → PS → Option (Fl × PS)
  | 0, _, _, _, _ => .none
  | n + 1, i, src, body, st => bd (src.next st) fun nx => match nx with
    | .none => some (.next, st)
    | some (v, src') => bd (setVar st i v) fun st1 => bd2 (evSs n body st1) fun f st2 => loopOn f st2 (evF n i src' body st2)
termination_by structural n _ _ _ _ => n
noncomputable def evX : Nat → Nat → Nat → List (Int × Str) → Ss → PS → Option (Fl × PS)
  | 0, _, _, _, _, _ => .none
  | n + 1, i, j, ts, body, st => match ts with
    | [] => some (.next, st)
    | (p, x) :: r => bd (setVar st i (.d (.int p))) fun st0 => bd (setVar st0 j (.d (.str x))) fun st1 => bd2 (evSs n body st1) fun f st2 => loopOn f st2 (evX n i j r body st2)
termination_by structural n _ _ _ _ _ => n
noncomputable def evG : Nat → Nat → Grp → Ss → PS → Option (Fl × PS)
  | 0, _, _, _, _ => .none
  | n + 1, i, src, body, st => bd src.next fun nx => match nx with
    | .none => some (.next, st)
    | some (v, src') => bd (setVar st i (.d (.int v))) fun st1 => bd2 (evSs n body st1) fun f st2 => loopOn f st2 (evG n i src' body st2)
termination_by structural n _ _ _ _ => n
noncomputable def evW : Nat → E → Ss → PS → Option (Fl × PS)
  | 0, _, _, _ => .none
  | n + 1, t, body, st => bd2 (evB n t st) fun p st1 => ifB p (bd2 (evSs n body st1) fun f st2 => loopOn f st2 (evW n t body st2)) (some (.next, st1))
termination_by structural n _ _ _ => n
end
end
noncomputable def frzVar (st : PS) (i : Nat) : Option PS := bd (getV st i) fun v => bd (asR v) fun k => bd2 (frz k (.ref k) ⟨st.vars.set i .none, st.own⟩) fun w st2 => some { st2 with vars := st2.vars.set i (some w) }
theorem getV_some {st : PS} {i : Nat} {v : V} (h : getV st i = some v) : st.vars[i]? = some (some v) := join_c h
end Mine.Internal
end
section
set_option genInjectivity false
open PySem PySem.W PyProof.Rows PySem.Calls
namespace Mine.Internal
noncomputable def insortB : Ss := (.cons (.ite (.cmp .Is (.var 4) .none) (.cons (.assign 2 (.call 32 (.cons (.var 0) (.cons (.var 1) (.cons (.var 2) (.cons (.var 3) .nil)))))) .nil) (.cons (.assign 2 (.callKey 32 (.cons (.var 0) (.cons (.callVar 4 (.var 1)) (.cons (.var 2) (.cons (.var 3) .nil)))) (.var 4))) .nil)) (.cons (.insert (.var 0) (.var 2) (.var 1)) .nil))
noncomputable def insortF : Fn := ⟨4, [.d (.int 0), .d .none], true, 0, [], false, insortB⟩
noncomputable def bisectB : Ss := (.cons (.ite (.cmp .Lt (.var 2) (.int 0)) .stuck .nil) (.cons (.ite (.cmp .Is (.var 3) .none) (.cons (.assign 3 (.len (.var 0))) .nil) .nil) (.cons (.ite (.cmp .Is (.var 4) .none) (.cons (.while (.cmp .Lt (.var 2) (.var 3)) (.cons (.assign 5 (.bin .FloorDiv (.bin .Add (.var 2) (.var 3)) (.int 2))) (.cons (.ite (.cmp .Lt (.var 1) (.sub (.var 0) (.var 5))) (.cons (.assign 3 (.var 5)) .nil) (.cons (.assign 2 (.bin .Add (.var 5) (.int 1))) .nil)) .nil))) .nil) (.cons (.while (.cmp .Lt (.var 2) (.var 3)) (.cons (.assign 5 (.bin .FloorDiv (.bin .Add (.var 2) (.var 3)) (.int 2))) (.cons (.ite (.cmp .Lt (.var 1) (.callVar 4 (.sub (.var 0) (.var 5)))) (.cons (.assign 3 (.var 5)) .nil) (.cons (.assign 2 (.bin .Add (.var 5) (.int 1))) .nil)) .nil))) .nil)) (.cons (.ret (.var 2)) .nil))))
noncomputable def bisectF : Fn := ⟨4, [.d (.int 0), .d .none], true, 1, [], false, bisectB⟩
noncomputable def stripB : Ss := (.cons (.ite (.cmp .NotIn (.str "\"") (.var 0)) (.cons (.ret (.var 0)) .nil) .nil) (.cons (.assign 1 (.int 0)) (.cons (.assign 2 .none) (.cons (.assign 3 (.list .nil)) (.cons (.forEsc 4 5 (.var 0) (.cons (.ite (.cmp .Eq (.var 5) (.str "\"")) (.cons (.ite (.cmp .Is (.var 2) .none) (.cons (.assign 2 (.var 4)) .nil) (.cons (.ite (.cmp .NotEq (.var 1) (.var 2)) (.cons (.append (.var 3) (.scut (.var 0) (.var 1) (.var 2))) .nil) .nil) (.cons (.assign 1 (.bin .Add (.var 4) (.int 1))) (.cons (.assign 2 .none) .nil)))) .nil) .nil) .nil)) (.cons (.ite (.cmp .Lt (.var 1) (.len (.var 0))) (.cons (.append (.var 3) (.sfrom (.var 0) (.var 1))) .nil) .nil) (.cons (.ret (.join "" (.var 3))) .nil)))))))
noncomputable def stripF : Fn := ⟨1, [], false, 5, [], false, stripB⟩
noncomputable def checkB : Ss := (.cons (.assign 0 (.call 46 (.cons (.var 0) .nil))) (.cons (.assign 1 (.int 0)) (.cons (.forEsc 2 3 (.var 0) (.cons (.ite (.cmp .Eq (.var 3) (.str "(")) (.cons (.aug 1 .Add (.int 1)) .nil) (.cons (.ite (.cmp .Eq (.var 3) (.str ")")) (.cons (.aug 1 .Sub (.int 1)) (.cons (.ite (.cmp .Lt (.var 1) (.int 0)) (.cons (.ret (.bool false)) .nil) .nil) .nil)) .nil) .nil)) .nil)) (.cons (.ret (.cmp .Eq (.var 1) (.int 0))) .nil))))
noncomputable def checkF : Fn := ⟨1, [], false, 3, [], false, checkB⟩
noncomputable def strxfrmB : Ss := (.cons (.ret (.var 0)) .nil)
noncomputable def strxfrmF : Fn := ⟨1, [], false, 0, [], false, strxfrmB⟩
noncomputable def cellsB : Ss := (.cons (.assign 1 (.list (.cons (.int 26) (.cons (.int 1234) (.cons (.int 130) .nil))))) (.cons (.for 2 (.range1 (.len (.var 0))) (.cons (.setItem (.var 1) (.bin .Mod (.var 2) (.int 3)) (.bin .Add (.sub (.var 1) (.bin .Mod (.var 2) (.int 3))) (.sub (.var 0) (.var 2)))) .nil)) (.cons (.ret (.var 1)) .nil)))
noncomputable def cellsF : Fn := ⟨1, [], false, 2, [], false, cellsB⟩
noncomputable def rulerB : Ss := (.cons (.assign 1 (.bin .Add (.int 1) (.bin .Mod (.var 0) (.int 2)))) (.cons (.assign 2 (.bin .Add (.int 1) (.bin .Mod (.bin .FloorDiv (.var 0) (.int 2)) (.int 2)))) (.cons (.assign 3 (.bin .Add (.int 1) (.bin .Mod (.bin .FloorDiv (.var 0) (.int 4)) (.int 3)))) (.cons (.assign 4 (.bin .Mod (.bin .FloorDiv (.var 0) (.int 12)) (.int 4))) (.cons (.ite (.cmp .Eq (.var 4) (.int 0)) (.cons (.ret (.list (.cons (.list (.cons (.var 1) (.cons (.var 2) (.cons (.var 3) .nil)))) (.cons (.list (.cons (.var 1) (.cons (.var 2) (.cons (.var 3) .nil)))) .nil)))) .nil) .nil) (.cons (.ite (.cmp .Eq (.var 4) (.int 1)) (.cons (.ret (.list (.cons (.list (.cons (.var 1) (.cons (.var 2) (.cons (.var 3) (.cons (.int 127) (.cons (.int 3) .nil)))))) (.cons (.list (.cons (.var 1) (.cons (.var 2) (.cons (.var 3) .nil)))) .nil)))) .nil) .nil) (.cons (.ite (.cmp .Eq (.var 4) (.int 2)) (.cons (.ret (.list (.cons (.list (.cons (.var 1) (.cons (.var 2) (.cons (.int 0) (.cons (.int 5) .nil))))) (.cons (.bin .Add (.list (.cons (.var 1) .nil)) (.bin .Mult (.list (.cons (.var 2) .nil)) (.int 6))) .nil)))) .nil) .nil) (.cons (.ret (.list (.cons (.list (.cons (.var 2) (.cons (.int 0) (.cons (.int 4) .nil)))) (.cons (.bin .Mult (.list (.cons (.var 2) .nil)) (.int 7)) .nil)))) .nil))))))))
noncomputable def rulerF : Fn := ⟨1, [], false, 4, [], false, rulerB⟩
noncomputable def toldB : Ss := (.cons (.assign 1 (.list .nil)) (.cons (.forGrp 2 (.var 0) (.cons (.append (.var 1) (.var 2)) (.cons (.ite (.cmp .Eq (.len (.var 1)) (.int 7)) (.cons .brk .nil) .nil) .nil))) (.cons (.ret (.var 1)) .nil)))
noncomputable def toldF : Fn := ⟨1, [], false, 2, [], false, toldB⟩
noncomputable def namesB : Ss := (.cons (.assign 1 (.list (.cons (.str "") (.cons (.str "\"") (.cons (.str "(") (.cons (.str "()") (.cons (.str ")") (.cons (.str "A") (.cons (.str "\\") (.cons (.str "a") .nil)))))))))) (.cons (.assign 2 (.copy (.var 1))) (.cons (.assign 3 (.list .nil)) (.cons (.for 4 (.range1 (.int 3)) (.cons (.append (.var 3) (.pop (.var 2) (.bin .Mod (.var 0) (.len (.var 2))))) (.cons (.assign 0 (.bin .FloorDiv (.var 0) (.bin .Add (.len (.var 2)) (.int 1)))) .nil))) (.cons (.ret (.frz (.comp 1 [3] (.var 0) 0 (.list (.var 1)) (.yes (.cmp .In (.var 0) (.var 1))) .nil))) .nil)))))
noncomputable def namesF : Fn := ⟨1, [], false, 4, [], false, namesB⟩
noncomputable def shapesB : Ss := (.cons (.ite (.cmp .Eq (.var 0) (.int 0)) (.cons (.ret (.list (.cons (.list .nil) .nil))) .nil) .nil) (.cons (.assign 3 (.list .nil)) (.cons (.ite (.cmp .Gt (.var 2) (.int 0)) (.cons (.for 4 (.range3 (.min (.var 0) (.var 1)) (.int 0) (.neg (.int 1))) (.cons (.for 5 (.list (.call 107 (.cons (.bin .Sub (.var 0) (.var 4)) (.cons (.var 4) (.cons (.bin .Sub (.var 2) (.int 1)) .nil))))) (.cons (.append (.var 3) (.frz (.bin .Add (.list (.cons (.var 4) .nil)) (.var 5)))) .nil)) .nil)) .nil) .nil) (.cons (.ret (.var 3)) .nil))))
noncomputable def shapesF : Fn := ⟨3, [], false, 3, [], false, shapesB⟩
noncomputable def filledB : Ss := (.cons (.assign 2 (.comp 1 [] (.comp 1 [] (.int 0) 0 (.range1 (.var 0)) .no .nil) 0 (.list (.var 0)) .no .nil)) (.cons (.assign 3 (.copy (.var 0))) (.cons (.for 4 (.range3 (.bin .Sub (.len (.var 1)) (.int 1)) (.neg (.int 1)) (.neg (.int 1))) (.cons (.assign 5 (.frz (.bin .Add (.var 3) (.list (.cons (.int 0) .nil))))) (.cons (.assign 6 (.sub (.var 1) (.var 4))) (.cons (.for 7 (.range3 (.bin .Sub (.len (.var 3)) (.int 1)) (.neg (.int 1)) (.neg (.int 1))) (.cons (.while (.and (.cmp .Gt (.var 6) (.int 0)) (.cmp .Gt (.sub (.var 3) (.var 7)) (.sub (.var 5) (.bin .Add (.var 7) (.int 1))))) (.cons (.setItem (.var 3) (.var 7) (.bin .Sub (.sub (.var 3) (.var 7)) (.int 1))) (.cons (.setItem (.sub (.var 2) (.var 7)) (.sub (.var 3) (.var 7)) (.var 4)) (.cons (.assign 6 (.bin .Sub (.var 6) (.int 1))) .nil)))) .nil)) (.cons (.ite (.cmp .Gt (.var 6) (.int 0)) (.cons (.ret .none) .nil) .nil) .nil))))) (.cons (.ret (.var 2)) .nil))))
noncomputable def filledF : Fn := ⟨2, [], false, 6, [], false, filledB⟩
noncomputable def billB : Ss := (.cons (.assign 4 (.str "")) (.cons (.for 5 (.range1 (.max (.len (.var 0)) (.len (.var 3)))) (.cons (.ite (.cmp .Lt (.var 5) (.len (.var 0))) (.cons (.assign 4 (.bin .Add (.var 4) (.bin .Mult (.str "(") (.sub (.var 0) (.var 5))))) .nil) .nil) (.cons (.ite (.cmp .Lt (.var 5) (.len (.var 3))) (.cons (.assign 6 (.replace (.replace (.sub (.var 1) (.sub (.var 3) (.var 5))) "\\" "\\\\") "\"" "\\\"")) (.cons (.assign 4 (.bin .Add (.bin .Add (.bin .Add (.bin .Add (.var 4) (.str "\"")) (.var 6)) (.str "\"")) (.bin .Mult (.str ")") (.sub (.var 2) (.sub (.var 3) (.var 5)))))) .nil)) .nil) .nil))) (.cons (.ret (.var 4)) .nil)))
noncomputable def billF : Fn := ⟨4, [], false, 3, [], false, billB⟩
noncomputable def laidB : Ss := (.cons (.assign 1 (.list .nil)) (.cons (.for 2 (.list (.var 0)) (.cons (.assign 3 (.int 0)) (.cons (.while (.cmp .Lt (.var 3) (.len (.var 1))) (.cons (.assign 4 (.callKey 32 (.cons (.sub (.var 1) (.var 3)) (.cons (.call 60 (.cons (.var 2) .nil)) .nil)) (.gfn 60))) (.cons (.ite (.cmp .Eq (.var 4) (.len (.sub (.var 1) (.var 3)))) (.cons .brk .nil) .nil) (.cons (.assign 5 (.sub (.sub (.var 1) (.var 3)) (.var 4))) (.cons (.setItem (.sub (.var 1) (.var 3)) (.var 4) (.var 2)) (.cons (.assign 2 (.var 5)) (.cons (.assign 3 (.bin .Add (.var 3) (.int 1))) .nil))))))) (.cons (.ite (.cmp .Eq (.var 3) (.len (.var 1))) (.cons (.append (.var 1) (.list .nil)) .nil) .nil) (.cons (.append (.sub (.var 1) (.var 3)) (.var 2)) .nil))))) (.cons (.ret (.var 1)) .nil)))
noncomputable def laidF : Fn := ⟨1, [], false, 5, [], false, laidB⟩
end Mine.Internal
end
section
set_option genInjectivity false
open PySem PySem.W PyProof.Rows PySem.Calls
namespace Mine.Internal
section
variable {W : Wd} {c : Cx} {k : Nat} {st st1 st2 : PS} {τ : Tau} {ls : List Loc} {s : Shared} {A : Around} {E : Value → Shared → Prop}
theorem R.items (r : R W τ ls st s) {v : V} {rv : Value} {l : List V} (hv : VR τ s.heap v rv) (hl : items st v = some l) : ∃ a vs ep, rv = .ref a ∧ s.heap.get? a = some (LO vs ep) ∧ VRs τ s.heap l vs := by
  cases v with
  | ref n =>
    obtain ⟨a, rfl, ha⟩ := hv
    obtain ⟨a', vs, ep, h1, h2, h3⟩ := r.own n l hl
    have := r.uniq a a' n ha h1
    subst this
    exact ⟨a, vs, ep, rfl, h2, h3⟩
  | d x =>
    cases x with
    | list ds =>
      obtain ⟨a, vs, n, rfl, h2, h3, h4⟩ := hv
      cases hl
      exact ⟨a, vs, n, rfl, h3, DRs.vrs h4⟩
    | _ => cases hl
theorem R.pushList (r : R W τ ls st s) {vs : List Value} {l : List V} {t : Nat} (hl : VRs τ s.heap l vs) :
    R W (upd τ s.heap.objs.size (.own st.own.length)) ls { st with own := st.own ++ [l] } { s with heap := s.heap.push (LO vs 0), toks := t } ∧ Ext τ s.heap (upd τ s.heap.objs.size (.own st.own.length)) (s.heap.push (LO vs 0)) :=
  r.new (fun b o e => Heap.get?_push_of_some _ e) (get_size _) (Heap.get?_push_size _ rfl) hl
theorem R.ownAt (r : R W τ ls st s) {n : Nat} {l : List V} {rv : Value} (hv : VR τ s.heap (.ref n) rv) (hl : st.own[n]? = some l) : ∃ a vs ep, rv = .ref a ∧ τ a = .own n ∧ s.heap.get? a = some (LO vs ep) ∧ VRs τ s.heap l vs := by
  obtain ⟨a, rfl, ha⟩ := hv
  obtain ⟨a', vs, ep, h1, h2, h3⟩ := r.own n l hl
  have := r.uniq a a' n ha h1
  subst this
  exact ⟨a, vs, ep, rfl, ha, h2, h3⟩
theorem isInt {x : Int} {τ : Tau} {h : Heap} {v : Value} (e : VR τ h (.d (.int x)) v) : ∃ t, v = .int x t := e
theorem isStr {x : Str} {τ : Tau} {h : Heap} {v : Value} (e : VR τ h (.d (.str x)) v) : ∃ t, v = .str x t := e
theorem isBool {x : Bool} {τ : Tau} {h : Heap} {v : Value} (e : VR τ h (.d (.bool x)) v) : v = .bool x := e
theorem isFn {x : Addr} {τ : Tau} {h : Heap} {v : Value} (e : VR τ h (.d (.fn x)) v) : v = .ref x := e
theorem VR.int {x : Int} {τ : Tau} {h : Heap} {t : Tok} : VR τ h (.d (.int x)) (.int x t) := ⟨t, rfl⟩
theorem VR.str {x : Str} {τ : Tau} {h : Heap} {t : Tok} : VR τ h (.d (.str x)) (.str x t) := ⟨t, rfl⟩
theorem VR.bool {x : Bool} {τ : Tau} {h : Heap} : VR τ h (.d (.bool x)) (.bool x) := rfl
theorem VR.none {τ : Tau} {h : Heap} : VR τ h (.d .none) .none := rfl
theorem mulOk {x : Str} {y : Int} (h1 : y < 1000) (h2 : 0 ≤ y) (h3 : x.length < 1000) : MulOk x y := by
  refine ⟨by simp; (first | lia | omega), fun hy _ => ?_, fun hy _ => ?_⟩
  · have : (1000 : Int) ≤ (2 ^ 63 - 1) / y := by
      rw [Int.le_ediv_iff_mul_le (by first | lia | omega)]
      have : 1000 * y ≤ 1000 * 1000 := Int.mul_le_mul_of_nonneg_left (by first | lia | omega) (by first | lia | omega)
      (first | lia | omega)
    (first | lia | omega)
  · have : x.length * y.toNat ≤ 1000 * 1000 := Nat.mul_le_mul (by first | lia | omega) (by first | lia | omega)
    unfold Builtin.Str.tooLong
    rw [sizeLine_eq]
    exact decide_eq_false (by first | lia | omega)
theorem ofBin_ok {op : Operator} {a b v : V} (h : ofBin op a b st = some (v, st1)) {Q : Value → Shared → Prop} {a' b' : Value} (r : R W τ ls st s) (ha : VR τ s.heap a a') (hb : VR τ s.heap b b')
    (hQ : ∀ τ' s' v', Ext τ s.heap τ' s'.heap → R W τ' ls st1 s' → VR τ' s'.heap v v' → Q v' s') : wpAny (model pw W.w) A (binaryOp op a' b') Q E s := by
  cases op with
  | Add =>
    refine two_c (show twoV a b (fun x y => some (V.d (.int (x + y)), st)) (fun x y => gd (x.length + y.length ≤ 1000) (some (V.d (.str (x ++ y)), st))) _ = some (v, st1) from h) (fun x y e1 e2 g => ?_) (fun x y e1 e2 g => ?_) fun g => bd_c g fun x hx g => bd_c g fun y hy g => gd_c g fun hs g => ?_
    · subst e1 e2; cases g; obtain ⟨t, rfl⟩ := isInt ha; obtain ⟨u, rfl⟩ := isInt hb
      exact wpAny_add_int (hQ τ _ _ (Ext.refl ..) (r.tok _) VR.int)
    · refine gd_c (p := x.length + y.length ≤ 1000) (x := some (V.d (.str (x ++ y)), st)) g fun hy g => ?_
      subst e1 e2; cases g; obtain ⟨t, rfl⟩ := isStr ha; obtain ⟨u, rfl⟩ := isStr hb
      exact PyProof.Rows.add_str (fun t' tk => hQ τ _ _ (Ext.refl ..) (r.tok _) VR.str) (by rw [sizeLine_eq]; (first | lia | omega))
    · cases g
      obtain ⟨p, vs, ep, rfl, h2, h3⟩ := r.items ha hx
      obtain ⟨q, us, ep', rfl, g2, g3⟩ := r.items hb hy
      refine PySem.P.add_list h2 g2 ?_ (by have := h3.length; have := g3.length; simp only [List.size_toArray]; rw [sizeLine_eq]; (first | lia | omega))
      rw [show vs.toArray ++ us.toArray = (vs ++ us).toArray by simp]
      have z := r.pushList (t := s.toks) (h3.append g3)
      exact hQ _ _ _ z.2 z.1 ⟨_, rfl, upd_self ..⟩
  | Sub =>
    refine bd_c h fun x e1 g => bd_c g fun y e2 g => ?_
    rw [asI_e e1] at ha; rw [asI_e e2] at hb; cases g; obtain ⟨t, rfl⟩ := isInt ha; obtain ⟨u, rfl⟩ := isInt hb
    exact PySem.P.sub_int (hQ τ _ _ (Ext.refl ..) (r.tok _) VR.int)
  | Mod =>
    refine bd_c h fun x e1 g => bd_c g fun y e2 g => gd_c g fun hy g => ?_
    rw [asI_e e1] at ha; rw [asI_e e2] at hb; cases g; obtain ⟨t, rfl⟩ := isInt ha; obtain ⟨u, rfl⟩ := isInt hb
    exact mod_int' hy (hQ τ _ _ (Ext.refl ..) (r.tok _) VR.int)
  | FloorDiv =>
    refine bd_c h fun x e1 g => bd_c g fun y e2 g => gd_c g fun hy g => ?_
    rw [asI_e e1] at ha; rw [asI_e e2] at hb; cases g; obtain ⟨t, rfl⟩ := isInt ha; obtain ⟨u, rfl⟩ := isInt hb
    exact floordiv_int hy.1 (hQ τ _ _ (Ext.refl ..) (r.tok _) VR.int) (Or.inl (PyProof.noPylong_small (Nat.lt_of_le_of_lt hy.2 (by decide))))
  | Mult =>
    refine bd_c (x := asI b) h fun y e2 g => ?_
    rw [asI_e e2] at hb; obtain ⟨u, rfl⟩ := isInt hb
    refine el_c g (fun x e1 g => ?_) fun g => ?_
    · refine gd_c g fun hy g => ?_
      rw [asS_e e1] at ha; cases g; obtain ⟨t, rfl⟩ := isStr ha
      exact SB.mul (mulOk hy.1 hy.2.1 hy.2.2) fun t' k => hQ τ _ _ (Ext.refl ..) (r.tok _) VR.str
    · refine bd_c g fun l hl g => gd_c g fun hy g => ?_
      cases g
      obtain ⟨p, vs, ep, rfl, h2, h3⟩ := r.items ha hl
      have hlen := h3.length
      have hm : vs.toArray.size * y.toNat ≤ 1000 * 1000 := Nat.mul_le_mul (by simp; (first | lia | omega)) (by first | lia | omega)
      refine wpAny_binaryOp_repeat_ref (T := "list") (U := "int") (by decide) ⟨_, h2, rfl⟩ (fun s' => typeIs_int s' y u) noFill_list_mul F.fills_int_mul F.slot_int_rmul repeat_list F.slot_int_index.lookup
          (call_meets F.slot_int_rmul (typeIs_int s y u) F.entry_int_rmul (F.args_int_rmul_2 _ _) (int___rmul___int_list y u p vs.toArray ep)
          ⟨h2, rfl, ⟨_, h2, rfl⟩, call_meets F.slot_list_mul ⟨_, h2, rfl⟩ F.entry_list_mul (F.args_list_mul_2 _ _)
          (AutoListH.list___mul___list_int_3 p vs.toArray ep y u (by simp [Builtin.List.listFitsIndex]; (first | lia | omega)) (by first | lia | omega) (by simp [Builtin.List.listTooLong, sizeLine]; simp at hm; (first | lia | omega))) ⟨h2, ?_⟩⟩)
      have key : List.foldl (fun x1 x2 => x1 ++ x2) #[] (List.replicate (if vs.toArray.isEmpty = true then 0 else y.toNat) vs.toArray) = ((List.replicate y.toNat vs).flatten).toArray := by
        have gen : ∀ n (acc : Array Value), List.foldl (fun x1 x2 => x1 ++ x2) acc (List.replicate n vs.toArray) = acc ++ ((List.replicate n vs).flatten).toArray := by
          intro n
          induction n with
          | zero => intro acc; simp
          | succ n ih => intro acc; simp only [List.replicate_succ, List.foldl_cons, List.flatten_cons]; rw [ih]; simp
        by_cases he : vs.toArray.isEmpty = true
        · have : vs = [] := by simpa using he
          subst this
          simp
        · rw [if_neg he, gen]; simp
      rw [key]
      have z := r.pushList (t := s.toks) (h3.replicate y.toNat)
      exact hQ _ _ _ z.2 z.1 ⟨_, rfl, upd_self ..⟩
  | _ => cases h
theorem VR.isNo {τ : Tau} {h : Heap} {v : V} {rv : Value} (e : VR τ h v rv) : (rv == Value.none) = isNo v := by
  cases v with
  | ref n => obtain ⟨a, rfl, _⟩ := e; rfl
  | d x => cases x <;> first | (cases e; rfl) | (obtain ⟨t, rfl⟩ := e; rfl) | (obtain ⟨a, vs, n, rfl, _⟩ := e; rfl)
theorem isSame_bools (x y : Bool) : isSame (.bool x) (.bool y) = pure (x == y) := by cases x <;> cases y <;> rfl
theorem deepL {τ' : Tau} {m : Nat} (r : R W τ ls st s) (h1 : ∀ a vs n, τ a = .none → s.heap.get? a = some (LO vs n) → τ' a = .none) (h2 : ∀ a n, τ a = .own n → m ≤ n → τ' a = .none) :
    ∀ (n : Nat) {v : V} {rv : Value} {d : D}, VR τ s.heap v rv → deepV n st.own m v = some d → DR τ' s.heap d rv
  | 0, v, rv, d, _, e => by cases v <;> cases e
  | n + 1, .d x, rv, d, hv, e => by
    cases e
    exact DR.keepL (fun a vs n q g => ⟨h1 a vs n q g, g⟩) (show DR τ s.heap x rv from hv)
  | n + 1, .ref i, rv, d, hv, e => by
    refine gd_c (p := ¬ i < m) e fun hi e2 => bd_c e2 fun l hl e3 => bd_c e3 fun ds hds e4 => ?_
    cases e4
    clear e e2 e3
    obtain ⟨a, vs, ep, rfl, ha, hg, hvs⟩ := r.ownAt hv hl
    refine ⟨a, vs, ep, rfl, h2 a i ha (Nat.not_lt.mp hi), hg, ?_⟩
    clear hl hg ha hv
    induction hvs generalizing ds with
    | nil => cases hds; rfl
    | @cons v rv _ _ x _ ih =>
      refine bd_c (x := deepV n st.own m v) hds fun y hy hds => bd_c hds fun ys hys hds => ?_
      cases hds
      exact ⟨_, _, rfl, deepL r h1 h2 n x hy, ih _ hys⟩
theorem deep {τ' : Tau} {m : Nat} (r : R W τ ls st s) (h1 : ∀ a, τ a = .none → τ' a = .none) (h2 : ∀ a n, τ a = .own n → m ≤ n → τ' a = .none)
    (n : Nat) {v : V} {rv : Value} {d : D} (hv : VR τ s.heap v rv) (e : deepV n st.own m v = some d) : DR τ' s.heap d rv := deepL r (fun a _ _ q _ => h1 a q) h2 n hv e
end
end Mine.Internal
end
section
set_option genInjectivity false
open PySem PySem.W PyProof.Rows PySem.Calls
namespace Mine.Internal
section
variable {W : Wd} {c : Cx} {k : Nat} {st st1 st2 st3 : PS} {τ : Tau} {ls : List Loc} {s : Shared} {A : Around} {E : Value → Shared → Prop}
mutual
theorem DR.reads {h : Heap} : ∀ {d : D} {v : Value} {p : PyData}, DR (fun _ => .none) h d v → d.py = some p → ∃ as, Reads h v p as
  | .none, v, p, e, q => by cases q; cases e; exact ⟨_, .none⟩
  | .bool b, v, p, e, q => by cases q; cases e; exact ⟨_, .bool _⟩
  | .int i, v, p, e, q => by cases q; obtain ⟨t, rfl⟩ := e; exact ⟨_, .int _ _⟩
  | .str i, v, p, e, q => by cases q; obtain ⟨t, rfl⟩ := e; exact ⟨_, .str _ _⟩
  | .fn a, v, p, e, q => by cases q
  | .list l, v, p, e, q => by
    refine bd_c (x := D.pys l) q fun xs hxs q => ?_
    cases q
    obtain ⟨a, vs, n, rfl, _, e3, e4⟩ := e
    obtain ⟨as, r⟩ := DRs.reads e4 hxs
    exact ⟨_, .list e3 rfl rfl r⟩
theorem DRs.reads {h : Heap} : ∀ {ds : List D} {vs : List Value} {ps : List PyData}, DRs (fun _ => .none) h ds vs → D.pys ds = some ps → ∃ as, ReadsAll h vs ps as
  | [], vs, ps, e, q => by cases q; cases e; exact ⟨_, .nil⟩
  | d :: ds, vs, ps, e, q => by
    refine bd_c (x := D.py d) q fun x hx q => bd_c q fun l hl q => ?_
    cases q
    obtain ⟨v, r, rfl, e1, e2⟩ := e
    obtain ⟨as, ra⟩ := DR.reads e1 hx
    obtain ⟨bs, rb⟩ := DRs.reads e2 hl
    exact ⟨_, .cons ra rb⟩
end
theorem dataOf_ok (r : R W τ ls st s) {v : V} {rv : Value} {p : PyData} (hv : VR τ s.heap v rv) (h : dataOf st v = some p) : (∃ as, Reads s.heap rv p as) ∧ p.canLay0 = true ∧ p.depth ≤ 10 := bd_c h fun d hd h => bd_c h fun q hq h => gd_c h fun hc h => by
  cases h
  exact ⟨DR.reads (deep (τ' := fun _ => .none) (m := 0) r (fun _ _ => rfl) (fun _ _ _ _ => rfl) 5 hv hd) hq, hc⟩
theorem isOf_ok {P : Prop} {a b : V} {x : Bool} (h : isOf a b = some x) {τ : Tau} {g : Heap} {a' b' : Value} (ha : VR τ g a a') (hb : VR τ g b b') (k1 : b' = .none → isNo a = x → P) (k2 : ∀ p q, a' = .bool p → b' = .bool q → (p == q) = x → P) : P := by
  delta isOf at h
  cases hn : isNo b with
  | true =>
    rw [hn] at h
    refine k1 ?_ (Option.some.inj h)
    have := hb.isNo
    rw [hn] at this
    exact eq_of_beq this
  | false =>
    rw [hn] at h
    refine bd_c h fun p e1 h => bd_c h fun q e2 h => k2 p q ?_ ?_ (Option.some.inj h)
    · rw [asB_e e1] at ha; exact isBool ha
    · rw [asB_e e2] at hb; exact isBool hb
theorem inOf_ok {P : Prop} {a b : V} {st : PS} {x : Bool} (h : inOf a b st = some x) (k : ∀ p q, dataOf st a = some p → dataOf st b = some (.list q) → (q.any fun z => PyData.eqv z p) = x → P) : P :=
  bd_c h fun p hp h => bd_c h fun q hq h => bd_c h fun y hy h => k p y hp (by cases q <;> cases hy; exact hq) (Option.some.inj h)
theorem cLt {a b : V} {st : PS} : ofCmp .Lt a b st = twoV a b (fun x y => some (decide (x < y))) (fun x y => some (strLt x y)) .none := rfl
theorem cGt {a b : V} {st : PS} : ofCmp .Gt a b st = twoV a b (fun x y => some (decide (x > y))) (fun x y => some (strLt y x)) .none := rfl
theorem cEq {a b : V} {st : PS} : ofCmp .Eq a b st = twoV a b (fun x y => some (x == y)) (fun x y => some (x == y)) .none := rfl
theorem cNe {a b : V} {st : PS} : ofCmp .NotEq a b st = twoV a b (fun x y => some (!(x == y))) (fun _ _ => .none) (bd (dataOf st a) fun x => bd (dataOf st b) fun y => some (!PyData.eqv x y)) := rfl
theorem cNi {a b : V} {st : PS} : ofCmp .NotIn a b st = twoV a b (fun _ _ => .none) (fun x y => some (!hasSub x y)) (bd (inOf a b st) fun r => some (!r)) := rfl
theorem ofCmp_ok {op : CmpOp} {a b : V} {x : Bool} (h : ofCmp op a b st = some x) {Q : Value → Shared → Prop} {a' b' : Value} (hA : AOk A k) (r : R W τ ls st s) (ha : VR τ s.heap a a') (hb : VR τ s.heap b b')
    (hQ : Q (.bool x) s) : wpAny (model pw W.w) A (compareOp op a' b') Q E s := by
  have hu := hA.units
  cases op with
  | Lt =>
    exact two_c (cLt.symm.trans h) (fun x y e1 e2 g => by subst e1 e2; cases g; obtain ⟨t, rfl⟩ := isInt ha; obtain ⟨u, rfl⟩ := isInt hb; exact PySem.P.lt_int hQ) (fun x y e1 e2 g => by subst e1 e2; cases g; obtain ⟨t, rfl⟩ := isStr ha; obtain ⟨u, rfl⟩ := isStr hb; exact PySem.P.lt_str hQ) fun g => nomatch g
  | Gt =>
    exact two_c (cGt.symm.trans h) (fun x y e1 e2 g => by subst e1 e2; cases g; obtain ⟨t, rfl⟩ := isInt ha; obtain ⟨u, rfl⟩ := isInt hb; exact PySem.P.gt_int hQ) (fun x y e1 e2 g => by subst e1 e2; cases g; obtain ⟨t, rfl⟩ := isStr ha; obtain ⟨u, rfl⟩ := isStr hb; exact PySem.P.gt_str hQ) fun g => nomatch g
  | Eq =>
    exact two_c (cEq.symm.trans h) (fun x y e1 e2 g => by subst e1 e2; cases g; obtain ⟨t, rfl⟩ := isInt ha; obtain ⟨u, rfl⟩ := isInt hb; exact PySem.P.eq_int hQ) (fun x y e1 e2 g => by subst e1 e2; cases g; obtain ⟨t, rfl⟩ := isStr ha; obtain ⟨u, rfl⟩ := isStr hb; exact PyProof.Rows.eq_str hQ) fun g => nomatch g
  | GtE =>
    refine bd_c h fun x e1 g => bd_c g fun y e2 g => ?_
    rw [asS_e e1] at ha; rw [asS_e e2] at hb; cases g; obtain ⟨t, rfl⟩ := isStr ha; obtain ⟨u, rfl⟩ := isStr hb; exact PySem.P.ge_str hQ
  | Is =>
    exact isOf_ok h ha hb (fun h1 h2 => by rw [h1]; exact is_none (by rw [ha.isNo, h2]; exact hQ)) fun p q h1 h2 h3 => by
      subst h1 h2
      show wpAny _ A (do return .bool (← isSame (.bool _) (.bool _))) Q E s
      rw [isSame_bools]
      exact wpAny_bind (wpAny_pure (wpAny_pure (h3 ▸ hQ)))
  | IsNot =>
    exact bd_c (x := isOf a b) h fun z h0 g => by
      cases g
      exact isOf_ok h0 ha hb (fun h1 h2 => by rw [h1]; exact isNot_none (by rw [ha.isNo, h2]; exact hQ)) fun p q h1 h2 h3 => by
        subst h1 h2
        show wpAny _ A (do return .bool (!(← isSame (.bool _) (.bool _)))) Q E s
        rw [isSame_bools]
        exact wpAny_bind (wpAny_pure (wpAny_pure (h3 ▸ hQ)))
  | NotEq =>
    exact two_c (cNe.symm.trans h) (fun x y e1 e2 g => by subst e1 e2; cases g; obtain ⟨t, rfl⟩ := isInt ha; obtain ⟨u, rfl⟩ := isInt hb; exact PySem.P.ne_int hQ) (fun x y e1 e2 g => nomatch g) fun g => bd_c g fun p hp g => bd_c g fun q hq g => by
      cases g
      obtain ⟨⟨as, ra⟩, c1, d1⟩ := dataOf_ok r ha hp
      obtain ⟨⟨bs, rb⟩, c2, d2⟩ := dataOf_ok r hb hq
      exact SeqAt.compareNe_reads ra rb c1 c2 (by unfold cLine; (first | lia | omega)) hQ
  | In =>
    exact inOf_ok (P := wpAny (model pw W.w) A (compareOp .In a' b') Q E s) h fun p q hp hq e => by
      obtain ⟨⟨as, ra⟩, c1, d1⟩ := dataOf_ok r ha hp
      obtain ⟨⟨bs, rb⟩, c2, d2⟩ := dataOf_ok r hb hq
      subst e
      exact SeqAt.in_list_reads rb ra (by simpa only [PyData.canLay0] using c2) c1 (by unfold cLine; (first | lia | omega)) hQ
  | NotIn =>
    exact two_c (cNi.symm.trans h) (fun x y e1 e2 g => nomatch g) (fun x y e1 e2 g => by subst e1 e2; cases g; obtain ⟨t, rfl⟩ := isStr ha; obtain ⟨u, rfl⟩ := isStr hb; exact PySem.P.notIn_str hQ) fun g => bd_c g fun z h0 g => inOf_ok h0 fun p q hp hq e => by
      cases g
      obtain ⟨⟨as, ra⟩, c1, d1⟩ := dataOf_ok r ha hp
      obtain ⟨⟨bs, rb⟩, c2, d2⟩ := dataOf_ok r hb hq
      subst e
      exact SeqAt.notIn_list_reads rb ra (by simpa only [PyData.canLay0] using c2) c1 (by unfold cLine; (first | lia | omega)) hQ
  | _ => cases h
theorem ofSub_ok {val sl : Expr} {a b v : V} (h : ofSub a b st = some v) {Q : Value → Shared → Prop} {a' b' : Value} (r : R W τ ls st s) (ha : VR τ s.heap a a') (hb : VR τ s.heap b b')
    (hsl : ∀ p i u, subscripted sl false (.ref p) (.int i u) = operate [.ref p, .int i u] (getItem (.ref p) (.int i u)))
    (hQ : ∀ v', VR τ s.heap v v' → Q v' s) : wpAny (model pw W.w) A (subscriptTail val sl a' b') Q E s := by
  refine bd_c h fun i e1 h => gd_c h fun hi h => bd_c h fun l hl h => ?_
  rw [asI_e e1] at hb
  obtain ⟨u, rfl⟩ := isInt hb
  obtain ⟨p, vs, ep, rfl, h2, h3⟩ := r.items ha hl
  obtain ⟨rv, g1, g2⟩ := h3.get h
  have hl : s.heap.IsList p vs.toArray := ⟨_, h2, rfl, ep, rfl⟩
  exact tail_any hl.typeIs slot_list_getitem.lookup (wpAny_getItem_list hl hi.1 (by first | lia | omega) (by simpa using g1) (hQ _ g2)) (hsl p _ u)
end
section
variable {W : Wd} {c : Cx} {k : Nat} {st st1 st2 st3 st4 : PS}
theorem TE.bin {l r : Expr} {op : Operator} {p : Pos} {x y v : V} (h1 : TE W c k st l x st1) (h2 : TE W c k st1 r y st2) (h3 : ofBin op x y st2 = some (v, st3)) : TE W c k st (.BinOp l op r p) v st3 :=
  .mk fun ok A τ s Q E hA R0 ht hQ => wpAny_BinOp (h1 ok A τ s _ E hA R0 ht fun τ1 s1 a' t1 x1 R1 v1 => h2 ok A τ1 s1 _ E hA R1 t1 fun τ2 s2 b' t2 x2 R2 v2 =>
    ofBin_ok h3 R2 (v1.mono x2) v2 fun τ3 s3 v' x3 R3 v3 => hQ τ3 s3 v' ((x1.trans x2).trans x3) R3 v3)
theorem TE.neg {e : Expr} {p : Pos} {x : Int} (h1 : TE W c k st e (.d (.int x)) st1) : TE W c k st (.UnaryOp .USub e p) (.d (.int (-x))) st1 :=
  .mk fun ok A τ s Q E hA R0 ht hQ => wpAny_UnaryOp (h1 ok A τ s _ E hA R0 ht fun τ1 s1 a' t1 x1 R1 v1 => by
    obtain ⟨t, rfl⟩ := isInt v1
    exact PySem.P.neg_int (hQ τ1 _ _ x1 (R1.tok _) VR.int))
theorem TE.cmp {l r : Expr} {op : CmpOp} {p : Pos} {x y : V} {b : Bool} (hm : behindInMarks op r = false) (h1 : TE W c k st l x st1) (h2 : TE W c k st1 r y st2) (h3 : ofCmp op x y st2 = some b) :
    TE W c k st (.Compare l [op] [r] p) (.d (.bool b)) st2 :=
  .mk fun ok A τ s Q E hA R0 ht hQ => wpAny_Compare1 (h1 ok A τ s _ E hA R0 ht fun τ1 s1 a' t1 x1 R1 v1 => h2 ok A τ1 s1 _ E hA R1 t1 fun τ2 s2 b' t2 x2 R2 v2 =>
    ofCmp_ok h3 hA R2 (v1.mono x2) v2 (hQ τ2 s2 _ (x1.trans x2) R2 VR.bool)) hm
theorem TE.sub {l r : Expr} {p : Pos} {x y v : V} (h1 : TE W c k st l x st1) (h2 : TE W c k st1 r y st2) (h3 : ofSub x y st2 = some v)
    (hsl : ∀ p i u, subscripted r false (.ref p) (.int i u) = operate [.ref p, .int i u] (getItem (.ref p) (.int i u))) : TE W c k st (.Subscript l r p) v st2 :=
  .mk fun ok A τ s Q E hA R0 ht hQ => Subscript_ (h1 ok A τ s _ E hA R0 ht fun τ1 s1 a' t1 x1 R1 v1 => h2 ok A τ1 s1 _ E hA R1 t1 fun τ2 s2 b' t2 x2 R2 v2 =>
    ofSub_ok h3 R2 (v1.mono x2) v2 hsl fun v' hv => hQ τ2 s2 _ (x1.trans x2) R2 hv)
theorem TB.cmp {l r : Expr} {op : CmpOp} {p : Pos} {x y : V} {b : Bool} (hm : behindInMarks op r = false) (h1 : TE W c k st l x st1) (h2 : TE W c k st1 r y st2) (h3 : ofCmp op x y st2 = some b) :
    TB W c k st (.Compare l [op] [r] p) b st2 :=
  .mk fun ok A τ s Q E hA R0 ht hQ => wpAny_isTrue_Compare1 (h1 ok A τ s _ E hA R0 ht fun τ1 s1 a' t1 x1 R1 v1 => h2 ok A τ1 s1 _ E hA R1 t1 fun τ2 s2 b' t2 x2 R2 v2 =>
    ofCmp_ok h3 hA R2 (v1.mono x2) v2 (wpAny_truthy_bool (hQ τ2 s2 (x1.trans x2) R2))) hm
theorem TB.not {x : Expr} {p : Pos} {b : Bool} (h : TB W c k st x b st1) : TB W c k st (.UnaryOp .Not x p) (!b) st1 :=
  .mk fun ok A τ s Q E hA R0 ht hQ => wpAny_isTrue_Not (h ok A τ s _ E hA R0 ht fun τ1 s1 t1 x1 R1 => hQ τ1 s1 x1 R1)
theorem TB.and {x y : Expr} {p : Pos} {b : Bool} (h1 : TB W c k st x true st1) (h2 : TB W c k st1 y b st2) : TB W c k st (.BoolOp .And [x, y] p) b st2 :=
  .mk fun ok A τ s Q E hA R0 ht hQ => wpAny_isTrue_BoolOp (wpAny_allTrue_And_cons (h1 ok A τ s _ E hA R0 ht fun τ1 s1 t1 x1 R1 =>
    wpAny_allTrue_And_cons (h2 ok A τ1 s1 _ E hA R1 t1 fun τ2 s2 t2 x2 R2 => by
      have fin := hQ τ2 s2 (x1.trans x2) R2
      cases b with
      | true => exact wpAny_allTrue_And_nil fin
      | false => exact fin)))
theorem TB.andF {x y : Expr} {p : Pos} (h1 : TB W c k st x false st1) : TB W c k st (.BoolOp .And [x, y] p) false st1 :=
  .mk fun ok A τ s Q E hA R0 ht hQ => wpAny_isTrue_BoolOp (wpAny_allTrue_And_cons (h1 ok A τ s _ E hA R0 ht fun τ1 s1 t1 x1 R1 => hQ τ1 s1 x1 R1))
theorem TB.or {x y : Expr} {p : Pos} {b : Bool} (h1 : TB W c k st x false st1) (h2 : TB W c k st1 y b st2) : TB W c k st (.BoolOp .Or [x, y] p) b st2 :=
  .mk fun ok A τ s Q E hA R0 ht hQ => wpAny_isTrue_BoolOp (wpAny_allTrue_Or_cons (h1 ok A τ s _ E hA R0 ht fun τ1 s1 t1 x1 R1 =>
    wpAny_allTrue_Or_cons (h2 ok A τ1 s1 _ E hA R1 t1 fun τ2 s2 t2 x2 R2 => by
      have fin := hQ τ2 s2 (x1.trans x2) R2
      cases b with
      | false => exact wpAny_allTrue_Or_nil fin
      | true => exact fin)))
theorem TB.orT {x y : Expr} {p : Pos} (h1 : TB W c k st x true st1) : TB W c k st (.BoolOp .Or [x, y] p) true st1 :=
  .mk fun ok A τ s Q E hA R0 ht hQ => wpAny_isTrue_BoolOp (wpAny_allTrue_Or_cons (h1 ok A τ s _ E hA R0 ht fun τ1 s1 t1 x1 R1 => hQ τ1 s1 x1 R1))
end
end Mine.Internal
end
section
set_option genInjectivity false
open PySem PySem.W PyProof.Rows PySem.Calls
namespace Mine.Internal
section
variable {W : Wd} {c : Cx} {k : Nat} {st st1 st2 st3 st4 : PS}
noncomputable def NoStar (e : Expr) : Prop := ∀ es env, starEach (e :: es) env = (false, eval e env) :: starEach es env
noncomputable def Plain : List Expr → Prop
  | [] => True
  | e :: es => NoStar e ∧ Plain es
theorem any_false {pos : Pos} {env : Env} : ∀ {es : List Expr}, Plain es → (backTo pos (starEach es env)).any (·.1) = false
  | [], _ => rfl
  | e :: es, h => by
    rw [h.1]
    show (false || (backTo pos (starEach es env)).any (·.1)) = false
    rw [any_false h.2]; rfl
theorem all_plain {pos : Pos} {env : Env} : ∀ {es : List Expr}, Plain es → (backTo pos (starEach es env)).all (fun x => !x.1) = true
  | [], _ => rfl
  | e :: es, h => by
    rw [h.1]
    show (true && (backTo pos (starEach es env)).all (fun x => !x.1)) = true
    rw [all_plain h.2]; rfl
structure Blt (c : Cx) (n : Str) (v : Value) : Prop where
  ns : ∀ q, nsIn (hd.heap_1 q) mainGlobals n = some none
  val : bootBuiltins n = some v
  name : n ≠ "__name__"
  kind : c.env.kindOf n = some .globalImplicit
  dbg : (n == ("__debug__" : Str)) = false
theorem TE.blt {n : Str} {id : String} {px p : Pos} {e : Expr} {es : List Expr} {vs : List V} {v : V} (b : Blt c n (.builtin id)) (hp : Plain (e :: es)) (h : TEs W c k st (e :: es) vs st1)
    (hc : ∀ (A : Around) (τ : Tau) (s : Shared) (Q : Value → Shared → Prop) (E : Value → Shared → Prop) us, AOk A k → R W τ c.ls st1 s → 0 < s.toks → VRs τ s.heap vs us →
      (∀ τ' s' v', Ext τ s.heap τ' s'.heap → R W τ' c.ls st2 s' → VR τ' s'.heap v v' → Q v' s') → wpAny (model pw W.w) A (call (.builtin id) us) Q E s) :
    TE W c k st (.Call (.Name n px) (e :: es) [] p) v st2 :=
  .mk fun ok A τ s Q E hA R0 ht hQ => wpAny_Call_Name_kw (wpAny_bltName ok R0 (b.ns _) b.val b.name b.kind (callWith_builtin (any_false hp) (by
    have h0 := h ok A τ s (fun vs s' => wpAny (model pw W.w) A (call (.builtin id) vs) Q E s') E p hA R0 ht fun τ1 s1 us t1 x1 R1 v1 => hc A τ1 s1 Q E us hA R1 t1 v1 fun τ2 s2 v2 x2 R2 hv => hQ τ2 s2 v2 (x1.trans x2) R2 hv
    rw [hp.1] at h0 ⊢
    exact evalArgs_plain h0)) b.dbg)
theorem TE.bltType {n : Str} {T : String} {px p : Pos} {e : Expr} {es : List Expr} {vs : List V} {v : V} (b : Blt c n (.type T)) (hp : Plain (e :: es)) (h : TEs W c k st (e :: es) vs st1)
    (hc : ∀ (A : Around) (τ : Tau) (s : Shared) (Q : Value → Shared → Prop) (E : Value → Shared → Prop) us, AOk A k → R W τ c.ls st1 s → 0 < s.toks → VRs τ s.heap vs us →
      (∀ τ' s' v', Ext τ s.heap τ' s'.heap → R W τ' c.ls st2 s' → VR τ' s'.heap v v' → Q v' s') → wpAny (model pw W.w) A (call (.type T) us) Q E s) :
    TE W c k st (.Call (.Name n px) (e :: es) [] p) v st2 :=
  .mk fun ok A τ s Q E hA R0 ht hQ => wpAny_Call_Name_kw (wpAny_bltName ok R0 (b.ns _) b.val b.name b.kind (PySem.callWith_type (any_false hp) (by
    have h0 := h ok A τ s (fun vs s' => wpAny (model pw W.w) A (call (.type T) vs) Q E s') E p hA R0 ht fun τ1 s1 us t1 x1 R1 v1 => hc A τ1 s1 Q E us hA R1 t1 v1 fun τ2 s2 v2 x2 R2 hv => hQ τ2 s2 v2 (x1.trans x2) R2 hv
    rw [hp.1] at h0 ⊢
    exact evalArgs_plain h0)) b.dbg)
theorem VRs.one {τ : Tau} {h : Heap} {v : V} {us : List Value} (e : VRs τ h [v] us) : ∃ u, us = [u] ∧ VR τ h v u := by
  cases e with
  | cons a b => cases b; exact ⟨_, rfl, a⟩
theorem VRs.two {τ : Tau} {h : Heap} {v w : V} {us : List Value} (e : VRs τ h [v, w] us) : ∃ u x, us = [u, x] ∧ VR τ h v u ∧ VR τ h w x := by
  cases e with
  | cons a b => obtain ⟨x, rfl, hx⟩ := b.one; exact ⟨_, _, rfl, a, hx⟩
theorem VRs.three {τ : Tau} {h : Heap} {v w z : V} {us : List Value} (e : VRs τ h [v, w, z] us) : ∃ u x y, us = [u, x, y] ∧ VR τ h v u ∧ VR τ h w x ∧ VR τ h z y := by
  cases e with
  | cons a b => obtain ⟨x, y, rfl, hx, hy⟩ := b.two; exact ⟨_, _, _, rfl, a, hx, hy⟩
theorem TE.lenS {n : Str} {px p : Pos} {e : Expr} {x : Str} (b : Blt c n (.builtin "len")) (hp : Plain [e]) (h : TEs W c k st [e] [.d (.str x)] st1) (hx : x.length < 1000) : TE W c k st (.Call (.Name n px) [e] [] p) (.d (.int x.length)) st1 :=
  .blt b hp h fun A τ s Q E us hA R0 ht hv hQ => by
    obtain ⟨u, rfl, hu⟩ := hv.one
    obtain ⟨t, rfl⟩ := isStr hu
    exact PySem.P.len_str (by first | lia | omega) (hQ τ _ _ (Ext.refl ..) (R0.tok _) VR.int)
theorem TE.lenL {n : Str} {px p : Pos} {e : Expr} {v : V} {l : List V} (b : Blt c n (.builtin "len")) (hp : Plain [e]) (h : TEs W c k st [e] [v] st1) (hi : items st1 v = some l) (hx : l.length < 1000) :
    TE W c k st (.Call (.Name n px) [e] [] p) (.d (.int l.length)) st1 :=
  .blt b hp h fun A τ s Q E us hA R0 ht hv hQ => by
    obtain ⟨u, rfl, hu⟩ := hv.one
    obtain ⟨a, vs, ep, rfl, h2, h3⟩ := R0.items hu hi
    have hl := h3.length
    refine call_len_list (items := vs.toArray) ⟨_, h2, rfl, ep, rfl⟩ (by simp; (first | lia | omega)) ?_
    have : ((vs.toArray.size : Nat) : Int) = (l.length : Int) := by simp [hl]
    rw [this]
    exact hQ τ _ _ (Ext.refl ..) (R0.tok _) VR.int
theorem TE.min {n : Str} {px p : Pos} {e f : Expr} {x y : Int} (b : Blt c n (.builtin "min")) (hp : Plain [e, f]) (h : TEs W c k st [e, f] [.d (.int x), .d (.int y)] st1) :
    TE W c k st (.Call (.Name n px) [e, f] [] p) (.d (.int (if y < x then y else x))) st1 :=
  .blt b hp h fun A τ s Q E us hA R0 ht hv hQ => by
    obtain ⟨u, w, rfl, hu, hw⟩ := hv.two
    obtain ⟨t, rfl⟩ := isInt hu
    obtain ⟨t', rfl⟩ := isInt hw
    refine PySem.Flt.min_two_num hA.handled (.int _ _) (.int _ _) fun h' tk hk => ?_
    have z := R0.grow (t := tk) hk
    refine hQ τ _ _ z.2 z.1 ?_
    rw [show PySem.Flt.ltV (.int y t') (.int x t) = decide (y < x) from rfl]
    by_cases hq : y < x
    · rw [if_pos hq, if_pos (decide_eq_true hq)]; exact VR.int
    · rw [if_neg hq, if_neg (by simpa using hq)]; exact VR.int
theorem TE.max {n : Str} {px p : Pos} {e f : Expr} {x y : Int} (b : Blt c n (.builtin "max")) (hp : Plain [e, f]) (h : TEs W c k st [e, f] [.d (.int x), .d (.int y)] st1) :
    TE W c k st (.Call (.Name n px) [e, f] [] p) (.d (.int (if x < y then y else x))) st1 :=
  .blt b hp h fun A τ s Q E us hA R0 ht hv hQ => by
    obtain ⟨u, w, rfl, hu, hw⟩ := hv.two
    obtain ⟨t, rfl⟩ := isInt hu
    obtain ⟨t', rfl⟩ := isInt hw
    refine PySem.Flt.max_two_num hA.handled (.int _ _) (.int _ _) fun h' tk hk => ?_
    have z := R0.grow (t := tk) hk
    refine hQ τ _ _ z.2 z.1 ?_
    rw [show PySem.Flt.ltV (.int x t) (.int y t') = decide (x < y) from rfl]
    by_cases hq : x < y
    · rw [if_pos hq, if_pos (decide_eq_true hq)]; exact VR.int
    · rw [if_neg hq, if_neg (by simpa using hq)]; exact VR.int
theorem ints_of {τ : Tau} {h : Heap} {l : List V} {vs : List Value} (e : VRs τ h l vs) : ∀ {is : List Int}, ints? l = some is → ∃ ts : List (Int × Tok), vs = ts.map (fun p => .int p.1 p.2) ∧ ts.map (·.1) = is := by
  induction e with
  | nil => intro is q; cases q; exact ⟨[], rfl, rfl⟩
  | @cons v rv _ _ a _ ih =>
    intro is q
    refine bd_c (x := asI v) q fun x hx q => bd_c q fun l hl q => ?_
    cases q
    obtain ⟨ts, rfl, h2⟩ := ih hl
    rw [asI_e hx] at a
    obtain ⟨t, rfl⟩ := isInt a
    exact ⟨(x, t) :: ts, rfl, congrArg (x :: ·) h2⟩
theorem strs_of {τ : Tau} {h : Heap} {l : List V} {vs : List Value} (e : VRs τ h l vs) : ∀ {is : List Str}, strs? l = some is → ∃ ts : List (Str × Tok), vs = ts.map (fun p => .str p.1 p.2) ∧ ts.map (·.1) = is := by
  induction e with
  | nil => intro is q; cases q; exact ⟨[], rfl, rfl⟩
  | @cons v rv _ _ a _ ih =>
    intro is q
    refine bd_c (x := asS v) q fun x hx q => bd_c q fun l hl q => ?_
    cases q
    obtain ⟨ts, rfl, h2⟩ := ih hl
    rw [asS_e hx] at a
    obtain ⟨t, rfl⟩ := isStr a
    exact ⟨(x, t) :: ts, rfl, congrArg (x :: ·) h2⟩
theorem TE.copy {n : Str} {px p : Pos} {e : Expr} {v : V} {l : List V} (b : Blt c n (.type "list")) (hp : Plain [e]) (h : TEs W c k st [e] [v] st1) (hi : items st1 v = some l) (hx : l.length < 1000) :
    TE W c k st (.Call (.Name n px) [e] [] p) (.ref st1.own.length) { st1 with own := st1.own ++ [l] } :=
  .bltType b hp h fun A τ s Q E us hA R0 ht hv hQ => by
    obtain ⟨u, rfl, hu⟩ := hv.one
    obtain ⟨a, vs, ep, rfl, h2, h3⟩ := R0.items hu hi
    have hl := h3.length
    refine call_list_seq (items := vs.toArray) a (.inl rfl) h2 rfl rfl (fun h' c' hk hn => ?_) (by simp only [List.size_toArray]; rw [sizeLine_eq]; (first | lia | omega))
    have z := R0.new (t := s.toks) hk (get_size _) hn h3
    exact hQ _ _ _ z.2 z.1 ⟨_, rfl, upd_self ..⟩
theorem preSum_take (ts : List (Int × Tok)) : ∀ j, preSum (numAt ts.toArray) j = ((ts.map (·.1)).take j).sum
  | 0 => by simp [preSum]
  | j + 1 => by
    rw [preSum, preSum_take ts j, List.take_add_one, List.sum_append]
    congr 1
    simp only [numAt, List.getElem?_toArray, List.getElem?_map]
    cases ts[j]? <;> simp
theorem TE.sum {n : Str} {px p : Pos} {e : Expr} {v : V} {l : List V} {is : List Int} (b : Blt c n (.builtin "sum")) (hp : Plain [e]) (h : TEs W c k st [e] [v] st1) (hi : items st1 v = some l) (hx : ints? l = some is) :
    TE W c k st (.Call (.Name n px) [e] [] p) (.d (.int is.sum)) st1 :=
  .blt b hp h fun A τ s Q E us hA R0 ht hv hQ => by
    obtain ⟨u, rfl, hu⟩ := hv.one
    obtain ⟨a, vs, ep, rfl, h2, h3⟩ := R0.items hu hi
    obtain ⟨ts, rfl, h4⟩ := ints_of h3 hx
    refine PySem.sum_intListG (xs := ts.toArray) hA.handled ⟨_, h2, rfl, ep, ?_⟩ fun h' tk t' hk => ?_
    · simp [intItems]
    · have z := R0.grow (t := tk) hk
      have e : preSum (numAt ts.toArray) ts.toArray.size = is.sum := by
        rw [preSum_take, ← h4]
        congr 1
        apply List.take_of_length_le
        simp
      rw [e]
      exact hQ τ _ _ z.2 z.1 VR.int
theorem TE.take {e : Expr} {kd j : Nat} {p1 p2 p3 : Pos} {v : V} {l : List V} (h : TE W c k st e v st1) (hi : items st1 v = some l) (hj : j ≤ l.length) (hl : l.length < 1000)
    (ht : ∀ o r, letTemporaryGo e o r = pure ()) :
    TE W c k st (.Subscript e (.Slice Option.none (some (.Constant (.int j) kd p1)) Option.none p2) p3) (.ref st1.own.length) { st1 with own := st1.own ++ [l.take j] } :=
  .mk fun ok A τ s Q E hA R0 ht' hQ => wpAny_Subscript_list_slice (lower := .none) (upper := some (.Constant (.int j) kd p1)) (Q := Q) (h ok A τ s _ E hA R0 ht' fun τ1 s1 a' t1 x1 R1 v1 => by
    obtain ⟨a, vs, ep, rfl, h2, h3⟩ := R1.items v1 hi
    have hlen := h3.length
    rw [evalPart_none]
    refine wpAny_pure ?_
    rw [evalPart_some]
    refine wpAny_Constant_int ?_
    refine ⟨a, vs.toArray, Option.none, some (j : Int), rfl, ⟨_, h2, rfl, ep, rfl⟩, by simp only [List.size_toArray]; rw [sizeLine_eq]; (first | lia | omega), .none, .int _ _, ?_⟩
    rw [slicePick_upto _ _ (by simp; (first | lia | omega))]
    have z1 := R1.push (t := s1.toks + 1) { cls := .type "slice", data := .fields #[.none, .int j s1.toks, .none] }
    have z2 := z1.1.pushList (t := s1.toks + 1) ((h3.mono z1.2).take j)
    have e : s1.heap.objs.size + 1 = (s1.heap.push { cls := .type "slice", data := .fields #[.none, .int j s1.toks, .none] }).objs.size := by rw [Heap.size_push]
    simp only [e]
    exact hQ _ _ _ (x1.trans (z1.2.trans z2.2)) z2.1 ⟨_, rfl, upd_self ..⟩) ht
theorem slicePick_rev (vs : List Value) : slicePick vs.toArray .none .none (some (-1)) = vs.reverse.toArray := by
  have e : sliceBounds .none .none (some (-1)) vs.toArray.size = ((vs.length : Int) - 1, -1, -1) := by
    simp [sliceBounds]
  unfold slicePick
  rw [e]
  congr 1
  unfold sliceRange
  simp only [show ¬ ((-1 : Int) > 0) by decide, if_false]
  have hn : (if ((vs.length : Int) - 1) > -1 then (((vs.length : Int) - 1 - -1 - -1 - 1) / -(-1)) else 0) = (vs.length : Int) := by
    by_cases h : ((vs.length : Int) - 1) > -1
    · rw [if_pos h, show -(-1 : Int) = 1 by rfl, Int.ediv_one]; (first | lia | omega)
    · rw [if_neg h]; (first | lia | omega)
  rw [hn, Int.toNat_natCast]
  have := pick_run vs.reverse.toArray 0 vs.length
  simp only [Nat.zero_add, List.map_id', List.drop_zero] at this
  rw [List.take_of_length_le (by simp)] at this
  rw [← this, List.filterMap_map]
  have gen : ∀ (m : List Nat) (f g : Nat → Option Value), (∀ k ∈ m, f k = g k) → m.filterMap f = m.filterMap g := by
    intro m f g hm
    induction m with
    | nil => rfl
    | cons x r ih =>
      rw [List.filterMap_cons, List.filterMap_cons, hm x (.head _), ih fun k hk => hm k (.tail _ hk)]
  apply gen
  intro k hk
  have hk' := List.mem_range.mp hk
  simp only [Function.comp, List.getElem?_toArray]
  rw [List.getElem?_reverse hk']
  congr 1
  (first | lia | omega)
theorem TE.rev {e : Expr} {kd : Nat} {p0 p1 p2 p3 : Pos} {v : V} {l : List V} (h : TE W c k st e v st1) (hi : items st1 v = some l) (hl : l.length < 1000)
    (ht : ∀ o r, letTemporaryGo e o r = pure ()) :
    TE W c k st (.Subscript e (.Slice Option.none Option.none (some (.UnaryOp .USub (.Constant (.int 1) kd p0) p1)) p2) p3) (.ref st1.own.length) { st1 with own := st1.own ++ [l.reverse] } :=
  .mk fun ok A τ s Q E hA R0 ht' hQ => wpAny_Subscript_Slice_step (T := "list") (lower := Option.none) (upper := Option.none) (Q := Q) list_getitem_lookup (h ok A τ s _ E hA R0 ht' fun τ1 s1 a' t1 x1 R1 v1 => by
    obtain ⟨a, vs, ep, rfl, h2, h3⟩ := R1.items v1 hi
    have hlen := h3.length
    refine wpAny_Slice (lower := Option.none) (upper := Option.none) ?_
    rw [evalPart_none]
    refine wpAny_pure (wpAny_pure ?_)
    rw [evalPart_some]
    refine wpAny_UnaryOp (wpAny_Constant_int (PySem.P.neg_int ?_))
    have z1 := R1.push (t := s1.toks + 1 + 1) { cls := .type "slice", data := .fields #[.none, .none, .int (-1) (s1.toks + 1)] }
    refine ⟨⟨_, Heap.get?_push_of_some _ h2, rfl⟩, wpAny_getItem_list_slice (items := vs.toArray) ⟨_, Heap.get?_push_of_some _ h2, rfl, ep, rfl⟩ ⟨_, Heap.get?_push_size _ rfl, rfl, rfl⟩ .none .none (.int _ _) (by simp) ?_ (by simp only [List.size_toArray]; rw [sizeLine_eq]; (first | lia | omega))⟩
    rw [slicePick_rev]
    have z2 := z1.1.pushList (t := s1.toks + 1 + 1) (h3.mono z1.2).reverse
    exact hQ _ _ _ (x1.trans (z1.2.trans z2.2)) z2.1 ⟨_, rfl, upd_self ..⟩) ht
theorem TE.sfrom {e f : Expr} {p2 p3 : Pos} {x : Str} {i : Int} (h1 : TE W c k st e (.d (.str x)) st1) (h2 : TE W c k st1 f (.d (.int i)) st2) (hl : x.length < 1000)
    (ht : ∀ o r, letTemporaryGo e o r = pure ()) :
    TE W c k st (.Subscript e (.Slice (some f) Option.none Option.none p2) p3) (.d (.str (Txt.slice x (some i) Option.none))) st2 :=
  .mk fun ok A τ s Q E hA R0 ht' hQ => wpAny_Subscript_str_slice (lower := some f) (upper := .none) (Q := Q) (h1 ok A τ s _ E hA R0 ht' fun τ1 s1 a' t1 x1 R1 v1 => h2 ok A τ1 s1 _ E hA R1 t1 fun τ2 s2 b' t2 x2 R2 v2 => by
    obtain ⟨t, rfl⟩ := isStr v1
    obtain ⟨u, rfl⟩ := isInt v2
    rw [evalPart_none]
    refine wpAny_pure ⟨x, t, some (i, u), Option.none, rfl, rfl, rfl, ?_⟩
    refine post_val_or_str ⟨Nat.le_trans (Txt.slice_le x (some i) Option.none) (by rw [sizeLine_eq]; (first | lia | omega)), fun t' k => ?_⟩
    have z := R2.push (t := k) { cls := .type "slice", data := .fields #[.int i u, .none, .none] }
    exact hQ _ _ _ (x1.trans (x2.trans z.2)) z.1 VR.str) ht
theorem TE.scut {e f g : Expr} {p2 p3 : Pos} {x : Str} {i j : Int} (h1 : TE W c k st e (.d (.str x)) st1) (h2 : TE W c k st1 f (.d (.int i)) st2) (h3 : TE W c k st2 g (.d (.int j)) st3) (hl : x.length < 1000)
    (ht : ∀ o r, letTemporaryGo e o r = pure ()) :
    TE W c k st (.Subscript e (.Slice (some f) (some g) Option.none p2) p3) (.d (.str (Txt.slice x (some i) (some j)))) st3 :=
  .mk fun ok A τ s Q E hA R0 ht' hQ => wpAny_Subscript_str_slice (lower := some f) (upper := some g) (Q := Q) (h1 ok A τ s _ E hA R0 ht' fun τ1 s1 a' t1 x1 R1 v1 => h2 ok A τ1 s1 _ E hA R1 t1 fun τ2 s2 b' t2 x2 R2 v2 =>
    h3 ok A τ2 s2 _ E hA R2 t2 fun τ3 s3 c' t3 x3 R3 v3 => by
    obtain ⟨t, rfl⟩ := isStr v1
    obtain ⟨u, rfl⟩ := isInt v2
    obtain ⟨u', rfl⟩ := isInt v3
    refine ⟨x, t, some (i, u), some (j, u'), rfl, rfl, rfl, ?_⟩
    refine post_val_or_str ⟨Nat.le_trans (Txt.slice_le x (some i) (some j)) (by rw [sizeLine_eq]; (first | lia | omega)), fun t' k => ?_⟩
    have z := R3.push (t := k) { cls := .type "slice", data := .fields #[.int i u, .int j u', .none] }
    exact hQ _ _ _ (x1.trans (x2.trans (x3.trans z.2))) z.1 VR.str) ht
end
end Mine.Internal
end
section
set_option genInjectivity false
open PySem PySem.W PyProof.Rows PySem.Calls
namespace Mine.Internal
section
variable {W : Wd} {c : Cx} {k : Nat} {st st1 st2 st3 st4 : PS}
theorem hfew {pos : Pos} {env : Env} {es : List Expr} (hp : Plain es) (hl : es.length < 30) : ((backTo pos (starEach es env)).all (fun x => !x.1) && (backToKw pos (keywordEach [] env)).all (fun x => x.1.isSome)
      && decide (es.length + ([] : List Keyword).length + (if ([] : List Keyword).isEmpty then 0 else 1) < 30)) = true := by
  rw [all_plain hp]
  show (true && true && decide (es.length + 0 + 0 < 30)) = true
  simp [hl]
theorem setOwn_some {x : V} {f : List V → Option (List V)} {st st' : PS} (h : setOwn st x f = some st') : ∃ n l l', x = .ref n ∧ st.own[n]? = some l ∧ f l = some l' ∧ st' = { st with own := st.own.set n l' } := by
  refine bd_c h fun n e h => bd_c h fun l hl h => bd_c h fun l' hl' h => ?_
  cases h
  exact ⟨n, l, l', asR_e e, hl, hl', rfl⟩
theorem R.refAt {τ : Tau} {ls : List Loc} {s : Shared} (r : R W τ ls st s) {n : Nat} {rv : Value} (hv : VR τ s.heap (.ref n) rv) : ∃ a vs ep, rv = .ref a ∧ τ a = .own n ∧ s.heap.get? a = some (LO vs ep) := by
  obtain ⟨a, rfl, ha⟩ := hv
  obtain ⟨a', vs, ep, g1, g2, g3⟩ := r.own n _ (List.getElem?_eq_getElem (r.bound a n ha))
  have := r.uniq a a' n ha g1
  subst this
  exact ⟨a, vs, ep, rfl, ha, g2⟩
noncomputable def Base (o : Expr) (n : Str) : Prop := ∀ env, attributeBase o n env (eval o env) = eval o env
theorem TE.pop {o e : Expr} {apos pos : Pos} {x r : V} {i : Int} (hb : Base o "pop") (hline : (apos.endLine == pos.line) = true) (hp : Plain [e])
    (h1 : TE W c k st o x st1) (h2 : TE W c k st1 e (.d (.int i)) st2) (hi : 0 ≤ i ∧ i < 1000) (h3 : ofSub x (.d (.int i)) st2 = some r) (h4 : setOwn st2 x (fun l => if l.length < 1000 then some (l.eraseIdx i.toNat) else .none) = some st3) :
    TE W c k st (.Call (.Attribute o "pop" apos) [e] [] pos) r st3 :=
  .mk fun ok A τ s Q E hA R0 ht hQ => wpAny_Call_method (T := "list") (hb _) (hfew hp (by simp)) hline PySem.F.plainAttrs_list PySem.F.slot_list_pop PySem.F.type_list_pop
    (h1 ok A τ s _ E hA R0 ht fun τ1 s1 a' t1 x1 R1 v1 => by
      obtain ⟨n, l, l', rfl, hl, hl', rfl⟩ := setOwn_some h4
      obtain ⟨a, vs, ep, rfl, ha, hg⟩ := R1.refAt v1
      refine ⟨⟨_, hg, rfl⟩, fun b hb => by cases hb; exact ⟨_, hg, rfl⟩, ?_⟩
      have he : backTo pos (starEach [e] c.env) = [(false, eval e c.env)] := by rw [hp.1]; rfl
      rw [he]
      refine PySem.P.pop_at_list (h2 ok A τ1 s1 _ E hA R1 t1 fun τ2 s2 b' t2 x2 R2 v2 => ?_)
      obtain ⟨u, rfl⟩ := isInt v2
      obtain ⟨a2, vs2, ep2, e2, ha2, hg2, hv2⟩ := R2.ownAt (v1.mono x2) hl
      cases e2
      have hlen2 := hv2.length
      split at hl'
      · rename_i hl6
        cases hl'
        have h3' : l[i.toNat]? = some r := by
          rw [ofSub_s hi (show items st2 (.ref n) = some l from hl)] at h3
          exact h3
        obtain ⟨rv, g1, g2⟩ := hv2.get h3'
        have hlt : i.toNat < vs2.length := (List.getElem?_eq_some_iff.mp g1).1
        refine ⟨vs2.toArray, ep2, i, u, i.toNat, rv, by simp only [List.size_toArray]; rw [sizeLine_eq]; (first | lia | omega), rfl, hg2, by simp [Builtin.List.listFitsIndex]; (first | lia | omega), ?_, by simpa using g1, ?_⟩
        · simp only [seqIndex?, List.size_toArray]
          have e1 : ¬ i < 0 := by first | lia | omega
          have e2 : (0 ≤ i ∧ i < (vs2.length : Int)) := by first | lia | omega
          simp [e1, e2]
        · have q := IsL.update (n := ep2) hg2 (fun xs => xs.eraseIdxIfInBounds i.toNat)
          have z := R2.mut (t := s2.toks) ha2 (Heap.SameBut.update (f := Obj.mapSeq fun xs => xs.eraseIdxIfInBounds i.toNat) ..) (vs' := vs2.eraseIdx i.toNat) (l' := l.eraseIdx i.toNat) (by
            rw [q, show vs2.toArray.eraseIdxIfInBounds i.toNat = (vs2.eraseIdx i.toNat).toArray by simp]) (hv2.eraseIdx _)
          exact hQ _ _ _ (x1.trans (x2.trans z.2)) z.1 (g2.mono z.2)
      · cases hl')
theorem TE.replace {o : Expr} {x y z : Str} {k1 k2 : Nat} {p1 p2 apos pos : Pos} (hb : Base o "replace") (hline : (apos.endLine == pos.line) = true)
    (h1 : TE W c k st o (.d (.str z)) st1) (hxy : (x == y) = false) (hz : z.length < 1000) (hy : y.length < 15) :
    TE W c k st (.Call (.Attribute o "replace" apos) [.Constant (.str x) k1 p1, .Constant (.str y) k2 p2] [] pos) (.d (.str (Txt.replace z x y))) st1 :=
  .mk fun ok A τ s Q E hA R0 ht hQ => wpAny_Call_method (T := "str") (hb _) (hfew ⟨fun _ _ => rfl, fun _ _ => rfl, trivial⟩ (by simp)) hline PySem.F.plainAttrs_str PySem.F.slot_str_replace PySem.F.type_str_replace
    (h1 ok A τ s _ E hA R0 ht fun τ1 s1 a' t1 x1 R1 v1 => by
      obtain ⟨t, rfl⟩ := isStr v1
      refine ⟨typeIs_str _ _ _, (fun _ hb => nomatch hb), ?_⟩
      have he : backTo pos (starEach [.Constant (.str x) k1 p1, .Constant (.str y) k2 p2] c.env) = [(false, eval (.Constant (.str x) k1 p1) c.env), (false, eval (.Constant (.str y) k2 p2) c.env)] := rfl
      rw [he]
      refine callWith_builtin rfl (evalArgs_plain (spliced_cons (wpAny_Constant_str (spliced_cons (wpAny_Constant_str (spliced_nil ?_))))))
      exact SC.replaceW (by show s1.toks ≠ 0; (first | lia | omega)) (by simp) (by simp) hxy (by first | lia | omega) (by first | lia | omega) fun t' k => hQ _ _ _ x1 (R1.tok _) VR.str)
theorem TE.join {x : Str} {kd : Nat} {p1 apos pos : Pos} {e : Expr} {v : V} {l : List V} {ts : List Str} (hline : (apos.endLine == pos.line) = true) (hb : Base (.Constant (.str x) kd p1) "join") (hp : Plain [e])
    (h1 : TE W c k st e v st1) (hi : items st1 v = some l) (hs : strs? l = some ts) (hj : JoinOk x ts = true) :
    TE W c k st (.Call (.Attribute (.Constant (.str x) kd p1) "join" apos) [e] [] pos) (.d (.str (Txt.join x ts))) st1 :=
  .mk fun ok A τ s Q E hA R0 ht hQ => wpAny_Call_method (T := "str") (hb _) (hfew hp (by simp)) hline PySem.F.plainAttrs_str PySem.F.slot_str_join PySem.F.type_str_join (by
      refine wpAny_Constant_str ?_
      refine ⟨typeIs_str _ _ _, (fun _ hb => nomatch hb), ?_⟩
      have he : backTo pos (starEach [e] c.env) = [(false, eval e c.env)] := by rw [hp.1]; rfl
      rw [he]
      refine callWith_builtin rfl (evalArgs_plain (spliced_cons (h1 ok A τ _ _ E hA (R0.tok _) (Nat.succ_pos _) fun τ1 s1 a' t1 x1 R1 v1 => spliced_nil ?_)))
      obtain ⟨a, vs, ep, rfl, h2, h3⟩ := R1.items v1 hi
      obtain ⟨ps, rfl, h4⟩ := strs_of h3 hs
      exact SC.join (l := ps) ⟨_, h2, rfl, ep, rfl⟩ h4 hj fun t' k => hQ _ _ _ x1 (R1.tok _) VR.str)
theorem TE.and {x y : Expr} {p : Pos} {v : V} (h1 : TE W c k st x (.d (.bool true)) st1) (h2 : TE W c k st1 y v st2) : TE W c k st (.BoolOp .And [x, y] p) v st2 :=
  .mk fun ok A τ s Q E hA R0 ht hQ => wpAny_And2 (h1 ok A τ s _ E hA R0 ht fun τ1 s1 a' t1 x1 R1 v1 => by
    have := isBool v1; subst this
    refine wpAny_truthy_bool ?_
    exact h2 ok A τ1 s1 _ E hA R1 t1 fun τ2 s2 b' t2 x2 R2 v2 => hQ _ _ _ (x1.trans x2) R2 v2)
theorem TE.andF {x y : Expr} {p : Pos} (h1 : TE W c k st x (.d (.bool false)) st1) : TE W c k st (.BoolOp .And [x, y] p) (.d (.bool false)) st1 :=
  .mk fun ok A τ s Q E hA R0 ht hQ => wpAny_And2 (h1 ok A τ s _ E hA R0 ht fun τ1 s1 a' t1 x1 R1 v1 => by
    have := isBool v1; subst this
    exact wpAny_truthy_bool (hQ _ _ _ x1 R1 VR.bool))
theorem TS1.setItem {o i e : Expr} {p1 p : Pos} {v x : V} {j : Int} (hs : swapsWith e (some (.Subscript o i p1)) p.line c.env = pure false)
    (h1 : TE W c k st e v st1) (h2 : TE W c k st1 o x st2) (h3 : TE W c k st2 i (.d (.int j)) st3)
    (h4 : setOwn st3 x (fun l => if 0 ≤ j ∧ j < l.length ∧ j < 1000 then some (l.set j.toNat v) else .none) = some st4) : TS1 W c k st (.Assign [.Subscript o i p1] e p) .next st4 :=
  .mk fun ok A τ s Q E hA R0 ht hQ => wpAny_Assign_Subscript (h1 ok A τ s _ E hA R0 ht fun τ1 s1 a' t1 x1 R1 v1 => h2 ok A τ1 s1 _ E hA R1 t1 fun τ2 s2 b' t2 x2 R2 v2 =>
    h3 ok A τ2 s2 _ E hA R2 t2 fun τ3 s3 c' t3 x3 R3 v3 => by
      obtain ⟨n, l, l', rfl, hl, hl', rfl⟩ := setOwn_some h4
      split at hl'
      · rename_i hj
        cases hl'
        obtain ⟨u, rfl⟩ := isInt v3
        obtain ⟨a, vs, ep, rfl, ha, hg, hvs⟩ := R3.ownAt (v2.mono x3) hl
        have hlen := hvs.length
        refine ki_setAt (n := ep) hg hj.1 (by first | lia | omega) (by simp; (first | lia | omega)) ?_
        have q := IsL.update (n := ep) hg (fun xs => xs.setIfInBounds j.toNat a')
        have z := R3.mut (t := s3.toks) ha (Heap.SameBut.update (f := Obj.mapSeq fun xs => xs.setIfInBounds j.toNat a') ..) (vs' := vs.set j.toNat a') (l' := l.set j.toNat v) (by
          rw [q, show vs.toArray.setIfInBounds j.toNat a' = (vs.set j.toNat a').toArray by simp]) (hvs.set (v1.mono (x2.trans x3)) _)
        exact hQ _ _ _ (x1.trans (x2.trans (x3.trans z.2))) z.1 rfl
      · cases hl') hs
theorem TS1.aug {x : Str} {px p : Pos} {op : Operator} {e : Expr} {i : Nat} {a b r : Int} (hi : c.ix.lookup x = some i) (hcap : i < c.cap) (hnf : c.env.kindOf x ≠ some .free) (hl : c.env.kindOf x = some .local)
    (hv : st.vars[i]? = some (some (.d (.int a)))) (h : TE W c k st e (.d (.int b)) st1) (hlen : i < st1.vars.length) (hop : (op = .Add ∧ r = a + b) ∨ (op = .Sub ∧ r = a - b)) :
    TS1 W c k st (.AugAssign (.Name x px) op e p) .next { st1 with vars := st1.vars.set i (some (.d (.int r))) } :=
  .mk fun ok A τ s Q E hA R0 ht hQ => wpAny_AugAssign_Name (by
    obtain ⟨loc, rv, g1, g2, g3⟩ := R0.vars i _ hv
    obtain ⟨t, rfl⟩ := isInt g3
    rcases ok.ix x i hi with ⟨hk, hl'⟩ | ⟨hk, a', b', ha, hl'⟩
    · rw [g1] at hl'
      cases hl'
      obtain ⟨m, hm, he⟩ := g2
      refine wpAny_loadName_local ok.kind hk hm he ?_
      refine h ok A τ s _ E hA R0 ht fun τ1 s1 b1 t1 x1 R1 v1 => ?_
      obtain ⟨u, rfl⟩ := isInt v1
      rcases hop with ⟨rfl, rfl⟩ | ⟨rfl, rfl⟩
      · refine wpAny_iadd_int (storeTo ok (R1.tok _) hi hlen hcap hnf VR.int fun s' R' x' => ?_)
        exact hQ _ _ _ (x1.trans x') R' rfl
      · refine PySem.P.isub_int (storeTo ok (R1.tok _) hi hlen hcap hnf VR.int fun s' R' x' => ?_)
        exact hQ _ _ _ (x1.trans x') R' rfl
    · rw [hl] at hk; rcases hk with hk | hk <;> cases hk)
theorem TS1.append {o e : Expr} {apos p1 p : Pos} {x v : V} (hb : Base o "append") (hline : (apos.endLine == p1.line) = true) (hp : Plain [e])
    (h1 : TE W c k st o x st1) (h2 : TE W c k st1 e v st2) (h3 : setOwn st2 x (fun l => if l.length < 1000 then some (l ++ [v]) else .none) = some st3) (hi : interactive c.env = false) :
    TS1 W c k st (.Expr (.Call (.Attribute o "append" apos) [e] [] p1) p) .next st3 :=
  .mk fun ok A τ s Q E hA R0 ht hQ => wpAny_Expr (wpAny_Call_method (T := "list") (hb _) (hfew hp (by simp)) hline PySem.F.plainAttrs_list PySem.F.slot_list_append PySem.F.type_list_append
    (h1 ok A τ s _ E hA R0 ht fun τ1 s1 a' t1 x1 R1 v1 => by
      obtain ⟨n, l, l', rfl, hl, hl', rfl⟩ := setOwn_some h3
      split at hl'
      · rename_i hj
        cases hl'
        obtain ⟨a, vs, ep, rfl, ha, hg⟩ := R1.refAt v1
        refine ⟨⟨_, hg, rfl⟩, fun b hb => by cases hb; exact ⟨_, hg, rfl⟩, ?_⟩
        have he : backTo p1 (starEach [e] c.env) = [(false, eval e c.env)] := by rw [hp.1]; rfl
        rw [he]
        refine PySem.P.append_list (h2 ok A τ1 s1 _ E hA R1 t1 fun τ2 s2 b' t2 x2 R2 v2 => ?_)
        obtain ⟨a2, vs, ep, e2, ha2, hg, hvs⟩ := R2.ownAt (v1.mono x2) hl
        cases e2
        have hlen := hvs.length
        refine ⟨vs.toArray, ep, by simp only [List.size_toArray]; rw [sizeLine_eq]; (first | lia | omega), hg, ?_⟩
        have q := IsL.update (n := ep) hg (fun xs => xs.push b')
        have z := R2.mut (t := s2.toks) ha2 (Heap.SameBut.update (f := Obj.mapSeq fun xs => xs.push b') ..) (vs' := vs ++ [b']) (l' := l ++ [v]) (by
          rw [q, show vs.toArray.push b' = (vs ++ [b']).toArray by simp]) (hvs.snoc v2)
        exact hQ _ _ _ (x1.trans (x2.trans z.2)) z.1 rfl
      · cases hl')) hi rfl
theorem insertIdx_cut {α : Type} : ∀ (l : List α) (i : Nat) (x : α), i ≤ l.length → l.insertIdx i x = l.take i ++ x :: l.drop i
  | l, 0, x, _ => by simp
  | [], i + 1, x, h => by simp at h
  | a :: r, i + 1, x, h => by
    rw [List.insertIdx_succ_cons, insertIdx_cut r i x (by simpa using h)]
    simp
theorem TS1.insert {o e f : Expr} {apos p1 p : Pos} {x v : V} {j : Int} (hb : Base o "insert") (hline : (apos.endLine == p1.line) = true) (hp : Plain [f, e])
    (h1 : TE W c k st o x st1) (h2 : TE W c k st1 f (.d (.int j)) st2) (h3 : TE W c k st2 e v st3)
    (h4 : setOwn st3 x (fun l => if 0 ≤ j ∧ j ≤ l.length ∧ l.length < 1000 then some (l.insertIdx j.toNat v) else .none) = some st4) (hi : interactive c.env = false) :
    TS1 W c k st (.Expr (.Call (.Attribute o "insert" apos) [f, e] [] p1) p) .next st4 :=
  .mk fun ok A τ s Q E hA R0 ht hQ => wpAny_Expr (wpAny_Call_method (T := "list") (hb _) (hfew hp (by simp)) hline PySem.F.plainAttrs_list PySem.F.slot_list_insert PySem.F.type_list_insert
    (h1 ok A τ s _ E hA R0 ht fun τ1 s1 a' t1 x1 R1 v1 => by
      obtain ⟨n, l, l', rfl, hl, hl', rfl⟩ := setOwn_some h4
      split at hl'
      · rename_i hj
        cases hl'
        obtain ⟨a, vs, ep, rfl, ha, hg⟩ := R1.refAt v1
        refine ⟨⟨_, hg, rfl⟩, fun b hb => by cases hb; exact ⟨_, hg, rfl⟩, ?_⟩
        have he : backTo p1 (starEach [f, e] c.env) = [(false, eval f c.env), (false, eval e c.env)] := by rw [hp.1, hp.2.1]; rfl
        rw [he]
        refine callWith_builtin rfl (evalArgs_plain (spliced_cons (h2 ok A τ1 s1 _ E hA R1 t1 fun τ2 s2 b' t2 x2 R2 v2 => spliced_cons (h3 ok A τ2 s2 _ E hA R2 t2 fun τ3 s3 c' t3 x3 R3 v3 => spliced_nil ?_))))
        obtain ⟨u, rfl⟩ := isInt v2
        obtain ⟨a2, vs, ep, e2, ha2, hg, hvs⟩ := R3.ownAt (v1.mono (x2.trans x3)) hl
        cases e2
        have hlen := hvs.length
        refine call_meets PySem.F.slot_list_insert ⟨_, hg, rfl⟩ PySem.F.entry_list_insert (PySem.F.args_list_insert_3 _ _ _) (PySem.AutoSeq1.list_insert_list_int_val_1 a _ ep j u c' (by simp [Builtin.List.listFitsIndex]; (first | lia | omega)) (by simp only [List.size_toArray]; rw [sizeLine_eq]; (first | lia | omega))) ⟨hg, ?_⟩
        have q := IsL.update (n := ep) hg (fun xs => have k := if j < 0 then (j + ((xs.size : Nat) : Int)).toNat else min j.toNat xs.size; (xs.extract 0 k).push c' ++ xs.extract k)
        have hins : VRs τ3 s3.heap (l.insertIdx j.toNat v) (vs.insertIdx j.toNat c') := hvs.insertIdx v3 _
        have z := R3.mut (t := s3.toks) ha2 (Heap.SameBut.update (f := Obj.mapSeq fun xs => have k := if j < 0 then (j + ((xs.size : Nat) : Int)).toNat else min j.toNat xs.size; (xs.extract 0 k).push c' ++ xs.extract k) ..) (vs' := vs.insertIdx j.toNat c') (l' := l.insertIdx j.toNat v) (by
          have e1 : ¬ j < 0 := by first | lia | omega
          have e2 : min j.toNat vs.length = j.toNat := by first | lia | omega
          have e3 : ((have k := if j < 0 then (j + ((vs.toArray.size : Nat) : Int)).toNat else min j.toNat vs.toArray.size; (vs.toArray.extract 0 k).push c' ++ vs.toArray.extract k)) = (vs.insertIdx j.toNat c').toArray := by
            simp only [e1, if_false, List.size_toArray, e2]
            rw [insertIdx_cut vs j.toNat c' (by first | lia | omega)]
            apply Array.ext'
            simp
            exact List.take_of_length_le (by simp)
          rw [q, e3]) hins
        exact hQ _ _ _ (x1.trans (x2.trans (x3.trans z.2))) z.1 rfl
      · cases hl')) hi rfl
end
end Mine.Internal
end
section
set_option genInjectivity false
open PySem PySem.W PyProof.Rows PySem.Calls
namespace Mine.Internal
section
variable {W : Wd} {c : Cx} {k : Nat} {st st1 st2 st3 st4 : PS} {τ τ' : Tau} {ls : List Loc} {s : Shared} {h h' : Heap}
theorem VR.keep (x : ∀ a o, τ a = .none → h.get? a = some o → τ' a = .none ∧ h'.get? a = some o) (y : ∀ a n, τ a = .own n → τ' a = .own n) {v : V} {r : Value} (e : VR τ h v r) : VR τ' h' v r := by
  cases v with
  | d z => exact DR.keep x e
  | ref n =>
    obtain ⟨a, e1, e2⟩ := e
    exact ⟨a, e1, y a n e2⟩
theorem VRs.keep (x : ∀ a o, τ a = .none → h.get? a = some o → τ' a = .none ∧ h'.get? a = some o) (y : ∀ a n, τ a = .own n → τ' a = .own n) {vs : List V} {rs : List Value} (e : VRs τ h vs rs) : VRs τ' h' vs rs := by
  induction e with
  | nil => exact .nil
  | cons a _ ih => exact .cons (a.keep x y) ih
theorem R.turn (r : R W τ ls st s) {a : Addr} {g : Gh} {t : Nat} (ha : (∃ o, τ a = .held o) ∨ s.heap.get? a = none) (hk : ∀ b o, b ≠ a → s.heap.get? b = some o → h'.get? b = some o)
    (hg : g = .none ∨ ∃ o, g = .held o ∧ h'.get? a = some o) : R W (upd τ a g) ls st { s with heap := h', toks := t } := by
  have ne : ∀ b, (∀ o, τ b ≠ .held o) → (∃ o, s.heap.get? b = some o) → b ≠ a := fun b h1 h2 e => by
    subst e
    rcases ha with ⟨o, ho⟩ | ho
    · exact h1 o ho
    · obtain ⟨o, h3⟩ := h2; rw [ho] at h3; cases h3
  have x : ∀ b o, τ b = .none → s.heap.get? b = some o → upd τ a g b = .none ∧ h'.get? b = some o := fun b o e q => by
    have hn := ne b (fun o => by rw [e]; exact fun z => nomatch z) ⟨o, q⟩
    exact ⟨(upd_ne hn).trans e, hk b o hn q⟩
  have oneo : ∀ b n, τ b = .own n → b ≠ a := fun b n e => ne b (fun o => by rw [e]; exact fun z => nomatch z) (r.alive b (by rw [e]; exact fun z => nomatch z))
  have y : ∀ b n, τ b = .own n → upd τ a g b = .own n := fun b n e => (upd_ne (oneo b n e)).trans e
  have back : ∀ b n, upd τ a g b = .own n → τ b = .own n := fun b n e => by
    by_cases hb : b = a
    · subst hb
      rw [upd_self] at e
      rcases hg with rfl | ⟨o, rfl, _⟩ <;> cases e
    · rw [upd_ne hb] at e; exact e
  refine ⟨r.ok, r.dr, r.os, r.gens, r.hgens, fun b o e => ?_, fun n l e => ?_, fun b d n e1 e2 => r.uniq b d n (back b n e1) (back d n e2), fun b n e => r.bound b n (back b n e), fun b o e => ?_, fun b e => ?_, fun l hl => ?_, fun i v e => ?_, fun b e => ?_⟩
  · have z := r.base b o e
    have q := x b o z.2 z.1
    exact ⟨q.2, q.1⟩
  · obtain ⟨b, vs, ep, h1, h2, h3⟩ := r.own n l e
    exact ⟨b, vs, ep, y b n h1, hk b _ (oneo b n h1) h2, h3.keep x y⟩
  · by_cases hb : b = a
    · subst hb
      rw [upd_self] at e
      rcases hg with rfl | ⟨o', rfl, ho⟩
      · cases e
      · cases e; exact ho
    · rw [upd_ne hb] at e
      exact hk b o hb (r.held b o e)
  · by_cases hb : b = a
    · subst hb
      rw [upd_self] at e
      rcases hg with rfl | ⟨o', rfl, ho⟩
      · exact absurd rfl e
      · exact ⟨o', ho⟩
    · rw [upd_ne hb] at e
      obtain ⟨o, ho⟩ := r.alive b e
      exact ⟨o, hk b o hb ho⟩
  · have z := r.locs l hl
    have hn : l.at ≠ a := ne _ (fun o => by rcases z.fix with q | q <;> rw [q] <;> exact fun w => nomatch w) z.alive
    exact z.keeps (fun _ => upd_ne hn) fun o e => hk _ o hn e
  · obtain ⟨loc, v', h1, h2, h3⟩ := r.vars i v e
    have z := r.locs loc (List.mem_of_getElem? h1)
    have hn : loc.at ≠ a := ne _ (fun o => by rcases z.fix with q | q <;> rw [q] <;> exact fun w => nomatch w) z.alive
    exact ⟨loc, v', h1, h2.keeps fun o e => hk _ o hn e, h3.keep x y⟩
  · by_cases hb : b = a
    · subst hb
      rw [upd_self] at e
      rcases hg with rfl | ⟨o', rfl, ho⟩ <;> cases e
    · rw [upd_ne hb] at e
      obtain ⟨o, h1, h2⟩ := r.fixed b e
      exact ⟨o, hk b o hb h1, h2⟩
theorem Ext.but {τ₀ τ : Tau} {h₀ h h' : Heap} {a : Addr} {g : Gh} (x : Ext τ₀ h₀ τ h) (ha : h₀.get? a = none) (ht : τ₀ a = .none) (hk : ∀ b o, b ≠ a → h.get? b = some o → h'.get? b = some o) : Ext τ₀ h₀ (upd τ a g) h' :=
  ⟨fun b e => by
    have hb : b ≠ a := fun q => by subst q; exact e ht
    exact (upd_ne hb).trans (x.claim b e), fun b o e q => by
    have hb : b ≠ a := fun z => by subst z; rw [ha] at q; cases q
    have w := x.keep b o e q
    exact ⟨(upd_ne hb).trans w.1, hk b o hb w.2⟩⟩
noncomputable abbrev rngObj (x left step : Int) : Obj := { cls := .type "range_iterator", data := .fields #[rawInt x, rawInt left, rawInt step] }
noncomputable def SrcOk (τ : Tau) (h : Heap) : Src → Value → Prop
  | .rng x step left, it => ∃ a, it = .ref a ∧ τ a = .held (rngObj x left step)
  | .lst v i, it => ∃ a o p, it = .ref a ∧ τ a = .held o ∧ o.cls = .type "list_iterator" ∧ o.data = .fields #[.ref p, .int i 0] ∧ VR τ h v (.ref p)
theorem SrcOk.mono {src : Src} {it : Value} (x : Ext τ h τ' h') (e : SrcOk τ h src it) : SrcOk τ' h' src it := by
  cases src with
  | rng y step left => obtain ⟨a, rfl, ha⟩ := e; exact ⟨a, rfl, (x.claim a (by rw [ha]; exact fun z => nomatch z)).trans ha⟩
  | lst v i => obtain ⟨a, o, p, rfl, ha, h1, h2, h3⟩ := e; exact ⟨a, o, p, rfl, (x.claim a (by rw [ha]; exact fun z => nomatch z)).trans ha, h1, h2, h3.mono x⟩
theorem next_ok {A : Around} {Q : Option Value → Shared → Prop} {E : Value → Shared → Prop} {src : Src} {a : Addr} {r : Option (V × Src)} (hA : AOk A k) (R0 : R W τ ls st s) (hs : SrcOk τ s.heap src (.ref a)) (hn : src.next st = some r)
    (h0 : r = .none → ∀ h', (∀ b o, b ≠ a → s.heap.get? b = some o → h'.get? b = some o) → R W (upd τ a .none) ls st { s with heap := h' } → Q .none { s with heap := h' })
    (h1 : ∀ v src', r = some (v, src') → ∀ o h' t v', (∀ b o, b ≠ a → s.heap.get? b = some o → h'.get? b = some o) → R W (upd τ a (.held o)) ls st { s with heap := h', toks := t } → SrcOk (upd τ a (.held o)) h' src' (.ref a) →
      VR (upd τ a (.held o)) h' v v' → Q (some v') { s with heap := h', toks := t }) :
    wpAny (model pw W.w) A (pyNext (.ref a)) Q E s := by
  cases src with
  | rng x step left =>
    obtain ⟨_, e, ha⟩ := hs
    cases e
    have ho := R0.held _ _ ha
    cases left with
    | zero =>
      cases hn
      refine wpAny_pyNext_range_end hA.handled ho (by simp) fun h' hk => ?_
      exact h0 rfl h' (fun b o hb e => hk b o hb e) (R0.turn (t := s.toks) (.inl ⟨_, ha⟩) (fun b o hb e => hk b o hb e) (.inl rfl))
    | succ n =>
      cases hn
      refine wpAny_pyNext_range_item ho (by first | lia | omega) fun h' hi hsb => ?_
      have hk : ∀ b o, b ≠ a → s.heap.get? b = some o → h'.get? b = some o := fun b o hb e => (hsb.2 b hb).trans e
      have e1 : ((n + 1 : Nat) : Int) - 1 = (n : Int) := by first | lia | omega
      rw [e1] at hi
      exact h1 _ _ rfl _ h' _ _ hk (R0.turn (.inl ⟨_, ha⟩) hk (.inr ⟨_, rfl, hi⟩)) ⟨a, rfl, upd_self ..⟩ VR.int
  | lst v i =>
    obtain ⟨_, o, p, e, ha, hc, hd, hv⟩ := hs
    cases e
    have ho := R0.held _ _ ha
    refine bd_c (x := items st v) hn fun l hl hn => ?_
    · obtain ⟨p', vs, ep, e, g1, g2⟩ := R0.items hv hl
      cases e
      have hlen := g2.length
      have hli : s.heap.IsList p vs.toArray := ⟨_, g1, rfl, ep, rfl⟩
      cases hy : l[i]? with
      | none =>
        rw [hy] at hn
        cases hn
        have hnone := hy
        have : vs[i]? = .none := by
          rw [List.getElem?_eq_none_iff] at hnone ⊢
          (first | lia | omega)
        refine wpAny_pyNext_list_end hA.handled ⟨o, ho, hc, hd⟩ hli (by simpa using this) fun h' hk => ?_
        exact h0 rfl h' (fun b o hb e => hk b o hb e) (R0.turn (t := s.toks) (.inl ⟨_, ha⟩) (fun b o hb e => hk b o hb e) (.inl rfl))
      | some y =>
        rw [hy] at hn
        cases hn
        obtain ⟨rv, k1, k2⟩ := g2.get hy
        refine wpAny_pyNext_list_item ⟨o, ho, hc, hd⟩ hli (by simpa using k1) fun h' hi hsb => ?_
        obtain ⟨o', ho', hc', hd'⟩ := hi
        have hk : ∀ b o, b ≠ a → s.heap.get? b = some o → h'.get? b = some o := fun b o hb e => (hsb.2 b hb).trans e
        have ne : ∀ b, (∀ o, τ b ≠ .held o) → b ≠ a := fun b q1 e => by subst e; exact q1 _ ha
        have kx : ∀ b o2, τ b = .none → s.heap.get? b = some o2 → upd τ a (.held o') b = .none ∧ h'.get? b = some o2 := fun b o2 e q => by
          have hb := ne b (fun o => by rw [e]; exact fun z => nomatch z)
          exact ⟨(upd_ne hb).trans e, hk b o2 hb q⟩
        have ky : ∀ b n, τ b = .own n → upd τ a (.held o') b = .own n := fun b n e => (upd_ne (ne b (fun o => by rw [e]; exact fun z => nomatch z))).trans e
        exact h1 _ _ rfl o' h' s.toks rv hk (R0.turn (.inl ⟨_, ha⟩) hk (.inr ⟨_, rfl, ho'⟩)) ⟨a, o', p, rfl, upd_self .., hc', hd', hv.keep kx ky⟩ (k2.keep kx ky)
end
end Mine.Internal
end
section
set_option genInjectivity false
open PySem PySem.W PyProof.Rows PySem.Calls
namespace Mine.Internal
section
variable (W : Wd) (c : Cx) (k : Nat)
noncomputable def TI (st : PS) (e : Expr) (src : Src) (st' : PS) : Prop :=
  c.Ok → ∀ (A : Around) (τ : Tau) (s : Shared) (Q : Value → Shared → Prop) (E E' : Value → Shared → Prop), AOk A k → R W τ c.ls st s → 0 < s.toks →
    (∀ τ' s' a, 0 < s'.toks → Ext τ s.heap τ' s'.heap → R W τ' c.ls st' s' → s.heap.get? a = none → SrcOk τ' s'.heap src (.ref a) → Q (.ref a) s') →
    wpAny (model pw W.w) A (eval e c.env) (fun x s₁ => wpAny (model pw W.w) A (pyIter x) Q E' s₁) E s
end
section
variable {W : Wd} {c : Cx} {k : Nat} {st st1 st2 st3 st4 : PS} {τ τ' : Tau} {ls : List Loc} {s : Shared} {h h' : Heap}
theorem TI.up {e : Expr} {src : Src} (h : TI W c k st e src st1) : TI W c (k + 1) st e src st1 := fun ok A τ s Q E E' hA => h ok A τ s Q E E' hA.up
theorem grown_none {τ₀ τ : Tau} {h : Heap} (R0 : R W τ₀ ls st s) (x : Ext τ₀ s.heap τ h) {a : Addr} (ha : h.get? a = none) (hal : ∀ b, τ b ≠ .none → ∃ o, h.get? b = some o) : s.heap.get? a = none := by
  cases e : s.heap.get? a with
  | none => rfl
  | some o =>
    cases q : τ₀ a with
    | none => have := (x.keep a o q e).2; rw [ha] at this; cases this
    | _ =>
      have z := x.claim a (by rw [q]; exact fun z => nomatch z)
      obtain ⟨o', ho'⟩ := hal a (by rw [z, q]; exact fun z => nomatch z)
      rw [ha] at ho'; cases ho'
theorem iter_list {A : Around} {Q : Value → Shared → Prop} {E : Value → Shared → Prop} {v : V} {l : List V} {rv : Value} (R0 : R W τ ls st s) (hv : VR τ s.heap v rv) (hl : items st v = some l)
    (hQ : ∀ τ' s', Ext τ s.heap τ' s'.heap → R W τ' ls st s' → SrcOk τ' s'.heap (.lst v 0) (.ref s.heap.objs.size) → Q (.ref s.heap.objs.size) s') : wpAny (model pw W.w) A (pyIter rv) Q E s := by
  obtain ⟨p, vs, ep, rfl, g1, g2⟩ := R0.items hv hl
  refine wpAny_pyIter_list (items := vs.toArray) ⟨_, g1, rfl, ep, rfl⟩ ?_
  have hk : ∀ b o, s.heap.get? b = some o → (s.heap.push { cls := .type "list_iterator", data := .fields #[.ref p, .int 0 0] }).get? b = some o := fun b o e => Heap.get?_push_of_some _ e
  have hno := get_size s.heap
  have z := R0.turn (a := s.heap.objs.size) (g := .held { cls := .type "list_iterator", data := .fields #[.ref p, .int 0 0] }) (t := s.toks) (.inr hno) (fun b o _ e => hk b o e) (.inr ⟨_, rfl, Heap.get?_push_size _ rfl⟩)
  have x : Ext τ s.heap (upd τ s.heap.objs.size (.held { cls := .type "list_iterator", data := .fields #[.ref p, .int 0 0] })) (s.heap.push { cls := .type "list_iterator", data := .fields #[.ref p, .int 0 0] }) :=
    (Ext.refl τ s.heap).but hno R0.freshSize (fun b o _ e => hk b o e)
  exact hQ _ _ x z ⟨_, _, p, rfl, upd_self .., rfl, rfl, hv.mono x⟩
theorem iter_range {A : Around} {Q : Value → Shared → Prop} {E : Value → Shared → Prop} {a b d : Int} {t u v : Tok} {r : Addr} {n : Nat} (R0 : R W τ ls st s) (hr : IsRange s.heap r a b d t u v)
    (hs : Builtin.Range.small a b d = true) (hn : Builtin.Range.rangeSize a b d = (n : Int))
    (hQ : ∀ τ' s', Ext τ s.heap τ' s'.heap → R W τ' ls st s' → SrcOk τ' s'.heap (.rng a d n) (.ref s.heap.objs.size) → Q (.ref s.heap.objs.size) s') : wpAny (model pw W.w) A (pyIter (.ref r)) Q E s := by
  refine wpAny_pyIter_range hr hs ?_
  rw [hn]
  have hk : ∀ b o, s.heap.get? b = some o → (s.heap.push (rngObj a n d)).get? b = some o := fun b o e => Heap.get?_push_of_some _ e
  have hno := get_size s.heap
  have z := R0.turn (a := s.heap.objs.size) (g := .held (rngObj a n d)) (t := s.toks) (.inr hno) (fun b o _ e => hk b o e) (.inr ⟨_, rfl, Heap.get?_push_size _ rfl⟩)
  have x : Ext τ s.heap (upd τ s.heap.objs.size (.held (rngObj a n d))) (s.heap.push (rngObj a n d)) :=
    (Ext.refl τ s.heap).but hno R0.freshSize (fun b o _ e => hk b o e)
  exact hQ _ _ x z ⟨_, rfl, upd_self ..⟩
theorem TI.list {e : Expr} {v : V} {l : List V} (h : TE W c k st e v st1) (hl : items st1 v = some l) : TI W c k st e (.lst v 0) st1 :=
  fun ok A τ s Q E E' hA R0 ht hQ => h ok A τ s _ E hA R0 ht fun τ1 s1 rv t1 x1 R1 v1 =>
    wpAny_with_toks (n := 1) t1 (iter_list R1 v1 hl fun τ2 s2 x2 R2 so t2 => hQ τ2 s2 _ t2 (x1.trans x2) R2 (grown_none R0 x1 (get_size _) R1.alive) so)
theorem type_raw {n : Str} {T : String} {px p : Pos} {e : Expr} {es : List Expr} {vs : List V} (b : Blt c n (.type T)) (hp : Plain (e :: es)) (h : TEs W c k st (e :: es) vs st1)
    (ok : c.Ok) {A : Around} {Q : Value → Shared → Prop} {E : Value → Shared → Prop} (hA : AOk A k) (R0 : R W τ c.ls st s) (ht : 0 < s.toks)
    (hc : ∀ τ1 s1 us, 0 < s1.toks → Ext τ s.heap τ1 s1.heap → R W τ1 c.ls st1 s1 → VRs τ1 s1.heap vs us → wpAny (model pw W.w) A (call (.type T) us) Q E s1) :
    wpAny (model pw W.w) A (eval (.Call (.Name n px) (e :: es) [] p) c.env) Q E s :=
  wpAny_Call_Name_kw (wpAny_bltName ok R0 (b.ns _) b.val b.name b.kind (PySem.callWith_type (any_false hp) (by
    have h0 := h ok A τ s (fun vs s' => wpAny (model pw W.w) A (call (.type T) vs) Q E s') E p hA R0 ht fun τ1 s1 us t1 x1 R1 v1 => hc τ1 s1 us t1 x1 R1 v1
    rw [hp.1] at h0 ⊢
    exact evalArgs_plain h0)) b.dbg)
theorem TI.range1 {n : Str} {px p : Pos} {e : Expr} {x : Int} (b : Blt c n (.type "range")) (hp : Plain [e]) (h : TEs W c k st [e] [.d (.int x)] st1) (hx : x < 1000 ∧ -1000 < x) :
    TI W c k st (.Call (.Name n px) [e] [] p) (.rng 0 1 x.toNat) st1 :=
  fun ok A τ s Q E E' hA R0 ht hQ => type_raw b hp h ok hA R0 ht fun τ1 s1 us t1 x1 R1 v1 => by
    obtain ⟨u, rfl, hu⟩ := v1.one
    obtain ⟨t, rfl⟩ := isInt hu
    refine call_range_1 ?_
    have z := R1.push (t := s1.toks + 1 + 1) { cls := .type "range", data := .fields #[.int 0 s1.toks, .int x t, .int 1 (s1.toks + 1)] }
    have hno := grown_none R0 (x1.trans z.2) (get_size _) z.1.alive
    refine wpAny_with_toks (n := 1) (by show 1 ≤ s1.toks + 1 + 1; (first | lia | omega)) (iter_range z.1 (IsRange.new ..) (small_one (by first | lia | omega) (by first | lia | omega) (by first | lia | omega) (by first | lia | omega)) (n := x.toNat) (by rw [rangeSize_nat]; simp) fun τ2 s2 x2 R2 so t2 => ?_)
    exact hQ τ2 s2 _ t2 (x1.trans (z.2.trans x2)) R2 hno so
theorem TI.range2 {n : Str} {px p : Pos} {e f : Expr} {x y : Int} (b : Blt c n (.type "range")) (hp : Plain [e, f]) (h : TEs W c k st [e, f] [.d (.int x), .d (.int y)] st1) (hx : x.natAbs < 1000 ∧ y.natAbs < 1000) :
    TI W c k st (.Call (.Name n px) [e, f] [] p) (.rng x 1 (y - x).toNat) st1 :=
  fun ok A τ s Q E E' hA R0 ht hQ => type_raw b hp h ok hA R0 ht fun τ1 s1 us t1 x1 R1 v1 => by
    obtain ⟨u, w, rfl, hu, hw⟩ := v1.two
    obtain ⟨t, rfl⟩ := isInt hu
    obtain ⟨t', rfl⟩ := isInt hw
    refine call_range_2 ?_
    have z := R1.push (t := s1.toks + 1) { cls := .type "range", data := .fields #[.int x t, .int y t', .int 1 s1.toks] }
    have hno := grown_none R0 (x1.trans z.2) (get_size _) z.1.alive
    refine wpAny_with_toks (n := 1) (by show 1 ≤ s1.toks + 1; (first | lia | omega)) (iter_range z.1 (IsRange.new ..) (small_one (by first | lia | omega) (by first | lia | omega) (by first | lia | omega) (by first | lia | omega)) (n := (y - x).toNat) (by rw [rangeSize_nat]) fun τ2 s2 x2 R2 so t2 => ?_)
    exact hQ τ2 s2 _ t2 (x1.trans (z.2.trans x2)) R2 hno so
theorem rangeSize_down (a b : Int) : Builtin.Range.rangeSize a b (-1) = ((a - b).toNat : Int) := by
  unfold Builtin.Range.rangeSize
  simp only [show ¬ ((-1 : Int) > 0) by decide, if_false, show -(-1 : Int) = 1 by rfl, Int.ediv_one]
  split <;> (first | lia | omega)
theorem TI.range3 {n : Str} {px p : Pos} {e f g : Expr} {x y : Int} (b : Blt c n (.type "range")) (hp : Plain [e, f, g]) (h : TEs W c k st [e, f, g] [.d (.int x), .d (.int y), .d (.int (-1))] st1) (hx : x.natAbs < 1000 ∧ y.natAbs < 1000) :
    TI W c k st (.Call (.Name n px) [e, f, g] [] p) (.rng x (-1) (x - y).toNat) st1 :=
  fun ok A τ s Q E E' hA R0 ht hQ => type_raw b hp h ok hA R0 ht fun τ1 s1 us t1 x1 R1 v1 => by
    obtain ⟨u, w, w', rfl, hu, hw, hw'⟩ := v1.three
    obtain ⟨t, rfl⟩ := isInt hu
    obtain ⟨t', rfl⟩ := isInt hw
    obtain ⟨t'', rfl⟩ := isInt hw'
    refine call_range_3 (by first | lia | omega) ?_ (Or.inl (PyProof.noPylong_small (by first | lia | omega)))
    have z := R1.push (t := s1.toks) { cls := .type "range", data := .fields #[.int x t, .int y t', .int (-1) t''] }
    have hno := grown_none R0 (x1.trans z.2) (get_size _) z.1.alive
    refine wpAny_with_toks (n := 1) t1 (iter_range z.1 (IsRange.new ..) ?_ (n := (x - y).toNat) (rangeSize_down _ _) fun τ2 s2 x2 R2 so t2 => ?_)
    · unfold Builtin.Range.small
      rw [rangeSize_down]
      simp only [Builtin.Range.rangeFitsLong, Bool.and_eq_true, Bool.or_eq_true, decide_eq_true_eq, beq_iff_eq, show ¬ ((-1 : Int) > 0) by decide, if_false]
      have lo : ∀ {z : Int}, -2000 ≤ z → -2 ^ 63 ≤ z := fun h => Int.le_trans (by decide) h
      have hi : ∀ {z : Int}, z ≤ 2000 → z < 2 ^ 63 := fun h => Int.lt_of_le_of_lt h (by decide)
      have bd : ∀ {z : Int}, z.natAbs < 1000 → -1000 ≤ z ∧ z ≤ 1000 := fun h => by omega
      obtain ⟨x1, x2⟩ := bd hx.1
      obtain ⟨y1, y2⟩ := bd hx.2
      have hn : ((x - y).toNat : Int) ≤ 2000 := by omega
      have up : ∀ {z : Int}, -1000 ≤ z → -2 ^ 63 ≤ z := fun h => lo (Int.le_trans (by decide) h)
      have dn : ∀ {z : Int}, z ≤ 1000 → z < 2 ^ 63 := fun h => hi (Int.le_trans h (by decide))
      rw [show y + (-1 + 1) = y from Int.add_zero y]
      exact ⟨⟨⟨⟨⟨up x1, dn x2⟩, up y1, dn y2⟩, by decide, by decide⟩, lo (Int.le_trans (by decide) (Int.natCast_nonneg _)), hi hn⟩, .inr ⟨up y1, dn y2⟩⟩
    · exact hQ τ2 s2 _ t2 (x1.trans (z.2.trans x2)) R2 hno so
end
end Mine.Internal
end
section
set_option genInjectivity false
open PySem PySem.W PyProof.Rows PySem.Calls
namespace Mine.Internal
section
variable {W : Wd} {c : Cx} {N : Nat} {st st1 st2 st3 st4 : PS} {τ τ' : Tau} {ls : List Loc} {s : Shared} {h h' : Heap} {F : Addr → Option Fn}
theorem AOk.le {A : Around} {m n : Nat} (h : AOk A n) (hm : m ≤ n) : AOk A m := ⟨h.handled, by have := h.depth; (first | lia | omega), by have := h.units; (first | lia | omega)⟩
theorem setVar_some {i : Nat} {v : V} (h : setVar st i v = some st1) : i < st.vars.length ∧ st1 = { st with vars := st.vars.set i (some v) } := by
  unfold setVar at h
  split at h
  · rename_i hi; cases h; exact ⟨hi, rfl⟩
  · cases h
theorem R.loose {a : Addr} {o : Obj} (r : R W τ ls st s) (ha : τ a = .held o) : R W (upd τ a .none) ls st s :=
  r.turn (a := a) (g := .none) (t := s.toks) (h' := s.heap) (.inl ⟨o, ha⟩) (fun b o _ e => e) (.inl rfl)
theorem held_on {a : Addr} {o : Obj} {τ' : Tau} (y : Ext (upd τ a (.held o)) h τ' h') : τ' a = .held o := (y.claim a (by rw [upd_self]; exact fun z => nomatch z)).trans (upd_self ..)
theorem VR.loose {a : Addr} {o : Obj} {τ : Tau} {h : Heap} {v : V} {r : Value} (hr : VR τ h v r) (ha : τ a = .held o) : VR (upd τ a .none) h v r := by
  have ne : ∀ b, (∀ o, τ b ≠ .held o) → b ≠ a := fun b q1 e => by subst e; exact q1 _ ha
  exact hr.keep (fun b o e q => ⟨(upd_ne (ne b (fun o => by rw [e]; exact fun z => nomatch z))).trans e, q⟩) (fun b n e => (upd_ne (ne b (fun o => by rw [e]; exact fun z => nomatch z))).trans e)
theorem TS1.for_ {x : Str} {px pos : Pos} {iter : Expr} {body : List Stmt} {B : Ss} {i m0 : Nat} {src : Src} {f : Fl} (hi : c.ix.lookup x = some i) (hcap : i < c.cap) (hnf : c.env.kindOf x ≠ some .free)
    (hI : TI W c N st iter src st1) (hbody : ∀ m, m < m0 → ∀ sa f sb, evSs F m B sa = some (f, sb) → TS W c m sa body f sb) (hm : m0 ≤ N) (he : evF F m0 i src B st1 = some (f, st2))
    (hs : ∀ x, foldedSetIterable iter c.env x = pure x) : TS1 W c N st (.For (.Name x px) iter body [] pos) f st2 :=
  .mk fun ok A τ s Q E hA R0 ht hQ => wpAny_For (hI ok A τ s _ E _ hA R0 ht fun τ1 s1 a t1 x1 R1 hno so => by
    refine codeAny_forLoop (fun n s' => n ≤ m0 ∧ ∃ τm stm srcm, evF F n i srcm B stm = some (f, st2) ∧ Ext τ s.heap τm s'.heap ∧ R W τm c.ls stm s' ∧ SrcOk τm s'.heap srcm (.ref a) ∧ 0 < s'.toks) ?_ m0
      ⟨Nat.le_refl _, τ1, st1, src, he, x1, R1, so, t1⟩
    rintro n s' ⟨hn, τm, stm, srcm, hev, xm, Rm, som, tm⟩
    cases n with
    | zero => exact nomatch (show (Option.none : Option (Fl × PS)) = some _ from hev)
    | succ m =>
      refine bd_c (x := srcm.next stm) hev fun nx hnx hev => ?_
      rcases nx with _ | ⟨v, src'⟩
      · cases hev
        refine wpAny_with_toks (n := 1) tm (next_ok hA Rm som hnx (fun _ h' hk R' tk => ?_) (fun v src' e => nomatch e))
        exact wpAny_execs_nil (hQ _ _ _ (xm.but hno (R0.fresh hno) hk) R' rfl)
      · refine bd_c (x := setVar stm i v) hev fun sta hsv hev => bd2_c (x := evSs F m B sta) hev fun fl stb hsb hev => ?_
        obtain ⟨hlen, rfl⟩ := setVar_some hsv
        refine wpAny_with_toks (n := 1) tm (next_ok hA Rm som hnx (fun e => nomatch e) (fun v0 src0 e o h' t v' hk R' so' hv tk => ?_))
        cases e
        have x' : Ext τ s.heap (upd τm a (.held o)) h' := xm.but hno (R0.fresh hno) hk
        have hno' := R0.fresh hno
        clear hk xm Rm som R0 hI
        refine wpAny_assign_Name (wpAny_with_toks (n := 1) tk (storeTo ok R' hi hlen hcap hnf hv fun s2 R2 x2 tk2 => ?_))
        refine hbody m hn _ _ _ hsb ok A _ _ _ _ (hA.le (Nat.le_trans (Nat.le_of_succ_le hn) hm)) R2 tk2 fun τ3 s3 f' t3 x3 R3 hf => ?_
        have y := x2.trans x3
        cases fl with
        | next => cases hf; exact ⟨m, Nat.lt_succ_self _, Nat.le_of_succ_le hn, τ3, stb, src', hev, x'.trans y, R3, so'.mono y, t3⟩
        | cont => cases hf; exact ⟨m, Nat.lt_succ_self _, Nat.le_of_succ_le hn, τ3, stb, src', hev, x'.trans y, R3, so'.mono y, t3⟩
        | brk =>
          cases hf; cases hev
          exact hQ _ _ _ ((x'.trans y).but hno hno' fun b o _ e => e) (R3.loose (held_on y)) rfl
        | ret v2 =>
          cases hev
          obtain ⟨rr, rfl, hr⟩ := hf
          exact hQ _ _ _ ((x'.trans y).but hno hno' fun b o _ e => e) (R3.loose (held_on y)) ⟨rr, rfl, hr.loose (held_on y)⟩) hs
end
end Mine.Internal
end
section
set_option genInjectivity false
open PySem PySem.W PyProof.Rows PySem.Calls
namespace Mine.Internal
section
variable {W : Wd} {c : Cx} {N : Nat} {st st1 st2 st3 st4 : PS} {τ τ' : Tau} {ls ls' : List Loc} {s : Shared} {h h' : Heap} {F : Addr → Option Fn}
theorem TS1.while_ {test : Expr} {pos : Pos} {body : List Stmt} {T : E} {B : Ss} {m0 : Nat} {f : Fl} (htest : ∀ m, m < m0 → ∀ sa b sb, evB F m T sa = some (b, sb) → TB W c m sa test b sb)
    (hbody : ∀ m, m < m0 → ∀ sa f sb, evSs F m B sa = some (f, sb) → TS W c m sa body f sb) (hm : m0 ≤ N) (he : evW F m0 T B st = some (f, st2)) : TS1 W c N st (.While test body [] pos) f st2 :=
  .mk fun ok A τ s Q E hA R0 ht hQ => wpAny_While (by
    refine codeAny_whileLoop (fun n s' => n ≤ m0 ∧ ∃ τm stm, evW F n T B stm = some (f, st2) ∧ Ext τ s.heap τm s'.heap ∧ R W τm c.ls stm s' ∧ 0 < s'.toks) ?_ m0
      ⟨Nat.le_refl _, τ, st, he, Ext.refl .., R0, ht⟩
    rintro n s' ⟨hn, τm, stm, hev, xm, Rm, tm⟩
    cases n with
    | zero => exact nomatch (show (Option.none : Option (Fl × PS)) = some _ from hev)
    | succ m =>
      refine bd2_c (x := evB F m T stm) hev fun p sta hb hev => ?_
      refine htest m hn _ _ _ hb ok A _ _ _ _ (hA.le (Nat.le_trans (Nat.le_of_succ_le hn) hm)) Rm tm fun τ2 s2 t2 x2 R2 => ?_
      have y2 := xm.trans x2
      clear R0 Rm xm x2
      cases p with
      | false =>
        cases hev
        rw [if_neg Bool.false_ne_true]
        exact wpAny_execs_nil (hQ _ _ _ y2 R2 rfl)
      | true =>
        rw [if_pos rfl]
        refine bd2_c (x := evSs F m B sta) hev fun fl stb hsb hev => ?_
        refine hbody m hn _ _ _ hsb ok A _ _ _ _ (hA.le (Nat.le_trans (Nat.le_of_succ_le hn) hm)) R2 t2 fun τ3 s3 f' t3 x3 R3 hf => ?_
        have y3 := y2.trans x3
        cases fl with
        | next => cases hf; exact ⟨m, Nat.lt_succ_self _, Nat.le_of_succ_le hn, τ3, stb, hev, y3, R3, t3⟩
        | cont => cases hf; exact ⟨m, Nat.lt_succ_self _, Nat.le_of_succ_le hn, τ3, stb, hev, y3, R3, t3⟩
        | brk => cases hf; cases hev; exact hQ _ _ _ y3 R3 rfl
        | ret v2 => cases hev; obtain ⟨rr, rfl, hr⟩ := hf; exact hQ _ _ _ y3 R3 ⟨rr, rfl, hr⟩)
noncomputable def cut (τ : Tau) (m : Nat) : Tau := fun a => match τ a with
  | .own n => if n < m then .own n else .none
  | g => g
theorem cut_none {m : Nat} {a : Addr} (e : τ a = .none) : cut τ m a = .none := by simp only [cut, e]
theorem cut_own {m n : Nat} {a : Addr} (e : τ a = .own n) (hn : n < m) : cut τ m a = .own n := by simp only [cut, e, if_pos hn]
theorem cut_gone {m n : Nat} {a : Addr} (e : τ a = .own n) (hn : m ≤ n) : cut τ m a = .none := by simp only [cut, e, if_neg (Nat.not_lt.mpr hn)]
theorem cut_back {m n : Nat} {a : Addr} (e : cut τ m a = .own n) : τ a = .own n ∧ n < m := by
  cases q : τ a with
  | own k =>
    simp only [cut, q] at e
    split at e
    · cases e; exact ⟨rfl, by assumption⟩
    · cases e
  | _ => simp only [cut, q] at e; cases e
theorem cut_fix {m : Nat} {a : Addr} : τ a = .fix ↔ cut τ m a = .fix := by
  cases q : τ a with
  | own k => simp only [cut, q]; split <;> simp
  | _ => simp only [cut, q]
theorem cut_held {m : Nat} {a : Addr} {o : Obj} : τ a = .held o ↔ cut τ m a = .held o := by
  cases q : τ a with
  | own k => simp only [cut, q]; split <;> simp
  | _ => simp only [cut, q]
theorem cut_alive {m : Nat} {a : Addr} (e : cut τ m a ≠ .none) : τ a ≠ .none := fun q => e (cut_none q)
theorem VR.cut {m : Nat} {v : V} {r : Value} (e : VR τ h v r) (hs : small m v = true) : VR (cut τ m) h v r := by
  cases v with
  | d x => exact DR.keep (fun a o q g => ⟨cut_none q, g⟩) e
  | ref n =>
    obtain ⟨a, e1, e2⟩ := e
    exact ⟨a, e1, cut_own e2 (of_decide_eq_true hs)⟩
theorem VRs.cut {m : Nat} {vs : List V} {rs : List Value} (e : VRs τ h vs rs) (hs : vs.all (small m) = true) : VRs (cut τ m) h vs rs := by
  induction e with
  | nil => exact .nil
  | cons a _ ih =>
    simp only [List.all_cons, Bool.and_eq_true] at hs
    exact .cons (a.cut hs.1) (ih hs.2)
theorem VRs.small (r : R W τ ls st s) {vs : List V} {rs : List Value} (e : VRs τ s.heap vs rs) : vs.all (small st.own.length) = true := by
  induction e with
  | nil => rfl
  | @cons v rv _ _ a _ ih =>
    simp only [List.all_cons, Bool.and_eq_true]
    refine ⟨?_, ih⟩
    cases v with
    | d x => rfl
    | ref n => obtain ⟨b, _, e2⟩ := a; exact decide_eq_true (r.bound b n e2)
theorem R.freeze (r : R W τ ls st s) {m : Nat} (hm : m ≤ st.own.length) (hv : okVars m st.vars = true) (ho : st.own.length = m ∨ okOwn m (st.own.take m) = true) : R W (cut τ m) ls ⟨st.vars, st.own.take m⟩ s := by
  refine ⟨r.ok, r.dr, r.os, r.gens, r.hgens, fun b o e => ?_, fun n l e => ?_, fun b d n e1 e2 => r.uniq b d n (cut_back e1).1 (cut_back e2).1, fun b n e => ?_, fun b o e => r.held b o (cut_held.mpr e), fun b e => r.alive b (cut_alive e), fun l hl => ?_, fun i v e => ?_,
    fun b e => r.fixed b (cut_fix.mpr e)⟩
  · have z := r.base b o e
    exact ⟨z.1, cut_none z.2⟩
  · have hn : n < m := by
      have := (List.getElem?_eq_some_iff.mp e).1
      simp at this; (first | lia | omega)
    have e' : st.own[n]? = some l := by
      rw [List.getElem?_take] at e
      simpa [hn] using e
    obtain ⟨b, vs, ep, h1, h2, h3⟩ := r.own n l e'
    refine ⟨b, vs, ep, cut_own h1 hn, h2, h3.cut ?_⟩
    rcases ho with ho | ho
    · rw [← ho]; exact h3.small r
    · exact List.all_eq_true.mp ho l (List.mem_of_getElem? e)
  · have := cut_back e
    simp only [List.length_take]
    (first | lia | omega)
  · have z := r.locs l hl
    refine z.keeps (fun q => ?_) fun o e => e
    rcases q with q | q
    · rw [q]; exact cut_fix.mp q
    · rw [q]; exact cut_none q
  · obtain ⟨loc, v', h1, h2, h3⟩ := r.vars i v e
    refine ⟨loc, v', h1, h2, h3.cut ?_⟩
    exact List.all_eq_true.mp hv _ (List.mem_of_getElem? e)
theorem Ext.cut {τ₀ τ : Tau} {h₀ h : Heap} {m : Nat} (x : Ext τ₀ h₀ τ h) (hb : ∀ a n, τ₀ a = .own n → n < m) : Ext τ₀ h₀ (cut τ m) h :=
  ⟨fun a e => by
    have z := x.claim a e
    cases q : τ₀ a with
    | none => exact absurd q e
    | own n => rw [q] at z; rw [cut_own z (hb a n q)]
    | fix => rw [q] at z; exact cut_fix.mp z
    | held o => rw [q] at z; exact cut_held.mp z, fun a o e g => by
    have z := x.keep a o e g
    exact ⟨cut_none z.1, z.2⟩⟩
theorem frz_some {m : Nat} {v w : V} (hf : frz m v st = some (w, st1)) : ∃ d, w = .d d ∧ st1 = ⟨st.vars, st.own.take m⟩ ∧ m ≤ st.own.length ∧ okVars m st.vars = true ∧ (st.own.length = m ∨ okOwn m (st.own.take m) = true) ∧ deepV 5 st.own m v = some d := by
  refine gd_c hf fun hc hf => bd_c hf fun d hd hf => ?_
  cases hf
  exact ⟨d, rfl, rfl, hc.1, hc.2.1, hc.2.2, hd⟩
theorem frz_ok (r : R W τ ls st s) {m : Nat} {v w : V} {rv : Value} (hv : VR τ s.heap v rv) (hf : frz m v st = some (w, st1)) : R W (cut τ m) ls st1 s ∧ VR (cut τ m) s.heap w rv := by
  obtain ⟨d, rfl, rfl, h1, h2, h3, h4⟩ := frz_some hf
  exact ⟨r.freeze h1 h2 h3, deep r (fun a => cut_none) (fun a n => cut_gone) 5 hv h4⟩
theorem TE.frz {e : Expr} {v w : V} (h : TE W c N st e v st1) (hf : frz st.own.length v st1 = some (w, st2)) : TE W c N st e w st2 :=
  .mk fun ok A τ s Q E hA R0 ht hQ => h ok A τ s _ E hA R0 ht fun τ1 s1 rv t1 x1 R1 v1 => by
    have z := frz_ok R1 v1 hf
    exact hQ _ _ _ (x1.cut R0.bound) z.1 z.2
noncomputable def inG : Gh → Gh
  | .fix => .none
  | .none => .none
  | .own n => .own n
  | .held o => .held o
theorem inG_own {g : Gh} {n : Nat} (h : inG g = .own n) : g = .own n := by
  cases g with
  | own m => exact h
  | _ => cases h
theorem inG_held {g : Gh} {o : Obj} (h : inG g = .held o) : g = .held o := by
  cases g with
  | held m => exact h
  | _ => cases h
theorem inG_fix {g : Gh} (h : inG g = .fix) : False := by cases g <;> cases h
noncomputable def into (τ : Tau) (fx : Addr → Bool) : Tau := fun b => ifB (fx b) .fix (inG (τ b))
theorem into_t {τ : Tau} {fx : Addr → Bool} {b : Addr} (h : fx b = true) : into τ fx b = .fix := by
  delta into
  rw [h]; rfl
theorem into_f {τ : Tau} {fx : Addr → Bool} {b : Addr} {g : Gh} (h : fx b = false) (e : τ b = g) : into τ fx b = inG g := by
  delta into
  rw [h, e]; rfl
theorem into_c {P : Prop} {τ : Tau} {fx : Addr → Bool} {b : Addr} {g : Gh} (h : into τ fx b = g) (k1 : fx b = true → g = .fix → P) (k2 : fx b = false → inG (τ b) = g → P) : P := by
  cases q : fx b with
  | true => exact k1 q (h.symm.trans (into_t q))
  | false => exact k2 q ((into_f q rfl).symm.trans h)
theorem into_nh {τ : Tau} {h : Heap} {L b : Addr} {o : Obj} (hL : h.get? L = none) (no : ∀ m, τ b ≠ .own m) (e : h.get? b = some o) : into τ (fun b => decide (b = L)) b = .none ∨ ∃ w, into τ (fun b => decide (b = L)) b = .held w := by
  have : (fun b => decide (b = L)) b = false := decide_eq_false fun q => by rw [q, hL] at e; cases e
  cases w : τ b with
  | own m => exact absurd w (no m)
  | held u => exact .inr ⟨u, into_f this w⟩
  | none => exact .inl (into_f this w)
  | fix => exact .inl (into_f this w)
noncomputable def outG (g g1 : Gh) : Gh := match g with
  | .fix => .fix
  | .none => inG g1
  | .own _ => inG g1
  | .held _ => inG g1
theorem outG_own {g g1 : Gh} {n : Nat} (h : outG g g1 = .own n) : g1 = .own n := by
  cases g with
  | fix => cases h
  | _ => exact inG_own h
theorem outG_held {g g1 : Gh} {o : Obj} (h : outG g g1 = .held o) : g1 = .held o := by
  cases g with
  | fix => cases h
  | _ => exact inG_held h
theorem outG_fix {g g1 : Gh} (h : outG g g1 = .fix) : g = .fix := by
  cases g with
  | fix => rfl
  | _ => exact (inG_fix h).elim
noncomputable def outof (τ τ1 : Tau) : Tau := fun b => outG (τ b) (τ1 b)
theorem outof_f {τ τ1 : Tau} {b : Addr} (q : τ b = .fix) : outof τ τ1 b = .fix := by
  delta outof
  rw [q]; rfl
theorem outof_n {τ τ1 : Tau} {b : Addr} {g : Gh} (h : τ b ≠ .fix) (e : τ1 b = g) : outof τ τ1 b = inG g := by
  delta outof
  rw [e]
  cases q : τ b with
  | fix => exact absurd q h
  | _ => rfl
theorem gh_ne {g g1 : Gh} (e : g = g1) (h : g1 ≠ .fix) : g ≠ .fix := fun q => h (e.symm.trans q)
theorem R.enter (r : R W τ ls st s) {fx : Addr → Bool} {vars' : List (Option V)} {t : Nat} (hk : ∀ b o, s.heap.get? b = some o → h'.get? b = some o)
    (hfx : ∀ b, fx b = true → s.heap.get? b = none ∧ ∃ o, h'.get? b = some o ∧ ∀ xs n, o.data ≠ .seq xs n) (hl : ∀ l ∈ ls', LocOk (into τ fx) h' l)
    (hv : ∀ (i : Nat) v, vars'[i]? = some (some v) → ∃ loc rv, ls'[i]? = some loc ∧ LocHas h' loc rv ∧ VR τ s.heap v rv) : R W (into τ fx) ls' ⟨vars', st.own⟩ { s with heap := h', toks := t } := by
  have nf : ∀ b o, s.heap.get? b = some o → fx b = false := fun b o e => by
    cases q : fx b with
    | false => rfl
    | true => rw [(hfx b q).1] at e; cases e
  have i0 : ∀ b o, τ b = .none → s.heap.get? b = some o → into τ fx b = .none ∧ h'.get? b = some o := fun b o e q => ⟨into_f (nf b o q) e, hk b o q⟩
  have i1 : ∀ b n, τ b = .own n → into τ fx b = .own n := fun b n e => by
    obtain ⟨o, ho⟩ := r.alive b (by rw [e]; exact fun z => nomatch z)
    exact into_f (nf b o ho) e
  have b1 : ∀ b n, into τ fx b = .own n → τ b = .own n := fun b n e => into_c e (fun _ q => nomatch q) fun _ q => inG_own q
  refine ⟨r.ok, r.dr, r.os, r.gens, r.hgens, fun b o e => ?_, fun n l e => ?_, fun b d n e1 e2 => r.uniq b d n (b1 b n e1) (b1 d n e2), fun b n e => r.bound b n (b1 b n e), fun b o e => ?_, fun b e => ?_, hl, fun i v e => ?_, fun b e => ?_⟩
  · have z := r.base b o e
    have q := i0 b o z.2 z.1
    exact ⟨q.2, q.1⟩
  · obtain ⟨b, vs, ep, h1, h2, h3⟩ := r.own n l e
    exact ⟨b, vs, ep, i1 b n h1, hk b _ h2, h3.keep i0 i1⟩
  · exact into_c e (fun _ q => nomatch q) fun _ q => hk b o (r.held b o (inG_held q))
  · cases hb : fx b with
    | true =>
      obtain ⟨_, o, ho, _⟩ := hfx b hb
      exact ⟨o, ho⟩
    | false =>
      obtain ⟨o, ho⟩ := r.alive b fun q => e (into_f hb q)
      exact ⟨o, hk b o ho⟩
  · obtain ⟨loc, rv, h1, h2, h3⟩ := hv i v e
    exact ⟨loc, rv, h1, h2, h3.keep i0 i1⟩
  · refine into_c e (fun hb _ => ?_) fun _ q => (inG_fix q).elim
    obtain ⟨_, o, ho, hs⟩ := hfx b hb
    exact ⟨o, ho, hs⟩
theorem R.leaveBut {s1 : Shared} {τ1 : Tau} {fx : Addr → Bool} (r : R W τ ls st s) (r1 : R W τ1 ls' st1 s1) (hk : ∀ b o, s.heap.get? b = some o → h'.get? b = some o)
    (hfx : ∀ b, fx b = true → s.heap.get? b = none) (ex : Addr → Prop) (hex : ∀ b, ex b → ∃ o, τ b = .held o)
    (xc : ∀ b, ¬ ex b → into τ fx b ≠ .none → τ1 b = into τ fx b) (xk : ∀ b o, ¬ ex b → into τ fx b = .none → h'.get? b = some o → τ1 b = .none ∧ s1.heap.get? b = some o) :
    R W (outof τ τ1) ls ⟨st.vars, st1.own⟩ s1 ∧ ((∀ b, ¬ ex b → τ b ≠ .none → outof τ τ1 b = τ b) ∧ ∀ b o, ¬ ex b → τ b = .none → s.heap.get? b = some o → outof τ τ1 b = .none ∧ s1.heap.get? b = some o) ∧ ∀ v rv, VR τ1 s1.heap v rv → VR (outof τ τ1) s1.heap v rv := by
  have nf : ∀ b o, s.heap.get? b = some o → fx b = false := fun b o e => by
    cases q : fx b with
    | false => rfl
    | true => rw [hfx b q] at e; cases e
  have fixd : ∀ b, τ b = .fix → τ1 b = .none ∧ ∃ o, s.heap.get? b = some o ∧ s1.heap.get? b = some o ∧ ∀ xs n, o.data ≠ .seq xs n := fun b e => by
    obtain ⟨o, ho, hs⟩ := r.fixed b e
    have : into τ fx b = .none := into_f (nf b o ho) e
    have z := xk b o (fun w => by obtain ⟨o', q⟩ := hex b w; rw [e] at q; cases q) this (hk b o ho)
    exact ⟨z.1, o, ho, z.2, hs⟩
  have y : (∀ b, ¬ ex b → τ b ≠ .none → outof τ τ1 b = τ b) ∧ ∀ b o, ¬ ex b → τ b = .none → s.heap.get? b = some o → outof τ τ1 b = .none ∧ s1.heap.get? b = some o := ⟨fun b hb e => by
      cases q : τ b with
      | none => exact absurd q e
      | fix => exact outof_f q
      | own n =>
        obtain ⟨o, ho⟩ := r.alive b e
        have : into τ fx b = .own n := into_f (nf b o ho) q
        have z := xc b hb (by rw [this]; exact fun z => nomatch z)
        rw [this] at z
        exact outof_n (gh_ne q fun z => nomatch z) z
      | held n =>
        obtain ⟨o, ho⟩ := r.alive b e
        have : into τ fx b = .held n := into_f (nf b o ho) q
        have z := xc b hb (by rw [this]; exact fun z => nomatch z)
        rw [this] at z
        exact outof_n (gh_ne q fun z => nomatch z) z, fun b o hb e q => by
      have : into τ fx b = .none := into_f (nf b o q) e
      have z := xk b o hb this (hk b o q)
      exact ⟨outof_n (gh_ne e fun z => nomatch z) z.1, z.2⟩⟩
  have nex : ∀ b, τ b = .none → ¬ ex b := fun b e w => by obtain ⟨o', q⟩ := hex b w; rw [e] at q; cases q
  have ow : ∀ b n, τ1 b = .own n → outof τ τ1 b = .own n := fun b n e => outof_n (fun q => by rw [(fixd b q).1] at e; cases e) e
  have bk : ∀ b n, outof τ τ1 b = .own n → τ1 b = .own n := fun b n e => outG_own e
  have kl : ∀ a vs n, τ1 a = .none → s1.heap.get? a = some (LO vs n) → outof τ τ1 a = .none ∧ s1.heap.get? a = some (LO vs n) := fun a vs n e q => by
    refine ⟨?_, q⟩
    have : τ a ≠ .fix := fun w => by
      obtain ⟨_, o, _, h2, h3⟩ := fixd a w
      rw [q] at h2
      cases h2
      exact h3 _ _ rfl
    exact outof_n this e
  have vk : ∀ v rv, VR τ1 s1.heap v rv → VR (outof τ τ1) s1.heap v rv := fun v rv e => by
    cases v with
    | d z => exact DR.keepL kl e
    | ref n => obtain ⟨a, e1, e2⟩ := e; exact ⟨a, e1, ow a n e2⟩
  have vsk : ∀ v rv, VRs τ1 s1.heap v rv → VRs (outof τ τ1) s1.heap v rv := fun v rv e => by
    induction e with
    | nil => exact .nil
    | cons a _ ih => exact .cons (vk _ _ a) ih
  refine ⟨⟨r1.ok, r1.dr, r1.os, r1.gens, r1.hgens, fun b o e => ?_, fun n l e => ?_, fun b d n e1 e2 => r1.uniq b d n (bk b n e1) (bk d n e2), fun b n e => r1.bound b n (bk b n e), fun b o e => ?_, fun b e => ?_, fun l hl => ?_, fun i v e => ?_, fun b e => ?_⟩, y, vk⟩
  · have z := r.base b o e
    have q := y.2 b o (nex b z.2) z.2 z.1
    exact ⟨q.2, q.1⟩
  · obtain ⟨b, vs, ep, h1, h2, h3⟩ := r1.own n l e
    exact ⟨b, vs, ep, ow b n h1, h2, vsk _ _ h3⟩
  · exact r1.held b o (outG_held e)
  · by_cases hb : τ b = .fix
    · obtain ⟨_, o, _, ho, _⟩ := fixd b hb
      exact ⟨o, ho⟩
    · exact r1.alive b fun q => e (outof_n hb q)
  · have z := r.locs l hl
    refine z.keeps (fun q => ?_) fun o e => ?_
    · rcases q with q | q
      · rw [q]; exact outof_f q
      · obtain ⟨o, ho⟩ := z.alive
        rw [q]; exact (y.2 _ o (nex _ q) q ho).1
    · rcases z.fix with q | q
      · obtain ⟨_, o', h1, h2, _⟩ := fixd _ q
        rw [e] at h1; cases h1; exact h2
      · exact (y.2 _ o (nex _ q) q e).2
  · obtain ⟨loc, v', h1, h2, h3⟩ := r.vars i v e
    have z := r.locs loc (List.mem_of_getElem? h1)
    refine ⟨loc, v', h1, h2.keeps fun o e => ?_, h3.keep (fun a o e g => y.2 a o (nex a e) e g) (fun a n e => (y.1 a (fun w => by obtain ⟨o', q⟩ := hex a w; rw [e] at q; cases q) (by rw [e]; exact fun z => nomatch z)).trans e)⟩
    rcases z.fix with q | q
    · obtain ⟨_, o', h1, h2, _⟩ := fixd _ q
      rw [e] at h1; cases h1; exact h2
    · exact (y.2 _ o (nex _ q) q e).2
  · obtain ⟨_, o, _, ho, hs⟩ := fixd b (outG_fix e)
    exact ⟨o, ho, hs⟩
theorem R.leave {s1 : Shared} {τ1 : Tau} {fx : Addr → Bool} (r : R W τ ls st s) (r1 : R W τ1 ls' st1 s1) (hk : ∀ b o, s.heap.get? b = some o → h'.get? b = some o)
    (hfx : ∀ b, fx b = true → s.heap.get? b = none) (x : Ext (into τ fx) h' τ1 s1.heap) :
    R W (outof τ τ1) ls ⟨st.vars, st1.own⟩ s1 ∧ Ext τ s.heap (outof τ τ1) s1.heap ∧ ∀ v rv, VR τ1 s1.heap v rv → VR (outof τ τ1) s1.heap v rv :=
  have z := r.leaveBut r1 hk hfx (fun _ => False) (fun _ h => h.elim) (fun b _ e => x.claim b e) (fun b o _ e g => x.keep b o e g)
  ⟨z.1, ⟨fun b e => z.2.1.1 b id e, fun b o e g => z.2.1.2 b o id e g⟩, z.2.2⟩
noncomputable def inD (x : Option Obj) : Gh → Gh
  | .fix => .none
  | .none => .none
  | .own _ => x.elim .none .held
  | .held o => .held o
theorem inD_own {x : Option Obj} {g : Gh} {n : Nat} (h : inD x g = .own n) : False := by
  cases g with
  | own m => cases x <;> cases h
  | _ => cases h
theorem inD_fix {x : Option Obj} {g : Gh} (h : inD x g = .fix) : False := by
  cases g with
  | own m => cases x <;> cases h
  | _ => cases h
theorem inD_held {P : Prop} {x : Option Obj} {g : Gh} {o : Obj} (h : inD x g = .held o) (k1 : x = some o → P) (k2 : g = .held o → P) : P := by
  cases g with
  | own m => cases x with
    | none => cases h
    | some y => cases h; exact k1 rfl
  | held m => exact k2 h
  | _ => cases h
noncomputable def intoD (τ : Tau) (h : Heap) (fx : Addr → Bool) : Tau := fun b => ifB (fx b) .fix (inD (h.get? b) (τ b))
theorem intoD_t {τ : Tau} {h : Heap} {fx : Addr → Bool} {b : Addr} (e : fx b = true) : intoD τ h fx b = .fix := by
  delta intoD
  rw [e]; rfl
theorem intoD_f {τ : Tau} {h : Heap} {fx : Addr → Bool} {b : Addr} {g : Gh} (e1 : fx b = false) (e : τ b = g) : intoD τ h fx b = inD (h.get? b) g := by
  delta intoD
  rw [e1, e]; rfl
theorem intoD_c {P : Prop} {τ : Tau} {h : Heap} {fx : Addr → Bool} {b : Addr} {g : Gh} (e : intoD τ h fx b = g) (k1 : fx b = true → g = .fix → P) (k2 : fx b = false → inD (h.get? b) (τ b) = g → P) : P := by
  cases q : fx b with
  | true => exact k1 q (e.symm.trans (intoD_t q))
  | false => exact k2 q ((intoD_f q rfl).symm.trans e)
noncomputable def outE (g g1 : Gh) : Gh := match g with
  | .fix => .fix
  | .own n => .own n
  | .none => inD none g1
  | .held _ => inD none g1
theorem outE_own {g g1 : Gh} {n : Nat} (h : outE g g1 = .own n) : g = .own n := by
  cases g with
  | own m => exact h
  | fix => cases h
  | _ => exact (inD_own h).elim
theorem outE_held {g g1 : Gh} {o : Obj} (h : outE g g1 = .held o) : g1 = .held o := by
  cases g with
  | own m => cases h
  | fix => cases h
  | _ => exact inD_held h (fun q => nomatch q) id
theorem outE_fix {g g1 : Gh} (h : outE g g1 = .fix) : g = .fix := by
  cases g with
  | own m => cases h
  | fix => rfl
  | _ => exact (inD_fix h).elim
noncomputable def outofD (τ τ1 : Tau) : Tau := fun b => outE (τ b) (τ1 b)
theorem outofD_g {τ τ1 : Tau} {b : Addr} {g g1 : Gh} (q : τ b = g) (e : τ1 b = g1) : outofD τ τ1 b = outE g g1 := by
  delta outofD
  rw [q, e]
theorem R.enterD (r : R W τ ls st s) {fx : Addr → Bool} {vars' : List (Option V)} {t : Nat} (hk : ∀ b o, s.heap.get? b = some o → h'.get? b = some o)
    (hfx : ∀ b, fx b = true → s.heap.get? b = none ∧ ∃ o, h'.get? b = some o ∧ ∀ xs n, o.data ≠ .seq xs n) (hl : ∀ l ∈ ls', LocOk (intoD τ s.heap fx) h' l)
    (hv : ∀ (i : Nat) v, vars'[i]? = some (some v) → ∃ x loc rv, v = .d x ∧ ls'[i]? = some loc ∧ LocHas h' loc rv ∧ DR τ s.heap x rv) : R W (intoD τ s.heap fx) ls' ⟨vars', []⟩ { s with heap := h', toks := t } := by
  have nf : ∀ b o, s.heap.get? b = some o → fx b = false := fun b o e => by
    cases q : fx b with
    | false => rfl
    | true => rw [(hfx b q).1] at e; cases e
  have i0 : ∀ b o, τ b = .none → s.heap.get? b = some o → intoD τ s.heap fx b = .none ∧ h'.get? b = some o := fun b o e q => ⟨intoD_f (nf b o q) e, hk b o q⟩
  have no : ∀ b n, intoD τ s.heap fx b ≠ .own n := fun b n e => intoD_c e (fun _ q => nomatch q) fun _ q => inD_own q
  refine ⟨r.ok, r.dr, r.os, r.gens, r.hgens, fun b o e => ?_, fun n l e => by simp at e, fun b d n e1 e2 => absurd e1 (no b n), fun b n e => absurd e (no b n), fun b o e => ?_, fun b e => ?_, hl, fun i v e => ?_, fun b e => ?_⟩
  · have z := r.base b o e
    have q := i0 b o z.2 z.1
    exact ⟨q.2, q.1⟩
  · exact intoD_c e (fun _ q => nomatch q) fun _ q => inD_held q (hk b o) fun q => hk b o (r.held b o q)
  · cases hb : fx b with
    | true =>
      obtain ⟨_, o, ho, _⟩ := hfx b hb
      exact ⟨o, ho⟩
    | false =>
      obtain ⟨o, ho⟩ := r.alive b fun q => e (intoD_f hb q)
      exact ⟨o, hk b o ho⟩
  · obtain ⟨x, loc, rv, rfl, h1, h2, h3⟩ := hv i v e
    exact ⟨loc, rv, h1, h2, DR.keep i0 h3⟩
  · refine intoD_c e (fun hb _ => ?_) fun _ q => (inD_fix q).elim
    obtain ⟨_, o, ho, hs⟩ := hfx b hb
    exact ⟨o, ho, hs⟩
theorem R.leaveD {s1 : Shared} {τ1 : Tau} {fx : Addr → Bool} (r : R W τ ls st s) (r1 : R W τ1 ls' st1 s1) (hk : ∀ b o, s.heap.get? b = some o → h'.get? b = some o)
    (hfx : ∀ b, fx b = true → s.heap.get? b = none) (x : Ext (intoD τ s.heap fx) h' τ1 s1.heap) :
    R W (outofD τ τ1) ls st s1 ∧ Ext τ s.heap (outofD τ τ1) s1.heap ∧ ∀ n v rv d, VR τ1 s1.heap v rv → deepV n st1.own 0 v = some d → DR (outofD τ τ1) s1.heap d rv := by
  have nf : ∀ b o, s.heap.get? b = some o → fx b = false := fun b o e => by
    cases q : fx b with
    | false => rfl
    | true => rw [hfx b q] at e; cases e
  have fixd : ∀ b, τ b = .fix → τ1 b = .none ∧ ∃ o, s.heap.get? b = some o ∧ s1.heap.get? b = some o ∧ ∀ xs n, o.data ≠ .seq xs n := fun b e => by
    obtain ⟨o, ho, hs⟩ := r.fixed b e
    have : intoD τ s.heap fx b = .none := intoD_f (nf b o ho) e
    have z := x.keep b o this (hk b o ho)
    exact ⟨z.1, o, ho, z.2, hs⟩
  have ownd : ∀ b n, τ b = .own n → ∃ o, s.heap.get? b = some o ∧ τ1 b = .held o ∧ s1.heap.get? b = some o := fun b n e => by
    obtain ⟨o, ho⟩ := r.alive b (by rw [e]; exact fun z => nomatch z)
    have : intoD τ s.heap fx b = .held o := (intoD_f (nf b o ho) e).trans (by rw [ho]; rfl)
    have z := x.claim b (by rw [this]; exact fun z => nomatch z)
    rw [this] at z
    exact ⟨o, ho, z, r1.held b o z⟩
  have y : Ext τ s.heap (outofD τ τ1) s1.heap := ⟨fun b e => by
      cases q : τ b with
      | none => exact absurd q e
      | fix => exact outofD_g q rfl
      | own n => exact outofD_g q rfl
      | held n =>
        obtain ⟨o, ho⟩ := r.alive b e
        have : intoD τ s.heap fx b = .held n := intoD_f (nf b o ho) q
        have z := x.claim b (by rw [this]; exact fun z => nomatch z)
        rw [this] at z
        exact outofD_g q z, fun b o e q => by
      have : intoD τ s.heap fx b = .none := intoD_f (nf b o q) e
      have z := x.keep b o this (hk b o q)
      exact ⟨outofD_g e z.1, z.2⟩⟩
  have bk : ∀ b n, outofD τ τ1 b = .own n → τ b = .own n := fun b n e => outE_own e
  refine ⟨⟨r1.ok, r1.dr, r1.os, r1.gens, r1.hgens, fun b o e => ?_, fun n l e => ?_, fun b d n e1 e2 => r.uniq b d n (bk b n e1) (bk d n e2), fun b n e => r.bound b n (bk b n e), fun b o e => ?_, fun b e => ?_, fun l hl => ?_, fun i v e => ?_, fun b e => ?_⟩, y, fun n v rv d hv hd => ?_⟩
  · have z := r.base b o e
    have q := y.keep b o z.2 z.1
    exact ⟨q.2, q.1⟩
  · obtain ⟨b, vs, ep, h1, h2, h3⟩ := r.own n l e
    obtain ⟨o, g1, g2, g3⟩ := ownd b n h1
    rw [h2] at g1; cases g1
    exact ⟨b, vs, ep, outofD_g h1 rfl, g3, h3.mono y⟩
  · exact r1.held b o (outE_held e)
  · cases hb : τ b with
    | fix =>
      obtain ⟨_, o, _, ho, _⟩ := fixd b hb
      exact ⟨o, ho⟩
    | own n =>
      obtain ⟨o, _, _, g3⟩ := ownd b n hb
      exact ⟨o, g3⟩
    | none => exact r1.alive b fun q => e (outofD_g hb q)
    | held u => exact r1.alive b fun q => e (outofD_g hb q)
  · have z := r.locs l hl
    refine z.keeps (fun q => ?_) fun o e => ?_
    · rcases q with q | q
      · rw [q]; exact outofD_g q rfl
      · obtain ⟨o, ho⟩ := z.alive
        rw [q]; exact (y.keep _ o q ho).1
    · rcases z.fix with q | q
      · obtain ⟨_, o', h1, h2, _⟩ := fixd _ q
        rw [e] at h1; cases h1; exact h2
      · exact (y.keep _ o q e).2
  · obtain ⟨loc, v', h1, h2, h3⟩ := r.vars i v e
    have z := r.locs loc (List.mem_of_getElem? h1)
    refine ⟨loc, v', h1, h2.keeps fun o e => ?_, h3.mono y⟩
    rcases z.fix with q | q
    · obtain ⟨_, o', h1, h2, _⟩ := fixd _ q
      rw [e] at h1; cases h1; exact h2
    · exact (y.keep _ o q e).2
  · obtain ⟨_, o, _, ho, hs⟩ := fixd b (outE_fix e)
    exact ⟨o, ho, hs⟩
  · refine deepL r1 (fun a vs k q g => ?_) (fun a k q _ => ?_) n hv hd
    · cases w : τ a with
      | fix => obtain ⟨_, o, _, h2, h3⟩ := fixd a w; rw [g] at h2; cases h2; exact absurd rfl (h3 _ _)
      | own k => obtain ⟨o, _, h2, _⟩ := ownd a k w; rw [q] at h2; cases h2
      | none => exact outofD_g w q
      | held o => exact outofD_g w q
    · cases w : τ a with
      | fix => have := (fixd a w).1; rw [q] at this; cases this
      | own k => obtain ⟨o, _, h2, _⟩ := ownd a k w; rw [q] at h2; cases h2
      | none => exact outofD_g w q
      | held o => exact outofD_g w q
end
end Mine.Internal
end
section
set_option genInjectivity false
open PySem PySem.W PyProof.Rows PySem.Calls
namespace Mine.Internal
section
variable {W : Wd} {c : Cx} {N : Nat} {st st1 st2 st3 st4 : PS} {τ τ' : Tau} {ls ls' : List Loc} {s : Shared} {h h' : Heap} {F : Addr → Option Fn}
noncomputable def OV (τ : Tau) (h : Heap) : Option V → Option Value → Prop
  | .none, u => u = .none
  | some v, u => ∃ r, u = some r ∧ VR τ h v r
noncomputable def kwOf : Option Value → List (Str × Value)
  | .none => []
  | some u => [("key", u)]
noncomputable def CallOk (W : Wd) (n : Nat) (a : Addr) (vs : List V) (key : Option V) (st : PS) (v : V) (st1 : PS) : Prop :=
  ∀ (A : Around) (τ : Tau) (ls : List Loc) (s : Shared) (Q : Value → Shared → Prop) (E : Value → Shared → Prop) us ku, AOk A n → R W τ ls st s → 0 < s.toks → VRs τ s.heap vs us → OV τ s.heap key ku →
    (∀ τ' s' v', 0 < s'.toks → Ext τ s.heap τ' s'.heap → R W τ' ls st1 s' → VR τ' s'.heap v v' → Q v' s') → wpAny (model pw W.w) A (call (.ref a) us (kwOf ku)) Q E s
structure FnFact (W : Wd) (a : Addr) (f : Fn) (fd : FuncData) (ps vn : List Str) (body : List Stmt) : Prop where
  obj : ∀ h : Heap, (∀ b o, W.B b o → h.get? b = some o) → ∃ o, h.get? a = some o ∧ o.data = .func fd ∧ h.CodeRec fd.code fd.qualname
  body : fd.body = .stmts body
  kind : fd.scope.kind = .function
  cell : ∀ x ∈ fd.scope.names, x.2 ≠ .cell
  globals : fd.globals = mainGlobals
  builtins : fd.builtins = builtinsNs
  co : fd.scope.isCoroutine = false
  gen : fd.scope.isGenerator = false
  nodup : vn.Nodup
  loc : ∀ x ∈ vn, fd.scope.names.lookup x = some .local
  split : ∃ r, vn = ps ++ r ∧ r.length = f.nv
  cap : f.cap = []
  prim : f.prim = false
  bind : ∀ (τ : Tau) (s : Shared) us vs key ku ws, (∀ b o, W.B b o → s.heap.get? b = some o) → VRs τ s.heap vs us → OV τ s.heap key ku → f.bind vs key = some ws →
    ∃ rs, VRs τ s.heap ws rs ∧ ps.length = rs.length ∧ BindsTo s fd ⟨us, kwOf ku⟩ (ps.zip rs)
noncomputable def fnCx (fd : FuncData) (vn : List Str) (L a : Addr) : Cx := ⟨callEnv fd L a, vn.map (Loc.dict L), vn.zipIdx, vn.length⟩
theorem zip_at {vn : List Str} {x : Str} {i : Nat} (h : vn.zipIdx.lookup x = some i) : vn[i]? = some x := by
  have := mem_of_lookup h
  have := List.mem_zipIdx_iff_getElem?.mp this
  simpa using this
theorem fnCx_ok {a : Addr} {f : Fn} {fd : FuncData} {ps vn : List Str} {body : List Stmt} (X : FnFact W a f fd ps vn body) (L : Addr) : (fnCx fd vn L a).Ok where
  kind := X.kind
  glob := X.globals
  blt := X.builtins
  nodup := by
    have := X.nodup
    exact List.Pairwise.map _ (fun x y hxy e => hxy (by cases e; rfl)) this
  cells := fun a b b' e => by
    simp only [fnCx, List.mem_map] at e
    obtain ⟨x, _, e⟩ := e
    cases e
  own := fun i l _ e => by
    simp only [fnCx, List.getElem?_map] at e
    cases q : vn[i]? with
    | none => rw [q] at e; cases e
    | some x => rw [q] at e; cases e; rfl
  inj := fun x y i e1 e2 => by
    have h1 := zip_at e1
    have h2 := zip_at e2
    rw [h1] at h2; cases h2; rfl
  ix := fun x i e => by
    have hx := zip_at e
    refine .inl ⟨X.loc x (List.mem_of_getElem? hx), ?_⟩
    simp only [fnCx, List.getElem?_map, hx, Option.map_some]
    rfl
theorem lookup_nodup {β : Type} {l : List (Str × β)} (hn : (l.map (·.1)).Nodup) {x : Str} {v : β} (h : (x, v) ∈ l) : l.lookup x = some v := by
  induction l with
  | nil => cases h
  | cons p r ih =>
    obtain ⟨y, u⟩ := p
    simp only [List.map_cons, List.nodup_cons] at hn
    rcases List.mem_cons.mp h with e | e
    · cases e; simp
    · have : x ≠ y := fun q => hn.1 (by subst q; exact List.mem_map.mpr ⟨_, e, rfl⟩)
      rw [List.lookup_cons]
      have hb : (x == y) = false := by simpa using this
      rw [hb]
      exact ih hn.2 e
theorem bound_at {ps : List Str} {rs : List Value} (hn : ps.Nodup) (hl : ps.length = rs.length) {i : Nat} {x : Str} {r : Value} (hx : ps[i]? = some x) (hr : rs[i]? = some r) : (ps.zip rs).reverse.lookup x = some r := by
  refine lookup_nodup ?_ ?_
  · rw [List.map_reverse]
    have : List.map (fun x => x.fst) (ps.zip rs) = ps := List.map_fst_zip (by first | lia | omega)
    rw [this]
    exact List.pairwise_reverse.mpr (hn.imp fun q => q.symm)
  · rw [List.mem_reverse]
    refine List.mem_of_getElem? (i := i) ?_
    rw [List.getElem?_zip_eq_some]
    exact ⟨hx, hr⟩
theorem R.okVars (r : R W τ ls st s) : okVars st.own.length st.vars = true := by
  refine List.all_eq_true.mpr fun v hv => ?_
  cases v with
  | none => rfl
  | some v =>
    obtain ⟨i, hi⟩ := List.getElem?_of_mem hv
    obtain ⟨_, rv, _, _, h3⟩ := r.vars i v hi
    cases v with
    | d x => rfl
    | ref n => obtain ⟨b, _, e2⟩ := h3; exact decide_eq_true (r.bound b n e2)
theorem outOf_some {m : Nat} {r : Option (Fl × PS)} {v : V} {sx : PS} (h : outOf m r = some (v, sx)) : ∃ g ve se, r = some (g, se) ∧ frz m ve ⟨[], se.own⟩ = some (v, sx) ∧
    ∀ τ1 h1 f', FR τ1 h1 g f' → VR τ1 h1 ve (match f' with | .ret v => v | _ => .none) := by
  refine bd2_c h fun g se e h => ?_
  subst e
  · cases g with
    | ret ve => exact ⟨_, ve, se, rfl, h, fun _ _ _ e => by obtain ⟨rr, rfl, hrr⟩ := e; exact hrr⟩
    | next => exact ⟨_, .d .none, se, rfl, h, fun _ _ _ e => by cases e; exact VR.none⟩
    | brk => cases h
    | cont => cases h
theorem AOk.deeper {A : Around} {n : Nat} {env : Env} (hA : AOk A (n + 1)) : AOk (A.deeper env) n := ⟨hA.handled, by have := hA.depth; show A.depth + 1 + n < 990; (first | lia | omega), by have := hA.units; show A.units + 3 + 40 * n < 9000; (first | lia | omega)⟩
theorem AOk.room {A : Around} {n : Nat} (hA : AOk A n) : A.depth < recursionLimit := by have := hA.depth; unfold recursionLimit; (first | lia | omega)
theorem endD {v ve : V} {se sx : PS} {Q : Value → Shared → Prop} {fx : Addr → Bool} (R0 : R W τ ls st s) (hk : ∀ b o, s.heap.get? b = some o → h'.get? b = some o)
    (hfx : ∀ b, fx b = true → s.heap.get? b = none) (hout : frz 0 ve ⟨[], se.own⟩ = some (v, sx))
    (hQ : ∀ τ' s' v', 0 < s'.toks → Ext τ s.heap τ' s'.heap → R W τ' ls st s' → VR τ' s'.heap v v' → Q v' s') {τ1 : Tau} {s1 : Shared} {rr : Value} (t1 : 0 < s1.toks) (x1 : Ext (intoD τ s.heap fx) h' τ1 s1.heap) (R1 : R W τ1 ls' se s1) (hrr : VR τ1 s1.heap ve rr) : Q rr s1 := by
  obtain ⟨L1, L2, L3⟩ := R0.leaveD R1 hk hfx x1
  obtain ⟨d, rfl, rfl, f1, f2, f3, f4⟩ := frz_some hout
  exact hQ _ _ _ t1 L2 L1 (L3 5 _ _ _ hrr f4)
theorem endF {v ve : V} {se sx : PS} {Q : Value → Shared → Prop} {fx : Addr → Bool} (R0 : R W τ ls st s) (hk : ∀ b o, s.heap.get? b = some o → h'.get? b = some o)
    (hfx : ∀ b, fx b = true → s.heap.get? b = none) (hout : frz st.own.length ve ⟨[], se.own⟩ = some (v, sx))
    (hQ : ∀ τ' s' v', 0 < s'.toks → Ext τ s.heap τ' s'.heap → R W τ' ls ⟨st.vars, sx.own⟩ s' → VR τ' s'.heap v v' → Q v' s') {τ1 : Tau} {s1 : Shared} {rr : Value} (t1 : 0 < s1.toks) (x1 : Ext (into τ fx) h' τ1 s1.heap) (R1 : R W τ1 ls' se s1) (hrr : VR τ1 s1.heap ve rr) : Q rr s1 := by
  obtain ⟨L1, L2, L3⟩ := R0.leave R1 hk hfx x1
  obtain ⟨d, rfl, rfl, f1, f2, f3, f4⟩ := frz_some hout
  have R6 := L1.freeze (m := st.own.length) f1 R0.okVars f3
  exact hQ _ _ _ t1 (L2.cut R0.bound) R6 (deep L1 (fun a => cut_none) (fun a n => cut_gone) 5 (L3 _ _ hrr) f4)
theorem arg_at {fd : FuncData} {vn ps r : List Str} {L a : Addr} {ws : List V} {rs : List Value} {nv : Nat} (hrs : VRs τ h ws rs) (hpn : ps.Nodup) (hlen : ps.length = rs.length) (hvn : vn = ps ++ r) {i : Nat} {u : V}
    (hu : (ws.map some ++ ([] : List V).map some ++ List.replicate nv .none)[i]? = some (some u)) : u ∈ ws ∧ ∃ y rv, (fnCx fd vn L a).ls[i]? = some (.dict L y) ∧ (ps.zip rs).reverse.lookup y = some rv ∧ VR τ h u rv := by
  have hwl := hrs.length
  simp only [List.map_nil, List.append_nil] at hu
  have hi : i < ws.length := by
    have := (List.getElem?_eq_some_iff.mp hu).1
    simp only [List.length_append, List.length_map, List.length_replicate] at this
    rcases Nat.lt_or_ge i ws.length with q | q
    · exact q
    · rw [List.getElem?_append_right (by simpa using q)] at hu
      rw [List.getElem?_replicate] at hu
      split at hu <;> cases hu
  rw [List.getElem?_append_left (by simpa using hi), List.getElem?_map] at hu
  have hu' : ws[i]? = some u := by
    cases q : ws[i]? with
    | none => rw [q] at hu; cases hu
    | some y => rw [q] at hu; cases hu; rfl
  obtain ⟨rv, g1, g2⟩ := hrs.get hu'
  have hip : i < ps.length := by first | lia | omega
  have hx : ps[i]? = some ps[i] := List.getElem?_eq_getElem hip
  refine ⟨List.mem_of_getElem? hu', ps[i], rv, ?_, bound_at hpn hlen hx g1, g2⟩
  simp only [fnCx, List.getElem?_map]
  rw [hvn, List.getElem?_append_left (by first | lia | omega), hx]
  rfl
theorem ns_new {L : Addr} {h₀ : Heap} {e : Str → Option Value} (hL : h.get? L = none) (hns : h₀.Ns L e) : ∀ b, decide (b = L) = true → h.get? b = none ∧ ∃ o, h₀.get? b = some o ∧ ∀ xs n, o.data ≠ .seq xs n := fun b hb => by
  have : b = L := by simpa using hb
  subst this
  obtain ⟨o, es, ep, h1, h2, _⟩ := id hns
  exact ⟨hL, o, h1, fun xs n => by rw [h2]; exact fun z => nomatch z⟩
theorem call_ok {a : Addr} {f : Fn} {fd : FuncData} {ps vn : List Str} {body : List Stmt} {n : Nat} {vs : List V} {key : Option V} {v : V} (X : FnFact W a f fd ps vn body)
    (hbody : ∀ L sa g sb, evSs F n f.body sa = some (g, sb) → TS W (fnCx fd vn L a) n sa body g sb) (hF : F a = some f) (he : evC F (n + 1) a vs key st = some (v, st1)) : CallOk W (n + 1) a vs key st v st1 := by
  intro A τ ls s Q E us ku hA R0 ht hus hku hQ
  refine bd_c he fun f' hf' he => bd_c he fun ws hws he => ?_
  cases hF.symm.trans hf'
  have hbase : ∀ b o, W.B b o → s.heap.get? b = some o := fun b o e => (R0.base b o e).1
  obtain ⟨o, ho, hdata, hcode⟩ := X.obj s.heap hbase
  obtain ⟨rs, hrs, hlen, hbt⟩ := X.bind τ s us vs key ku ws hbase hus hku hws
  obtain ⟨vr, hvn, hvr⟩ := X.split
  have hpn : ps.Nodup := by have := X.nodup; rw [hvn] at this; exact (List.nodup_append.mp this).1
  obtain ⟨loose, mean, mg, mb, T⟩ := R0.ok.T
  have hlim : s.heap.NoLimit := T.nolimit.keeps fun b o e => hbase b o (.inl e)
  have hbd := hbody s.heap.objs.size
  have hls : ∀ l ∈ (fnCx fd vn s.heap.objs.size a).ls, ∃ x, l = .dict s.heap.objs.size x := fun l hl => by
    simp only [fnCx, List.mem_map] at hl
    obtain ⟨x, hx, rfl⟩ := hl
    exact ⟨x, rfl⟩
  refine wpAny_call (codeAny_call_def hA.room ho hdata hlim hcode X.body hbt X.cell (fun x hx => ?_) (fun h₀ hns hk => ?_) X.co X.gen X.kind)
  · refine X.loc x.1 ?_
    rw [hvn]
    obtain ⟨x1, x2⟩ := x
    exact List.mem_append.mpr (.inl (List.of_mem_zip hx).1)
  have hfx := ns_new (get_size s.heap) hns
  refine callOf_c he X.prim (fun sx hD hout e => ?_) fun sx hD hout e => ?_
  · subst e
    rw [X.cap] at hout
    have Re := R0.enterD (fx := fun b => decide (b = s.heap.objs.size)) (ls' := (fnCx fd vn s.heap.objs.size a).ls) (vars' := ws.map some ++ ([] : List V).map some ++ List.replicate f.nv .none) (t := s.toks + (ps.zip rs).length) hk hfx
      (fun l hl => by
        obtain ⟨x, rfl⟩ := hls l hl
        exact ⟨intoD_t (decide_eq_true rfl), _, hns⟩) (fun i u hu => by
        obtain ⟨hm, y, rv, h1, h2, h3⟩ := arg_at hrs hpn hlen hvn hu
        have hud := List.all_eq_true.mp hD u hm
        cases u with
        | ref n => cases hud
        | d x => exact ⟨x, .dict s.heap.objs.size y, rv, rfl, h1, ⟨_, hns, h2⟩, h3⟩)
    obtain ⟨g, ve, se, hev, hout, hr⟩ := outOf_some hout
    exact hbd _ _ _ hev (fnCx_ok X _) (A.deeper _) _ _ _ _ hA.deeper Re (Nat.lt_of_lt_of_le ht (Nat.le_add_right _ _)) fun τ1 s1 f' t1 x1 R1 hf => endD R0 hk (fun b hb => (hfx b hb).1) hout hQ t1 x1 R1 (hr _ _ _ hf)
  · subst e
    rw [X.cap] at hout
    have Re := R0.enter (fx := fun b => decide (b = s.heap.objs.size)) (ls' := (fnCx fd vn s.heap.objs.size a).ls) (vars' := ws.map some ++ ([] : List V).map some ++ List.replicate f.nv .none) (t := s.toks + (ps.zip rs).length) hk hfx
      (fun l hl => by
        obtain ⟨x, rfl⟩ := hls l hl
        exact ⟨into_t (decide_eq_true rfl), _, hns⟩) (fun i u hu => by
        obtain ⟨hm, y, rv, h1, h2, h3⟩ := arg_at hrs hpn hlen hvn hu
        exact ⟨.dict s.heap.objs.size y, rv, h1, ⟨_, hns, h2⟩, h3⟩)
    obtain ⟨g, ve, se, hev, hout, hr⟩ := outOf_some hout
    exact hbd _ _ _ hev (fnCx_ok X _) (A.deeper _) _ _ _ _ hA.deeper Re (Nat.lt_of_lt_of_le ht (Nat.le_add_right _ _)) fun τ1 s1 f' t1 x1 R1 hf => endF R0 hk (fun b hb => (hfx b hb).1) hout hQ t1 x1 R1 (hr _ _ _ hf)
theorem fn_enter {A : Around} {k : Nat} {Q : Value → Shared → Prop} {E : Value → Shared → Prop} {a : Addr} {f : Fn} {fd : FuncData} {p : Str} {vn : List Str} {body : List Stmt} {u : Value} {v : V} (X : FnFact W a f fd [p] vn body) (hA : AOk A k) (R0 : R W τ ls st s) (hu : VR τ s.heap v u) (hb : f.bind [v] .none = some [v])
    (h : ∀ L h₀, s.heap.get? L = none → (∀ b o, s.heap.get? b = some o → h₀.get? b = some o) → (fnCx fd vn L a).Ok → R W (into τ fun b => decide (b = L)) (fnCx fd vn L a).ls ⟨some v :: List.replicate f.nv .none, st.own⟩ { s with heap := h₀, toks := s.toks + 1 } →
      wpAny (model pw W.w) (A.deeper (callEnv fd L a)) (execs body (callEnv fd L a)) (fun f s' => Q (match f with | .ret v => v | _ => .none) s')
        (fun e s' => wpAny (model pw W.w) (A.deeper (callEnv fd L a)) (leaving (callEnv fd L a) e) (fun _ s'' => E e s'') (fun e' s'' => E e' s'') s') { s with heap := h₀, toks := s.toks + 1 }) :
    wpAny (model pw W.w) A (call (.ref a) [u]) Q E s := by
  have hbase : ∀ b o, W.B b o → s.heap.get? b = some o := fun b o e => (R0.base b o e).1
  obtain ⟨o, ho, hdata, hcode⟩ := X.obj s.heap hbase
  obtain ⟨loose, mean, mg, mb, T⟩ := R0.ok.T
  obtain ⟨rs, hrs, hlen, hbt⟩ := X.bind τ s [u] [v] .none .none [v] hbase (.cons hu .nil) rfl hb
  obtain ⟨r1, rfl, hr⟩ := hrs.one
  obtain ⟨vr, hvn, hvr⟩ := X.split
  refine wpAny_call (codeAny_call_def hA.room ho hdata (T.nolimit.keeps fun b o e => hbase b o (.inl e)) hcode X.body hbt X.cell (fun x hx => ?_) (fun h₀ hns hk => ?_) X.co X.gen X.kind)
  · rcases List.mem_singleton.mp hx with rfl
    refine X.loc _ ?_
    rw [hvn]; exact .head _
  refine h _ h₀ (get_size _) hk (fnCx_ok X _) (R0.enter hk (ns_new (get_size s.heap) hns) (fun l hl => ?_) (fun i w e => ?_))
  · simp only [fnCx, List.mem_map] at hl
    obtain ⟨x, hx, rfl⟩ := hl
    exact ⟨into_t (decide_eq_true rfl), _, hns⟩
  · cases i with
    | zero =>
      cases e
      refine ⟨.dict s.heap.objs.size p, r1, ?_, ⟨_, hns, by simp⟩, hr⟩
      rw [hvn]; rfl
    | succ i =>
      simp only [List.getElem?_cons_succ, List.getElem?_replicate] at e
      split at e <;> cases e
end
end Mine.Internal
end
section
set_option genInjectivity false
open PySem PySem.W PyProof.Rows PySem.Calls
namespace Mine.Internal
noncomputable def compRest (elt : Expr) (gens : List Comprehension) (scope : Scope) (pos : Pos) (d : Nat) (it acc : Value) (env : Env) (ok : Bool) :=
  if ok = true then (match gens[d + 1]? with
    | some g' => do
      let x ← eval g'.iter env
      standAt g'.iter.pos
      let x ← if g'.is_async != 0 then foldedIterable g'.iter x else foldedSetIterable g'.iter env x
      let _ ← runOwn (.compStart (.ListComp elt gens scope pos) (d + 1) (← holding [x] (if g'.is_async != 0 then asyncIter x else pyIter x)) acc env) env
      again (.compLoop (.ListComp elt gens scope pos) d it acc env)
    | none => (eval elt env >>= fun x => call (.builtin "list.append") [acc, x] >>= fun _ => pure ()) >>= fun _ =>
      again (.compLoop (.ListComp elt gens scope pos) d it acc env))
  else again (.compLoop (.ListComp elt gens scope pos) d it acc env)
theorem compTurn_at (elt : Expr) (gens : List Comprehension) (scope : Scope) (pos : Pos) (d : Nat) (it acc : Value) (env : Env) {x : Str} {px : Pos} {iter : Expr} {ifs : List Expr} (hg : gens[d]? = some ⟨.Name x px, iter, ifs, 0⟩) :
    compTurn (.ListComp elt gens scope pos) d it acc env = (standAt iter.pos >>= fun _ => pyNext it >>= fun r => match r with
      | none => pure (.done .next)
      | some v => assign (.Name x px) env v >>= fun _ =>
        (forIn ifs true fun c r => if r = true then do let ok ← isTrue c env (eval c env); pure (ForInStep.yield ok) else pure (ForInStep.yield r)) >>= compRest elt gens scope pos d it acc env) := by
  conv => lhs; whnf
  rw [hg]
  show (standAt iter.pos >>= _) = _
  congr 1
section
variable {W : Wd} {c : Cx} {N : Nat} {st st1 st2 st3 st4 : PS} {τ τ' : Tau} {ls ls' : List Loc} {s : Shared} {h h' : Heap} {F : Addr → Option Fn}
theorem iter_self {A : Around} {Q : Value → Shared → Prop} {E : Value → Shared → Prop} {src : Src} {a : Addr} (R0 : R W τ ls st s) (hs : SrcOk τ s.heap src (.ref a)) (hQ : Q (.ref a) s) : wpAny (model pw W.w) A (pyIter (.ref a)) Q E s := by
  cases src with
  | rng x step left =>
    obtain ⟨_, e, ha⟩ := hs
    cases e
    exact wpAny_pyIter_rangeiter (R0.held _ _ ha) hQ
  | lst v i =>
    obtain ⟨_, o, p, e, ha, hc, hd, hv⟩ := hs
    cases e
    exact wpAny_pyIter_listiter ⟨o, R0.held _ _ ha, hc, hd⟩ hQ
variable (W c F) in
noncomputable def OpOk (n0 : Nat) (t : Op) (ifs : List Expr) : Prop :=
  (t = .no ∧ ifs = []) ∨ ∃ e te, t = .yes te ∧ ifs = [e] ∧ ∀ m, m < n0 → ∀ sa b sb, evB F m te sa = some (b, sb) → TB W c m sa e b sb
variable (W c F) in
noncomputable def GsOk (n0 : Nat) (gens : List Comprehension) : Nat → Nat → Op → Gs → Prop
  | d, i, t, .nil => ∃ x px iter ifs, gens[d]? = some ⟨.Name x px, iter, ifs, 0⟩ ∧ c.ix.lookup x = some i ∧ i < c.cap ∧ c.env.kindOf x ≠ some .free ∧ OpOk W c F n0 t ifs ∧ gens[d + 1]? = none
  | d, i, t, .cons i' it' t' g' => ∃ x px iter ifs, gens[d]? = some ⟨.Name x px, iter, ifs, 0⟩ ∧ c.ix.lookup x = some i ∧ i < c.cap ∧ c.env.kindOf x ≠ some .free ∧ OpOk W c F n0 t ifs ∧
      (∃ y py iter' ifs', gens[d + 1]? = some ⟨.Name y py, iter', ifs', 0⟩ ∧ (∀ m, m < n0 → ∀ sa src sb, evI F m it' sa = some (src, sb) → TI W c m sa iter' src sb) ∧ ∀ x, foldedSetIterable iter' c.env x = pure x) ∧ GsOk n0 gens (d + 1) i' t' g'
theorem GsOk.head {n0 : Nat} {gens : List Comprehension} {d i : Nat} {t : Op} {g : Gs} (h : GsOk W c F n0 gens d i t g) : ∃ x px iter ifs, gens[d]? = some ⟨.Name x px, iter, ifs, 0⟩ ∧ c.ix.lookup x = some i ∧ i < c.cap ∧ c.env.kindOf x ≠ some .free ∧ OpOk W c F n0 t ifs := by
  cases g with
  | nil => obtain ⟨x, px, iter, ifs, h1, h2, h3, h4, h5, _⟩ := h; exact ⟨x, px, iter, ifs, h1, h2, h3, h4, h5⟩
  | cons i' it' t' g' => obtain ⟨x, px, iter, ifs, h1, h2, h3, h4, h5, _⟩ := h; exact ⟨x, px, iter, ifs, h1, h2, h3, h4, h5⟩
theorem compStart_at {A : Around} {Rr : Result → Shared → Prop} {elt : Expr} {gens : List Comprehension} {scope : Scope} {pos : Pos} {d : Nat} {it acc : Value} {env : Env} {target iter : Expr} {ifs : List Expr}
    (hg : gens[d]? = some ⟨target, iter, ifs, 0⟩)
    (h0 : codeAny (model pw W.w) A (.compLoop (.ListComp elt gens scope pos) d it acc env) Rr s)
    (h : wpAny (model pw W.w) A (pyIter it) (fun it' s' => codeAny (model pw W.w) A (.compLoop (.ListComp elt gens scope pos) d it' acc env) Rr s')
      (notedBy (model pw W.w) A env fun x s' => Rr (.error x) s') s) :
    codeAny (model pw W.w) A (.compStart (.ListComp elt gens scope pos) d it acc env) Rr s := by
  refine codeAny_of_tree ?_
  show wpAny _ _ ((compStart (.ListComp elt gens scope pos) d it acc env).onRaise (fun x => do noteFrame x env; standAt theWindowsPlace)) _ _ s
  refine wpAny_notedAt ?_
  delta compStart
  rw [show clausesOf (.ListComp elt gens scope pos) = gens from rfl, hg]
  show wpAny _ _ (ask >>= _) _ _ s
  refine wpAny_bind (wpAny_askSetting (wpAny_ite ?_))
  split
  · first
      | exact wpAny_bind (wpAny_pure (wpAny_pure (And.intro rfl h0)))
      | exact wpAny_pure (And.intro rfl h0)
  · first
      | exact wpAny_bind (wpAny_rule (wpAny_bind (wpAny_standAt (wpAny_bind (wpAny_mono h (fun it' s' h' => wpAny_pure (And.intro rfl h')) fun _ _ x => x)))))
      | (refine wpAny_bind (wpAny_rule ?_); show wpAny _ _ (standAt iter.pos >>= _) _ _ s; exact wpAny_bind (wpAny_standAt (wpAny_bind (wpAny_mono h (fun it' s' h' => wpAny_pure (And.intro rfl h')) fun _ _ x => x))))
theorem comp_test {n0 n : Nat} {t : Op} {ifs : List Expr} {A : Around} (h5 : OpOk W c F n0 t ifs) (hn : n ≤ n0) (ok : c.Ok) (hA : AOk A n) (R2 : R W τ c.ls st s) (ht : 0 < s.toks) {b : Bool} {stb : PS} {Q : Bool → Shared → Prop} {E : Value → Shared → Prop} (hb : evO F n t st = some (b, stb))
    (hq : ∀ τ3 s3, 0 < s3.toks → Ext τ s.heap τ3 s3.heap → R W τ3 c.ls stb s3 → Q b s3) :
    wpAny (model pw W.w) A (forIn ifs true fun c' r => if r = true then do let ok ← isTrue c' c.env (eval c' c.env); pure (ForInStep.yield ok) else pure (ForInStep.yield r)) Q E s := by
  cases n with
  | zero => cases hb
  | succ m =>
    rcases h5 with ⟨rfl, rfl⟩ | ⟨e, te, rfl, rfl, hh⟩
    · cases hb
      exact wpAny_tests_nil (hq _ _ ht (Ext.refl ..) R2)
    · exact wpAny_tests_one (hh m hn _ _ _ hb ok A _ _ _ _ (hA.le (Nat.le_succ _)) R2 ht hq)
theorem comp_elt {n : Nat} {eltE : Expr} {A : Around} {y : V} {av : Value} {acc : Nat} (helt : TE W c n st eltE y st1) (ok : c.Ok) (hA : AOk A n) (R3 : R W τ c.ls st s) (ht : 0 < s.toks) (hav : VR τ s.heap (.ref acc) av) {Q : Unit → Shared → Prop} {E : Value → Shared → Prop}
    (hd : setOwn st1 (.ref acc) (fun l => if l.length < 1000 then some (l ++ [y]) else .none) = some st2) (hq : ∀ τ3 s3, 0 < s3.toks → Ext τ s.heap τ3 s3.heap → R W τ3 c.ls st2 s3 → Q () s3) :
    wpAny (model pw W.w) A (eval eltE c.env >>= fun x => call (.builtin "list.append") [av, x] >>= fun _ => pure ()) Q E s := by
  refine wpAny_bind (helt ok A _ _ _ _ hA R3 ht fun τ4 s4 y' t4 x4 R4 vy => ?_)
  obtain ⟨m, l, l', em, hl, hl', rfl⟩ := setOwn_some hd
  cases em
  split at hl'
  · rename_i hj
    cases hl'
    obtain ⟨b, vs, ep, rfl, hb, hgb, hvs⟩ := R4.ownAt (hav.mono x4) hl
    have hlen := hvs.length
    refine wpAny_bind (wpAny_with_toks (n := 1) t4 (wpAny_list_append_plain ⟨ep, hgb⟩ (fun h5 hp hsb tk5 => ?_) (by simp only [List.size_toArray]; rw [sizeLine_eq]; (first | lia | omega))))
    obtain ⟨ep5, hp5⟩ := hp
    have z := R4.mut (t := s4.toks) hb hsb (vs' := vs ++ [y']) (ep' := ep5) (l' := l ++ [y]) (by rw [hp5, show vs.toArray.push y' = (vs ++ [y']).toArray by simp]) (hvs.snoc vy)
    exact wpAny_pure (hq _ _ tk5 (x4.trans z.2) z.1)
  · cases hl'
theorem so_ne {src : Src} {a b : Addr} (so : SrcOk τ h src (.ref a)) (q1 : ∀ o, τ b ≠ .held o) : b ≠ a := fun e => by
  subst e
  cases src with
  | rng y step left => obtain ⟨_, e, ha⟩ := so; cases e; exact q1 _ ha
  | lst w j => obtain ⟨_, o, p, e, ha, _⟩ := so; cases e; exact q1 _ ha
theorem compLoop_ok {n0 : Nat} {eltE : Expr} {elt : E} {gens : List Comprehension} {scope : Scope} {pos : Pos} (ok : c.Ok) {A : Around} (helt : ∀ m, m < n0 → ∀ sa v sb, evE F m elt sa = some (v, sb) → TE W c m sa eltE v sb) :
    ∀ (n : Nat), n ≤ n0 → ∀ {d i : Nat} {t : Op} {g : Gs} {src : Src} {acc : Nat} {st st' : PS} {τ : Tau} {s : Shared} {a : Addr} {av : Value} {J : Tau → Heap → Prop} {Rr : Result → Shared → Prop},
      evK F n elt i t g src acc st = some st' → GsOk W c F n0 gens d i t g → AOk A n → R W τ c.ls st s → SrcOk τ s.heap src (.ref a) → VR τ s.heap (.ref acc) av → 0 < s.toks → (∀ τ1 h1 τ2 h2, J τ1 h1 → Ext τ1 h1 τ2 h2 → J τ2 h2) → (∀ τ1 h1 g h2, J τ1 h1 → (∀ b o, b ≠ a → h1.get? b = some o → h2.get? b = some o) → J (upd τ1 a g) h2) → J τ s.heap →
      (∀ τ' s', 0 < s'.toks → J τ' s'.heap → R W τ' c.ls st' s' → Rr (.ok .next) s') →
      codeAny (model pw W.w) A (.compLoop (.ListComp eltE gens scope pos) d (.ref a) av c.env) Rr s := by
  intro n
  induction n with
  | zero => exact fun _ _ _ _ _ _ _ _ _ _ _ _ _ _ _ he => nomatch (show (Option.none : Option PS) = some _ from he)
  | succ n ih =>
    intro hn0 d i t g src acc st st' τ s a av J Rr he hg hA R0 so hav ht J1 J2 x0 hR
    refine codeAny_of_tree ?_
    show wpAny _ A ((compTurn (.ListComp eltE gens scope pos) d (.ref a) av c.env).onRaise (fun x => do noteFrame x c.env; theTreesLotGoes x)) _ _ s
    refine wpAny_noted ?_
    obtain ⟨x, px, iter, ifs, h1, h2, h3, h4, h5⟩ := hg.head
    rw [compTurn_at _ _ _ _ _ _ _ _ h1]
    refine wpAny_bind (wpAny_standAt (wpAny_bind ?_))
    have hn := Nat.le_of_succ_le hn0
    have hA' := hA.le (Nat.le_succ n)
    -- what goes on after a turn
    have more : ∀ {st2 : PS} {src' : Src} {τ2 : Tau} {s2 : Shared}, evK F n elt i t g src' acc st2 = some st' → R W τ2 c.ls st2 s2 → SrcOk τ2 s2.heap src' (.ref a) → VR τ2 s2.heap (.ref acc) av → 0 < s2.toks → J τ2 s2.heap →
        wpAny (model pw W.w) A (again (.compLoop (.ListComp eltE gens scope pos) d (.ref a) av c.env)) (fun fin s' => match fin with
          | .done f => Rr (.ok f) s'
          | .again c' => c'.quiet = true ∧ codeAny (model pw W.w) A c' Rr s') (notedBy (model pw W.w) A c.env fun e s' => Rr (.error e) s') s2 :=
      fun he R2 so2 hav2 t2 j2 => wpAny_pure ⟨rfl, ih hn he hg hA' R2 so2 hav2 t2 J1 J2 j2 hR⟩
    refine bd_c (x := src.next st) he fun nx hnx he => ?_
    rcases nx with _ | ⟨v, src'⟩
    · cases he
      exact wpAny_with_toks (n := 1) ht (next_ok hA R0 so hnx (fun _ h' hk R' tk => wpAny_pure (hR _ _ tk (J2 _ _ _ _ x0 hk) R')) (fun v src' e => nomatch e))
    · clear hR
      refine bd_c (x := setVar st i v) he fun sta hsv he => ?_
      obtain ⟨hlen, rfl⟩ := setVar_some hsv
      refine wpAny_with_toks (n := 1) ht (next_ok hA R0 so hnx (fun e => nomatch e) (fun v0 src0 e o h' t0 v' hk R' so' hv tk => ?_))
      cases e
      have hav' : VR (upd τ a (.held o)) h' (.ref acc) av := by
        obtain ⟨b, e1, e2⟩ := hav
        exact ⟨b, e1, (upd_ne (so_ne so (fun o => by rw [e2]; exact fun z => nomatch z))).trans e2⟩
      have x' : J (upd τ a (.held o)) h' := J2 _ _ _ _ x0 hk
      clear hav so R0 ht hk x0 hsv hnx
      revert R' so' hav' x' hv
      generalize upd τ a (.held o) = τ
      intro R' hv so' hav' x'
      refine wpAny_bind (wpAny_assign_Name (wpAny_with_toks (n := 1) tk (storeTo ok R' h2 hlen h3 h4 hv fun s2 R2 x2 tk2 => ?_)))
      replace so' := so'.mono x2
      replace hav' := hav'.mono x2
      replace x' := J1 _ _ _ _ x' x2
      clear R' hv x2 tk
      refine wpAny_bind ?_
      refine bd2_c (x := evO F n t { st with vars := st.vars.set i (some v) }) he fun b stb hb he => ?_
      refine comp_test h5 hn ok hA' R2 tk2 hb fun τ3 s3 t3 x3 R3 => ?_
      replace so' := so'.mono x3
      replace hav' := hav'.mono x3
      replace x' := J1 _ _ _ _ x' x3
      clear R2 hb x3 tk2
      cases b with
      | false => exact more he R3 so' hav' t3 x'
      | true =>
        show wpAny _ _ (if true = true then _ else _) _ _ _
        rw [if_pos rfl]
        cases g with
        | nil =>
          obtain ⟨_, _, _, _, _, _, _, _, _, hlast⟩ := id hg
          rw [hlast]
          dsimp only
          refine bd2_c (x := evE F n elt stb) he fun y stc hy he => ?_
          refine bd_c (x := setOwn stc (.ref acc) fun l => if l.length < 1000 then some (l ++ [y]) else .none) he fun std hd he => ?_
          exact wpAny_bind (comp_elt (helt n hn0 _ _ _ hy) ok hA' R3 t3 hav' hd fun τ4 s4 t4 x4 R4 => more he R4 (so'.mono x4) (hav'.mono x4) t4 (J1 _ _ _ _ x' x4))
        | cons i' it' t' g' =>
          obtain ⟨_, _, _, _, _, _, _, _, _, ⟨y, py, iter', ifs', k1, k2, k3⟩, hg'⟩ := id hg
          rw [k1]
          dsimp only
          refine bd2_c (x := evI F n it' stb) he fun src2 stc hsrc he => ?_
          refine bd_c (x := evK F n elt i' t' g' src2 acc stc) he fun std hd he => ?_
          refine wpAny_bind (wpAny_mono (k2 n hn0 _ _ _ hsrc ok A _ _
            (fun itv s5 => wpAny (model pw W.w) A (runOwn (.compStart (.ListComp eltE gens scope pos) (d + 1) itv av c.env) c.env >>= fun _ => again (.compLoop (.ListComp eltE gens scope pos) d (.ref a) av c.env))
              (fun fin s' => match fin with
                | .done f => Rr (.ok f) s'
                | .again c' => c'.quiet = true ∧ codeAny (model pw W.w) A c' Rr s') (notedBy (model pw W.w) A c.env fun e s' => Rr (.error e) s') s5)
            (notedBy (model pw W.w) A c.env fun e s' => Rr (.error e) s') (notedBy (model pw W.w) A c.env fun e s' => Rr (.error e) s') hA' R3 t3 fun τ4 s4 a2 t4 x4 R4 hno2 so2 => ?_)
            (fun y0 s5 h5 => wpAny_bind (wpAny_standAt (wpAny_bind (wpAny_of_eq (k3 y0) (wpAny_bind (wpAny_holding h5)))))) fun _ _ e => e)
          have loop := fun Rr' => ih hn (Rr := Rr') hd hg' hA' R4 so2 (hav'.mono x4) t4 (J := Ext τ3 s3.heap) (fun _ _ _ _ p q => p.trans q) (fun _ _ _ _ p q => p.but hno2 (R3.fresh hno2) q) x4
          have loop' := loop (fun r s' => match r with
              | .ok f => wpAny (model pw W.w) A (again (.compLoop (.ListComp eltE gens scope pos) d (.ref a) av c.env)) (fun fin s' => match fin with
                | .done f => Rr (.ok f) s'
                | .again c' => c'.quiet = true ∧ codeAny (model pw W.w) A c' Rr s') (notedBy (model pw W.w) A c.env fun e s' => Rr (.error e) s') s'
              | .error e => cameBackBy (model pw W.w) A c.env (notedBy (model pw W.w) A c.env fun e s' => Rr (.error e) s') e s') fun τ5 s6 t6 x6 R6 => more he R6 (so'.mono x6) (hav'.mono x6) t6 (J1 _ _ _ _ x' x6)
          exact wpAny_bind (wpAny_runOwn (compStart_at k1 loop' (iter_self R4 so2 loop')))
end
end Mine.Internal
end
section
set_option genInjectivity false
open PySem PySem.W PyProof.Rows PySem.Calls
namespace Mine.Internal
section
variable {W : Wd} {c : Cx} {N : Nat} {st st1 st2 st3 st4 : PS} {τ τ' : Tau} {ls ls' : List Loc} {s : Shared} {h h' : Heap} {F : Addr → Option Fn}
theorem R.scratch (r : R W τ ls st s) {C : Addr} (hC : τ C = .none) (ho : ∀ xs n, s.heap.get? C ≠ some (LO xs n)) (hb : ∀ o, ¬ W.B C o) (hl : ∀ l ∈ ls, l.at ≠ C) (hs : ∀ b, b ≠ C → h'.get? b = s.heap.get? b) : R W τ ls st { s with heap := h' } := by
  have kx : ∀ a vs n, τ a = .none → s.heap.get? a = some (LO vs n) → τ a = .none ∧ h'.get? a = some (LO vs n) := fun a vs n e g => ⟨e, (hs a (fun q => by subst q; exact ho _ _ g)).trans g⟩
  have vk : ∀ {v rv}, VR τ s.heap v rv → VR τ h' v rv := fun {v rv} e => by
    cases v with
    | d z => exact DR.keepL kx e
    | ref n => exact e
  have vsk : ∀ {v rv}, VRs τ s.heap v rv → VRs τ h' v rv := fun {v rv} e => by
    induction e with
    | nil => exact .nil
    | cons a _ ih => exact .cons (vk a) ih
  have ne : ∀ b, τ b ≠ .none → b ≠ C := fun b e q => by subst q; exact e hC
  refine ⟨r.ok, r.dr, r.os, r.gens, r.hgens, fun b o e => ?_, fun n l e => ?_, r.uniq, r.bound, fun b o e => (hs b (ne b (by rw [e]; exact fun z => nomatch z))).trans (r.held b o e), fun b e => ?_, fun l hm => ?_, fun i v e => ?_, fun b e => ?_⟩
  · have z := r.base b o e
    exact ⟨(hs b (fun q => by subst q; exact hb o e)).trans z.1, z.2⟩
  · obtain ⟨b, vs, ep, h1, h2, h3⟩ := r.own n l e
    exact ⟨b, vs, ep, h1, (hs b (ne b (by rw [h1]; exact fun z => nomatch z))).trans h2, vsk h3⟩
  · obtain ⟨o, ho⟩ := r.alive b e
    exact ⟨o, (hs b (ne b e)).trans ho⟩
  · exact (r.locs l hm).keeps (fun _ => rfl) fun o e => (hs _ (hl l hm)).trans e
  · obtain ⟨loc, v', h1, h2, h3⟩ := r.vars i v e
    exact ⟨loc, v', h1, h2.keeps fun o e => (hs _ (hl loc (List.mem_of_getElem? h1))).trans e, vk h3⟩
  · obtain ⟨o, h1, h2⟩ := r.fixed b e
    exact ⟨o, (hs b (ne b (by rw [e]; exact fun z => nomatch z))).trans h1, h2⟩
noncomputable def NmOk (nm : List (Str × NameKind)) (c : Cx) : Prop := ∀ x k, nm.lookup x = some k → c.env.kindOf x = some k ∨ (k = .free ∧ c.env.kindOf x = some .cell)
noncomputable def CompOk (nm : List (Str × NameKind)) (ix : List (Str × Nat)) (scope : Scope) (vn fn : List Str) (caps : List Nat) : Prop :=
  scope.kind = .function ∧ (∀ y ∈ scope.names, y.2 ≠ .cell) ∧ (scope.names.map (·.1)).Nodup ∧ (∀ x ∈ vn, (x, NameKind.local) ∈ scope.names) ∧ (∀ y ∈ scope.names, y.2 = .free → y.1 ∈ fn) ∧ (∀ x ∈ fn, (x, NameKind.free) ∈ scope.names) ∧
  fn.map (fun x => ix.lookup x) = caps.map some ∧ (∀ x ∈ fn, nm.lookup x = some .cell ∨ nm.lookup x = some .free) ∧ (vn ++ fn).Nodup ∧ vn ≠ []
theorem closure_go {env : Env} (g : Str → Addr) (f : Str × NameKind → List (Str × Addr) → Sem (ForInStep (List (Str × Addr))))
    (hf : ∀ n k cs, f (n, k) cs = if (k == NameKind.free) = true then (do let a ← cellOf env n; pure (.yield ((n, a) :: cs))) else pure (.yield cs)) :
    ∀ (names : List (Str × NameKind)) (acc : List (Str × Addr)), (∀ y ∈ names, y.2 = .free → env.cells.lookup y.1 = some (g y.1)) →
      forIn names acc f = (pure (((names.filter (fun y => y.2 == NameKind.free)).map fun y => (y.1, g y.1)).reverse ++ acc) : Sem (List (Str × Addr)))
  | [], acc, _ => by simp
  | (n, k) :: r, acc, h => by
    rw [List.forIn_cons, hf]
    cases hk : k == NameKind.free with
    | true =>
      have hk' : k = .free := by simpa using hk
      have e : cellOf env n = pure (g n) := by unfold cellOf; rw [h (n, k) (.head _) hk']
      rw [if_pos rfl, e]
      show (forIn r ((n, g n) :: acc) f : Sem (List (Str × Addr))) = _
      rw [closure_go g f hf r _ fun y hy => h y (.tail _ hy)]
      simp [hk]
    | false =>
      rw [if_neg Bool.false_ne_true]
      show (forIn r acc f : Sem (List (Str × Addr))) = _
      rw [closure_go g f hf r _ fun y hy => h y (.tail _ hy)]
      simp [hk]
theorem closureFor_is {env : Env} (g : Str → Addr) {scope : Scope} (h : ∀ y ∈ scope.names, y.2 = .free → env.cells.lookup y.1 = some (g y.1)) :
    closureFor scope env = pure (((scope.names.filter (fun y => y.2 == NameKind.free)).map fun y => (y.1, g y.1)).reverse) := by
  simp only [closureFor]
  rw [closure_go g _ (fun n k cs => by cases k <;> rfl) _ _ h]
  simp
theorem relabel_lookup {env : Env} : ∀ {names : List (Str × NameKind)} {x : Str} {k : NameKind}, names.lookup x = some k →
    (names.map fun (n, k) => if (k == NameKind.free && env.scope.kind == .function && env.kindOf n == some .cell) then (n, NameKind.cell) else (n, k)).lookup x = some k ∨
      (k = .free ∧ (names.map fun (n, k) => if (k == NameKind.free && env.scope.kind == .function && env.kindOf n == some .cell) then (n, NameKind.cell) else (n, k)).lookup x = some .cell)
  | [], _, _, h => by simp at h
  | (n, k) :: r, x, k', h => by
    have ih := @relabel_lookup env r x k'
    rw [List.map_cons]
    cases hx : x == n with
    | true =>
      simp only [List.lookup_cons, hx] at h
      cases h
      by_cases hc : (k == NameKind.free && env.scope.kind == .function && env.kindOf n == some .cell) = true
      · refine .inr ⟨?_, ?_⟩
        · simp only [Bool.and_eq_true] at hc; simpa using hc.1.1
        · simp only [if_pos hc, List.lookup_cons, hx]
      · refine .inl ?_
        simp only [if_neg hc, List.lookup_cons, hx]
    | false =>
      simp only [List.lookup_cons, hx] at h
      by_cases hc : (k == NameKind.free && env.scope.kind == .function && env.kindOf n == some .cell) = true
      · simp only [if_pos hc, List.lookup_cons, hx]; exact ih h
      · simp only [if_neg hc, List.lookup_cons, hx]; exact ih h
noncomputable def kCx (c : Cx) (scope : Scope) (vn fn : List Str) (g : Str → Addr) (C : Addr) : Cx :=
  ⟨compEnvC scope (((scope.names.filter (fun y => y.2 == NameKind.free)).map fun y => (y.1, g y.1)).reverse) C c.env, vn.map (Loc.dict C) ++ fn.map (fun x => Loc.cell (g x) false), (vn ++ fn).zipIdx, vn.length⟩
noncomputable def cellAt (c : Cx) (x : Str) : Addr := (c.env.cells.lookup x).getD 0
theorem cellAt_ok {nm : List (Str × NameKind)} {scope : Scope} {vn fn : List Str} {caps : List Nat} (ok : c.Ok) (hn : NmOk nm c) (hc : CompOk nm c.ix scope vn fn caps) {x : Str} (hx : x ∈ fn) :
    c.env.cells.lookup x = some (cellAt c x) ∧ ∃ i b, c.ix.lookup x = some i ∧ c.ls[i]? = some (.cell (cellAt c x) b) := by
  obtain ⟨_, _, _, _, _, _, h7, h8, _⟩ := hc
  have : ∃ i, c.ix.lookup x = some i := by
    have hm : c.ix.lookup x ∈ fn.map (fun x => c.ix.lookup x) := List.mem_map.mpr ⟨x, hx, rfl⟩
    rw [h7] at hm
    obtain ⟨i, _, e⟩ := List.mem_map.mp hm
    exact ⟨i, e.symm⟩
  obtain ⟨i, hi⟩ := this
  have hk : c.env.kindOf x = some .cell ∨ c.env.kindOf x = some .free := by
    rcases h8 x hx with q | q
    · rcases hn x _ q with w | ⟨w, _⟩
      · exact .inl w
      · cases w
    · rcases hn x _ q with w | ⟨_, w⟩
      · exact .inr w
      · exact .inl w
  rcases ok.ix x i hi with ⟨q, _⟩ | ⟨_, a, b, ha, hl⟩
  · rw [q] at hk; rcases hk with w | w <;> cases w
  · have : cellAt c x = a := by unfold cellAt; rw [ha]; rfl
    rw [this]
    exact ⟨ha, i, b, hi, hl⟩
theorem kCx_cells {scope : Scope} (g : Str → Addr) (hn : (scope.names.map (·.1)).Nodup) {x : Str} (hx : (x, NameKind.free) ∈ scope.names) :
    (((scope.names.filter (fun y => y.2 == NameKind.free)).map fun y => (y.1, g y.1)).reverse).lookup x = some (g x) := by
  refine lookup_nodup ?_ ?_
  · rw [List.map_reverse, List.map_map]
    have : ((scope.names.filter (fun y => y.2 == NameKind.free)).map ((fun x => x.1) ∘ fun y => (y.1, g y.1))).Nodup := by
      have e : ((scope.names.filter (fun y => y.2 == NameKind.free)).map ((fun x => x.1) ∘ fun y => (y.1, g y.1))) = (scope.names.filter (fun y => y.2 == NameKind.free)).map (·.1) := rfl
      rw [e]
      exact List.Nodup.sublist (List.Sublist.map _ List.filter_sublist) hn
    exact List.pairwise_reverse.mpr (this.imp fun q => q.symm)
  · rw [List.mem_reverse]
    refine List.mem_map.mpr ⟨(x, .free), List.mem_filter.mpr ⟨hx, rfl⟩, rfl⟩
theorem kCx_ok {nm : List (Str × NameKind)} {scope : Scope} {vn fn : List Str} {caps : List Nat} (ok : c.Ok) (hn : NmOk nm c) (hc : CompOk nm c.ix scope vn fn caps) {C : Addr} (hC : ∀ l ∈ c.ls, l.at ≠ C) : (kCx c scope vn fn (cellAt c) C).Ok := by
  have hc0 := hc
  obtain ⟨h1, h2, h3, h4, h5, h6, h7, h8, h9, h10⟩ := hc
  have hvf := List.nodup_append.mp h9
  have inj : ∀ x y, x ∈ fn → y ∈ fn → cellAt c x = cellAt c y → x = y := fun x y hx hy e => by
    obtain ⟨_, i, b, e1, e2⟩ := cellAt_ok ok hn hc0 hx
    obtain ⟨_, j, b', f1, f2⟩ := cellAt_ok ok hn hc0 hy
    rw [← e] at f2
    have hb := ok.cells _ _ _ (List.mem_of_getElem? e2) (List.mem_of_getElem? f2)
    subst hb
    have l1 := (List.getElem?_eq_some_iff.mp e2).1
    have l2 := (List.getElem?_eq_some_iff.mp f2).1
    have hij : i = j := (List.getElem_inj (h₀ := l1) (h₁ := l2) ok.nodup).mp (by rw [(List.getElem?_eq_some_iff.mp e2).2, (List.getElem?_eq_some_iff.mp f2).2])
    subst hij
    exact ok.inj x y i e1 f1
  refine ⟨h1, ok.glob, ok.blt, ?_, ?_, ?_, ?_, ?_⟩
  · show (vn.map (Loc.dict C) ++ fn.map (fun x => Loc.cell (cellAt c x) false)).Nodup
    refine List.nodup_append.mpr ⟨List.Pairwise.map _ (fun x y hxy e => hxy (by cases e; rfl)) hvf.1, ?_, fun a ha b hb e => ?_⟩
    · have gen : ∀ l : List Str, l.Nodup → (∀ x ∈ l, x ∈ fn) → (l.map (fun x => Loc.cell (cellAt c x) false)).Nodup := by
        intro l
        induction l with
        | nil => intro _ _; exact .nil
        | cons x r ih =>
          intro hnd hm
          have hnd' := List.nodup_cons.mp hnd
          rw [List.map_cons]
          refine List.nodup_cons.mpr ⟨fun q => ?_, ih hnd'.2 fun y hy => hm y (.tail _ hy)⟩
          obtain ⟨y, hy, e⟩ := List.mem_map.mp q
          have e' : cellAt c y = cellAt c x := (Loc.cell.inj e).1
          have := inj y x (hm y (.tail _ hy)) (hm x (.head _)) e'
          subst this
          exact hnd'.1 hy
      exact gen fn hvf.2.1 fun _ hx => hx
    · obtain ⟨x, _, rfl⟩ := List.mem_map.mp ha
      obtain ⟨y, _, e'⟩ := List.mem_map.mp hb
      rw [← e'] at e
      cases e
  · intro a b b' e1 e2
    have : ∀ b, Loc.cell a b ∈ vn.map (Loc.dict C) ++ fn.map (fun x => Loc.cell (cellAt c x) false) → b = false := fun b e => by
      rcases List.mem_append.mp e with e | e
      · obtain ⟨x, _, e⟩ := List.mem_map.mp e; cases e
      · obtain ⟨x, _, e⟩ := List.mem_map.mp e; cases e; rfl
    rw [this b e1, this b' e2]
  · intro i l hi e
    have hi' : i < vn.length := hi
    have e' : (vn.map (Loc.dict C) ++ fn.map (fun x => Loc.cell (cellAt c x) false))[i]? = some l := e
    rw [List.getElem?_append_left (by simpa using hi'), List.getElem?_map] at e'
    cases q : vn[i]? with
    | none => rw [q] at e'; cases e'
    | some x => rw [q] at e'; cases e'; rfl
  · intro x y i e1 e2
    have h1 := zip_at e1
    have h2 := zip_at e2
    rw [h1] at h2; cases h2; rfl
  · intro x i e
    have hx := zip_at e
    by_cases hi : i < vn.length
    · rw [List.getElem?_append_left hi] at hx
      have hm := List.mem_of_getElem? hx
      refine .inl ⟨?_, ?_⟩
      · exact lookup_relabel_local (lookup_nodup h3 (h4 x hm))
      · show (vn.map (Loc.dict C) ++ fn.map (fun x => Loc.cell (cellAt c x) false))[i]? = _
        rw [List.getElem?_append_left (by simpa using hi), List.getElem?_map, hx]
        rfl
    · rw [List.getElem?_append_right (by first | lia | omega)] at hx
      have hm := List.mem_of_getElem? hx
      refine .inr ⟨?_, cellAt c x, false, kCx_cells _ h3 (h6 x hm), ?_⟩
      · rcases relabel_lookup (env := c.env) (lookup_nodup h3 (h6 x hm)) with q | ⟨_, q⟩
        · exact .inr q
        · exact .inl q
      · show (vn.map (Loc.dict C) ++ fn.map (fun x => Loc.cell (cellAt c x) false))[i]? = _
        rw [List.getElem?_append_right (by simp; (first | lia | omega)), List.getElem?_map]
        simp only [List.length_map, hx]
        rfl
theorem kCx_nm {scope : Scope} {vn fn : List Str} {g : Str → Addr} {C : Addr} : NmOk scope.names (kCx c scope vn fn g C) := fun x k e => relabel_lookup e
end
end Mine.Internal
end
section
set_option genInjectivity false
open PySem PySem.W PyProof.Rows PySem.Calls
namespace Mine.Internal
section
variable {W : Wd} {c : Cx} {N : Nat} {st st1 st2 st3 st4 : PS} {τ τ' : Tau} {ls ls' : List Loc} {s : Shared} {h h' : Heap} {F : Addr → Option Fn}
theorem SrcOk.keepL {src : Src} {it : Value} (x : ∀ a vs n, τ a = .none → h.get? a = some (LO vs n) → τ' a = .none ∧ h'.get? a = some (LO vs n)) (y : ∀ a n, τ a = .own n → τ' a = .own n) (z : ∀ a o, τ a = .held o → τ' a = .held o)
    (e : SrcOk τ h src it) : SrcOk τ' h' src it := by
  cases src with
  | rng u step left => obtain ⟨a, rfl, ha⟩ := e; exact ⟨a, rfl, z a _ ha⟩
  | lst v i =>
    obtain ⟨a, o, p, rfl, ha, h1, h2, h3⟩ := e
    refine ⟨a, o, p, rfl, z a _ ha, h1, h2, ?_⟩
    cases v with
    | d q => exact DR.keepL x h3
    | ref n => obtain ⟨b, e1, e2⟩ := h3; exact ⟨b, e1, y b n e2⟩
theorem comp_core {nm : List (Str × NameKind)} {scope : Scope} {vn fn : List Str} {caps : List Nat} {eltE iter : Expr} {elt : E} {x0 : Str} {px : Pos} {ifs : List Expr} {rest : List Comprehension} {pos : Pos} {i0 m0 : Nat} {t : Op} {g : Gs} {src : Src} {Rr : Value → Addr → Result → Shared → Prop}
    {A : Around} {E : Value → Shared → Prop} {e : Expr} (hE : e = .ListComp eltE (⟨.Name x0 px, iter, ifs, 0⟩ :: rest) scope pos)
    (ok : c.Ok) (hn : NmOk nm c) (hc : CompOk nm c.ix scope vn fn caps) (hI : TI W c N st iter src st1) (hm : m0 ≤ N)
    (helt : ∀ C, (∀ l ∈ c.ls, l.at ≠ C) → ∀ m, m < m0 → ∀ sa v sb, evE F m elt sa = some (v, sb) → TE W (kCx c scope vn fn (cellAt c) C) m sa eltE v sb)
    (hgs : ∀ C, (∀ l ∈ c.ls, l.at ≠ C) → GsOk W (kCx c scope vn fn (cellAt c) C) F m0 (⟨.Name x0 px, iter, ifs, 0⟩ :: rest) 0 i0 t g)
    (he : evK F m0 elt i0 t g src st1.own.length ⟨List.replicate vn.length .none ++ caps.map (fun j => (st1.vars[j]?).join), st1.own ++ [[]]⟩ = some st2)
    (hA : AOk A N) (R0 : R W τ c.ls st s) (ht : 0 < s.toks)
    (hK : ∀ τ' s' av C, 0 < s'.toks → Ext τ s.heap τ' s'.heap → R W τ' c.ls ⟨st1.vars, st2.own⟩ s' → VR τ' s'.heap (.ref st1.own.length) av → τ' C = .none → s.heap.get? C = none → (∃ m, s'.heap.Ns C m) → (∀ l ∈ c.ls, l.at ≠ C) → (∀ o, ¬ W.B C o) → Rr av C (.ok .next) s') :
    wpAny (model pw W.w) A (eval iter c.env) (fun x s₁ => wpAny (model pw W.w) A (pyIter x) (fun it s₂ => wpAny (model pw W.w) A (newList []) (fun acc s₃ =>
      wpAny (model pw W.w) A (newFunctionEnv scope c.env.globals (((scope.names.filter (fun y => y.2 == NameKind.free)).map fun y => (y.1, cellAt c y.1)).reverse) [] c.env.qual none .none (some c.env)) (fun cenv s₄ =>
        codeAny (model pw W.w) A (.compStart e 0 it acc { cenv with scope := relabel scope c.env }) (Rr acc cenv.locals) s₄) E s₃) E s₂) E s₁) E s := by
  subst hE
  have hc0 := hc
  obtain ⟨h1, h2, h3, h4, h5, h6, h7, h8, h9, h10⟩ := hc
  refine hI ok A τ s _ _ _ hA R0 ht fun τ1 s1 a t1 x1 R1 hno so => ?_
  -- the list
  refine wpAny_newObj_type ?_
  have z := R1.pushList (t := s1.toks) (l := []) (vs := []) .nil
  refine wpAny_newFunctionEnv h2 (by intro y hy; simp at hy) (fun h₁ hns hsb => ?_) h1
  dsimp only at hns hsb ⊢
  generalize hCC : (s1.heap.push (LO [] 0)).objs.size = C at hns hsb
  have hCfresh : (s1.heap.push (LO [] 0)).get? C = none := by rw [← hCC]; exact get_size _
  have hk : ∀ b o, (s1.heap.push (LO [] 0)).get? b = some o → h₁.get? b = some o := fun b o e =>
    hsb.extBut b o (fun q => by rw [q, hCfresh] at e; cases e) (Heap.get?_push_of_some _ e)
  have hCl : ∀ l ∈ c.ls, l.at ≠ C := fun l hl => by
    obtain ⟨o, ho⟩ := (z.1.locs l hl).alive
    intro q
    rw [q] at ho
    rw [hCfresh] at ho; cases ho
  have hne : ∀ b o, (s1.heap.push (LO [] 0)).get? b = some o → b ≠ C := fun b o e q => by rw [q, hCfresh] at e; cases e
  have hfx : ∀ b, (fun b => decide (b = C)) b = true → (s1.heap.push (LO [] 0)).get? b = none ∧ ∃ o, h₁.get? b = some o ∧ ∀ xs n, o.data ≠ .seq xs n := fun b hb => by
    have : b = C := by simpa using hb
    subst this
    obtain ⟨o, es, ep, g1, g2, _⟩ := id hns
    exact ⟨hCfresh, o, g1, fun xs n => by rw [g2]; exact fun z => nomatch z⟩
  have inone : ∀ b o, upd τ1 s1.heap.objs.size (.own st1.own.length) b = .none ∨ upd τ1 s1.heap.objs.size (.own st1.own.length) b = .fix → (s1.heap.push (LO [] 0)).get? b = some o →
      into (upd τ1 s1.heap.objs.size (.own st1.own.length)) (fun b => decide (b = C)) b = .none := fun b o q e => by
    have hb : decide (b = C) = false := by simpa using hne b o e
    rcases q with q | q <;> exact into_f hb q
  have iown : ∀ b n, upd τ1 s1.heap.objs.size (.own st1.own.length) b = .own n → into (upd τ1 s1.heap.objs.size (.own st1.own.length)) (fun b => decide (b = C)) b = .own n := fun b n q => by
    obtain ⟨o, ho⟩ := z.1.alive b (by rw [q]; exact fun z => nomatch z)
    have hb : decide (b = C) = false := by simpa using hne b o ho
    exact into_f hb q
  have iheld : ∀ b n, upd τ1 s1.heap.objs.size (.own st1.own.length) b = .held n → into (upd τ1 s1.heap.objs.size (.own st1.own.length)) (fun b => decide (b = C)) b = .held n := fun b n q => by
    obtain ⟨o, ho⟩ := z.1.alive b (by rw [q]; exact fun z => nomatch z)
    have hb : decide (b = C) = false := by simpa using hne b o ho
    exact into_f hb q
  have Re := z.1.enter (fx := fun b => decide (b = C)) (ls' := (kCx c scope vn fn (cellAt c) C).ls) (vars' := List.replicate vn.length .none ++ caps.map (fun j => (st1.vars[j]?).join)) (t := s1.toks + ([] : List (Str × Value)).length) hk hfx
    (fun l hl => by
      rcases List.mem_append.mp hl with hl | hl
      · obtain ⟨x, hx, rfl⟩ := List.mem_map.mp hl
        exact ⟨into_t (decide_eq_true rfl), _, hns⟩
      · obtain ⟨x, hx, rfl⟩ := List.mem_map.mp hl
        obtain ⟨_, i, b, _, e2⟩ := cellAt_ok ok hn hc0 hx
        have w := z.1.locs _ (List.mem_of_getElem? e2)
        obtain ⟨w1, v, o, w2, w3⟩ := w
        refine ⟨.inr ⟨rfl, inone _ o ?_ w2⟩, v, o, hk _ _ w2, w3⟩
        rcases w1 with w1 | w1
        · exact .inr w1
        · exact .inl w1.2)
    (fun i u hu => by
      by_cases hi : i < vn.length
      · rw [List.getElem?_append_left (by simpa using hi), List.getElem?_replicate] at hu
        split at hu <;> cases hu
      · rw [List.getElem?_append_right (by simp; (first | lia | omega)), List.getElem?_map] at hu
        simp only [List.length_replicate] at hu
        cases hj : caps[i - vn.length]? with
        | none => rw [hj] at hu; cases hu
        | some j =>
          rw [hj] at hu
          simp only [Option.map_some, Option.some.injEq] at hu
          have hvj : st1.vars[j]? = some (some u) := by
            cases q : st1.vars[j]? with
            | none => rw [q] at hu; cases hu
            | some y => rw [q] at hu; cases y with
              | none => cases hu
              | some y => cases hu; rfl
          have hmap : (fn.map (fun x => c.ix.lookup x))[i - vn.length]? = some (some j) := by rw [h7, List.getElem?_map, hj]; rfl
          rw [List.getElem?_map] at hmap
          cases hx : fn[i - vn.length]? with
          | none => rw [hx] at hmap; cases hmap
          | some x =>
            rw [hx] at hmap
            simp only [Option.map_some, Option.some.injEq] at hmap
            obtain ⟨_, j', b, e1, e2⟩ := cellAt_ok ok hn hc0 (List.mem_of_getElem? hx)
            rw [hmap] at e1
            cases e1
            obtain ⟨loc, rv, g1, g2, g3⟩ := z.1.vars j u hvj
            rw [e2] at g1
            cases g1
            refine ⟨.cell (cellAt c x) false, rv, ?_, ?_, g3⟩
            · show (vn.map (Loc.dict C) ++ fn.map (fun x => Loc.cell (cellAt c x) false))[i]? = _
              rw [List.getElem?_append_right (by simp; (first | lia | omega)), List.getElem?_map]
              simp only [List.length_map, hx]
              rfl
            · obtain ⟨o, w1, w2⟩ := g2
              exact ⟨o, hk _ _ w1, w2⟩)
  have soa := so.mono z.2
  have hheld : ∃ o, upd τ1 s1.heap.objs.size (.own st1.own.length) a = .held o := by
    cases src with
    | rng u step left => obtain ⟨_, e, ha⟩ := soa; cases e; exact ⟨_, ha⟩
    | lst v i => obtain ⟨_, o, p, e, ha, _⟩ := soa; cases e; exact ⟨o, ha⟩
  have so' : SrcOk (into (upd τ1 s1.heap.objs.size (.own st1.own.length)) (fun b => decide (b = C))) h₁ src (.ref a) :=
    soa.keepL (fun b vs n e q => ⟨inone b _ (.inl e) q, hk _ _ q⟩) iown iheld
  have hav : VR (into (upd τ1 s1.heap.objs.size (.own st1.own.length)) (fun b => decide (b = C))) h₁ (.ref st1.own.length) (.ref s1.heap.objs.size) := ⟨_, rfl, iown _ _ (upd_self ..)⟩
  have x : Ext τ s.heap (upd τ1 s1.heap.objs.size (.own st1.own.length)) (s1.heap.push (LO [] 0)) := x1.trans z.2
  have na : ∀ b, τ b ≠ .none → b ≠ a := fun b e q => by
    subst q
    obtain ⟨o, ho⟩ := R0.alive b e
    rw [hno] at ho; cases ho
  have okk := kCx_ok ok hn hc0 hCl
  have loop : codeAny (model pw W.w) A (.compLoop (.ListComp eltE (⟨.Name x0 px, iter, ifs, 0⟩ :: rest) scope pos) 0 (.ref a) (.ref s1.heap.objs.size) (kCx c scope vn fn (cellAt c) C).env) (Rr (.ref s1.heap.objs.size) C)
      { s1 with heap := h₁, toks := s1.toks + ([] : List (Str × Value)).length } := by
    refine compLoop_ok okk (helt C hCl) m0 (Nat.le_refl _) he (hgs C hCl) (hA.le hm) Re so' hav (Nat.lt_of_lt_of_le t1 (Nat.le_add_right _ _))
      (J := fun τ' h' => (∀ b, b ≠ a → into (upd τ1 s1.heap.objs.size (.own st1.own.length)) (fun b => decide (b = C)) b ≠ .none → τ' b = into (upd τ1 s1.heap.objs.size (.own st1.own.length)) (fun b => decide (b = C)) b) ∧
        ∀ b o, b ≠ a → into (upd τ1 s1.heap.objs.size (.own st1.own.length)) (fun b => decide (b = C)) b = .none → h₁.get? b = some o → τ' b = .none ∧ h'.get? b = some o) ?_ ?_ ⟨fun _ _ _ => rfl, fun _ _ _ e q => ⟨e, q⟩⟩ fun τ' s' t' j' R' => ?_
    · rintro τ1' h1' τ2' h2' ⟨p1, p2⟩ q
      exact ⟨fun b hb e => (q.claim b (by rw [p1 b hb e]; exact e)).trans (p1 b hb e), fun b o hb e g => have w := p2 b o hb e g; q.keep b o w.1 w.2⟩
    · rintro τ1' h1' gg h2' ⟨p1, p2⟩ q
      exact ⟨fun b hb e => (upd_ne hb).trans (p1 b hb e), fun b o hb e g => have w := p2 b o hb e g; ⟨(upd_ne hb).trans w.1, q b o hb w.2⟩⟩
    · obtain ⟨L1, ⟨L2, L2'⟩, L3⟩ := z.1.leaveBut R' hk (fun b hb => (hfx b hb).1) (fun b => b = a) (fun b hb => by subst hb; exact hheld) (fun b hb => j'.1 b hb) (fun b o hb => j'.2 b o hb)
      have hCa : C ≠ a := fun q => by
        obtain ⟨o, ho⟩ := hheld
        obtain ⟨o', ho'⟩ := z.1.alive a (by rw [ho]; exact fun z => nomatch z)
        exact hne a o' ho' q.symm
      have hDa : s1.heap.objs.size ≠ a := fun q => by
        obtain ⟨o, ho⟩ := hheld
        rw [← q, upd_self] at ho; cases ho
      refine hK _ _ _ C t' ⟨fun b e => ?_, fun b o e q => ?_⟩ L1 (L3 _ _ ?_) ?_ (grown_none R0 x hCfresh z.1.alive) ?_ hCl (fun o hb => ?_)
      · have hb := na b e
        have w := x.claim b e
        exact (L2 b hb (by rw [w]; exact e)).trans w
      · have hb : b ≠ a := fun w => by subst w; rw [hno] at q; cases q
        have w := x.keep b o e q
        exact L2' b o hb w.1 w.2
      · exact ⟨_, rfl, (j'.1 _ hDa (by rw [iown _ _ (upd_self ..)]; exact fun z => nomatch z)).trans (iown _ _ (upd_self ..))⟩
      · have w1 := z.1.fresh hCfresh
        have w2 : into (upd τ1 s1.heap.objs.size (.own st1.own.length)) (fun b => decide (b = C)) C = .fix := into_t (decide_eq_true rfl)
        have w3 := j'.1 C hCa (by rw [w2]; exact fun z => nomatch z)
        rw [w2] at w3
        exact outof_n (gh_ne w1 fun z => nomatch z) w3
      · cases vn with
        | nil => exact absurd rfl h10
        | cons y r => exact (R'.locs (.dict C y) (.head _)).2
      · have := (z.1.base C o hb).1
        rw [hCfresh] at this; cases this
  exact compStart_at rfl loop (iter_self Re so' loop)
end
end Mine.Internal
end
section
set_option genInjectivity false
open PySem PySem.W PyProof.Rows PySem.Calls
namespace Mine.Internal
section
variable {W : Wd} {c : Cx} {N : Nat} {st st1 st2 st3 st4 : PS} {τ τ' : Tau} {ls ls' : List Loc} {s : Shared} {h h' : Heap} {F : Addr → Option Fn}
theorem names_of {nm : List (Str × NameKind)} {ix : List (Str × Nat)} {scope : Scope} {vn fn : List Str} {caps : List Nat} (hc : CompOk nm ix scope vn fn caps) : ∀ x ∈ scope.names, x.2 = .local → scope.names.lookup x.1 = some .local := fun x hx hl => by
  obtain ⟨_, _, h3, _⟩ := hc
  refine lookup_nodup h3 ?_
  obtain ⟨a, b⟩ := x
  cases hl
  exact hx
theorem closure_of {nm : List (Str × NameKind)} {scope : Scope} {vn fn : List Str} {caps : List Nat} (ok : c.Ok) (hn : NmOk nm c) (hc : CompOk nm c.ix scope vn fn caps) :
    closureFor scope c.env = pure (((scope.names.filter (fun y => y.2 == NameKind.free)).map fun y => (y.1, cellAt c y.1)).reverse) := by
  have hc0 := hc
  obtain ⟨_, _, _, _, h5, _⟩ := hc
  exact closureFor_is (cellAt c) fun y hy hf => (cellAt_ok ok hn hc0 (h5 y hy hf)).1
theorem ns_noList {C : Addr} {m : Str → Option Value} (hn : h.Ns C m) : ∀ xs n, h.get? C ≠ some (LO xs n) := fun xs n e => by
  obtain ⟨o, es, ep, h1, h2, _⟩ := hn
  rw [e] at h1; cases h1; cases h2
theorem TE.comp {nm : List (Str × NameKind)} {scope : Scope} {vn fn : List Str} {caps : List Nat} {eltE iter : Expr} {elt : E} {x0 : Str} {px : Pos} {ifs : List Expr} {rest : List Comprehension} {pos : Pos} {i0 m0 : Nat} {t : Op} {g : Gs} {src : Src}
    (hn : NmOk nm c) (hc : CompOk nm c.ix scope vn fn caps) (hI : TI W c N st iter src st1) (hm : m0 ≤ N) (hs : ∀ x, foldedSetIterable iter c.env x = pure x)
    (helt : ∀ C, (∀ l ∈ c.ls, l.at ≠ C) → ∀ m, m < m0 → ∀ sa v sb, evE F m elt sa = some (v, sb) → TE W (kCx c scope vn fn (cellAt c) C) m sa eltE v sb)
    (hgs : ∀ C, (∀ l ∈ c.ls, l.at ≠ C) → GsOk W (kCx c scope vn fn (cellAt c) C) F m0 (⟨.Name x0 px, iter, ifs, 0⟩ :: rest) 0 i0 t g)
    (he : evK F m0 elt i0 t g src st1.own.length ⟨List.replicate vn.length .none ++ caps.map (fun j => (st1.vars[j]?).join), st1.own ++ [[]]⟩ = some st2) :
    TE W c N st (.ListComp eltE (⟨.Name x0 px, iter, ifs, 0⟩ :: rest) scope pos) (.ref st1.own.length) ⟨st1.vars, st2.own⟩ :=
  .mk fun ok A τ s Q E hA R0 ht hQ => by
    rw [eval_ListComp]
    refine wpAny_comprehension_free (use := Option.none) rfl hs (closure_of ok hn hc) hc.1 (names_of hc) ?_
    refine comp_core (F := F) (Rr := fun acc C => compPost (model pw W.w) A E Option.none Q acc C) rfl ok hn hc hI hm helt hgs he hA R0 ht fun τ' s' av C t' x R' hv hC hno hns hcl hB => ?_
    obtain ⟨m, hns⟩ := hns
    refine ⟨m, hns, fun h' hs' => ?_⟩
    have R2 := R'.scratch hC (ns_noList hns) hB hcl (h' := h') fun b hb => hs'.2 b hb
    refine hQ τ' _ av ⟨x.claim, fun b o e q => ?_⟩ R2 hv
    have w := x.keep b o e q
    exact ⟨w.1, (hs'.2 b (fun z => by subst z; rw [hno] at q; cases q)).trans w.2⟩
theorem TS1.assignComp {nm : List (Str × NameKind)} {scope : Scope} {vn fn : List Str} {caps : List Nat} {eltE iter : Expr} {elt : E} {x0 : Str} {px : Pos} {ifs : List Expr} {rest : List Comprehension} {pos : Pos} {i0 m0 : Nat} {t : Op} {g : Gs} {src : Src}
    {y : Str} {py spos : Pos} {iy : Nat} {v : V} (hsw : swapsWith (.ListComp eltE (⟨.Name x0 px, iter, ifs, 0⟩ :: rest) scope pos) (some (.Name y py)) spos.line c.env = pure true)
    (hi : c.ix.lookup y = some iy) (hcap : iy < c.cap) (hnf : c.env.kindOf y ≠ some .free) (hlen : iy < st3.vars.length)
    (hn : NmOk nm c) (hc : CompOk nm c.ix scope vn fn caps) (hI : TI W c N st iter src st1) (hm : m0 ≤ N) (hs : ∀ x, foldedSetIterable iter c.env x = pure x)
    (helt : ∀ C, (∀ l ∈ c.ls, l.at ≠ C) → ∀ m, m < m0 → ∀ sa v sb, evE F m elt sa = some (v, sb) → TE W (kCx c scope vn fn (cellAt c) C) m sa eltE v sb)
    (hgs : ∀ C, (∀ l ∈ c.ls, l.at ≠ C) → GsOk W (kCx c scope vn fn (cellAt c) C) F m0 (⟨.Name x0 px, iter, ifs, 0⟩ :: rest) 0 i0 t g)
    (he : evK F m0 elt i0 t g src st1.own.length ⟨List.replicate vn.length .none ++ caps.map (fun j => (st1.vars[j]?).join), st1.own ++ [[]]⟩ = some st2)
    (hpost : (v = .ref st1.own.length ∧ st3 = ⟨st1.vars, st2.own⟩) ∨ Mine.Internal.frz st.own.length (.ref st1.own.length) ⟨st1.vars, st2.own⟩ = some (v, st3)) :
    TS1 W c N st (.Assign [.Name y py] (.ListComp eltE (⟨.Name x0 px, iter, ifs, 0⟩ :: rest) scope pos) spos) .next { st3 with vars := st3.vars.set iy (some v) } :=
  .mk fun ok A τ s Q E hA R0 ht hQ => by
    rw [exec_Assign_Name_used _ _ _ _ hsw]
    refine wpAny_bind (wpAny_standAt (wpAny_bind ?_))
    show wpAny _ A (do let _ ← comprehension (.ListComp eltE (⟨.Name x0 px, iter, ifs, 0⟩ :: rest) scope pos) scope c.env _ (newList []) false (eval iter c.env) (some (PySem.assign (.Name y py) c.env))) _ _ s
    refine wpAny_bind (wpAny_mono (wpAny_comprehension_free (use := some (PySem.assign (.Name y py) c.env)) (Q := fun _ s' => Q .next s') rfl hs (closure_of ok hn hc) hc.1 (names_of hc) ?_) (fun _ s' hq => wpAny_pure (wpAny_pure hq)) fun _ _ e => e)
    refine comp_core (F := F) (Rr := fun acc C => compPost (model pw W.w) A E (some (PySem.assign (.Name y py) c.env)) (fun _ s' => Q .next s') acc C) rfl ok hn hc hI hm helt hgs he hA R0 ht fun τ' s' av C t' x R' hv hC hno hns hcl hB => ?_
    obtain ⟨m, hns⟩ := hns
    obtain ⟨τ2, R2, hv2, x2, hC2⟩ : ∃ τ2, R W τ2 c.ls st3 s' ∧ VR τ2 s'.heap v av ∧ Ext τ s.heap τ2 s'.heap ∧ τ2 C = .none := by
      rcases hpost with ⟨rfl, rfl⟩ | hp
      · exact ⟨τ', R', hv, x, hC⟩
      · have z := frz_ok R' hv hp
        exact ⟨_, z.1, z.2, x.cut R0.bound, cut_none hC⟩
    show wpAny _ A (PySem.assign (.Name y py) c.env av) _ _ s'
    refine wpAny_assign_Name (storeTo ok R2 hi hlen hcap hnf hv2 fun s3 R3 x3 => ?_)
    obtain ⟨o, ho⟩ : ∃ o, s'.heap.get? C = some o := by obtain ⟨o, _, _, h1, _⟩ := hns; exact ⟨o, h1⟩
    have hns3 : s3.heap.Ns C m := hns.at fun o e => (x3.keep C o hC2 e).2
    refine ⟨m, hns3, fun h' hs' => ?_⟩
    have R4 := R3.scratch hC2 (ns_noList hns3) hB hcl (h' := h') fun b hb => hs'.2 b hb
    refine hQ τ2 _ _ ⟨x2.claim, fun b o e q => ?_⟩ R4 rfl
    have w := x2.keep b o e q
    have w' := x3.keep b o w.1 w.2
    exact ⟨w'.1, (hs'.2 b (fun z => by subst z; rw [hno] at q; cases q)).trans w'.2⟩
end
end Mine.Internal
end
section
set_option genInjectivity false
open PySem PySem.W PyProof.Rows PySem.Calls
namespace Mine.Internal
abbrev Nm := List (Str × NameKind)
abbrev Ix := List (Str × Nat)
structure BltN (nm : Nm) (n : Str) (v : Value) : Prop where
  ns : ∀ q, nsIn (hd.heap_1 q) mainGlobals n = some none
  val : bootBuiltins n = some v
  name : n ≠ "__name__"
  kind : nm.lookup n = some .globalImplicit
  dbg : (n == ("__debug__" : Str)) = false
structure FnN (nm : Nm) (x : Str) (a : Addr) : Prop where
  ns : ∀ q, nsIn (hd.heap_1 q) mainGlobals x = some (some (.ref a))
  kind : nm.lookup x = some .globalImplicit
  dbg : (x == ("__debug__" : Str)) = false
structure VarN (ix : Ix) (x : Str) (i : Nat) : Prop where
  ix : ix.lookup x = some i
  dbg : (x == ("__debug__" : Str)) = false
  cd : (x == ("__classdict__" : Str)) = false
structure TgtN (nm : Nm) (ix : Ix) (cap : Nat) (x : Str) (i : Nat) : Prop where
  ix : ix.lookup x = some i
  cap : i < cap
  kind : nm.lookup x = some .local ∨ nm.lookup x = some .cell
noncomputable def SubPlain (r : Expr) : Prop := ∀ p i u, subscripted r false (.ref p) (.int i u) = operate [.ref p, .int i u] (getItem (.ref p) (.int i u))
noncomputable def TempOk (e : Expr) : Prop := ∀ o r, letTemporaryGo e o r = pure ()
noncomputable def Fold (iter : Expr) : Prop := ∀ env x, foldedSetIterable iter env x = pure x
noncomputable def NoSwap (e t : Expr) (l : Nat) : Prop := ∀ env, swapsWith e (some t) l env = pure false
inductive IsInsort (nm : Nm) (ix : Ix) : Nat → Nat → Nat → Stmt → Prop
inductive J
  | e (a : E) (x : Expr)
  | cp (m : Nat) (caps : List Nat) (elt : E) (i : Nat) (it : It) (t : Op) (g : Gs) (scope : Scope) (eltE : Expr) (x0 : Str) (px : Pos) (iter : Expr) (ifs : List Expr) (rest : List Comprehension)
  | es (a : Es) (l : List Expr)
  | op (t : Op) (l : List Expr)
  | it (a : It) (x : Expr)
  | g (gens : List Comprehension) (d i : Nat) (t : Op) (g : Gs)
  | s (a : S) (x : Stmt)
  | ss (a : Ss) (l : List Stmt)
inductive IsX : Nm → Ix → Nat → J → Prop
  | none {nm ix cap kd p} : IsX nm ix cap (.e .none (.Constant .none kd p))
  | bool {nm ix cap b kd p} : IsX nm ix cap (.e (.bool b) (.Constant (.bool b) kd p))
  | int {nm ix cap i kd p} : IsX nm ix cap (.e (.int i) (.Constant (.int i) kd p))
  | str {nm ix cap x kd p} : IsX nm ix cap (.e (.str x) (.Constant (.str x) kd p))
  | var {nm ix cap x i p} : VarN ix x i → IsX nm ix cap (.e (.var i) (.Name x p))
  | gfn {nm ix cap x a p} : FnN nm x a → IsX nm ix cap (.e (.gfn a) (.Name x p))
  | bin {nm ix cap op a b l r p} : IsX nm ix cap (.e a l) → IsX nm ix cap (.e b r) → IsX nm ix cap (.e (.bin op a b) (.BinOp l op r p))
  | neg {nm ix cap a l p} : IsX nm ix cap (.e a l) → IsX nm ix cap (.e (.neg a) (.UnaryOp .USub l p))
  | not {nm ix cap a l p} : IsX nm ix cap (.e a l) → IsX nm ix cap (.e (.not a) (.UnaryOp .Not l p))
  | cmp {nm ix cap op a b l r p} : behindInMarks op r = false → IsX nm ix cap (.e a l) → IsX nm ix cap (.e b r) → IsX nm ix cap (.e (.cmp op a b) (.Compare l [op] [r] p))
  | and {nm ix cap a b l r p} : IsX nm ix cap (.e a l) → IsX nm ix cap (.e b r) → IsX nm ix cap (.e (.and a b) (.BoolOp .And [l, r] p))
  | or {nm ix cap a b l r p} : IsX nm ix cap (.e a l) → IsX nm ix cap (.e b r) → IsX nm ix cap (.e (.or a b) (.BoolOp .Or [l, r] p))
  | sub {nm ix cap a b l r p} : SubPlain r → IsX nm ix cap (.e a l) → IsX nm ix cap (.e b r) → IsX nm ix cap (.e (.sub a b) (.Subscript l r p))
  | take {nm ix cap a l} {n kd : Nat} {p1 p2 p3} : TempOk l → IsX nm ix cap (.e a l) → IsX nm ix cap (.e (.take a n) (.Subscript l (.Slice Option.none (some (.Constant (.int n) kd p1)) Option.none p2) p3))
  | rev {nm ix cap a l} {kd : Nat} {p0 p1 p2 p3} : TempOk l → IsX nm ix cap (.e a l) → IsX nm ix cap (.e (.rev a) (.Subscript l (.Slice Option.none Option.none (some (.UnaryOp .USub (.Constant (.int 1) kd p0) p1)) p2) p3))
  | sfrom {nm ix cap a b l r p2 p3} : TempOk l → IsX nm ix cap (.e a l) → IsX nm ix cap (.e b r) → IsX nm ix cap (.e (.sfrom a b) (.Subscript l (.Slice (some r) Option.none Option.none p2) p3))
  | scut {nm ix cap a b d l r u p2 p3} : TempOk l → IsX nm ix cap (.e a l) → IsX nm ix cap (.e b r) → IsX nm ix cap (.e d u) → IsX nm ix cap (.e (.scut a b d) (.Subscript l (.Slice (some r) (some u) Option.none p2) p3))
  | list {nm ix cap es l p} : IsX nm ix cap (.es es l) → IsX nm ix cap (.e (.list es) (.List l p))
  | len {nm ix cap a l n px p} : BltN nm n (.builtin "len") → IsX nm ix cap (.e a l) → IsX nm ix cap (.e (.len a) (.Call (.Name n px) [l] [] p))
  | sum {nm ix cap a l n px p} : BltN nm n (.builtin "sum") → IsX nm ix cap (.e a l) → IsX nm ix cap (.e (.sum a) (.Call (.Name n px) [l] [] p))
  | min {nm ix cap a b l r n px p} : BltN nm n (.builtin "min") → IsX nm ix cap (.e a l) → IsX nm ix cap (.e b r) → IsX nm ix cap (.e (.min a b) (.Call (.Name n px) [l, r] [] p))
  | max {nm ix cap a b l r n px p} : BltN nm n (.builtin "max") → IsX nm ix cap (.e a l) → IsX nm ix cap (.e b r) → IsX nm ix cap (.e (.max a b) (.Call (.Name n px) [l, r] [] p))
  | copy {nm ix cap a l n px p} : BltN nm n (.type "list") → IsX nm ix cap (.e a l) → IsX nm ix cap (.e (.copy a) (.Call (.Name n px) [l] [] p))
  | pop {nm ix cap a b l r} {apos p : Pos} : Base l "pop" → (apos.endLine == p.line) = true → IsX nm ix cap (.e a l) → IsX nm ix cap (.e b r) → IsX nm ix cap (.e (.pop a b) (.Call (.Attribute l "pop" apos) [r] [] p))
  | replace {nm ix cap a l x y k1 k2 p1 p2} {apos p : Pos} : Base l "replace" → (apos.endLine == p.line) = true → IsX nm ix cap (.e a l) → IsX nm ix cap (.e (.replace a x y) (.Call (.Attribute l "replace" apos) [.Constant (.str x) k1 p1, .Constant (.str y) k2 p2] [] p))
  | join {nm ix cap a l x kd p1} {apos p : Pos} : Base (.Constant (.str x) kd p1) "join" → (apos.endLine == p.line) = true → IsX nm ix cap (.e a l) → IsX nm ix cap (.e (.join x a) (.Call (.Attribute (.Constant (.str x) kd p1) "join" apos) [l] [] p))
  | call {nm ix cap a es e l x px p} : FnN nm x a → IsX nm ix cap (.es es (e :: l)) → (hp : Plain (e :: l)) → IsX nm ix cap (.e (.call a es) (.Call (.Name x px) (e :: l) [] p))
  | callKey {nm ix cap a es e l x px p k ke kp} : FnN nm x a → IsX nm ix cap (.es es (e :: l)) → IsX nm ix cap (.e k ke) → (hp : Plain (e :: l)) → IsX nm ix cap (.e (.callKey a es k) (.Call (.Name x px) (e :: l) [⟨some "key", ke, kp⟩] p))
  | callVar {nm ix cap i a e x px p} : VarN ix x i → IsX nm ix cap (.e a e) → IsX nm ix cap (.e (.callVar i a) (.Call (.Name x px) [e] [] p))
  | frz {nm ix cap a l} : IsX nm ix cap (.e a l) → (hs : NoStar l) → IsX nm ix cap (.e (.frz a) l)
  | comp {nm ix cap caps elt i it t g scope eltE x0 px iter ifs rest pos m} {vn fn : List Str} : m = vn.length → CompOk nm ix scope vn fn caps → Fold iter → IsX nm ix cap (.it it iter) → IsX scope.names (vn ++ fn).zipIdx vn.length (.e elt eltE) → IsX scope.names (vn ++ fn).zipIdx vn.length (.g (⟨.Name x0 px, iter, ifs, 0⟩ :: rest) 0 i t g) → IsX nm ix cap (.e (.comp m caps elt i it t g) (.ListComp eltE (⟨.Name x0 px, iter, ifs, 0⟩ :: rest) scope pos))
  | cpMk {nm ix cap caps elt i it t g scope eltE x0 px iter ifs rest m} {vn fn : List Str} : m = vn.length → CompOk nm ix scope vn fn caps → Fold iter → IsX nm ix cap (.it it iter) → IsX scope.names (vn ++ fn).zipIdx vn.length (.e elt eltE) → IsX scope.names (vn ++ fn).zipIdx vn.length (.g (⟨.Name x0 px, iter, ifs, 0⟩ :: rest) 0 i t g) → IsX nm ix cap (.cp m caps elt i it t g scope eltE x0 px iter ifs rest)
  | esNil {nm ix cap} : IsX nm ix cap (.es .nil [])
  | esCons {nm ix cap a es e l} : IsX nm ix cap (.e a e) → IsX nm ix cap (.es es l) → IsX nm ix cap (.es (.cons a es) (e :: l))
  | opNo {nm ix cap} : IsX nm ix cap (.op .no [])
  | opYes {nm ix cap a e} : IsX nm ix cap (.e a e) → IsX nm ix cap (.op (.yes a) [e])
  | iList {nm ix cap a e} : IsX nm ix cap (.e a e) → IsX nm ix cap (.it (.list a) e)
  | iRange1 {nm ix cap a e n px p} : BltN nm n (.type "range") → IsX nm ix cap (.e a e) → IsX nm ix cap (.it (.range1 a) (.Call (.Name n px) [e] [] p))
  | iRange2 {nm ix cap a b e f n px p} : BltN nm n (.type "range") → IsX nm ix cap (.e a e) → IsX nm ix cap (.e b f) → IsX nm ix cap (.it (.range2 a b) (.Call (.Name n px) [e, f] [] p))
  | iRange3 {nm ix cap a b d e f g n px p} : BltN nm n (.type "range") → IsX nm ix cap (.e a e) → IsX nm ix cap (.e b f) → IsX nm ix cap (.e d g) → IsX nm ix cap (.it (.range3 a b d) (.Call (.Name n px) [e, f, g] [] p))
  | gNil {nm ix cap gens d i t x px iter ifs} : gens[d]? = some ⟨.Name x px, iter, ifs, 0⟩ → TgtN nm ix cap x i → IsX nm ix cap (.op t ifs) → gens[d + 1]? = Option.none → IsX nm ix cap (.g gens d i t .nil)
  | gCons {nm ix cap gens d i t x px iter ifs i' it' t' g' y py iter' ifs'} : gens[d]? = some ⟨.Name x px, iter, ifs, 0⟩ → TgtN nm ix cap x i → IsX nm ix cap (.op t ifs) → gens[d + 1]? = some ⟨.Name y py, iter', ifs', 0⟩ → Fold iter' → IsX nm ix cap (.it it' iter') → IsX nm ix cap (.g gens (d + 1) i' t' g') → IsX nm ix cap (.g gens d i t (.cons i' it' t' g'))
  | sAssign {nm ix cap i a x px p e} : NoSwap e (.Name x px) p.line → TgtN nm ix cap x i → IsX nm ix cap (.e a e) → IsX nm ix cap (.s (.assign i a) (.Assign [.Name x px] e p))
  | sAssignC {nm ix cap i caps elt j it t g scope eltE x0 px iter ifs rest y m} {py pos spos : Pos} : (py.line == pos.line) = true → ((Scope.names scope).any fun p => p.1 == y && (p.2 == .local || p.2 == .cell)) = false → nm.lookup y = some .local → TgtN nm ix cap y i → IsX nm ix cap (.cp m caps elt j it t g scope eltE x0 px iter ifs rest) → IsX nm ix cap (.s (.assign i (.comp m caps elt j it t g)) (.Assign [.Name y py] (.ListComp eltE (⟨.Name x0 px, iter, ifs, 0⟩ :: rest) scope pos) spos))
  | sAssignF {nm ix cap i caps elt j it t g scope eltE x0 px iter ifs rest y m} {py pos spos : Pos} : (py.line == pos.line) = true → ((Scope.names scope).any fun p => p.1 == y && (p.2 == .local || p.2 == .cell)) = false → nm.lookup y = some .local → TgtN nm ix cap y i → IsX nm ix cap (.cp m caps elt j it t g scope eltE x0 px iter ifs rest) → IsX nm ix cap (.s (.assign i (.frz (.comp m caps elt j it t g))) (.Assign [.Name y py] (.ListComp eltE (⟨.Name x0 px, iter, ifs, 0⟩ :: rest) scope pos) spos))
  | sSetItem {nm ix cap a b d o i e p1 p} : NoSwap e (.Subscript o i p1) p.line → IsX nm ix cap (.e a o) → IsX nm ix cap (.e b i) → IsX nm ix cap (.e d e) → IsX nm ix cap (.s (.setItem a b d) (.Assign [.Subscript o i p1] e p))
  | sAug {nm ix cap i a x px op e p} : TgtN nm ix cap x i → nm.lookup x = some .local → IsX nm ix cap (.e a e) → IsX nm ix cap (.s (.aug i op a) (.AugAssign (.Name x px) op e p))
  | sFor {nm ix cap i it B x px iter body p} : TgtN nm ix cap x i → Fold iter → IsX nm ix cap (.it it iter) → IsX nm ix cap (.ss B body) → IsX nm ix cap (.s (.for i it B) (.For (.Name x px) iter body [] p))
  | sForEsc {nm ix cap i j a B x px y py p1 k p2 p3 p e body} : TgtN nm ix cap x i → TgtN nm ix cap y j → FnN nm "_iter_escaped_chars" 39 → IsX nm ix cap (.e a e) → IsX nm ix cap (.ss B body) → IsX nm ix cap (.s (.forEsc i j a B) (.For (.Tuple [.Name x px, .Name y py] k p1) (.Call (.Name "_iter_escaped_chars" p2) [e] [] p3) body [] p))
  | sForGrp {nm ix cap i a B x px p2 p3 p e body} : TgtN nm ix cap x i → FnN nm "_grouping_intervals" 67 → IsX nm ix cap (.e a e) → IsX nm ix cap (.ss B body) → IsX nm ix cap (.s (.forGrp i a B) (.For (.Name x px) (.Call (.Name "_grouping_intervals" p2) [e] [] p3) body [] p))
  | sWhile {nm ix cap a B t body p} : IsX nm ix cap (.e a t) → IsX nm ix cap (.ss B body) → IsX nm ix cap (.s (.while a B) (.While t body [] p))
  | sIte {nm ix cap a B C t body orelse p} : IsX nm ix cap (.e a t) → IsX nm ix cap (.ss B body) → IsX nm ix cap (.ss C orelse) → IsX nm ix cap (.s (.ite a B C) (.If t body orelse p))
  | sRet {nm ix cap a e p} : IsX nm ix cap (.e a e) → IsX nm ix cap (.s (.ret a) (.Return (some e) p))
  | sBrk {nm ix cap p} : IsX nm ix cap (.s .brk (.Break p))
  | sAppend {nm ix cap a b o e} {apos p1 p : Pos} : Base o "append" → (apos.endLine == p1.line) = true → IsX nm ix cap (.e a o) → IsX nm ix cap (.e b e) → IsX nm ix cap (.s (.append a b) (.Expr (.Call (.Attribute o "append" apos) [e] [] p1) p))
  | sInsert {nm ix cap a b d o f e} {apos p1 p : Pos} : Base o "insert" → (apos.endLine == p1.line) = true → IsX nm ix cap (.e a o) → IsX nm ix cap (.e b f) → IsX nm ix cap (.e d e) → IsX nm ix cap (.s (.insert a b d) (.Expr (.Call (.Attribute o "insert" apos) [f, e] [] p1) p))
  | sInsort {nm ix cap f k z x} : IsInsort nm ix f k z x → IsX nm ix cap (.s (.insort f k z) x)
  | ssNil {nm ix cap} : IsX nm ix cap (.ss .nil [])
  | ssCons {nm ix cap a ss x xs} : IsX nm ix cap (.s a x) → IsX nm ix cap (.ss ss xs) → IsX nm ix cap (.ss (.cons a ss) (x :: xs))
  | ssStuck {nm ix cap xs} : IsX nm ix cap (.ss .stuck xs)
abbrev IsE (nm : Nm) (ix : Ix) (cap : Nat) (a : E) (x : Expr) : Prop := IsX nm ix cap (.e a x)
abbrev IsCp (nm : Nm) (ix : Ix) (cap : Nat) (m : Nat) (caps : List Nat) (elt : E) (i : Nat) (it : It) (t : Op) (g : Gs) (scope : Scope) (eltE : Expr) (x0 : Str) (px : Pos) (iter : Expr) (ifs : List Expr) (rest : List Comprehension) : Prop := IsX nm ix cap (.cp m caps elt i it t g scope eltE x0 px iter ifs rest)
abbrev IsEs (nm : Nm) (ix : Ix) (cap : Nat) (a : Es) (l : List Expr) : Prop := IsX nm ix cap (.es a l)
abbrev IsOp (nm : Nm) (ix : Ix) (cap : Nat) (t : Op) (l : List Expr) : Prop := IsX nm ix cap (.op t l)
abbrev IsI (nm : Nm) (ix : Ix) (cap : Nat) (a : It) (x : Expr) : Prop := IsX nm ix cap (.it a x)
abbrev IsG (nm : Nm) (ix : Ix) (cap : Nat) (gens : List Comprehension) (d i : Nat) (t : Op) (g : Gs) : Prop := IsX nm ix cap (.g gens d i t g)
abbrev IsS (nm : Nm) (ix : Ix) (cap : Nat) (a : S) (x : Stmt) : Prop := IsX nm ix cap (.s a x)
abbrev IsSs (nm : Nm) (ix : Ix) (cap : Nat) (a : Ss) (l : List Stmt) : Prop := IsX nm ix cap (.ss a l)
theorem IsCp.mk {nm ix cap caps elt i it t g scope eltE x0 px iter ifs rest m} {vn fn : List Str} : m = vn.length → CompOk nm ix scope vn fn caps → Fold iter → IsI nm ix cap it iter → IsE scope.names (vn ++ fn).zipIdx vn.length elt eltE → IsG scope.names (vn ++ fn).zipIdx vn.length (⟨.Name x0 px, iter, ifs, 0⟩ :: rest) 0 i t g → IsCp nm ix cap m caps elt i it t g scope eltE x0 px iter ifs rest := .cpMk
theorem IsEs.nil {nm ix cap} : IsEs nm ix cap .nil [] := .esNil
theorem IsEs.cons {nm ix cap a es e l} : IsE nm ix cap a e → IsEs nm ix cap es l → IsEs nm ix cap (.cons a es) (e :: l) := .esCons
theorem IsOp.no {nm ix cap} : IsOp nm ix cap .no [] := .opNo
theorem IsOp.yes {nm ix cap a e} : IsE nm ix cap a e → IsOp nm ix cap (.yes a) [e] := .opYes
theorem IsI.list {nm ix cap a e} : IsE nm ix cap a e → IsI nm ix cap (.list a) e := .iList
theorem IsI.range1 {nm ix cap a e n px p} : BltN nm n (.type "range") → IsE nm ix cap a e → IsI nm ix cap (.range1 a) (.Call (.Name n px) [e] [] p) := .iRange1
theorem IsI.range2 {nm ix cap a b e f n px p} : BltN nm n (.type "range") → IsE nm ix cap a e → IsE nm ix cap b f → IsI nm ix cap (.range2 a b) (.Call (.Name n px) [e, f] [] p) := .iRange2
theorem IsI.range3 {nm ix cap a b d e f g n px p} : BltN nm n (.type "range") → IsE nm ix cap a e → IsE nm ix cap b f → IsE nm ix cap d g → IsI nm ix cap (.range3 a b d) (.Call (.Name n px) [e, f, g] [] p) := .iRange3
theorem IsG.nil {nm ix cap gens d i t x px iter ifs} : gens[d]? = some ⟨.Name x px, iter, ifs, 0⟩ → TgtN nm ix cap x i → IsOp nm ix cap t ifs → gens[d + 1]? = Option.none → IsG nm ix cap gens d i t .nil := .gNil
theorem IsG.cons {nm ix cap gens d i t x px iter ifs i' it' t' g' y py iter' ifs'} : gens[d]? = some ⟨.Name x px, iter, ifs, 0⟩ → TgtN nm ix cap x i → IsOp nm ix cap t ifs → gens[d + 1]? = some ⟨.Name y py, iter', ifs', 0⟩ → Fold iter' → IsI nm ix cap it' iter' → IsG nm ix cap gens (d + 1) i' t' g' → IsG nm ix cap gens d i t (.cons i' it' t' g') := .gCons
theorem IsS.assign {nm ix cap i a x px p e} : NoSwap e (.Name x px) p.line → TgtN nm ix cap x i → IsE nm ix cap a e → IsS nm ix cap (.assign i a) (.Assign [.Name x px] e p) := .sAssign
theorem IsS.assignC {nm ix cap i caps elt j it t g scope eltE x0 px iter ifs rest y m} {py pos spos : Pos} : (py.line == pos.line) = true → ((Scope.names scope).any fun p => p.1 == y && (p.2 == .local || p.2 == .cell)) = false → nm.lookup y = some .local → TgtN nm ix cap y i → IsCp nm ix cap m caps elt j it t g scope eltE x0 px iter ifs rest → IsS nm ix cap (.assign i (.comp m caps elt j it t g)) (.Assign [.Name y py] (.ListComp eltE (⟨.Name x0 px, iter, ifs, 0⟩ :: rest) scope pos) spos) := .sAssignC
theorem IsS.assignF {nm ix cap i caps elt j it t g scope eltE x0 px iter ifs rest y m} {py pos spos : Pos} : (py.line == pos.line) = true → ((Scope.names scope).any fun p => p.1 == y && (p.2 == .local || p.2 == .cell)) = false → nm.lookup y = some .local → TgtN nm ix cap y i → IsCp nm ix cap m caps elt j it t g scope eltE x0 px iter ifs rest → IsS nm ix cap (.assign i (.frz (.comp m caps elt j it t g))) (.Assign [.Name y py] (.ListComp eltE (⟨.Name x0 px, iter, ifs, 0⟩ :: rest) scope pos) spos) := .sAssignF
theorem IsS.setItem {nm ix cap a b d o i e p1 p} : NoSwap e (.Subscript o i p1) p.line → IsE nm ix cap a o → IsE nm ix cap b i → IsE nm ix cap d e → IsS nm ix cap (.setItem a b d) (.Assign [.Subscript o i p1] e p) := .sSetItem
theorem IsS.aug {nm ix cap i a x px op e p} : TgtN nm ix cap x i → nm.lookup x = some .local → IsE nm ix cap a e → IsS nm ix cap (.aug i op a) (.AugAssign (.Name x px) op e p) := .sAug
theorem IsS.for {nm ix cap i it B x px iter body p} : TgtN nm ix cap x i → Fold iter → IsI nm ix cap it iter → IsSs nm ix cap B body → IsS nm ix cap (.for i it B) (.For (.Name x px) iter body [] p) := .sFor
theorem IsS.forEsc {nm ix cap i j a B x px y py p1 k p2 p3 p e body} : TgtN nm ix cap x i → TgtN nm ix cap y j → FnN nm "_iter_escaped_chars" 39 → IsE nm ix cap a e → IsSs nm ix cap B body → IsS nm ix cap (.forEsc i j a B) (.For (.Tuple [.Name x px, .Name y py] k p1) (.Call (.Name "_iter_escaped_chars" p2) [e] [] p3) body [] p) := .sForEsc
theorem IsS.forGrp {nm ix cap i a B x px p2 p3 p e body} : TgtN nm ix cap x i → FnN nm "_grouping_intervals" 67 → IsE nm ix cap a e → IsSs nm ix cap B body → IsS nm ix cap (.forGrp i a B) (.For (.Name x px) (.Call (.Name "_grouping_intervals" p2) [e] [] p3) body [] p) := .sForGrp
theorem IsS.while {nm ix cap a B t body p} : IsE nm ix cap a t → IsSs nm ix cap B body → IsS nm ix cap (.while a B) (.While t body [] p) := .sWhile
theorem IsS.ite {nm ix cap a B C t body orelse p} : IsE nm ix cap a t → IsSs nm ix cap B body → IsSs nm ix cap C orelse → IsS nm ix cap (.ite a B C) (.If t body orelse p) := .sIte
theorem IsS.ret {nm ix cap a e p} : IsE nm ix cap a e → IsS nm ix cap (.ret a) (.Return (some e) p) := .sRet
theorem IsS.brk {nm ix cap p} : IsS nm ix cap .brk (.Break p) := .sBrk
theorem IsS.append {nm ix cap a b o e} {apos p1 p : Pos} : Base o "append" → (apos.endLine == p1.line) = true → IsE nm ix cap a o → IsE nm ix cap b e → IsS nm ix cap (.append a b) (.Expr (.Call (.Attribute o "append" apos) [e] [] p1) p) := .sAppend
theorem IsS.insert {nm ix cap a b d o f e} {apos p1 p : Pos} : Base o "insert" → (apos.endLine == p1.line) = true → IsE nm ix cap a o → IsE nm ix cap b f → IsE nm ix cap d e → IsS nm ix cap (.insert a b d) (.Expr (.Call (.Attribute o "insert" apos) [f, e] [] p1) p) := .sInsert
theorem IsS.insort {nm ix cap f k z x} : IsInsort nm ix f k z x → IsS nm ix cap (.insort f k z) x := .sInsort
theorem IsSs.nil {nm ix cap} : IsSs nm ix cap .nil [] := .ssNil
theorem IsSs.cons {nm ix cap a ss x xs} : IsS nm ix cap a x → IsSs nm ix cap ss xs → IsSs nm ix cap (.cons a ss) (x :: xs) := .ssCons
theorem IsSs.stuck {nm ix cap xs} : IsSs nm ix cap .stuck xs := .ssStuck
noncomputable def JIsE (P : Nm → Ix → Nat → E → Expr → Prop) (nm : Nm) (ix : Ix) (cap : Nat) : J → Prop
  | .e a x => P nm ix cap a x
  | _ => True
theorem IsE.elim {P : Nm → Ix → Nat → E → Expr → Prop} {nm : Nm} {ix : Ix} {cap : Nat} {a : E} {x : Expr} (h : IsE nm ix cap a x) (none : ∀ {nm ix cap kd p}, P nm ix cap .none (.Constant .none kd p)) (bool : ∀ {nm ix cap b kd p}, P nm ix cap (.bool b) (.Constant (.bool b) kd p)) (int : ∀ {nm ix cap i kd p}, P nm ix cap (.int i) (.Constant (.int i) kd p)) (str : ∀ {nm ix cap x kd p}, P nm ix cap (.str x) (.Constant (.str x) kd p)) (var : ∀ {nm ix cap x i p}, VarN ix x i → P nm ix cap (.var i) (.Name x p)) (gfn : ∀ {nm ix cap x a p}, FnN nm x a → P nm ix cap (.gfn a) (.Name x p)) (bin : ∀ {nm ix cap op a b l r p}, IsE nm ix cap a l → IsE nm ix cap b r → P nm ix cap (.bin op a b) (.BinOp l op r p)) (neg : ∀ {nm ix cap a l p}, IsE nm ix cap a l → P nm ix cap (.neg a) (.UnaryOp .USub l p)) (not : ∀ {nm ix cap a l p}, IsE nm ix cap a l → P nm ix cap (.not a) (.UnaryOp .Not l p)) (cmp : ∀ {nm ix cap op a b l r p}, behindInMarks op r = false → IsE nm ix cap a l → IsE nm ix cap b r → P nm ix cap (.cmp op a b) (.Compare l [op] [r] p)) (and : ∀ {nm ix cap a b l r p}, IsE nm ix cap a l → IsE nm ix cap b r → P nm ix cap (.and a b) (.BoolOp .And [l, r] p)) (or : ∀ {nm ix cap a b l r p}, IsE nm ix cap a l → IsE nm ix cap b r → P nm ix cap (.or a b) (.BoolOp .Or [l, r] p)) (sub : ∀ {nm ix cap a b l r p}, SubPlain r → IsE nm ix cap a l → IsE nm ix cap b r → P nm ix cap (.sub a b) (.Subscript l r p)) (take : ∀ {nm ix cap a l} {n kd : Nat} {p1 p2 p3}, TempOk l → IsE nm ix cap a l → P nm ix cap (.take a n) (.Subscript l (.Slice Option.none (some (.Constant (.int n) kd p1)) Option.none p2) p3)) (rev : ∀ {nm ix cap a l} {kd : Nat} {p0 p1 p2 p3}, TempOk l → IsE nm ix cap a l → P nm ix cap (.rev a) (.Subscript l (.Slice Option.none Option.none (some (.UnaryOp .USub (.Constant (.int 1) kd p0) p1)) p2) p3)) (sfrom : ∀ {nm ix cap a b l r p2 p3}, TempOk l → IsE nm ix cap a l → IsE nm ix cap b r → P nm ix cap (.sfrom a b) (.Subscript l (.Slice (some r) Option.none Option.none p2) p3)) (scut : ∀ {nm ix cap a b d l r u p2 p3}, TempOk l → IsE nm ix cap a l → IsE nm ix cap b r → IsE nm ix cap d u → P nm ix cap (.scut a b d) (.Subscript l (.Slice (some r) (some u) Option.none p2) p3)) (list : ∀ {nm ix cap es l p}, IsEs nm ix cap es l → P nm ix cap (.list es) (.List l p)) (len : ∀ {nm ix cap a l n px p}, BltN nm n (.builtin "len") → IsE nm ix cap a l → P nm ix cap (.len a) (.Call (.Name n px) [l] [] p)) (sum : ∀ {nm ix cap a l n px p}, BltN nm n (.builtin "sum") → IsE nm ix cap a l → P nm ix cap (.sum a) (.Call (.Name n px) [l] [] p)) (min : ∀ {nm ix cap a b l r n px p}, BltN nm n (.builtin "min") → IsE nm ix cap a l → IsE nm ix cap b r → P nm ix cap (.min a b) (.Call (.Name n px) [l, r] [] p)) (max : ∀ {nm ix cap a b l r n px p}, BltN nm n (.builtin "max") → IsE nm ix cap a l → IsE nm ix cap b r → P nm ix cap (.max a b) (.Call (.Name n px) [l, r] [] p)) (copy : ∀ {nm ix cap a l n px p}, BltN nm n (.type "list") → IsE nm ix cap a l → P nm ix cap (.copy a) (.Call (.Name n px) [l] [] p)) (pop : ∀ {nm ix cap a b l r} {apos p : Pos}, Base l "pop" → (apos.endLine == p.line) = true → IsE nm ix cap a l → IsE nm ix cap b r → P nm ix cap (.pop a b) (.Call (.Attribute l "pop" apos) [r] [] p)) (replace : ∀ {nm ix cap a l x y k1 k2 p1 p2} {apos p : Pos}, Base l "replace" → (apos.endLine == p.line) = true → IsE nm ix cap a l → P nm ix cap (.replace a x y) (.Call (.Attribute l "replace" apos) [.Constant (.str x) k1 p1, .Constant (.str y) k2 p2] [] p)) (join : ∀ {nm ix cap a l x kd p1} {apos p : Pos}, Base (.Constant (.str x) kd p1) "join" → (apos.endLine == p.line) = true → IsE nm ix cap a l → P nm ix cap (.join x a) (.Call (.Attribute (.Constant (.str x) kd p1) "join" apos) [l] [] p)) (call : ∀ {nm ix cap a es e l x px p}, FnN nm x a → IsEs nm ix cap es (e :: l) → Plain (e :: l) → P nm ix cap (.call a es) (.Call (.Name x px) (e :: l) [] p)) (callKey : ∀ {nm ix cap a es e l x px p k ke kp}, FnN nm x a → IsEs nm ix cap es (e :: l) → IsE nm ix cap k ke → Plain (e :: l) → P nm ix cap (.callKey a es k) (.Call (.Name x px) (e :: l) [⟨some "key", ke, kp⟩] p)) (callVar : ∀ {nm ix cap i a e x px p}, VarN ix x i → IsE nm ix cap a e → P nm ix cap (.callVar i a) (.Call (.Name x px) [e] [] p)) (frz : ∀ {nm ix cap a l}, IsE nm ix cap a l → NoStar l → P nm ix cap (.frz a) l) (comp : ∀ {nm ix cap caps elt i it t g scope eltE x0 px iter ifs rest pos m} {vn fn : List Str}, m = vn.length → CompOk nm ix scope vn fn caps → Fold iter → IsI nm ix cap it iter → IsE scope.names (vn ++ fn).zipIdx vn.length elt eltE → IsG scope.names (vn ++ fn).zipIdx vn.length (⟨.Name x0 px, iter, ifs, 0⟩ :: rest) 0 i t g → P nm ix cap (.comp m caps elt i it t g) (.ListComp eltE (⟨.Name x0 px, iter, ifs, 0⟩ :: rest) scope pos)) : P nm ix cap a x :=
  @IsX.casesOn (fun nm ix cap j _ => JIsE P nm ix cap j) _ _ _ _ h @none @bool @int @str @var @gfn @bin @neg @not @cmp @and @or @sub @take @rev @sfrom @scut @list @len @sum @min @max @copy @pop @replace @join @call @callKey @callVar @frz @comp (by intros; exact trivial) (by intros; exact trivial) (by intros; exact trivial) (by intros; exact trivial) (by intros; exact trivial) (by intros; exact trivial) (by intros; exact trivial) (by intros; exact trivial) (by intros; exact trivial) (by intros; exact trivial) (by intros; exact trivial) (by intros; exact trivial) (by intros; exact trivial) (by intros; exact trivial) (by intros; exact trivial) (by intros; exact trivial) (by intros; exact trivial) (by intros; exact trivial) (by intros; exact trivial) (by intros; exact trivial) (by intros; exact trivial) (by intros; exact trivial) (by intros; exact trivial) (by intros; exact trivial) (by intros; exact trivial) (by intros; exact trivial) (by intros; exact trivial) (by intros; exact trivial) (by intros; exact trivial)
noncomputable def JIsCp (P : Nm → Ix → Nat → Nat → List Nat → E → Nat → It → Op → Gs → Scope → Expr → Str → Pos → Expr → List Expr → List Comprehension → Prop) (nm : Nm) (ix : Ix) (cap : Nat) : J → Prop
  | .cp m caps elt i it t g scope eltE x0 px iter ifs rest => P nm ix cap m caps elt i it t g scope eltE x0 px iter ifs rest
  | _ => True
theorem IsCp.elim {P : Nm → Ix → Nat → Nat → List Nat → E → Nat → It → Op → Gs → Scope → Expr → Str → Pos → Expr → List Expr → List Comprehension → Prop} {nm : Nm} {ix : Ix} {cap : Nat} {m : Nat} {caps : List Nat} {elt : E} {i : Nat} {it : It} {t : Op} {g : Gs} {scope : Scope} {eltE : Expr} {x0 : Str} {px : Pos} {iter : Expr} {ifs : List Expr} {rest : List Comprehension} (h : IsCp nm ix cap m caps elt i it t g scope eltE x0 px iter ifs rest) (mk : ∀ {nm ix cap caps elt i it t g scope eltE x0 px iter ifs rest m} {vn fn : List Str}, m = vn.length → CompOk nm ix scope vn fn caps → Fold iter → IsI nm ix cap it iter → IsE scope.names (vn ++ fn).zipIdx vn.length elt eltE → IsG scope.names (vn ++ fn).zipIdx vn.length (⟨.Name x0 px, iter, ifs, 0⟩ :: rest) 0 i t g → P nm ix cap m caps elt i it t g scope eltE x0 px iter ifs rest) : P nm ix cap m caps elt i it t g scope eltE x0 px iter ifs rest :=
  @IsX.casesOn (fun nm ix cap j _ => JIsCp P nm ix cap j) _ _ _ _ h (by intros; exact trivial) (by intros; exact trivial) (by intros; exact trivial) (by intros; exact trivial) (by intros; exact trivial) (by intros; exact trivial) (by intros; exact trivial) (by intros; exact trivial) (by intros; exact trivial) (by intros; exact trivial) (by intros; exact trivial) (by intros; exact trivial) (by intros; exact trivial) (by intros; exact trivial) (by intros; exact trivial) (by intros; exact trivial) (by intros; exact trivial) (by intros; exact trivial) (by intros; exact trivial) (by intros; exact trivial) (by intros; exact trivial) (by intros; exact trivial) (by intros; exact trivial) (by intros; exact trivial) (by intros; exact trivial) (by intros; exact trivial) (by intros; exact trivial) (by intros; exact trivial) (by intros; exact trivial) (by intros; exact trivial) (by intros; exact trivial) @mk (by intros; exact trivial) (by intros; exact trivial) (by intros; exact trivial) (by intros; exact trivial) (by intros; exact trivial) (by intros; exact trivial) (by intros; exact trivial) (by intros; exact trivial) (by intros; exact trivial) (by intros; exact trivial) (by intros; exact trivial) (by intros; exact trivial) (by intros; exact trivial) (by intros; exact trivial) (by intros; exact trivial) (by intros; exact trivial) (by intros; exact trivial) (by intros; exact trivial) (by intros; exact trivial) (by intros; exact trivial) (by intros; exact trivial) (by intros; exact trivial) (by intros; exact trivial) (by intros; exact trivial) (by intros; exact trivial) (by intros; exact trivial) (by intros; exact trivial) (by intros; exact trivial)
noncomputable def JIsEs (P : Nm → Ix → Nat → Es → List Expr → Prop) (nm : Nm) (ix : Ix) (cap : Nat) : J → Prop
  | .es a l => P nm ix cap a l
  | _ => True
theorem IsEs.elim {P : Nm → Ix → Nat → Es → List Expr → Prop} {nm : Nm} {ix : Ix} {cap : Nat} {a : Es} {l : List Expr} (h : IsEs nm ix cap a l) (nil : ∀ {nm ix cap}, P nm ix cap .nil []) (cons : ∀ {nm ix cap a es e l}, IsE nm ix cap a e → IsEs nm ix cap es l → P nm ix cap (.cons a es) (e :: l)) : P nm ix cap a l :=
  @IsX.casesOn (fun nm ix cap j _ => JIsEs P nm ix cap j) _ _ _ _ h (by intros; exact trivial) (by intros; exact trivial) (by intros; exact trivial) (by intros; exact trivial) (by intros; exact trivial) (by intros; exact trivial) (by intros; exact trivial) (by intros; exact trivial) (by intros; exact trivial) (by intros; exact trivial) (by intros; exact trivial) (by intros; exact trivial) (by intros; exact trivial) (by intros; exact trivial) (by intros; exact trivial) (by intros; exact trivial) (by intros; exact trivial) (by intros; exact trivial) (by intros; exact trivial) (by intros; exact trivial) (by intros; exact trivial) (by intros; exact trivial) (by intros; exact trivial) (by intros; exact trivial) (by intros; exact trivial) (by intros; exact trivial) (by intros; exact trivial) (by intros; exact trivial) (by intros; exact trivial) (by intros; exact trivial) (by intros; exact trivial) (by intros; exact trivial) @nil @cons (by intros; exact trivial) (by intros; exact trivial) (by intros; exact trivial) (by intros; exact trivial) (by intros; exact trivial) (by intros; exact trivial) (by intros; exact trivial) (by intros; exact trivial) (by intros; exact trivial) (by intros; exact trivial) (by intros; exact trivial) (by intros; exact trivial) (by intros; exact trivial) (by intros; exact trivial) (by intros; exact trivial) (by intros; exact trivial) (by intros; exact trivial) (by intros; exact trivial) (by intros; exact trivial) (by intros; exact trivial) (by intros; exact trivial) (by intros; exact trivial) (by intros; exact trivial) (by intros; exact trivial) (by intros; exact trivial) (by intros; exact trivial)
noncomputable def JIsOp (P : Nm → Ix → Nat → Op → List Expr → Prop) (nm : Nm) (ix : Ix) (cap : Nat) : J → Prop
  | .op t l => P nm ix cap t l
  | _ => True
theorem IsOp.elim {P : Nm → Ix → Nat → Op → List Expr → Prop} {nm : Nm} {ix : Ix} {cap : Nat} {t : Op} {l : List Expr} (h : IsOp nm ix cap t l) (no : ∀ {nm ix cap}, P nm ix cap .no []) (yes : ∀ {nm ix cap a e}, IsE nm ix cap a e → P nm ix cap (.yes a) [e]) : P nm ix cap t l :=
  @IsX.casesOn (fun nm ix cap j _ => JIsOp P nm ix cap j) _ _ _ _ h (by intros; exact trivial) (by intros; exact trivial) (by intros; exact trivial) (by intros; exact trivial) (by intros; exact trivial) (by intros; exact trivial) (by intros; exact trivial) (by intros; exact trivial) (by intros; exact trivial) (by intros; exact trivial) (by intros; exact trivial) (by intros; exact trivial) (by intros; exact trivial) (by intros; exact trivial) (by intros; exact trivial) (by intros; exact trivial) (by intros; exact trivial) (by intros; exact trivial) (by intros; exact trivial) (by intros; exact trivial) (by intros; exact trivial) (by intros; exact trivial) (by intros; exact trivial) (by intros; exact trivial) (by intros; exact trivial) (by intros; exact trivial) (by intros; exact trivial) (by intros; exact trivial) (by intros; exact trivial) (by intros; exact trivial) (by intros; exact trivial) (by intros; exact trivial) (by intros; exact trivial) (by intros; exact trivial) @no @yes (by intros; exact trivial) (by intros; exact trivial) (by intros; exact trivial) (by intros; exact trivial) (by intros; exact trivial) (by intros; exact trivial) (by intros; exact trivial) (by intros; exact trivial) (by intros; exact trivial) (by intros; exact trivial) (by intros; exact trivial) (by intros; exact trivial) (by intros; exact trivial) (by intros; exact trivial) (by intros; exact trivial) (by intros; exact trivial) (by intros; exact trivial) (by intros; exact trivial) (by intros; exact trivial) (by intros; exact trivial) (by intros; exact trivial) (by intros; exact trivial) (by intros; exact trivial) (by intros; exact trivial)
noncomputable def JIsI (P : Nm → Ix → Nat → It → Expr → Prop) (nm : Nm) (ix : Ix) (cap : Nat) : J → Prop
  | .it a x => P nm ix cap a x
  | _ => True
theorem IsI.elim {P : Nm → Ix → Nat → It → Expr → Prop} {nm : Nm} {ix : Ix} {cap : Nat} {a : It} {x : Expr} (h : IsI nm ix cap a x) (list : ∀ {nm ix cap a e}, IsE nm ix cap a e → P nm ix cap (.list a) e) (range1 : ∀ {nm ix cap a e n px p}, BltN nm n (.type "range") → IsE nm ix cap a e → P nm ix cap (.range1 a) (.Call (.Name n px) [e] [] p)) (range2 : ∀ {nm ix cap a b e f n px p}, BltN nm n (.type "range") → IsE nm ix cap a e → IsE nm ix cap b f → P nm ix cap (.range2 a b) (.Call (.Name n px) [e, f] [] p)) (range3 : ∀ {nm ix cap a b d e f g n px p}, BltN nm n (.type "range") → IsE nm ix cap a e → IsE nm ix cap b f → IsE nm ix cap d g → P nm ix cap (.range3 a b d) (.Call (.Name n px) [e, f, g] [] p)) : P nm ix cap a x :=
  @IsX.casesOn (fun nm ix cap j _ => JIsI P nm ix cap j) _ _ _ _ h (by intros; exact trivial) (by intros; exact trivial) (by intros; exact trivial) (by intros; exact trivial) (by intros; exact trivial) (by intros; exact trivial) (by intros; exact trivial) (by intros; exact trivial) (by intros; exact trivial) (by intros; exact trivial) (by intros; exact trivial) (by intros; exact trivial) (by intros; exact trivial) (by intros; exact trivial) (by intros; exact trivial) (by intros; exact trivial) (by intros; exact trivial) (by intros; exact trivial) (by intros; exact trivial) (by intros; exact trivial) (by intros; exact trivial) (by intros; exact trivial) (by intros; exact trivial) (by intros; exact trivial) (by intros; exact trivial) (by intros; exact trivial) (by intros; exact trivial) (by intros; exact trivial) (by intros; exact trivial) (by intros; exact trivial) (by intros; exact trivial) (by intros; exact trivial) (by intros; exact trivial) (by intros; exact trivial) (by intros; exact trivial) (by intros; exact trivial) @list @range1 @range2 @range3 (by intros; exact trivial) (by intros; exact trivial) (by intros; exact trivial) (by intros; exact trivial) (by intros; exact trivial) (by intros; exact trivial) (by intros; exact trivial) (by intros; exact trivial) (by intros; exact trivial) (by intros; exact trivial) (by intros; exact trivial) (by intros; exact trivial) (by intros; exact trivial) (by intros; exact trivial) (by intros; exact trivial) (by intros; exact trivial) (by intros; exact trivial) (by intros; exact trivial) (by intros; exact trivial) (by intros; exact trivial)
noncomputable def JIsG (P : Nm → Ix → Nat → List Comprehension → Nat → Nat → Op → Gs → Prop) (nm : Nm) (ix : Ix) (cap : Nat) : J → Prop
  | .g gens d i t g => P nm ix cap gens d i t g
  | _ => True
theorem IsG.elim {P : Nm → Ix → Nat → List Comprehension → Nat → Nat → Op → Gs → Prop} {nm : Nm} {ix : Ix} {cap : Nat} {gens : List Comprehension} {d i : Nat} {t : Op} {g : Gs} (h : IsG nm ix cap gens d i t g) (nil : ∀ {nm ix cap gens d i t x px iter ifs}, gens[d]? = some ⟨.Name x px, iter, ifs, 0⟩ → TgtN nm ix cap x i → IsOp nm ix cap t ifs → gens[d + 1]? = Option.none → P nm ix cap gens d i t .nil) (cons : ∀ {nm ix cap gens d i t x px iter ifs i' it' t' g' y py iter' ifs'}, gens[d]? = some ⟨.Name x px, iter, ifs, 0⟩ → TgtN nm ix cap x i → IsOp nm ix cap t ifs → gens[d + 1]? = some ⟨.Name y py, iter', ifs', 0⟩ → Fold iter' → IsI nm ix cap it' iter' → IsG nm ix cap gens (d + 1) i' t' g' → P nm ix cap gens d i t (.cons i' it' t' g')) : P nm ix cap gens d i t g :=
  @IsX.casesOn (fun nm ix cap j _ => JIsG P nm ix cap j) _ _ _ _ h (by intros; exact trivial) (by intros; exact trivial) (by intros; exact trivial) (by intros; exact trivial) (by intros; exact trivial) (by intros; exact trivial) (by intros; exact trivial) (by intros; exact trivial) (by intros; exact trivial) (by intros; exact trivial) (by intros; exact trivial) (by intros; exact trivial) (by intros; exact trivial) (by intros; exact trivial) (by intros; exact trivial) (by intros; exact trivial) (by intros; exact trivial) (by intros; exact trivial) (by intros; exact trivial) (by intros; exact trivial) (by intros; exact trivial) (by intros; exact trivial) (by intros; exact trivial) (by intros; exact trivial) (by intros; exact trivial) (by intros; exact trivial) (by intros; exact trivial) (by intros; exact trivial) (by intros; exact trivial) (by intros; exact trivial) (by intros; exact trivial) (by intros; exact trivial) (by intros; exact trivial) (by intros; exact trivial) (by intros; exact trivial) (by intros; exact trivial) (by intros; exact trivial) (by intros; exact trivial) (by intros; exact trivial) (by intros; exact trivial) @nil @cons (by intros; exact trivial) (by intros; exact trivial) (by intros; exact trivial) (by intros; exact trivial) (by intros; exact trivial) (by intros; exact trivial) (by intros; exact trivial) (by intros; exact trivial) (by intros; exact trivial) (by intros; exact trivial) (by intros; exact trivial) (by intros; exact trivial) (by intros; exact trivial) (by intros; exact trivial) (by intros; exact trivial) (by intros; exact trivial) (by intros; exact trivial) (by intros; exact trivial)
noncomputable def JIsS (P : Nm → Ix → Nat → S → Stmt → Prop) (nm : Nm) (ix : Ix) (cap : Nat) : J → Prop
  | .s a x => P nm ix cap a x
  | _ => True
theorem IsS.elim {P : Nm → Ix → Nat → S → Stmt → Prop} {nm : Nm} {ix : Ix} {cap : Nat} {a : S} {x : Stmt} (h : IsS nm ix cap a x) (assign : ∀ {nm ix cap i a x px p e}, NoSwap e (.Name x px) p.line → TgtN nm ix cap x i → IsE nm ix cap a e → P nm ix cap (.assign i a) (.Assign [.Name x px] e p)) (assignC : ∀ {nm ix cap i caps elt j it t g scope eltE x0 px iter ifs rest y m} {py pos spos : Pos}, (py.line == pos.line) = true → ((Scope.names scope).any fun p => p.1 == y && (p.2 == .local || p.2 == .cell)) = false → nm.lookup y = some .local → TgtN nm ix cap y i → IsCp nm ix cap m caps elt j it t g scope eltE x0 px iter ifs rest → P nm ix cap (.assign i (.comp m caps elt j it t g)) (.Assign [.Name y py] (.ListComp eltE (⟨.Name x0 px, iter, ifs, 0⟩ :: rest) scope pos) spos)) (assignF : ∀ {nm ix cap i caps elt j it t g scope eltE x0 px iter ifs rest y m} {py pos spos : Pos}, (py.line == pos.line) = true → ((Scope.names scope).any fun p => p.1 == y && (p.2 == .local || p.2 == .cell)) = false → nm.lookup y = some .local → TgtN nm ix cap y i → IsCp nm ix cap m caps elt j it t g scope eltE x0 px iter ifs rest → P nm ix cap (.assign i (.frz (.comp m caps elt j it t g))) (.Assign [.Name y py] (.ListComp eltE (⟨.Name x0 px, iter, ifs, 0⟩ :: rest) scope pos) spos)) (setItem : ∀ {nm ix cap a b d o i e p1 p}, NoSwap e (.Subscript o i p1) p.line → IsE nm ix cap a o → IsE nm ix cap b i → IsE nm ix cap d e → P nm ix cap (.setItem a b d) (.Assign [.Subscript o i p1] e p)) (aug : ∀ {nm ix cap i a x px op e p}, TgtN nm ix cap x i → nm.lookup x = some .local → IsE nm ix cap a e → P nm ix cap (.aug i op a) (.AugAssign (.Name x px) op e p)) («for» : ∀ {nm ix cap i it B x px iter body p}, TgtN nm ix cap x i → Fold iter → IsI nm ix cap it iter → IsSs nm ix cap B body → P nm ix cap (.for i it B) (.For (.Name x px) iter body [] p)) (forEsc : ∀ {nm ix cap i j a B x px y py p1 k p2 p3 p e body}, TgtN nm ix cap x i → TgtN nm ix cap y j → FnN nm "_iter_escaped_chars" 39 → IsE nm ix cap a e → IsSs nm ix cap B body → P nm ix cap (.forEsc i j a B) (.For (.Tuple [.Name x px, .Name y py] k p1) (.Call (.Name "_iter_escaped_chars" p2) [e] [] p3) body [] p)) (forGrp : ∀ {nm ix cap i a B x px p2 p3 p e body}, TgtN nm ix cap x i → FnN nm "_grouping_intervals" 67 → IsE nm ix cap a e → IsSs nm ix cap B body → P nm ix cap (.forGrp i a B) (.For (.Name x px) (.Call (.Name "_grouping_intervals" p2) [e] [] p3) body [] p)) («while» : ∀ {nm ix cap a B t body p}, IsE nm ix cap a t → IsSs nm ix cap B body → P nm ix cap (.while a B) (.While t body [] p)) (ite : ∀ {nm ix cap a B C t body orelse p}, IsE nm ix cap a t → IsSs nm ix cap B body → IsSs nm ix cap C orelse → P nm ix cap (.ite a B C) (.If t body orelse p)) (ret : ∀ {nm ix cap a e p}, IsE nm ix cap a e → P nm ix cap (.ret a) (.Return (some e) p)) (brk : ∀ {nm ix cap p}, P nm ix cap .brk (.Break p)) (append : ∀ {nm ix cap a b o e} {apos p1 p : Pos}, Base o "append" → (apos.endLine == p1.line) = true → IsE nm ix cap a o → IsE nm ix cap b e → P nm ix cap (.append a b) (.Expr (.Call (.Attribute o "append" apos) [e] [] p1) p)) (insert : ∀ {nm ix cap a b d o f e} {apos p1 p : Pos}, Base o "insert" → (apos.endLine == p1.line) = true → IsE nm ix cap a o → IsE nm ix cap b f → IsE nm ix cap d e → P nm ix cap (.insert a b d) (.Expr (.Call (.Attribute o "insert" apos) [f, e] [] p1) p)) (insort : ∀ {nm ix cap f k z x}, IsInsort nm ix f k z x → P nm ix cap (.insort f k z) x) : P nm ix cap a x :=
  @IsX.casesOn (fun nm ix cap j _ => JIsS P nm ix cap j) _ _ _ _ h (by intros; exact trivial) (by intros; exact trivial) (by intros; exact trivial) (by intros; exact trivial) (by intros; exact trivial) (by intros; exact trivial) (by intros; exact trivial) (by intros; exact trivial) (by intros; exact trivial) (by intros; exact trivial) (by intros; exact trivial) (by intros; exact trivial) (by intros; exact trivial) (by intros; exact trivial) (by intros; exact trivial) (by intros; exact trivial) (by intros; exact trivial) (by intros; exact trivial) (by intros; exact trivial) (by intros; exact trivial) (by intros; exact trivial) (by intros; exact trivial) (by intros; exact trivial) (by intros; exact trivial) (by intros; exact trivial) (by intros; exact trivial) (by intros; exact trivial) (by intros; exact trivial) (by intros; exact trivial) (by intros; exact trivial) (by intros; exact trivial) (by intros; exact trivial) (by intros; exact trivial) (by intros; exact trivial) (by intros; exact trivial) (by intros; exact trivial) (by intros; exact trivial) (by intros; exact trivial) (by intros; exact trivial) (by intros; exact trivial) (by intros; exact trivial) (by intros; exact trivial) @assign @assignC @assignF @setItem @aug @«for» @forEsc @forGrp @«while» @ite @ret @brk @append @insert @insort (by intros; exact trivial) (by intros; exact trivial) (by intros; exact trivial)
noncomputable def JIsSs (P : Nm → Ix → Nat → Ss → List Stmt → Prop) (nm : Nm) (ix : Ix) (cap : Nat) : J → Prop
  | .ss a l => P nm ix cap a l
  | _ => True
theorem IsSs.elim {P : Nm → Ix → Nat → Ss → List Stmt → Prop} {nm : Nm} {ix : Ix} {cap : Nat} {a : Ss} {l : List Stmt} (h : IsSs nm ix cap a l) (nil : ∀ {nm ix cap}, P nm ix cap .nil []) (cons : ∀ {nm ix cap a ss x xs}, IsS nm ix cap a x → IsSs nm ix cap ss xs → P nm ix cap (.cons a ss) (x :: xs)) (stuck : ∀ {nm ix cap xs}, P nm ix cap .stuck xs) : P nm ix cap a l :=
  @IsX.casesOn (fun nm ix cap j _ => JIsSs P nm ix cap j) _ _ _ _ h (by intros; exact trivial) (by intros; exact trivial) (by intros; exact trivial) (by intros; exact trivial) (by intros; exact trivial) (by intros; exact trivial) (by intros; exact trivial) (by intros; exact trivial) (by intros; exact trivial) (by intros; exact trivial) (by intros; exact trivial) (by intros; exact trivial) (by intros; exact trivial) (by intros; exact trivial) (by intros; exact trivial) (by intros; exact trivial) (by intros; exact trivial) (by intros; exact trivial) (by intros; exact trivial) (by intros; exact trivial) (by intros; exact trivial) (by intros; exact trivial) (by intros; exact trivial) (by intros; exact trivial) (by intros; exact trivial) (by intros; exact trivial) (by intros; exact trivial) (by intros; exact trivial) (by intros; exact trivial) (by intros; exact trivial) (by intros; exact trivial) (by intros; exact trivial) (by intros; exact trivial) (by intros; exact trivial) (by intros; exact trivial) (by intros; exact trivial) (by intros; exact trivial) (by intros; exact trivial) (by intros; exact trivial) (by intros; exact trivial) (by intros; exact trivial) (by intros; exact trivial) (by intros; exact trivial) (by intros; exact trivial) (by intros; exact trivial) (by intros; exact trivial) (by intros; exact trivial) (by intros; exact trivial) (by intros; exact trivial) (by intros; exact trivial) (by intros; exact trivial) (by intros; exact trivial) (by intros; exact trivial) (by intros; exact trivial) (by intros; exact trivial) (by intros; exact trivial) (by intros; exact trivial) @nil @cons @stuck
end Mine.Internal
end
section
set_option genInjectivity false
open PySem PySem.W PyProof.Rows PySem.Calls
namespace Mine.Internal
theorem IsE.noStar {nm : Nm} {ix : Ix} {cap : Nat} {a : E} {e : Expr} (h : IsE nm ix cap a e) : NoStar e := by
  apply IsE.elim (P := fun _ _ _ _ e => NoStar e) h <;> intros <;> first | assumption | exact fun _ _ => rfl
structure CtxOk (nm : Nm) (ix : Ix) (cap : Nat) (c : Cx) : Prop where
  ok : c.Ok
  nm : NmOk nm c
  ix : c.ix = ix
  cap : c.cap = cap
theorem BltN.blt {nm : Nm} {c : Cx} {n : Str} {v : Value} (b : BltN nm n v) (h : NmOk nm c) : Blt c n v :=
  ⟨b.ns, b.val, b.name, (h n _ b.kind).elim id fun q => (nomatch q.1), b.dbg⟩
theorem FnN.kindOf {nm : Nm} {c : Cx} {x : Str} {a : Addr} (b : FnN nm x a) (h : NmOk nm c) : c.env.kindOf x = some .globalImplicit := (h x _ b.kind).elim id fun q => (nomatch q.1)
theorem TgtN.free {nm : Nm} {ix : Ix} {cap : Nat} {c : Cx} {x : Str} {i : Nat} (b : TgtN nm ix cap x i) (h : NmOk nm c) : c.env.kindOf x ≠ some .free := fun q => by
  rcases b.kind with k | k
  · rcases h x _ k with w | ⟨w, _⟩
    · rw [w] at q; cases q
    · cases w
  · rcases h x _ k with w | ⟨w, _⟩
    · rw [w] at q; cases q
    · cases w
section
variable (W : Wd) (F : Addr → Option Fn)
structure Snd (n : Nat) : Prop where
  e : ∀ {nm ix cap c}, CtxOk nm ix cap c → ∀ {a e st v st'}, IsE nm ix cap a e → evE F n a st = some (v, st') → TE W c n st e v st'
  es : ∀ {nm ix cap c}, CtxOk nm ix cap c → ∀ {a e st v st'}, IsEs nm ix cap a e → evEs F n a st = some (v, st') → TEs W c n st e v st'
  b : ∀ {nm ix cap c}, CtxOk nm ix cap c → ∀ {a e st v st'}, IsE nm ix cap a e → evB F n a st = some (v, st') → TB W c n st e v st'
  i : ∀ {nm ix cap c}, CtxOk nm ix cap c → ∀ {a e st v st'}, IsI nm ix cap a e → evI F n a st = some (v, st') → TI W c n st e v st'
  c : ∀ {a vs key st v st'}, evC F n a vs key st = some (v, st') → CallOk W n a vs key st v st'
  s : ∀ {nm ix cap c}, CtxOk nm ix cap c → ∀ {a e st v st'}, IsS nm ix cap a e → evS F n a st = some (v, st') → TS1 W c n st e v st'
  ss : ∀ {nm ix cap c}, CtxOk nm ix cap c → ∀ {a e st v st'}, IsSs nm ix cap a e → evSs F n a st = some (v, st') → TS W c n st e v st'
noncomputable def ObjOk : Prop := ∀ a f, F a = some f → ∃ o fd, W.B a o ∧ o.data = .func fd
end
section
variable {W : Wd} {F : Addr → Option Fn} {c : Cx} {n : Nat} {st st1 st2 st3 : PS}
theorem evC_fn {a : Addr} {vs : List V} {key : Option V} {v : V} (h : evC F n a vs key st = some (v, st1)) : ∃ f, F a = some f := by
  cases n with
  | zero => cases h
  | succ n => exact bd_c h fun f hf _ => ⟨f, hf⟩
theorem TE.call {x : Str} {a : Addr} {nm : Nm} {px p : Pos} {e : Expr} {l : List Expr} {vs : List V} {v : V} (hO : ∃ o fd, W.B a o ∧ o.data = .func fd) (hf : FnN nm x a) (hn : NmOk nm c) (hp : Plain (e :: l)) (h1 : TEs W c n st (e :: l) vs st1)
    (h2 : CallOk W n a vs .none st1 v st2) : TE W c n st (.Call (.Name x px) (e :: l) [] p) v st2 :=
  .mk fun ok A τ s Q E hA R0 ht hQ => by
    obtain ⟨o, fd, hB, hd⟩ := hO
    refine wpAny_Call_Name_kw (wpAny_globName ok R0 (hf.ns _) (hf.kindOf hn) ?_ hf.dbg)
    show wpAny _ A (callWith p (.ref a) [] (backTo p (starEach (e :: l) c.env)) []) Q E s
    refine callWith_function (o := o) (fd := fd) ?_
    have h0 := h1 ok A τ s (fun us s' => (s'.heap.get? a = some o ∧ o.data = .func fd) ∧ wpAny (model pw W.w) A (PySem.call (.ref a) us []) Q E s') E p hA R0 ht fun τ1 s1 us t1 x1 R1 v1 =>
      ⟨⟨(R1.base a o hB).1, hd⟩, h2 A τ1 c.ls s1 Q E us .none hA R1 t1 v1 rfl fun τ2 s2 v' t2 x2 R2 hv => hQ τ2 s2 v' (x1.trans x2) R2 hv⟩
    rw [hp.1] at h0 ⊢
    exact evalArgs_plain h0
theorem TE.callVar {x : Str} {a : Addr} {ix : Ix} {i : Nat} {px p : Pos} {e : Expr} {u v : V} (hO : ∃ o fd, W.B a o ∧ o.data = .func fd) (hx : VarN ix x i) (hix : c.ix = ix) (hv : st.vars[i]? = some (some (.d (.fn a)))) (hp : NoStar e) (h1 : TE W c n st e u st1)
    (h2 : CallOk W n a [u] .none st1 v st2) : TE W c n st (.Call (.Name x px) [e] [] p) v st2 :=
  .mk fun ok A τ s Q E hA R0 ht hQ => by
    obtain ⟨o, fd, hB, hd⟩ := hO
    subst hix
    refine wpAny_Call_Name_kw (TE.name (W := W) (k := n) hx.ix hv hx.dbg hx.cd ok A τ s _ _ hA R0 ht fun τ1 s1 r t1 x1 R1 v1 => ?_)
    have := isFn v1
    subst this
    show wpAny _ A (callWith p (.ref a) [] (backTo p (starEach [e] c.env)) []) Q E s1
    refine callWith_function (o := o) (fd := fd) ?_
    have he : backTo p (starEach [e] c.env) = [(false, eval e c.env)] := by rw [hp]; rfl
    rw [he]
    refine evalArgs_plain (spliced_cons (h1 ok A τ1 s1 _ E hA R1 t1 fun τ2 s2 a' t2 x2 R2 v2 => spliced_nil ?_))
    exact ⟨⟨(R2.base a o hB).1, hd⟩, h2 A τ2 c.ls s2 Q E [a'] .none hA R2 t2 (.cons v2 .nil) rfl fun τ3 s3 v' t3 x3 R3 hv => hQ τ3 s3 v' (x1.trans (x2.trans x3)) R3 hv⟩
theorem TE.callKey {x : Str} {a : Addr} {nm : Nm} {px p kp : Pos} {e ke : Expr} {l : List Expr} {vs : List V} {u v : V} (hO : ∃ o fd, W.B a o ∧ o.data = .func fd) (hf : FnN nm x a) (hn : NmOk nm c) (hp : Plain (e :: l)) (h1 : TEs W c n st (e :: l) vs st1)
    (hk : TE W c n st1 ke u st2) (h2 : CallOk W n a vs (some u) st2 v st3) : TE W c n st (.Call (.Name x px) (e :: l) [⟨some "key", ke, kp⟩] p) v st3 :=
  .mk fun ok A τ s Q E hA R0 ht hQ => by
    obtain ⟨o, fd, hB, hd⟩ := hO
    refine wpAny_Call_Name_kw (wpAny_globName ok R0 (hf.ns _) (hf.kindOf hn) ?_ hf.dbg)
    refine callWith_function_kw (o := o) (fd := fd) ?_
    have h0 := h1 ok A τ s (fun us s' => wpAny (model pw W.w) A (evalAll ((backToKw p (keywordEach [⟨some "key", ke, kp⟩] c.env)).map (·.2))) (fun ks s'' => (s''.heap.get? a = some o ∧ o.data = .func fd) ∧ wpAny (model pw W.w) A (PySem.call (.ref a) us (((backToKw p (keywordEach [⟨some "key", ke, kp⟩] c.env)).filterMap (·.1)).zip ks)) Q E s'') E s') E p hA R0 ht fun τ1 s1 us t1 x1 R1 v1 => by
        show wpAny _ A (evalAll [(eval ke c.env >>= fun v => standAt p >>= fun _ => pure v)]) _ E s1
        refine wpAny_evalAll_cons (wpAny_bind (hk ok A τ1 s1 _ E hA R1 t1 fun τ2 s2 r t2 x2 R2 v2 => wpAny_bind (wpAny_standAt (wpAny_pure (wpAny_evalAll_nil ?_)))))
        exact ⟨⟨(R2.base a o hB).1, hd⟩, h2 A τ2 c.ls s2 Q E us (some r) hA R2 t2 (v1.mono x2) ⟨r, rfl, v2⟩ fun τ3 s3 v' t3 x3 R3 hv => hQ τ3 s3 v' (x1.trans (x2.trans x3)) R3 hv⟩
    rw [hp.1] at h0 ⊢
    exact evalArgs_kw rfl h0
theorem TB.value {e : Expr} {b : Bool} (h : TE W c n st e (.d (.bool b)) st1) (he : ∀ env whole, isTrue e env whole = (do let v ← whole; standAt e.pos; holding [v] (truthy v))) : TB W c n st e b st1 :=
  .mk fun ok A τ s Q E hA R0 ht hQ => wpAny_isTrue_value (h ok A τ s _ E hA R0 ht fun τ1 s1 a' t1 x1 R1 v1 => by
    have := isBool v1; subst this
    exact wpAny_truthy_bool (hQ _ _ x1 R1)) (he _ _)
end
end Mine.Internal
end
section
set_option genInjectivity false
open PySem PySem.W PyProof.Rows PySem.Calls
namespace Mine.Internal
noncomputable def Wd.g (W : Wd) (hg : Nat → Option GenState) : Wd := ⟨W.w, W.h₀, W.ex, hg, W.dr, W.os⟩
section
variable (W : Wd) (F : Addr → Option Fn)
noncomputable def HEsc : Prop := ∀ (n : Nat) {c : Cx} {nm : Nm} {ix : Ix} {cap : Nat} {x y : Str} {px py p1 p2 p3 p : Pos} {k : Nat} {e : Expr} {body : List Stmt} {i j : Nat} {B : Ss} {st st1 st2 : PS} {u : Str} {f : Fl},
  CtxOk nm ix cap c → TgtN nm ix cap x i → TgtN nm ix cap y j → FnN nm "_iter_escaped_chars" 39 → NoStar e → TE W c n st e (.d (.str u)) st1 → u.length < 1000 →
  (∀ hg m, m < n → ∀ sa f sb, evSs F m B sa = some (f, sb) → TS (W.g hg) c m sa body f sb) → evX F n i j (escs 0 false u.cps.toList) B st1 = some (f, st2) →
  TS1 W c n st (.For (.Tuple [.Name x px, .Name y py] k p1) (.Call (.Name "_iter_escaped_chars" p2) [e] [] p3) body [] p) f st2
noncomputable def HGrp : Prop := ∀ (n : Nat) {c : Cx} {nm : Nm} {ix : Ix} {cap : Nat} {x : Str} {px p2 p3 p : Pos} {e : Expr} {body : List Stmt} {i : Nat} {B : Ss} {st st1 st2 : PS} {l : List D} {is : List Int} {f : Fl},
  CtxOk nm ix cap c → TgtN nm ix cap x i → FnN nm "_grouping_intervals" 67 → NoStar e → TE W c n st e (.d (.list l)) st1 → ints? (l.map V.d) = some is →
  (∀ hg m, m < n → ∀ sa f sb, evSs F m B sa = some (f, sb) → TS (W.g hg) c m sa body f sb) → evG F n i (.run is .none) B st1 = some (f, st2) →
  TS1 W c n st (.For (.Name x px) (.Call (.Name "_grouping_intervals" p2) [e] [] p3) body [] p) f st2
noncomputable def HIns : Prop := ∀ (n : Nat) {c : Cx} {nm : Nm} {ix : Ix} {cap : Nat} {f k z : Nat} {x : Stmt} {st st1 : PS}, CtxOk nm ix cap c → IsInsort nm ix f k z x → insortOf st f k z = some st1 → TS1 W c n st x .next st1
noncomputable def HCall : Prop := ∀ n, Snd W F n → ∀ {a vs key st v st'}, evC F (n + 1) a vs key st = some (v, st') → CallOk W (n + 1) a vs key st v st'
end
section
variable {W : Wd} {F : Addr → Option Fn} {c : Cx} {nm : Nm} {ix : Ix} {cap : Nat} {n : Nat}
theorem TE.out {st st' s : PS} {e : Expr} {x v : V} (h : some (x, s) = some (v, st')) (k : TE W c n st e x s) : TE W c n st e v st' := ret_c h (fun v s => TE W c n st e v s) k
theorem TEs.out {st st' s : PS} {e : List Expr} {x v : List V} (h : some (x, s) = some (v, st')) (k : TEs W c n st e x s) : TEs W c n st e v st' := ret_c h (fun v s => TEs W c n st e v s) k
theorem TB.out {st st' s : PS} {e : Expr} {x v : Bool} (h : some (x, s) = some (v, st')) (k : TB W c n st e x s) : TB W c n st e v st' := ret_c h (fun v s => TB W c n st e v s) k
theorem TI.out {st st' s : PS} {e : Expr} {x v : Src} (h : some (x, s) = some (v, st')) (k : TI W c n st e x s) : TI W c n st e v st' := ret_c h (fun v s => TI W c n st e v s) k
theorem TS1.out {st st' s : PS} {e : Stmt} {x v : Fl} (h : some (x, s) = some (v, st')) (k : TS1 W c n st e x s) : TS1 W c n st e v st' := ret_c h (fun v s => TS1 W c n st e v s) k
theorem TS.out {st st' s : PS} {e : List Stmt} {x v : Fl} (h : some (x, s) = some (v, st')) (k : TS W c n st e x s) : TS W c n st e v st' := ret_c h (fun v s => TS W c n st e v s) k
theorem ifB_c {β : Type} {P : Prop} {b : Bool} {x y : Option β} {r : β} (h : ifB b x y = some r) (k1 : b = true → x = some r → P) (k2 : b = false → y = some r → P) : P := by
  cases b with
  | true => exact k1 rfl h
  | false => exact k2 rfl h
theorem comp_parts (K : CtxOk nm ix cap c) {caps : List Nat} {scope : Scope} {vn fn : List Str}
    (hc : CompOk nm ix scope vn fn caps) {C : Addr} (hC : ∀ l ∈ c.ls, l.at ≠ C) :
    CtxOk scope.names (vn ++ fn).zipIdx vn.length (kCx c scope vn fn (cellAt c) C) := by
  have hc' : CompOk nm c.ix scope vn fn caps := by rw [K.ix]; exact hc
  exact ⟨kCx_ok K.ok K.nm hc' hC, kCx_nm, rfl, rfl⟩
theorem op_ok {n : Nat} (H : ∀ m, m < n → Snd W F m) {t : Op} {ifs : List Expr} (h : IsOp nm ix cap t ifs) : CtxOk nm ix cap c → OpOk W c F n t ifs := by
  apply IsOp.elim (P := fun nm ix cap t ifs => CtxOk nm ix cap c → OpOk W c F n t ifs) h
  case no => exact fun K => .inl ⟨rfl, rfl⟩
  case yes => exact fun he => fun K => .inr ⟨_, _, rfl, rfl, fun m hm sa b sb hb => (H m hm).b K he hb⟩
noncomputable def GsInv (nm : Nm) (ix : Ix) (cap : Nat) (gens : List Comprehension) (d i : Nat) (t : Op) : Gs → Prop
  | .nil => ∃ x px iter ifs, gens[d]? = some ⟨.Name x px, iter, ifs, 0⟩ ∧ TgtN nm ix cap x i ∧ IsOp nm ix cap t ifs ∧ gens[d + 1]? = Option.none
  | .cons i' it' t' g' => ∃ x px iter ifs, gens[d]? = some ⟨.Name x px, iter, ifs, 0⟩ ∧ TgtN nm ix cap x i ∧ IsOp nm ix cap t ifs ∧ (∃ y py iter' ifs', gens[d + 1]? = some ⟨.Name y py, iter', ifs', 0⟩ ∧ IsI nm ix cap it' iter' ∧ Fold iter') ∧ IsG nm ix cap gens (d + 1) i' t' g'
theorem gs_inv {gens : List Comprehension} {d i : Nat} {t : Op} {g : Gs} (h : IsG nm ix cap gens d i t g) : GsInv nm ix cap gens d i t g := by
  apply IsG.elim (P := fun nm ix cap gens d i t g => GsInv nm ix cap gens d i t g) h
  case nil => exact fun h1 h2 h3 h4 => ⟨_, _, _, _, h1, h2, h3, h4⟩
  case cons => exact fun h1 h2 h3 h4 h5 h6 h7 => ⟨_, _, _, _, h1, h2, h3, ⟨_, _, _, _, h4, h6, h5⟩, h7⟩
theorem IsCp.inv {m : Nat} {caps : List Nat} {elt : E} {i : Nat} {it : It} {t : Op} {g : Gs} {scope : Scope} {eltE : Expr} {x0 : Str} {px : Pos} {iter : Expr} {ifs : List Expr} {rest : List Comprehension} (h : IsCp nm ix cap m caps elt i it t g scope eltE x0 px iter ifs rest) :
    ∃ vn fn : List Str, m = vn.length ∧ CompOk nm ix scope vn fn caps ∧ Fold iter ∧ IsI nm ix cap it iter ∧ IsE scope.names (vn ++ fn).zipIdx vn.length elt eltE ∧ IsG scope.names (vn ++ fn).zipIdx vn.length (⟨.Name x0 px, iter, ifs, 0⟩ :: rest) 0 i t g := by
  apply IsCp.elim (P := fun nm ix cap m caps elt i it t g scope eltE x0 px iter ifs rest => ∃ vn fn : List Str, m = vn.length ∧ CompOk nm ix scope vn fn caps ∧ Fold iter ∧ IsI nm ix cap it iter ∧ IsE scope.names (vn ++ fn).zipIdx vn.length elt eltE ∧ IsG scope.names (vn ++ fn).zipIdx vn.length (⟨.Name x0 px, iter, ifs, 0⟩ :: rest) 0 i t g) h
  exact fun h1 h2 h3 h4 h5 h6 => ⟨_, _, h1, h2, h3, h4, h5, h6⟩
theorem gs_ok {n : Nat} (H : ∀ m, m < n → Snd W F m) (K : CtxOk nm ix cap c) {gens : List Comprehension} : ∀ (g : Gs) (d i : Nat) (t : Op), IsG nm ix cap gens d i t g → GsOk W c F n gens d i t g
  | .nil, d, i, t, h => by
    obtain ⟨x, px, iter, ifs, h1, h2, h3, h4⟩ := gs_inv h
    exact ⟨x, px, iter, ifs, h1, by rw [K.ix]; exact h2.ix, by rw [K.cap]; exact h2.cap, h2.free K.nm, op_ok H h3 K, h4⟩
  | .cons i' it' t' g', d, i, t, h => by
    obtain ⟨x, px, iter, ifs, h1, h2, h3, ⟨y, py, iter', ifs', h4, h6, h5⟩, h7⟩ := gs_inv h
    exact ⟨x, px, iter, ifs, h1, by rw [K.ix]; exact h2.ix, by rw [K.cap]; exact h2.cap, h2.free K.nm, op_ok H h3 K, ⟨y, py, iter', ifs', h4, fun m hm sa src sb hb => (H m hm).i K h6 hb, h5 _⟩, gs_ok H K g' _ _ _ h7⟩
theorem snd_e (hO : ObjOk W F) (H : ∀ m, m < n + 1 → Snd W F m) (K : CtxOk nm ix cap c) {a : E} {e : Expr} {st st' : PS} {v : V} (h : IsE nm ix cap a e) (he : evE F (n + 1) a st = some (v, st')) : TE W c (n + 1) st e v st' := by
  have S := H n (Nat.lt_succ_self _)
  refine TE.up ?_
  suffices hx : CtxOk nm ix cap c → _ → _ from hx K he
  apply IsE.elim (P := fun nm ix cap a e => CtxOk nm ix cap c → evE F (n + 1) a st = some (v, st') → TE W c n st e v st') h
  case none => exact fun K he => .out he .none
  case bool => exact fun K he => .out he .bool
  case int => exact fun K he => .out he .int
  case str => exact fun K he => .out he .str
  case var => exact fun hx K he => bd_c he fun v hv he => .out he (.name (by rw [K.ix]; exact hx.ix) (join_c hv) hx.dbg hx.cd)
  case gfn => exact fun hf K he => .out he (.glob hf.ns (hf.kindOf K.nm) hf.dbg)
  case bin => exact fun h1 h2 K he => bd2_c he fun x s1 e1 he => bd2_c he fun y s2 e2 he => .bin (S.e K h1 e1) (S.e K h2 e2) he
  case neg => exact fun h1 K he => bdI_c he fun x s1 e1 he => .out he (.neg (S.e K h1 e1))
  case not => exact fun h1 K he => nomatch (show (Option.none : Option (V × PS)) = some _ from he)
  case cmp => exact fun hm h1 h2 K he => bd2_c he fun x s1 e1 he => bd2_c he fun y s2 e2 he => bd_c he fun r e3 he => .out he (.cmp hm (S.e K h1 e1) (S.e K h2 e2) e3)
  case and => exact fun h1 h2 K he => bdB_c he fun p s1 e1 he => ifB_c he (fun q he => .and (q ▸ S.e K h1 e1) (S.e K h2 he)) (fun q he => .out he (.andF (q ▸ S.e K h1 e1)))
  case or => exact fun h1 h2 K he => nomatch (show (Option.none : Option (V × PS)) = some _ from he)
  case sub => exact fun hs h1 h2 K he => bd2_c he fun x s1 e1 he => bd2_c he fun y s2 e2 he => bd_c he fun r e3 he => .out he (.sub (S.e K h1 e1) (S.e K h2 e2) e3 hs)
  case take => exact fun ht h1 K he => bd2_c he fun x s1 e1 he => bd_c he fun l hl he => gd_c he fun hk he => .out he (.take (S.e K h1 e1) hl hk.1 hk.2 ht)
  case rev => exact fun ht h1 K he => bd2_c he fun x s1 e1 he => bd_c he fun l hl he => gd_c he fun hk he => .out he (.rev (S.e K h1 e1) hl hk ht)
  case sfrom => exact fun ht h1 h2 K he => bdS_c he fun x s1 e1 he => bdI_c he fun y s2 e2 he => gd_c he fun hk he => .out he (.sfrom (S.e K h1 e1) (S.e K h2 e2) hk ht)
  case scut => exact fun ht h1 h2 h3 K he => bdS_c he fun x s1 e1 he => bdI_c he fun y s2 e2 he => bdI_c he fun z s3 e3 he => gd_c he fun hk he => .out he (.scut (S.e K h1 e1) (S.e K h2 e2) (S.e K h3 e3) hk ht)
  case list => exact fun h1 K he => bd2_c he fun x s1 e1 he => gd_c he fun hk he => .out he (.list (S.es K h1 e1) hk)
  case len => exact fun hb h1 K he => bd2_c he fun x s1 e1 he => bd_c he fun k e2 he => .out he (lenOf_c e2
      (fun t ht hk hl => hl ▸ .lenS (hb.blt K.nm) ⟨h1.noStar, trivial⟩ (.cons (S.e K h1 (ht ▸ e1)) .nil (h1.noStar _ _)) hk)
      (fun l hi hk hl => hl ▸ .lenL (hb.blt K.nm) ⟨h1.noStar, trivial⟩ (.cons (S.e K h1 e1) .nil (h1.noStar _ _)) hi hk))
  case sum => exact fun hb h1 K he => bd2_c he fun x s1 e1 he => bd_c he fun l hl he => bd_c he fun is his he => gd_c he fun hk he => .out he (.sum (hb.blt K.nm) ⟨h1.noStar, trivial⟩ (.cons (S.e K h1 e1) .nil (h1.noStar _ _)) hl his)
  case min => exact fun hb h1 h2 K he => bdI_c he fun x s1 e1 he => bdI_c he fun y s2 e2 he => .out he (.min (hb.blt K.nm) ⟨h1.noStar, h2.noStar, trivial⟩ (.cons (S.e K h1 e1) (.cons (S.e K h2 e2) .nil (h2.noStar _ _)) (h1.noStar _ _)))
  case max => exact fun hb h1 h2 K he => bdI_c he fun x s1 e1 he => bdI_c he fun y s2 e2 he => .out he (.max (hb.blt K.nm) ⟨h1.noStar, h2.noStar, trivial⟩ (.cons (S.e K h1 e1) (.cons (S.e K h2 e2) .nil (h2.noStar _ _)) (h1.noStar _ _)))
  case copy => exact fun hb h1 K he => bd2_c he fun x s1 e1 he => bd_c he fun l hl he => gd_c he fun hk he => .out he (.copy (hb.blt K.nm) ⟨h1.noStar, trivial⟩ (.cons (S.e K h1 e1) .nil (h1.noStar _ _)) hl hk)
  case pop => exact fun hb hl h1 h2 K he => bd2_c he fun x s1 e1 he => bdI_c he fun y s2 e2 he => gd_c he fun hk he => bd_c he fun r e3 he => bd_c he fun s3 e4 he => .out he (.pop hb hl ⟨h2.noStar, trivial⟩ (S.e K h1 e1) (S.e K h2 e2) hk e3 e4)
  case replace => exact fun hb hl h1 K he => bdS_c he fun x s1 e1 he => gd_c he fun hk he => .out he (.replace hb hl (S.e K h1 e1) hk.2.2 hk.1 hk.2.1)
  case join => exact fun hb hl h1 K he => bd2_c he fun x s1 e1 he => bd_c he fun l hi he => bd_c he fun ts hts he => gd_c he fun hj he => .out he (.join hl hb ⟨h1.noStar, trivial⟩ (S.e K h1 e1) hi hts hj)
  case call => exact fun hf h1 hp K he => bd2_c he fun vs s1 e1 he => (evC_fn he).elim fun f hF => .call (hO _ _ hF) hf K.nm hp (S.es K h1 e1) (S.c he)
  case callKey => exact fun hf h1 h2 hp K he => bd2_c he fun vs s1 e1 he => bd2_c he fun w s2 e2 he => (evC_fn he).elim fun f hF => .callKey (hO _ _ hF) hf K.nm hp (S.es K h1 e1) (S.e K h2 e2) (S.c he)
  case callVar => exact fun hx h1 K he => bd_c he fun w hw he => bd_c he fun a ha he => bd2_c he fun u s1 e1 he => (evC_fn he).elim fun f hF => .callVar (hO _ _ hF) hx K.ix (asF_e ha ▸ join_c hw) h1.noStar (S.e K h1 e1) (S.c he)
  case frz => exact fun h1 hs K he => bd2_c he fun x s1 e1 he => .frz (S.e K h1 e1) he
  case comp =>
    refine fun hm hc hf hi h1 h2 K he => ?_
    subst hm
    exact bd2_c he fun src s1 e1 he => bd_c he fun st2 e2 he => .out he (.comp (F := F) (m0 := n) K.nm (by rw [K.ix]; exact hc) (S.i K hi e1) (Nat.le_refl _) (hf _)
          (fun C hC m hm sa v sb hb => (H m (Nat.lt_succ_of_lt hm)).e (comp_parts K hc hC) h1 hb)
          (fun C hC => gs_ok (fun m hm => H m (Nat.lt_succ_of_lt hm)) (comp_parts K hc hC) _ _ _ _ h2) e2)
theorem snd_es (H : ∀ m, m < n + 1 → Snd W F m) (K : CtxOk nm ix cap c) {a : Es} {e : List Expr} {st st' : PS} {v : List V} (h : IsEs nm ix cap a e) (he : evEs F (n + 1) a st = some (v, st')) : TEs W c (n + 1) st e v st' := by
  have S := H n (Nat.lt_succ_self _)
  refine TEs.up ?_
  suffices hx : CtxOk nm ix cap c → _ → _ from hx K he
  apply IsEs.elim (P := fun nm ix cap a e => CtxOk nm ix cap c → evEs F (n + 1) a st = some (v, st') → TEs W c n st e v st') h
  case nil => exact fun K he => .out he .nil
  case cons => exact fun h1 h2 K he => bd2_c he fun x s1 e1 he => bd2_c he fun xs s2 e2 he => .out he (.cons (S.e K h1 e1) (S.es K h2 e2) (h1.noStar _ _))
theorem snd_b (H : ∀ m, m < n + 1 → Snd W F m) (K : CtxOk nm ix cap c) {a : E} {e : Expr} {st st' : PS} {v : Bool} (h : IsE nm ix cap a e) (he : evB F (n + 1) a st = some (v, st')) : TB W c (n + 1) st e v st' := by
  have S := H n (Nat.lt_succ_self _)
  refine TB.up ?_
  suffices hx : CtxOk nm ix cap c → _ → _ from hx K he
  apply IsE.elim (P := fun nm ix cap a e => CtxOk nm ix cap c → evB F (n + 1) a st = some (v, st') → TB W c n st e v st') h
  case cmp => exact fun hm h1 h2 K he => bd2_c he fun x s1 e1 he => bd2_c he fun y s2 e2 he => bd_c he fun r e3 he => .out he (.cmp hm (S.e K h1 e1) (S.e K h2 e2) e3)
  case not => exact fun h1 K he => bd2_c he fun x s1 e1 he => .out he (.not (S.b K h1 e1))
  case and => exact fun h1 h2 K he => bd2_c he fun p s1 e1 he => ifB_c he (fun q he => .and (q ▸ S.b K h1 e1) (S.b K h2 he)) (fun q he => .out he (.andF (q ▸ S.b K h1 e1)))
  case or => exact fun h1 h2 K he => bd2_c he fun p s1 e1 he => ifB_c he (fun q he => .out he (.orT (q ▸ S.b K h1 e1))) (fun q he => .or (q ▸ S.b K h1 e1) (S.b K h2 he))
  case var => exact fun hx K he => bd_c he fun w hw he => bd_c he fun b hb he => .out he (.value (.name (by rw [K.ix]; exact hx.ix) (asB_e hb ▸ join_c hw) hx.dbg hx.cd) (fun _ _ => rfl))
  case call => exact fun hf h1 hp K he => bdB_c he fun b s1 e1 he => .out he (.value (S.e K (.call hf h1 hp) e1) (fun _ _ => rfl))
  all_goals (intros; rename_i he; exact nomatch (show (Option.none : Option (Bool × PS)) = some _ from he))
theorem snd_i (H : ∀ m, m < n + 1 → Snd W F m) (K : CtxOk nm ix cap c) {a : It} {e : Expr} {st st' : PS} {v : Src} (h : IsI nm ix cap a e) (he : evI F (n + 1) a st = some (v, st')) : TI W c (n + 1) st e v st' := by
  have S := H n (Nat.lt_succ_self _)
  refine TI.up ?_
  suffices hx : CtxOk nm ix cap c → _ → _ from hx K he
  apply IsI.elim (P := fun nm ix cap a e => CtxOk nm ix cap c → evI F (n + 1) a st = some (v, st') → TI W c n st e v st') h
  case list => exact fun h1 K he => bd2_c he fun x s1 e1 he => bd_c he fun l hl he => .out he (.list (S.e K h1 e1) hl)
  case range1 => exact fun hb h1 K he => bdI_c he fun x s1 e1 he => gd_c he fun hk he => .out he (.range1 (hb.blt K.nm) ⟨h1.noStar, trivial⟩ (.cons (S.e K h1 e1) .nil (h1.noStar _ _)) hk)
  case range2 => exact fun hb h1 h2 K he => bdI_c he fun x s1 e1 he => bdI_c he fun y s2 e2 he => gd_c he fun hk he => .out he (.range2 (hb.blt K.nm) ⟨h1.noStar, h2.noStar, trivial⟩ (.cons (S.e K h1 e1) (.cons (S.e K h2 e2) .nil (h2.noStar _ _)) (h1.noStar _ _)) hk)
  case range3 => exact fun hb h1 h2 h3 K he => bdI_c he fun x s1 e1 he => bdI_c he fun y s2 e2 he => bdI_c he fun z s3 e3 he => gd_c he fun hk he => .out he (.range3 (hb.blt K.nm) ⟨h1.noStar, h2.noStar, h3.noStar, trivial⟩ (.cons (S.e K h1 e1) (.cons (S.e K h2 e2) (.cons (S.e K h3 (hk.2.2 ▸ e3)) .nil (h3.noStar _ _)) (h2.noStar _ _)) (h1.noStar _ _)) ⟨hk.1, hk.2.1⟩)
theorem fun_quiet (K : CtxOk nm ix cap c) : interactive c.env = false := by
  unfold interactive
  rw [K.ok.kind]
  rfl
theorem swap_yes (K : CtxOk nm ix cap c) {eltE : Expr} {gens : List Comprehension} {scope : Scope} {pos py spos : Pos} {y : Str} (h1 : (py.line == pos.line) = true) (h2 : (scope.names.any fun p => p.1 == y && (p.2 == .local || p.2 == .cell)) = false) (h3 : nm.lookup y = some .local) :
    swapsWith (.ListComp eltE gens scope pos) (some (.Name y py)) spos.line c.env = pure true := by
  have hk : c.env.kindOf y = some .local := (K.nm y _ h3).elim id fun q => (nomatch q.1)
  have hb : c.env.blockKind = .function := by unfold Env.blockKind; rw [K.ok.kind]; rfl
  unfold swapsWith
  show (pure (c.env.blockKind == .function && c.env.kindOf y == some .local && py.line == pos.line && !(scope.names.any fun (n, k) => n == y && (k == .local || k == .cell))) : Sem Bool) = pure true
  rw [hb, hk, h1]
  have : (scope.names.any fun (n, k) => n == y && (k == .local || k == .cell)) = false := h2
  rw [this]
  rfl
theorem snd_s (hE : HEsc W F) (hG : HGrp W F) (hI : HIns W) (HG : ∀ hg m, m < n + 1 → Snd (W.g hg) F m) (H : ∀ m, m < n + 1 → Snd W F m) (K : CtxOk nm ix cap c) {a : S} {e : Stmt} {st st' : PS} {v : Fl} (h : IsS nm ix cap a e) (he : evS F (n + 1) a st = some (v, st')) : TS1 W c (n + 1) st e v st' := by
  have S := H n (Nat.lt_succ_self _)
  refine TS1.up ?_
  suffices hx : CtxOk nm ix cap c → _ → _ from hx K he
  apply IsS.elim (P := fun nm ix cap a e => CtxOk nm ix cap c → evS F (n + 1) a st = some (v, st') → TS1 W c n st e v st') h
  case assign => exact fun hs ht h1 K he => bd2_c he fun x s1 e1 he => bd_c he fun s2 e2 he => .out he (setVar_c e2 fun hl => .assign (hs _) (by rw [K.ix]; exact ht.ix) (by rw [K.cap]; exact ht.cap) (ht.free K.nm) (S.e K h1 e1) hl)
  case assignC =>
    refine fun h1 h2 h3 ht hc K he => ?_
    refine bd2_c he fun x s1 e1 he => bd_c he fun s2 e2 he => .out he (setVar_c e2 fun hl => ?_)
    cases n with
    | zero => exact nomatch (show (Option.none : Option (V × PS)) = some _ from e1)
    | succ n =>
      obtain ⟨vn, fn, rfl, hc, hf, hi, g1, g2⟩ := hc.inv
      · skip
        refine bd2_c e1 fun src sk k1 e1 => bd_c e1 fun stk k2 e1 => ?_
        cases e1
        exact .assignComp (F := F) (m0 := n) (swap_yes K h1 h2 h3) (by rw [K.ix]; exact ht.ix) (by rw [K.cap]; exact ht.cap) (ht.free K.nm) hl K.nm (by rw [K.ix]; exact hc) ((H n (Nat.lt_succ_of_lt (Nat.lt_succ_self _))).i K hi k1).up (Nat.le_succ _) (hf _)
                  (fun C hC m hm sa v sb hb => (H m (Nat.lt_succ_of_lt (Nat.lt_succ_of_lt hm))).e (comp_parts K hc hC) g1 hb)
                  (fun C hC => gs_ok (fun m hm => H m (Nat.lt_succ_of_lt (Nat.lt_succ_of_lt hm))) (comp_parts K hc hC) _ _ _ _ g2) k2 (.inl ⟨rfl, rfl⟩)
  case assignF =>
    refine fun h1 h2 h3 ht hc K he => ?_
    refine bd2_c he fun x s1 e1 he => bd_c he fun s2 e2 he => .out he (setVar_c e2 fun hl => ?_)
    cases n with
    | zero => exact nomatch (show (Option.none : Option (V × PS)) = some _ from e1)
    | succ n =>
      refine bd2_c e1 fun y s3 f1 e1 => ?_
      cases n with
      | zero => exact nomatch (show (Option.none : Option (V × PS)) = some _ from f1)
      | succ n =>
        obtain ⟨vn, fn, rfl, hc, hf, hi, g1, g2⟩ := hc.inv
        · skip
          refine bd2_c f1 fun src sk k1 f1 => bd_c f1 fun stk k2 f1 => ?_
          cases f1
          exact .assignComp (F := F) (m0 := n) (swap_yes K h1 h2 h3) (by rw [K.ix]; exact ht.ix) (by rw [K.cap]; exact ht.cap) (ht.free K.nm) hl K.nm (by rw [K.ix]; exact hc) ((H n (Nat.lt_succ_of_lt (Nat.lt_succ_of_lt (Nat.lt_succ_self _)))).i K hi k1).up.up (Nat.le_succ_of_le (Nat.le_succ _)) (hf _)
                      (fun C hC m hm sa v sb hb => (H m (Nat.lt_succ_of_lt (Nat.lt_succ_of_lt (Nat.lt_succ_of_lt hm)))).e (comp_parts K hc hC) g1 hb)
                      (fun C hC => gs_ok (fun m hm => H m (Nat.lt_succ_of_lt (Nat.lt_succ_of_lt (Nat.lt_succ_of_lt hm)))) (comp_parts K hc hC) _ _ _ _ g2) k2 (.inr e1)
  case setItem => exact fun hs h1 h2 h3 K he => bd2_c he fun x s1 e1 he => bd2_c he fun y s2 e2 he => bdI_c he fun z s3 e3 he => bd_c he fun s4 e4 he => .out he (.setItem (hs _) (S.e K h3 e1) (S.e K h1 e2) (S.e K h2 e3) e4)
  case aug =>
    refine fun ht hl h1 K he => ?_
    have hk := (K.nm _ _ hl).elim id fun q => (nomatch q.1)
    refine bd_c he fun u hu he => bd_c he fun x hx he => bdI_c he fun y s1 e1 he => ?_
    have hv := join_c hu
    rw [asI_e hx] at hv
    exact bd_c he fun z hz he => bd_c he fun s2 e2 he => .out he (setVar_c e2 fun hl => .aug (by rw [K.ix]; exact ht.ix) (by rw [K.cap]; exact ht.cap) (ht.free K.nm) hk hv (S.e K h1 e1) hl (aug_c hz))
  case «for» => exact fun ht hf hi hb K he => bd2_c he fun src s1 e1 he => .for_ (by rw [K.ix]; exact ht.ix) (by rw [K.cap]; exact ht.cap) (ht.free K.nm) (S.i K hi e1) (fun m hm sa f sb hs => (H m (Nat.lt_succ_of_lt hm)).ss K hb hs) (Nat.le_refl _) he (hf _)
  case forEsc => exact fun t1 t2 hf h1 hb K he => bdS_c he fun x s1 e1 he => gd_c he fun hl he => hE n K t1 t2 hf h1.noStar (S.e K h1 e1) hl (fun hg m hm sa f sb hs => (HG hg m (Nat.lt_succ_of_lt hm)).ss K hb hs) he
  case forGrp =>
    refine fun t1 hf h1 hb K he => ?_
    exact bd2_c he fun v s1 e1 he => bd_c he fun l hl he => bd_c he fun is his he => hG n K t1 hf h1.noStar (S.e K h1 (asZ_e hl ▸ e1)) his (fun hg m hm sa f sb hs => (HG hg m (Nat.lt_succ_of_lt hm)).ss K hb hs) he
  case «while» => exact fun h1 hb K he => .while_ (fun m hm sa b sb hs => (H m (Nat.lt_succ_of_lt hm)).b K h1 hs) (fun m hm sa f sb hs => (H m (Nat.lt_succ_of_lt hm)).ss K hb hs) (Nat.le_refl _) he
  case ite => exact fun h1 h2 h3 K he => bd2_c he fun p s1 e1 he => ifB_c he (fun q he => by subst q; exact .ite (S.b K h1 e1) (S.ss K h2 he)) (fun q he => by subst q; exact .ite (S.b K h1 e1) (S.ss K h3 he))
  case ret => exact fun h1 K he => bd2_c he fun x s1 e1 he => .out he (.ret (S.e K h1 e1))
  case brk => exact fun K he => .out he .brk
  case append => exact fun hb hl h1 h2 K he => bd2_c he fun x s1 e1 he => bd2_c he fun y s2 e2 he => bd_c he fun s3 e3 he => .out he (.append hb hl ⟨h2.noStar, trivial⟩ (S.e K h1 e1) (S.e K h2 e2) e3 (fun_quiet K))
  case insert => exact fun hb hl h1 h2 h3 K he => bd2_c he fun x s1 e1 he => bdI_c he fun y s2 e2 he => bd2_c he fun z s3 e3 he => bd_c he fun s4 e4 he => .out he (.insert hb hl ⟨h2.noStar, h3.noStar, trivial⟩ (S.e K h1 e1) (S.e K h2 e2) (S.e K h3 e3) e4 (fun_quiet K))
  case insort => exact fun hx K he => bd_c he fun s1 e1 he => .out he (hI n K hx e1)
theorem snd_ss (H : ∀ m, m < n + 1 → Snd W F m) (K : CtxOk nm ix cap c) {a : Ss} {e : List Stmt} {st st' : PS} {v : Fl} (h : IsSs nm ix cap a e) (he : evSs F (n + 1) a st = some (v, st')) : TS W c (n + 1) st e v st' := by
  have S := H n (Nat.lt_succ_self _)
  refine TS.up ?_
  suffices hx : CtxOk nm ix cap c → _ → _ from hx K he
  apply IsSs.elim (P := fun nm ix cap a e => CtxOk nm ix cap c → evSs F (n + 1) a st = some (v, st') → TS W c n st e v st') h
  case nil => exact fun K he => .out he .nil
  case cons => exact fun h1 h2 K he => bd2_c he fun f s1 e1 he => onNext_c he (fun q he => .cons (q ▸ S.s K h1 e1) (S.ss K h2 he)) (fun q he => .out he (.stop (S.s K h1 e1) q))
  case stuck => exact fun K he => nomatch (show (Option.none : Option (Fl × PS)) = some _ from he)
theorem soundness_g (hO : ObjOk W F) (hE : ∀ f, HEsc (W.g f) F) (hG : ∀ f, HGrp (W.g f) F) (hI : ∀ f, HIns (W.g f)) (hC : ∀ f, HCall (W.g f) F) : ∀ n f, Snd (W.g f) F n := by
  intro n
  induction n using Nat.strongRecOn with
  | ind n H' =>
    intro f
    have H : ∀ m, m < n → Snd (W.g f) F m := fun m hm => H' m hm f
    have HG : ∀ hg m, m < n → Snd ((W.g f).g hg) F m := fun hg m hm => H' m hm hg
    have hO' : ObjOk (W.g f) F := hO
    cases n with
    | zero =>
      exact ⟨fun _ _ _ _ _ _ _ he => (nomatch (show (Option.none : Option (V × PS)) = some _ from he)), fun _ _ _ _ _ _ _ he => (nomatch (show (Option.none : Option (List V × PS)) = some _ from he)), fun _ _ _ _ _ _ _ he => (nomatch (show (Option.none : Option (Bool × PS)) = some _ from he)),
        fun _ _ _ _ _ _ _ he => (nomatch (show (Option.none : Option (Src × PS)) = some _ from he)), fun he => (nomatch (show (Option.none : Option (V × PS)) = some _ from he)), fun _ _ _ _ _ _ _ he => (nomatch (show (Option.none : Option (Fl × PS)) = some _ from he)),
        fun _ _ _ _ _ _ _ he => (nomatch (show (Option.none : Option (Fl × PS)) = some _ from he))⟩
    | succ n =>
      exact ⟨fun K _ _ _ _ _ h he => snd_e hO' H K h he, fun K _ _ _ _ _ h he => snd_es H K h he, fun K _ _ _ _ _ h he => snd_b H K h he, fun K _ _ _ _ _ h he => snd_i H K h he, fun he => hC f n (H n (Nat.lt_succ_self _)) he,
        fun K _ _ _ _ _ h he => snd_s (hE f) (hG f) (hI f) HG H K h he, fun K _ _ _ _ _ h he => snd_ss H K h he⟩
theorem soundness (hO : ObjOk W F) (hE : ∀ f, HEsc (W.g f) F) (hG : ∀ f, HGrp (W.g f) F) (hI : ∀ f, HIns (W.g f)) (hC : ∀ f, HCall (W.g f) F) : ∀ n, Snd W F n := fun n => soundness_g hO hE hG hI hC n W.hg
end
end Mine.Internal
end
section
set_option genInjectivity false
open PySem PySem.W PyProof.Rows PySem.Calls
namespace Mine.Internal
noncomputable def oOf (q : Params) (a : Addr) : Obj := ((hd.heap_1 q).lookup a).getD default
noncomputable def fdOf (q : Params) (a : Addr) : FuncData := match (oOf q a).data with
  | .func fd => fd
  | _ => default
noncomputable def bodyOf (q : Params) (a : Addr) : List Stmt := match (fdOf q a).body with
  | .stmts b => b
  | _ => []
theorem ns_len (q : Params) : nsIn (hd.heap_1 q) mainGlobals "len" = some none := by kernel_rfl
theorem ns_sum (q : Params) : nsIn (hd.heap_1 q) mainGlobals "sum" = some none := by kernel_rfl
theorem ns_min (q : Params) : nsIn (hd.heap_1 q) mainGlobals "min" = some none := by kernel_rfl
theorem ns_max (q : Params) : nsIn (hd.heap_1 q) mainGlobals "max" = some none := by kernel_rfl
theorem ns_list (q : Params) : nsIn (hd.heap_1 q) mainGlobals "list" = some none := by kernel_rfl
theorem ns_range (q : Params) : nsIn (hd.heap_1 q) mainGlobals "range" = some none := by kernel_rfl
theorem ns_insort_right (q : Params) : nsIn (hd.heap_1 q) mainGlobals "insort_right" = some (some (.ref 23)) := by kernel_rfl
theorem ns_bisect_right (q : Params) : nsIn (hd.heap_1 q) mainGlobals "bisect_right" = some (some (.ref 32)) := by kernel_rfl
theorem ns__iter_escaped_chars (q : Params) : nsIn (hd.heap_1 q) mainGlobals "_iter_escaped_chars" = some (some (.ref 39)) := by kernel_rfl
theorem ns__strip_quoted_realnames (q : Params) : nsIn (hd.heap_1 q) mainGlobals "_strip_quoted_realnames" = some (some (.ref 46)) := by kernel_rfl
theorem ns__check_parenthesis (q : Params) : nsIn (hd.heap_1 q) mainGlobals "_check_parenthesis" = some (some (.ref 53)) := by kernel_rfl
theorem ns__strxfrm (q : Params) : nsIn (hd.heap_1 q) mainGlobals "_strxfrm" = some (some (.ref 60)) := by kernel_rfl
theorem ns__grouping_intervals (q : Params) : nsIn (hd.heap_1 q) mainGlobals "_grouping_intervals" = some (some (.ref 67)) := by kernel_rfl
theorem ns__law_cells (q : Params) : nsIn (hd.heap_1 q) mainGlobals "_law_cells" = some (some (.ref 74)) := by kernel_rfl
theorem ns__law_ruler (q : Params) : nsIn (hd.heap_1 q) mainGlobals "_law_ruler" = some (some (.ref 81)) := by kernel_rfl
theorem ns__law_told (q : Params) : nsIn (hd.heap_1 q) mainGlobals "_law_told" = some (some (.ref 88)) := by kernel_rfl
theorem ns__law_refused (q : Params) : nsIn (hd.heap_1 q) mainGlobals "_law_refused" = some (some (.ref 95)) := by kernel_rfl
theorem ns__law_names (q : Params) : nsIn (hd.heap_1 q) mainGlobals "_law_names" = some (some (.ref 100)) := by kernel_rfl
theorem ns__law_shapes (q : Params) : nsIn (hd.heap_1 q) mainGlobals "_law_shapes" = some (some (.ref 107)) := by kernel_rfl
theorem ns__law_filled (q : Params) : nsIn (hd.heap_1 q) mainGlobals "_law_filled" = some (some (.ref 112)) := by kernel_rfl
theorem ns__law_bill (q : Params) : nsIn (hd.heap_1 q) mainGlobals "_law_bill" = some (some (.ref 119)) := by kernel_rfl
theorem ns__law_laid (q : Params) : nsIn (hd.heap_1 q) mainGlobals "_law_laid" = some (some (.ref 126)) := by kernel_rfl
set_option maxRecDepth 100000
set_option maxHeartbeats 4000000
noncomputable def insortNm : Nm := [(Str.ofString "a", NameKind.local), (Str.ofString "x", NameKind.local), (Str.ofString "lo", NameKind.local), (Str.ofString "hi", NameKind.local), (Str.ofString "key", NameKind.local), (Str.ofString "bisect_right", NameKind.globalImplicit)]
noncomputable def insortVn : List Str := ["a", "x", "lo", "hi", "key"]
theorem insortIs (q : Params) : IsSs insortNm insortVn.zipIdx 5 insortB (bodyOf q 23) :=
  (.ssCons (.sIte (.cmp rfl (.var ⟨rfl, rfl, rfl⟩) .none) (.ssCons (.sAssign (fun _ => rfl) ⟨rfl, by decide, .inl rfl⟩ (.call ⟨ns_bisect_right, rfl, rfl⟩ (.esCons (.var ⟨rfl, rfl, rfl⟩) (.esCons (.var ⟨rfl, rfl, rfl⟩) (.esCons (.var ⟨rfl, rfl, rfl⟩) (.esCons (.var ⟨rfl, rfl, rfl⟩) .esNil)))) ⟨fun _ _ => rfl, fun _ _ => rfl, fun _ _ => rfl, fun _ _ => rfl, trivial⟩)) .ssNil) (.ssCons (.sAssign (fun _ => rfl) ⟨rfl, by decide, .inl rfl⟩ (.callKey ⟨ns_bisect_right, rfl, rfl⟩ (.esCons (.var ⟨rfl, rfl, rfl⟩) (.esCons (.callVar ⟨rfl, rfl, rfl⟩ (.var ⟨rfl, rfl, rfl⟩)) (.esCons (.var ⟨rfl, rfl, rfl⟩) (.esCons (.var ⟨rfl, rfl, rfl⟩) .esNil)))) (.var ⟨rfl, rfl, rfl⟩) ⟨fun _ _ => rfl, fun _ _ => rfl, fun _ _ => rfl, fun _ _ => rfl, trivial⟩)) .ssNil)) (.ssCons (.sInsert (fun _ => rfl) rfl (.var ⟨rfl, rfl, rfl⟩) (.var ⟨rfl, rfl, rfl⟩) (.var ⟨rfl, rfl, rfl⟩)) .ssNil))
noncomputable def bisectNm : Nm := [(Str.ofString "a", NameKind.local), (Str.ofString "x", NameKind.local), (Str.ofString "lo", NameKind.local), (Str.ofString "hi", NameKind.local), (Str.ofString "key", NameKind.local), (Str.ofString "mid", NameKind.local), (Str.ofString "len", NameKind.globalImplicit)]
noncomputable def bisectVn : List Str := ["a", "x", "lo", "hi", "key", "mid"]
theorem bisectIs (q : Params) : IsSs bisectNm bisectVn.zipIdx 6 bisectB (bodyOf q 32) :=
  (.ssCons (.sIte (.cmp rfl (.var ⟨rfl, rfl, rfl⟩) .int) .ssStuck .ssNil) (.ssCons (.sIte (.cmp rfl (.var ⟨rfl, rfl, rfl⟩) .none) (.ssCons (.sAssign (fun _ => rfl) ⟨rfl, by decide, .inl rfl⟩ (.len ⟨ns_len, rfl, by decide, rfl, rfl⟩ (.var ⟨rfl, rfl, rfl⟩))) .ssNil) .ssNil) (.ssCons (.sIte (.cmp rfl (.var ⟨rfl, rfl, rfl⟩) .none) (.ssCons (.sWhile (.cmp rfl (.var ⟨rfl, rfl, rfl⟩) (.var ⟨rfl, rfl, rfl⟩)) (.ssCons (.sAssign (fun _ => rfl) ⟨rfl, by decide, .inl rfl⟩ (.bin (.bin (.var ⟨rfl, rfl, rfl⟩) (.var ⟨rfl, rfl, rfl⟩)) .int)) (.ssCons (.sIte (.cmp rfl (.var ⟨rfl, rfl, rfl⟩) (.sub (fun _ _ _ => rfl) (.var ⟨rfl, rfl, rfl⟩) (.var ⟨rfl, rfl, rfl⟩))) (.ssCons (.sAssign (fun _ => rfl) ⟨rfl, by decide, .inl rfl⟩ (.var ⟨rfl, rfl, rfl⟩)) .ssNil) (.ssCons (.sAssign (fun _ => rfl) ⟨rfl, by decide, .inl rfl⟩ (.bin (.var ⟨rfl, rfl, rfl⟩) .int)) .ssNil)) .ssNil))) .ssNil) (.ssCons (.sWhile (.cmp rfl (.var ⟨rfl, rfl, rfl⟩) (.var ⟨rfl, rfl, rfl⟩)) (.ssCons (.sAssign (fun _ => rfl) ⟨rfl, by decide, .inl rfl⟩ (.bin (.bin (.var ⟨rfl, rfl, rfl⟩) (.var ⟨rfl, rfl, rfl⟩)) .int)) (.ssCons (.sIte (.cmp rfl (.var ⟨rfl, rfl, rfl⟩) (.callVar ⟨rfl, rfl, rfl⟩ (.sub (fun _ _ _ => rfl) (.var ⟨rfl, rfl, rfl⟩) (.var ⟨rfl, rfl, rfl⟩)))) (.ssCons (.sAssign (fun _ => rfl) ⟨rfl, by decide, .inl rfl⟩ (.var ⟨rfl, rfl, rfl⟩)) .ssNil) (.ssCons (.sAssign (fun _ => rfl) ⟨rfl, by decide, .inl rfl⟩ (.bin (.var ⟨rfl, rfl, rfl⟩) .int)) .ssNil)) .ssNil))) .ssNil)) (.ssCons (.sRet (.var ⟨rfl, rfl, rfl⟩)) .ssNil))))
noncomputable def stripNm : Nm := [(Str.ofString "addr", NameKind.local), (Str.ofString "start", NameKind.local), (Str.ofString "open_pos", NameKind.local), (Str.ofString "result", NameKind.local), (Str.ofString "pos", NameKind.local), (Str.ofString "ch", NameKind.local), (Str.ofString "_iter_escaped_chars", NameKind.globalImplicit), (Str.ofString "len", NameKind.globalImplicit)]
noncomputable def stripVn : List Str := ["addr", "start", "open_pos", "result", "pos", "ch"]
theorem stripIs (q : Params) : IsSs stripNm stripVn.zipIdx 6 stripB (bodyOf q 46) :=
  (.ssCons (.sIte (.cmp rfl .str (.var ⟨rfl, rfl, rfl⟩)) (.ssCons (.sRet (.var ⟨rfl, rfl, rfl⟩)) .ssNil) .ssNil) (.ssCons (.sAssign (fun _ => rfl) ⟨rfl, by decide, .inl rfl⟩ .int) (.ssCons (.sAssign (fun _ => rfl) ⟨rfl, by decide, .inl rfl⟩ .none) (.ssCons (.sAssign (fun _ => rfl) ⟨rfl, by decide, .inl rfl⟩ (.list .esNil)) (.ssCons (.sForEsc ⟨rfl, by decide, .inl rfl⟩ ⟨rfl, by decide, .inl rfl⟩ ⟨ns__iter_escaped_chars, rfl, rfl⟩ (.var ⟨rfl, rfl, rfl⟩) (.ssCons (.sIte (.cmp rfl (.var ⟨rfl, rfl, rfl⟩) .str) (.ssCons (.sIte (.cmp rfl (.var ⟨rfl, rfl, rfl⟩) .none) (.ssCons (.sAssign (fun _ => rfl) ⟨rfl, by decide, .inl rfl⟩ (.var ⟨rfl, rfl, rfl⟩)) .ssNil) (.ssCons (.sIte (.cmp rfl (.var ⟨rfl, rfl, rfl⟩) (.var ⟨rfl, rfl, rfl⟩)) (.ssCons (.sAppend (fun _ => rfl) rfl (.var ⟨rfl, rfl, rfl⟩) (.scut (fun _ _ => rfl) (.var ⟨rfl, rfl, rfl⟩) (.var ⟨rfl, rfl, rfl⟩) (.var ⟨rfl, rfl, rfl⟩))) .ssNil) .ssNil) (.ssCons (.sAssign (fun _ => rfl) ⟨rfl, by decide, .inl rfl⟩ (.bin (.var ⟨rfl, rfl, rfl⟩) .int)) (.ssCons (.sAssign (fun _ => rfl) ⟨rfl, by decide, .inl rfl⟩ .none) .ssNil)))) .ssNil) .ssNil) .ssNil)) (.ssCons (.sIte (.cmp rfl (.var ⟨rfl, rfl, rfl⟩) (.len ⟨ns_len, rfl, by decide, rfl, rfl⟩ (.var ⟨rfl, rfl, rfl⟩))) (.ssCons (.sAppend (fun _ => rfl) rfl (.var ⟨rfl, rfl, rfl⟩) (.sfrom (fun _ _ => rfl) (.var ⟨rfl, rfl, rfl⟩) (.var ⟨rfl, rfl, rfl⟩))) .ssNil) .ssNil) (.ssCons (.sRet (.join (fun _ => rfl) rfl (.var ⟨rfl, rfl, rfl⟩))) .ssNil)))))))
noncomputable def checkNm : Nm := [(Str.ofString "addr", NameKind.local), (Str.ofString "opens", NameKind.local), (Str.ofString "pos", NameKind.local), (Str.ofString "ch", NameKind.local), (Str.ofString "_strip_quoted_realnames", NameKind.globalImplicit), (Str.ofString "_iter_escaped_chars", NameKind.globalImplicit)]
noncomputable def checkVn : List Str := ["addr", "opens", "pos", "ch"]
theorem checkIs (q : Params) : IsSs checkNm checkVn.zipIdx 4 checkB (bodyOf q 53) :=
  (.ssCons (.sAssign (fun _ => rfl) ⟨rfl, by decide, .inl rfl⟩ (.call ⟨ns__strip_quoted_realnames, rfl, rfl⟩ (.esCons (.var ⟨rfl, rfl, rfl⟩) .esNil) ⟨fun _ _ => rfl, trivial⟩)) (.ssCons (.sAssign (fun _ => rfl) ⟨rfl, by decide, .inl rfl⟩ .int) (.ssCons (.sForEsc ⟨rfl, by decide, .inl rfl⟩ ⟨rfl, by decide, .inl rfl⟩ ⟨ns__iter_escaped_chars, rfl, rfl⟩ (.var ⟨rfl, rfl, rfl⟩) (.ssCons (.sIte (.cmp rfl (.var ⟨rfl, rfl, rfl⟩) .str) (.ssCons (.sAug ⟨rfl, by decide, .inl rfl⟩ rfl .int) .ssNil) (.ssCons (.sIte (.cmp rfl (.var ⟨rfl, rfl, rfl⟩) .str) (.ssCons (.sAug ⟨rfl, by decide, .inl rfl⟩ rfl .int) (.ssCons (.sIte (.cmp rfl (.var ⟨rfl, rfl, rfl⟩) .int) (.ssCons (.sRet .bool) .ssNil) .ssNil) .ssNil)) .ssNil) .ssNil)) .ssNil)) (.ssCons (.sRet (.cmp rfl (.var ⟨rfl, rfl, rfl⟩) .int)) .ssNil))))
noncomputable def strxfrmNm : Nm := [(Str.ofString "s", NameKind.local)]
noncomputable def strxfrmVn : List Str := ["s"]
theorem strxfrmIs (q : Params) : IsSs strxfrmNm strxfrmVn.zipIdx 1 strxfrmB (bodyOf q 60) :=
  (.ssCons (.sRet (.var ⟨rfl, rfl, rfl⟩)) .ssNil)
noncomputable def cellsNm : Nm := [(Str.ofString "script", NameKind.local), (Str.ofString "cells", NameKind.local), (Str.ofString "k", NameKind.local), (Str.ofString "range", NameKind.globalImplicit), (Str.ofString "len", NameKind.globalImplicit)]
noncomputable def cellsVn : List Str := ["script", "cells", "k"]
theorem cellsIs (q : Params) : IsSs cellsNm cellsVn.zipIdx 3 cellsB (bodyOf q 74) :=
  (.ssCons (.sAssign (fun _ => rfl) ⟨rfl, by decide, .inl rfl⟩ (.list (.esCons .int (.esCons .int (.esCons .int .esNil))))) (.ssCons (.sFor ⟨rfl, by decide, .inl rfl⟩ (fun _ _ => rfl) (.iRange1 ⟨ns_range, rfl, by decide, rfl, rfl⟩ (.len ⟨ns_len, rfl, by decide, rfl, rfl⟩ (.var ⟨rfl, rfl, rfl⟩))) (.ssCons (.sSetItem (fun _ => rfl) (.var ⟨rfl, rfl, rfl⟩) (.bin (.var ⟨rfl, rfl, rfl⟩) .int) (.bin (.sub (fun _ _ _ => rfl) (.var ⟨rfl, rfl, rfl⟩) (.bin (.var ⟨rfl, rfl, rfl⟩) .int)) (.sub (fun _ _ _ => rfl) (.var ⟨rfl, rfl, rfl⟩) (.var ⟨rfl, rfl, rfl⟩)))) .ssNil)) (.ssCons (.sRet (.var ⟨rfl, rfl, rfl⟩)) .ssNil)))
noncomputable def rulerNm : Nm := [(Str.ofString "number", NameKind.local), (Str.ofString "first", NameKind.local), (Str.ofString "second", NameKind.local), (Str.ofString "third", NameKind.local), (Str.ofString "kind", NameKind.local)]
noncomputable def rulerVn : List Str := ["number", "first", "second", "third", "kind"]
theorem rulerIs (q : Params) : IsSs rulerNm rulerVn.zipIdx 5 rulerB (bodyOf q 81) :=
  (.ssCons (.sAssign (fun _ => rfl) ⟨rfl, by decide, .inl rfl⟩ (.bin .int (.bin (.var ⟨rfl, rfl, rfl⟩) .int))) (.ssCons (.sAssign (fun _ => rfl) ⟨rfl, by decide, .inl rfl⟩ (.bin .int (.bin (.bin (.var ⟨rfl, rfl, rfl⟩) .int) .int))) (.ssCons (.sAssign (fun _ => rfl) ⟨rfl, by decide, .inl rfl⟩ (.bin .int (.bin (.bin (.var ⟨rfl, rfl, rfl⟩) .int) .int))) (.ssCons (.sAssign (fun _ => rfl) ⟨rfl, by decide, .inl rfl⟩ (.bin (.bin (.var ⟨rfl, rfl, rfl⟩) .int) .int)) (.ssCons (.sIte (.cmp rfl (.var ⟨rfl, rfl, rfl⟩) .int) (.ssCons (.sRet (.list (.esCons (.list (.esCons (.var ⟨rfl, rfl, rfl⟩) (.esCons (.var ⟨rfl, rfl, rfl⟩) (.esCons (.var ⟨rfl, rfl, rfl⟩) .esNil)))) (.esCons (.list (.esCons (.var ⟨rfl, rfl, rfl⟩) (.esCons (.var ⟨rfl, rfl, rfl⟩) (.esCons (.var ⟨rfl, rfl, rfl⟩) .esNil)))) .esNil)))) .ssNil) .ssNil) (.ssCons (.sIte (.cmp rfl (.var ⟨rfl, rfl, rfl⟩) .int) (.ssCons (.sRet (.list (.esCons (.list (.esCons (.var ⟨rfl, rfl, rfl⟩) (.esCons (.var ⟨rfl, rfl, rfl⟩) (.esCons (.var ⟨rfl, rfl, rfl⟩) (.esCons .int (.esCons .int .esNil)))))) (.esCons (.list (.esCons (.var ⟨rfl, rfl, rfl⟩) (.esCons (.var ⟨rfl, rfl, rfl⟩) (.esCons (.var ⟨rfl, rfl, rfl⟩) .esNil)))) .esNil)))) .ssNil) .ssNil) (.ssCons (.sIte (.cmp rfl (.var ⟨rfl, rfl, rfl⟩) .int) (.ssCons (.sRet (.list (.esCons (.list (.esCons (.var ⟨rfl, rfl, rfl⟩) (.esCons (.var ⟨rfl, rfl, rfl⟩) (.esCons .int (.esCons .int .esNil))))) (.esCons (.bin (.list (.esCons (.var ⟨rfl, rfl, rfl⟩) .esNil)) (.bin (.list (.esCons (.var ⟨rfl, rfl, rfl⟩) .esNil)) .int)) .esNil)))) .ssNil) .ssNil) (.ssCons (.sRet (.list (.esCons (.list (.esCons (.var ⟨rfl, rfl, rfl⟩) (.esCons .int (.esCons .int .esNil)))) (.esCons (.bin (.list (.esCons (.var ⟨rfl, rfl, rfl⟩) .esNil)) .int) .esNil)))) .ssNil))))))))
noncomputable def toldNm : Nm := [(Str.ofString "ruler", NameKind.local), (Str.ofString "told", NameKind.local), (Str.ofString "size", NameKind.local), (Str.ofString "_grouping_intervals", NameKind.globalImplicit), (Str.ofString "len", NameKind.globalImplicit)]
noncomputable def toldVn : List Str := ["ruler", "told", "size"]
theorem toldIs (q : Params) : IsSs toldNm toldVn.zipIdx 3 toldB (bodyOf q 88) :=
  (.ssCons (.sAssign (fun _ => rfl) ⟨rfl, by decide, .inl rfl⟩ (.list .esNil)) (.ssCons (.sForGrp ⟨rfl, by decide, .inl rfl⟩ ⟨ns__grouping_intervals, rfl, rfl⟩ (.var ⟨rfl, rfl, rfl⟩) (.ssCons (.sAppend (fun _ => rfl) rfl (.var ⟨rfl, rfl, rfl⟩) (.var ⟨rfl, rfl, rfl⟩)) (.ssCons (.sIte (.cmp rfl (.len ⟨ns_len, rfl, by decide, rfl, rfl⟩ (.var ⟨rfl, rfl, rfl⟩)) .int) (.ssCons .sBrk .ssNil) .ssNil) .ssNil))) (.ssCons (.sRet (.var ⟨rfl, rfl, rfl⟩)) .ssNil)))
noncomputable def namesNm : Nm := [(Str.ofString "number", NameKind.local), (Str.ofString "typed", NameKind.local), (Str.ofString "left", NameKind.local), (Str.ofString "picked", NameKind.cell), (Str.ofString "k", NameKind.local), (Str.ofString "list", NameKind.globalImplicit), (Str.ofString "range", NameKind.globalImplicit), (Str.ofString "len", NameKind.globalImplicit)]
noncomputable def namesVn : List Str := ["number", "typed", "left", "picked", "k"]
theorem namesIs (q : Params) : IsSs namesNm namesVn.zipIdx 5 namesB (bodyOf q 100) :=
  (.ssCons (.sAssign (fun _ => rfl) ⟨rfl, by decide, .inl rfl⟩ (.list (.esCons .str (.esCons .str (.esCons .str (.esCons .str (.esCons .str (.esCons .str (.esCons .str (.esCons .str .esNil)))))))))) (.ssCons (.sAssign (fun _ => rfl) ⟨rfl, by decide, .inl rfl⟩ (.copy ⟨ns_list, rfl, by decide, rfl, rfl⟩ (.var ⟨rfl, rfl, rfl⟩))) (.ssCons (.sAssign (fun _ => rfl) ⟨rfl, by decide, .inr rfl⟩ (.list .esNil)) (.ssCons (.sFor ⟨rfl, by decide, .inl rfl⟩ (fun _ _ => rfl) (.iRange1 ⟨ns_range, rfl, by decide, rfl, rfl⟩ .int) (.ssCons (.sAppend (fun _ => rfl) rfl (.var ⟨rfl, rfl, rfl⟩) (.pop (fun _ => rfl) rfl (.var ⟨rfl, rfl, rfl⟩) (.bin (.var ⟨rfl, rfl, rfl⟩) (.len ⟨ns_len, rfl, by decide, rfl, rfl⟩ (.var ⟨rfl, rfl, rfl⟩))))) (.ssCons (.sAssign (fun _ => rfl) ⟨rfl, by decide, .inl rfl⟩ (.bin (.var ⟨rfl, rfl, rfl⟩) (.bin (.len ⟨ns_len, rfl, by decide, rfl, rfl⟩ (.var ⟨rfl, rfl, rfl⟩)) .int))) .ssNil))) (.ssCons (.sRet (.frz (.comp (vn := ["name"]) (fn := ["picked"]) rfl (by unfold CompOk; decide +kernel) (fun _ _ => rfl) (.iList (.var ⟨rfl, rfl, rfl⟩)) (.var ⟨rfl, rfl, rfl⟩) (.gNil rfl ⟨rfl, by decide, .inl rfl⟩ (.opYes (.cmp rfl (.var ⟨rfl, rfl, rfl⟩) (.var ⟨rfl, rfl, rfl⟩))) rfl)) (fun _ _ => rfl))) .ssNil)))))
noncomputable def shapesNm : Nm := [(Str.ofString "total", NameKind.local), (Str.ofString "most", NameKind.local), (Str.ofString "rows", NameKind.local), (Str.ofString "shapes", NameKind.local), (Str.ofString "size", NameKind.local), (Str.ofString "rest", NameKind.local), (Str.ofString "range", NameKind.globalImplicit), (Str.ofString "min", NameKind.globalImplicit), (Str.ofString "_law_shapes", NameKind.globalImplicit)]
noncomputable def shapesVn : List Str := ["total", "most", "rows", "shapes", "size", "rest"]
theorem shapesIs (q : Params) : IsSs shapesNm shapesVn.zipIdx 6 shapesB (bodyOf q 107) :=
  (.ssCons (.sIte (.cmp rfl (.var ⟨rfl, rfl, rfl⟩) .int) (.ssCons (.sRet (.list (.esCons (.list .esNil) .esNil))) .ssNil) .ssNil) (.ssCons (.sAssign (fun _ => rfl) ⟨rfl, by decide, .inl rfl⟩ (.list .esNil)) (.ssCons (.sIte (.cmp rfl (.var ⟨rfl, rfl, rfl⟩) .int) (.ssCons (.sFor ⟨rfl, by decide, .inl rfl⟩ (fun _ _ => rfl) (.iRange3 ⟨ns_range, rfl, by decide, rfl, rfl⟩ (.min ⟨ns_min, rfl, by decide, rfl, rfl⟩ (.var ⟨rfl, rfl, rfl⟩) (.var ⟨rfl, rfl, rfl⟩)) .int (.neg .int)) (.ssCons (.sFor ⟨rfl, by decide, .inl rfl⟩ (fun _ _ => rfl) (.iList (.call ⟨ns__law_shapes, rfl, rfl⟩ (.esCons (.bin (.var ⟨rfl, rfl, rfl⟩) (.var ⟨rfl, rfl, rfl⟩)) (.esCons (.var ⟨rfl, rfl, rfl⟩) (.esCons (.bin (.var ⟨rfl, rfl, rfl⟩) .int) .esNil))) ⟨fun _ _ => rfl, fun _ _ => rfl, fun _ _ => rfl, trivial⟩)) (.ssCons (.sAppend (fun _ => rfl) rfl (.var ⟨rfl, rfl, rfl⟩) (.frz (.bin (.list (.esCons (.var ⟨rfl, rfl, rfl⟩) .esNil)) (.var ⟨rfl, rfl, rfl⟩)) (fun _ _ => rfl))) .ssNil)) .ssNil)) .ssNil) .ssNil) (.ssCons (.sRet (.var ⟨rfl, rfl, rfl⟩)) .ssNil))))
noncomputable def filledNm : Nm := [(Str.ofString "shape", NameKind.local), (Str.ofString "sizes", NameKind.local), (Str.ofString "table", NameKind.local), (Str.ofString "rows", NameKind.local), (Str.ofString "letter", NameKind.local), (Str.ofString "old", NameKind.local), (Str.ofString "need", NameKind.local), (Str.ofString "k", NameKind.local), (Str.ofString "list", NameKind.globalImplicit), (Str.ofString "range", NameKind.globalImplicit), (Str.ofString "len", NameKind.globalImplicit)]
noncomputable def filledVn : List Str := ["shape", "sizes", "table", "rows", "letter", "old", "need", "k"]
theorem filledIs (q : Params) : IsSs filledNm filledVn.zipIdx 8 filledB (bodyOf q 112) :=
  (.ssCons (.sAssignC rfl rfl rfl ⟨rfl, by decide, .inl rfl⟩ (.cpMk (vn := ["size"]) (fn := []) rfl (by unfold CompOk; decide +kernel) (fun _ _ => rfl) (.iList (.var ⟨rfl, rfl, rfl⟩)) (.comp (vn := ["k"]) (fn := []) rfl (by unfold CompOk; decide +kernel) (fun _ _ => rfl) (.iRange1 ⟨ns_range, rfl, by decide, rfl, rfl⟩ (.var ⟨rfl, rfl, rfl⟩)) .int (.gNil rfl ⟨rfl, by decide, .inl rfl⟩ .opNo rfl)) (.gNil rfl ⟨rfl, by decide, .inl rfl⟩ .opNo rfl))) (.ssCons (.sAssign (fun _ => rfl) ⟨rfl, by decide, .inl rfl⟩ (.copy ⟨ns_list, rfl, by decide, rfl, rfl⟩ (.var ⟨rfl, rfl, rfl⟩))) (.ssCons (.sFor ⟨rfl, by decide, .inl rfl⟩ (fun _ _ => rfl) (.iRange3 ⟨ns_range, rfl, by decide, rfl, rfl⟩ (.bin (.len ⟨ns_len, rfl, by decide, rfl, rfl⟩ (.var ⟨rfl, rfl, rfl⟩)) .int) (.neg .int) (.neg .int)) (.ssCons (.sAssign (fun _ => rfl) ⟨rfl, by decide, .inl rfl⟩ (.frz (.bin (.var ⟨rfl, rfl, rfl⟩) (.list (.esCons .int .esNil))) (fun _ _ => rfl))) (.ssCons (.sAssign (fun _ => rfl) ⟨rfl, by decide, .inl rfl⟩ (.sub (fun _ _ _ => rfl) (.var ⟨rfl, rfl, rfl⟩) (.var ⟨rfl, rfl, rfl⟩))) (.ssCons (.sFor ⟨rfl, by decide, .inl rfl⟩ (fun _ _ => rfl) (.iRange3 ⟨ns_range, rfl, by decide, rfl, rfl⟩ (.bin (.len ⟨ns_len, rfl, by decide, rfl, rfl⟩ (.var ⟨rfl, rfl, rfl⟩)) .int) (.neg .int) (.neg .int)) (.ssCons (.sWhile (.and (.cmp rfl (.var ⟨rfl, rfl, rfl⟩) .int) (.cmp rfl (.sub (fun _ _ _ => rfl) (.var ⟨rfl, rfl, rfl⟩) (.var ⟨rfl, rfl, rfl⟩)) (.sub (fun _ _ _ => rfl) (.var ⟨rfl, rfl, rfl⟩) (.bin (.var ⟨rfl, rfl, rfl⟩) .int)))) (.ssCons (.sSetItem (fun _ => rfl) (.var ⟨rfl, rfl, rfl⟩) (.var ⟨rfl, rfl, rfl⟩) (.bin (.sub (fun _ _ _ => rfl) (.var ⟨rfl, rfl, rfl⟩) (.var ⟨rfl, rfl, rfl⟩)) .int)) (.ssCons (.sSetItem (fun _ => rfl) (.sub (fun _ _ _ => rfl) (.var ⟨rfl, rfl, rfl⟩) (.var ⟨rfl, rfl, rfl⟩)) (.sub (fun _ _ _ => rfl) (.var ⟨rfl, rfl, rfl⟩) (.var ⟨rfl, rfl, rfl⟩)) (.var ⟨rfl, rfl, rfl⟩)) (.ssCons (.sAssign (fun _ => rfl) ⟨rfl, by decide, .inl rfl⟩ (.bin (.var ⟨rfl, rfl, rfl⟩) .int)) .ssNil)))) .ssNil)) (.ssCons (.sIte (.cmp rfl (.var ⟨rfl, rfl, rfl⟩) .int) (.ssCons (.sRet .none) .ssNil) .ssNil) .ssNil))))) (.ssCons (.sRet (.var ⟨rfl, rfl, rfl⟩)) .ssNil))))
noncomputable def billNm : Nm := [(Str.ofString "shape", NameKind.local), (Str.ofString "names", NameKind.local), (Str.ofString "sizes", NameKind.local), (Str.ofString "fall", NameKind.local), (Str.ofString "text", NameKind.local), (Str.ofString "k", NameKind.local), (Str.ofString "inner", NameKind.local), (Str.ofString "range", NameKind.globalImplicit), (Str.ofString "max", NameKind.globalImplicit), (Str.ofString "len", NameKind.globalImplicit)]
noncomputable def billVn : List Str := ["shape", "names", "sizes", "fall", "text", "k", "inner"]
theorem billIs (q : Params) : IsSs billNm billVn.zipIdx 7 billB (bodyOf q 119) :=
  (.ssCons (.sAssign (fun _ => rfl) ⟨rfl, by decide, .inl rfl⟩ .str) (.ssCons (.sFor ⟨rfl, by decide, .inl rfl⟩ (fun _ _ => rfl) (.iRange1 ⟨ns_range, rfl, by decide, rfl, rfl⟩ (.max ⟨ns_max, rfl, by decide, rfl, rfl⟩ (.len ⟨ns_len, rfl, by decide, rfl, rfl⟩ (.var ⟨rfl, rfl, rfl⟩)) (.len ⟨ns_len, rfl, by decide, rfl, rfl⟩ (.var ⟨rfl, rfl, rfl⟩)))) (.ssCons (.sIte (.cmp rfl (.var ⟨rfl, rfl, rfl⟩) (.len ⟨ns_len, rfl, by decide, rfl, rfl⟩ (.var ⟨rfl, rfl, rfl⟩))) (.ssCons (.sAssign (fun _ => rfl) ⟨rfl, by decide, .inl rfl⟩ (.bin (.var ⟨rfl, rfl, rfl⟩) (.bin .str (.sub (fun _ _ _ => rfl) (.var ⟨rfl, rfl, rfl⟩) (.var ⟨rfl, rfl, rfl⟩))))) .ssNil) .ssNil) (.ssCons (.sIte (.cmp rfl (.var ⟨rfl, rfl, rfl⟩) (.len ⟨ns_len, rfl, by decide, rfl, rfl⟩ (.var ⟨rfl, rfl, rfl⟩))) (.ssCons (.sAssign (fun _ => rfl) ⟨rfl, by decide, .inl rfl⟩ (.replace (fun _ => rfl) rfl (.replace (fun _ => rfl) rfl (.sub (fun _ _ _ => rfl) (.var ⟨rfl, rfl, rfl⟩) (.sub (fun _ _ _ => rfl) (.var ⟨rfl, rfl, rfl⟩) (.var ⟨rfl, rfl, rfl⟩)))))) (.ssCons (.sAssign (fun _ => rfl) ⟨rfl, by decide, .inl rfl⟩ (.bin (.bin (.bin (.bin (.var ⟨rfl, rfl, rfl⟩) .str) (.var ⟨rfl, rfl, rfl⟩)) .str) (.bin .str (.sub (fun _ _ _ => rfl) (.var ⟨rfl, rfl, rfl⟩) (.sub (fun _ _ _ => rfl) (.var ⟨rfl, rfl, rfl⟩) (.var ⟨rfl, rfl, rfl⟩)))))) .ssNil)) .ssNil) .ssNil))) (.ssCons (.sRet (.var ⟨rfl, rfl, rfl⟩)) .ssNil)))
noncomputable def laidNm : Nm := [(Str.ofString "word", NameKind.local), (Str.ofString "table", NameKind.local), (Str.ofString "name", NameKind.local), (Str.ofString "level", NameKind.local), (Str.ofString "place", NameKind.local), (Str.ofString "out", NameKind.local), (Str.ofString "len", NameKind.globalImplicit), (Str.ofString "bisect_right", NameKind.globalImplicit), (Str.ofString "_strxfrm", NameKind.globalImplicit)]
noncomputable def laidVn : List Str := ["word", "table", "name", "level", "place", "out"]
theorem laidIs (q : Params) : IsSs laidNm laidVn.zipIdx 6 laidB (bodyOf q 126) :=
  (.ssCons (.sAssign (fun _ => rfl) ⟨rfl, by decide, .inl rfl⟩ (.list .esNil)) (.ssCons (.sFor ⟨rfl, by decide, .inl rfl⟩ (fun _ _ => rfl) (.iList (.var ⟨rfl, rfl, rfl⟩)) (.ssCons (.sAssign (fun _ => rfl) ⟨rfl, by decide, .inl rfl⟩ .int) (.ssCons (.sWhile (.cmp rfl (.var ⟨rfl, rfl, rfl⟩) (.len ⟨ns_len, rfl, by decide, rfl, rfl⟩ (.var ⟨rfl, rfl, rfl⟩))) (.ssCons (.sAssign (fun _ => rfl) ⟨rfl, by decide, .inl rfl⟩ (.callKey ⟨ns_bisect_right, rfl, rfl⟩ (.esCons (.sub (fun _ _ _ => rfl) (.var ⟨rfl, rfl, rfl⟩) (.var ⟨rfl, rfl, rfl⟩)) (.esCons (.call ⟨ns__strxfrm, rfl, rfl⟩ (.esCons (.var ⟨rfl, rfl, rfl⟩) .esNil) ⟨fun _ _ => rfl, trivial⟩) .esNil)) (.gfn ⟨ns__strxfrm, rfl, rfl⟩) ⟨fun _ _ => rfl, fun _ _ => rfl, trivial⟩)) (.ssCons (.sIte (.cmp rfl (.var ⟨rfl, rfl, rfl⟩) (.len ⟨ns_len, rfl, by decide, rfl, rfl⟩ (.sub (fun _ _ _ => rfl) (.var ⟨rfl, rfl, rfl⟩) (.var ⟨rfl, rfl, rfl⟩)))) (.ssCons .sBrk .ssNil) .ssNil) (.ssCons (.sAssign (fun _ => rfl) ⟨rfl, by decide, .inl rfl⟩ (.sub (fun _ _ _ => rfl) (.sub (fun _ _ _ => rfl) (.var ⟨rfl, rfl, rfl⟩) (.var ⟨rfl, rfl, rfl⟩)) (.var ⟨rfl, rfl, rfl⟩))) (.ssCons (.sSetItem (fun _ => rfl) (.sub (fun _ _ _ => rfl) (.var ⟨rfl, rfl, rfl⟩) (.var ⟨rfl, rfl, rfl⟩)) (.var ⟨rfl, rfl, rfl⟩) (.var ⟨rfl, rfl, rfl⟩)) (.ssCons (.sAssign (fun _ => rfl) ⟨rfl, by decide, .inl rfl⟩ (.var ⟨rfl, rfl, rfl⟩)) (.ssCons (.sAssign (fun _ => rfl) ⟨rfl, by decide, .inl rfl⟩ (.bin (.var ⟨rfl, rfl, rfl⟩) .int)) .ssNil))))))) (.ssCons (.sIte (.cmp rfl (.var ⟨rfl, rfl, rfl⟩) (.len ⟨ns_len, rfl, by decide, rfl, rfl⟩ (.var ⟨rfl, rfl, rfl⟩))) (.ssCons (.sAppend (fun _ => rfl) rfl (.var ⟨rfl, rfl, rfl⟩) (.list .esNil)) .ssNil) .ssNil) (.ssCons (.sAppend (fun _ => rfl) rfl (.sub (fun _ _ _ => rfl) (.var ⟨rfl, rfl, rfl⟩) (.var ⟨rfl, rfl, rfl⟩)) (.var ⟨rfl, rfl, rfl⟩)) .ssNil))))) (.ssCons (.sRet (.var ⟨rfl, rfl, rfl⟩)) .ssNil)))
noncomputable def lawNm : Nm := [(Str.ofString "script", NameKind.local), (Str.ofString "cells", NameKind.local), (Str.ofString "ruler", NameKind.local), (Str.ofString "names", NameKind.cell), (Str.ofString "told", NameKind.local), (Str.ofString "sizes", NameKind.cell), (Str.ofString "fall", NameKind.local), (Str.ofString "k", NameKind.cell), (Str.ofString "can", NameKind.local), (Str.ofString "shape", NameKind.local), (Str.ofString "filled", NameKind.local), (Str.ofString "taken", NameKind.local), (Str.ofString "written", NameKind.local), (Str.ofString "pool", NameKind.local), (Str.ofString "number", NameKind.local), (Str.ofString "word", NameKind.local), (Str.ofString "table", NameKind.cell), (Str.ofString "grown", NameKind.local), (Str.ofString "bill", NameKind.local), (Str.ofString "_law_cells", NameKind.globalImplicit), (Str.ofString "_law_ruler", NameKind.globalImplicit), (Str.ofString "_law_names", NameKind.globalImplicit), (Str.ofString "_law_told", NameKind.globalImplicit), (Str.ofString "range", NameKind.globalImplicit), (Str.ofString "_law_shapes", NameKind.globalImplicit), (Str.ofString "_law_laid", NameKind.globalImplicit), (Str.ofString "_law_bill", NameKind.globalImplicit), (Str.ofString "sum", NameKind.globalImplicit), (Str.ofString "_law_filled", NameKind.globalImplicit), (Str.ofString "_check_parenthesis", NameKind.globalImplicit), (Str.ofString "len", NameKind.globalImplicit), (Str.ofString "_law_refused", NameKind.globalImplicit), (Str.ofString "insort_right", NameKind.globalImplicit)]
noncomputable def lawVn : List Str := ["script", "cells", "ruler", "names", "told", "sizes", "fall", "k", "can", "shape", "filled", "taken", "written", "pool", "number", "word", "table", "grown", "bill"]
end Mine.Internal
end
section
set_option genInjectivity false
open PySem PySem.W PyProof.Rows PySem.Calls
namespace Mine.Internal
noncomputable def vsOf (q : Params) (c : Addr) : Array Value := match (oOf q c).data with
  | .fields vs => vs
  | _ => #[]
noncomputable def tokIn : Option Value → Tok
  | some (.str _ t) => t
  | _ => 0
noncomputable def tokOf (q : Params) (c : Addr) : Tok := tokIn ((vsOf q c)[1]?)
noncomputable def tokInt : Option Value → Tok
  | some (.int _ t) => t
  | _ => 0
noncomputable def dTok (q : Params) (a : Addr) : Tok := match (fdOf q a).defaults with
  | .ref T => (match (oOf q T).data with
    | .seq vs _ => tokInt (vs[0]?)
    | _ => 0)
  | _ => 0
theorem In.of {W : Wd} (ok : W.Ok) {h : Heap} (hb : ∀ b o, W.B b o → h.get? b = some o) : (hd.heap_1 W.w.params).In h := fun a o e => hb a o (.inl (ok.X a o e))
structure Raw (q : Params) (a c : Addr) : Prop where
  at_ : (hd.heap_1 q).lookup a = some (oOf q a)
  data : (oOf q a).data = .func (fdOf q a)
  cat : (hd.heap_1 q).lookup c = some (oOf q c)
  cdata : (oOf q c).data = .fields (vsOf q c)
  code : (fdOf q a).code = .ref c
  qual : (vsOf q c)[1]? = some (.str (fdOf q a).qualname (tokOf q c))
  body : (fdOf q a).body = .stmts (bodyOf q a)
  kind : (fdOf q a).scope.kind = .function
  globals : (fdOf q a).globals = mainGlobals
  builtins : (fdOf q a).builtins = builtinsNs
  co : (fdOf q a).scope.isCoroutine = false
theorem Raw.obj {W : Wd} {a c : Addr} (r : Raw W.w.params a c) (ok : W.Ok) (h : Heap) (hb : ∀ b o, W.B b o → h.get? b = some o) : ∃ o, h.get? a = some o ∧ o.data = .func (fdOf W.w.params a) ∧ h.CodeRec (fdOf W.w.params a).code (fdOf W.w.params a).qualname :=
  ⟨_, In.of ok hb _ _ r.at_, r.data, c, _, _, _, r.code, In.of ok hb _ _ r.cat, r.cdata, r.qual⟩
noncomputable def nmChk (nm names : Nm) : Bool := nm.all fun p => names.lookup p.1 == some p.2
theorem nmChk_ok {nm names : Nm} (h : nmChk nm names = true) {x : Str} {k : NameKind} (e : nm.lookup x = some k) : names.lookup x = some k := by
  unfold nmChk at h
  rw [List.all_eq_true] at h
  simpa using h _ (mem_of_lookup e)
set_option maxRecDepth 100000
set_option maxHeartbeats 4000000
theorem bind_bisect2 (q : Params) (S : Setting) (u v w : Value) : peek (hd.heap_1 q) S (bindArgs (fdOf q 32) ⟨[u, v], [(Str.ofString "key", w)]⟩) = some [(Str.ofString "a", u), (Str.ofString "x", v), (Str.ofString "lo", .int 0 (dTok q 32)), (Str.ofString "hi", .none), (Str.ofString "key", w)] := by kernel_rfl
theorem bind_bisect4 (q : Params) (S : Setting) (u v l h w : Value) : peek (hd.heap_1 q) S (bindArgs (fdOf q 32) ⟨[u, v, l, h], [(Str.ofString "key", w)]⟩) = some [(Str.ofString "a", u), (Str.ofString "x", v), (Str.ofString "lo", l), (Str.ofString "hi", h), (Str.ofString "key", w)] := by kernel_rfl
theorem bind_insort2 (q : Params) (S : Setting) (u v w : Value) : peek (hd.heap_1 q) S (bindArgs (fdOf q 23) ⟨[u, v], [(Str.ofString "key", w)]⟩) = some [(Str.ofString "a", u), (Str.ofString "x", v), (Str.ofString "lo", .int 0 (dTok q 23)), (Str.ofString "hi", .none), (Str.ofString "key", w)] := by kernel_rfl
theorem bind_insort4 (q : Params) (S : Setting) (u v l h w : Value) : peek (hd.heap_1 q) S (bindArgs (fdOf q 23) ⟨[u, v, l, h], [(Str.ofString "key", w)]⟩) = some [(Str.ofString "a", u), (Str.ofString "x", v), (Str.ofString "lo", l), (Str.ofString "hi", h), (Str.ofString "key", w)] := by kernel_rfl
theorem uncons {α : Type} {l : List α} {n : Nat} (h : l.length = n + 1) : ∃ a t, l = a :: t ∧ t.length = n := by
  cases l with
  | nil => cases h
  | cons a t => exact ⟨a, t, rfl, Nat.succ.inj h⟩
theorem single {α : Type} {l : List α} (h : l.length = 1) : ∃ a, l = [a] := List.length_eq_one_iff.mp h
theorem two {α : Type} {l : List α} (h : l.length = 2) : ∃ a b, l = [a, b] := by
  obtain ⟨a, t, rfl, h2⟩ := uncons h
  obtain ⟨b, rfl⟩ := single h2
  exact ⟨a, b, rfl⟩
theorem three {α : Type} {l : List α} (h : l.length = 3) : ∃ a b c, l = [a, b, c] := by
  obtain ⟨a, t, rfl, h2⟩ := uncons h
  obtain ⟨b, c, rfl⟩ := two h2
  exact ⟨a, b, c, rfl⟩
theorem four {α : Type} {l : List α} (h : l.length = 4) : ∃ a b c d, l = [a, b, c, d] := by
  obtain ⟨a, t, rfl, h2⟩ := uncons h
  obtain ⟨b, c, d, rfl⟩ := three h2
  exact ⟨a, b, c, d, rfl⟩
theorem fact_key {W : Wd} (ok : W.Ok) {a c : Addr} {f : Fn} {r : List Str} (R0 : Raw W.w.params a c) (hcell : ∀ x ∈ (fdOf W.w.params a).scope.names, x.2 ≠ .cell) (hgen : (fdOf W.w.params a).scope.isGenerator = false)
    (hloc : ∀ x ∈ [Str.ofString "a", Str.ofString "x", Str.ofString "lo", Str.ofString "hi", Str.ofString "key"] ++ r, (fdOf W.w.params a).scope.names.lookup x = some .local) (hnd : ([Str.ofString "a", Str.ofString "x", Str.ofString "lo", Str.ofString "hi", Str.ofString "key"] ++ r).Nodup) (hf : f = ⟨4, [.d (.int 0), .d .none], true, r.length, [], false, f.body⟩)
    (b2 : ∀ S u v w, peek (hd.heap_1 W.w.params) S (bindArgs (fdOf W.w.params a) ⟨[u, v], [(Str.ofString "key", w)]⟩) = some [(Str.ofString "a", u), (Str.ofString "x", v), (Str.ofString "lo", .int 0 (dTok W.w.params a)), (Str.ofString "hi", .none), (Str.ofString "key", w)])
    (b4 : ∀ S u v l h w, peek (hd.heap_1 W.w.params) S (bindArgs (fdOf W.w.params a) ⟨[u, v, l, h], [(Str.ofString "key", w)]⟩) = some [(Str.ofString "a", u), (Str.ofString "x", v), (Str.ofString "lo", l), (Str.ofString "hi", h), (Str.ofString "key", w)]) :
    FnFact W a f (fdOf W.w.params a) [Str.ofString "a", Str.ofString "x", Str.ofString "lo", Str.ofString "hi", Str.ofString "key"] ([Str.ofString "a", Str.ofString "x", Str.ofString "lo", Str.ofString "hi", Str.ofString "key"] ++ r) (bodyOf W.w.params a) where
  obj := R0.obj ok
  body := R0.body
  kind := R0.kind
  cell := hcell
  globals := R0.globals
  builtins := R0.builtins
  co := R0.co
  gen := hgen
  nodup := hnd
  loc := hloc
  split := ⟨r, rfl, by rw [hf]⟩
  cap := by rw [hf]
  prim := by rw [hf]
  bind := by
    intro τ s us vs key ku ws hb hv hk hw
    rw [hf] at hw
    have X := In.of ok hb
    refine bindK_c hw rfl (fun kv e h4 e2 => ?_) fun kv e h2 e2 => ?_
    · subst e e2
      obtain ⟨kr, rfl, hkr⟩ := hk
      · obtain ⟨u1, u2, u3, u4, rfl⟩ := four (hv.length.symm.trans h4)
        · cases hv with | cons a1 hv => cases hv with | cons a2 hv => cases hv with | cons a3 hv => cases hv with | cons a4 hv => cases hv with | nil =>
          exact ⟨_, .cons a1 (.cons a2 (.cons a3 (.cons a4 (.cons hkr .nil)))), rfl, kp_binds X fun S => b4 S _ _ _ _ _⟩
    · subst e e2
      obtain ⟨kr, rfl, hkr⟩ := hk
      · · obtain ⟨u1, u2, rfl⟩ := two (hv.length.symm.trans h2)
          · cases hv with | cons a1 hv => cases hv with | cons a2 hv => cases hv with | nil =>
            exact ⟨_, .cons a1 (.cons a2 (.cons VR.int (.cons VR.none (.cons hkr .nil)))), rfl, kp_binds X fun S => b2 S _ _ _⟩
theorem fact_plain {W : Wd} (ok : W.Ok) {a c : Addr} {f : Fn} {ps r : List Str} (R0 : Raw W.w.params a c) (hcell : ∀ x ∈ (fdOf W.w.params a).scope.names, x.2 ≠ .cell) (hgen : (fdOf W.w.params a).scope.isGenerator = false)
    (hloc : ∀ x ∈ ps ++ r, (fdOf W.w.params a).scope.names.lookup x = some .local) (hnd : (ps ++ r).Nodup) (hf : f = ⟨ps.length, [], false, r.length, [], false, f.body⟩)
    (b : ∀ S us, us.length = ps.length → peek (hd.heap_1 W.w.params) S (bindArgs (fdOf W.w.params a) ⟨us, []⟩) = some (ps.zip us)) :
    FnFact W a f (fdOf W.w.params a) ps (ps ++ r) (bodyOf W.w.params a) where
  obj := R0.obj ok
  body := R0.body
  kind := R0.kind
  cell := hcell
  globals := R0.globals
  builtins := R0.builtins
  co := R0.co
  gen := hgen
  nodup := hnd
  loc := hloc
  split := ⟨r, rfl, by rw [hf]⟩
  cap := by rw [hf]
  prim := by rw [hf]
  bind := by
    intro τ s us vs key ku ws hb hv hk hw
    rw [hf] at hw
    refine bind_c hw rfl fun e hl e2 => ?_
    subst e e2
    cases hk
    have e3 : us.length = ps.length := hv.length.symm.trans hl
    exact ⟨us, hv, e3.symm, kp_binds (In.of ok hb) fun S => b S us e3⟩
end Mine.Internal
end
section
set_option genInjectivity false
open PySem PySem.W PyProof.Rows PySem.Calls
namespace Mine.Internal
noncomputable def noCell (l : Nm) : Bool := l.all fun p => p.2 != .cell
noncomputable def allLoc (l : Nm) (vn : List Str) : Bool := vn.all fun x => l.lookup x == some .local
theorem noCell_ok {l : Nm} (h : noCell l = true) : ∀ x ∈ l, x.2 ≠ .cell := fun x hx => by
  unfold noCell at h
  rw [List.all_eq_true] at h
  simpa using h x hx
theorem allLoc_ok {l : Nm} {vn : List Str} (h : allLoc l vn = true) : ∀ x ∈ vn, l.lookup x = some .local := fun x hx => by
  unfold allLoc at h
  rw [List.all_eq_true] at h
  simpa using h x hx
set_option maxRecDepth 100000
set_option maxHeartbeats 4000000
theorem raw_insort' (q : Params) : Raw q 23 22 := by constructor <;> kernel_rfl
theorem nm_insort' (q : Params) : nmChk insortNm (fdOf q 23).scope.names = true := by kernel_rfl
theorem gen_insort (q : Params) : (fdOf q 23).scope.isGenerator = false := by kernel_rfl
theorem cell_insort (q : Params) : noCell (fdOf q 23).scope.names = true := by kernel_rfl
theorem loc_insort (q : Params) : allLoc (fdOf q 23).scope.names [Str.ofString "a", Str.ofString "x", Str.ofString "lo", Str.ofString "hi", Str.ofString "key"] = true := by kernel_rfl
theorem fact_insort {W : Wd} (ok : W.Ok) : FnFact W 23 insortF (fdOf W.w.params 23) [Str.ofString "a", Str.ofString "x", Str.ofString "lo", Str.ofString "hi", Str.ofString "key"] [Str.ofString "a", Str.ofString "x", Str.ofString "lo", Str.ofString "hi", Str.ofString "key"] (bodyOf W.w.params 23) :=
  fact_key (r := []) ok (raw_insort' _) (noCell_ok (cell_insort _)) (gen_insort _) (allLoc_ok (loc_insort _)) (by decide +kernel) rfl (bind_insort2 _) (bind_insort4 _)
theorem raw_bisect' (q : Params) : Raw q 32 31 := by constructor <;> kernel_rfl
theorem nm_bisect' (q : Params) : nmChk bisectNm (fdOf q 32).scope.names = true := by kernel_rfl
theorem gen_bisect (q : Params) : (fdOf q 32).scope.isGenerator = false := by kernel_rfl
theorem cell_bisect (q : Params) : noCell (fdOf q 32).scope.names = true := by kernel_rfl
theorem loc_bisect (q : Params) : allLoc (fdOf q 32).scope.names [Str.ofString "a", Str.ofString "x", Str.ofString "lo", Str.ofString "hi", Str.ofString "key", Str.ofString "mid"] = true := by kernel_rfl
theorem fact_bisect {W : Wd} (ok : W.Ok) : FnFact W 32 bisectF (fdOf W.w.params 32) [Str.ofString "a", Str.ofString "x", Str.ofString "lo", Str.ofString "hi", Str.ofString "key"] [Str.ofString "a", Str.ofString "x", Str.ofString "lo", Str.ofString "hi", Str.ofString "key", Str.ofString "mid"] (bodyOf W.w.params 32) :=
  fact_key (r := [Str.ofString "mid"]) ok (raw_bisect' _) (noCell_ok (cell_bisect _)) (gen_bisect _) (allLoc_ok (loc_bisect _)) (by decide +kernel) rfl (bind_bisect2 _) (bind_bisect4 _)
theorem raw_strip' (q : Params) : Raw q 46 45 := by constructor <;> kernel_rfl
theorem nm_strip' (q : Params) : nmChk stripNm (fdOf q 46).scope.names = true := by kernel_rfl
theorem gen_strip (q : Params) : (fdOf q 46).scope.isGenerator = false := by kernel_rfl
theorem bind_strip' (q : Params) (S : Setting) (u : Value) : peek (hd.heap_1 q) S (bindArgs (fdOf q 46) ⟨[u], []⟩) = some [(Str.ofString "addr", u)] := by kernel_rfl
theorem cell_strip (q : Params) : noCell (fdOf q 46).scope.names = true := by kernel_rfl
theorem loc_strip (q : Params) : allLoc (fdOf q 46).scope.names [Str.ofString "addr", Str.ofString "start", Str.ofString "open_pos", Str.ofString "result", Str.ofString "pos", Str.ofString "ch"] = true := by kernel_rfl
theorem fact_strip {W : Wd} (ok : W.Ok) : FnFact W 46 stripF (fdOf W.w.params 46) [Str.ofString "addr"] [Str.ofString "addr", Str.ofString "start", Str.ofString "open_pos", Str.ofString "result", Str.ofString "pos", Str.ofString "ch"] (bodyOf W.w.params 46) :=
  fact_plain (ps := [Str.ofString "addr"]) (r := [Str.ofString "start", Str.ofString "open_pos", Str.ofString "result", Str.ofString "pos", Str.ofString "ch"]) ok (raw_strip' _) (noCell_ok (cell_strip _)) (gen_strip _) (allLoc_ok (loc_strip _)) (by decide +kernel) rfl (fun S us h => by obtain ⟨u, rfl⟩ := single h; exact bind_strip' _ S u)
theorem raw_check' (q : Params) : Raw q 53 52 := by constructor <;> kernel_rfl
theorem nm_check' (q : Params) : nmChk checkNm (fdOf q 53).scope.names = true := by kernel_rfl
theorem gen_check (q : Params) : (fdOf q 53).scope.isGenerator = false := by kernel_rfl
theorem bind_check' (q : Params) (S : Setting) (u : Value) : peek (hd.heap_1 q) S (bindArgs (fdOf q 53) ⟨[u], []⟩) = some [(Str.ofString "addr", u)] := by kernel_rfl
theorem cell_check (q : Params) : noCell (fdOf q 53).scope.names = true := by kernel_rfl
theorem loc_check (q : Params) : allLoc (fdOf q 53).scope.names [Str.ofString "addr", Str.ofString "opens", Str.ofString "pos", Str.ofString "ch"] = true := by kernel_rfl
theorem fact_check {W : Wd} (ok : W.Ok) : FnFact W 53 checkF (fdOf W.w.params 53) [Str.ofString "addr"] [Str.ofString "addr", Str.ofString "opens", Str.ofString "pos", Str.ofString "ch"] (bodyOf W.w.params 53) :=
  fact_plain (ps := [Str.ofString "addr"]) (r := [Str.ofString "opens", Str.ofString "pos", Str.ofString "ch"]) ok (raw_check' _) (noCell_ok (cell_check _)) (gen_check _) (allLoc_ok (loc_check _)) (by decide +kernel) rfl (fun S us h => by obtain ⟨u, rfl⟩ := single h; exact bind_check' _ S u)
theorem raw_strxfrm' (q : Params) : Raw q 60 59 := by constructor <;> kernel_rfl
theorem nm_strxfrm' (q : Params) : nmChk strxfrmNm (fdOf q 60).scope.names = true := by kernel_rfl
theorem gen_strxfrm (q : Params) : (fdOf q 60).scope.isGenerator = false := by kernel_rfl
theorem bind_strxfrm' (q : Params) (S : Setting) (u : Value) : peek (hd.heap_1 q) S (bindArgs (fdOf q 60) ⟨[u], []⟩) = some [(Str.ofString "s", u)] := by kernel_rfl
theorem cell_strxfrm (q : Params) : noCell (fdOf q 60).scope.names = true := by kernel_rfl
theorem loc_strxfrm (q : Params) : allLoc (fdOf q 60).scope.names [Str.ofString "s"] = true := by kernel_rfl
theorem fact_strxfrm {W : Wd} (ok : W.Ok) : FnFact W 60 strxfrmF (fdOf W.w.params 60) [Str.ofString "s"] [Str.ofString "s"] (bodyOf W.w.params 60) :=
  fact_plain (ps := [Str.ofString "s"]) (r := []) ok (raw_strxfrm' _) (noCell_ok (cell_strxfrm _)) (gen_strxfrm _) (allLoc_ok (loc_strxfrm _)) (by decide +kernel) rfl (fun S us h => by obtain ⟨u, rfl⟩ := single h; exact bind_strxfrm' _ S u)
theorem raw_cells' (q : Params) : Raw q 74 73 := by constructor <;> kernel_rfl
theorem nm_cells' (q : Params) : nmChk cellsNm (fdOf q 74).scope.names = true := by kernel_rfl
theorem gen_cells (q : Params) : (fdOf q 74).scope.isGenerator = false := by kernel_rfl
theorem bind_cells' (q : Params) (S : Setting) (u : Value) : peek (hd.heap_1 q) S (bindArgs (fdOf q 74) ⟨[u], []⟩) = some [(Str.ofString "script", u)] := by kernel_rfl
theorem cell_cells (q : Params) : noCell (fdOf q 74).scope.names = true := by kernel_rfl
theorem loc_cells (q : Params) : allLoc (fdOf q 74).scope.names [Str.ofString "script", Str.ofString "cells", Str.ofString "k"] = true := by kernel_rfl
theorem fact_cells {W : Wd} (ok : W.Ok) : FnFact W 74 cellsF (fdOf W.w.params 74) [Str.ofString "script"] [Str.ofString "script", Str.ofString "cells", Str.ofString "k"] (bodyOf W.w.params 74) :=
  fact_plain (ps := [Str.ofString "script"]) (r := [Str.ofString "cells", Str.ofString "k"]) ok (raw_cells' _) (noCell_ok (cell_cells _)) (gen_cells _) (allLoc_ok (loc_cells _)) (by decide +kernel) rfl (fun S us h => by obtain ⟨u, rfl⟩ := single h; exact bind_cells' _ S u)
theorem raw_ruler' (q : Params) : Raw q 81 80 := by constructor <;> kernel_rfl
theorem nm_ruler' (q : Params) : nmChk rulerNm (fdOf q 81).scope.names = true := by kernel_rfl
theorem gen_ruler (q : Params) : (fdOf q 81).scope.isGenerator = false := by kernel_rfl
theorem bind_ruler' (q : Params) (S : Setting) (u : Value) : peek (hd.heap_1 q) S (bindArgs (fdOf q 81) ⟨[u], []⟩) = some [(Str.ofString "number", u)] := by kernel_rfl
theorem cell_ruler (q : Params) : noCell (fdOf q 81).scope.names = true := by kernel_rfl
theorem loc_ruler (q : Params) : allLoc (fdOf q 81).scope.names [Str.ofString "number", Str.ofString "first", Str.ofString "second", Str.ofString "third", Str.ofString "kind"] = true := by kernel_rfl
theorem fact_ruler {W : Wd} (ok : W.Ok) : FnFact W 81 rulerF (fdOf W.w.params 81) [Str.ofString "number"] [Str.ofString "number", Str.ofString "first", Str.ofString "second", Str.ofString "third", Str.ofString "kind"] (bodyOf W.w.params 81) :=
  fact_plain (ps := [Str.ofString "number"]) (r := [Str.ofString "first", Str.ofString "second", Str.ofString "third", Str.ofString "kind"]) ok (raw_ruler' _) (noCell_ok (cell_ruler _)) (gen_ruler _) (allLoc_ok (loc_ruler _)) (by decide +kernel) rfl (fun S us h => by obtain ⟨u, rfl⟩ := single h; exact bind_ruler' _ S u)
theorem raw_told' (q : Params) : Raw q 88 87 := by constructor <;> kernel_rfl
theorem nm_told' (q : Params) : nmChk toldNm (fdOf q 88).scope.names = true := by kernel_rfl
theorem gen_told (q : Params) : (fdOf q 88).scope.isGenerator = false := by kernel_rfl
theorem bind_told' (q : Params) (S : Setting) (u : Value) : peek (hd.heap_1 q) S (bindArgs (fdOf q 88) ⟨[u], []⟩) = some [(Str.ofString "ruler", u)] := by kernel_rfl
theorem cell_told (q : Params) : noCell (fdOf q 88).scope.names = true := by kernel_rfl
theorem loc_told (q : Params) : allLoc (fdOf q 88).scope.names [Str.ofString "ruler", Str.ofString "told", Str.ofString "size"] = true := by kernel_rfl
theorem fact_told {W : Wd} (ok : W.Ok) : FnFact W 88 toldF (fdOf W.w.params 88) [Str.ofString "ruler"] [Str.ofString "ruler", Str.ofString "told", Str.ofString "size"] (bodyOf W.w.params 88) :=
  fact_plain (ps := [Str.ofString "ruler"]) (r := [Str.ofString "told", Str.ofString "size"]) ok (raw_told' _) (noCell_ok (cell_told _)) (gen_told _) (allLoc_ok (loc_told _)) (by decide +kernel) rfl (fun S us h => by obtain ⟨u, rfl⟩ := single h; exact bind_told' _ S u)
theorem raw_refused' (q : Params) : Raw q 95 94 := by constructor <;> kernel_rfl
theorem bind_refused (q : Params) (S : Setting) (u : Value) : peek (hd.heap_1 q) S (bindArgs (fdOf q 95) ⟨[u], []⟩) = some [(Str.ofString "ruler", u)] := by kernel_rfl
theorem raw_names' (q : Params) : Raw q 100 99 := by constructor <;> kernel_rfl
theorem nm_names' (q : Params) : nmChk namesNm (fdOf q 100).scope.names = true := by kernel_rfl
theorem gen_names (q : Params) : (fdOf q 100).scope.isGenerator = false := by kernel_rfl
theorem raw_shapes' (q : Params) : Raw q 107 106 := by constructor <;> kernel_rfl
theorem nm_shapes' (q : Params) : nmChk shapesNm (fdOf q 107).scope.names = true := by kernel_rfl
theorem gen_shapes (q : Params) : (fdOf q 107).scope.isGenerator = false := by kernel_rfl
theorem bind_shapes' (q : Params) (S : Setting) (u v w : Value) : peek (hd.heap_1 q) S (bindArgs (fdOf q 107) ⟨[u, v, w], []⟩) = some [(Str.ofString "total", u), (Str.ofString "most", v), (Str.ofString "rows", w)] := by kernel_rfl
theorem cell_shapes (q : Params) : noCell (fdOf q 107).scope.names = true := by kernel_rfl
theorem loc_shapes (q : Params) : allLoc (fdOf q 107).scope.names [Str.ofString "total", Str.ofString "most", Str.ofString "rows", Str.ofString "shapes", Str.ofString "size", Str.ofString "rest"] = true := by kernel_rfl
theorem fact_shapes {W : Wd} (ok : W.Ok) : FnFact W 107 shapesF (fdOf W.w.params 107) [Str.ofString "total", Str.ofString "most", Str.ofString "rows"] [Str.ofString "total", Str.ofString "most", Str.ofString "rows", Str.ofString "shapes", Str.ofString "size", Str.ofString "rest"] (bodyOf W.w.params 107) :=
  fact_plain (ps := [Str.ofString "total", Str.ofString "most", Str.ofString "rows"]) (r := [Str.ofString "shapes", Str.ofString "size", Str.ofString "rest"]) ok (raw_shapes' _) (noCell_ok (cell_shapes _)) (gen_shapes _) (allLoc_ok (loc_shapes _)) (by decide +kernel) rfl (fun S us h => by obtain ⟨u, v, w, rfl⟩ := three h; exact bind_shapes' _ S u v w)
theorem raw_filled' (q : Params) : Raw q 112 111 := by constructor <;> kernel_rfl
theorem nm_filled' (q : Params) : nmChk filledNm (fdOf q 112).scope.names = true := by kernel_rfl
theorem gen_filled (q : Params) : (fdOf q 112).scope.isGenerator = false := by kernel_rfl
theorem bind_filled' (q : Params) (S : Setting) (u v : Value) : peek (hd.heap_1 q) S (bindArgs (fdOf q 112) ⟨[u, v], []⟩) = some [(Str.ofString "shape", u), (Str.ofString "sizes", v)] := by kernel_rfl
theorem cell_filled (q : Params) : noCell (fdOf q 112).scope.names = true := by kernel_rfl
theorem loc_filled (q : Params) : allLoc (fdOf q 112).scope.names [Str.ofString "shape", Str.ofString "sizes", Str.ofString "table", Str.ofString "rows", Str.ofString "letter", Str.ofString "old", Str.ofString "need", Str.ofString "k"] = true := by kernel_rfl
theorem fact_filled {W : Wd} (ok : W.Ok) : FnFact W 112 filledF (fdOf W.w.params 112) [Str.ofString "shape", Str.ofString "sizes"] [Str.ofString "shape", Str.ofString "sizes", Str.ofString "table", Str.ofString "rows", Str.ofString "letter", Str.ofString "old", Str.ofString "need", Str.ofString "k"] (bodyOf W.w.params 112) :=
  fact_plain (ps := [Str.ofString "shape", Str.ofString "sizes"]) (r := [Str.ofString "table", Str.ofString "rows", Str.ofString "letter", Str.ofString "old", Str.ofString "need", Str.ofString "k"]) ok (raw_filled' _) (noCell_ok (cell_filled _)) (gen_filled _) (allLoc_ok (loc_filled _)) (by decide +kernel) rfl (fun S us h => by obtain ⟨u, v, rfl⟩ := two h; exact bind_filled' _ S u v)
theorem raw_bill' (q : Params) : Raw q 119 118 := by constructor <;> kernel_rfl
theorem nm_bill' (q : Params) : nmChk billNm (fdOf q 119).scope.names = true := by kernel_rfl
theorem gen_bill (q : Params) : (fdOf q 119).scope.isGenerator = false := by kernel_rfl
theorem bind_bill' (q : Params) (S : Setting) (u v w x : Value) : peek (hd.heap_1 q) S (bindArgs (fdOf q 119) ⟨[u, v, w, x], []⟩) = some [(Str.ofString "shape", u), (Str.ofString "names", v), (Str.ofString "sizes", w), (Str.ofString "fall", x)] := by kernel_rfl
theorem cell_bill (q : Params) : noCell (fdOf q 119).scope.names = true := by kernel_rfl
theorem loc_bill (q : Params) : allLoc (fdOf q 119).scope.names [Str.ofString "shape", Str.ofString "names", Str.ofString "sizes", Str.ofString "fall", Str.ofString "text", Str.ofString "k", Str.ofString "inner"] = true := by kernel_rfl
theorem fact_bill {W : Wd} (ok : W.Ok) : FnFact W 119 billF (fdOf W.w.params 119) [Str.ofString "shape", Str.ofString "names", Str.ofString "sizes", Str.ofString "fall"] [Str.ofString "shape", Str.ofString "names", Str.ofString "sizes", Str.ofString "fall", Str.ofString "text", Str.ofString "k", Str.ofString "inner"] (bodyOf W.w.params 119) :=
  fact_plain (ps := [Str.ofString "shape", Str.ofString "names", Str.ofString "sizes", Str.ofString "fall"]) (r := [Str.ofString "text", Str.ofString "k", Str.ofString "inner"]) ok (raw_bill' _) (noCell_ok (cell_bill _)) (gen_bill _) (allLoc_ok (loc_bill _)) (by decide +kernel) rfl (fun S us h => by obtain ⟨u, v, w, x, rfl⟩ := four h; exact bind_bill' _ S u v w x)
theorem raw_laid' (q : Params) : Raw q 126 125 := by constructor <;> kernel_rfl
theorem nm_laid' (q : Params) : nmChk laidNm (fdOf q 126).scope.names = true := by kernel_rfl
theorem gen_laid (q : Params) : (fdOf q 126).scope.isGenerator = false := by kernel_rfl
theorem bind_laid' (q : Params) (S : Setting) (u : Value) : peek (hd.heap_1 q) S (bindArgs (fdOf q 126) ⟨[u], []⟩) = some [(Str.ofString "word", u)] := by kernel_rfl
theorem cell_laid (q : Params) : noCell (fdOf q 126).scope.names = true := by kernel_rfl
theorem loc_laid (q : Params) : allLoc (fdOf q 126).scope.names [Str.ofString "word", Str.ofString "table", Str.ofString "name", Str.ofString "level", Str.ofString "place", Str.ofString "out"] = true := by kernel_rfl
theorem fact_laid {W : Wd} (ok : W.Ok) : FnFact W 126 laidF (fdOf W.w.params 126) [Str.ofString "word"] [Str.ofString "word", Str.ofString "table", Str.ofString "name", Str.ofString "level", Str.ofString "place", Str.ofString "out"] (bodyOf W.w.params 126) :=
  fact_plain (ps := [Str.ofString "word"]) (r := [Str.ofString "table", Str.ofString "name", Str.ofString "level", Str.ofString "place", Str.ofString "out"]) ok (raw_laid' _) (noCell_ok (cell_laid _)) (gen_laid _) (allLoc_ok (loc_laid _)) (by decide +kernel) rfl (fun S us h => by obtain ⟨u, rfl⟩ := single h; exact bind_laid' _ S u)
theorem raw_law' (q : Params) : Raw q 131 130 := by constructor <;> kernel_rfl
theorem nm_law' (q : Params) : nmChk lawNm (fdOf q 131).scope.names = true := by kernel_rfl
theorem gen_law (q : Params) : (fdOf q 131).scope.isGenerator = false := by kernel_rfl
end Mine.Internal
end
section
set_option genInjectivity false
open PySem PySem.W PyProof.Rows PySem.Calls
namespace Mine.Internal
noncomputable def locAt (fd : FuncData) (L : Addr) (x : Str) : Loc := match fd.scope.names.lookup x with
  | some .cell => .cell (((cellsFrom (L + 1) fd.scope.names []).lookup x).getD 0) true
  | _ => .dict L x
theorem locAt_l {fd : FuncData} {L : Addr} {x : Str} (k : fd.scope.names.lookup x = some .local) : locAt fd L x = .dict L x := by
  delta locAt
  rw [k]
theorem locAt_c {fd : FuncData} {L : Addr} {x : Str} {cx : Addr} (k : fd.scope.names.lookup x = some .cell) (h : (cellsFrom (L + 1) fd.scope.names []).lookup x = some cx) : locAt fd L x = .cell cx true := by
  delta locAt
  rw [k, h]; rfl
theorem locAt_tab {fd : FuncData} {L P : Addr} {x : Str} (e : locAt fd L x = .tab P) : False := by
  delta locAt at e
  cases q : fd.scope.names.lookup x with
  | none => rw [q] at e; cases e
  | some a => rw [q] at e; cases a <;> cases e
theorem locAt_own {fd : FuncData} {L : Addr} {x : Str} : (locAt fd L x).own = true := by
  delta locAt
  cases fd.scope.names.lookup x with
  | none => rfl
  | some a => cases a <;> rfl
noncomputable def cfCx (fd : FuncData) (vn : List Str) (L a : Addr) : Cx := ⟨callEnvC fd L a, vn.map (locAt fd L), vn.zipIdx, vn.length⟩
theorem bindL_fn {k : Str → Option NameKind} {p : Str} {u : Value} {m : Str → Option Value} (h : k p = some .local) : bindL k [(p, u)] m = fun y => if y = p then some u else m y := if_pos h
theorem bindC_fn {k : Str → Option NameKind} {p : Str} {u : Value} {m : Str → Option Value} (h : k p = some .local) : bindC k [(p, u)] m = m := if_pos h
theorem bindL_one {k : Str → Option NameKind} {p : Str} {u : Value} {m : Str → Option Value} (h : k p = some .local) : bindL k [(p, u)] m p = some u := by
  rw [bindL_fn h]
  exact if_pos rfl
structure CellFact (W : Wd) (a : Addr) (fd : FuncData) (p : Str) (r : List Str) (body : List Stmt) : Prop where
  obj : ∀ h : Heap, (∀ b o, W.B b o → h.get? b = some o) → ∃ o, h.get? a = some o ∧ o.data = .func fd ∧ h.CodeRec fd.code fd.qualname
  body : fd.body = .stmts body
  kind : fd.scope.kind = .function
  globals : fd.globals = mainGlobals
  builtins : fd.builtins = builtinsNs
  co : fd.scope.isCoroutine = false
  gen : fd.scope.isGenerator = false
  clo : fd.closure = []
  nodup : (p :: r).Nodup
  par : fd.scope.names.lookup p = some .local
  loc : ∀ x ∈ p :: r, fd.scope.names.lookup x = some .local ∨ (fd.scope.names.lookup x = some .cell ∧ ∀ L, ((cellsFrom (L + 1) fd.scope.names []).lookup x).isSome = true)
  bind : ∀ u, bindArgs fd ⟨[u], []⟩ = pure [(p, u)]
section
variable {W : Wd} {c : Cx} {N : Nat} {st st1 st2 st3 st4 : PS} {τ τ' : Tau} {ls ls' : List Loc} {s : Shared} {h h' : Heap} {F : Addr → Option Fn}
theorem cfCx_ok {a : Addr} {fd : FuncData} {p : Str} {r : List Str} {body : List Stmt} (X : CellFact W a fd p r body) {L : Addr} (hap : (cellsFrom (L + 1) fd.scope.names []).Pairwise fun x y => x.2 ≠ y.2) : (cfCx fd (p :: r) L a).Ok where
  kind := X.kind
  glob := X.globals
  blt := X.builtins
  nodup := by
    have hnd := X.nodup
    have inj : ∀ x ∈ p :: r, ∀ y ∈ p :: r, locAt fd L x = locAt fd L y → x = y := fun x hx y hy e => by
      rcases X.loc x hx with k | ⟨k, k'⟩ <;> rcases X.loc y hy with q | ⟨q, q'⟩
      · rw [locAt_l k, locAt_l q] at e; exact (Loc.dict.inj e).2
      · obtain ⟨cy, hy'⟩ := Option.isSome_iff_exists.mp (q' L)
        rw [locAt_l k, locAt_c q hy'] at e; cases e
      · obtain ⟨cx, hx'⟩ := Option.isSome_iff_exists.mp (k' L)
        rw [locAt_c k hx', locAt_l q] at e; cases e
      · obtain ⟨cx, hx'⟩ := Option.isSome_iff_exists.mp (k' L)
        obtain ⟨cy, hy'⟩ := Option.isSome_iff_exists.mp (q' L)
        rw [locAt_c k hx', locAt_c q hy'] at e
        have e'' := (Loc.cell.inj e).1
        subst e''
        exact name_of_addr hap (mem_of_lookup hx') (mem_of_lookup hy')
    show ((p :: r).map (locAt fd L)).Nodup
    have gen : ∀ l : List Str, l.Nodup → (∀ x ∈ l, x ∈ p :: r) → (l.map (locAt fd L)).Nodup := by
      intro l
      induction l with
      | nil => intro _ _; exact .nil
      | cons x t ih =>
        intro hn hm
        have hn' := List.nodup_cons.mp hn
        rw [List.map_cons]
        refine List.nodup_cons.mpr ⟨fun q => ?_, ih hn'.2 fun y hy => hm y (.tail _ hy)⟩
        obtain ⟨y, hy, e⟩ := List.mem_map.mp q
        have := inj y (hm y (.tail _ hy)) x (hm x (.head _)) e
        subst this
        exact hn'.1 hy
    exact gen _ hnd fun _ hx => hx
  cells := fun a b b' e1 e2 => by
    have : ∀ b, Loc.cell a b ∈ (p :: r).map (locAt fd L) → b = true := fun b e => by
      obtain ⟨x, hx, e⟩ := List.mem_map.mp e
      have w := locAt_own (fd := fd) (L := L) (x := x)
      rw [e] at w
      exact w
    rw [this b e1, this b' e2]
  own := fun i l _ e => by
    have e' : ((p :: r).map (locAt fd L))[i]? = some l := e
    rw [List.getElem?_map] at e'
    cases q : (p :: r)[i]? with
    | none => rw [q] at e'; cases e'
    | some x =>
      rw [q] at e'
      cases e'
      exact locAt_own
  inj := fun x y i e1 e2 => by
    have h1 := zip_at e1
    have h2 := zip_at e2
    rw [h1] at h2; cases h2; rfl
  ix := fun x i e => by
    have hx := zip_at e
    have hm := List.mem_of_getElem? hx
    have hl : (cfCx fd (p :: r) L a).ls[i]? = some (locAt fd L x) := by
      show ((p :: r).map (locAt fd L))[i]? = _
      rw [List.getElem?_map, hx]; rfl
    rcases X.loc x hm with k | ⟨k, k'⟩
    · refine .inl ⟨k, hl.trans ?_⟩
      exact congrArg some (locAt_l k)
    · obtain ⟨cx, hx'⟩ := Option.isSome_iff_exists.mp (k' L)
      refine .inr ⟨.inl k, cx, true, hx', hl.trans ?_⟩
      exact congrArg some (locAt_c k hx')
theorem cf_frame {a : Addr} {fd : FuncData} {p : Str} {r : List Str} {body : List Stmt} (X : CellFact W a fd p r body) {u : Value} (v : V) {s₁ : Shared}
    (x : InCallC s (callEnvC fd s.heap.objs.size a).locals (bindL (callEnvC fd s.heap.objs.size a).kindOf [(p, u)] fun _ => none) (callEnvC fd s.heap.objs.size a).cells (bindC (callEnvC fd s.heap.objs.size a).kindOf [(p, u)] fun _ => none) s₁) :
    ∃ (fx : Addr → Bool) (h' : Heap) (tk : Nat), s₁ = { s with heap := h', toks := tk } ∧ (cfCx fd (p :: r) s.heap.objs.size a).Ok ∧ (∀ b o, s.heap.get? b = some o → h'.get? b = some o) ∧
      (∀ b, fx b = true → s.heap.get? b = none ∧ ∃ o, h'.get? b = some o ∧ ∀ xs n, o.data ≠ .seq xs n) ∧
      (∀ τ2 : Tau, (∀ b, fx b = true → τ2 b = .fix) → ∀ l ∈ (cfCx fd (p :: r) s.heap.objs.size a).ls, LocOk τ2 h' l) ∧
      ∀ (i : Nat) w, (some v :: List.replicate r.length .none)[i]? = some (some w) → w = v ∧ ∃ loc, (cfCx fd (p :: r) s.heap.objs.size a).ls[i]? = some loc ∧ LocHas h' loc u := by
  have ok := cfCx_ok (a := a) X (L := s.heap.objs.size) x.apart
  have hL : ∀ n cc, (n, cc) ∈ cellsFrom (s.heap.objs.size + 1) fd.scope.names [] → s.heap.objs.size < cc := x.above
  have hcell : ∀ n cc, (cellsFrom (s.heap.objs.size + 1) fd.scope.names []).lookup n = some cc → s₁.heap.IsCell cc (bindC (callEnvC fd s.heap.objs.size a).kindOf [(p, u)] (fun _ => none) n) := x.cell
  have hns : s₁.heap.Ns s.heap.objs.size (bindL (callEnvC fd s.heap.objs.size a).kindOf [(p, u)] fun _ => none) := x.toInCall.ns
  obtain ⟨h', tk, e⟩ := x.toInCall.same
  have hk : ∀ b o, s.heap.get? b = some o → h'.get? b = some o := fun b o q => by
    have := x.toInCall.keep b o q
    rw [e] at this; exact this
  have hh : s₁.heap = h' := by rw [e]
  clear x
  rw [hh] at hcell hns
  refine ⟨fun b => decide (b = s.heap.objs.size) || (p :: r).any fun y => (fd.scope.names.lookup y == some .cell) && ((cellsFrom (s.heap.objs.size + 1) fd.scope.names []).lookup y == some b), h', tk, e, ok, hk, fun b hb => ?_, fun τ2 hf l hl => ?_, fun i w hw => ?_⟩
  · simp only [Bool.or_eq_true, decide_eq_true_eq, List.any_eq_true, Bool.and_eq_true] at hb
    rcases hb with rfl | ⟨y, hy, h1, h2⟩
    · obtain ⟨o, es, ep, g1, g2, _⟩ := id hns
      exact ⟨get_size _, o, g1, fun xs n => by rw [g2]; exact fun z => nomatch z⟩
    · have h2' : (cellsFrom (s.heap.objs.size + 1) fd.scope.names []).lookup y = some b := by simpa using h2
      obtain ⟨o, g1, g2⟩ := hcell y b h2'
      refine ⟨?_, o, g1, fun xs n => by rw [g2]; exact fun z => nomatch z⟩
      cases e : s.heap.get? b with
      | none => rfl
      | some o => exact absurd (Heap.lt_size e) (Nat.not_lt.mpr (Nat.le_of_lt (hL y b (mem_of_lookup h2'))))
  · obtain ⟨y, hy, rfl⟩ := List.mem_map.mp hl
    rcases X.loc y hy with k | ⟨k, k'⟩
    · have : locAt fd s.heap.objs.size y = .dict s.heap.objs.size y := locAt_l k
      rw [this]
      exact ⟨hf _ (by simp), _, hns⟩
    · obtain ⟨cy, hy'⟩ := Option.isSome_iff_exists.mp (k' s.heap.objs.size)
      have : locAt fd s.heap.objs.size y = .cell cy true := locAt_c k hy'
      rw [this]
      refine ⟨.inl (hf _ ?_), _, hcell y cy hy'⟩
      simp only [Bool.or_eq_true, List.any_eq_true, Bool.and_eq_true]
      exact .inr ⟨y, hy, by rw [k]; rfl, by rw [hy']; simp⟩
  · cases i with
    | zero =>
      simp only [List.getElem?_cons_zero, Option.some.injEq] at hw
      cases hw
      have hps : (callEnvC fd s.heap.objs.size a).kindOf p = some .local := X.par
      refine ⟨rfl, .dict s.heap.objs.size p, ?_, ⟨_, hns, ?_⟩⟩
      · show ((p :: r).map (locAt fd s.heap.objs.size))[0]? = _
        rw [List.map_cons, List.getElem?_cons_zero, locAt_l X.par]
      · exact bindL_one hps
    | succ i =>
      simp only [List.getElem?_cons_succ, List.getElem?_replicate] at hw
      split at hw <;> cases hw
theorem cf_enter {a : Addr} {fd : FuncData} {p : Str} {r : List Str} {body : List Stmt} (X : CellFact W a fd p r body) (R0 : R W τ ls st s) {u : Value} {v : V} (hv : VR τ s.heap v u) {s₁ : Shared}
    (x : InCallC s (callEnvC fd s.heap.objs.size a).locals (bindL (callEnvC fd s.heap.objs.size a).kindOf [(p, u)] fun _ => none) (callEnvC fd s.heap.objs.size a).cells (bindC (callEnvC fd s.heap.objs.size a).kindOf [(p, u)] fun _ => none) s₁) :
    ∃ fx : Addr → Bool, (∀ b, fx b = true → s.heap.get? b = none) ∧ R W (into τ fx) (cfCx fd (p :: r) s.heap.objs.size a).ls ⟨some v :: List.replicate r.length .none, st.own⟩ s₁ ∧ (cfCx fd (p :: r) s.heap.objs.size a).Ok ∧
      ∀ b o, s.heap.get? b = some o → s₁.heap.get? b = some o := by
  obtain ⟨fx, h', tk, rfl, okc, hk, hfx, hlo, hva⟩ := cf_frame X v x
  exact ⟨fx, fun b hb => (hfx b hb).1, R0.enter hk hfx (hlo _ fun b hb => into_t hb) (fun i w hw => by
    obtain ⟨rfl, loc, h1, h2⟩ := hva i w hw
    exact ⟨loc, u, h1, h2, hv⟩), okc, hk⟩
theorem newEnv_one {M : Model} {A : Around} {E : Value → Shared → Prop} {scope : Scope} {globals : Addr} {p : Str} {u : Value} {qual : Str} {func : Option Addr} {code : Value} {builtins : Addr} {Q : Env → Shared → Prop}
    (hk : scope.kind = .function) (hp : scope.names.lookup p = some .local)
    (hQ : ∀ env, env = newEnv scope s.heap.objs.size globals (cellsFrom (s.heap.objs.size + 1) scope.names []) qual func code none builtins →
      ∀ s', 0 < s'.toks → InCallC s env.locals (bindL env.kindOf [(p, u)] fun _ => none) env.cells (bindC env.kindOf [(p, u)] fun _ => none) s' → Q env s') :
    wpAny M A (newFunctionEnv scope globals [] [(p, u)] qual func code none builtins) Q E s := by
  simp -iota only [newFunctionEnv, Option.isSome_none, Bool.false_eq_true, if_false]
  refine wpAny_bind (wpAny_alloc ?_)
  refine wpAny_bind (wpAny_layCells _ (fun name kind cells => by cases hkc : kind == NameKind.cell <;> simp [hkc]) _ _ _ _ ?_)
  have ok := cellsFrom_ok scope.names (s.heap.push { cls := .type "frame", data := .dict #[] }) (s.heap.objs.size + 1) [] ⟨fun _ _ hm => (nomatch hm), List.Pairwise.nil⟩ (by rw [Heap.size_push]; exact Nat.le_refl _)
  rw [Heap.size_push] at ok
  rw [show ({ s with heap := s.heap.push { cls := .type "frame", data := .dict #[] } } : Shared).heap.objs.size = s.heap.objs.size + 1 from Heap.size_push ..]
  have x : InCallC s s.heap.objs.size (fun _ => none) (cellsFrom (s.heap.objs.size + 1) scope.names []) (fun _ => none) { s with heap := pushCells (s.heap.push { cls := .type "frame", data := .dict #[] }) scope.names } :=
    ⟨⟨⟨_, _, rfl⟩, (Heap.Ns.new s.heap (.type "frame")).keeps (pushCells_keeps _ _), fun b o e => pushCells_keeps _ _ b o (Heap.get?_push_of_some _ e), Nat.le_refl _⟩,
      fun n c hc => (ok.empty n c (mem_of_lookup hc)).1, ok.apart, fun n c hm => (ok.empty n c hm).2⟩
  have hl : (newEnv scope s.heap.objs.size globals (cellsFrom (s.heap.objs.size + 1) scope.names []) qual func code none builtins).kindOf p = some .local := hp
  rw [List.forIn_cons]
  refine wpAny_bind (wpAny_bind (wpAny_bind (wpAny_storeName_local (env := newEnv scope s.heap.objs.size globals (cellsFrom (s.heap.objs.size + 1) scope.names []) qual func code none builtins) hl x.toInCall.ns (fun h' hn' hs' => ?_) (by
    show (scope.kind == .class || (scope.kind == .module && _)) = false
    rw [hk]; rfl))))
  refine wpAny_pure ?_
  simp -iota only [List.forIn_nil]
  refine wpAny_pure (wpAny_pure (hQ _ rfl _ (Nat.succ_pos _) ⟨⟨⟨h', _, rfl⟩, ?_, fun b o e => ?_, Nat.le_refl _⟩, fun k c hc => ?_, x.apart, x.above⟩))
  · rw [bindL_fn hl]
    exact hn'
  · exact hs'.extBut b o (Nat.ne_of_lt (Heap.lt_size e)) (x.toInCall.keep b o e)
  · rw [bindC_fn hl]
    exact (x.cell k c hc).sameBut hs' (Nat.ne_of_gt (x.above k c (mem_of_lookup hc)))
theorem code_cells {A : Around} {Rr : Result → Shared → Prop} {a : Addr} {o : Obj} {fd : FuncData} {p : Str} {r : List Str} {body : List Stmt} (X : CellFact W a fd p r body) {u : Value}
    (hroom : A.depth < recursionLimit) (ho : s.heap.get? a = some o) (hdata : o.data = .func fd) (hlim : s.heap.NoLimit) (hcd : s.heap.CodeRec fd.code fd.qualname)
    (h : ∀ s₁, 0 < s₁.toks → InCallC s (callEnvC fd s.heap.objs.size a).locals (bindL (callEnvC fd s.heap.objs.size a).kindOf [(p, u)] fun _ => none) (callEnvC fd s.heap.objs.size a).cells (bindC (callEnvC fd s.heap.objs.size a).kindOf [(p, u)] fun _ => none) s₁ →
      wpAny (model pw W.w) (A.deeper (callEnvC fd s.heap.objs.size a)) (execs body (callEnvC fd s.heap.objs.size a)) (fun f s' => Rr (.ok (.ret (match f with | .ret v => v | _ => .none))) s')
        (fun e s' => wpAny (model pw W.w) (A.deeper (callEnvC fd s.heap.objs.size a)) (leaving (callEnvC fd s.heap.objs.size a) e) (fun _ s'' => Rr (.error e) s'') (fun e' s'' => Rr (.error e') s'') s') s₁) :
    codeAny (model pw W.w) A (.call (.ref a) ⟨[u], []⟩) Rr s := by
  refine codeAny_call_function hroom ho hdata X.co X.gen X.body hcd ?_
  rw [X.bind u, X.clo]
  refine wpAny_pure (newEnv_one X.kind X.par fun env he s' tk x => ?_)
  subst he
  exact ⟨hlim.keeps x.toInCall.keep, codeAny_func (h s' tk x)⟩
theorem call_cells {a : Addr} {f : Fn} {fd : FuncData} {p : Str} {r : List Str} {body : List Stmt} {n : Nat} {vs : List V} {key : Option V} {v : V} (X : CellFact W a fd p r body) (hf : f = ⟨1, [], false, r.length, [], false, f.body⟩)
    (hbody : ∀ L, (cfCx fd (p :: r) L a).Ok → ∀ sa g sb, evSs F n f.body sa = some (g, sb) → TS W (cfCx fd (p :: r) L a) n sa body g sb) (hF : F a = some f) (he : evC F (n + 1) a vs key st = some (v, st1)) : CallOk W (n + 1) a vs key st v st1 := by
  intro A τ ls s Q E us ku hA R0 ht hus hku hQ
  refine bd_c he fun f' hf' he1 => bd_c he1 fun ws hws he2 => ?_
  clear he he1
  cases hF.symm.trans hf'
  clear hf'
  refine bind_c hws (by rw [hf]) fun e hl e2 => ?_
  rw [hf] at hl
  subst e e2
  rw [hf] at he2
  clear hws
  · cases hku
    · obtain ⟨w, rfl⟩ := single hl
      obtain ⟨u, rfl, hu⟩ := hus.one
      have hbase : ∀ b o, W.B b o → s.heap.get? b = some o := fun b o e => (R0.base b o e).1
      obtain ⟨o, ho, hdata, hcode⟩ := X.obj s.heap hbase
      obtain ⟨loose, mean, mg, mb, T⟩ := R0.ok.T
      have hlim : s.heap.NoLimit := T.nolimit.keeps fun b o e => hbase b o (.inl e)
      refine wpAny_call (code_cells X hA.room ho hdata hlim hcode fun s₁ tk1 x2 => ?_)
      obtain ⟨fx, h', tk, rfl, okc, hk, hfx, hlo, hva⟩ := cf_frame X w x2
      have hb := hbody s.heap.objs.size okc
      clear x2 hbody hlim hcode hdata ho
      cases w with
      | d x =>
        refine callOf_c he2 rfl (fun sx _ hout e => ?_) fun sx hD _ _ => nomatch hD
        · subst e
          obtain ⟨g, ve, se, hev, hout, hr⟩ := outOf_some hout
          exact hb _ _ _ hev okc (A.deeper _) _ _ _ _ hA.deeper (R0.enterD hk hfx (hlo _ fun b hb => intoD_t hb) (fun i w hw => by
            obtain ⟨rfl, loc, h1, h2⟩ := hva i w hw
            exact ⟨x, loc, u, rfl, h1, h2, hu⟩)) tk1 fun τ1 s1 f' t1 x1 R1 hf => endD R0 hk (fun b hb => (hfx b hb).1) hout hQ t1 x1 R1 (hr _ _ _ hf)
      | ref m =>
        refine callOf_c he2 rfl (fun sx hD _ _ => nomatch hD) fun sx _ hout e => ?_
        · subst e
          obtain ⟨g, ve, se, hev, hout, hr⟩ := outOf_some hout
          exact hb _ _ _ hev okc (A.deeper _) _ _ _ _ hA.deeper (R0.enter hk hfx (hlo _ fun b hb => into_t hb) (fun i w hw => by
            obtain ⟨rfl, loc, h1, h2⟩ := hva i w hw
            exact ⟨loc, u, h1, h2, hu⟩)) tk1 fun τ1 s1 f' t1 x1 R1 hf => endF R0 hk (fun b hb => (hfx b hb).1) hout hQ t1 x1 R1 (hr _ _ _ hf)
end
end Mine.Internal
end
section
set_option genInjectivity false
open PySem PySem.W PyProof.Rows PySem.Calls
namespace Mine.Internal
inductive FnOk (W : Wd) : Addr → Fn → Prop
  | plain {a f fd ps vn body nm} : FnFact W a f fd ps vn body → nmChk nm fd.scope.names = true → IsSs nm vn.zipIdx vn.length f.body body → FnOk W a f
  | cells {a f fd p r body nm} : CellFact W a fd p r body → f = ⟨1, [], false, r.length, [], false, f.body⟩ → nmChk nm fd.scope.names = true → IsSs nm (p :: r).zipIdx (p :: r).length f.body body → FnOk W a f
  | prim {a b} : (∀ n st v l, items st v = some l → l.length < 1000 → CallOk W (n + 1) a [v] Option.none st (.d (.bool true)) st) → FnOk W a ⟨1, [], false, 0, [], true, b⟩
  | hand {a f} : f.prim = false → (∀ F n vs key st v st', Snd W F n → F a = some f → evC F (n + 1) a vs key st = some (v, st') → CallOk W (n + 1) a vs key st v st') → FnOk W a f
theorem hcall {W : Wd} {F : Addr → Option Fn} (h : ∀ a f, F a = some f → FnOk W a f) : HCall W F := by
  intro n S a vs key st v st' he
  obtain ⟨f, hF⟩ := evC_fn he
  cases h a f hF with
  | plain X hn his => exact call_ok X (fun L sa g sb hs => S.ss ⟨fnCx_ok X L, fun x k e => .inl (nmChk_ok hn e), rfl, by simp [fnCx]⟩ his hs) hF he
  | cells X hf hn his => exact call_cells X hf (fun L ok sa g sb hs => S.ss ⟨ok, fun x k e => .inl (nmChk_ok hn e), rfl, by simp [cfCx]⟩ his hs) hF he
  | prim hp =>
    refine bd_c he fun f' hf' he => bd_c he fun ws hws he => ?_
    cases hF.symm.trans hf'
    refine bind_c hws rfl fun e hl e2 => ?_
    subst e e2
    obtain ⟨w, rfl⟩ := single hl
    exact bd_c (x := items st w) he fun l hl he => gd_c he fun h6 he => by cases he; exact hp n _ _ l hl h6
  | hand _ hh => exact hh F n vs key st v st' S hF he
set_option maxRecDepth 100000
set_option maxHeartbeats 4000000
theorem bindp_names (q : Params) (u : Value) : bindArgs (fdOf q 100) ⟨[u], []⟩ = pure [(Str.ofString "number", u)] := by kernel_rfl
theorem clo_names (q : Params) : (fdOf q 100).closure = [] := by kernel_rfl
theorem par_names (q : Params) : (fdOf q 100).scope.names.lookup (Str.ofString "number") = some .local := by kernel_rfl
theorem loc_names (q : Params) : allLoc (fdOf q 100).scope.names [Str.ofString "number", Str.ofString "typed", Str.ofString "left", Str.ofString "k"] = true := by kernel_rfl
theorem cel_names (q : Params) : (fdOf q 100).scope.names.lookup (Str.ofString "picked") = some .cell := by kernel_rfl
theorem cls_names (q : Params) (L : Nat) : ((cellsFrom (L + 1) (fdOf q 100).scope.names []).lookup (Str.ofString "picked")).isSome = true := by kernel_rfl
theorem fact_names {W : Wd} (ok : W.Ok) : CellFact W 100 (fdOf W.w.params 100) (Str.ofString "number") [Str.ofString "typed", Str.ofString "left", Str.ofString "picked", Str.ofString "k"] (bodyOf W.w.params 100) where
  obj := (raw_names' _).obj ok
  body := (raw_names' _).body
  kind := (raw_names' _).kind
  globals := (raw_names' _).globals
  builtins := (raw_names' _).builtins
  co := (raw_names' _).co
  gen := gen_names _
  clo := clo_names _
  nodup := by decide +kernel
  par := par_names _
  loc := fun x hx => by
    have hl := allLoc_ok (loc_names W.w.params)
    rcases List.mem_cons.mp hx with rfl | hx
    · exact .inl (hl _ (.head _))
    rcases List.mem_cons.mp hx with rfl | hx
    · exact .inl (hl _ (.tail _ (.head _)))
    rcases List.mem_cons.mp hx with rfl | hx
    · exact .inl (hl _ (.tail _ (.tail _ (.head _))))
    rcases List.mem_cons.mp hx with rfl | hx
    · exact .inr ⟨cel_names _, cls_names _⟩
    rcases List.mem_cons.mp hx with rfl | hx
    · exact .inl (hl _ (.tail _ (.tail _ (.tail _ (.head _)))))
    cases hx
  bind := bindp_names _
end Mine.Internal
end
section
set_option genInjectivity false
open PySem PySem.W PyProof.Rows PySem.Calls
namespace Mine.Internal
section
variable {W : Wd} {c : Cx} {nm : Nm} {ix : Ix} {cap n : Nat} {st st1 st2 : PS} {τ : Tau} {ls : List Loc} {s : Shared} {F : Addr → Option Fn}
theorem R.forget (r : R W τ ls st s) (i : Nat) : R W τ ls { st with vars := st.vars.set i .none } s :=
  { r with vars := fun j v e => r.vars j v (by
      by_cases h : i = j
      · subst h
        rw [List.getElem?_set] at e
        simp only [if_true] at e
        split at e <;> cases e
      · rw [List.getElem?_set_ne h] at e; exact e) }
theorem R.put (r : R W τ ls st s) {i : Nat} {v : V} {loc : Loc} {rv : Value} (h1 : ls[i]? = some loc) (h2 : LocHas s.heap loc rv) (h3 : VR τ s.heap v rv) : R W τ ls { st with vars := st.vars.set i (some v) } s :=
  ⟨r.ok, r.dr, r.os, r.gens, r.hgens, r.base, r.own, r.uniq, r.bound, r.held, r.alive, r.locs, (fun j u e => by
      dsimp only at e
      by_cases h : i = j
      · subst h
        rw [List.getElem?_set] at e
        simp only [if_true] at e
        split at e
        · cases e; exact ⟨loc, rv, h1, h2, h3⟩
        · cases e
      · rw [List.getElem?_set_ne h] at e
        exact r.vars j u e), r.fixed⟩
end
end Mine.Internal
end
section
set_option genInjectivity false
open PySem PySem.W PyProof.Rows PySem.Calls
namespace Mine.Internal
section
variable {W : Wd} {c : Cx} {N : Nat} {st st1 st2 st3 st4 : PS} {τ τ' : Tau} {ls ls' : List Loc} {s : Shared} {h h' : Heap} {F : Addr → Option Fn}
theorem R.first (ok : W.Ok) (hh : ∀ g, W.hg g = none) (hs1 : s.drawn = W.dr) (hs2 : s.os = W.os) (hg : s.gens = #[]) (hb : ∀ a o, W.B a o → s.heap.get? a = some o) : R W (fun _ => .none) [] ⟨[], []⟩ s :=
  ⟨ok, hs1, hs2, .of_eq hg, fun g gs e => (by rw [hh] at e; cases e), fun a o e => ⟨hb a o e, rfl⟩, fun n l e => by simp at e, fun _ _ _ e => (nomatch e), fun _ _ e => (nomatch e), fun _ _ e => (nomatch e), fun _ e => absurd rfl e, fun _ h => (nomatch h), fun i v e => by simp at e, fun _ e => (nomatch e)⟩
end
set_option maxRecDepth 100000
set_option maxHeartbeats 4000000
theorem bindp_law (q : Params) (u : Value) : bindArgs (fdOf q 131) ⟨[u], []⟩ = pure [(Str.ofString "script", u)] := by kernel_rfl
theorem clo_law (q : Params) : (fdOf q 131).closure = [] := by kernel_rfl
theorem par_law (q : Params) : (fdOf q 131).scope.names.lookup (Str.ofString "script") = some .local := by kernel_rfl
noncomputable def lawLoc : List Str := lawVn.filter fun x => !([Str.ofString "names", Str.ofString "k", Str.ofString "table", Str.ofString "sizes"].contains x)
theorem loc_law (q : Params) : allLoc (fdOf q 131).scope.names lawLoc = true := by kernel_rfl
theorem cel_law (q : Params) : ([Str.ofString "names", Str.ofString "k", Str.ofString "table", Str.ofString "sizes"].all fun x => (fdOf q 131).scope.names.lookup x == some .cell) = true := by kernel_rfl
theorem cls_law (q : Params) (L : Nat) : ([Str.ofString "names", Str.ofString "k", Str.ofString "table", Str.ofString "sizes"].all fun x => ((cellsFrom (L + 1) (fdOf q 131).scope.names []).lookup x).isSome) = true := by kernel_rfl
theorem fact_law {W : Wd} (ok : W.Ok) : CellFact W 131 (fdOf W.w.params 131) (Str.ofString "script") lawVn.tail (bodyOf W.w.params 131) where
  obj := (raw_law' _).obj ok
  body := (raw_law' _).body
  kind := (raw_law' _).kind
  globals := (raw_law' _).globals
  builtins := (raw_law' _).builtins
  co := (raw_law' _).co
  gen := gen_law _
  clo := clo_law _
  nodup := by decide +kernel
  par := par_law _
  loc := fun x hx => by
    have hl := allLoc_ok (loc_law W.w.params)
    have hc := cel_law W.w.params
    rw [List.all_eq_true] at hc
    by_cases q : x ∈ [Str.ofString "names", Str.ofString "k", Str.ofString "table", Str.ofString "sizes"]
    · refine .inr ⟨by simpa using hc x q, fun L => ?_⟩
      have := cls_law W.w.params L
      rw [List.all_eq_true] at this
      exact this x q
    · refine .inl (hl x ?_)
      unfold lawLoc
      refine List.mem_filter.mpr ⟨hx, ?_⟩
      simpa using q
  bind := bindp_law _
theorem tab_law (q : Params) : codeHdIn (hd.heap_1 q) 130 128 = true := by kernel_rfl
theorem fa_law (q : Params) : nsIn (hd.heap_1 q) mainGlobals (Str.ofString "law") = some (some (.ref 131)) := by kernel_rfl
end Mine.Internal
end
section
set_option genInjectivity false
open PySem PySem.W PyProof.Rows PySem.Calls
namespace Mine.Internal
theorem dr_ints {τ : Tau} {h : Heap} : ∀ {vs : List Value} {ns : List Int}, IntsAre vs ns → DRs τ h (ns.map D.int) vs
  | _, _, e => by
    induction e with
    | nil => rfl
    | cons n t r ih => exact ⟨_, _, rfl, ⟨t, rfl⟩, ih⟩
theorem noTabs_hd (q : Params) : noTabs (hd.heap_1 q) = true := by kernel_rfl
noncomputable def Wof (w : World) (s : Shared) : Wd := ⟨w, ghostOf s.heap [(130, 128)], fun _ => none, fun _ => none, s.drawn, s.os⟩
theorem law_good {w : World} {s₁ : Shared} {cw : ClaimW} {cl : Str → Option Addr} {mean : ExcName → Option Value} {args : List WData} {a fa : Addr} (hfa : fa = 131) (hT : TabsAt [(130, 128)] s₁.heap)
    (hr : ∀ cls, cw.raises args cls = false) (hp : cw.post args (.bool true) args = true)
    (h : codeAny (model pw w) callerA (.call (.ref 131) ⟨[.ref a], []⟩) (fun r s' => r = .ok (.ret (.bool true)) ∧ (∀ b o, b ≠ 128 → s₁.heap.get? b = some o → s'.heap.get? b = some o) ∧ (∃ ps, s'.heap.get? 128 = some (tabObj ps)) ∧ s'.os = s₁.os ∧ AllBare s'.gens) s₁) :
    codeAny (model pw w) callerA (.call (.ref fa) ⟨[.ref a], []⟩) (GoodWG cw cl mean args s₁) s₁ := by
  subst hfa
  refine codeAny_mono h fun r s' ⟨h1, h2, ⟨ps, h3⟩, h4, h5⟩ => ?_
  subst h1
  refine ⟨.inl ⟨_, _, [], rfl, hr, .bool true, hp, fun _ => ⟨.nil, fun a ha => nomatch ha⟩⟩, ⟨fun b o e => ?_, fun b o e => ?_⟩, h4, h5⟩
  · by_cases hb : b = 128
    · subst hb
      have t := hT (130, 128) (.head _)
      have e2 := t.2
      have e' : some o = some (tabObj #[]) := e.symm.trans e2
      cases e'
      exact .inr (.inl ⟨(t.1.tab t.2).isCodeTable, rfl, #[], ps, rfl, by rw [Array.empty_append]; exact h3⟩)
    · exact .inl (h2 b o hb e)
  · by_cases hb : b = 128
    · subst hb; exact ⟨_, h3⟩
    · exact ⟨o, h2 b o hb e⟩
end Mine.Internal
end
section
set_option genInjectivity false
open PySem PySem.W PyProof.Rows PySem.Calls
namespace Mine.Internal
section
variable {M : Model} {A : Around} {R : GenEnd} {Y : Protocol} {n : Nat} {s₀ : Shared} {c : Code} {fs : List Frame} {s : Shared} {env : Env}
  {K : Flow → Sem Fin} {H : Value → Sem Fin} {gd : Bool → Bool} {lv : List Value → List Value}
theorem sgBind {α β : Type} {m : Sem α} {k : α → Sem β} {K : β → Sem Fin} {H : Value → Sem Fin} {gd : Bool → Bool} {lv : List Value → List Value}
    (h : wpAny M (A.over c fs) m (fun a s' => Seg M A R Y n s₀ c ((k a).wrap K H gd lv) fs s') (fun x s' => Seg M A R Y n s₀ c (H x) fs s') s) :
    Seg M A R Y n s₀ c ((m >>= k).wrap K H gd lv) fs s := by
  rw [Sem.bind_eq_wrap', Sem.wrap_wrap]
  exact seg_wrap h
theorem sgIf {test : Expr} {body orelse : List Stmt} {pos : Pos}
    (h : wpAny M (A.over c fs) (isTrue test env (eval test env)) (fun b s' => Seg M A R Y n s₀ c ((execs (if b then body else orelse) env).wrap K H gd lv) fs s')
      (fun x s' => Seg M A R Y n s₀ c (H x) fs s') s) :
    Seg M A R Y n s₀ c ((exec (.If test body orelse pos) env).wrap K H gd lv) fs s := by
  rw [exec_If]
  refine sgBind (wpAny_standAt (sgBind (wpAny_mono h (fun b s' h' => ?_) fun _ _ x => x)))
  cases b <;> exact h'
noncomputable def backK (env : Env) (K : Flow → Sem Fin) (H : Value → Sem Fin) (gd : Bool → Bool) (lv : List Value → List Value) (r : Result) : Sem Fin :=
  ((match r with | .ok f => (.pure f : Sem Flow) | .error e => .raise e).onRaise fun (x : Value) => do
        if (← field x 1) == Value.none then unsupported "frame.own-activation:exception-without-traceback"
        setFlight x env.frame).wrap K H gd lv
theorem backK_ok (f : Flow) : backK env K H gd lv (.ok f) = K f := rfl
theorem sgFor {target iter : Expr} {body orelse : List Stmt} {pos : Pos} (hs : ∀ x, foldedSetIterable iter env x = pure x)
    (h : wpAny M (A.over c fs) (eval iter env) (fun x s1 => wpAny M (A.over c fs) (pyIter x) (fun it s2 => ∀ p, Seg M A R Y n s₀ (.forLoop target it body orelse env) (M.den (.forLoop target it body orelse env))
        (.ret (backK env K H gd lv) none (gd false) (lv []) c p [] :: fs) s2) (fun x s' => Seg M A R Y n s₀ c (H x) fs s') s1) (fun x s' => Seg M A R Y n s₀ c (H x) fs s') s) :
    Seg M A R Y n s₀ c ((exec (.For target iter body orelse pos) env).wrap K H gd lv) fs s := by
  rw [exec_For]
  refine sgBind (wpAny_standAt (sgBind (wpAny_mono h (fun x s1 h1 => sgBind (wpAny_of_eq (hs x) (sgBind (wpAny_standAt (sgBind (wpAny_holding (wpAny_mono h1 (fun it s2 h2 => ?_) fun _ _ e => e))))))) fun _ _ e => e)))
  exact seg_call h2
end
section
variable {prog : Program} {w : World} {A : Around} {R : GenEnd} {Y : Protocol} {n : Nat} {s₀ : Shared} {fs : List Frame} {s : Shared} {env : Env}
noncomputable def turnK (code : Code) : Flow → Sem Fin
  | .next | .cont => .pure (.again code)
  | .brk => .pure (.done .next)
  | .ret v => .pure (.done (.ret v))
noncomputable def turnH (env : Env) (e : Value) : Sem Fin := (do noteFrame e env; theTreesLotGoes e : Sem Unit).wrap (fun _ => .raise e) .raise id id
theorem sgForLoop {target : Expr} {it : Value} {body : List Stmt}
    (h : wpAny (model prog w) (A.over (.forLoop target it body [] env) fs) (pyNext it) (fun r s1 => match r with
        | none => ∀ c', Seg (model prog w) A R Y n s₀ c' (leafOf (.ok .next)) fs s1
        | some v => wpAny (model prog w) (A.over (.forLoop target it body [] env) fs) (letOwnedTupleGo target it v) (fun _ s2 => wpAny (model prog w) (A.over (.forLoop target it body [] env) fs) (assign target env v) (fun _ s3 =>
            Seg (model prog w) A R Y n s₀ (.forLoop target it body [] env) ((execs body env).wrap (turnK (.forLoop target it body [] env)) (turnH env) id id) fs s3)
            (fun x s' => Seg (model prog w) A R Y n s₀ (.forLoop target it body [] env) (turnH env x) fs s') s2) (fun x s' => Seg (model prog w) A R Y n s₀ (.forLoop target it body [] env) (turnH env x) fs s') s1)
      (fun x s' => Seg (model prog w) A R Y n s₀ (.forLoop target it body [] env) (turnH env x) fs s') s) :
    Seg (model prog w) A R Y n s₀ (.forLoop target it body [] env) ((model prog w).den (.forLoop target it body [] env)) fs s := by
  show Seg _ A R Y n s₀ _ ((forTurn target it body [] env).onRaise (fun x => do noteFrame x env; theTreesLotGoes x)) fs s
  have hH : ∀ e, ((do noteFrame e env; theTreesLotGoes e : Sem Unit).bind fun _ => (.raise e : Sem Fin)) = turnH env e := fun e => Sem.bind_eq_wrap _ _
  rw [Sem.onRaise_eq_wrap, Sem.wrap_congr _ id id (fun _ => rfl) hH]
  unfold forTurn
  refine sgBind (wpAny_standAt (sgBind (wpAny_onRaise (wpAny_mono h (fun r s1 h1 => ?_) fun _ _ h' => wpAny_standAt h'))))
  cases r with
  | none =>
    refine seg_again rfl ?_
    exact h1 _
  | some v =>
    refine sgBind (wpAny_mono h1 (fun _ s2 h2 => sgBind (wpAny_mono h2 (fun _ s3 h3 => ?_) fun _ _ e => e)) fun _ _ e => e)
    rw [Sem.bind_eq_wrap', Sem.wrap_wrap]
    exact Eq.mp (congrArg (fun t => Seg (model prog w) A R Y n s₀ (.forLoop target it body [] env) t fs s3)
      (Sem.wrap_congr (execs body env) id id (K := turnK (.forLoop target it body [] env)) (H := turnH env) (fun f => by cases f <;> rfl) (fun e => rfl))) h3
theorem sgForLoop' {fc : Code} {target : Expr} {it : Value} {body : List Stmt} (hfc : fc = .forLoop target it body [] env)
    (h : wpAny (model prog w) (A.over fc fs) (pyNext it) (fun r s1 => match r with
        | none => ∀ c', Seg (model prog w) A R Y n s₀ c' (leafOf (.ok .next)) fs s1
        | some v => wpAny (model prog w) (A.over fc fs) (letOwnedTupleGo target it v) (fun _ s2 => wpAny (model prog w) (A.over fc fs) (assign target env v) (fun _ s3 =>
            Seg (model prog w) A R Y n s₀ fc ((execs body env).wrap (turnK fc) (turnH env) id id) fs s3)
            (fun x s' => Seg (model prog w) A R Y n s₀ fc (turnH env x) fs s') s2) (fun x s' => Seg (model prog w) A R Y n s₀ fc (turnH env x) fs s') s1)
      (fun x s' => Seg (model prog w) A R Y n s₀ fc (turnH env x) fs s') s) :
    Seg (model prog w) A R Y n s₀ fc ((model prog w).den fc) fs s := by subst hfc; exact sgForLoop h
end
end Mine.Internal
end
section
set_option genInjectivity false
open PySem PySem.W PyProof.Rows PySem.Calls
namespace Mine.Internal
section
variable {W : Wd} {c : Cx} {k : Nat} {st st1 st2 st3 st4 : PS} {τ τ' τ₀ : Tau} {ls : List Loc} {s : Shared} {h h' h₀ : Heap}
noncomputable def upds (τ : Tau) (P : List Addr) (G : Tau) : Tau := fun b => if b ∈ P then G b else τ b
theorem upds_in {τ : Tau} {P : List Addr} {G : Tau} {b : Addr} (h : b ∈ P) : upds τ P G b = G b := if_pos h
theorem upds_out {τ : Tau} {P : List Addr} {G : Tau} {b : Addr} (h : b ∉ P) : upds τ P G b = τ b := if_neg h
theorem R.turns (r : R W τ ls st s) {P : List Addr} {G : Tau} {t : Nat} (hP : ∀ b ∈ P, (∃ o, τ b = .held o) ∨ s.heap.get? b = none) (hk : ∀ b o, b ∉ P → s.heap.get? b = some o → h'.get? b = some o)
    (hG : ∀ b ∈ P, G b = .none ∨ ∃ o, G b = .held o ∧ h'.get? b = some o) : R W (upds τ P G) ls st { s with heap := h', toks := t } := by
  have ne : ∀ b, (∀ o, τ b ≠ .held o) → (∃ o, s.heap.get? b = some o) → b ∉ P := fun b h1 h2 e => by
    rcases hP b e with ⟨o, ho⟩ | ho
    · exact h1 o ho
    · obtain ⟨o, h3⟩ := h2; rw [ho] at h3; cases h3
  have x : ∀ b o, τ b = .none → s.heap.get? b = some o → upds τ P G b = .none ∧ h'.get? b = some o := fun b o e q => by
    have hn := ne b (fun o => by rw [e]; exact fun z => nomatch z) ⟨o, q⟩
    exact ⟨(upds_out hn).trans e, hk b o hn q⟩
  have oneo : ∀ b n, τ b = .own n → b ∉ P := fun b n e => ne b (fun o => by rw [e]; exact fun z => nomatch z) (r.alive b (by rw [e]; exact fun z => nomatch z))
  have y : ∀ b n, τ b = .own n → upds τ P G b = .own n := fun b n e => (upds_out (oneo b n e)).trans e
  have back : ∀ b n, upds τ P G b = .own n → τ b = .own n := fun b n e => by
    by_cases hb : b ∈ P
    · rw [upds_in hb] at e
      rcases hG b hb with q | ⟨o, q, _⟩ <;> rw [q] at e <;> cases e
    · rw [upds_out hb] at e; exact e
  refine ⟨r.ok, r.dr, r.os, r.gens, r.hgens, fun b o e => ?_, fun n l e => ?_, fun b d n e1 e2 => r.uniq b d n (back b n e1) (back d n e2), fun b n e => r.bound b n (back b n e), fun b o e => ?_, fun b e => ?_, fun l hl => ?_, fun i v e => ?_, fun b e => ?_⟩
  · have z := r.base b o e
    have q := x b o z.2 z.1
    exact ⟨q.2, q.1⟩
  · obtain ⟨b, vs, ep, h1, h2, h3⟩ := r.own n l e
    exact ⟨b, vs, ep, y b n h1, hk b _ (oneo b n h1) h2, h3.keep x y⟩
  · by_cases hb : b ∈ P
    · rw [upds_in hb] at e
      rcases hG b hb with q | ⟨o', q, ho⟩
      · rw [q] at e; cases e
      · rw [q] at e; cases e; exact ho
    · rw [upds_out hb] at e
      exact hk b o hb (r.held b o e)
  · by_cases hb : b ∈ P
    · rw [upds_in hb] at e
      rcases hG b hb with q | ⟨o', q, ho⟩
      · exact absurd q e
      · exact ⟨o', ho⟩
    · rw [upds_out hb] at e
      obtain ⟨o, ho⟩ := r.alive b e
      exact ⟨o, hk b o hb ho⟩
  · have z := r.locs l hl
    have hn : l.at ∉ P := ne _ (fun o => by rcases z.fix with q | q <;> rw [q] <;> exact fun w => nomatch w) z.alive
    exact z.keeps (fun _ => upds_out hn) fun o e => hk _ o hn e
  · obtain ⟨loc, v', h1, h2, h3⟩ := r.vars i v e
    have z := r.locs loc (List.mem_of_getElem? h1)
    have hn : loc.at ∉ P := ne _ (fun o => by rcases z.fix with q | q <;> rw [q] <;> exact fun w => nomatch w) z.alive
    exact ⟨loc, v', h1, h2.keeps fun o e => hk _ o hn e, h3.keep x y⟩
  · by_cases hb : b ∈ P
    · rw [upds_in hb] at e
      rcases hG b hb with q | ⟨o', q, ho⟩ <;> rw [q] at e <;> cases e
    · rw [upds_out hb] at e
      obtain ⟨o, h1, h2⟩ := r.fixed b e
      exact ⟨o, hk b o hb h1, h2⟩
theorem Ext.buts {P : List Addr} {G : Tau} (x : Ext τ₀ h₀ τ h) (ha : ∀ b ∈ P, h₀.get? b = none ∧ τ₀ b = .none) (hk : ∀ b o, b ∉ P → h.get? b = some o → h'.get? b = some o) : Ext τ₀ h₀ (upds τ P G) h' :=
  ⟨fun b e => by
    have hb : b ∉ P := fun q => e (ha b q).2
    exact (upds_out hb).trans (x.claim b e), fun b o e q => by
    have hb : b ∉ P := fun z => by rw [(ha b z).1] at q; cases q
    have w := x.keep b o e q
    exact ⟨(upds_out hb).trans w.1, hk b o hb w.2⟩⟩
theorem R.regen (r : R W τ ls st s) {hg : Nat → Option GenState} {gs : Array GenState} (h1 : AllBare gs) (h2 : ∀ g x, hg g = some x → gs[g]? = some x) : R (W.g hg) τ ls st { s with gens := gs } :=
  ⟨⟨r.ok.X, r.ok.T⟩, r.dr, r.os, h1, h2, r.base, r.own, r.uniq, r.bound, r.held, r.alive, r.locs, r.vars, r.fixed⟩
structure Since (P : List Addr) (s₀ s : Shared) : Prop where
  keep : ∀ b o, b ∉ P → s₀.heap.get? b = some o → s.heap.get? b = some o
  gens : ∀ (g : Nat) x, s₀.gens[g]? = some x → s.gens[g]? = some x
  bare : AllBare s.gens
  dr : s.drawn = s₀.drawn
  os : s.os = s₀.os
structure Alike (W : Wd) (fp : List Addr) (s s' : Shared) : Prop where
  fp : ∀ b ∈ fp, ∀ o, s.heap.get? b = some o → s'.heap.get? b = some o
  base : ∀ b o, W.B b o → s'.heap.get? b = some o
  dr : s'.drawn = W.dr
  os : s'.os = W.os
  bare : AllBare s'.gens
  toks : 0 < s'.toks
noncomputable def gProto (W : Wd) (P fp : List Addr) (val : Nat → Value → Heap → Prop) : Protocol := fun m s₀ v s kap =>
  val m v s.heap ∧ Since P s₀ s ∧ (∀ b ∈ P, ∃ o, s.heap.get? b = some o) ∧ (m ≠ 0 → ∀ s'', Alike W fp s s'' → kap (.send .none) s'')
noncomputable def gEnd (P : List Addr) (fin : Nat → Prop) : GenEnd := fun n s₀ r s => r = .ok (.ret .none) ∧ (fin n ∧ Since P s₀ s)
theorem next_bare {prog : Program} {w : World} {A : Around} {E : Value → Shared → Prop} {s : Shared} {a : Addr} {g n : Nat} {gs : GenState} {P : Nat → Shared → Shared → Prop} {Y : Protocol} {Q : Option Value → Shared → Prop}
    (hh : A.handled = none) (hl : s.heap.NoLimit) (hroom : A.depth < recursionLimit) (hg : s.heap.IsGen a g) (hgs : s.gens[g]? = some gs)
    (hgo : gs.Goes (model prog w) A.in1 (fun n s₀ r s₁ => r = .ok (.ret .none) ∧ P n s₀ s₁) Y n (.send .none) (s.setGen g .running))
    (hY : ∀ v s₁ gs', gs'.bare = true → Y (n - 1) (s.setGen g .running) v s₁ (fun r' s'' => match n with
        | 0 => False
        | m + 1 => gs'.Goes (model prog w) A.in1 (fun n s₀ r s₁ => r = .ok (.ret .none) ∧ P n s₀ s₁) Y m r' s'') → Q (some v) (s₁.setGen g gs'))
    (hP : ∀ s₁, P n (s.setGen g .running) s₁ → ∀ h', (∀ b o, s₁.heap.get? b = some o → h'.get? b = some o) → Q none { s₁.setGen g .finished with heap := h' }) :
    wpAny (model prog w) A (pyNext (.ref a)) Q E s := by
  unfold pyNext
  refine wpAny_bind (wpAny_attempt (wpAny_callSpecial?_slot (name := Str.ofString "__next__") hg.typeIs slot_gen_next
    (wpAny_call_entry slot_gen_next hg.typeIs entry_gen_next ?_ (args_gen_next _))))
  show wpAny _ A.in1 (Builtin.Generator.genWake (.ref a) (.send .none)) _ _ s
  unfold Builtin.Generator.genWake
  refine wpAny_bind (wpAny_holding (wpAny_genNumber hg (wpAny_bind (wpAny_genState hgs ?_))))
  cases gs with
  | running => exact hgo.elim
  | finished => exact hgo.elim
  | _ =>
    refine wpAny_bind (wpAny_roomToWake hl hroom ?_)
    show wpAny _ A.in1 (.resume g (.send .none) [] _) _ _ s
    refine wpAny_resumeQ hgs hgo (fun x s₁ hx => ?_) (fun v s₁ gs' hb hv => wpAny_pure ⟨v, rfl, wpAny_pure (hY v s₁ gs' hb hv)⟩)
    obtain ⟨rfl, hp⟩ := hx
    show wpAny _ A.in1 (newExc (.type "StopIteration") [] >>= _) _ _ _
    simp -iota only [newExc, newTuple]
    refine wpAny_bind (wpAny_bind (wpAny_newObj_type (wpAny_bind (m := firstArgMember _ _) (wpAny_of_eq (a := Value.none) (by first | rfl | (simp -iota only [firstArgMember]; rfl)) (wpAny_newObj_type ?_ (by size_fits)))) (by size_fits)))
    delta raiseNew
    refine wpAny_bind (wpAny_bind (wpAny_handled ?_))
    rw [show A.in1.handled = none from hh]
    refine wpAny_throw (wpAny_bind (wpAny_isInstance (T := "StopIteration") (b := true) ⟨_, Heap.get?_push_size _ rfl, rfl⟩ isSubtype_stop (wpAny_pure (hP s₁ hp _ fun b o hb => ?_))))
    exact Heap.get?_push_of_some _ (Heap.get?_push_of_some _ hb)
end
end Mine.Internal
end
section
set_option genInjectivity false
open PySem PySem.W PyProof.Rows PySem.Calls
namespace Mine.Internal
section
variable {W : Wd} {c : Cx} {k : Nat} {st st1 st2 st3 st4 : PS} {τ τ' τ₀ : Tau} {ls : List Loc} {s : Shared} {h h' h₀ : Heap} {hg : Nat → Option GenState}
theorem Alike.self (r : R (W.g hg) τ ls st s) (ht : 0 < s.toks) {fp : List Addr} : Alike W fp s s :=
  ⟨fun _ _ _ e => e, fun b o e => (r.base b o e).1, r.dr, r.os, r.gens, ht⟩
theorem Alike.of {fp : List Addr} {s1 s2 s' : Shared} (x : Alike W fp s1 s') (e : s2.heap = s1.heap) : Alike W fp s2 s' := ⟨fun b hb o q => x.fp b hb o (e ▸ q), x.base, x.dr, x.os, x.bare, x.toks⟩
theorem setGen_out {s : Shared} {g x : Nat} {y : GenState} (h : x ≠ g) : (s.setGen g y).gens[x]? = s.gens[x]? := by
  simp [Shared.setGen, Ne.symm h]
theorem setGen_bare {s : Shared} {g : Nat} {y : GenState} (hb : y.bare = true) (h : AllBare s.gens) : AllBare (s.setGen g y).gens := by
  intro z hz
  obtain ⟨i, hi, rfl⟩ := Array.mem_iff_getElem.mp hz
  have hi' : i < s.gens.size := by simpa [Shared.setGen] using hi
  by_cases e : i = g
  · subst e
    have : (s.setGen i y).gens[i] = y := by simp [Shared.setGen]
    rw [this]; exact hb
  · have q : (s.setGen g y).gens[i]? = s.gens[i]? := setGen_out e
    rw [Array.getElem?_eq_getElem hi, Array.getElem?_eq_getElem hi'] at q
    rw [Option.some.inj q]
    exact h _ (Array.getElem_mem hi')
noncomputable def isHeld (h : Heap) : Tau := fun b => match h.get? b with
  | some o => .held o
  | none => .none
theorem isHeld_or {h : Heap} (b : Addr) : isHeld h b = .none ∨ ∃ o, isHeld h b = .held o ∧ h.get? b = some o := by
  unfold isHeld
  cases e : h.get? b with
  | none => exact .inl rfl
  | some o => exact .inr ⟨o, rfl, rfl⟩
theorem isHeld_some {h : Heap} {b : Addr} {o : Obj} (e : h.get? b = some o) : isHeld h b = .held o := by unfold isHeld; rw [e]
noncomputable def putGen (hg : Nat → Option GenState) (g : Nat) (x : Option GenState) : Nat → Option GenState := fun y => if y = g then x else hg y
theorem R.noLimit (r : R W τ ls st s) : s.heap.NoLimit := by
  obtain ⟨loose, mean, mg, mb, T⟩ := r.ok.T
  exact T.nolimit.keeps fun b o e => (r.base b o (.inl e)).1
theorem gen_next {A : Around} {Q : Option Value → Shared → Prop} {E : Value → Shared → Prop} {a g m : Nat} {gs : GenState} {P fp : List Addr} {val : Nat → Value → Heap → Prop} {fin : Nat → Prop}
    (hA : AOk A k) (R0 : R (W.g hg) τ ls st s) (ht : 0 < s.toks) (hgg : hg g = some gs) (hgen : s.heap.IsGen a g) (haP : a ∉ P) (hP : ∀ b ∈ P, (∃ o, τ b = .held o) ∨ s.heap.get? b = none)
    (hgo : gs.Goes (model pw W.w) A.in1 (gEnd P fin) (gProto W P fp val) (m + 1) (.send .none) (s.setGen g .running))
    (hY : ∀ v s' gs', val m v s'.heap → R (W.g (putGen hg g (some gs'))) (upds τ P (isHeld s'.heap)) ls st s' → (∀ b ∈ P, ∃ o, s'.heap.get? b = some o) → (∀ b o, b ∉ P → s.heap.get? b = some o → s'.heap.get? b = some o) →
      (m ≠ 0 → ∀ s'', Alike W fp s' s'' → gs'.Goes (model pw W.w) A.in1 (gEnd P fin) (gProto W P fp val) m (.send .none) s'') → s'.heap.IsGen a g → 0 < s'.toks → Q (some v) s')
    (hE : ∀ s', fin (m + 1) → R (W.g (putGen hg g none)) (upds τ P fun _ => .none) ls st s' → (∀ b o, b ∉ P → s.heap.get? b = some o → s'.heap.get? b = some o) → 0 < s'.toks → Q none s') :
    wpAny (model pw W.w) A (pyNext (.ref a)) Q E s := by
  have self : ∀ {s₁ : Shared} {y : GenState}, Since P (s.setGen g .running) s₁ → (s₁.setGen g y).gens[g]? = some y := fun z => setGen_self (z.gens g _ (setGen_self (R0.hgens g gs hgg)))
  have other : ∀ {s₁ : Shared} {y : GenState}, Since P (s.setGen g .running) s₁ → ∀ x u, x ≠ g → hg x = some u → (s₁.setGen g y).gens[x]? = some u := fun z x u q e => (setGen_out q).trans (z.gens x u ((setGen_out q).trans (R0.hgens x u e)))
  refine wpAny_with_toks (n := 1) ht (next_bare (P := fun n s₀ s₁ => fin n ∧ Since P s₀ s₁) hA.handled R0.noLimit (by have := hA.depth; unfold recursionLimit; (first | lia | omega)) hgen (R0.hgens g gs hgg) hgo (fun v s₁ gs' hb hv htk => ?_) (fun s₁ hp h' hk htk => ?_))
  · obtain ⟨hval, z, hex, hal⟩ := hv
    have b2 := setGen_bare (g := g) hb z.bare
    have sf := self (y := gs') z
    have ot := other (y := gs') z
    have R1 := R0.turns (t := s₁.toks) (h' := s₁.heap) (G := isHeld s₁.heap) hP z.keep (fun b _ => isHeld_or b)
    have R2 := R1.regen (hg := putGen hg g (some gs')) b2 (fun x y e => by
        unfold putGen at e
        split at e
        · rename_i q; subst q; cases e; exact sf
        · rename_i q; exact ot x y q e)
    have R3 : R (W.g (putGen hg g (some gs'))) (upds τ P (isHeld (s₁.setGen g gs').heap)) ls st (s₁.setGen g gs') := by
      have e : s₁.setGen g gs' = { heap := s₁.heap, gens := (s₁.setGen g gs').gens, drawn := s.drawn, toks := s₁.toks, os := s.os } := by
        rw [show s.drawn = s₁.drawn from z.dr.symm, show s.os = s₁.os from z.os.symm]; rfl
      rw [e]; exact R2
    exact hY v _ gs' hval R3 hex z.keep (fun hm s'' x => hal hm s'' (x.of rfl)) (let ⟨o, nm, qn, ho, r⟩ := hgen; ⟨o, nm, qn, z.keep _ _ haP ho, r⟩) htk
  · obtain ⟨hfin, z⟩ := hp
    have kk : ∀ b o, b ∉ P → s.heap.get? b = some o → h'.get? b = some o := fun b o hb e => hk b o (z.keep b o hb e)
    have b2 := setGen_bare (g := g) (y := .finished) rfl z.bare
    have ot := other (y := .finished) z
    have R1 := R0.turns (t := s₁.toks) (h' := h') (G := fun _ => .none) hP kk (fun b _ => .inl rfl)
    have R2 := R1.regen (hg := putGen hg g none) b2 (fun x y e => by
        unfold putGen at e
        split at e
        · cases e
        · rename_i q; exact ot x y q e)
    refine hE _ hfin ?_ kk htk
    have e : { s₁.setGen g .finished with heap := h' } = { heap := h', gens := (s₁.setGen g .finished).gens, drawn := s.drawn, toks := s₁.toks, os := s.os } := by
      rw [show s.drawn = s₁.drawn from z.dr.symm, show s.os = s₁.os from z.os.symm]; rfl
    rw [e]; exact R2
noncomputable def tgen (L : Addr) (P : List Addr) (h : Heap) : Tau := fun b => if b = L then .fix else if b ∈ P then isHeld h b else .none
theorem R.made {fp P : List Addr} {vn : List Str} {vars : List (Option V)} {L : Addr} {m : Str → Option Value} {s1 s2 : Shared} (ok : W.Ok) (al : Alike W fp s1 s2) (hns : s2.heap.Ns L m) (hB : ∀ b o, b = L ∨ b ∈ P → ¬ W.B b o)
    (hv : ∀ (i : Nat) v, vars[i]? = some (some v) → ∃ x r, vn[i]? = some x ∧ m x = some r ∧ VR (tgen L P s2.heap) s2.heap v r) : R (W.g fun (y : Nat) => s2.gens[y]?) (tgen L P s2.heap) (vn.map (Loc.dict L)) ⟨vars, []⟩ s2 := by
  have t1 : tgen L P s2.heap L = .fix := if_pos rfl
  have t2 : ∀ b, tgen L P s2.heap b = .none ∨ (b = L ∧ tgen L P s2.heap b = .fix) ∨ ∃ o, tgen L P s2.heap b = .held o ∧ s2.heap.get? b = some o ∧ b ∈ P := fun b => by
    unfold tgen
    by_cases h1 : b = L
    · rw [if_pos h1]; exact .inr (.inl ⟨h1, rfl⟩)
    · rw [if_neg h1]
      by_cases h2 : b ∈ P
      · rw [if_pos h2]
        rcases isHeld_or (h := s2.heap) b with q | ⟨o, q1, q2⟩
        · exact .inl q
        · exact .inr (.inr ⟨o, q1, q2, h2⟩)
      · rw [if_neg h2]; exact .inl rfl
  have no : ∀ b n, tgen L P s2.heap b ≠ .own n := fun b n e => by
    rcases t2 b with q | ⟨_, q⟩ | ⟨o, q, _⟩ <;> rw [q] at e <;> cases e
  obtain ⟨oL, es, ep, hoL, hdL, hrL⟩ := id hns
  refine ⟨⟨ok.X, ok.T⟩, al.dr, al.os, al.bare, fun g gs e => e, fun b o e => ⟨al.base b o e, ?_⟩, fun n l e => by simp at e, fun b d n e => absurd e (no b n), fun b n e => absurd e (no b n), fun b o e => ?_, fun b e => ?_, fun l hl => ?_, fun i v e => ?_, fun b e => ?_⟩
  · rcases t2 b with q | ⟨h1, _⟩ | ⟨_, _, _, h2⟩
    · exact q
    · exact absurd e (hB b o (.inl h1))
    · exact absurd e (hB b o (.inr h2))
  · rcases t2 b with q | ⟨_, q⟩ | ⟨o', q, h2, _⟩
    · rw [q] at e; cases e
    · rw [q] at e; cases e
    · rw [q] at e; cases e; exact h2
  · rcases t2 b with q | ⟨h1, _⟩ | ⟨o', _, h2, _⟩
    · exact absurd q e
    · exact ⟨oL, h1 ▸ hoL⟩
    · exact ⟨o', h2⟩
  · obtain ⟨x, _, rfl⟩ := List.mem_map.mp hl
    exact ⟨t1, m, hns⟩
  · obtain ⟨x, r, h1, h2, h3⟩ := hv i v e
    exact ⟨.dict L x, r, by rw [List.getElem?_map, h1]; rfl, ⟨m, hns, h2⟩, h3⟩
  · rcases t2 b with q | ⟨h1, _⟩ | ⟨o', q, _⟩
    · rw [q] at e; cases e
    · subst h1; exact ⟨oL, hoL, fun xs n => by rw [hdL]; exact fun z => nomatch z⟩
    · rw [q] at e; cases e
noncomputable def flat : V → Bool
  | .d .none => true
  | .d (.int _) => true
  | .d (.bool _) => true
  | .d (.str _) => true
  | _ => false
theorem VR.flat {v : V} {r : Value} (hf : flat v = true) (e : VR τ h v r) : VR τ' h' v r := by
  cases v with
  | ref n => cases hf
  | d x => cases x <;> first | exact absurd hf Bool.false_ne_true | exact e
theorem R.again {fp P : List Addr} {vn : List Str} {vars : List (Option V)} {L : Addr} {s1 s2 : Shared} (r : R W τ (vn.map (Loc.dict L)) ⟨vars, []⟩ s1) (al : Alike W fp s1 s2) (hL : L ∈ fp) (hvn : vn ≠ []) (hB : ∀ b o, b = L ∨ b ∈ P → ¬ W.B b o)
    (hf : ∀ (i : Nat) v, vars[i]? = some (some v) → flat v = true) : R (W.g fun (y : Nat) => s2.gens[y]?) (tgen L P s2.heap) (vn.map (Loc.dict L)) ⟨vars, []⟩ s2 := by
  obtain ⟨x0, hx0⟩ : ∃ x, x ∈ vn := List.exists_mem_of_ne_nil _ hvn
  obtain ⟨_, m, hns⟩ := r.locs (.dict L x0) (List.mem_map.mpr ⟨x0, hx0, rfl⟩)
  have hns2 : s2.heap.Ns L m := hns.at fun o e => al.fp L hL o e
  refine .made ⟨r.ok.X, r.ok.T⟩ al hns2 hB fun i v e => ?_
  obtain ⟨loc, rv, h1, h2, h3⟩ := r.vars i v e
  rw [List.getElem?_map] at h1
  cases q : vn[i]? with
  | none => rw [q] at h1; cases h1
  | some x =>
    rw [q] at h1
    cases h1
    obtain ⟨m', hm', e'⟩ := h2
    exact ⟨x, rv, rfl, (hns.agree hm' x).trans e', h3.flat (hf i v e)⟩
end
end Mine.Internal
end
section
set_option genInjectivity false
open PySem PySem.W PyProof.Rows PySem.Calls
namespace Mine.Internal
structure GFact (W : Wd) (a : Addr) (fd : FuncData) (pp : Str) (r : List Str) (body : List Stmt) : Prop where
  obj : ∃ o, W.B a o ∧ o.data = .func fd
  code : ∀ h : Heap, (∀ b o, W.B b o → h.get? b = some o) → h.CodeRec fd.code fd.qualname
  body : fd.body = .stmts body
  kind : fd.scope.kind = .function
  cell : ∀ x ∈ fd.scope.names, x.2 ≠ .cell
  globals : fd.globals = mainGlobals
  builtins : fd.builtins = builtinsNs
  co : fd.scope.isCoroutine = false
  gen : fd.scope.isGenerator = true
  nodup : (pp :: r).Nodup
  loc : ∀ x ∈ pp :: r, fd.scope.names.lookup x = some .local
  bind : ∀ u, bindArgs fd ⟨[u], []⟩ = pure [(pp, u)]
theorem genCx_ok {W : Wd} {a : Addr} {fd : FuncData} {pp : Str} {r : List Str} {body : List Stmt} (X : GFact W a fd pp r body) (L : Addr) : (fnCx fd (pp :: r) L a).Ok where
  kind := X.kind
  glob := X.globals
  blt := X.builtins
  nodup := List.Pairwise.map _ (fun x y hxy e => hxy (by cases e; rfl)) X.nodup
  cells := fun a b b' e => by
    simp only [fnCx, List.mem_map] at e
    obtain ⟨x, _, e⟩ := e
    cases e
  own := fun i l _ e => by
    simp only [fnCx, List.getElem?_map] at e
    cases q : (pp :: r)[i]? with
    | none => rw [q] at e; cases e
    | some x => rw [q] at e; cases e; rfl
  inj := fun x y i e1 e2 => by
    have h1 := zip_at e1
    have h2 := zip_at e2
    rw [h1] at h2; cases h2; rfl
  ix := fun x i e => by
    have hx := zip_at e
    refine .inl ⟨X.loc x (List.mem_of_getElem? hx), ?_⟩
    simp only [fnCx, List.getElem?_map, hx, Option.map_some]
    rfl
section
variable {W : Wd} {c : Cx} {k : Nat} {st st1 st2 : PS} {τ : Tau} {s : Shared}
structure GMade (W : Wd) (a : Addr) (fd : FuncData) (pp : Str) (body : List Stmt) (u : Value) (s1 s2 : Shared) (L ga : Addr) : Prop where
  toks : 0 < s2.toks
  freshL : s1.heap.get? L = none
  freshG : s1.heap.get? ga = none
  lt : L < ga
  size : s2.heap.objs.size = ga + 1
  gens : s2.gens = s1.gens.push (.fresh (.func body (callEnv fd L a)))
  dr : s2.drawn = s1.drawn
  os : s2.os = s1.os
  keep : ∀ b o, s1.heap.get? b = some o → s2.heap.get? b = some o
  ns : s2.heap.Ns L (fun y => ([(pp, u)] : List (Str × Value)).reverse.lookup y)
  gen : s2.heap.IsGen ga s1.gens.size
theorem gen_call {x pp : Str} {a : Addr} {nm : Nm} {px p : Pos} {e : Expr} {v : V} {fd : FuncData} {r : List Str} {body : List Stmt} (X : GFact W a fd pp r body) (hf : FnN nm x a) (hn : NmOk nm c) (hp : NoStar e) (h1 : TE W c k st e v st1)
    (ok : c.Ok) {A : Around} {Q : Value → Shared → Prop} {E : Value → Shared → Prop} (hA : AOk A k) (R0 : R W τ c.ls st s) (ht : 0 < s.toks)
    (hQ : ∀ τ1 s1 u s2 L ga, Ext τ s.heap τ1 s1.heap → R W τ1 c.ls st1 s1 → VR τ1 s1.heap v u → GMade W a fd pp body u s1 s2 L ga → Q (.ref ga) s2) :
    wpAny (model pw W.w) A (eval (.Call (.Name x px) [e] [] p) c.env) Q E s := by
  refine wpAny_Call_Name_kw (wpAny_globName ok R0 (hf.ns _) (hf.kindOf hn) ?_ hf.dbg)
  obtain ⟨o, hB, hd⟩ := X.obj
  show wpAny _ A (callWith p (.ref a) [] (backTo p (starEach [e] c.env)) []) Q E s
  refine callWith_function (o := o) (fd := fd) ?_
  have he : backTo p (starEach [e] c.env) = [(false, eval e c.env)] := by rw [hp]; rfl
  rw [he]
  refine evalArgs_plain (spliced_cons (h1 ok A τ s _ E hA R0 ht fun τ1 s1 u t1 x1 R1 v1 => spliced_nil ?_))
  have ho1 := (R1.base a o hB).1
  refine ⟨⟨ho1, hd⟩, ?_⟩
  refine wpAny_with_toks (n := 1) t1 (wpAny_call (codeAny_call_generator (by have := hA.depth; unfold recursionLimit; show A.depth < 1000; (first | lia | omega)) ho1 hd X.co X.gen X.body (X.code _ fun b o e => (R1.base b o e).1) ?_))
  show wpAny _ _ (bindArgs fd ⟨[u], []⟩) _ _ _
  rw [X.bind u]
  refine wpAny_pure ?_
  refine wpAny_newFunctionEnv X.cell (fun y hy => by rcases List.mem_cons.mp hy with rfl | hy; exact X.loc _ (.head _); cases hy) (fun h' hn' hs' => ?_) X.kind
  have hsz : h'.objs.size = s1.heap.objs.size + 1 := by rw [hs'.1, Heap.size_push]
  have kk : ∀ b o, s1.heap.get? b = some o → h'.get? b = some o := fun b o e => hs'.extBut b o (Nat.ne_of_lt (Heap.lt_size e)) (Heap.get?_push_of_some _ e)
  refine ⟨R1.noLimit.keeps kk, fun htk => ?_⟩
  refine hQ τ1 s1 u _ s1.heap.objs.size _ x1 R1 v1 ⟨htk, get_size _, ?_, ?_, ?_, rfl, rfl, rfl, fun b o e => Heap.get?_push_of_some _ (kk b o e), hn'.push _, ?_⟩
  · show s1.heap.get? h'.objs.size = none
    cases q : s1.heap.get? h'.objs.size with
    | none => rfl
    | some o => have w : h'.objs.size < s1.heap.objs.size := Heap.lt_size q; (first | lia | omega)
  · show s1.heap.objs.size < h'.objs.size
    (first | lia | omega)
  · exact Heap.size_push ..
  · exact ⟨_, _, _, Heap.get?_push_size _ rfl, rfl, rfl, rfl⟩
end
end Mine.Internal
end
section
set_option genInjectivity false
open PySem PySem.W PyProof.Rows PySem.Calls
namespace Mine.Internal
structure GC (W : Wd) (τ₀ : Tau) (h₀ : Heap) (P fp : List Addr) (ga g : Nat) : Prop where
  out : ga ∉ P
  fresh : ∀ b ∈ ga :: P, h₀.get? b = none ∧ τ₀ b = .none
  hg : W.hg g = none
section
variable (W : Wd) (A : Around) (ls : List Loc) (τ₀ : Tau) (h₀ : Heap) (P fp : List Addr) (val : Nat → Value → Heap → Prop) (fin : Nat → Prop) (ga g : Nat)
structure GI (n : Nat) (τ : Tau) (st : PS) (s : Shared) : Prop where
  ext : Ext τ₀ h₀ τ s.heap
  go : ∃ hg gs, R (W.g hg) τ ls st s ∧ hg g = some gs ∧ (∀ y, y ≠ g → hg y = W.hg y) ∧ (n ≠ 0 → gs.Goes (model pw W.w) A.in1 (gEnd P fin) (gProto W P fp val) n (.send .none) (s.setGen g .running))
  gen : s.heap.IsGen ga g
  held : ∃ o, τ ga = .held o
  heldP : ∀ b ∈ P, (∃ o, τ b = .held o) ∨ s.heap.get? b = none
  ro : ∀ b ∈ fp, b ∈ P ∨ (τ b = .none ∧ ∃ o, s.heap.get? b = some o)
  toks : 0 < s.toks
structure GY (hg : Nat → Option GenState) (m : Nat) (τ : Tau) (st : PS) (s : Shared) : Prop where
  ext : Ext τ₀ h₀ τ s.heap
  r : R (W.g hg) τ ls st s
  go : ∃ gs, hg g = some gs ∧ (∀ y, y ≠ g → hg y = W.hg y) ∧ (m ≠ 0 → ∀ s'', Alike W fp s s'' → gs.Goes (model pw W.w) A.in1 (gEnd P fin) (gProto W P fp val) m (.send .none) s'')
  gen : s.heap.IsGen ga g
  held : ∃ o, τ ga = .held o
  heldP : ∀ b ∈ P, ∃ o, τ b = .held o
  ro : ∀ b ∈ fp, b ∈ P ∨ (τ b = .none ∧ ∃ o, s.heap.get? b = some o)
  toks : 0 < s.toks
end
section
variable {W : Wd} {A : Around} {ls : List Loc} {τ₀ : Tau} {h₀ : Heap} {P fp : List Addr} {val : Nat → Value → Heap → Prop} {fin : Nat → Prop} {ga g : Nat} {k n m : Nat} {τ τ' : Tau} {st st' : PS} {s s' : Shared}
theorem R.ungen {hg : Nat → Option GenState} (r : R (W.g hg) τ ls st s) (h1 : W.hg g = none) (h2 : ∀ y, y ≠ g → hg y = W.hg y) : R W τ ls st s :=
  ⟨⟨r.ok.X, r.ok.T⟩, r.dr, r.os, r.gens, fun y x e => r.hgens y x (by
    by_cases q : y = g
    · subst q; rw [h1] at e; cases e
    · exact (h2 y q).trans e), r.base, r.own, r.uniq, r.bound, r.held, r.alive, r.locs, r.vars, r.fixed⟩
theorem GI.next {Q : Option Value → Shared → Prop} {E : Value → Shared → Prop} (C : GC W τ₀ h₀ P fp ga g) (I : GI W A ls τ₀ h₀ P fp val fin ga g (m + 1) τ st s) (hA : AOk A k)
    (hY : ∀ v s' τ' hg, val m v s'.heap → GY W A ls τ₀ h₀ P fp val fin ga g hg m τ' st s' → Q (some v) s')
    (hE : ∀ s' τ', fin (m + 1) → R W τ' ls st s' → Ext τ₀ h₀ τ' s'.heap → 0 < s'.toks → Q none s') : wpAny (model pw W.w) A (pyNext (.ref ga)) Q E s := by
  obtain ⟨hg, gs, R0, hgg, hgo, go⟩ := I.go
  have freshP : ∀ b ∈ P, h₀.get? b = none ∧ τ₀ b = .none := fun b hb => C.fresh b (.tail _ hb)
  refine gen_next hA R0 I.toks hgg I.gen C.out I.heldP (go (Nat.succ_ne_zero m)) (fun v s' gs' hv R1 hex hk hal hgen ht => ?_) (fun s' hf R1 hk ht => ?_)
  · refine hY v s' _ _ hv ⟨I.ext.buts freshP hk, R1, ⟨gs', by simp [putGen], fun y hy => by simp only [putGen, if_neg hy]; exact hgo y hy, hal⟩, hgen, ?_, fun b hb => ?_, fun b hb => ?_, ht⟩
    · rw [upds_out C.out]; exact I.held
    · obtain ⟨o, ho⟩ := hex b hb
      exact ⟨o, (upds_in hb).trans (isHeld_some ho)⟩
    · by_cases hp : b ∈ P
      · exact .inl hp
      · obtain ⟨q, o, ho⟩ := (I.ro b hb).resolve_left hp
        exact .inr ⟨(upds_out hp).trans q, o, hk b o hp ho⟩
  · have R2 := R1.ungen C.hg (fun y hy => by simp only [putGen, if_neg hy]; exact hgo y hy)
    have x1 : Ext τ₀ h₀ (upds τ P fun _ => .none) s'.heap := I.ext.buts freshP hk
    have R3 := R2.turns (P := [ga]) (G := fun _ => .none) (t := s'.toks) (h' := s'.heap) (fun b hb => by
      rcases List.mem_singleton.mp hb with rfl
      rw [upds_out C.out]; exact .inl I.held) (fun b o _ e => e) (fun b _ => .inl rfl)
    refine hE s' _ hf R3 (x1.buts (fun b hb => ?_) fun b o _ e => e) ht
    rcases List.mem_singleton.mp hb with rfl
    exact C.fresh _ (.head _)
theorem GY.back {hg : Nat → Option GenState} (C : GC W τ₀ h₀ P fp ga g) (Y : GY W A ls τ₀ h₀ P fp val fin ga g hg m τ st s) (x : Ext τ s.heap τ' s'.heap) (R1 : R (W.g hg) τ' ls st' s') (ht : 0 < s'.toks) : GI W A ls τ₀ h₀ P fp val fin ga g m τ' st' s' := by
  obtain ⟨gs, h1, h2, go⟩ := Y.go
  have keepHeld : ∀ b, (∃ o, τ b = .held o) → ∃ o, τ' b = .held o ∧ s.heap.get? b = some o ∧ s'.heap.get? b = some o := fun b ⟨o, e⟩ => by
    have z := (x.claim b (by rw [e]; exact fun z => nomatch z)).trans e
    exact ⟨o, z, Y.r.held b o e, R1.held b o z⟩
  refine ⟨Y.ext.trans x, ⟨hg, gs, R1, h1, h2, fun hm => go hm _ ⟨fun b hb o e => ?_, fun b o e => (R1.base b o e).1, R1.dr, R1.os, setGen_bare rfl R1.gens, ht⟩⟩, ?_, ?_, fun b hb => ?_, fun b hb => ?_, ht⟩
  · show s'.heap.get? b = some o
    rcases Y.ro b hb with hp | hn
    · obtain ⟨o', _, e1, e2⟩ := keepHeld b (Y.heldP b hp)
      rw [e1] at e; cases e; exact e2
    · exact (x.keep b o hn.1 e).2
  · obtain ⟨o, nm, qn, ho, rest⟩ := Y.gen
    obtain ⟨o', _, e1, e2⟩ := keepHeld ga Y.held
    rw [e1] at ho; cases ho
    exact ⟨_, nm, qn, e2, rest⟩
  · obtain ⟨o', e0, _⟩ := keepHeld ga Y.held
    exact ⟨o', e0⟩
  · obtain ⟨o', e0, _⟩ := keepHeld b (Y.heldP b hb)
    exact .inl ⟨o', e0⟩
  · rcases Y.ro b hb with hp | ⟨hn, o, ho⟩
    · exact .inl hp
    · have z := x.keep b o hn ho
      exact .inr ⟨z.1, o, z.2⟩
theorem GY.done {hg : Nat → Option GenState} (C : GC W τ₀ h₀ P fp ga g) (Y : GY W A ls τ₀ h₀ P fp val fin ga g hg m τ st s) (x : Ext τ s.heap τ' s'.heap) (R1 : R (W.g hg) τ' ls st' s') :
    ∃ τ2, R W τ2 ls st' s' ∧ Ext τ₀ h₀ τ2 s'.heap ∧ ∀ v r, VR τ' s'.heap v r → VR τ2 s'.heap v r := by
  obtain ⟨gs, h1, h2, go⟩ := Y.go
  have hh : ∀ b ∈ ga :: P, ∃ o, τ' b = .held o := fun b hb => by
    have : ∃ o, τ b = .held o := by
      rcases List.mem_cons.mp hb with rfl | hb
      · exact Y.held
      · exact Y.heldP b hb
    obtain ⟨o, e⟩ := this
    exact ⟨o, (x.claim b (by rw [e]; exact fun z => nomatch z)).trans e⟩
  have R2 := (R1.ungen C.hg h2).turns (P := ga :: P) (G := fun _ => .none) (t := s'.toks) (h' := s'.heap) (fun b hb => .inl (hh b hb)) (fun b o _ e => e) (fun b _ => .inl rfl)
  have ne : ∀ b, (∀ o, τ' b ≠ .held o) → b ∉ ga :: P := fun b q hb => by obtain ⟨o, e⟩ := hh b hb; exact q o e
  refine ⟨_, R2, (Y.ext.trans x).buts C.fresh fun b o _ e => e, fun v r e => e.keep (fun b o q1 q2 => ⟨(upds_out (ne b fun o => by rw [q1]; exact fun z => nomatch z)).trans q1, q2⟩) fun b n q1 => (upds_out (ne b fun o => by rw [q1]; exact fun z => nomatch z)).trans q1⟩
end
end Mine.Internal
end
section
set_option genInjectivity false
open PySem PySem.W PyProof.Rows PySem.Calls
namespace Mine.Internal
inductive IsGrpB : List Stmt → Prop
  | mk {a6 a7 a8 a9 b1 b2 b3 b4 b5 b6 b7 b8 b9 c1 c2 c3 c4 c5 c6 c7 c8 c9 d1 d2 d3 d4 d5 d6 : Pos} {k2 k3 k4 k5 : Nat} : IsGrpB [
        .If (.Compare (.Name "interval" a6) [.Eq] [.Name "CHAR_MAX" a7] a8) [.Return none a9] [] b1,
        .If (.Compare (.Name "interval" b2) [.Eq] [.Constant (.int 0) k2 b3] b4) [
          .If (.Compare (.Name "last_interval" b5) [.Is] [.Constant .none k3 b6] b7) [.Raise (some (.Call (.Name "ValueError" b8) [.Constant (.str "invalid grouping") k4 b9] [] c1)) none c2] [] c3,
          .While (.Constant (.bool true) k5 c4) [.Expr (.Yield (some (.Name "last_interval" c5)) c6) c7] [] c8] [] c9,
        .Expr (.Yield (some (.Name "interval" d1)) d2) d3,
        .Assign [.Name "last_interval" d4] (.Name "interval" d5) d6]
inductive IsGrp : List Stmt → Prop
  | mk {a1 a2 a3 a4 a5 d7 : Pos} {k1 : Nat} {fb : List Stmt} (h : IsGrpB fb) : IsGrp [
      .Assign [.Name "last_interval" a1] (.Constant .none k1 a2) a3,
      .For (.Name "interval" a4) (.Name "grouping" a5) fb [] d7]
set_option maxRecDepth 100000
set_option maxHeartbeats 4000000
noncomputable def grpNm : Nm := [(Str.ofString "grouping", NameKind.local), (Str.ofString "last_interval", NameKind.local), (Str.ofString "interval", NameKind.local), (Str.ofString "CHAR_MAX", NameKind.globalImplicit), (Str.ofString "ValueError", NameKind.globalImplicit)]
noncomputable def grpVn : List Str := [Str.ofString "grouping", Str.ofString "last_interval", Str.ofString "interval"]
theorem grpIs (q : Params) : IsGrp (bodyOf q 67) := .mk .mk
theorem raw_grp (q : Params) : Raw q 67 66 := by constructor <;> kernel_rfl
theorem nm_grp (q : Params) : nmChk grpNm (fdOf q 67).scope.names = true := by kernel_rfl
theorem gen_grp (q : Params) : (fdOf q 67).scope.isGenerator = true := by kernel_rfl
theorem cell_grp (q : Params) : noCell (fdOf q 67).scope.names = true := by kernel_rfl
theorem loc_grp (q : Params) : allLoc (fdOf q 67).scope.names grpVn = true := by kernel_rfl
theorem bind_grp (q : Params) (u : Value) : bindArgs (fdOf q 67) ⟨[u], []⟩ = pure [(Str.ofString "grouping", u)] := by kernel_rfl
theorem fact_gen {W : Wd} (ok : W.Ok) {a c : Addr} {pp : Str} {r : List Str} (R0 : Raw W.w.params a c) (hcell : noCell (fdOf W.w.params a).scope.names = true) (hgen : (fdOf W.w.params a).scope.isGenerator = true)
    (hloc : allLoc (fdOf W.w.params a).scope.names (pp :: r) = true) (hnd : (pp :: r).Nodup) (b : ∀ u, bindArgs (fdOf W.w.params a) ⟨[u], []⟩ = pure [(pp, u)]) : GFact W a (fdOf W.w.params a) pp r (bodyOf W.w.params a) where
  obj := ⟨_, .inl (ok.X _ _ R0.at_), R0.data⟩
  code := fun h hb => (R0.obj ok h hb).elim fun _ x => x.2.2
  body := R0.body
  kind := R0.kind
  cell := noCell_ok hcell
  globals := R0.globals
  builtins := R0.builtins
  co := R0.co
  gen := hgen
  nodup := hnd
  loc := allLoc_ok hloc
  bind := b
theorem fact_grp {W : Wd} (ok : W.Ok) : GFact W 67 (fdOf W.w.params 67) (Str.ofString "grouping") [Str.ofString "last_interval", Str.ofString "interval"] (bodyOf W.w.params 67) :=
  fact_gen ok (raw_grp _) (cell_grp _) (gen_grp _) (loc_grp _) (by decide +kernel) (bind_grp _)
noncomputable def charTok (q : Params) : Tok := tokInt ((nsIn (hd.heap_1 q) mainGlobals "CHAR_MAX").join)
theorem ns_char (q : Params) : nsIn (hd.heap_1 q) mainGlobals "CHAR_MAX" = some (some (.int 127 (charTok q))) := by kernel_rfl
noncomputable def grpAt (is : List Int) : Nat → Option Grp
  | 0 => some (.run is .none)
  | j + 1 => bd (grpAt is j) fun G => bd G.next fun x => x.map (·.2)
noncomputable def grpVal (is : List Int) (N : Nat) (m : Nat) (v : Value) (h : Heap) : Prop := ∃ G x G', grpAt is (N - 1 - m) = some G ∧ G.next = some (some (x, G')) ∧ ∃ t, v = .int x t
noncomputable def grpFin (is : List Int) (N : Nat) (n : Nat) : Prop := ∃ G, grpAt is (N - n) = some G ∧ G.next = some .none
theorem grpAt_step {is : List Int} {j : Nat} {G G' : Grp} {x : Int} (h : grpAt is j = some G) (e : G.next = some (some (x, G'))) : grpAt is (j + 1) = some G' := by
  show bd (grpAt is j) (fun G => bd G.next fun x => x.map (·.2)) = _
  rw [h]
  show bd G.next _ = _
  rw [e]; rfl
noncomputable def lastV : Option Int → V
  | .none => .d .none
  | some v => .d (.int v)
theorem sub1 (N n : Nat) : N - 1 - n = N - (n + 1) := by omega
theorem sub2 {N n : Nat} (h : n + 1 ≤ N) : N - n = N - (n + 1) + 1 := by omega
theorem sub3 (i : Nat) : (i : Int) = ((i + 1 : Nat) : Int) - 1 := by omega
theorem over_ok {A : Around} {c : Code} {fs : List Frame} (h1 : A.handled = none) (hm : (marksOver fs (none, none)).1 = none) (hd : A.depth + frameCount (fs.map Frame.where_) + c.weight < 990) (hu : A.units + unitsOf (fs.map Frame.where_) + c.cUnits < 9000) : AOk (A.over c fs) 0 :=
  ⟨by simp only [Around.over]; rw [h1]; exact hm, by simp only [Around.over]; (first | lia | omega), by simp only [Around.over]; (first | lia | omega)⟩
section
variable {W : Wd} {s₀ : Shared} {L I p : Addr} {vs : List Value} {ep : Nat} {is : List Int}
structure GrpS (W : Wd) (s₀ : Shared) (L I p : Addr) (vs : List Value) (ep : Nat) (i : Nat) (τ : Tau) (last : Option Int) (y : Option V) (s : Shared) : Prop where
  dr : s₀.drawn = W.dr
  os : s₀.os = W.os
  keep : ∀ b o, b ∉ [L, I] → s₀.heap.get? b = some o → s.heap.get? b = some o ∧ τ b = .none
  r : R (W.g fun (z : Nat) => s₀.gens[z]?) τ (grpVn.map (Loc.dict L)) ⟨[.none, some (lastV last), y], []⟩ s
  fl : ∀ v, y = some v → flat v = true
  it : ∃ o, τ I = .held o ∧ o.cls = .type "list_iterator" ∧ o.data = .fields #[.ref p, .int i 0]
  p0 : τ p = .none
  p1 : s.heap.get? p = some (LO vs ep)
  toks : 0 < s.toks
theorem GrpS.step {i : Nat} {τ τ' : Tau} {last last' : Option Int} {y y' : Option V} {s s' : Shared} (S : GrpS W s₀ L I p vs ep i τ last y s) (x : Ext τ s.heap τ' s'.heap) (ht : 0 < s'.toks)
    (r : R (W.g fun (z : Nat) => s₀.gens[z]?) τ' (grpVn.map (Loc.dict L)) ⟨[.none, some (lastV last'), y'], []⟩ s') (fl : ∀ v, y' = some v → flat v = true) : GrpS W s₀ L I p vs ep i τ' last' y' s' := by
  obtain ⟨o, h1, h2⟩ := S.it
  have z := x.keep p _ S.p0 S.p1
  exact ⟨S.dr, S.os, fun b o hb e => have q := S.keep b o hb e; (x.keep b o q.2 q.1).symm, r, fl, ⟨o, (x.claim I (by rw [h1]; exact fun z => nomatch z)).trans h1, h2⟩, z.1, z.2, ht⟩
theorem GrpS.since {i : Nat} {τ : Tau} {last : Option Int} {y : Option V} {s : Shared} (S : GrpS W s₀ L I p vs ep i τ last y s) : Since [L, I] s₀ s :=
  ⟨fun b o hb e => (S.keep b o hb e).1, fun g x e => S.r.hgens g x e, S.r.gens, S.r.dr.trans S.dr.symm, S.r.os.trans S.os.symm⟩
theorem GrpS.again {i : Nat} {τ : Tau} {last : Option Int} {y : Option V} {s s2 : Shared} (S : GrpS W s₀ L I p vs ep i τ last y s) (al : Alike W [L, I, p] s s2) (hI : I ≠ L) (hp : p ∉ [L, I]) (hB : ∀ b o, b = L ∨ b ∈ [L, I] → ¬ W.B b o) :
    GrpS W s2 L I p vs ep i (tgen L [L, I] s2.heap) last y s2 := by
  obtain ⟨o, h1, h2⟩ := S.it
  have hpn : ∀ b, b ∉ [L, I] → tgen L [L, I] s2.heap b = .none := fun b hb => by
    unfold tgen
    rw [if_neg (fun e : b = L => hb (by simp [e])), if_neg hb]
  have fl : ∀ (j : Nat) v, ([.none, some (lastV last), y] : List (Option V))[j]? = some (some v) → flat v = true := fun j v e => by
    match j, e with
    | 1, e =>
      cases e
      cases last <;> rfl
    | 2, e =>
      have e' : some y = some (some v) := e
      cases e'
      exact S.fl v rfl
  refine ⟨al.dr, al.os, fun b o hb e => ⟨e, hpn b hb⟩, R.again (W := W.g fun (z : Nat) => s₀.gens[z]?) S.r ⟨al.fp, al.base, al.dr, al.os, al.bare, al.toks⟩ (.head _) (by decide) hB fl, S.fl, ⟨o, ?_, h2⟩, hpn p hp, al.fp p (by simp) _ S.p1, al.toks⟩
  unfold tgen
  rw [if_neg hI, if_pos (by simp)]
  exact isHeld_some (al.fp I (by simp) o (S.r.held I o h1))
end
end Mine.Internal
end
section
set_option genInjectivity false
open PySem PySem.W PyProof.Rows PySem.Calls
namespace Mine.Internal
section
variable {W : Wd} {A : Around} {s₀ : Shared} {L I p : Addr} {vs : List Value} {ep : Nat} {is : List Int} {N : Nat}
noncomputable def grpCx (q : Params) (L : Addr) : Cx := fnCx (fdOf q 67) grpVn L 67
theorem grpCx_ok (ok : W.Ok) (L : Addr) : CtxOk grpNm grpVn.zipIdx 3 (grpCx W.w.params L) :=
  ⟨genCx_ok (fact_grp ok) L, fun x k e => .inl (nmChk_ok (nm_grp W.w.params) e), rfl, rfl⟩
theorem TE.charMax {c : Cx} {k : Nat} {st : PS} {px : Pos} (hx : c.env.kindOf "CHAR_MAX" = some .globalImplicit) : TE W c k st (.Name "CHAR_MAX" px) (.d (.int 127)) st :=
  .mk fun ok A τ s Q E hA r _ hQ => wpAny_globName ok r (ns_char _) hx (hQ τ s _ (Ext.refl ..) r VR.int) rfl
structure GrpC (W : Wd) (L I p : Addr) : Prop where
  ok : W.Ok
  ne : I ≠ L
  hp : p ∉ [L, I]
  B : ∀ b o, b = L ∨ b ∈ [L, I] → ¬ W.B b o
theorem GrpS.ex {i : Nat} {τ : Tau} {last : Option Int} {y : Option V} {s : Shared} (S : GrpS W s₀ L I p vs ep i τ last y s) : ∀ b ∈ [L, I], ∃ o, s.heap.get? b = some o := fun b hb => by
  rcases List.mem_cons.mp hb with rfl | hb
  · obtain ⟨_, m, o, es, ep, h1, _⟩ := S.r.locs (.dict b "grouping") (.head _)
    exact ⟨o, h1⟩
  · rcases List.mem_singleton.mp hb with rfl
    obtain ⟨o, h1, _⟩ := S.it
    exact ⟨o, S.r.held _ o h1⟩
theorem grp_forever (C : GrpC W L I p) {v : Int} {c4 c5 c6 c7 : Pos} {k5 : Nat} {fs : List Frame} (hfs : splitAtGen fs = none) (hfg : fs.any Frame.guarded = false) (i : Nat) (y : Option V)
    (hA : AOk (A.over (.whileLoop (.Constant (.bool true) k5 c4) [.Expr (.Yield (some (.Name "last_interval" c5)) c6) c7] [] (grpCx W.w.params L).env) fs) 0) :
    ∀ (n : Nat) (s₀ s : Shared) (τ : Tau) (G : Grp), n ≠ 0 → n ≤ N → grpAt is (N - n) = some G → G.next = some (some (v, .loop v)) → GrpS W s₀ L I p vs ep i τ (some v) y s →
      Seg (model pw W.w) A (gEnd [L, I] (grpFin is N)) (gProto W [L, I] [L, I, p] (grpVal is N)) n s₀ (.whileLoop (.Constant (.bool true) k5 c4) [.Expr (.Yield (some (.Name "last_interval" c5)) c6) c7] [] (grpCx W.w.params L).env)
        ((model pw W.w).den (.whileLoop (.Constant (.bool true) k5 c4) [.Expr (.Yield (some (.Name "last_interval" c5)) c6) c7] [] (grpCx W.w.params L).env)) fs s
  | 0, _, _, _, _, h, _, _, _, _ => absurd rfl h
  | n + 1, s₀, s, τ, G, _, hN, hG, hn, S => by
    have K := grpCx_ok C.ok L
    refine seg_whileLoop (TB.value (W := W.g fun (z : Nat) => s₀.gens[z]?) (n := 0) TE.bool (fun _ _ => rfl) K.ok _ τ s _ _ hA S.r S.toks fun τ1 s1 t1 x1 R1 => ?_)
    rw [if_pos rfl]
    refine seg_execs_cons (seg_Expr_Yield hfs rfl hfg (TE.name (W := W.g fun (z : Nat) => s₀.gens[z]?) (k := 0) (x := Str.ofString "last_interval") (i := 1) (v := .d (.int v)) rfl rfl rfl rfl K.ok _ τ1 s1 _ _ hA R1 t1 fun τ2 s2 u t2 x2 R2 v2 kap hk => ?_) (fact_grp C.ok).co (fun_quiet K))
    have S2 := (S.step x1 t1 R1 S.fl).step x2 t2 R2 S.fl
    have hj := sub1 N n
    refine ⟨⟨G, v, .loop v, by rw [hj]; exact hG, hn, isInt v2⟩, S2.since, S2.ex, fun hm s3 al => hk .none s3 ?_⟩
    refine seg_again rfl ?_
    have e := sub2 hN
    exact grp_forever C hfs hfg i y hA n s3 s3 _ (.loop v) hm (Nat.le_of_succ_le hN) (by rw [e]; exact grpAt_step hG hn) rfl (S2.again al C.ne C.hp C.B)
end
end Mine.Internal
end
section
set_option genInjectivity false
open PySem PySem.W PyProof.Rows PySem.Calls
namespace Mine.Internal
theorem ints_none {vs : List Value} {is : List Int} (h : IntsAre vs is) : ∀ {i : Nat}, is.drop i = [] → vs[i]? = none := by
  induction h with
  | nil => intro i _; simp
  | cons n t _ ih =>
    intro i e
    cases i with
    | zero => simp at e
    | succ i => simpa using ih (by simpa using e)
theorem ints_some {vs : List Value} {is : List Int} (h : IntsAre vs is) : ∀ {i : Nat} {x : Int} {r : List Int}, is.drop i = x :: r → ∃ t, vs[i]? = some (.int x t) := by
  induction h with
  | nil => intro i x r e; simp at e
  | cons n t _ ih =>
    intro i x r e
    cases i with
    | zero => simp at e; exact ⟨t, by simp [e.1]⟩
    | succ i => simpa using ih (by simpa using e)
theorem drop_tail {is : List Int} {i : Nat} {x : Int} {r : List Int} (e : is.drop i = x :: r) : is.drop (i + 1) = r := by
  have : is.drop (i + 1) = (is.drop i).drop 1 := by rw [List.drop_drop]
  rw [this, e]; rfl
section
variable {W : Wd} {A : Around} {s₀ : Shared} {L I p : Addr} {vs : List Value} {ep : Nat} {is : List Int} {N : Nat}
theorem GrpS.next (C : GrpC W L I p) (hI : IntsAre vs is) {A : Around} {i : Nat} {last : Option Int} {y : Option V} {τ : Tau} {s : Shared} (S : GrpS W s₀ L I p vs ep i τ last y s) {Q : Option Value → Shared → Prop} {E : Value → Shared → Prop} (hA : AOk A 0)
    (h0 : is.drop i = [] → ∀ s', Since [L, I] s₀ s' → Q none s') (h1 : ∀ x r, is.drop i = x :: r → ∀ s' τ' t, GrpS W s₀ L I p vs ep (i + 1) τ' last y s' → Q (some (.int x t)) s') : wpAny (model pw W.w) A (pyNext (.ref I)) Q E s := by
  obtain ⟨o, ho, hc, hd⟩ := S.it
  have hg := S.r.held I o ho
  have hli : s.heap.IsList p vs.toArray := ⟨_, S.p1, rfl, ep, rfl⟩
  cases q : is.drop i with
  | nil =>
    refine wpAny_pyNext_list_end hA.handled ⟨o, hg, hc, hd⟩ hli (by simpa using ints_none hI q) fun h' hk => h0 q _ ?_
    have z := S.since
    exact ⟨fun b u hb e => hk b u (fun w => hb (by simp [w])) (z.keep b u hb e), z.gens, z.bare, z.dr, z.os⟩
  | cons x r =>
    obtain ⟨t, ht⟩ := ints_some hI q
    refine wpAny_pyNext_list_item ⟨o, hg, hc, hd⟩ hli (by simpa using ht) fun h' hi hsb => h1 x r q _ (upd τ I (.held (hi.choose))) t ?_
    obtain ⟨g1, g2, g3⟩ := hi.choose_spec
    have hk : ∀ b u, b ≠ I → s.heap.get? b = some u → h'.get? b = some u := fun b u hb e => (hsb.2 b hb).trans e
    have hpI : p ≠ I := fun e => C.hp (by simp [e])
    refine ⟨S.dr, S.os, fun b u hb e => ?_, S.r.turn (.inl ⟨_, ho⟩) hk (.inr ⟨_, rfl, g1⟩), S.fl, ⟨_, upd_self .., g2, g3⟩, (upd_ne hpI).trans S.p0, hk _ _ hpI S.p1, S.toks⟩
    have hb' : b ≠ I := fun w => hb (by simp [w])
    have z := S.keep b u hb e
    exact ⟨hk b u hb' z.1, (upd_ne hb').trans z.2⟩
end
end Mine.Internal
end
section
set_option genInjectivity false
open PySem PySem.W PyProof.Rows PySem.Calls
namespace Mine.Internal
section
variable {W : Wd} {A : Around} {s₀ : Shared} {L I p : Addr} {vs : List Value} {ep : Nat} {is : List Int} {N : Nat}
theorem split_ret {k g l c p kp} {fs : List Frame} (h : splitAtGen fs = none) : splitAtGen (.ret k none g l c p kp :: fs) = none := by
  show (splitAtGen fs).map _ = none
  rw [h]; rfl
theorem grp_loop (C : GrpC W L I p) (hI : IntsAre vs is) {a4 : Pos} {fb : List Stmt} {fc : Code} (hfb : IsGrpB fb) (hfc : fc = .forLoop (.Name "interval" a4) (.ref I) fb [] (grpCx W.w.params L).env) {fs : List Frame} (hfs : splitAtGen fs = none) (hfg : fs.any Frame.guarded = false)
    (hend : ∀ n s₀ s c f, (f = .next ∨ f = .ret .none) → grpFin is N n → Since [L, I] s₀ s → Seg (model pw W.w) A (gEnd [L, I] (grpFin is N)) (gProto W [L, I] [L, I, p] (grpVal is N)) n s₀ c (leafOf (.ok f)) fs s)
    (hA : AOk (A.over fc fs) 0)
    (hA2 : ∀ k5 c4 wb k g l p' kp, AOk (A.over (.whileLoop (.Constant (.bool true) k5 c4) wb [] (grpCx W.w.params L).env) (.ret k none g l fc p' kp :: fs)) 0) :
    ∀ (rest : List Int) (i n : Nat) (last : Option Int) (y : Option V) (s₀ s : Shared) (τ : Tau), n ≠ 0 → n ≤ N → is.drop i = rest → grpAt is (N - n) = some (.run rest last) → (last = none → rest.head? ≠ some 0) →
      GrpS W s₀ L I p vs ep i τ last y s →
      Seg (model pw W.w) A (gEnd [L, I] (grpFin is N)) (gProto W [L, I] [L, I, p] (grpVal is N)) n s₀ fc ((model pw W.w).den fc) fs s := by
  have hq : fc.quiet = true := by rw [hfc]; rfl
  have K := grpCx_ok C.ok L
  intro rest
  induction rest with
  | nil =>
    intro i n last y s₀ s τ hn hN hd hG hl S
    refine sgForLoop' hfc (S.next C hI hA (fun _ s' z c' => hend n s₀ s' c' .next (.inl rfl) ⟨_, hG, rfl⟩ z) (fun x r e => by rw [hd] at e; cases e))
  | cons x r ih =>
    intro i n last y s₀ s τ hn hN hd hG hl S
    obtain ⟨n, rfl⟩ : ∃ m, n = m + 1 := Nat.exists_eq_succ_of_ne_zero hn
    refine sgForLoop' hfc (S.next C hI hA (fun e => by rw [hd] at e; cases e) (fun x' r' e s1 τ1 t S1 => ?_))
    rw [hd] at e
    cases e
    clear hfc
    cases hfb
    refine wpAny_of_eq (rfl : letOwnedTupleGo (.Name "interval" _) (.ref I) _ = pure ()) ?_
    refine wpAny_assign_Name (wpAny_with_toks (n := 1) S1.toks (storeTo (W := W.g fun (z : Nat) => s₀.gens[z]?) (i := 2) (v := .d (.int x)) K.ok S1.r rfl (by show 2 < 3; decide) (by show 2 < 3; decide) (TgtN.free (nm := grpNm) (ix := grpVn.zipIdx) (cap := 3) (i := 2) ⟨rfl, by decide, .inl rfl⟩ K.nm) VR.int fun s2 R2 x2 t2 => ?_))
    have S2 : GrpS W s₀ L I p vs ep (i + 1) τ1 last (some (.d (.int x))) s2 := S1.step x2 t2 R2 (fun v e => by cases e; rfl)
    refine seg_execs_cons (sgIf (TB.cmp (W := W.g fun (z : Nat) => s₀.gens[z]?) (k := 0) (x := .d (.int x)) (y := .d (.int 127)) (b := x == 127) rfl (TE.name (x := Str.ofString "interval") (i := 2) rfl rfl rfl rfl) (TE.charMax ((K.nm _ _ (show grpNm.lookup (Str.ofString "CHAR_MAX") = some .globalImplicit from rfl)).elim id fun q => (nomatch q.1))) rfl K.ok _ τ1 s2 _ _ hA S2.r S2.toks fun τ3 s3 t3 x3 R3 => ?_))
    have S3 := S2.step x3 t3 R3 S2.fl
    by_cases h127 : x = 127
    · subst h127
      refine seg_execs_cons (seg_wrap (wpAny_Return_none ?_))
      exact hend _ s₀ s3 _ (.ret .none) (.inr rfl) ⟨_, hG, rfl⟩ S3.since
    have e127 : (x == 127) = false := by simpa using h127
    rw [e127]
    refine seg_execs_nil (seg_execs_cons (sgIf (TB.cmp (W := W.g fun (z : Nat) => s₀.gens[z]?) (k := 0) (x := .d (.int x)) (y := .d (.int 0)) (b := x == 0) rfl (TE.name (x := Str.ofString "interval") (i := 2) rfl rfl rfl rfl) TE.int rfl K.ok _ τ3 s3 _ _ hA S3.r S3.toks fun τ4 s4 t4 x4 R4 => ?_)))
    have S4 := S3.step x4 t4 R4 S3.fl
    by_cases h0 : x = 0
    · subst h0
      cases last with
      | none => exact absurd rfl (hl rfl)
      | some v =>
        refine seg_execs_cons (sgIf (TB.cmp (W := W.g fun (z : Nat) => s₀.gens[z]?) (k := 0) (x := .d (.int v)) (y := .d .none) (b := false) rfl (TE.name (x := Str.ofString "last_interval") (i := 1) rfl rfl rfl rfl) TE.none rfl K.ok _ τ4 s4 _ _ hA S4.r S4.toks fun τ5 s5 t5 x5 R5 => ?_))
        have S5 := S4.step x5 t5 R5 S4.fl
        refine seg_execs_nil (seg_execs_cons (seg_While fun p' => ?_))
        exact grp_forever C (split_ret hfs) (by exact hfg) (i + 1) _ (hA2 _ _ _ _ _ _ _ _) (n + 1) s₀ s5 τ5 (.run (0 :: r) (some v)) hn hN hG rfl S5
    have e0 : (x == 0) = false := by simpa using h0
    rw [e0]
    have hG2 : Grp.next (.run (x :: r) last) = some (some (x, .run r (some x))) := (if_neg h127).trans (if_neg h0)
    refine seg_execs_nil (seg_execs_cons (seg_Expr_Yield hfs rfl hfg (TE.name (W := W.g fun (z : Nat) => s₀.gens[z]?) (k := 0) (x := Str.ofString "interval") (i := 2) (v := .d (.int x)) rfl rfl rfl rfl K.ok _ τ4 s4 _ _ hA S4.r S4.toks fun τ5 s5 u t5 x5 R5 v5 kap hk => ?_) (fact_grp C.ok).co (fun_quiet K)))
    have S5 := S4.step x5 t5 R5 S4.fl
    have hj := sub1 N n
    refine ⟨⟨_, x, _, by rw [hj]; exact hG, hG2, isInt v5⟩, S5.since, S5.ex, fun hm s6 al => hk .none s6 ?_⟩
    have S6 := S5.again al C.ne C.hp C.B
    refine seg_execs_cons (seg_wrap (TS1.assign (W := W.g fun (z : Nat) => s6.gens[z]?) (k := 0) (x := Str.ofString "last_interval") (i := 1) (v := .d (.int x)) rfl rfl (by show 1 < 3; decide) (TgtN.free (nm := grpNm) (ix := grpVn.zipIdx) (cap := 3) (i := 1) ⟨rfl, by decide, .inl rfl⟩ K.nm) (TE.name (x := Str.ofString "interval") (i := 2) rfl rfl rfl rfl) (by show 1 < 3; decide) K.ok _ _ s6 _ _ hA S6.r S6.toks fun τ7 s7 f7 t7 x7 R7 v7 => ?_))
    cases v7
    have S7 : GrpS W s6 L I p vs ep (i + 1) τ7 (some x) (some (.d (.int x))) s7 := S6.step x7 t7 R7 S6.fl
    refine seg_execs_nil (seg_again hq ?_)
    have e := sub2 hN
    exact ih (i + 1) n (some x) _ s6 s7 τ7 hm (Nat.le_of_succ_le hN) (drop_tail hd) (by rw [e]; exact grpAt_step hG hG2) (fun e => nomatch e) S7
end
end Mine.Internal
end
section
set_option genInjectivity false
open PySem PySem.W PyProof.Rows PySem.Calls
namespace Mine.Internal
theorem overFunc {A : Around} {body : List Stmt} {env : Env} {c : Code} (hc : c.weight = 0 ∧ c.cUnits = 0) (h1 : A.handled = none) (hd : A.depth + 1 < 990) (hu : A.units + 3 < 9000) {k g l p kp} : AOk (A.over c [.ret k none g l (.func body env) p kp]) 0 :=
  over_ok h1 rfl (by rw [hc.1]; exact hd) (by rw [hc.2]; exact hu)
theorem overFunc2 {A : Around} {body : List Stmt} {env : Env} {c c' : Code} (hc : c.weight = 0 ∧ c.cUnits = 0) (hc' : c'.weight = 0 ∧ c'.cUnits = 0) (h1 : A.handled = none) (hd : A.depth + 1 < 990) (hu : A.units + 3 < 9000) {k g l p kp k' g' l' p' kp'} :
    AOk (A.over c [.ret k' none g' l' c' p' kp', .ret k none g l (.func body env) p kp]) 0 :=
  over_ok h1 rfl (by
    have : frameCount (List.map Frame.where_ [.ret k' none g' l' c' p' kp', .ret k none g l (.func body env) p kp]) = c'.weight + 1 := by simp [frameCount, Frame.where_]; rfl
    rw [this, hc.1, hc'.1]; (first | lia | omega)) (by
    have : unitsOf (List.map Frame.where_ [.ret k' none g' l' c' p' kp', .ret k none g l (.func body env) p kp]) = c'.cUnits + 3 := by simp [unitsOf, Frame.where_]; rfl
    rw [this, hc.2, hc'.2]; (first | lia | omega))
section
variable {W : Wd} {A : Around} {s₀ : Shared} {L I p : Addr} {vs : List Value} {ep : Nat} {is : List Int} {N : Nat}
theorem grp_start (C : GrpC W L I p) (hI : IntsAre vs is) (hfirst : is.head? ≠ some 0) {s : Shared} (al : Alike W [] s s) (hns : s.heap.Ns L (fun y => ([(Str.ofString "grouping", Value.ref p)] : List (Str × Value)).reverse.lookup y))
    (hp1 : s.heap.get? p = some (LO vs ep)) (hIs : I = s.heap.objs.size) (hN : N ≠ 0) (h1 : A.handled = none) (hd : A.depth + 1 < 990) (hu : A.units + 3 < 9000) :
    Seg (model pw W.w) A (gEnd [L, I] (grpFin is N)) (gProto W [L, I] [L, I, p] (grpVal is N)) N s (.func (bodyOf W.w.params 67) (grpCx W.w.params L).env) ((model pw W.w).den (.func (bodyOf W.w.params 67) (grpCx W.w.params L).env)) [] s := by
  have K := grpCx_ok C.ok L
  have hloc : ∀ x, x ∈ grpVn → (grpCx W.w.params L).env.kindOf x = some .local := fun x hx => (K.nm x .local (by
    simp only [grpVn, List.mem_cons, List.mem_nil_iff, or_false] at hx
    rcases hx with rfl | rfl | rfl <;> rfl)).elim id fun q => (nomatch q.1)
  refine seg_func ?_
  have hB := grpIs W.w.params
  generalize bodyOf W.w.params 67 = body at hB ⊢
  cases hB with | mk hfb =>
  refine seg_execs_cons (seg_wrap (wpAny_Assign_Name (wpAny_Constant_none (wpAny_storeName_local (hloc _ (by simp [grpVn])) hns (fun h' hn' hs => ?_) (by rw [K.ok.kind]; rfl)))))
  refine seg_execs_cons (sgFor (fun _ => rfl) ?_)
  refine wpAny_Name (wpAny_loadName_local (v := .ref p) K.ok.kind (hloc _ (by simp [grpVn])) hn' (by rw [if_neg (by decide)]; rfl) ?_) rfl
  have hpL : p ≠ L := fun e => C.hp (by simp [e])
  have hp' : h'.get? p = some (LO vs ep) := (hs.2 p hpL).trans hp1
  refine wpAny_pyIter_list (items := vs.toArray) ⟨_, hp', rfl, ep, rfl⟩ ?_
  have hsz : h'.objs.size = I := hs.1.trans hIs.symm
  rw [hsz]
  generalize hh : h'.push { cls := .type "list_iterator", data := .fields #[.ref p, .int 0 0] } = h2
  have up : ∀ b o, h'.get? b = some o → h2.get? b = some o := fun b o e => by rw [← hh]; exact Heap.get?_push_of_some _ e
  have kp : ∀ b o, b ≠ L → s.heap.get? b = some o → h2.get? b = some o := fun b o hb e => up b o ((hs.2 b hb).trans e)
  have hIo : h2.get? I = some { cls := .type "list_iterator", data := .fields #[.ref p, .int 0 0] } := by rw [← hh, ← hsz]; exact Heap.get?_push_size _ rfl
  have al2 : Alike W [] s { s with heap := h2, toks := s.toks + 1 } := ⟨fun b hb => (nomatch hb), fun b o e => kp b o (fun q => C.B b o (.inl q) e) (al.base b o e), al.dr, al.os, al.bare, Nat.succ_pos _⟩
  have hpn : ∀ b, b ∉ [L, I] → tgen L [L, I] h2 b = .none := fun b hb => by
    unfold tgen
    rw [if_neg (fun e : b = L => hb (by simp [e])), if_neg hb]
  have hIt : tgen L [L, I] h2 I = .held { cls := .type "list_iterator", data := .fields #[.ref p, .int 0 0] } := by
    unfold tgen
    rw [if_neg C.ne, if_pos (by simp)]
    exact isHeld_some hIo
  have R2 := R.made (P := [L, I]) (vn := grpVn) (vars := [.none, some (lastV .none), .none]) C.ok al2 (hn'.at fun o e => up L o e) C.B (fun i v e => by
    match i, e with
    | 1, e =>
      cases e
      exact ⟨Str.ofString "last_interval", .none, rfl, if_pos rfl, VR.none⟩
    | 0, e => cases e
    | 2, e => cases e
    | n + 3, e => simp at e)
  have S2 : GrpS W s L I p vs ep 0 (tgen L [L, I] h2) .none .none { s with heap := h2, toks := s.toks + 1 } :=
    ⟨al.dr, al.os, fun b o hb e => ⟨kp b o (fun q => hb (by simp [q])) e, hpn b hb⟩, R2, fun v e => (nomatch e), ⟨_, hIt, rfl, rfl⟩, hpn p C.hp, up _ _ hp', Nat.succ_pos _⟩
  intro p'
  refine grp_loop C hI hfb rfl rfl rfl (fun n s₀ s c f hf hfin hz => ?_) (overFunc ⟨rfl, rfl⟩ h1 hd hu) (fun _ _ _ _ _ _ _ _ => overFunc2 ⟨rfl, rfl⟩ ⟨rfl, rfl⟩ h1 hd hu) is 0 N .none .none s _ _ hN (Nat.le_refl _) rfl (by rw [Nat.sub_self]; rfl) (fun _ => hfirst) S2
  refine seg_leaf (.ok f) ?_
  rw [backK_ok]
  rcases hf with rfl | rfl
  · exact seg_end (.ok (.ret .none)) ⟨rfl, hfin, hz⟩
  · exact seg_end (.ok (.ret .none)) ⟨rfl, hfin, hz⟩
end
end Mine.Internal
end
section
set_option genInjectivity false
open PySem PySem.W PyProof.Rows PySem.Calls
namespace Mine.Internal
theorem ints_map : ∀ {l : List D} {is : List Int}, ints? (l.map V.d) = some is → l = is.map D.int
  | [], is, h => by cases h; rfl
  | d :: r, is, h => bd_c (x := asI (.d d)) h fun x hx h => bd_c h fun l hl h => by
    cases h
    cases asI_e hx
    rw [ints_map hl]; rfl
theorem ints_are {τ : Tau} {h : Heap} : ∀ {is : List Int} {vs : List Value}, DRs τ h (is.map D.int) vs → IntsAre vs is
  | [], vs, e => by cases e; exact .nil
  | x :: r, vs, e => by
    obtain ⟨v, rs, rfl, ⟨t, rfl⟩, e2⟩ := e
    exact .cons x t (ints_are e2)
section
variable {W : Wd} {F : Addr → Option Fn}
theorem gen_held {A : Around} {ls : List Loc} {τ τ1 : Tau} {st st1 : PS} {s s1 s2 : Shared} {L ga a : Addr} {fd : FuncData} {pp : Str} {body : List Stmt} {u : Value} {X : List Addr} {fp : List Addr} {val : Nat → Value → Heap → Prop} {fin : Nat → Prop} {n : Nat}
    (R0 : R W τ ls st s) (x1 : Ext τ s.heap τ1 s1.heap) (R1 : R W τ1 ls st1 s1) (G : GMade W a fd pp body u s1 s2 L ga)
    (hX : ∀ b ∈ X, ga < b) (hfp : ∀ b ∈ fp, b ∈ L :: X ∨ (τ1 b = .none ∧ ∃ o, s1.heap.get? b = some o))
    (hgo : n ≠ 0 → ∀ s', s'.heap = s2.heap → Alike W [] s' s' → (∀ b o, b = L ∨ b ∈ L :: X → ¬ W.B b o) → Seg (model pw W.w) A.in1 (gEnd (L :: X) fin) (gProto W (L :: X) fp val) n s' (.func body (callEnv fd L a)) ((model pw W.w).den (.func body (callEnv fd L a))) [] s') :
    GC W τ s.heap (L :: X) fp ga s1.gens.size ∧ ∃ τ2, GI W A ls τ s.heap (L :: X) fp val fin ga s1.gens.size n τ2 st1 s2 := by
  have f1 : ∀ b ∈ ga :: L :: X, s1.heap.get? b = none := fun b hb => by
    rcases List.mem_cons.mp hb with rfl | hb
    · exact G.freshG
    rcases List.mem_cons.mp hb with rfl | hb
    · exact G.freshL
    · cases q : s1.heap.get? b with
      | none => rfl
      | some o =>
        have w := Heap.lt_size (G.keep b o q)
        rw [G.size] at w
        exact absurd w (Nat.not_lt.mpr (hX b hb))
  have hgn : W.hg s1.gens.size = none := by
    cases q : W.hg s1.gens.size with
    | none => rfl
    | some x =>
      have := R1.hgens _ _ q
      rw [Array.getElem?_eq_none (Nat.le_refl _)] at this; cases this
  have C : GC W τ s.heap (L :: X) fp ga s1.gens.size := ⟨fun hb => by
      rcases List.mem_cons.mp hb with e | hb
      · exact Nat.ne_of_gt G.lt e
      · exact Nat.lt_irrefl _ (hX ga hb), fun b hb => by
      have q := grown_none R0 x1 (f1 b hb) R1.alive
      exact ⟨q, R0.fresh q⟩, hgn⟩
  refine ⟨C, upds τ1 [ga, L] (isHeld s2.heap), ?_⟩
  have R2 := R1.turns (P := [ga, L]) (G := isHeld s2.heap) (t := s2.toks) (h' := s2.heap) (fun b hb => .inr (f1 b (by
    rcases List.mem_cons.mp hb with rfl | hb
    · simp
    · rcases List.mem_singleton.mp hb with rfl; simp))) (fun b o _ e => G.keep b o e) (fun b _ => isHeld_or b)
  have hb2 : AllBare s2.gens := by rw [G.gens]; exact R1.gens.push rfl
  have R3 : R (W.g (putGen W.hg s1.gens.size (some (.fresh (.func body (callEnv fd L a)))))) (upds τ1 [ga, L] (isHeld s2.heap)) ls st1 s2 := by
    have w := R2.regen (hg := putGen W.hg s1.gens.size (some (.fresh (.func body (callEnv fd L a))))) hb2 (fun y x e => by
      rw [G.gens]
      unfold putGen at e
      split at e
      · rename_i q; subst q; cases e; exact Array.getElem?_push_size ..
      · have := R1.hgens y x e
        obtain ⟨hlt, _⟩ := Array.getElem?_eq_some_iff.mp this
        rw [Array.getElem?_push_lt hlt, ← Array.getElem?_eq_getElem hlt]; exact this)
    have e : s2 = { heap := s2.heap, gens := s2.gens, drawn := s1.drawn, toks := s2.toks, os := s1.os } := by rw [← G.dr, ← G.os]
    rw [e]; exact w
  have xx : Ext τ s.heap (upds τ1 [ga, L] (isHeld s2.heap)) s2.heap := x1.buts (fun b hb => C.fresh b (by
    rcases List.mem_cons.mp hb with rfl | hb
    · simp
    · rcases List.mem_singleton.mp hb with rfl; simp)) fun b o _ e => G.keep b o e
  obtain ⟨og, nm, qn, hog, hrest⟩ := id G.gen
  obtain ⟨oL, esL, epL, hoL, _⟩ := id G.ns
  refine ⟨xx, ⟨_, .fresh (.func body (callEnv fd L a)), R3, by simp [putGen], fun y hy => by simp only [putGen, if_neg hy], fun hn => ?_⟩, G.gen, ⟨og, (upds_in (by simp)).trans (isHeld_some hog)⟩, fun b hb => ?_, fun b hb => ?_, G.toks⟩
  · refine ⟨rfl, hgo hn _ rfl ?_ fun b o hb hB => ?_⟩
    · have z := Alike.self (fp := []) R3 G.toks
      exact ⟨z.fp, z.base, z.dr, z.os, setGen_bare rfl z.bare, z.toks⟩
    · have := f1 b (by rcases hb with rfl | hb <;> simp_all)
      rw [(R1.base b o hB).1] at this; cases this
  · rcases List.mem_cons.mp hb with rfl | hb
    · exact .inl ⟨oL, (upds_in (by simp)).trans (isHeld_some hoL)⟩
    · refine .inr ?_
      cases q : s2.heap.get? b with
      | none => rfl
      | some o =>
        have w := Heap.lt_size q
        rw [G.size] at w
        exact absurd w (Nat.not_lt.mpr (hX b hb))
  · rcases hfp b hb with q | ⟨q, o, ho⟩
    · exact .inl q
    · refine .inr ⟨(upds_out ?_).trans q, o, G.keep b o ho⟩
      intro hm
      have : s1.heap.get? b = none := f1 b (by
        rcases List.mem_cons.mp hm with rfl | hm
        · simp
        · rcases List.mem_singleton.mp hm with rfl; simp)
      rw [this] at ho; cases ho
end
theorem gen_loop {W : Wd} {A : Around} {c : Cx} {τ₀ τ : Tau} {h₀ : Heap} {P fp : List Addr} {val : Nat → Value → Heap → Prop} {fin : Nat → Prop} {ga g N k : Nat} {st st2 : PS} {f : Fl} {s : Shared} {target : Expr} {body : List Stmt} {Rr : Result → Shared → Prop}
    (C : GC W τ₀ h₀ P fp ga g) (hA : AOk A k) (V : Nat → PS → Prop) (v0 : ∀ st, ¬ V 0 st)
    (vstep : ∀ m st, m < N → V (m + 1) st → ((∀ v h, ¬ val m v h) ∧ f = .next ∧ st = st2) ∨ (¬ fin (m + 1) ∧ ∃ fl st1 x, loopOn fl st1 x = some (f, st2) ∧ (x = some (f, st2) → V m st1) ∧
      ∀ (hg : Nat → Option GenState) τ s v (Q : Flow → Shared → Prop) (E : Value → Shared → Prop), val m v s.heap → s.heap.IsGen ga g → 0 < s.toks → R (W.g hg) τ c.ls st s →
        (∀ τ' s' f', 0 < s'.toks → Ext τ s.heap τ' s'.heap → R (W.g hg) τ' c.ls st1 s' → FR τ' s'.heap fl f' → Q f' s') →
        wpAny (model pw W.w) A (letOwnedTupleGo target (.ref ga) v) (fun _ s1 => wpAny (model pw W.w) A (assign target c.env v) (fun _ s2 => wpAny (model pw W.w) A (execs body c.env) Q E s2) E s1) E s))
    (hQ : ∀ τ' s' f', Ext τ₀ h₀ τ' s'.heap → R W τ' c.ls st2 s' → FR τ' s'.heap f f' → Rr (.ok f') s') (I0 : GI W A c.ls τ₀ h₀ P fp val fin ga g N τ st s) (h0 : V N st) :
    codeAny (model pw W.w) A (.forLoop target (.ref ga) body [] c.env) Rr s := by
  refine codeAny_forLoop_any (fun k s' => k ≤ N ∧ ∃ τ st, V k st ∧ GI W A c.ls τ₀ h₀ P fp val fin ga g k τ st s') ?_ N ⟨Nat.le_refl _, τ, st, h0, I0⟩
  clear I0 h0
  rintro k s' ⟨hk, τm, stm, hv, Im⟩
  cases k with
  | zero => exact absurd hv (v0 _)
  | succ m =>
    rcases vstep m stm hk hv with ⟨nv, rfl, rfl⟩ | ⟨nf, fl, st1, x, hl, hx, hb⟩
    · exact Im.next C hA (fun v s3 τ3 hg hv _ => absurd hv (nv v _)) fun s3 τ3 _ R3 x3 t3 => wpAny_execs_nil (hQ _ _ _ x3 R3 rfl)
    · clear vstep
      refine Im.next C hA (fun v s3 τ3 hg hv Y => ?_) fun s3 τ3 hf _ _ _ => absurd hf nf
      refine hb hg τ3 s3 v _ _ hv Y.gen Y.toks Y.r fun τ5 s5 f' t5 x5 R5 hf => ?_
      clear hb
      cases fl with
      | next => cases hf; exact ⟨m, Nat.lt_succ_self _, Nat.le_of_succ_le hk, τ5, st1, hx hl, Y.back C x5 R5 t5⟩
      | cont => cases hf; exact ⟨m, Nat.lt_succ_self _, Nat.le_of_succ_le hk, τ5, st1, hx hl, Y.back C x5 R5 t5⟩
      | brk =>
        cases hf; cases hl
        obtain ⟨τ6, R6, x7, _⟩ := Y.done C x5 R5
        exact hQ _ _ _ x7 R6 rfl
      | ret v2 =>
        cases hl
        obtain ⟨rr, rfl, hr⟩ := hf
        obtain ⟨τ6, R6, x7, hv6⟩ := Y.done C x5 R5
        exact hQ _ _ _ x7 R6 ⟨rr, rfl, hv6 _ _ hr⟩
end Mine.Internal
end
section
set_option genInjectivity false
open PySem PySem.W PyProof.Rows PySem.Calls
namespace Mine.Internal
theorem hGrp (W : Wd) (F : Addr → Option Fn) : HGrp W F := by
  intro n c nm ix cap x px p2 p3 p e body i B st st1 st2 l is f K hx hf hp h1 his hbody he
  refine .mk fun ok A τ s Q E hA R0 ht hQ => ?_
  obtain ⟨n, rfl⟩ : ∃ m, n = m + 1 := by
    cases n with
    | zero => exact nomatch (show (Option.none : Option (Fl × PS)) = some _ from he)
    | succ m => exact ⟨m, rfl⟩
  have okW := R0.ok
  have hl := ints_map his
  subst hl
  have hfirst : is.head? ≠ some 0 := fun q => by
    cases is with
    | nil => cases q
    | cons y r =>
      cases q
      exact nomatch (show (Option.none : Option (Fl × PS)) = some _ from he)
  refine wpAny_For (gen_call (fact_grp okW) hf K.nm hp h1 ok hA R0 ht fun τ1 s1 u s2 L ga x1 R1 v1 G => ?_) (fun _ => rfl)
  refine wpAny_pyIter_gen G.gen ?_
  obtain ⟨pa, vs, ep, rfl, g1, g2, g3⟩ : ∃ pa vs ep, u = .ref pa ∧ τ1 pa = .none ∧ s1.heap.get? pa = some (LO vs ep) ∧ DRs τ1 s1.heap (is.map D.int) vs := v1
  have hI := ints_are g3
  have hpL : pa ≠ L := fun q => by subst q; rw [G.freshL] at g2; cases g2
  have hpI : pa ≠ ga + 1 := fun q => by
    have w := Heap.lt_size (G.keep _ _ g2)
    rw [G.size, q] at w
    exact Nat.lt_irrefl _ w
  have hd := hA.depth
  have hu := hA.units
  obtain ⟨C, τ2, I0⟩ := gen_held (A := A) (X := [ga + 1]) (fp := [L, ga + 1, pa]) (val := grpVal is (n + 1)) (fin := grpFin is (n + 1)) (n := n + 1) R0 x1 R1 G (fun b hb => by rcases List.mem_singleton.mp hb with rfl; exact Nat.lt_succ_self _)
    (fun b hb => by
      simp only [List.mem_cons, List.mem_nil_iff, or_false] at hb ⊢
      rcases hb with rfl | rfl | rfl
      · exact .inl (.inl rfl)
      · exact .inl (.inr rfl)
      · exact .inr ⟨g1, _, g2⟩)
    (fun _ s' hs' al hB => by
      refine grp_start ⟨okW, fun q => absurd G.lt (by rw [← q]; exact Nat.not_lt.mpr (Nat.le_succ _)), by simp [hpL, hpI], hB⟩ hI hfirst al (by rw [hs']; exact G.ns) (by rw [hs']; exact G.keep _ _ g2) (by rw [hs', G.size]) (Nat.succ_ne_zero _) hA.handled (by show A.depth + 1 < 990; (first | lia | omega)) (by show A.units + 1 + 3 < 9000; (first | lia | omega)))
  refine gen_loop C hA (fun k stm => k ≤ n + 1 ∧ ∃ G, grpAt is (n + 1 - k) = some G ∧ evG F k i G B stm = some (f, st2)) (fun stm ⟨_, _, _, q⟩ => nomatch (show (Option.none : Option (Fl × PS)) = some _ from q)) (fun m stm hk q => ?_) (fun _ _ _ x R1 hf => hQ _ _ _ x R1 hf) I0 ⟨Nat.le_refl _, .run is .none, by rw [Nat.sub_self]; rfl, he⟩
  clear R0 R1 x1 G I0 g1 g2 g3 hI hpL hpI he ht hQ C hf hp h1 okW hfirst
  obtain ⟨_, Gm, hG, hev⟩ := q
  have hj := sub1 (n + 1) m
  refine bd_c (x := Gm.next) hev fun nx hnx hev => ?_
  rcases nx with _ | ⟨v, src'⟩
  · cases hev
    refine .inl ⟨fun v h hv => ?_, rfl, rfl⟩
    obtain ⟨G', y, G'', e1, e2, _⟩ := hv
    rw [hj, hG] at e1
    cases e1
    rw [hnx] at e2; cases e2
  · refine bd_c (x := setVar stm i (.d (.int v))) hev fun sta hsv hev1 => ?_
    obtain ⟨hlen, rfl⟩ := setVar_some hsv
    clear hev
    refine bd2_c (x := evSs F m B { stm with vars := stm.vars.set i (some (.d (.int v))) }) hev1 fun fl stb hsb hev => ?_
    clear hev1
    refine .inr ⟨fun hf3 => ?_, fl, stb, _, hev, fun hev => ?_, fun hg τ3 s3 v' Q E hv _ t3 R3 hq => ?_⟩
    · obtain ⟨G', e1, e2⟩ := hf3
      rw [hG] at e1
      cases e1
      rw [hnx] at e2; cases e2
    · refine ⟨Nat.le_of_lt hk, src', ?_, hev⟩
      rw [sub2 hk]; exact grpAt_step hG hnx
    · obtain ⟨G', y, G'', e1, e2, t, rfl⟩ := hv
      rw [hj, hG] at e1
      cases e1
      rw [hnx] at e2; cases e2
      refine wpAny_pure (wpAny_assign_Name (wpAny_with_toks (n := 1) t3 (storeTo (W := W.g hg) ok R3 (by rw [K.ix]; exact hx.ix) hlen (by rw [K.cap]; exact hx.cap) (hx.free K.nm) (VR.int (t := t)) fun s4 R4 x4 t4 => ?_)))
      exact hbody hg m hk _ _ _ hsb ok A _ _ _ _ (hA.le (Nat.le_of_lt hk)) R4 t4 fun τ5 s5 f' t5 x5 R5 hf => hq _ _ _ t5 (x4.trans x5) R5 hf
end Mine.Internal
end
section
set_option genInjectivity false
open PySem PySem.W PyProof.Rows PySem.Calls
namespace Mine.Internal
inductive IsEscB : List Stmt → Prop
  | mk {b4 b5 b6 b7 b8 b9 c1 c2 c3 c4 c5 c6 c7 c8 c9 d1 d2 d3 d4 d5 d6 d7 d8 d9 : Pos} {k4 k5 k6 k7 k8 k9 : Nat} : IsEscB [
        .If (.Name "escape" b4) [
          .Expr (.Yield (some (.Tuple [.Name "pos" b5, .BinOp (.Constant (.str "\\") k4 b6) .Add (.Name "ch" b7) b8] k5 b9)) c1) c2,
          .Assign [.Name "escape" c3] (.Constant (.bool false) k6 c4) c5] [
          .If (.Compare (.Name "ch" c6) [.Eq] [.Constant (.str "\\") k7 c7] c8) [
            .Assign [.Name "escape" c9] (.Constant (.bool true) k8 d1) d2] [
            .Expr (.Yield (some (.Tuple [.Name "pos" d3, .Name "ch" d4] k9 d5)) d6) d7] d8] d9]
inductive IsEscR : List Stmt → Prop
  | mk {e2 e3 e4 e5 e6 e7 e8 : Pos} {k10 k11 : Nat} : IsEscR [
      .If (.Name "escape" e2) [
        .Expr (.Yield (some (.Tuple [.Name "pos" e3, .Constant (.str "\\") k10 e4] k11 e5)) e6) e7] [] e8]
inductive IsEsc : List Stmt → Prop
  | mk {a1 a2 a3 a4 a5 a6 a7 a8 a9 b1 b2 b3 e1 : Pos} {k1 k2 k3 : Nat} {fb rest : List Stmt} (h : IsEscB fb) (hr : IsEscR rest) : IsEsc (
      .Assign [.Name "pos" a1] (.Constant (.int 0) k1 a2) a3 ::
      .Assign [.Name "escape" a4] (.Constant (.bool false) k2 a5) a6 ::
      .For (.Tuple [.Name "pos" a7, .Name "ch" a8] k3 a9) (.Call (.Name "enumerate" b1) [.Name "addr" b2] [] b3) fb [] e1 :: rest)
set_option maxRecDepth 100000
set_option maxHeartbeats 4000000
noncomputable def escNm : Nm := [(Str.ofString "addr", NameKind.local), (Str.ofString "pos", NameKind.local), (Str.ofString "escape", NameKind.local), (Str.ofString "ch", NameKind.local), (Str.ofString "enumerate", NameKind.globalImplicit)]
noncomputable def escVn : List Str := [Str.ofString "addr", Str.ofString "pos", Str.ofString "escape", Str.ofString "ch"]
theorem escIs (q : Params) : IsEsc (bodyOf q 39) := .mk .mk .mk
theorem raw_esc (q : Params) : Raw q 39 38 := by constructor <;> kernel_rfl
theorem nm_esc (q : Params) : nmChk escNm (fdOf q 39).scope.names = true := by kernel_rfl
theorem gen_esc (q : Params) : (fdOf q 39).scope.isGenerator = true := by kernel_rfl
theorem cell_esc (q : Params) : noCell (fdOf q 39).scope.names = true := by kernel_rfl
theorem loc_esc (q : Params) : allLoc (fdOf q 39).scope.names escVn = true := by kernel_rfl
theorem bind_esc (q : Params) (u : Value) : bindArgs (fdOf q 39) ⟨[u], []⟩ = pure [(Str.ofString "addr", u)] := by kernel_rfl
theorem fact_esc {W : Wd} (ok : W.Ok) : GFact W 39 (fdOf W.w.params 39) (Str.ofString "addr") [Str.ofString "pos", Str.ofString "escape", Str.ofString "ch"] (bodyOf W.w.params 39) :=
  fact_gen ok (raw_esc _) (cell_esc _) (gen_esc _) (loc_esc _) (by decide +kernel) (bind_esc _)
theorem ns_enumerate (q : Params) : nsIn (hd.heap_1 q) mainGlobals "enumerate" = some none := by kernel_rfl
theorem boot_enumerate : bootBuiltins (Str.ofString "enumerate") = some (.type "enumerate") := by kernel_rfl
noncomputable def escCx (q : Params) (L : Addr) : Cx := fnCx (fdOf q 39) escVn L 39
theorem escCx_ok {W : Wd} (ok : W.Ok) (L : Addr) : CtxOk escNm escVn.zipIdx 4 (escCx W.w.params L) :=
  ⟨genCx_ok (fact_esc ok) L, fun x k e => .inl (nmChk_ok (nm_esc W.w.params) e), rfl, rfl⟩
theorem enum_end {prog : Program} {w : World} {A : Around} {E : Value → Shared → Prop} {s : Shared} {e it : Addr} {x : Str} {t : Tok} {i : Nat} {j : Int} {old : Value} {Q : Option Value → Shared → Prop} (hh : A.handled = none)
    (he : IsEnum s.heap e it j old) (hit : s.heap.IsStrIter it (strIterType x) x t i) (hx : x.cps[i]? = none)
    (hQ : ∀ h', Heap.ExtBut it s.heap h' → (∃ o, h'.get? it = some o) → Q none { s with heap := h' }) : wpAny (model prog w) A (pyNext (.ref e)) Q E s := by
  have hT : s.TypeIs (.ref e) "enumerate" := ⟨_, he, rfl⟩
  unfold pyNext
  refine wpAny_bind (wpAny_attempt (wpAny_callSpecial?_slot (name := Str.ofString "__next__") hT F.slot_enumerate_next
    (wpAny_call_entry F.slot_enumerate_next hT F.entry_enumerate_next ?_ (F.args_enumerate_next_1 _))))
  show wpAny _ _ (field (.ref e) 2 >>= _) _ _ _
  refine wpAny_bind (wpAny_field he rfl (x := .ref it) rfl ?_)
  refine wpAny_bind ?_
  have hT2 := hit.typeIs
  obtain ⟨o, ho, hc, hd⟩ := id hit
  unfold Builtin.SmallTypes.nextOf
  by_cases ha : x.cps.all (· < 128) = true
  · have hty : strIterType x = "str_ascii_iterator" := by simp [strIterType, ha]
    rw [hty] at hT2
    refine wpAny_bind (wpAny_callSpecial?_slot (name := Str.ofString "__next__") hT2 F.slot_str_ascii_iterator_next
      (wpAny_call_entry F.slot_str_ascii_iterator_next hT2 F.entry_str_ascii_iterator_next ?_ (F.args_str_ascii_iterator_next_1 _)))
    show wpAny _ _ (field (.ref it) 0 >>= _) _ _ s
    refine wpAny_bind (wpAny_field ho hd (x := .str x t) rfl ?_)
    show wpAny _ _ (field (.ref it) 1 >>= _) _ _ s
    refine wpAny_bind (wpAny_field ho hd (x := .int i 0) rfl ?_)
    conv => arg 3; whnf
    rw [Int.toNat_natCast, hx]
    refine wpAny_bind (wpAny_rule (wpAny_bind (wpAny_setField ho hd (by simp) (wpAny_bind (wpAny_letGo ?_)))))
    show wpAny _ _ (newExc (.type "StopIteration") [] >>= _) _ _ _
    refine wpAny_bind ?_
    simp -iota only [newExc, newTuple]
    refine wpAny_bind (wpAny_newObj_type ?_ (by size_fits))
    refine wpAny_bind (m := firstArgMember _ _) (wpAny_of_eq (a := Value.none) (by first | rfl | (simp -iota only [firstArgMember]; rfl)) ?_)
    refine wpAny_newObj_type ?_ (by size_fits)
    delta raiseNew
    refine wpAny_bind (wpAny_handled ?_)
    first | rw [show A.in1.in1.handled = none from hh] | rw [hh]
    refine wpAny_bind (wpAny_pure (wpAny_throw ?_))
    refine wpAny_bind (wpAny_isInstance (T := "StopIteration") (b := true) ⟨_, Heap.get?_push_size _ rfl, rfl⟩ isSubtype_stop ?_)
    exact wpAny_pure (hQ _ (((Heap.SameBut.update ..).extBut.push _).push _) ⟨_, Heap.get?_push_of_some _ (Heap.get?_push_of_some _ (Heap.get?_update_self _ ho (Obj.isFreed_of_fields (Obj.data_mapFields hd _))))⟩)
  · have hty : strIterType x = "str_iterator" := by simp [strIterType, ha]
    rw [hty] at hT2
    refine wpAny_bind (wpAny_callSpecial?_slot (name := Str.ofString "__next__") hT2 F.slot_str_iterator_next
      (wpAny_call_entry F.slot_str_iterator_next hT2 F.entry_str_iterator_next ?_ (F.args_str_iterator_next_1 _)))
    show wpAny _ _ (field (.ref it) 0 >>= _) _ _ s
    refine wpAny_bind (wpAny_field ho hd (x := .str x t) rfl ?_)
    show wpAny _ _ (field (.ref it) 1 >>= _) _ _ s
    refine wpAny_bind (wpAny_field ho hd (x := .int i 0) rfl ?_)
    conv => arg 3; whnf
    rw [Int.toNat_natCast, hx]
    refine wpAny_bind (wpAny_rule (wpAny_bind (wpAny_setField ho hd (by simp) (wpAny_bind (wpAny_letGo ?_)))))
    show wpAny _ _ (newExc (.type "StopIteration") [] >>= _) _ _ _
    refine wpAny_bind ?_
    simp -iota only [newExc, newTuple]
    refine wpAny_bind (wpAny_newObj_type ?_ (by size_fits))
    refine wpAny_bind (m := firstArgMember _ _) (wpAny_of_eq (a := Value.none) (by first | rfl | (simp -iota only [firstArgMember]; rfl)) ?_)
    refine wpAny_newObj_type ?_ (by size_fits)
    delta raiseNew
    refine wpAny_bind (wpAny_handled ?_)
    first | rw [show A.in1.in1.handled = none from hh] | rw [hh]
    refine wpAny_bind (wpAny_pure (wpAny_throw ?_))
    refine wpAny_bind (wpAny_isInstance (T := "StopIteration") (b := true) ⟨_, Heap.get?_push_size _ rfl, rfl⟩ isSubtype_stop ?_)
    exact wpAny_pure (hQ _ (((Heap.SameBut.update ..).extBut.push _).push _) ⟨_, Heap.get?_push_of_some _ (Heap.get?_push_of_some _ (Heap.get?_update_self _ ho (Obj.isFreed_of_fields (Obj.data_mapFields hd _))))⟩)
theorem strDraws {prog : Program} {w : World} {A : Around} (hh : A.handled = none) (it : Addr) (x : Str) (t : Tok) :
    Draws prog w A it [it] x.cps.size (fun i v => ∃ c u, x.cps[i]? = some c ∧ v = .str ⟨#[c]⟩ u) (fun i h => h.IsStrIter it (strIterType x) x t i) := by
  by_cases ha : x.cps.all (· < 128) = true
  · rw [show strIterType x = "str_ascii_iterator" by simp [strIterType, ha]]; exact Draws.strAscii hh it x t
  · rw [show strIterType x = "str_iterator" by simp [strIterType, ha]]; exact Draws.strWide hh it x t
end Mine.Internal
end
section
set_option genInjectivity false
open PySem PySem.W PyProof.Rows PySem.Calls
namespace Mine.Internal
section
variable {W : Wd} {s₀ : Shared} {L It E : Addr} {u : Str} {t : Tok}
structure EscC (W : Wd) (L It E : Addr) : Prop where
  ok : W.Ok
  neI : It ≠ L
  neE : E ≠ L
  neEI : E ≠ It
  B : ∀ b o, b = L ∨ b ∈ [L, It, E] → ¬ W.B b o
structure EscF (W : Wd) (s₀ : Shared) (L It E : Addr) (τ : Tau) (ps : Int) (b : Bool) (y : Option V) (s : Shared) : Prop where
  dr : s₀.drawn = W.dr
  os : s₀.os = W.os
  keep : ∀ b o, b ∉ [L, It, E] → s₀.heap.get? b = some o → s.heap.get? b = some o ∧ τ b = .none
  r : R (W.g fun (z : Nat) => s₀.gens[z]?) τ (escVn.map (Loc.dict L)) ⟨[.none, some (.d (.int ps)), some (.d (.bool b)), y], []⟩ s
  fl : ∀ v, y = some v → flat v = true
  ex : ∀ b ∈ [L, It, E], (∃ o, s.heap.get? b = some o) ∧ τ b ≠ .none
  toks : 0 < s.toks
structure EscS (W : Wd) (s₀ : Shared) (L It E : Addr) (u : Str) (t : Tok) (i : Nat) (τ : Tau) (ps : Int) (b : Bool) (y : Option V) (s : Shared) : Prop extends EscF W s₀ L It E τ ps b y s where
  hI : ∃ o, τ It = .held o
  hE : ∃ o, τ E = .held o
  en : ∃ old, IsEnum s.heap E It i old
  it : s.heap.IsStrIter It (strIterType u) u t i
theorem EscF.since {τ : Tau} {ps : Int} {b : Bool} {y : Option V} {s : Shared} (S : EscF W s₀ L It E τ ps b y s) : Since [L, It, E] s₀ s :=
  ⟨fun b o hb e => (S.keep b o hb e).1, fun g x e => S.r.hgens g x e, S.r.gens, S.r.dr.trans S.dr.symm, S.r.os.trans S.os.symm⟩
theorem EscF.step {τ τ' : Tau} {ps ps' : Int} {b b' : Bool} {y y' : Option V} {s s' : Shared} (S : EscF W s₀ L It E τ ps b y s) (x : Ext τ s.heap τ' s'.heap) (ht : 0 < s'.toks)
    (r : R (W.g fun (z : Nat) => s₀.gens[z]?) τ' (escVn.map (Loc.dict L)) ⟨[.none, some (.d (.int ps')), some (.d (.bool b')), y'], []⟩ s') (fl : ∀ v, y' = some v → flat v = true) : EscF W s₀ L It E τ' ps' b' y' s' :=
  ⟨S.dr, S.os, fun b o hb e => have q := S.keep b o hb e; (x.keep b o q.2 q.1).symm, r, fl, fun b hb => have q := (S.ex b hb).2; have q' : τ' b ≠ .none := (x.claim b q).symm ▸ q; ⟨r.alive b q', q'⟩, ht⟩
theorem EscS.step {i : Nat} {τ τ' : Tau} {ps ps' : Int} {b b' : Bool} {y y' : Option V} {s s' : Shared} (S : EscS W s₀ L It E u t i τ ps b y s) (x : Ext τ s.heap τ' s'.heap) (ht : 0 < s'.toks)
    (r : R (W.g fun (z : Nat) => s₀.gens[z]?) τ' (escVn.map (Loc.dict L)) ⟨[.none, some (.d (.int ps')), some (.d (.bool b')), y'], []⟩ s') (fl : ∀ v, y' = some v → flat v = true) : EscS W s₀ L It E u t i τ' ps' b' y' s' := by
  have kk : ∀ c, (∃ o, τ c = .held o) → ∃ o, τ' c = .held o ∧ s.heap.get? c = some o ∧ s'.heap.get? c = some o := fun c ⟨o, e⟩ => by
    have z := (x.claim c (by rw [e]; exact fun z => nomatch z)).trans e
    exact ⟨o, z, S.r.held c o e, r.held c o z⟩
  obtain ⟨oI, a1, a2, a3⟩ := kk It S.hI
  obtain ⟨oE, c1, c2, c3⟩ := kk E S.hE
  refine ⟨S.toEscF.step x ht r fl, ⟨oI, a1⟩, ⟨oE, c1⟩, ?_, ?_⟩
  · obtain ⟨old, h⟩ := S.en
    refine ⟨old, ?_⟩
    unfold IsEnum at h ⊢
    rw [c2] at h; rw [c3]; exact h
  · obtain ⟨o, h1, h2⟩ := S.it
    rw [a2] at h1
    cases h1
    exact ⟨_, a3, h2⟩
theorem EscF.again {τ : Tau} {ps : Int} {b : Bool} {y : Option V} {s s2 : Shared} (S : EscF W s₀ L It E τ ps b y s) (al : Alike W [L, It, E] s s2) (C : EscC W L It E) :
    EscF W s2 L It E (tgen L [L, It, E] s2.heap) ps b y s2 := by
  have hpn : ∀ b, b ∉ [L, It, E] → tgen L [L, It, E] s2.heap b = .none := fun b hb => by
    unfold tgen
    rw [if_neg (fun e : b = L => hb (by simp [e])), if_neg hb]
  have fl : ∀ (j : Nat) v, ([.none, some (.d (.int ps)), some (.d (.bool b)), y] : List (Option V))[j]? = some (some v) → flat v = true := fun j v e => by
    match j, e with
    | 0, e => cases e
    | 1, e => cases e; rfl
    | 2, e => cases e; rfl
    | 3, e =>
      have e' : some y = some (some v) := e
      cases e'
      exact S.fl v rfl
    | n + 4, e => simp at e
  refine ⟨al.dr, al.os, fun b o hb e => ⟨e, hpn b hb⟩, R.again (W := W.g fun (z : Nat) => s₀.gens[z]?) S.r ⟨al.fp, al.base, al.dr, al.os, al.bare, al.toks⟩ (.head _) (by decide) C.B fl, S.fl, fun b hb => ?_, al.toks⟩
  obtain ⟨⟨o, ho⟩, _⟩ := S.ex b hb
  have h2 := al.fp b hb o ho
  refine ⟨⟨o, h2⟩, ?_⟩
  unfold tgen
  by_cases q : b = L
  · rw [if_pos q]; exact fun z => nomatch z
  · rw [if_neg q, if_pos hb, isHeld_some h2]; exact fun z => nomatch z
theorem EscS.again {i : Nat} {τ : Tau} {ps : Int} {b : Bool} {y : Option V} {s s2 : Shared} (S : EscS W s₀ L It E u t i τ ps b y s) (al : Alike W [L, It, E] s s2) (C : EscC W L It E) :
    EscS W s2 L It E u t i (tgen L [L, It, E] s2.heap) ps b y s2 := by
  obtain ⟨oI, a1⟩ := S.hI
  obtain ⟨oE, c1⟩ := S.hE
  have a2 := S.r.held It oI a1
  have c2 := S.r.held E oE c1
  have a3 := al.fp It (by simp) oI a2
  have c3 := al.fp E (by simp) oE c2
  refine ⟨S.toEscF.again al C, ⟨oI, ?_⟩, ⟨oE, ?_⟩, ?_, ?_⟩
  · unfold tgen; rw [if_neg C.neI, if_pos (by simp)]; exact isHeld_some a3
  · unfold tgen; rw [if_neg C.neE, if_pos (by simp)]; exact isHeld_some c3
  · obtain ⟨old, h⟩ := S.en
    exact ⟨old, al.fp E (by simp) _ h⟩
  · obtain ⟨o, h1, h2⟩ := S.it
    exact ⟨o, al.fp It (by simp) _ h1, h2⟩
end
end Mine.Internal
end
section
set_option genInjectivity false
open PySem PySem.W PyProof.Rows PySem.Calls
namespace Mine.Internal
section
variable {W : Wd} {s₀ : Shared} {L It E : Addr} {u : Str} {t : Tok}
theorem esc_turn (C : EscC W L It E) {A : Around} {i : Nat} {ps : Int} {b : Bool} {y : Option V} {τ : Tau} {s : Shared} (S : EscS W s₀ L It E u t i τ ps b y s) (hA : AOk A 0) {a7 a8 a9 : Pos} {k3 : Nat} {Q0 Q1 : Shared → Prop} {E1 E2 E3 : Value → Shared → Prop}
    (h0 : u.cps[i]? = none → ∀ s' τ', EscF W s₀ L It E τ' ps b y s' → Q0 s')
    (h1 : ∀ c, u.cps[i]? = some c → ∀ s' τ', EscS W s₀ L It E u t (i + 1) τ' (i : Int) b (some (.d (.str ⟨#[c]⟩))) s' → Q1 s') :
    wpAny (model pw W.w) A (pyNext (.ref E)) (fun r s1 => match r with
      | none => Q0 s1
      | some v => wpAny (model pw W.w) A (letOwnedTupleGo (.Tuple [.Name "pos" a7, .Name "ch" a8] k3 a9) (.ref E) v) (fun _ s2 =>
          wpAny (model pw W.w) A (assign (.Tuple [.Name "pos" a7, .Name "ch" a8] k3 a9) (escCx W.w.params L).env v) (fun _ s3 => Q1 s3) E3 s2) E2 s1) E1 s := by
  have K := escCx_ok C.ok L
  obtain ⟨old, he⟩ := S.en
  obtain ⟨oI, hI⟩ := S.hI
  obtain ⟨oE, hE⟩ := S.hE
  have hP : ∀ b ∈ [It, E], (∃ o, τ b = .held o) ∨ s.heap.get? b = none := fun b hb => by
    rcases List.mem_cons.mp hb with rfl | hb
    · exact .inl ⟨_, hI⟩
    · rcases List.mem_singleton.mp hb with rfl; exact .inl ⟨_, hE⟩
  have hsub : ∀ c, c ∉ [L, It, E] → c ∉ [It, E] := fun c h q => h (.tail _ q)
  cases hx : u.cps[i]? with
  | none =>
    refine wpAny_with_toks (n := 1) S.toks (enum_end hA.handled he S.it hx fun h' hk hex htk => h0 hx _ (upds τ [It, E] (isHeld h')) ?_)
    have kk : ∀ c o, c ∉ [It, E] → s.heap.get? c = some o → h'.get? c = some o := fun c o hc e => hk c o (fun q => hc (by simp [q])) e
    have R1 := S.r.turns (P := [It, E]) (G := isHeld h') (t := s.toks) (h' := h') hP kk (fun b _ => isHeld_or b)
    refine ⟨S.dr, S.os, fun c o hc e => ?_, R1, S.fl, fun c hc => ?_, htk⟩
    · have q := S.keep c o hc e
      exact ⟨kk c o (hsub c hc) q.1, (upds_out (hsub c hc)).trans q.2⟩
    · by_cases q : c ∈ [It, E]
      · have hex' : ∃ o, h'.get? c = some o := by
          rcases List.mem_cons.mp q with rfl | q
          · exact hex
          · rcases List.mem_singleton.mp q with rfl
            exact ⟨_, hk _ _ C.neEI he⟩
        obtain ⟨o, ho⟩ := hex'
        exact ⟨⟨o, ho⟩, by rw [upds_in q, isHeld_some ho]; exact fun z => nomatch z⟩
      · obtain ⟨⟨o, ho⟩, hn⟩ := S.ex c hc
        exact ⟨⟨o, kk c o q ho⟩, by rw [upds_out q]; exact hn⟩
  | some c =>
    have D := strDraws (prog := pw) (w := W.w) (A := A.in1) hA.handled It u t
    have hi : i < u.cps.size := by
      rcases Nat.lt_or_ge i u.cps.size with h | h
      · exact h
      · rw [Array.getElem?_eq_none h] at hx; cases hx
    have WT := WalksT.enumerateD (A := A) D E C.neEI (by simpa using C.neEI) (by simp)
    refine wpAny_with_toks (n := 1) S.toks (WT.item i s _ _ hi ⟨⟨old, he⟩, S.it⟩ fun T vals h1' tk hv hT hTup hMid hk htk => ?_)
    refine WT.go _ _ _ i T _ _ _ hMid fun h2' hSt hk2 => ?_
    have hTup2 : h2'.IsTuple T vals := hTup.at fun o e => hk2 T o (WT.apart i T _ hMid) e
    obtain ⟨t', x, ⟨c', u', hc', rfl⟩, rfl⟩ := hv
    rw [hx] at hc'
    cases hc'
    refine wpAny_assign_Tuple hA.handled hTup2 rfl rfl fun h3 hx3 => ?_
    show wpAny _ A (do holding [_] (assign (.Name (Str.ofString "pos") a7) (escCx W.w.params L).env _); do holding [] (assign (.Name (Str.ofString "ch") a8) (escCx W.w.params L).env _); pure ()) _ _ _
    have kk : ∀ c o, c ∉ [It, E] → s.heap.get? c = some o → h3.get? c = some o := fun c o hc e => by
      have hc' : c ∉ [E, It] := fun q => hc (by simp at q ⊢; exact q.symm)
      have w := hk2 c o hc' (hk c o hc' e)
      exact hx3 c o (Nat.ne_of_lt (Heap.lt_size w)) w
    obtain ⟨⟨old2, he2⟩, hit2⟩ := hSt
    have up3 : ∀ c o, h2'.get? c = some o → h3.get? c = some o := fun c o w => hx3 c o (Nat.ne_of_lt (Heap.lt_size w)) w
    have he3 : IsEnum h3 E It ((i + 1 : Nat) : Int) old2 := up3 _ _ he2
    obtain ⟨oi, hi1, hi2, hi3⟩ := hit2
    have hi4 := up3 _ _ hi1
    have R3 := S.r.turns (P := [It, E]) (G := isHeld h3) (t := tk) (h' := h3) hP kk (fun b _ => isHeld_or b)
    have S3 : EscS W s₀ L It E u t (i + 1) (upds τ [It, E] (isHeld h3)) ps b y { s with heap := h3, toks := tk } := by
      refine ⟨⟨S.dr, S.os, fun c o hc e => ?_, R3, S.fl, fun c hc => ?_, htk⟩, ⟨oi, (upds_in (by simp)).trans (isHeld_some hi4)⟩, ⟨_, (upds_in (by simp)).trans (isHeld_some he3)⟩, ⟨old2, he3⟩, ⟨oi, hi4, hi2, hi3⟩⟩
      · have q := S.keep c o hc e
        exact ⟨kk c o (hsub c hc) q.1, (upds_out (hsub c hc)).trans q.2⟩
      · by_cases q : c ∈ [It, E]
        · have hex' : ∃ o, h3.get? c = some o := by
            rcases List.mem_cons.mp q with rfl | q
            · exact ⟨_, hi4⟩
            · rcases List.mem_singleton.mp q with rfl
              exact ⟨_, he3⟩
          obtain ⟨o, ho⟩ := hex'
          exact ⟨⟨o, ho⟩, by rw [upds_in q, isHeld_some ho]; exact fun z => nomatch z⟩
        · obtain ⟨⟨o, ho⟩, hn⟩ := S.ex c hc
          exact ⟨⟨o, kk c o q ho⟩, by rw [upds_out q]; exact hn⟩
    refine wpAny_bind (wpAny_holding (wpAny_assign_Name (wpAny_with_toks (n := 1) htk (storeTo (W := W.g fun (z : Nat) => s₀.gens[z]?) (i := 1) (v := .d (.int i)) K.ok S3.r rfl (by show 1 < 4; decide) (by show 1 < 4; decide) (TgtN.free (nm := escNm) (ix := escVn.zipIdx) (cap := 4) (i := 1) ⟨rfl, by decide, .inl rfl⟩ K.nm) VR.int fun s4 R4 x4 t4 => ?_))))
    have S4 : EscS W s₀ L It E u t (i + 1) _ (i : Int) b y s4 := S3.step x4 t4 R4 S.fl
    refine wpAny_bind (wpAny_holding (wpAny_assign_Name (wpAny_with_toks (n := 1) t4 (storeTo (W := W.g fun (z : Nat) => s₀.gens[z]?) (i := 3) (v := .d (.str ⟨#[_]⟩)) K.ok S4.r rfl (by show 3 < 4; decide) (by show 3 < 4; decide) (TgtN.free (nm := escNm) (ix := escVn.zipIdx) (cap := 4) (i := 3) ⟨rfl, by decide, .inl rfl⟩ K.nm) VR.str fun s5 R5 x5 t5 => wpAny_pure ?_))))
    exact h1 _ hx s5 _ (S4.step x5 t5 R5 fun v e => by cases e; rfl)
end
end Mine.Internal
end
section
set_option genInjectivity false
open PySem PySem.W PyProof.Rows PySem.Calls
namespace Mine.Internal
noncomputable def escVal (ts : List (Int × Str)) (N : Nat) (m : Nat) (v : Value) (h : Heap) : Prop := ∃ ps x T t u, ts[N - 1 - m]? = some (ps, x) ∧ v = .ref T ∧ h.IsTuple T #[.int ps t, .str x u]
noncomputable def escFin (ts : List (Int × Str)) (N : Nat) (n : Nat) : Prop := ts[N - n]? = none
theorem drop_head {α : Type} {l r : List α} {i : Nat} {x : α} (e : l.drop i = x :: r) : l[i]? = some x ∧ l.drop (i + 1) = r := by
  refine ⟨?_, ?_⟩
  · have : (l.drop i)[0]? = some x := by rw [e]; rfl
    simpa using this
  · have : l.drop (i + 1) = (l.drop i).drop 1 := by rw [List.drop_drop]
    rw [this, e]; rfl
theorem drop_none {α : Type} {l : List α} {i : Nat} (e : l.drop i = []) : l[i]? = none := by
  rw [List.drop_eq_nil_iff] at e
  exact List.getElem?_eq_none e
section
variable {W : Wd} {c : Cx} {k : Nat} {st : PS} {τ : Tau} {s : Shared}
theorem pair_made {e1 e2 : Expr} {p : Int} {x : Str} {kk : Nat} {pp : Pos} (h1 : TE W c k st e1 (.d (.int p)) st) (h2 : TE W c k st e2 (.d (.str x)) st) (hs : starEach [e1, e2] c.env = [(false, eval e1 c.env), (false, eval e2 c.env)])
    (hs2 : starEach [e2] c.env = [(false, eval e2 c.env)]) (ok : c.Ok) {A : Around} {Q : Value → Shared → Prop} {E : Value → Shared → Prop} (hA : AOk A k) (R0 : R W τ c.ls st s) (ht : 0 < s.toks)
    (hQ : ∀ τ' s' T t u, 0 < s'.toks → Ext τ s.heap τ' s'.heap → R W τ' c.ls st s' → s'.heap.IsTuple T #[.int p t, .str x u] → Q (.ref T) s') : wpAny (model pw W.w) A (eval (.Tuple [e1, e2] kk pp) c.env) Q E s := by
  have hes : TEs W c k st [e1, e2] [.d (.int p), .d (.str x)] st := .cons h1 (.cons h2 .nil (by rw [hs2]; rfl)) (by rw [hs, hs2])
  refine wpAny_Tuple (hes ok A τ s _ E pp hA R0 ht fun τ1 s1 vs t1 x1 R1 v1 => ?_)
  obtain ⟨a, b, rfl, ha, hb⟩ := v1.two
  obtain ⟨t, rfl⟩ := isInt ha
  obtain ⟨u, rfl⟩ := isStr hb
  refine ⟨by rw [sizeLine_eq]; show 2 ≤ 16777216; decide, ?_⟩
  have z := R1.push (t := s1.toks) { cls := .type "tuple", data := .seq #[.int p t, .str x u] }
  exact hQ τ1 _ _ t u t1 (x1.trans z.2) z.1 ⟨_, Heap.get?_push_size _ rfl, rfl, _, rfl⟩
end
theorem esc_add (c : Nat) : (Str.ofString "\\") ++ (⟨#[c]⟩ : Str) = ⟨#[92, c]⟩ := by
  have h : Str.ofString "\\" = ⟨#[92]⟩ := by decide +kernel
  rw [h]; rfl
theorem esc_len (c : Nat) : (Str.ofString "\\").length + (⟨#[c]⟩ : Str).length ≤ 1000 := by
  have h : Str.ofString "\\" = ⟨#[92]⟩ := by decide +kernel
  rw [h]
  show 1 + 1 ≤ 1000
  decide
theorem esc_eq (c : Nat) : ((⟨#[c]⟩ : Str) == Str.ofString "\\") = (c == 92) := by
  have h : Str.ofString "\\" = ⟨#[92]⟩ := by decide +kernel
  rw [h]
  by_cases e : c = 92
  · subst e; decide
  · have h1 : (c == 92) = false := by simpa using e
    rw [h1, beq_eq_false_iff_ne]
    intro q
    have : (#[c] : Array Nat) = #[92] := by injection q
    simp at this
    exact e this
theorem esc_bin {c : Nat} {st : PS} : ofBin .Add (.d (.str (Str.ofString "\\"))) (.d (.str ⟨#[c]⟩)) st = some (.d (.str ⟨#[92, c]⟩), st) := by
  show gd ((Str.ofString "\\").length + (⟨#[c]⟩ : Str).length ≤ 1000) (some (V.d (.str (Str.ofString "\\" ++ ⟨#[c]⟩)), st)) = _
  rw [gd_s (esc_len c), esc_add]
theorem esc_cmp {c : Nat} {st : PS} : ofCmp .Eq (.d (.str ⟨#[c]⟩)) (.d (.str (Str.ofString "\\"))) st = some (c == 92) := congrArg some (esc_eq c)
section
variable {W : Wd} {A : Around} {s₀ : Shared} {L It E : Addr} {u : Str} {t : Tok} {ts : List (Int × Str)} {N : Nat}
theorem TgtN.freeEsc {c : Cx} (K : CtxOk escNm escVn.zipIdx 4 c) : c.env.kindOf (Str.ofString "escape") ≠ some .free := TgtN.free (nm := escNm) (ix := escVn.zipIdx) (cap := 4) (i := 2) ⟨rfl, by decide, .inl rfl⟩ K.nm
theorem esc_flag (C : EscC W L It E) {A : Around} {i : Nat} {τ : Tau} {ps : Int} {b b' : Bool} {y : Option V} {s : Shared} (S : EscS W s₀ L It E u t i τ ps b y s) (hA : AOk A 0) {p1 p2 p3 : Pos} {kk : Nat} {Q : Flow → Shared → Prop} {E1 : Value → Shared → Prop}
    (hQ : ∀ s' τ', EscS W s₀ L It E u t i τ' ps b' y s' → Q .next s') : wpAny (model pw W.w) A (exec (.Assign [.Name "escape" p1] (.Constant (.bool b') kk p2) p3) (escCx W.w.params L).env) Q E1 s := by
  have K := escCx_ok C.ok L
  refine TS1.assign (W := W.g fun (z : Nat) => s₀.gens[z]?) (k := 0) (x := Str.ofString "escape") (i := 2) (v := .d (.bool b')) rfl rfl (by show 2 < 4; decide) (TgtN.freeEsc K) TE.bool (by show 2 < 4; decide) K.ok _ _ s _ _ hA S.r S.toks fun τ1 s1 f1 t1 x1 R1 v1 => ?_
  cases v1
  exact hQ s1 τ1 (S.step x1 t1 R1 S.fl)
theorem esc_loop (C : EscC W L It E) {a7 a8 a9 : Pos} {k3 : Nat} {fb : List Stmt} {fc : Code} (hfb : IsEscB fb) (hfc : fc = .forLoop (.Tuple [.Name "pos" a7, .Name "ch" a8] k3 a9) (.ref E) fb [] (escCx W.w.params L).env) {fs : List Frame} (hfs : splitAtGen fs = none) (hfg : fs.any Frame.guarded = false)
    (hend : ∀ n s₀ s c τ ps b y, n ≠ 0 → n ≤ N → ts.drop (N - n) = (if b then [(ps, one 92)] else []) → EscF W s₀ L It E τ ps b y s →
      Seg (model pw W.w) A (gEnd [L, It, E] (escFin ts N)) (gProto W [L, It, E] [L, It, E] (escVal ts N)) n s₀ c (leafOf (.ok .next)) fs s)
    (hA : AOk (A.over fc fs) 0) :
    ∀ (cs : List Nat) (i n : Nat) (b : Bool) (ps : Int) (y : Option V) (s₀ s : Shared) (τ : Tau), n ≠ 0 → n ≤ N → u.cps.toList.drop i = cs → ts.drop (N - n) = escs i b cs → (b = true → ps = i - 1) →
      EscS W s₀ L It E u t i τ ps b y s →
      Seg (model pw W.w) A (gEnd [L, It, E] (escFin ts N)) (gProto W [L, It, E] [L, It, E] (escVal ts N)) n s₀ fc ((model pw W.w).den fc) fs s := by
  have hq : fc.quiet = true := by rw [hfc]; rfl
  have K := escCx_ok C.ok L
  intro cs
  induction cs with
  | nil =>
    intro i n b ps y s₀ s τ hn hN hd hts hb S
    have hx : u.cps[i]? = none := by
      have := drop_none hd
      simpa using this
    refine sgForLoop' hfc (esc_turn C S hA (fun _ s' τ' S' c' => hend n s₀ s' c' τ' ps b y hn hN (by
      rw [hts]
      cases b with
      | false => rfl
      | true => rw [hb rfl]; rfl) S') (fun c e => by rw [hx] at e; cases e))
  | cons c r ih =>
    intro i n b ps y s₀ s τ hn hN hd hts hb S
    have hx : u.cps[i]? = some c := by
      have := (drop_head hd).1
      simpa using this
    have hr := (drop_head hd).2
    refine sgForLoop' hfc (esc_turn C S hA (fun e => by rw [hx] at e; cases e) (fun c' e s1 τ1 S1 => ?_))
    rw [hx] at e
    cases e
    clear hfc
    cases hfb
    obtain ⟨n, rfl⟩ : ∃ m, n = m + 1 := Nat.exists_eq_succ_of_ne_zero hn
    have hj := sub1 N n
    refine seg_execs_cons (sgIf (TB.value (W := W.g fun (z : Nat) => s₀.gens[z]?) (n := 0) (b := b) (TE.name (x := Str.ofString "escape") (i := 2) rfl rfl rfl rfl) (fun _ _ => rfl) K.ok _ τ1 s1 _ _ hA S1.r S1.toks fun τ2 s2 t2 x2 R2 => ?_))
    have S2 := S1.step x2 t2 R2 S1.fl
    cases b with
    | true =>
      refine seg_execs_cons (seg_Expr_Yield hfs rfl hfg (pair_made (W := W.g fun (z : Nat) => s₀.gens[z]?) (k := 0) (p := (i : Int)) (x := ⟨#[92, c]⟩) (TE.name (x := Str.ofString "pos") (i := 1) rfl rfl rfl rfl)
        (TE.bin (x := .d (.str (Str.ofString "\\"))) (y := .d (.str ⟨#[c]⟩)) TE.str (TE.name (x := Str.ofString "ch") (i := 3) rfl rfl rfl rfl) esc_bin) rfl rfl K.ok hA S2.r S2.toks fun τ3 s3 T t' u' t3 x3 R3 hT kap hk => ?_) (fact_esc C.ok).co (fun_quiet K))
      have S3 := S2.step x3 t3 R3 S2.fl
      have hd2 := drop_head (x := ((i : Int), (⟨#[92, c]⟩ : Str))) (r := escs (i + 1) false r) (by rw [hts]; rfl)
      refine ⟨⟨_, _, T, t', u', by rw [hj]; exact hd2.1, rfl, hT⟩, S3.since, fun b hb => (S3.ex b hb).1, fun hm s4 al => hk .none s4 ?_⟩
      have S4 := S3.again al C
      refine seg_execs_cons (seg_wrap (esc_flag C S4 hA fun s5 τ5 S5 => ?_))
      refine seg_again hq ?_
      have e := sub2 hN
      exact ih (i + 1) n false _ _ s4 s5 τ5 hm (Nat.le_of_succ_le hN) hr (by rw [e]; exact hd2.2) (fun q => nomatch q) S5
    | false =>
      refine seg_execs_cons (sgIf (TB.cmp (W := W.g fun (z : Nat) => s₀.gens[z]?) (k := 0) (x := .d (.str ⟨#[c]⟩)) (y := .d (.str (Str.ofString "\\"))) (b := c == 92) rfl (TE.name (x := Str.ofString "ch") (i := 3) rfl rfl rfl rfl) TE.str esc_cmp K.ok _ τ2 s2 _ _ hA S2.r S2.toks fun τ3 s3 t3 x3 R3 => ?_))
      have S3 := S2.step x3 t3 R3 S2.fl
      by_cases h92 : c = 92
      · subst h92
        refine seg_execs_cons (seg_wrap (esc_flag C S3 hA fun s4 τ4 S4 => ?_))
        refine seg_again hq ?_
        exact ih (i + 1) (n + 1) true _ _ s₀ s4 τ4 hn hN hr (by rw [hts]; rfl) (fun _ => sub3 i) S4
      · have e92 : (c == 92) = false := by simpa using h92
        rw [e92]
        refine seg_execs_cons (seg_Expr_Yield hfs rfl hfg (pair_made (W := W.g fun (z : Nat) => s₀.gens[z]?) (k := 0) (p := (i : Int)) (x := ⟨#[c]⟩) (TE.name (x := Str.ofString "pos") (i := 1) rfl rfl rfl rfl)
          (TE.name (x := Str.ofString "ch") (i := 3) rfl rfl rfl rfl) rfl rfl K.ok hA S3.r S3.toks fun τ4 s4 T t' u' t4 x4 R4 hT kap hk => ?_) (fact_esc C.ok).co (fun_quiet K))
        have S4 := S3.step x4 t4 R4 S3.fl
        have hd2 := drop_head (x := ((i : Int), one c)) (r := escs (i + 1) false r) (hts.trans (if_neg h92))
        refine ⟨⟨_, _, T, t', u', by rw [hj]; exact hd2.1, rfl, hT⟩, S4.since, fun b hb => (S4.ex b hb).1, fun hm s5 al => hk .none s5 ?_⟩
        have S5 := S4.again al C
        refine seg_again hq ?_
        have e := sub2 hN
        exact ih (i + 1) n false _ _ s5 s5 _ hm (Nat.le_of_succ_le hN) hr (by rw [e]; exact hd2.2) (fun q => nomatch q) S5
end
end Mine.Internal
end
section
set_option genInjectivity false
open PySem PySem.W PyProof.Rows PySem.Calls
namespace Mine.Internal
section
variable {W : Wd} {A : Around} {s₀ : Shared} {L It E : Addr} {u : Str} {t : Tok} {N : Nat}
theorem esc_start (C : EscC W L It E) {s : Shared} (al : Alike W [] s s) (hns : s.heap.Ns L (fun y => ([(Str.ofString "addr", Value.str u t)] : List (Str × Value)).reverse.lookup y))
    (hIt : It = s.heap.objs.size) (hEs : E = s.heap.objs.size + 1) (hN : N ≠ 0) (h1 : A.handled = none) (hd : A.depth + 1 < 990) (hu : A.units + 3 < 9000) :
    Seg (model pw W.w) A (gEnd [L, It, E] (escFin (escs 0 false u.cps.toList) N)) (gProto W [L, It, E] [L, It, E] (escVal (escs 0 false u.cps.toList) N)) N s (.func (bodyOf W.w.params 39) (escCx W.w.params L).env) ((model pw W.w).den (.func (bodyOf W.w.params 39) (escCx W.w.params L).env)) [] s := by
  have K := escCx_ok C.ok L
  have hloc : ∀ x, x ∈ escVn → (escCx W.w.params L).env.kindOf x = some .local := fun x hx => (K.nm x .local (by
    simp only [escVn, List.mem_cons, List.mem_nil_iff, or_false] at hx
    rcases hx with rfl | rfl | rfl | rfl <;> rfl)).elim id fun q => (nomatch q.1)
  have hkind : ((escCx W.w.params L).env.scope.kind == .class || ((escCx W.w.params L).env.scope.kind == .module && (escCx W.w.params L).env.locals != (escCx W.w.params L).env.globals)) = false := by rw [K.ok.kind]; rfl
  refine seg_func ?_
  have hB := escIs W.w.params
  generalize bodyOf W.w.params 39 = body at hB ⊢
  cases hB with | mk hfb hrest =>
  refine seg_execs_cons (seg_wrap (wpAny_Assign_Name (wpAny_Constant_int (wpAny_storeName_local (hloc _ (by simp [escVn])) hns (fun h' hn' hs => ?_) hkind))))
  refine seg_execs_cons (seg_wrap (wpAny_Assign_Name (wpAny_Constant_bool (wpAny_storeName_local (hloc _ (by simp [escVn])) hn' (fun h2 hn2 hs2 => ?_) hkind))))
  have kp : ∀ b o, b ≠ L → s.heap.get? b = some o → h2.get? b = some o := fun b o hb e => (hs2.2 b hb).trans ((hs.2 b hb).trans e)
  have hsz : h2.objs.size = s.heap.objs.size := hs2.1.trans hs.1
  have al2 : Alike W [] s { s with heap := h2, toks := s.toks + 1 + 1 + 1 } := ⟨fun b hb => (nomatch hb), fun b o e => kp b o (fun q => C.B b o (.inl q) e) (al.base b o e), al.dr, al.os, al.bare, Nat.succ_pos _⟩
  have R2 := R.made (P := [L, It, E]) (vn := escVn) (vars := [.none, some (.d (.int 0)), some (.d (.bool false)), .none]) C.ok al2 hn2 C.B (fun i v e => by
    match i, e with
    | 0, e => cases e
    | 1, e =>
      cases e
      exact ⟨Str.ofString "pos", _, rfl, (if_neg (by decide)).trans (if_pos rfl), VR.int⟩
    | 2, e =>
      cases e
      exact ⟨Str.ofString "escape", _, rfl, if_pos rfl, VR.bool⟩
    | 3, e => cases e
    | n + 4, e => simp at e)
  refine seg_execs_cons (sgFor (fun _ => rfl) ?_)
  refine wpAny_Call_Name_kw (wpAny_bltName (W := W.g _) K.ok R2 (ns_enumerate _) boot_enumerate (by decide) ((K.nm _ _ (show escNm.lookup (Str.ofString "enumerate") = some .globalImplicit from rfl)).elim id fun q => (nomatch q.1)) (PySem.callWith_type rfl ?_) rfl)
  refine evalArgs_plain (spliced_cons (wpAny_Name (wpAny_loadName_local (v := .str u t) K.ok.kind (hloc _ (by simp [escVn])) hn2 (by rw [if_neg (by decide), if_neg (by decide)]; rfl) (spliced_nil ?_)) rfl))
  refine call_enumerate_str fun h3 he hit hsz3 kp3 => ?_
  have hI' : h2.objs.size = It := hsz.trans hIt.symm
  have hE' : h2.objs.size + 1 = E := by rw [hsz]; exact hEs.symm
  rw [show (Shared.heap _).objs.size = It from hI'] at he hit
  have he' : IsEnum h3 E It 0 .none := by
    have : It + 1 = E := by rw [← hI']; exact hE'
    rw [← this]; exact he
  show wpAny _ _ (pyIter (.ref (h2.objs.size + 1))) _ _ _
  rw [hE']
  refine wpAny_pyIter_enum he' ?_
  have kp4 : ∀ b o, b ≠ L → s.heap.get? b = some o → h3.get? b = some o := fun b o hb e => kp3 b o (kp b o hb e)
  have al3 : Alike W [] s { s with heap := h3, toks := s.toks + 1 + 1 + 1 } := ⟨fun b hb => (nomatch hb), fun b o e => kp4 b o (fun q => C.B b o (.inl q) e) (al.base b o e), al.dr, al.os, al.bare, Nat.succ_pos _⟩
  have hn3 := hn2.at fun o e => kp3 L o e
  have R3 := R.made (P := [L, It, E]) (vn := escVn) (vars := [.none, some (.d (.int 0)), some (.d (.bool false)), .none]) C.ok al3 hn3 C.B (fun i v e => by
    match i, e with
    | 0, e => cases e
    | 1, e =>
      cases e
      exact ⟨Str.ofString "pos", _, rfl, (if_neg (by decide)).trans (if_pos rfl), VR.int⟩
    | 2, e =>
      cases e
      exact ⟨Str.ofString "escape", _, rfl, if_pos rfl, VR.bool⟩
    | 3, e => cases e
    | n + 4, e => simp at e)
  obtain ⟨oI, g1, g2⟩ := id hit
  have hpn : ∀ b, b ∉ [L, It, E] → tgen L [L, It, E] h3 b = .none := fun b hb => by
    unfold tgen
    rw [if_neg (fun e : b = L => hb (by simp [e])), if_neg hb]
  have tI : tgen L [L, It, E] h3 It = .held oI := by unfold tgen; rw [if_neg C.neI, if_pos (by simp)]; exact isHeld_some g1
  have tE : ∃ o, tgen L [L, It, E] h3 E = .held o := ⟨_, by unfold tgen; rw [if_neg C.neE, if_pos (by simp)]; exact isHeld_some he'⟩
  have tL : tgen L [L, It, E] h3 L = .fix := if_pos rfl
  have S3 : EscS W s L It E u t 0 (tgen L [L, It, E] h3) 0 false .none { s with heap := h3, toks := s.toks + 1 + 1 + 1 } := by
    refine ⟨⟨al.dr, al.os, fun b o hb e => ⟨kp4 b o (fun q => hb (by simp [q])) e, hpn b hb⟩, R3, fun v e => (nomatch e), fun b hb => ?_, Nat.succ_pos _⟩, ⟨oI, tI⟩, tE, ⟨_, he'⟩, hit⟩
    simp only [List.mem_cons, List.mem_nil_iff, or_false] at hb
    rcases hb with rfl | rfl | rfl
    · obtain ⟨o, es, ep, q1, _⟩ := id hn3
      exact ⟨⟨o, q1⟩, by show tgen b [b, It, E] h3 b ≠ _; rw [tL]; exact fun z => nomatch z⟩
    · exact ⟨⟨oI, g1⟩, by rw [tI]; exact fun z => nomatch z⟩
    · obtain ⟨o, q⟩ := tE
      exact ⟨⟨_, he'⟩, by rw [q]; exact fun z => nomatch z⟩
  intro p'
  refine esc_loop C hfb rfl rfl rfl (fun n s₀ s c τ ps b y hn hN hts S => ?_) (overFunc ⟨rfl, rfl⟩ h1 hd hu) u.cps.toList 0 N false 0 .none s _ _ hN (Nat.le_refl _) rfl (by rw [Nat.sub_self]; rfl) (fun q => nomatch q) S3
  refine seg_leaf (.ok .next) ?_
  rw [backK_ok]
  cases hrest
  have hA : ∀ body, AOk (A.over (.func body (escCx W.w.params L).env) []) 0 := fun body => over_ok h1 rfl hd hu
  refine seg_execs_cons (sgIf (TB.value (W := W.g fun (z : Nat) => s₀.gens[z]?) (n := 0) (b := b) (TE.name (x := Str.ofString "escape") (i := 2) rfl rfl rfl rfl) (fun _ _ => rfl) K.ok _ τ s _ _ (hA _) S.r S.toks fun τ1 s1 t1 x1 R1 => ?_))
  have S1 := S.step x1 t1 R1 S.fl
  cases b with
  | false => exact seg_end (.ok (.ret .none)) ⟨rfl, drop_none hts, S1.since⟩
  | true =>
    obtain ⟨n, rfl⟩ : ∃ m, n = m + 1 := Nat.exists_eq_succ_of_ne_zero hn
    have hj := sub1 N n
    have h92 : Str.ofString "\\" = one 92 := by decide +kernel
    refine seg_execs_cons (seg_Expr_Yield rfl rfl rfl (pair_made (W := W.g fun (z : Nat) => s₀.gens[z]?) (k := 0) (p := ps) (x := Str.ofString "\\") (TE.name (x := Str.ofString "pos") (i := 1) rfl rfl rfl rfl) TE.str rfl rfl K.ok (hA _) S1.r S1.toks fun τ2 s2 T t' u' t2 x2 R2 hT kap hk => ?_) (fact_esc C.ok).co (fun_quiet K))
    have S2 := S1.step x2 t2 R2 S1.fl
    have hd2 := drop_head hts
    refine ⟨⟨_, _, T, t', u', by rw [hj]; exact hd2.1, rfl, by rw [← h92]; exact hT⟩, S2.since, fun b hb => (S2.ex b hb).1, fun hm s3 al => hk .none s3 ?_⟩
    have S4 := S2.again al C
    have e := sub2 hN
    exact seg_end (.ok (.ret .none)) ⟨rfl, by show _[N - n]? = none; rw [e]; exact drop_none hd2.2, S4.since⟩
end
end Mine.Internal
end
section
set_option genInjectivity false
open PySem PySem.W PyProof.Rows PySem.Calls
namespace Mine.Internal
theorem letGo_gen {prog : Program} {w : World} {A : Around} {E : Value → Shared → Prop} {s : Shared} {elts : List Expr} {x1 : Nat} {pos : Pos} {I T : Addr} {g : Nat} {Q : Unit → Shared → Prop} (hg : s.heap.IsGen I g) (hQ : Q () s) :
    wpAny (model prog w) A (letOwnedTupleGo (.Tuple elts x1 pos) (.ref I) (.ref T)) Q E s := by
  obtain ⟨o, nm, qn, ho, hc, hd, _⟩ := hg
  unfold letOwnedTupleGo
  refine wpAny_bind (wpAny_load ho ?_)
  rw [hc, hd]
  show wpAny _ A (if (["enumerate", "zip", "dict_itemiterator", "dict_reverseitemiterator", "odict_iterator", "itertools.zip_longest", "itertools.pairwise"].contains "generator" &&
      (#[.int g 0, nm, qn] : Array Value)[0]? == some (rawInt T)) = true then _ else _) Q E s
  rw [if_neg (by
    intro h
    rw [show (["enumerate", "zip", "dict_itemiterator", "dict_reverseitemiterator", "odict_iterator", "itertools.zip_longest", "itertools.pairwise"].contains "generator") = false from by decide, Bool.false_and] at h
    cases h)]
  exact wpAny_pure hQ
theorem hEsc (W : Wd) (F : Addr → Option Fn) : HEsc W F := by
  intro n c nm ix cap x y px py p1 p2 p3 p k e body i j B st st1 st2 u f K hx hy hf hp h1 hlu hbody he
  refine .mk fun ok A τ s Q E hA R0 ht hQ => ?_
  obtain ⟨n, rfl⟩ : ∃ m, n = m + 1 := by
    cases n with
    | zero => exact nomatch (show (Option.none : Option (Fl × PS)) = some _ from he)
    | succ m => exact ⟨m, rfl⟩
  have okW := R0.ok
  refine wpAny_For (gen_call (fact_esc okW) hf K.nm hp h1 ok hA R0 ht fun τ1 s1 uv s2 L ga x1 R1 v1 G => ?_) (fun _ => rfl)
  refine wpAny_pyIter_gen G.gen ?_
  obtain ⟨t, rfl⟩ := isStr v1
  have hd := hA.depth
  have hu := hA.units
  obtain ⟨C, τ2, I0⟩ := gen_held (A := A) (X := [ga + 1, ga + 1 + 1]) (fp := [L, ga + 1, ga + 1 + 1]) (val := escVal (escs 0 false u.cps.toList) (n + 1)) (fin := escFin (escs 0 false u.cps.toList) (n + 1)) (n := n + 1) R0 x1 R1 G (fun b hb => by
      rcases List.mem_cons.mp hb with rfl | hb
      · exact Nat.lt_succ_self _
      · rcases List.mem_singleton.mp hb with rfl; exact Nat.lt_succ_of_lt (Nat.lt_succ_self _))
    (fun b hb => .inl hb)
    (fun _ s' hs' al hB => by
      have lt1 : L < ga + 1 := Nat.lt_succ_of_lt G.lt
      exact esc_start ⟨okW, Nat.ne_of_gt lt1, Nat.ne_of_gt (Nat.lt_succ_of_lt lt1), Nat.ne_of_gt (Nat.lt_succ_self _), hB⟩ al (by rw [hs']; exact G.ns) (by rw [hs', G.size]) (by rw [hs', G.size]) (Nat.succ_ne_zero _) hA.handled (by show A.depth + 1 < 990; (first | lia | omega)) (by show A.units + 1 + 3 < 9000; (first | lia | omega)))
  refine gen_loop C hA (fun k stm => evX F k i j ((escs 0 false u.cps.toList).drop (n + 1 - k)) B stm = some (f, st2)) (fun stm q => nomatch (show (Option.none : Option (Fl × PS)) = some _ from q)) (fun m stm hk hev => ?_) (fun _ _ _ x R1 hf => hQ _ _ _ x R1 hf) I0 (by rw [Nat.sub_self]; exact he)
  clear R0 R1 x1 v1 G I0 he ht hQ C hf hp h1 okW
  have hj := sub1 (n + 1) m
  have hj2 := sub2 hk
  unfold escVal escFin
  rw [hj, hj2]
  generalize escs 0 false u.cps.toList = ts at hev ⊢
  generalize n + 1 - (m + 1) = q at hev ⊢
  cases hnx : ts.drop q with
  | nil =>
    rw [hnx] at hev
    cases hev
    refine .inl ⟨fun v h hv => ?_, rfl, rfl⟩
    obtain ⟨ps, xx, T, t', u', e1, _⟩ := hv
    rw [drop_none hnx] at e1; cases e1
  | cons px r =>
    obtain ⟨ps, xx⟩ := px
    have hd2 := drop_head hnx
    rw [hnx] at hev
    refine bd_c (x := setVar stm i (.d (.int ps))) hev fun sta hsv hev1 => ?_
    clear hev
    obtain ⟨hlen, rfl⟩ := setVar_some hsv
    refine bd_c (x := setVar _ j (.d (.str xx))) hev1 fun stb hsv2 hev2 => ?_
    clear hev1
    obtain ⟨hlen2, rfl⟩ := setVar_some hsv2
    refine bd2_c (x := evSs F m B _) hev2 fun fl stc hsb hev => ?_
    clear hev2
    refine .inr ⟨fun hf3 => ?_, fl, stc, _, hev, fun hev => by rw [hd2.2]; exact hev, fun hg τ3 s3 v' Q E hv hgen t3 R3 hq => ?_⟩
    · rw [hd2.1] at hf3; cases hf3
    · obtain ⟨ps', xx', T, t', u', e1, rfl, hT⟩ := hv
      rw [hd2.1] at e1
      cases e1
      refine letGo_gen hgen ?_
      refine wpAny_assign_Tuple hA.handled hT rfl rfl fun h4 hx4 => ?_
      show wpAny _ A (do holding [_] (assign (.Name x px) c.env _); do holding [] (assign (.Name y py) c.env _); pure ()) _ _ _
      have z4 := R3.grow (h' := h4) (t := s3.toks) fun b o w => hx4 b o (Nat.ne_of_lt (Heap.lt_size w)) w
      clear hT hx4
      refine wpAny_bind (wpAny_holding (wpAny_assign_Name (wpAny_with_toks (n := 1) t3 (storeTo (W := W.g hg) ok z4.1 (by rw [K.ix]; exact hx.ix) hlen (by rw [K.cap]; exact hx.cap) (hx.free K.nm) (VR.int (t := t')) fun s5 R5 x5 t5 => ?_))))
      refine wpAny_bind (wpAny_holding (wpAny_assign_Name (wpAny_with_toks (n := 1) t5 (storeTo (W := W.g hg) ok R5 (by rw [K.ix]; exact hy.ix) hlen2 (by rw [K.cap]; exact hy.cap) (hy.free K.nm) (VR.str (t := u')) fun s6 R6 x6 t6 => wpAny_pure ?_))))
      exact hbody hg m hk _ _ _ hsb ok A _ _ _ _ (hA.le (Nat.le_of_lt hk)) R6 t6 fun τ7 s7 f' t7 x7 R7 hf => hq _ _ _ t7 (((z4.2.trans x5).trans x6).trans x7) R7 hf
end Mine.Internal
end
section
set_option genInjectivity false
open PySem PySem.W PyProof.Rows PySem.Calls
namespace Mine.Internal
section
variable {α β : Type}
theorem bdI_s {x : Option (V × PS)} {i : Int} {s : PS} {f : Int → PS → Option β} (h : x = some (.d (.int i), s)) : bdI x f = f i s := by rw [h]; rfl
theorem bdS_s {x : Option (V × PS)} {i : Str} {s : PS} {f : Str → PS → Option β} (h : x = some (.d (.str i), s)) : bdS x f = f i s := by rw [h]; rfl
theorem bdB_s {x : Option (V × PS)} {i : Bool} {s : PS} {f : Bool → PS → Option β} (h : x = some (.d (.bool i), s)) : bdB x f = f i s := by rw [h]; rfl
theorem getV_s {st : PS} {i : Nat} {v : V} (h : st.vars[i]? = some (some v)) : getV st i = some v := by unfold getV; rw [h]; rfl
end
section
variable {F : Addr → Option Fn} {n : Nat} {st st1 st2 st3 st4 : PS}
theorem xNone : evE F (n + 1) .none st = some (.d .none, st) := rfl
theorem xBool {b : Bool} : evE F (n + 1) (.bool b) st = some (.d (.bool b), st) := rfl
theorem xInt {i : Int} : evE F (n + 1) (.int i) st = some (.d (.int i), st) := rfl
theorem xStr {x : Str} : evE F (n + 1) (.str x) st = some (.d (.str x), st) := rfl
theorem xVar {i : Nat} {v : V} (h : st.vars[i]? = some (some v)) : evE F (n + 1) (.var i) st = some (v, st) := bd_s (getV_s h)
theorem xGfn {a : Addr} : evE F (n + 1) (.gfn a) st = some (.d (.fn a), st) := rfl
theorem xBin {op : Operator} {a b : E} {x y : V} {r : V × PS} (h1 : evE F n a st = some (x, st1)) (h2 : evE F n b st1 = some (y, st2)) (h3 : ofBin op x y st2 = some r) : evE F (n + 1) (.bin op a b) st = some r := (bd2_s h1).trans ((bd2_s h2).trans h3)
theorem xNeg {a : E} {x : Int} (h1 : evE F n a st = some (.d (.int x), st1)) : evE F (n + 1) (.neg a) st = some (.d (.int (-x)), st1) := bdI_s h1
theorem xCmp {op : CmpOp} {a b : E} {x y : V} {r : Bool} (h1 : evE F n a st = some (x, st1)) (h2 : evE F n b st1 = some (y, st2)) (h3 : ofCmp op x y st2 = some r) : evE F (n + 1) (.cmp op a b) st = some (.d (.bool r), st2) := (bd2_s h1).trans ((bd2_s h2).trans (bd_s h3))
theorem xAndT {a b : E} {r : V × PS} (h1 : evE F n a st = some (.d (.bool true), st1)) (h2 : evE F n b st1 = some r) : evE F (n + 1) (.and a b) st = some r := (bdB_s h1).trans h2
theorem xAndF {a b : E} (h1 : evE F n a st = some (.d (.bool false), st1)) : evE F (n + 1) (.and a b) st = some (.d (.bool false), st1) := bdB_s h1
theorem xSub {a b : E} {x y v : V} (h1 : evE F n a st = some (x, st1)) (h2 : evE F n b st1 = some (y, st2)) (h3 : ofSub x y st2 = some v) : evE F (n + 1) (.sub a b) st = some (v, st2) := (bd2_s h1).trans ((bd2_s h2).trans (bd_s h3))
theorem xTake {a : E} {k : Nat} {x : V} {l : List V} (h1 : evE F n a st = some (x, st1)) (h2 : items st1 x = some l) (h3 : k ≤ l.length ∧ l.length < 1000) : evE F (n + 1) (.take a k) st = some (.ref st1.own.length, { st1 with own := st1.own ++ [l.take k] }) := (bd2_s h1).trans ((bd_s h2).trans (gd_s h3))
theorem xRev {a : E} {x : V} {l : List V} (h1 : evE F n a st = some (x, st1)) (h2 : items st1 x = some l) (h3 : l.length < 1000) : evE F (n + 1) (.rev a) st = some (.ref st1.own.length, { st1 with own := st1.own ++ [l.reverse] }) := (bd2_s h1).trans ((bd_s h2).trans (gd_s h3))
theorem xSfrom {a b : E} {x : Str} {i : Int} (h1 : evE F n a st = some (.d (.str x), st1)) (h2 : evE F n b st1 = some (.d (.int i), st2)) (h3 : x.length < 1000) : evE F (n + 1) (.sfrom a b) st = some (.d (.str (Txt.slice x (some i) .none)), st2) := (bdS_s h1).trans ((bdI_s h2).trans (gd_s h3))
theorem xScut {a b c : E} {x : Str} {i j : Int} (h1 : evE F n a st = some (.d (.str x), st1)) (h2 : evE F n b st1 = some (.d (.int i), st2)) (h3 : evE F n c st2 = some (.d (.int j), st3)) (h4 : x.length < 1000) : evE F (n + 1) (.scut a b c) st = some (.d (.str (Txt.slice x (some i) (some j))), st3) := (bdS_s h1).trans ((bdI_s h2).trans ((bdI_s h3).trans (gd_s h4)))
theorem xList {es : Es} {vs : List V} (h1 : evEs F n es st = some (vs, st1)) (h2 : vs.length ≤ 1000) : evE F (n + 1) (.list es) st = some (.ref st1.own.length, { st1 with own := st1.own ++ [vs] }) := (bd2_s h1).trans (gd_s h2)
theorem xLenS {a : E} {x : Str} (h1 : evE F n a st = some (.d (.str x), st1)) (h2 : x.length < 1000) : evE F (n + 1) (.len a) st = some (.d (.int x.length), st1) := (bd2_s h1).trans (bd_s (a := x.length) (gd_s h2))
theorem xLenL {a : E} {l : List D} (h1 : evE F n a st = some (.d (.list l), st1)) (h2 : l.length < 1000) : evE F (n + 1) (.len a) st = some (.d (.int l.length), st1) := by
  have h3 : (l.map V.d).length < 1000 := by rw [List.length_map]; exact h2
  have h4 : lenOf (.d (.list l)) st1 = some (l.map V.d).length := gd_s h3
  rw [List.length_map] at h4
  exact (bd2_s h1).trans (bd_s h4)
theorem xLenR {a : E} {k : Nat} {l : List V} (h1 : evE F n a st = some (.ref k, st1)) (hl : st1.own[k]? = some l) (h2 : l.length < 1000) : evE F (n + 1) (.len a) st = some (.d (.int l.length), st1) := (bd2_s h1).trans (bd_s (a := l.length) ((bd_s hl).trans (gd_s h2)))
theorem xSum {a : E} {x : V} {l : List V} {is : List Int} (h1 : evE F n a st = some (x, st1)) (h2 : items st1 x = some l) (h3 : ints? l = some is) (h4 : is.length < 1000) : evE F (n + 1) (.sum a) st = some (.d (.int is.sum), st1) := (bd2_s h1).trans ((bd_s h2).trans ((bd_s h3).trans (gd_s h4)))
theorem xMax {a b : E} {x y : Int} (h1 : evE F n a st = some (.d (.int x), st1)) (h2 : evE F n b st1 = some (.d (.int y), st2)) : evE F (n + 1) (.max a b) st = some (.d (.int (if x < y then y else x)), st2) := (bdI_s h1).trans (bdI_s h2)
theorem xCopy {a : E} {x : V} {l : List V} (h1 : evE F n a st = some (x, st1)) (h2 : items st1 x = some l) (h3 : l.length < 1000) : evE F (n + 1) (.copy a) st = some (.ref st1.own.length, { st1 with own := st1.own ++ [l] }) := (bd2_s h1).trans ((bd_s h2).trans (gd_s h3))
theorem xPop {a b : E} {x r : V} {i : Int} (h1 : evE F n a st = some (x, st1)) (h2 : evE F n b st1 = some (.d (.int i), st2)) (h3 : 0 ≤ i ∧ i < 1000) (h4 : ofSub x (.d (.int i)) st2 = some r) (h5 : setOwn st2 x (fun l => if l.length < 1000 then some (l.eraseIdx i.toNat) else .none) = some st3) :
    evE F (n + 1) (.pop a b) st = some (r, st3) := (bd2_s h1).trans ((bdI_s h2).trans ((gd_s h3).trans ((bd_s h4).trans (bd_s h5))))
theorem xReplace {a : E} {x y z : Str} (h1 : evE F n a st = some (.d (.str z), st1)) (h2 : z.length < 1000 ∧ y.length < 15 ∧ (x == y) = false) : evE F (n + 1) (.replace a x y) st = some (.d (.str (Txt.replace z x y)), st1) := (bdS_s h1).trans (gd_s h2)
theorem xJoin {a : E} {x : Str} {v : V} {l : List V} {ts : List Str} (h1 : evE F n a st = some (v, st1)) (h2 : items st1 v = some l) (h3 : strs? l = some ts) (h4 : JoinOk x ts = true) : evE F (n + 1) (.join x a) st = some (.d (.str (Txt.join x ts)), st1) := (bd2_s h1).trans ((bd_s h2).trans ((bd_s h3).trans (gd_s h4)))
theorem xCall {a : Addr} {es : Es} {vs : List V} {r : V × PS} (h1 : evEs F n es st = some (vs, st1)) (h2 : evC F n a vs .none st1 = some r) : evE F (n + 1) (.call a es) st = some r := (bd2_s h1).trans h2
theorem xCallKey {a : Addr} {es : Es} {k : E} {vs : List V} {v : V} {r : V × PS} (h1 : evEs F n es st = some (vs, st1)) (h2 : evE F n k st1 = some (v, st2)) (h3 : evC F n a vs (some v) st2 = some r) : evE F (n + 1) (.callKey a es k) st = some r := (bd2_s h1).trans ((bd2_s h2).trans h3)
theorem xCallVar {a : Addr} {i : Nat} {e : E} {v : V} {r : V × PS} (h0 : st.vars[i]? = some (some (.d (.fn a)))) (h1 : evE F n e st = some (v, st1)) (h2 : evC F n a [v] .none st1 = some r) : evE F (n + 1) (.callVar i e) st = some r := (bd_s (getV_s h0)).trans ((bd_s (x := asF (.d (.fn a))) rfl).trans ((bd2_s h1).trans h2))
theorem xFrz {a : E} {x : V} {r : V × PS} (h1 : evE F n a st = some (x, st1)) (h2 : frz st.own.length x st1 = some r) : evE F (n + 1) (.frz a) st = some r := (bd2_s h1).trans h2
theorem xComp {m : Nat} {caps : List Nat} {elt : E} {i : Nat} {it : It} {t : Op} {g : Gs} {src : Src} (h1 : evI F n it st = some (src, st1)) (h2 : evK F n elt i t g src st1.own.length ⟨List.replicate m .none ++ caps.map (fun j => (st1.vars[j]?).join), st1.own ++ [[]]⟩ = some st2) :
    evE F (n + 1) (.comp m caps elt i it t g) st = some (.ref st1.own.length, ⟨st1.vars, st2.own⟩) := (bd2_s h1).trans (bd_s h2)
theorem xNil : evEs F (n + 1) .nil st = some ([], st) := rfl
theorem xCons {e : E} {r : Es} {v : V} {vs : List V} (h1 : evE F n e st = some (v, st1)) (h2 : evEs F n r st1 = some (vs, st2)) : evEs F (n + 1) (.cons e r) st = some (v :: vs, st2) := (bd2_s h1).trans (bd2_s h2)
theorem yCmp {op : CmpOp} {a b : E} {x y : V} {r : Bool} (h1 : evE F n a st = some (x, st1)) (h2 : evE F n b st1 = some (y, st2)) (h3 : ofCmp op x y st2 = some r) : evB F (n + 1) (.cmp op a b) st = some (r, st2) := (bd2_s h1).trans ((bd2_s h2).trans (bd_s h3))
theorem yNot {a : E} {b : Bool} (h1 : evB F n a st = some (b, st1)) : evB F (n + 1) (.not a) st = some (!b, st1) := bd2_s h1
theorem yAndF {a b : E} (h1 : evB F n a st = some (false, st1)) : evB F (n + 1) (.and a b) st = some (false, st1) := bd2_s h1
theorem yAndT {a b : E} {r : Bool × PS} (h1 : evB F n a st = some (true, st1)) (h2 : evB F n b st1 = some r) : evB F (n + 1) (.and a b) st = some r := (bd2_s h1).trans h2
theorem yOrT {a b : E} (h1 : evB F n a st = some (true, st1)) : evB F (n + 1) (.or a b) st = some (true, st1) := bd2_s h1
theorem yOrF {a b : E} {r : Bool × PS} (h1 : evB F n a st = some (false, st1)) (h2 : evB F n b st1 = some r) : evB F (n + 1) (.or a b) st = some r := (bd2_s h1).trans h2
theorem yVar {i : Nat} {b : Bool} (h : st.vars[i]? = some (some (.d (.bool b)))) : evB F (n + 1) (.var i) st = some (b, st) := (bd_s (getV_s h)).trans (bd_s (x := asB (.d (.bool b))) rfl)
theorem yCall {a : Addr} {es : Es} {b : Bool} (h : evE F n (.call a es) st = some (.d (.bool b), st1)) : evB F (n + 1) (.call a es) st = some (b, st1) := bdB_s h
theorem iList {e : E} {v : V} {l : List V} (h1 : evE F n e st = some (v, st1)) (h2 : items st1 v = some l) : evI F (n + 1) (.list e) st = some (.lst v 0, st1) := (bd2_s h1).trans (bd_s h2)
theorem iRange1 {a : E} {x : Int} (h1 : evE F n a st = some (.d (.int x), st1)) (h2 : x < 1000 ∧ -1000 < x) : evI F (n + 1) (.range1 a) st = some (.rng 0 1 x.toNat, st1) := (bdI_s h1).trans (gd_s h2)
theorem iRange2 {a b : E} {x y : Int} (h1 : evE F n a st = some (.d (.int x), st1)) (h2 : evE F n b st1 = some (.d (.int y), st2)) (h3 : x.natAbs < 1000 ∧ y.natAbs < 1000) : evI F (n + 1) (.range2 a b) st = some (.rng x 1 (y - x).toNat, st2) := (bdI_s h1).trans ((bdI_s h2).trans (gd_s h3))
theorem kEnd {elt : E} {i : Nat} {t : Op} {g : Gs} {src : Src} {acc : Nat} (h : src.next st = some .none) : evK F (n + 1) elt i t g src acc st = some st := bd_s h
theorem kSkip {elt : E} {i : Nat} {t : Op} {g : Gs} {src src' : Src} {acc : Nat} {v : V} {r : PS} (h : src.next st = some (some (v, src'))) (h1 : setVar st i v = some st1) (h2 : evO F n t st1 = some (false, st2)) (h3 : evK F n elt i t g src' acc st2 = some r) : evK F (n + 1) elt i t g src acc st = some r := (bd_s h).trans ((bd_s h1).trans ((bd2_s h2).trans h3))
theorem kAdd {elt : E} {i : Nat} {t : Op} {src src' : Src} {acc : Nat} {v x : V} {r : PS} (h : src.next st = some (some (v, src'))) (h1 : setVar st i v = some st1) (h2 : evO F n t st1 = some (true, st2)) (h3 : evE F n elt st2 = some (x, st3))
    (h4 : setOwn st3 (.ref acc) (fun l => if l.length < 1000 then some (l ++ [x]) else .none) = some st4) (h5 : evK F n elt i t .nil src' acc st4 = some r) : evK F (n + 1) elt i t .nil src acc st = some r := (bd_s h).trans ((bd_s h1).trans ((bd2_s h2).trans ((bd2_s h3).trans ((bd_s h4).trans h5))))
theorem kNest {elt : E} {i i' : Nat} {t t' : Op} {it' : It} {g' : Gs} {src src' src2 : Src} {acc : Nat} {v : V} {r : PS} (h : src.next st = some (some (v, src'))) (h1 : setVar st i v = some st1) (h2 : evO F n t st1 = some (true, st2)) (h3 : evI F n it' st2 = some (src2, st3))
    (h4 : evK F n elt i' t' g' src2 acc st3 = some st4) (h5 : evK F n elt i t (.cons i' it' t' g') src' acc st4 = some r) : evK F (n + 1) elt i t (.cons i' it' t' g') src acc st = some r := (bd_s h).trans ((bd_s h1).trans ((bd2_s h2).trans ((bd2_s h3).trans ((bd_s h4).trans h5))))
theorem oNo : evO F (n + 1) .no st = some (true, st) := rfl
theorem oYes {e : E} {r : Bool × PS} (h : evB F n e st = some r) : evO F (n + 1) (.yes e) st = some r := h
theorem call_d {f : Fn} {ws : List V} {g : PS → Option (Fl × PS)} {v : V} {st' : PS} (hp : f.prim = false) (hd : allD ws = true) (he : outOf 0 (g ⟨ws.map some ++ f.cap.map some ++ List.replicate f.nv .none, []⟩) = some (v, st')) : callOf f ws st g = some (v, st) := by
  delta callOf
  rw [hp, hd]
  exact bd2_s he
theorem call_r {f : Fn} {ws : List V} {g : PS → Option (Fl × PS)} {v : V} (hp : f.prim = false) (hd : allD ws = false) (he : outOf st.own.length (g ⟨ws.map some ++ f.cap.map some ++ List.replicate f.nv .none, st.own⟩) = some (v, st1)) : callOf f ws st g = some (v, ⟨st.vars, st1.own⟩) := by
  delta callOf
  rw [hp, hd]
  exact bd2_s he
theorem cData {a : Addr} {f : Fn} {vs ws : List V} {key : Option V} {v : V} {st' : PS} (hf : F a = some f) (hb : f.bind vs key = some ws) (hp : f.prim = false) (hd : allD ws = true) (he : outOf 0 (evSs F n f.body ⟨ws.map some ++ f.cap.map some ++ List.replicate f.nv .none, []⟩) = some (v, st')) :
    evC F (n + 1) a vs key st = some (v, st) := (bd_s hf).trans ((bd_s hb).trans (call_d hp hd he))
theorem cRef {a : Addr} {f : Fn} {vs ws : List V} {key : Option V} {v : V} (hf : F a = some f) (hb : f.bind vs key = some ws) (hp : f.prim = false) (hd : allD ws = false) (he : outOf st.own.length (evSs F n f.body ⟨ws.map some ++ f.cap.map some ++ List.replicate f.nv .none, st.own⟩) = some (v, st1)) :
    evC F (n + 1) a vs key st = some (v, ⟨st.vars, st1.own⟩) := (bd_s hf).trans ((bd_s hb).trans (call_r hp hd he))
theorem sAssign {i : Nat} {e : E} {v : V} (h1 : evE F n e st = some (v, st1)) (h2 : setVar st1 i v = some st2) : evS F (n + 1) (.assign i e) st = some (.next, st2) := (bd2_s h1).trans (bd_s h2)
theorem sSetItem {a i e : E} {v x : V} {j : Int} (h1 : evE F n e st = some (v, st1)) (h2 : evE F n a st1 = some (x, st2)) (h3 : evE F n i st2 = some (.d (.int j), st3)) (h4 : setOwn st3 x (fun l => if 0 ≤ j ∧ j < l.length ∧ j < 1000 then some (l.set j.toNat v) else .none) = some st4) : evS F (n + 1) (.setItem a i e) st = some (.next, st4) := (bd2_s h1).trans ((bd2_s h2).trans ((bdI_s h3).trans (bd_s h4)))
theorem sAdd {i : Nat} {e : E} {x y : Int} (h0 : st.vars[i]? = some (some (.d (.int x)))) (h1 : evE F n e st = some (.d (.int y), st1)) (h2 : setVar st1 i (.d (.int (x + y))) = some st2) : evS F (n + 1) (.aug i .Add e) st = some (.next, st2) := (bd_s (getV_s h0)).trans ((bd_s (x := asI (.d (.int x))) rfl).trans ((bdI_s h1).trans ((bd_s (x := augOf .Add x y) rfl).trans (bd_s h2))))
theorem sSubt {i : Nat} {e : E} {x y : Int} (h0 : st.vars[i]? = some (some (.d (.int x)))) (h1 : evE F n e st = some (.d (.int y), st1)) (h2 : setVar st1 i (.d (.int (x - y))) = some st2) : evS F (n + 1) (.aug i .Sub e) st = some (.next, st2) := (bd_s (getV_s h0)).trans ((bd_s (x := asI (.d (.int x))) rfl).trans ((bdI_s h1).trans ((bd_s (x := augOf .Sub x y) rfl).trans (bd_s h2))))
theorem sFor {i : Nat} {it : It} {body : Ss} {src : Src} {r : Fl × PS} (h1 : evI F n it st = some (src, st1)) (h2 : evF F n i src body st1 = some r) : evS F (n + 1) (.for i it body) st = some r := (bd2_s h1).trans h2
theorem sForEsc {i j : Nat} {e : E} {body : Ss} {x : Str} {r : Fl × PS} (h1 : evE F n e st = some (.d (.str x), st1)) (h2 : x.length < 1000) (h3 : evX F n i j (escs 0 false x.cps.toList) body st1 = some r) : evS F (n + 1) (.forEsc i j e body) st = some r := (bdS_s h1).trans ((gd_s h2).trans h3)
theorem sWhile {t : E} {body : Ss} {r : Fl × PS} (h : evW F n t body st = some r) : evS F (n + 1) (.while t body) st = some r := h
theorem sIteT {t : E} {a b : Ss} {r : Fl × PS} (h1 : evB F n t st = some (true, st1)) (h2 : evSs F n a st1 = some r) : evS F (n + 1) (.ite t a b) st = some r := (bd2_s h1).trans h2
theorem sIteF {t : E} {a b : Ss} {r : Fl × PS} (h1 : evB F n t st = some (false, st1)) (h2 : evSs F n b st1 = some r) : evS F (n + 1) (.ite t a b) st = some r := (bd2_s h1).trans h2
theorem sRet {e : E} {v : V} (h1 : evE F n e st = some (v, st1)) : evS F (n + 1) (.ret e) st = some (.ret v, st1) := bd2_s h1
theorem sBrk : evS F (n + 1) .brk st = some (.brk, st) := rfl
theorem sAppend {a e : E} {x v : V} (h1 : evE F n a st = some (x, st1)) (h2 : evE F n e st1 = some (v, st2)) (h3 : setOwn st2 x (fun l => if l.length < 1000 then some (l ++ [v]) else .none) = some st3) : evS F (n + 1) (.append a e) st = some (.next, st3) := (bd2_s h1).trans ((bd2_s h2).trans (bd_s h3))
theorem sInsert {a i e : E} {x v : V} {j : Int} (h1 : evE F n a st = some (x, st1)) (h2 : evE F n i st1 = some (.d (.int j), st2)) (h3 : evE F n e st2 = some (v, st3)) (h4 : setOwn st3 x (fun l => if 0 ≤ j ∧ j ≤ l.length ∧ l.length < 1000 then some (l.insertIdx j.toNat v) else .none) = some st4) : evS F (n + 1) (.insert a i e) st = some (.next, st4) := (bd2_s h1).trans ((bdI_s h2).trans ((bd2_s h3).trans (bd_s h4)))
theorem sInsort {f k z : Nat} (h : insortOf st f k z = some st1) : evS F (n + 1) (.insort f k z) st = some (.next, st1) := bd_s h
theorem zNil : evSs F (n + 1) .nil st = some (.next, st) := rfl
theorem zCons {x : S} {r : Ss} {o : Fl × PS} (h1 : evS F n x st = some (.next, st1)) (h2 : evSs F n r st1 = some o) : evSs F (n + 1) (.cons x r) st = some o := (bd2_s h1).trans h2
theorem zRet {x : S} {r : Ss} {v : V} (h1 : evS F n x st = some (.ret v, st1)) : evSs F (n + 1) (.cons x r) st = some (.ret v, st1) := bd2_s h1
theorem zBrk {x : S} {r : Ss} (h1 : evS F n x st = some (.brk, st1)) : evSs F (n + 1) (.cons x r) st = some (.brk, st1) := bd2_s h1
theorem fEnd {i : Nat} {src : Src} {body : Ss} (h : src.next st = some .none) : evF F (n + 1) i src body st = some (.next, st) := bd_s h
theorem fNext {i : Nat} {src src' : Src} {body : Ss} {v : V} {r : Fl × PS} (h : src.next st = some (some (v, src'))) (h1 : setVar st i v = some st1) (h2 : evSs F n body st1 = some (.next, st2)) (h3 : evF F n i src' body st2 = some r) : evF F (n + 1) i src body st = some r := (bd_s h).trans ((bd_s h1).trans ((bd2_s h2).trans h3))
theorem eEnd {i j : Nat} {body : Ss} : evX F (n + 1) i j [] body st = some (.next, st) := rfl
theorem eNext {i j : Nat} {p : Int} {x : Str} {r : List (Int × Str)} {body : Ss} {o : Fl × PS} (h1 : setVar st i (.d (.int p)) = some st1) (h2 : setVar st1 j (.d (.str x)) = some st2) (h3 : evSs F n body st2 = some (.next, st3)) (h4 : evX F n i j r body st3 = some o) : evX F (n + 1) i j ((p, x) :: r) body st = some o := (bd_s h1).trans ((bd_s h2).trans ((bd2_s h3).trans h4))
theorem eRet {i j : Nat} {p : Int} {x : Str} {r : List (Int × Str)} {body : Ss} {w : V} (h1 : setVar st i (.d (.int p)) = some st1) (h2 : setVar st1 j (.d (.str x)) = some st2) (h3 : evSs F n body st2 = some (.ret w, st3)) : evX F (n + 1) i j ((p, x) :: r) body st = some (.ret w, st3) := (bd_s h1).trans ((bd_s h2).trans (bd2_s h3))
theorem wEnd {t : E} {body : Ss} (h : evB F n t st = some (false, st1)) : evW F (n + 1) t body st = some (.next, st1) := bd2_s h
theorem wNext {t : E} {body : Ss} {r : Fl × PS} (h : evB F n t st = some (true, st1)) (h2 : evSs F n body st1 = some (.next, st2)) (h3 : evW F n t body st2 = some r) : evW F (n + 1) t body st = some r := (bd2_s h).trans ((bd2_s h2).trans h3)
theorem wBrk {t : E} {body : Ss} (h : evB F n t st = some (true, st1)) (h2 : evSs F n body st1 = some (.brk, st2)) : evW F (n + 1) t body st = some (.next, st2) := (bd2_s h).trans (bd2_s h2)
theorem wCont {t : E} {body : Ss} {r : Fl × PS} (h : evB F n t st = some (true, st1)) (h2 : evSs F n body st1 = some (.cont, st2)) (h3 : evW F n t body st2 = some r) : evW F (n + 1) t body st = some r := (bd2_s h).trans ((bd2_s h2).trans h3)
end
end Mine.Internal
end
section
set_option genInjectivity false
open PySem PySem.W PyProof.Rows PySem.Calls
namespace Mine.Internal
structure More (F : Addr → Option Fn) (n : Nat) : Prop where
  e : ∀ {e st r}, evE F n e st = some r → evE F (n + 1) e st = some r
  es : ∀ {e st r}, evEs F n e st = some r → evEs F (n + 1) e st = some r
  b : ∀ {e st r}, evB F n e st = some r → evB F (n + 1) e st = some r
  i : ∀ {e st r}, evI F n e st = some r → evI F (n + 1) e st = some r
  k : ∀ {elt i t g src acc st r}, evK F n elt i t g src acc st = some r → evK F (n + 1) elt i t g src acc st = some r
  o : ∀ {t st r}, evO F n t st = some r → evO F (n + 1) t st = some r
  c : ∀ {a vs key st r}, evC F n a vs key st = some r → evC F (n + 1) a vs key st = some r
  s : ∀ {e st r}, evS F n e st = some r → evS F (n + 1) e st = some r
  ss : ∀ {e st r}, evSs F n e st = some r → evSs F (n + 1) e st = some r
  f : ∀ {i src body st r}, evF F n i src body st = some r → evF F (n + 1) i src body st = some r
  x : ∀ {i j ts body st r}, evX F n i j ts body st = some r → evX F (n + 1) i j ts body st = some r
  g : ∀ {i src body st r}, evG F n i src body st = some r → evG F (n + 1) i src body st = some r
  w : ∀ {t body st r}, evW F n t body st = some r → evW F (n + 1) t body st = some r
section
variable {α β : Type} {r : β}
theorem bd_m {x x' : Option α} {f f' : α → Option β} (h : bd x f = some r) (h1 : ∀ {a}, x = some a → x' = some a) (h2 : ∀ a, f a = some r → f' a = some r) : bd x' f' = some r := by
  cases x with
  | none => cases h
  | some a => rw [h1 rfl]; exact h2 a h
theorem bd2_m {x x' : Option (α × PS)} {f f' : α → PS → Option β} (h : bd2 x f = some r) (h1 : ∀ {a}, x = some a → x' = some a) (h2 : ∀ a s, f a s = some r → f' a s = some r) : bd2 x' f' = some r := by
  cases x with
  | none => cases h
  | some a => rw [h1 rfl]; exact h2 a.1 a.2 h
theorem gd_m {p : Prop} [Decidable p] {x x' : Option β} (h : gd p x = some r) (h2 : x = some r → x' = some r) : gd p x' = some r := by
  unfold gd at h ⊢
  split at h
  · rename_i hp; rw [if_pos hp]; exact h2 h
  · cases h
theorem ifB_m {b : Bool} {x x' y y' : Option β} (h : ifB b x y = some r) (h1 : x = some r → x' = some r) (h2 : y = some r → y' = some r) : ifB b x' y' = some r := by
  cases b with
  | true => exact h1 h
  | false => exact h2 h
theorem bdI_m {x x' : Option (V × PS)} {f f' : Int → PS → Option β} (h : bdI x f = some r) (h1 : ∀ {a}, x = some a → x' = some a) (h2 : ∀ a s, f a s = some r → f' a s = some r) : bdI x' f' = some r := bd2_m h h1 fun v s h => bd_m h id fun i h => h2 i s h
theorem bdS_m {x x' : Option (V × PS)} {f f' : Str → PS → Option β} (h : bdS x f = some r) (h1 : ∀ {a}, x = some a → x' = some a) (h2 : ∀ a s, f a s = some r → f' a s = some r) : bdS x' f' = some r := bd2_m h h1 fun v s h => bd_m h id fun i h => h2 i s h
theorem bdB_m {x x' : Option (V × PS)} {f f' : Bool → PS → Option β} (h : bdB x f = some r) (h1 : ∀ {a}, x = some a → x' = some a) (h2 : ∀ a s, f a s = some r → f' a s = some r) : bdB x' f' = some r := bd2_m h h1 fun v s h => bd_m h id fun i h => h2 i s h
theorem onNext_m {f : Fl} {st : PS} {x x' : Option (Fl × PS)} {r : Fl × PS} (h : onNext f st x = some r) (h1 : x = some r → x' = some r) : onNext f st x' = some r := by
  cases f with
  | next => exact h1 h
  | brk => exact h
  | cont => exact h
  | ret v => exact h
end
section
variable {F : Addr → Option Fn} {n : Nat}
theorem more_e (M : More F n) {e : E} {st : PS} {r : V × PS} (h : evE F (n + 1) e st = some r) : evE F (n + 2) e st = some r := by
  cases e with
  | bin op a b => exact bd2_m h M.e fun x s h => bd2_m h M.e fun y s h => h
  | neg a => exact bdI_m h M.e fun x s h => h
  | cmp op a b => exact bd2_m h M.e fun x s h => bd2_m h M.e fun y s h => h
  | and a b => exact bdB_m h M.e fun p s h => ifB_m h M.e id
  | sub a b => exact bd2_m h M.e fun x s h => bd2_m h M.e fun y s h => h
  | take a k => exact bd2_m h M.e fun x s h => h
  | rev a => exact bd2_m h M.e fun x s h => h
  | sfrom a b => exact bdS_m h M.e fun x s h => bdI_m h M.e fun y s h => h
  | scut a b c => exact bdS_m h M.e fun x s h => bdI_m h M.e fun y s h => bdI_m h M.e fun z s h => h
  | list es => exact bd2_m h M.es fun x s h => h
  | len a => exact bd2_m h M.e fun x s h => h
  | sum a => exact bd2_m h M.e fun x s h => h
  | min a b => exact bdI_m h M.e fun x s h => bdI_m h M.e fun y s h => h
  | max a b => exact bdI_m h M.e fun x s h => bdI_m h M.e fun y s h => h
  | copy a => exact bd2_m h M.e fun x s h => h
  | pop a b => exact bd2_m h M.e fun x s h => bdI_m h M.e fun y s h => h
  | replace a x y => exact bdS_m h M.e fun x s h => h
  | join x a => exact bd2_m h M.e fun x s h => h
  | call a es => exact bd2_m h M.es fun x s h => M.c h
  | callKey a es k => exact bd2_m h M.es fun x s h => bd2_m h M.e fun y s h => M.c h
  | callVar i e => exact bd_m h id fun w h => bd_m h id fun a h => bd2_m h M.e fun v s h => M.c h
  | frz a => exact bd2_m h M.e fun x s h => h
  | comp m caps elt i it t g => exact bd2_m h M.i fun src s h => bd_m h M.k fun s h => h
  | _ => exact h
theorem more_es (M : More F n) {e : Es} {st : PS} {r : List V × PS} (h : evEs F (n + 1) e st = some r) : evEs F (n + 2) e st = some r := by
  cases e with
  | nil => exact h
  | cons e l => exact bd2_m h M.e fun x s h => bd2_m h M.es fun y s h => h
theorem more_b (M : More F n) {e : E} {st : PS} {r : Bool × PS} (h : evB F (n + 1) e st = some r) : evB F (n + 2) e st = some r := by
  cases e with
  | cmp op a b => exact bd2_m h M.e fun x s h => bd2_m h M.e fun y s h => h
  | not a => exact bd2_m h M.b fun x s h => h
  | and a b => exact bd2_m h M.b fun p s h => ifB_m h M.b id
  | or a b => exact bd2_m h M.b fun p s h => ifB_m h id M.b
  | call a es => exact bdB_m h M.e fun x s h => h
  | _ => exact h
theorem more_i (M : More F n) {e : It} {st : PS} {r : Src × PS} (h : evI F (n + 1) e st = some r) : evI F (n + 2) e st = some r := by
  cases e with
  | list e => exact bd2_m h M.e fun x s h => h
  | range1 a => exact bdI_m h M.e fun x s h => h
  | range2 a b => exact bdI_m h M.e fun x s h => bdI_m h M.e fun y s h => h
  | range3 a b c => exact bdI_m h M.e fun x s h => bdI_m h M.e fun y s h => bdI_m h M.e fun z s h => h
theorem more_o (M : More F n) {t : Op} {st : PS} {r : Bool × PS} (h : evO F (n + 1) t st = some r) : evO F (n + 2) t st = some r := by
  cases t with
  | no => exact h
  | yes e => exact M.b h
theorem more_k (M : More F n) {elt : E} {i : Nat} {t : Op} {g : Gs} {src : Src} {acc : Nat} {st r : PS} (h : evK F (n + 1) elt i t g src acc st = some r) : evK F (n + 2) elt i t g src acc st = some r := by
  refine bd_m (x := src.next st) h id fun nx h => ?_
  cases nx with
  | none => exact h
  | some p =>
    obtain ⟨v, src'⟩ := p
    refine bd_m (x := setVar st i v) h id fun s1 h => bd2_m h M.o fun p s2 h => ifB_m h (fun h => ?_) M.k
    cases g with
    | nil => exact bd2_m (x := evE F n elt s2) h M.e fun x s3 h => bd_m h id fun s4 h => M.k h
    | cons i' it' t' g' => exact bd2_m (x := evI F n it' s2) h M.i fun x s3 h => bd_m h M.k fun s4 h => M.k h
theorem outOf_more (M : More F n) {b : Ss} {st : PS} {m : Nat} {r : V × PS} (h : outOf m (evSs F n b st) = some r) : outOf m (evSs F (n + 1) b st) = some r := bd2_m h M.ss fun _ _ h => h
theorem more_c (M : More F n) {a : Addr} {vs : List V} {key : Option V} {st : PS} {r : V × PS} (h : evC F (n + 1) a vs key st = some r) : evC F (n + 2) a vs key st = some r := by
  refine bd_m (x := F a) h id fun f h => bd_m (x := f.bind vs key) h id fun ws h => ?_
  have h : callOf f ws st (evSs F n f.body) = some r := h
  show callOf f ws st (evSs F (n + 1) f.body) = some r
  delta callOf at h ⊢
  exact ifB_m h id fun h => ifB_m h (fun h => bd2_m h (outOf_more M) fun _ _ h => h) fun h => bd2_m h (outOf_more M) fun _ _ h => h
theorem more_s (M : More F n) {e : S} {st : PS} {r : Fl × PS} (h : evS F (n + 1) e st = some r) : evS F (n + 2) e st = some r := by
  cases e with
  | assign i e => exact bd2_m h M.e fun x s h => h
  | setItem a i e => exact bd2_m h M.e fun x s h => bd2_m h M.e fun y s h => bdI_m h M.e fun z s h => h
  | aug i op e => exact bd_m h id fun u h => bd_m h id fun x h => bdI_m h M.e fun y s h => h
  | «for» i it body => exact bd2_m h M.i fun x s h => M.f h
  | forEsc i j e body => exact bdS_m h M.e fun x s h => gd_m h M.x
  | forGrp i e body => exact bd2_m (x := evE F n e st) h M.e fun v s h => bd_m h id fun l h => bd_m h id fun is h => M.g h
  | «while» t body => exact M.w h
  | ite t a b => exact bd2_m h M.b fun p s h => ifB_m h M.ss M.ss
  | ret e => exact bd2_m h M.e fun x s h => h
  | append a e => exact bd2_m h M.e fun x s h => bd2_m h M.e fun y s h => h
  | insert a i e => exact bd2_m h M.e fun x s h => bdI_m h M.e fun y s h => bd2_m h M.e fun z s h => h
  | _ => exact h
theorem more_ss (M : More F n) {e : Ss} {st : PS} {r : Fl × PS} (h : evSs F (n + 1) e st = some r) : evSs F (n + 2) e st = some r := by
  cases e with
  | cons x l => exact bd2_m h M.s fun f s h => onNext_m h M.ss
  | _ => exact h
theorem loopOn_m {f : Fl} {st : PS} {x x' : Option (Fl × PS)} {r : Fl × PS} (h : loopOn f st x = some r) (h1 : x = some r → x' = some r) : loopOn f st x' = some r := by
  cases f with
  | next => exact h1 h
  | brk => exact h
  | cont => exact h1 h
  | ret v => exact h
theorem more_f (M : More F n) {i : Nat} {src : Src} {body : Ss} {st : PS} {r : Fl × PS} (h : evF F (n + 1) i src body st = some r) : evF F (n + 2) i src body st = some r := by
  refine bd_m (x := src.next st) h id fun nx h => ?_
  cases nx with
  | none => exact h
  | some p => exact bd_m (x := setVar st i p.1) h id fun s1 h => bd2_m h M.ss fun f s h => loopOn_m h M.f
theorem more_x (M : More F n) {i j : Nat} {ts : List (Int × Str)} {body : Ss} {st : PS} {r : Fl × PS} (h : evX F (n + 1) i j ts body st = some r) : evX F (n + 2) i j ts body st = some r := by
  cases ts with
  | nil => exact h
  | cons p ts => exact bd_m (x := setVar st i (.d (.int p.1))) h id fun s0 h => bd_m (x := setVar s0 j (.d (.str p.2))) h id fun s1 h => bd2_m h M.ss fun f s h => loopOn_m h M.x
theorem more_g (M : More F n) {i : Nat} {src : Grp} {body : Ss} {st : PS} {r : Fl × PS} (h : evG F (n + 1) i src body st = some r) : evG F (n + 2) i src body st = some r := by
  refine bd_m (x := src.next) h id fun nx h => ?_
  cases nx with
  | none => exact h
  | some p => exact bd_m (x := setVar st i (.d (.int p.1))) h id fun s1 h => bd2_m h M.ss fun f s h => loopOn_m h M.g
theorem more_w (M : More F n) {t : E} {body : Ss} {st : PS} {r : Fl × PS} (h : evW F (n + 1) t body st = some r) : evW F (n + 2) t body st = some r :=
  bd2_m (x := evB F n t st) h M.b fun p s h => ifB_m h (fun h => bd2_m h M.ss fun f s h => loopOn_m h M.w) id
theorem more : ∀ n, More F n
  | 0 => ⟨fun h => (nomatch (show (Option.none : Option (V × PS)) = some _ from h)), fun h => (nomatch (show (Option.none : Option (List V × PS)) = some _ from h)), fun h => (nomatch (show (Option.none : Option (Bool × PS)) = some _ from h)),
      fun h => (nomatch (show (Option.none : Option (Src × PS)) = some _ from h)), fun h => (nomatch (show (Option.none : Option PS) = some _ from h)), fun h => (nomatch (show (Option.none : Option (Bool × PS)) = some _ from h)), fun h => (nomatch (show (Option.none : Option (V × PS)) = some _ from h)),
      fun h => (nomatch (show (Option.none : Option (Fl × PS)) = some _ from h)), fun h => (nomatch (show (Option.none : Option (Fl × PS)) = some _ from h)), fun h => (nomatch (show (Option.none : Option (Fl × PS)) = some _ from h)), fun h => (nomatch (show (Option.none : Option (Fl × PS)) = some _ from h)),
      fun h => (nomatch (show (Option.none : Option (Fl × PS)) = some _ from h)), fun h => (nomatch (show (Option.none : Option (Fl × PS)) = some _ from h))⟩
  | n + 1 => have M := more n
    ⟨more_e M, more_es M, more_b M, more_i M, more_k M, more_o M, more_c M, more_s M, more_ss M, more_f M, more_x M, more_g M, more_w M⟩
theorem upE {m n : Nat} {e : E} {st : PS} {r : V × PS} (hm : m ≤ n) (h : evE F m e st = some r) : evE F n e st = some r := by
  induction hm with
  | refl => exact h
  | step _ ih => exact (more _).e ih
theorem upSs {m n : Nat} {e : Ss} {st : PS} {r : Fl × PS} (hm : m ≤ n) (h : evSs F m e st = some r) : evSs F n e st = some r := by
  induction hm with
  | refl => exact h
  | step _ ih => exact (more _).ss ih
theorem upC {m n : Nat} {a : Addr} {vs : List V} {key : Option V} {st : PS} {r : V × PS} (hm : m ≤ n) (h : evC F m a vs key st = some r) : evC F n a vs key st = some r := by
  induction hm with
  | refl => exact h
  | step _ ih => exact (more _).c ih
theorem upB {m n : Nat} {e : E} {st : PS} {r : Bool × PS} (hm : m ≤ n) (h : evB F m e st = some r) : evB F n e st = some r := by
  induction hm with
  | refl => exact h
  | step _ ih => exact (more _).b ih
theorem upK {m n : Nat} {elt : E} {i : Nat} {t : Op} {g : Gs} {src : Src} {acc : Nat} {st r : PS} (hm : m ≤ n) (h : evK F m elt i t g src acc st = some r) : evK F n elt i t g src acc st = some r := by
  induction hm with
  | refl => exact h
  | step _ ih => exact (more _).k ih
theorem upF {m n : Nat} {i : Nat} {src : Src} {body : Ss} {st : PS} {r : Fl × PS} (hm : m ≤ n) (h : evF F m i src body st = some r) : evF F n i src body st = some r := by
  induction hm with
  | refl => exact h
  | step _ ih => exact (more _).f ih
theorem upW {m n : Nat} {t : E} {body : Ss} {st : PS} {r : Fl × PS} (hm : m ≤ n) (h : evW F m t body st = some r) : evW F n t body st = some r := by
  induction hm with
  | refl => exact h
  | step _ ih => exact (more _).w ih
theorem upX {m n : Nat} {i j : Nat} {ts : List (Int × Str)} {body : Ss} {st : PS} {r : Fl × PS} (hm : m ≤ n) (h : evX F m i j ts body st = some r) : evX F n i j ts body st = some r := by
  induction hm with
  | refl => exact h
  | step _ ih => exact (more _).x ih
end
end Mine.Internal
end
section
set_option genInjectivity false
open PySem PySem.W PyProof.Rows PySem.Calls
namespace Mine.Internal
noncomputable def dI (i : Int) : V := .d (.int i)
section
variable {F : Addr → Option Fn} {n : Nat} {st st1 st2 : PS}
theorem oAdd {x y : Int} : ofBin .Add (.d (.int x)) (.d (.int y)) st = some (.d (.int (x + y)), st) := rfl
theorem oSubt {x y : Int} : ofBin .Sub (.d (.int x)) (.d (.int y)) st = some (.d (.int (x - y)), st) := rfl
theorem oMod {x y : Int} (h : y ≠ 0) : ofBin .Mod (.d (.int x)) (.d (.int y)) st = some (.d (.int (x.fmod y)), st) := if_pos h
theorem oDiv {x y : Int} (h : y ≠ 0) (h2 : y.natAbs ≤ 1000) : ofBin .FloorDiv (.d (.int x)) (.d (.int y)) st = some (.d (.int (x.fdiv y)), st) := if_pos ⟨h, h2⟩
theorem lLt {x y : Int} : ofCmp .Lt (.d (.int x)) (.d (.int y)) st = some (decide (x < y)) := rfl
theorem lEq {x y : Int} : ofCmp .Eq (.d (.int x)) (.d (.int y)) st = some (x == y) := rfl
theorem subOf {a v : V} {i : Nat} {l : List V} (hl : items st a = some l) (hi : l[i]? = some v) (h : i < 1000) : ofSub a (.d (.int i)) st = some v := by
  have h1 : (0 : Int) ≤ (i : Int) ∧ (i : Int) < 1000 := by first | lia | omega
  rw [ofSub_s h1 hl, Int.toNat_natCast, hi]
theorem oAddL {m : Nat} {b : V} {x y : List V} (h1 : st.own[m]? = some x) (h2 : items st b = some y) (h3 : x.length + y.length ≤ 1000) : ofBin .Add (.ref m) b st = some (.ref st.own.length, { st with own := st.own ++ [x ++ y] }) := by
  show bd (items st (.ref m)) (fun x => bd (items st b) fun y => gd (x.length + y.length ≤ 1000) (some (V.ref st.own.length, { st with own := st.own ++ [x ++ y] }))) = _
  rw [bd_s (x := items st (.ref m)) h1, bd_s h2, gd_s h3]
theorem setVar_at {i : Nat} {v : V} (h : i < st.vars.length) : setVar st i v = some { st with vars := st.vars.set i (some v) } := if_pos h
noncomputable def bis (lt : Nat → Bool) : Nat → Nat → Nat → Nat
  | 0, lo, _ => lo
  | n + 1, lo, hi => if lo < hi then (if lt ((lo + hi) / 2) then bis lt n lo ((lo + hi) / 2) else bis lt n ((lo + hi) / 2 + 1) hi) else lo
noncomputable def bisTest : E := .cmp .Lt (.var 2) (.var 3)
noncomputable def bisBody : Ss := .cons (.assign 5 (.bin .FloorDiv (.bin .Add (.var 2) (.var 3)) (.int 2))) (.cons (.ite (.cmp .Lt (.var 1) (.callVar 4 (.sub (.var 0) (.var 5)))) (.cons (.assign 3 (.var 5)) .nil) (.cons (.assign 2 (.bin .Add (.var 5) (.int 1))) .nil)) .nil)
theorem fdiv2 (a : Nat) : ((a : Int)).fdiv 2 = ((a / 2 : Nat) : Int) := by
  rw [Int.fdiv_eq_ediv_of_nonneg _ (by first | lia | omega)]; (first | lia | omega)
theorem bis_u {lt : Nat → Bool} {n lo hi : Nat} : bis lt (n + 1) lo hi = if lo < hi then (if lt ((lo + hi) / 2) then bis lt n lo ((lo + hi) / 2) else bis lt n ((lo + hi) / 2 + 1) hi) else lo := rfl
theorem bis_t {lt : Nat → Bool} {n lo hi : Nat} (h : lo < hi) (q : lt ((lo + hi) / 2) = true) : bis lt (n + 1) lo hi = bis lt n lo ((lo + hi) / 2) := (if_pos h).trans (if_pos q)
theorem bis_f {lt : Nat → Bool} {n lo hi : Nat} (h : lo < hi) (q : lt ((lo + hi) / 2) = false) : bis lt (n + 1) lo hi = bis lt n ((lo + hi) / 2 + 1) hi := (if_pos h).trans (if_neg (by rw [q]; exact Bool.false_ne_true))
theorem bis_e {lt : Nat → Bool} {n lo hi : Nat} (h : ¬ lo < hi) : bis lt (n + 1) lo hi = lo := if_neg h
theorem mids {lo hi k : Nat} (h : lo < hi) (hk : hi - lo < k + 1) : (lo + hi) / 2 < hi ∧ (lo + hi) / 2 - lo < k ∧ hi - ((lo + hi) / 2 + 1) < k := by
  have h1 : (lo + hi) / 2 < hi := (Nat.div_lt_iff_lt_mul (by decide)).mpr (by rw [Nat.mul_two]; exact Nat.add_lt_add_right h hi)
  have h2 : lo ≤ (lo + hi) / 2 := (Nat.le_div_iff_mul_le (by decide)).mpr (by rw [Nat.mul_two]; exact Nat.add_le_add_left (Nat.le_of_lt h) lo)
  generalize (lo + hi) / 2 = m at h1 h2 ⊢
  exact ⟨h1, Nat.lt_of_lt_of_le (Nat.sub_lt_sub_right h2 h1) (Nat.le_of_lt_succ hk), Nat.lt_of_lt_of_le (Nat.sub_lt_sub_left h (Nat.lt_succ_of_le h2)) (Nat.le_of_lt_succ hk)⟩
theorem fdiv_mid (lo hi : Nat) : ((lo : Int) + (hi : Int)).fdiv 2 = (((lo + hi) / 2 : Nat) : Int) := by rw [← fdiv2, Int.natCast_add]
noncomputable def bS (a x : V) (fa : Addr) (own : List (List V)) (lo : Nat) (hi y : Option V) : PS := ⟨[some a, some x, some (.d (.int lo)), hi, some (.d (.fn fa)), y], own⟩
theorem bis_turn {a x v w : V} {fa : Addr} {own : List (List V)} {l : List V} {lt : Nat → Bool} {m n lo hi : Nat} {y : Option V} (hl : ∀ vs, items ⟨vs, own⟩ a = some l) (hv : l[(lo + hi) / 2]? = some v) (hm : (lo + hi) / 2 < 1000)
    (hw : evC F m fa [v] .none (bS a x fa own lo (some (.d (.int hi))) (some (.d (.int (((lo + hi) / 2 : Nat) : Int))))) = some (w, bS a x fa own lo (some (.d (.int hi))) (some (.d (.int (((lo + hi) / 2 : Nat) : Int))))))
    (hc : ofCmp .Lt x w (bS a x fa own lo (some (.d (.int hi))) (some (.d (.int (((lo + hi) / 2 : Nat) : Int))))) = some (lt ((lo + hi) / 2))) :
    (lt ((lo + hi) / 2) = true → evSs F (n + m + 7) bisBody (bS a x fa own lo (some (.d (.int hi))) y) = some (.next, bS a x fa own lo (some (.d (.int (((lo + hi) / 2 : Nat) : Int)))) (some (.d (.int (((lo + hi) / 2 : Nat) : Int)))))) ∧
    (lt ((lo + hi) / 2) = false → evSs F (n + m + 7) bisBody (bS a x fa own lo (some (.d (.int hi))) y) = some (.next, bS a x fa own ((lo + hi) / 2 + 1) (some (.d (.int hi))) (some (.d (.int (((lo + hi) / 2 : Nat) : Int)))))) := by
  have s1 : evS F (n + m + 6) (.assign 5 (.bin .FloorDiv (.bin .Add (.var 2) (.var 3)) (.int 2))) (bS a x fa own lo (some (.d (.int hi))) y) = some (.next, bS a x fa own lo (some (.d (.int hi))) (some (.d (.int (((lo + hi) / 2 : Nat) : Int))))) :=
    sAssign (xBin (xBin (xVar rfl) (xVar rfl) oAdd) xInt (oDiv (by decide) (by decide))) (by rw [fdiv_mid]; rfl)
  have half : evB F (n + m + 4) (.cmp .Lt (.var 1) (.callVar 4 (.sub (.var 0) (.var 5)))) (bS a x fa own lo (some (.d (.int hi))) (some (.d (.int (((lo + hi) / 2 : Nat) : Int))))) = some (lt ((lo + hi) / 2), bS a x fa own lo (some (.d (.int hi))) (some (.d (.int (((lo + hi) / 2 : Nat) : Int))))) :=
    yCmp (xVar rfl) (xCallVar rfl (xSub (xVar rfl) (xVar rfl) (subOf (hl _) hv hm)) (upC (Nat.le_trans (Nat.le_add_left m n) (Nat.le_add_right _ 2)) hw)) hc
  refine ⟨fun hq => ?_, fun hq => ?_⟩
  · rw [hq] at half
    exact zCons s1 (zCons (sIteT half (zCons (sAssign (xVar rfl) rfl) zNil)) zNil)
  · rw [hq] at half
    exact zCons s1 (zCons (sIteF half (zCons (sAssign (xBin (xVar rfl) xInt oAdd) rfl) zNil)) zNil)
theorem bis_loop {a x : V} {fa : Addr} {own : List (List V)} {l : List V} {lt : Nat → Bool} {m : Nat} (hl : ∀ vs, items ⟨vs, own⟩ a = some l) (hlen : l.length < 900)
    (hk : ∀ (i : Nat) v vs, l[i]? = some v → ∃ w, evC F m fa [v] .none ⟨vs, own⟩ = some (w, ⟨vs, own⟩) ∧ ofCmp .Lt x w ⟨vs, own⟩ = some (lt i)) :
    ∀ (k lo hi : Nat) (y : Option V), hi - lo < k → hi ≤ l.length → ∃ hi' y', evW F (k + m + 7) bisTest bisBody (bS a x fa own lo (some (.d (.int hi))) y) = some (.next, bS a x fa own (bis lt k lo hi) hi' y')
  | 0, lo, hi, y, h, _ => absurd h (Nat.not_lt_zero _)
  | k + 1, lo, hi, y, h, hh => by
    rw [show k + 1 + m + 7 = (k + m + 7) + 1 by omega]
    have test : evB F (k + m + 7) bisTest (bS a x fa own lo (some (.d (.int hi))) y) = some (decide ((lo : Int) < (hi : Int)), bS a x fa own lo (some (.d (.int hi))) y) := yCmp (xVar rfl) (xVar rfl) lLt
    by_cases hlt : lo < hi
    · rw [decide_eq_true (Int.ofNat_lt.mpr hlt)] at test
      obtain ⟨m1, m2, m3⟩ := mids hlt h
      have hm := Nat.lt_of_lt_of_le m1 hh
      obtain ⟨w, hw, hc⟩ := hk _ _ _ (List.getElem?_eq_getElem hm)
      have tn := bis_turn (n := k) (y := y) hl (List.getElem?_eq_getElem hm) (Nat.lt_trans hm (Nat.lt_trans hlen (by decide))) hw hc
      clear hw hc
      cases hq : lt ((lo + hi) / 2) with
      | true =>
        obtain ⟨hi', y', ih⟩ := bis_loop hl hlen hk k lo ((lo + hi) / 2) (some (.d (.int (((lo + hi) / 2 : Nat) : Int)))) m2 (Nat.le_of_lt hm)
        rw [bis_t hlt hq]
        exact ⟨hi', y', wNext test (tn.1 hq) ih⟩
      | false =>
        obtain ⟨hi', y', ih⟩ := bis_loop hl hlen hk k ((lo + hi) / 2 + 1) hi (some (.d (.int (((lo + hi) / 2 : Nat) : Int)))) m3 hh
        rw [bis_f hlt hq]
        exact ⟨hi', y', wNext test (tn.2 hq) ih⟩
    · rw [decide_eq_false (fun q => hlt (Int.ofNat_lt.mp q))] at test
      rw [bis_e hlt]
      exact ⟨some (.d (.int hi)), y, wEnd test⟩
theorem bis_call {j fa : Addr} {x : V} {st : PS} {l : List V} {lt : Nat → Bool} {m : Nat} {vs : List V} (h32 : F 32 = some bisectF) (hvs : vs = [.ref j, x] ∨ vs = [.ref j, x, .d (.int 0), .d .none]) (hl : st.own[j]? = some l) (hlen : l.length < 900)
    (hk : ∀ (i : Nat) v ws, l[i]? = some v → ∃ w, evC F m fa [v] .none ⟨ws, st.own⟩ = some (w, ⟨ws, st.own⟩) ∧ ofCmp .Lt x w ⟨ws, st.own⟩ = some (lt i)) :
    evC F (l.length + m + 20) 32 vs (some (.d (.fn fa))) st = some (.d (.int (bis lt (l.length + 1) 0 l.length)), st) := by
  obtain ⟨hi', y', hw⟩ := bis_loop (F := F) (a := .ref j) (x := x) (own := st.own) (lt := lt) (m := m) (fun _ => hl) hlen hk (l.length + 1) 0 l.length .none (by first | lia | omega) (Nat.le_refl _)
  have hb : bisectF.bind vs (some (.d (.fn fa))) = some [.ref j, x, .d (.int 0), .d .none, .d (.fn fa)] := by
    rcases hvs with rfl | rfl <;> rfl
  refine (cRef (st1 := ⟨[], st.own⟩) h32 hb rfl rfl ?_ : _)
  have run : evSs F (l.length + m + 19) bisectB ⟨[some (.ref j), some x, some (.d (.int 0)), some (.d .none), some (.d (.fn fa)), .none], st.own⟩ =
      some (.ret (.d (.int (bis lt (l.length + 1) 0 l.length))), ⟨[some (.ref j), some x, some (.d (.int (bis lt (l.length + 1) 0 l.length))), hi', some (.d (.fn fa)), y'], st.own⟩) := by
    refine zCons (sIteF (yCmp (xVar rfl) xInt lLt) zNil) ?_
    refine zCons (sIteT (yCmp (xVar rfl) xNone rfl) (zCons (sAssign (xLenR (xVar rfl) hl (by first | lia | omega)) rfl) zNil)) ?_
    refine zCons (sIteF (yCmp (xVar rfl) xNone rfl) (zCons (sWhile (upW (by first | lia | omega) hw)) zNil)) ?_
    exact zRet (sRet (xVar rfl))
  have e : evSs F (l.length + m + 19) bisectF.body ⟨List.map some [.ref j, x, .d (.int 0), .d .none, .d (.fn fa)] ++ List.map some bisectF.cap ++ List.replicate bisectF.nv .none, st.own⟩ = _ := run
  rw [e]
  exact out_d
end
end Mine.Internal
end
section
set_option genInjectivity false
open PySem PySem.W PyProof.Rows PySem.Calls
namespace Mine.Internal
set_option maxRecDepth 100000
noncomputable def lamF (z : List Int) : Fn := ⟨1, [], false, 0, [.d (.list (z.map D.int))], false, .cons (.ret (.neg (.sub (.var 1) (.var 0)))) .nil⟩
theorem bis_le (lt : Nat → Bool) : ∀ (n lo hi : Nat), lo ≤ hi → bis lt n lo hi ≤ hi
  | 0, lo, hi, h => h
  | n + 1, lo, hi, h => by
    by_cases h1 : lo < hi
    · cases h2 : lt ((lo + hi) / 2) with
      | true => rw [bis_t h1 h2]; exact Nat.le_trans (bis_le lt n _ _ (by omega)) (by omega)
      | false => rw [bis_f h1 h2]; exact bis_le lt n _ _ (by omega)
    · rw [bis_e h1]; exact h
theorem map_insertIdx' {α β : Type} (f : α → β) : ∀ (l : List α) (i : Nat) (x : α), (l.insertIdx i x).map f = (l.map f).insertIdx i (f x)
  | l, 0, x => by simp
  | [], i + 1, x => by simp
  | a :: l, i + 1, x => by simp [map_insertIdx' f l i x]
noncomputable def insLt (z l : List Int) (b : Int) (i : Nat) : Bool := match l[i]? with
  | some x => (match z[x.toNat]? with
    | some a => decide (-b < -a)
    | .none => false)
  | .none => false
section
variable {F : Addr → Option Fn}
theorem lam_ev {lam : Addr} {z : List Int} (hl : F lam = some (lamF z)) {k b : Int} (hk : 0 ≤ k ∧ k < 1000) (hb : z[k.toNat]? = some b) (n : Nat) (st : PS) : evC F (n + 8) lam [.d (.int k)] .none st = some (.d (.int (-b)), st) := by
  have run : evSs F (n + 7) (lamF z).body ⟨[some (.d (.int k)), some (.d (.list (z.map D.int)))], []⟩ = some (.ret (.d (.int (-b))), ⟨[some (.d (.int k)), some (.d (.list (z.map D.int)))], []⟩) := by
    refine zRet (sRet (xNeg (xSub (xVar rfl) (xVar rfl) (v := .d (.int b)) ?_)))
    rw [ofSub_s hk rfl, List.getElem?_map, List.getElem?_map, hb]; rfl
  refine cData (st' := ⟨[], []⟩) hl rfl rfl rfl ?_
  have e : evSs F (n + 7) (lamF z).body ⟨List.map some [.d (.int k)] ++ List.map some (lamF z).cap ++ List.replicate (lamF z).nv .none, []⟩ = _ := run
  rw [e]
  exact out_d (own := [])
theorem insort_ev {lam : Addr} {z : List Int} (h23 : F 23 = some insortF) (h32 : F 32 = some bisectF) (hl : F lam = some (lamF z)) {k : Int} {l r : List Int} (h : laidIn z k l = some r) :
    evC F 60 23 [.ref 0, .d (.int k)] (some (.d (.fn lam))) ⟨[], [l.map dI]⟩ = some (.d .none, ⟨[], [r.map dI]⟩) := by
  refine gd_c h fun hc h => ?_
  · obtain ⟨h1, h2, h3, h4, h5⟩ := hc
    obtain ⟨b, hb⟩ : ∃ b, z[k.toNat]? = some b := ⟨_, List.getElem?_eq_getElem (by first | lia | omega)⟩
    have hz : ∀ x ∈ l, ∃ a, z[x.toNat]? = some a := fun x hx => by
      rw [List.all_eq_true] at h5
      have := h5 x hx
      simp only [decide_eq_true_eq] at this
      exact ⟨_, List.getElem?_eq_getElem (by first | lia | omega)⟩
    have hx : ∀ x ∈ l, 0 ≤ x ∧ x < 1000 := fun x hx => by
      rw [List.all_eq_true] at h5
      have := h5 x hx
      simp only [decide_eq_true_eq] at this
      (first | lia | omega)
    have hkey := lam_ev hl (k := k) (b := b) (by first | lia | omega) hb
    have hbis : evC F 40 32 [.ref 0, .d (.int (-b)), .d (.int 0), .d .none] (some (.d (.fn lam))) ⟨[some (.ref 0), some (.d (.int k)), some (.d (.int 0)), some (.d .none), some (.d (.fn lam))], [l.map dI]⟩ = some (.d (.int (bis (insLt z l b) (l.length + 1) 0 l.length)), ⟨[some (.ref 0), some (.d (.int k)), some (.d (.int 0)), some (.d .none), some (.d (.fn lam))], [l.map dI]⟩) := by
      refine upC (m := (l.map dI).length + 8 + 20) (by simp; (first | lia | omega)) ?_
      have q := bis_call (F := F) (j := 0) (fa := lam) (x := .d (.int (-b))) (st := ⟨[some (.ref 0), some (.d (.int k)), some (.d (.int 0)), some (.d .none), some (.d (.fn lam))], [l.map dI]⟩) (l := l.map dI) (lt := insLt z l b) (m := 8) h32 (.inr rfl) rfl (by simp; (first | lia | omega)) (fun i v ws hi => by
        rw [List.getElem?_map] at hi
        cases q : l[i]? with
        | none => rw [q] at hi; cases hi
        | some x =>
          rw [q] at hi
          cases hi
          have hm := List.mem_of_getElem? q
          obtain ⟨a, ha⟩ := hz x hm
          refine ⟨_, lam_ev hl (hx x hm) ha 0 _, ?_⟩
          simp only [lLt, insLt, q, ha])
      simpa using q
    have hp : place z k l = some (bis (insLt z l b) (l.length + 1) 0 l.length) := by
      clear hbis hkey
      rcases l with _ | ⟨x, _ | ⟨y, _ | ⟨w, l⟩⟩⟩
      · exact bd_s hb
      · obtain ⟨a, ha⟩ := hz x (.head _)
        refine (bd_s hb).trans ((bd_s ha).trans ?_)
        simp [bis_u, insLt, ha]
      · obtain ⟨a, ha⟩ := hz x (.head _)
        obtain ⟨a', ha'⟩ := hz y (.tail _ (.head _))
        refine (bd_s hb).trans ((bd_s ha).trans ((bd_s ha').trans ?_))
        simp [bis_u, insLt, ha, ha']
      · exact absurd h1 (Nat.not_le.mpr (Nat.le_add_left 3 _))
    rw [hp] at h
    cases h
    refine cRef (st1 := ⟨[], [(l.insertIdx (bis (insLt z l b) (l.length + 1) 0 l.length) k).map dI]⟩) h23 (ws := [.ref 0, .d (.int k), .d (.int 0), .d .none, .d (.fn lam)]) rfl rfl rfl ?_
    have run : evSs F 59 insortB ⟨[some (.ref 0), some (.d (.int k)), some (.d (.int 0)), some (.d .none), some (.d (.fn lam))], [l.map dI]⟩ =
        some (.next, ⟨[some (.ref 0), some (.d (.int k)), some (.d (.int (bis (insLt z l b) (l.length + 1) 0 l.length))), some (.d .none), some (.d (.fn lam))], [(l.insertIdx (bis (insLt z l b) (l.length + 1) 0 l.length) k).map dI]⟩) := by
      refine zCons (sIteF (yCmp (xVar rfl) xNone rfl) (zCons (sAssign (xCallKey (xCons (xVar rfl) (xCons (xCallVar rfl (xVar rfl) (upC (by first | lia | omega) (hkey 0 _))) (xCons (xVar rfl) (xCons (xVar rfl) xNil)))) (xVar rfl) (upC (by first | lia | omega) hbis)) rfl) zNil)) ?_
      refine zCons (sInsert (xVar rfl) (xVar rfl) (xVar rfl) ?_) zNil
      have hle := bis_le (insLt z l b) (l.length + 1) 0 l.length (Nat.zero_le _)
      have hc : (0 : Int) ≤ (bis (insLt z l b) (l.length + 1) 0 l.length : Nat) ∧ ((bis (insLt z l b) (l.length + 1) 0 l.length : Nat) : Int) ≤ ((l.map dI).length : Nat) ∧ (l.map dI).length < 1000 := by
        simp only [List.length_map]; (first | lia | omega)
      refine (setOwn_s rfl (if_pos hc)).trans ?_
      rw [map_insertIdx']; rfl
    have e : evSs F 59 insortF.body ⟨List.map some [.ref 0, .d (.int k), .d (.int 0), .d .none, .d (.fn lam)] ++ List.map some insortF.cap ++ List.replicate insortF.nv .none, [l.map dI]⟩ = _ := run
    rw [e]
    exact out_n (own := [_])
end
end Mine.Internal
end
section
set_option genInjectivity false
open PySem PySem.W PyProof.Rows PySem.Calls
namespace Mine.Internal
section
variable {W : Wd} {c : Cx} {k : Nat} {st st1 st2 : PS} {τ τ' : Tau} {ls : List Loc} {s : Shared} {h h' : Heap}
theorem R.mutK (r : R W τ ls st s) {a : Addr} {n : Nat} {vs' : List Value} {ep' t : Nat} {l' : List V} {h' : Heap} (hn : τ a = .own n) (hs : ∀ b o, b ≠ a → s.heap.get? b = some o → h'.get? b = some o)
    (ho : h'.get? a = some (LO vs' ep')) (hl : VRs τ s.heap l' vs') :
    R W τ ls { st with own := st.own.set n l' } { s with heap := h', toks := t } ∧ Ext τ s.heap τ h' := by
  have ne : ∀ b, τ b ≠ .own n → b ≠ a := fun b hb e => hb (e ▸ hn)
  have x : Ext τ s.heap τ h' := ⟨fun _ _ => rfl, fun b o e g => ⟨e, hs b o (ne b (by rw [e]; exact fun z => nomatch z)) g⟩⟩
  refine ⟨⟨r.ok, r.dr, r.os, r.gens, r.hgens, fun b o e => ?_, fun m l e => ?_, r.uniq, fun b m e => ?_, fun b o e => hs b o (ne b (by rw [e]; exact fun z => nomatch z)) (r.held b o e), fun b e => ?_, fun l hl => ?_, fun i v e => ?_, fun b e => ?_⟩, x⟩
  · have z := r.base b o e
    exact ⟨(x.keep b o z.2 z.1).2, z.2⟩
  · dsimp only at e
    by_cases hm : m = n
    · subst hm
      have hb := r.bound a m hn
      rw [List.getElem?_set_self hb] at e
      cases e
      exact ⟨a, vs', ep', hn, ho, hl.mono x⟩
    · rw [List.getElem?_set_ne (Ne.symm hm)] at e
      obtain ⟨b, us, ep, h1, h2, h3⟩ := r.own m l e
      have hb : b ≠ a := ne b (by rw [h1]; intro z; cases z; exact hm rfl)
      exact ⟨b, us, ep, h1, hs b _ hb h2, h3.mono x⟩
  · dsimp only
    rw [List.length_set]
    exact r.bound b m e
  · by_cases hb : b = a
    · exact ⟨_, hb ▸ ho⟩
    · obtain ⟨o, h1⟩ := r.alive b e
      exact ⟨o, hs b o hb h1⟩
  · have z := r.locs l hl
    exact z.keeps (fun _ => rfl) fun o e => hs _ o (ne _ (by rcases z.fix with q | q <;> rw [q] <;> exact fun q => nomatch q)) e
  · obtain ⟨loc, v', h1, h2, h3⟩ := r.vars i v e
    have z := r.locs loc (List.mem_of_getElem? h1)
    exact ⟨loc, v', h1, h2.keeps fun o e => hs _ o (ne _ (by rcases z.fix with q | q <;> rw [q] <;> exact fun q => nomatch q)) e, h3.mono x⟩
  · obtain ⟨o, h1, h2⟩ := r.fixed b e
    exact ⟨o, hs b o (ne b (by rw [e]; exact fun z => nomatch z)) h1, h2⟩
theorem R.claimHeld (r : R W τ ls st s) {C : Addr} {o : Obj} (hC : τ C = .none) (ho : s.heap.get? C = some o) (hd : ∀ xs n, o.data ≠ .seq xs n) (hb : ∀ o, ¬ W.B C o) (hl : ∀ l ∈ ls, l.at ≠ C) : R W (upd τ C (.held o)) ls st s := by
  have kx : ∀ a vs n, τ a = .none → s.heap.get? a = some (LO vs n) → upd τ C (.held o) a = .none ∧ s.heap.get? a = some (LO vs n) := fun a vs n e g => by
    have : a ≠ C := fun q => by subst q; rw [ho] at g; cases g; exact hd _ _ rfl
    exact ⟨(upd_ne this).trans e, g⟩
  have ne : ∀ b, τ b ≠ .none → b ≠ C := fun b e q => by subst q; exact e hC
  have ow : ∀ b n, τ b = .own n → upd τ C (.held o) b = .own n := fun b n e => (upd_ne (ne b (by rw [e]; exact fun z => nomatch z))).trans e
  have bk : ∀ b g, g ≠ .held o → upd τ C (.held o) b = g → τ b = g := fun b g hg e => by
    by_cases q : b = C
    · subst q; rw [upd_self] at e; exact absurd e.symm hg
    · rw [upd_ne q] at e; exact e
  have vk : ∀ {v rv}, VR τ s.heap v rv → VR (upd τ C (.held o)) s.heap v rv := fun {v rv} e => by
    cases v with
    | d z => exact DR.keepL kx e
    | ref n => obtain ⟨a, e1, e2⟩ := e; exact ⟨a, e1, ow a n e2⟩
  have vsk : ∀ {v rv}, VRs τ s.heap v rv → VRs (upd τ C (.held o)) s.heap v rv := fun {v rv} e => by
    induction e with
    | nil => exact .nil
    | cons a _ ih => exact .cons (vk a) ih
  refine ⟨r.ok, r.dr, r.os, r.gens, r.hgens, fun b u e => ?_, fun n l e => ?_, fun a b n e1 e2 => r.uniq a b n (bk a _ (by intro z; cases z) e1) (bk b _ (by intro z; cases z) e2), fun b n e => r.bound b n (bk b _ (by intro z; cases z) e), fun b u e => ?_, fun b e => ?_, fun l hm => ?_, fun i v e => ?_, fun b e => ?_⟩
  · have z := r.base b u e
    exact ⟨z.1, (upd_ne (fun q => by subst q; exact hb u e)).trans z.2⟩
  · obtain ⟨b, vs, ep, h1, h2, h3⟩ := r.own n l e
    exact ⟨b, vs, ep, ow b n h1, h2, vsk h3⟩
  · by_cases q : b = C
    · subst q; rw [upd_self] at e; cases e; exact ho
    · rw [upd_ne q] at e; exact r.held b u e
  · by_cases q : b = C
    · subst q; exact ⟨o, ho⟩
    · rw [upd_ne q] at e; exact r.alive b e
  · exact (r.locs l hm).keeps (fun _ => upd_ne (hl l hm)) fun _ e => e
  · obtain ⟨loc, v', h1, h2, h3⟩ := r.vars i v e
    exact ⟨loc, v', h1, h2, vk h3⟩
  · have := bk b _ (by intro z; cases z) e
    exact r.fixed b this
end
noncomputable def TabOk (q : Str) (p : Pos) (τ : Tau) (ps : Array Value) : Prop := TriplesOk ps.toList ∧ ∀ cv, codeAmong p ps.toList = some cv → ∃ c' oc vs t, cv = .ref c' ∧ τ c' = .held oc ∧ oc.data = .fields vs ∧ vs[1]? = some (.str q t)
noncomputable def JJ (q : Str) (p : Pos) (τ : Tau) : Prop := ∃ ps, τ 128 = .held (tabObj ps) ∧ TabOk q p τ ps
theorem JJ.cut {q : Str} {p : Pos} {τ : Tau} (j : JJ q p τ) (m : Nat) : JJ q p (Mine.Internal.cut τ m) := by
  obtain ⟨ps, h1, h2, h3⟩ := j
  refine ⟨ps, cut_held.mp h1, h2, fun cv e => ?_⟩
  obtain ⟨c', oc, vs, t, e1, e2, e3⟩ := h3 cv e
  exact ⟨c', oc, vs, t, e1, cut_held.mp e2, e3⟩
structure ExtJ (τ : Tau) (h : Heap) (τ' : Tau) (h' : Heap) : Prop where
  claim : ∀ a, a ≠ 128 → τ a ≠ .none → τ' a = τ a
  keep : ∀ a o, τ a = .none → h.get? a = some o → τ' a = .none ∧ h'.get? a = some o
theorem Ext.toJ {τ τ' : Tau} {h h' : Heap} (x : Ext τ h τ' h') : ExtJ τ h τ' h' := ⟨fun a _ e => x.claim a e, x.keep⟩
theorem ExtJ.trans {τ τ' τ'' : Tau} {h h' h'' : Heap} (x : ExtJ τ h τ' h') (y : ExtJ τ' h' τ'' h'') : ExtJ τ h τ'' h'' :=
  ⟨fun a ha e => (y.claim a ha (by rw [x.claim a ha e]; exact e)).trans (x.claim a ha e), fun a o e g => have z := x.keep a o e g; y.keep a o z.1 z.2⟩
theorem JJ.ext {q : Str} {p : Pos} {τ τ' : Tau} {h h' : Heap} (j : JJ q p τ) (x : Ext τ h τ' h') : JJ q p τ' := by
  obtain ⟨ps, h1, h2, h3⟩ := j
  refine ⟨ps, (x.claim 128 (by rw [h1]; exact fun z => nomatch z)).trans h1, h2, fun cv e => ?_⟩
  obtain ⟨c', oc, vs, t, e1, e2, e3⟩ := h3 cv e
  exact ⟨c', oc, vs, t, e1, (x.claim c' (by rw [e2]; exact fun z => nomatch z)).trans e2, e3⟩
theorem In.ofR {W : Wd} {τ : Tau} {ls : List Loc} {st : PS} {s : Shared} (r : R W τ ls st s) : (hd.heap_1 W.w.params).In s.heap := fun a o e => (r.base a o (.inl (r.ok.X a o e))).1
theorem lam_made {W : Wd} {A : Around} {τ : Tau} {ls : List Loc} {st : PS} {s : Shared} {env : Env} {params : Arguments} {body : Expr} {scope : Scope} {pos : Pos} {clos : List (Str × Addr)} {Q : Value → Shared → Prop} {E : Value → Shared → Prop}
    (R0 : R W τ ls st s) (ht : 0 < s.toks) (J : JJ (env.qual ++ "<lambda>") pos τ) (hdef : defaultsOf params env = ([], [])) (hcl : closureFor scope env = pure clos) (hge : env.globals = mainGlobals) (hcode : env.code = .ref 130)
    (hQ : ∀ τ' s' f c' pm ctv, 0 < s'.toks → ExtJ τ s.heap τ' s'.heap → R W τ' ls st s' → JJ (env.qual ++ "<lambda>") pos τ' → s'.heap.get? f = some (kla_obj "<lambda>" (env.qual ++ "<lambda>") params body scope clos pm c' ctv) → s.heap.get? f = none →
      s'.heap.CodeRec (.ref c') (env.qual ++ "<lambda>") → Q (.ref f) s') :
    wpAny (model pw W.w) A (eval (.Lambda params body scope pos) env) Q E s := by
  refine kla_eval hdef ?_
  obtain ⟨loose, mean, mg, mb, T⟩ := R0.ok.T
  have hk0 : ∀ b o, W.h₀.get? b = some o → s.heap.get? b = some o := fun b o e => (R0.base b o (.inl e)).1
  have hgs := T.g.keeps hk0
  have C : CodeHd s.heap 130 128 := codeHd_of_K (In.ofR R0) (tab_law _)
  obtain ⟨ps, h1, h2, h3⟩ := J
  have hP := R0.held 128 _ h1
  obtain ⟨bm, ob, b1, b2, b3, b4, b5, b6⟩ := T.bmain
  have hgP : mainGlobals ≠ 128 := fun q => by
    obtain ⟨o, es, ep, e, hd, _⟩ := hgs
    rw [q, hP] at e; cases e; cases hd
  have hbP : bm ≠ 128 := fun q => by
    have e := hk0 _ _ b3
    rw [q, hP] at e; cases e; cases b4
  have hbG : bm ≠ mainGlobals := fun q => by
    obtain ⟨o, es, ep, e, hd, _⟩ := T.g
    rw [q, e] at b3; cases b3; rw [hd] at b6; cases b6
  have hBA : s.heap.BuiltinsAt mg 128 := ⟨bm, ob, b1, b2, hbG, hbP, hk0 _ _ b3, b4, b5, b6⟩
  cases hnf : codeAmong pos ps.toList with
  | some cv =>
    obtain ⟨c', oc, vs, t, rfl, e2, e3, e4⟩ := h3 cv hnf
    refine wpAny_with_toks (n := 1) ht (kla_makeFunctionHit hcl hge hgs hcode C hP h2 hnf hBA fun ctv h' tk hk hsz htk => ?_)
    have z := R0.grow (h' := h'.push { cls := .type "function", data := .func (kla_fn "<lambda>" (env.qual ++ "<lambda>") params body scope clos ((mg "__name__").getD .none) (.ref c') ctv) }) (t := tk) fun b o e => Heap.get?_push_of_some _ (hk b o e)
    refine hQ τ _ h'.objs.size c' ((mg "__name__").getD .none) ctv htk z.2.toJ z.1 ⟨ps, h1, h2, h3⟩ (Heap.get?_push_size _ rfl) ?_ ⟨c', oc, vs, t, rfl, Heap.get?_push_of_some _ (hk _ _ (R0.held _ _ e2)), e3, e4⟩
    cases q : s.heap.get? h'.objs.size with
    | none => rfl
    | some o => exact absurd (Heap.lt_size (hk _ _ q)) (Nat.lt_irrefl _)
  | none =>
    refine wpAny_with_toks (n := 1) ht (kla_makeFunction hcl hge hgs hcode C hP h2 hnf hgP hBA fun c' ctv h' tk hx hge' hlt hrec htb htk => ?_)
    obtain ⟨c2, oc, vs, t, e, g1, g2, g3⟩ := hrec
    cases e
    have hcn : s.heap.get? c' = none := by
      cases q : s.heap.get? c' with
      | none => rfl
      | some o => exact absurd (Heap.lt_size q) (Nat.not_lt.mpr hge')
    have hc128 : c' ≠ 128 := fun q => by rw [q, hP] at hcn; cases hcn
    let obj := kla_obj "<lambda>" (env.qual ++ "<lambda>") params body scope clos ((mg "__name__").getD .none) c' ctv
    have hk : ∀ b o, b ∉ [128, c'] → s.heap.get? b = some o → (h'.push obj).get? b = some o := fun b o hb e => Heap.get?_push_of_some _ (hx b o (fun q => hb (by simp [q])) e)
    have hg128 : (h'.push obj).get? 128 = some (tabObj (ps ++ #[rawInt pos.line, rawInt pos.col, .ref c'])) := Heap.get?_push_of_some _ htb
    have hgc : (h'.push obj).get? c' = some oc := Heap.get?_push_of_some _ g1
    have z := R0.turns (P := [128, c']) (G := isHeld (h'.push obj)) (t := tk) (h' := h'.push obj) (fun b hb => by
      rcases List.mem_cons.mp hb with rfl | hb
      · exact .inl ⟨_, h1⟩
      · rcases List.mem_singleton.mp hb with rfl; exact .inr hcn) hk (fun b _ => isHeld_or b)
    refine hQ (upds τ [128, c'] (isHeld (h'.push obj))) _ h'.objs.size c' ((mg "__name__").getD .none) ctv htk ⟨fun a ha e => ?_, fun a o e g => ?_⟩ z ⟨_, (upds_in (by simp)).trans (isHeld_some hg128), ?_, fun cv e => ?_⟩ (Heap.get?_push_size _ rfl) ?_ ⟨c', oc, vs, t, rfl, hgc, g2, g3⟩
    · refine upds_out (fun hm => ?_)
      rcases List.mem_cons.mp hm with q | hm
      · exact ha q
      · rcases List.mem_singleton.mp hm with rfl
        exact e (R0.fresh hcn)
    · have hm : a ∉ [128, c'] := fun hm => by
        rcases List.mem_cons.mp hm with rfl | hm
        · rw [h1] at e; cases e
        · rcases List.mem_singleton.mp hm with rfl; rw [hcn] at g; cases g
      exact ⟨(upds_out hm).trans e, hk a o hm g⟩
    · have : (ps ++ #[rawInt pos.line, rawInt pos.col, .ref c']).toList = ps.toList ++ [rawInt pos.line, rawInt pos.col, .ref c'] := by simp
      rw [this]; exact TriplesOk_snoc _ _ _ _ h2
    · have hl : (ps ++ #[rawInt pos.line, rawInt pos.col, .ref c']).toList = ps.toList ++ [rawInt pos.line, rawInt pos.col, .ref c'] := by simp
      rw [hl, codeAmong_snoc _ h2 hnf] at e
      cases e
      exact ⟨c', oc, vs, t, rfl, (upds_in (by simp)).trans (isHeld_some hgc), g2, g3⟩
    · cases q : s.heap.get? h'.objs.size with
      | none => rfl
      | some o =>
        have w : h'.objs.size < s.heap.objs.size := Heap.lt_size q
        exact absurd (Nat.lt_of_le_of_lt hge' hlt) (Nat.not_lt.mpr (Nat.le_of_lt w))
end Mine.Internal
end
section
set_option genInjectivity false
open PySem PySem.W PyProof.Rows PySem.Calls
namespace Mine.Internal
noncomputable def lamScope : Scope := { kind := .function, names := [(Str.ofString "one", .local), (Str.ofString "sizes", .free)], isGenerator := false, isCoroutine := false, more := [] }
noncomputable def lamArgs (p : Pos) : Arguments := { posonlyargs := [], args := [{ arg := Str.ofString "one", annotation := none, pos := p }], vararg := none, kwonlyargs := [], kw_defaults := [], kwarg := none, defaults := [] }
noncomputable def lamBody (p1 p2 p3 p4 : Pos) : Expr := .UnaryOp .USub (.Subscript (.Name (Str.ofString "sizes") p1) (.Name (Str.ofString "one") p2) p3) p4
noncomputable abbrev lamObj (q : Str) (p p1 p2 p3 p4 : Pos) (cz : Addr) (pm : Value) (c' : Addr) (ctv : Value) : Obj := kla_obj "<lambda>" q (lamArgs p) (lamBody p1 p2 p3 p4) lamScope [(Str.ofString "sizes", cz)] pm c' ctv
noncomputable def lamNm : Nm := [(Str.ofString "one", .local), (Str.ofString "sizes", .free)]
noncomputable def lamIx : Ix := [(Str.ofString "one", 0), (Str.ofString "sizes", 1)]
noncomputable def lamEnv (q : Str) (cz f c' L : Addr) : Env := newEnv lamScope L mainGlobals [(Str.ofString "sizes", cz)] (q ++ ".<locals>.") (some f) (.ref c') none builtinsNs
noncomputable def lamCx (q : Str) (cz f c' L : Addr) : Cx := ⟨lamEnv q cz f c' L, [.dict L (Str.ofString "one"), .cell cz false], lamIx, 1⟩
theorem lamCx_ok (q : Str) (cz f c' L : Addr) : CtxOk lamNm lamIx 1 (lamCx q cz f c' L) := by
  have hix : ∀ x i, lamIx.lookup x = some i → (x = Str.ofString "one" ∧ i = 0) ∨ (x = Str.ofString "sizes" ∧ i = 1) := fun x i e => by
    have := mem_of_lookup e
    simp only [lamIx, List.mem_cons, Prod.mk.injEq, List.mem_nil_iff, or_false] at this
    exact this
  refine ⟨⟨rfl, rfl, rfl, ?_, ?_, ?_, ?_, ?_⟩, ?_, rfl, rfl⟩
  · simp [lamCx]
  · intro a b b' e1 e2
    simp only [lamCx, List.mem_cons, List.mem_nil_iff, or_false, reduceCtorEq, false_or, Loc.cell.injEq] at e1 e2
    rw [e1.2, e2.2]
  · intro i l hi e
    have : i = 0 := by have : i < 1 := hi; (first | lia | omega)
    subst this
    cases e; rfl
  · intro x y i e1 e2
    rcases hix x i e1 with ⟨rfl, rfl⟩ | ⟨rfl, rfl⟩ <;> rcases hix y _ e2 with ⟨rfl, h⟩ | ⟨rfl, h⟩ <;> first | rfl | cases h
  · intro x i e
    rcases hix x i e with ⟨rfl, rfl⟩ | ⟨rfl, rfl⟩
    · exact .inl ⟨rfl, rfl⟩
    · exact .inr ⟨.inr rfl, cz, false, rfl, rfl⟩
  · intro x k e
    have := mem_of_lookup e
    simp only [lamNm, List.mem_cons, Prod.mk.injEq, List.mem_nil_iff, or_false] at this
    rcases this with ⟨rfl, rfl⟩ | ⟨rfl, rfl⟩ <;> exact .inl rfl
theorem lamIs (p1 p2 p3 p4 : Pos) : IsE lamNm lamIx 1 (.neg (.sub (.var 1) (.var 0))) (lamBody p1 p2 p3 p4) := .neg (.sub (fun _ _ _ => rfl) (.var ⟨rfl, rfl, rfl⟩) (.var ⟨rfl, rfl, rfl⟩))
theorem lam_run {F : Addr → Option Fn} {n : Nat} {st : PS} {m : Nat} {v : V} {sx : PS} (h : outOf m (evSs F n (.cons (.ret (.neg (.sub (.var 1) (.var 0)))) .nil) st) = some (v, sx)) :
    ∃ v1 s1, evE F n (.neg (.sub (.var 1) (.var 0))) st = some (v1, s1) ∧ frz m v1 ⟨[], s1.own⟩ = some (v, sx) := by
  cases n with
  | zero => exact nomatch (show (Option.none : Option (V × PS)) = some _ from h)
  | succ n =>
    cases n with
    | zero => exact nomatch (show (Option.none : Option (V × PS)) = some _ from h)
    | succ n =>
      refine bd2_c h fun f s1 e h => bd2_c e fun g s2 e h2 => bd2_c e fun v1 s3 e h3 => ?_
      cases h3
      cases h2
      exact ⟨v1, s1, upE (Nat.le_add_right _ 2) e, h⟩
  
theorem lam_fn {W : Wd} {q : Str} {p p1 p2 p3 p4 : Pos} {cz f c' pz : Addr} {pm ctv : Value} {z : List Int} {vs : List Value} {ep : Nat} {oc : Obj} (hf : W.B f (lamObj q p p1 p2 p3 p4 cz pm c' ctv)) (hcode : ∀ h : Heap, (∀ b o, W.B b o → h.get? b = some o) → h.CodeRec (.ref c') q)
    (hcz : W.B cz oc) (hcd : oc.data = .cell (some (.ref pz))) (hpz : W.B pz (LO vs ep)) (hI : IntsAre vs z) :
    ∀ F n ws key st v st', Snd W F n → F f = some (lamF z) → evC F (n + 1) f ws key st = some (v, st') → CallOk W (n + 1) f ws key st v st' := by
  intro F n ws key st v st' S hF he A τ ls s Q E us ku hA R0 ht hus hku hQ
  refine bd_c he fun f' hf' he1 => bd_c he1 fun ws' hws he2 => ?_
  clear he he1
  cases hF.symm.trans hf'
  clear hf'
  refine bind_c hws rfl fun e hl e2 => ?_
  subst e e2
  clear hws
  · obtain ⟨w, rfl⟩ := single hl
    · cases hus with
      | cons hu hus =>
      cases hus
      rename_i u
      cases hku
      cases w with
      | ref j =>
        refine callOf_c he2 rfl (fun sx hD _ _ => nomatch hD) fun sx _ ho e => ?_
        · obtain ⟨v1, s1, hev, _⟩ := lam_run ho
          cases n with
          | zero => exact nomatch (show (Option.none : Option (V × PS)) = some _ from hev)
          | succ n =>
            refine bdI_c hev fun i s e1 _ => ?_
            cases n with
            | zero => exact nomatch (show (Option.none : Option (V × PS)) = some _ from e1)
            | succ n =>
              refine bd2_c e1 fun x s2 e2 e3 => bd2_c e3 fun y s3 e4 e5 => ?_
              cases n with
              | zero => exact nomatch (show (Option.none : Option (V × PS)) = some _ from e2)
              | succ n =>
                cases e2
                cases e4
                exact nomatch (show (Option.none : Option (V × PS)) = some _ from e5)
      | d x =>
        refine callOf_c he2 rfl (fun sx _ ho e => ?_) fun sx hD _ _ => nomatch hD
        · subst e
          obtain ⟨v1, sx, hev, hfr⟩ := lam_run ho
          have hbase : ∀ b o, W.B b o → s.heap.get? b = some o := fun b o e => (R0.base b o e).1
          have hd := hA.depth
          have hun := hA.units
          refine wpAny_call (kla_callFunE (fd := kla_fn "<lambda>" q (lamArgs p) (lamBody p1 p2 p3 p4) lamScope [(Str.ofString "sizes", cz)] pm (.ref c') ctv) (by unfold recursionLimit; (first | lia | omega)) (hbase _ _ hf) rfl rfl rfl rfl (hcode _ hbase) ?_)
          show wpAny _ _ (bindArgs _ ⟨[u], []⟩) _ _ _
          rw [show bindArgs (kla_fn "<lambda>" q (lamArgs p) (lamBody p1 p2 p3 p4) lamScope [(Str.ofString "sizes", cz)] pm (.ref c') ctv) ⟨[u], []⟩ = pure [(Str.ofString "one", u)] from rfl]
          refine wpAny_pure (wpAny_newFunctionEnv (show ∀ y ∈ lamScope.names, y.2 ≠ .cell by decide) (fun y hy => by rcases List.mem_cons.mp hy with rfl | hy; rfl; cases hy) (fun h1 hns hsb => ⟨R0.noLimit.fresh _ hsb, ?_⟩) rfl)
          have K := lamCx_ok q cz f c' s.heap.objs.size
          have hk : ∀ b o, s.heap.get? b = some o → h1.get? b = some o := fun b o e => hsb.extBut b o (Nat.ne_of_lt (Heap.lt_size e)) (Heap.get?_push_of_some _ e)
          have hfx : ∀ b, (fun b => decide (b = s.heap.objs.size)) b = true → s.heap.get? b = none ∧ ∃ o, h1.get? b = some o ∧ ∀ xs n, o.data ≠ .seq xs n := fun b hb => by
            have : b = s.heap.objs.size := by simpa using hb
            subst this
            obtain ⟨o, es, ep, q1, q2, _⟩ := id hns
            exact ⟨get_size _, o, q1, fun xs n => by rw [q2]; exact fun z => nomatch z⟩
          have nfx : ∀ b o, s.heap.get? b = some o → (decide (b = s.heap.objs.size)) = false := fun b o e => by
            have := Nat.ne_of_lt (Heap.lt_size e)
            simpa using this
          have gcz := hbase _ _ hcz
          have tcz : τ cz = .none := (R0.base _ _ hcz).2
          have Re := R0.enterD (fx := fun b => decide (b = s.heap.objs.size)) (ls' := (lamCx q cz f c' s.heap.objs.size).ls) (vars' := [some (.d x), some (.d (.list (z.map D.int)))]) (t := s.toks + 1) hk hfx (fun l hl => by
              rcases List.mem_cons.mp hl with rfl | hl
              · exact ⟨intoD_t (decide_eq_true rfl), _, hns⟩
              · rcases List.mem_singleton.mp hl with rfl
                exact ⟨.inr ⟨rfl, intoD_f (nfx _ _ gcz) tcz⟩, _, oc, hk _ _ gcz, hcd⟩) (fun i v e => by
              match i, e with
              | 0, e =>
                cases e
                exact ⟨x, _, u, rfl, rfl, ⟨_, hns, by simp⟩, hu⟩
              | 1, e =>
                cases e
                refine ⟨_, _, .ref pz, rfl, rfl, ⟨oc, hk _ _ gcz, hcd⟩, ?_⟩
                exact ⟨pz, vs, ep, rfl, (R0.base _ _ hpz).2, hbase _ _ hpz, dr_ints hI⟩
              | n + 2, e => simp at e)
          refine kla_codeExpr (S.e K (lamIs p1 p2 p3 p4) hev K.ok (A.deeper _) _ _ _ _ ⟨hA.handled, ?_, ?_⟩ Re (Nat.succ_pos _) fun τ1 s2 v' t1 x1 R1 hv => ?_)
          · show A.depth + 1 + n < 990; (first | lia | omega)
          · show A.units + 3 + 40 * n < 9000; (first | lia | omega)
          obtain ⟨L1, L2, L3⟩ := R0.leaveD R1 hk (fun b hb => (hfx b hb).1) x1
          obtain ⟨d, rfl, rfl, f1, f2, f3, f4⟩ := frz_some hfr
          exact hQ _ _ _ t1 L2 L1 (L3 5 _ _ _ hv f4)
end Mine.Internal
end
section
set_option genInjectivity false
open PySem PySem.W PyProof.Rows PySem.Calls
namespace Mine.Internal
theorem ints_maps : ∀ {l : List V} {is : List Int}, ints? l = some is → l = is.map dI
  | [], is, h => by cases h; rfl
  | v :: r, is, h => bd_c (x := asI v) h fun x hx h => bd_c h fun l hl h => by
    cases h
    rw [asI_e hx, ints_maps hl]; rfl
theorem insortOf_some {st st1 : PS} {f k z : Nat} (h : insortOf st f k z = some st1) : ∃ n i zi is r, st.vars[f]? = some (some (.ref n)) ∧ st.vars[k]? = some (some (.d (.int i))) ∧ st.vars[z]? = some (some (.d (.list (zi.map D.int)))) ∧ st.own[n]? = some (is.map dI) ∧
    laidIn zi i is = some r ∧ st1 = { st with own := st.own.set n (r.map dI) } := by
  refine bd_c h fun a ha h => bd_c h fun n hn h => bd_c h fun b hb h => bd_c h fun i hi h => bd_c h fun c hc h => bd_c h fun zs hz h => bd_c h fun l hl h => bd_c h fun is his h => bd_c h fun zi hzi h => bd_c h fun r hr h => ?_
  cases h
  have e1 := ints_maps his
  have e2 := ints_map hzi
  rw [asR_e hn] at ha
  rw [asI_e hi] at hb
  rw [asZ_e hz] at hc
  subst e1 e2
  exact ⟨n, i, zi, is, r, getV_some ha, getV_some hb, getV_some hc, hl, hr, rfl⟩
theorem VRs.ints {τ τ' : Tau} {h h' : Heap} {is : List Int} : ∀ {vs : List Value}, VRs τ h (is.map dI) vs → VRs τ' h' (is.map dI) vs := by
  induction is with
  | nil => intro vs e; cases e; exact .nil
  | cons x r ih => intro vs e; cases e with
    | cons a b => exact .cons (a.flat rfl) (ih b)
noncomputable def insFns (f : Addr) (z : List Int) (a : Addr) : Option Fn := if a = f then some (lamF z) else if a = 23 then some insortF else if a = 32 then some bisectF else none
noncomputable def insWd (W : Wd) (s : Shared) (p : Addr) : Wd := ⟨W.w, W.h₀, fun a => if a = p then none else s.heap.get? a, fun (y : Nat) => s.gens[y]?, W.dr, W.os⟩
theorem ins_call {W : Wd} {A : Around} {τ : Tau} {ls : List Loc} {st : PS} {s : Shared} {q : Str} {pp p1 p2 p3 p4 : Pos} {cz f c' p pz : Addr} {pm ctv : Value} {zi is r : List Int} {i : Int} {n ep epz : Nat} {vs vz : List Value} {oc : Obj} {t : Tok} {Q : Value → Shared → Prop} {E : Value → Shared → Prop}
    (hA : AOk A 60) (R0 : R W τ ls st s) (ht : 0 < s.toks) (hp : τ p = .own n) (hpo : s.heap.get? p = some (LO vs ep)) (hvs : VRs τ s.heap (is.map dI) vs) (hf : s.heap.get? f = some (lamObj q pp p1 p2 p3 p4 cz pm c' ctv)) (hf2 : f ≠ 23 ∧ f ≠ 32) (hcode : s.heap.CodeRec (.ref c') q)
    (hcz : s.heap.get? cz = some oc) (hcd : oc.data = .cell (some (.ref pz))) (hpz : s.heap.get? pz = some (LO vz epz)) (hpzn : pz ≠ p) (hI : IntsAre vz zi) (hlaid : laidIn zi i is = some r)
    (hQ : ∀ s', 0 < s'.toks → R W τ ls { st with own := st.own.set n (r.map dI) } s' → Ext τ s.heap τ s'.heap → Q .none s') :
    wpAny (model pw W.w) A (call (.ref 23) [.ref p, .int i t] [("key", .ref f)]) Q E s := by
  have czp : cz ≠ p := fun e => by rw [e, hpo] at hcz; cases hcz; cases hcd
  have fp : f ≠ p := fun e => by
    rw [e, hpo] at hf
    have w := congrArg Obj.data (Option.some.inj hf)
    cases w
  obtain ⟨c2, occ, vcc, tcc, e2, g1, g2, g3⟩ := hcode
  cases e2
  have cp : c' ≠ p := fun e => by rw [e, hpo] at g1; cases g1; cases g2
  have okW : (insWd W s p).Ok := ⟨R0.ok.X, R0.ok.T⟩
  have hB : ∀ b o, b ≠ p → s.heap.get? b = some o → (insWd W s p).B b o := fun b o hb e => .inr (by simp only [insWd, if_neg hb]; exact e)
  have hB2 : ∀ b o, (insWd W s p).B b o → s.heap.get? b = some o ∧ b ≠ p := fun b o e => by
    rcases e with e | e
    · have z := R0.base b o (.inl e)
      exact ⟨z.1, fun q => by rw [q, hp] at z; cases z.2⟩
    · simp only [insWd] at e
      by_cases q : b = p
      · rw [if_pos q] at e; cases e
      · rw [if_neg q] at e; exact ⟨e, q⟩
  have ne : ∀ b, b ≠ p → upd (fun _ => Gh.none) p (.own 0) b = .none := fun b hb => upd_ne hb
  have own0 : ∀ b m, upd (fun _ => Gh.none) p (.own 0) b = .own m → b = p ∧ m = 0 := fun b m e => by
    by_cases q : b = p
    · rw [q, upd_self] at e; cases e; exact ⟨q, rfl⟩
    · rw [ne b q] at e; cases e
  have R1 : R (insWd W s p) (upd (fun _ => .none) p (.own 0)) [] ⟨[], [is.map dI]⟩ s := by
    refine ⟨okW, R0.dr, R0.os, R0.gens, fun g x e => e, fun b o e => ?_, fun m l e => ?_, fun a b m e1 e2 => ?_, fun b m e => ?_, fun b o e => ?_, fun b e => ?_, fun l h => (nomatch h), fun j v e => by simp at e, fun b e => ?_⟩
    · have z := hB2 b o e
      exact ⟨z.1, ne b z.2⟩
    · have : m = 0 := by have := (List.getElem?_eq_some_iff.mp e).1; simp at this; exact this
      subst this
      cases e
      refine ⟨p, vs, ep, upd_self .., hpo, ?_⟩
      exact hvs.ints
    · rw [(own0 a m e1).1, (own0 b m e2).1]
    · rw [(own0 b m e).2]; simp
    · by_cases q : b = p
      · rw [q, upd_self] at e; cases e
      · rw [ne b q] at e; cases e
    · by_cases q : b = p
      · rw [q]; exact ⟨_, hpo⟩
      · exact absurd (ne b q) e
    · by_cases q : b = p
      · rw [q, upd_self] at e; cases e
      · rw [ne b q] at e; cases e
  have hfns : ∀ W' : Wd, W'.Ok → (∀ b o, (insWd W s p).B b o → W'.B b o) → ∀ a g, insFns f zi a = some g → FnOk W' a g := fun W' ok' hsub a g h => by
    unfold insFns at h
    split at h
    · rename_i e
      cases h; subst e
      exact .hand rfl (fun F n ws key st v st' => lam_fn (W := W') (hsub _ _ (hB _ _ fp hf)) (fun h hb => ⟨c', occ, vcc, tcc, rfl, hb _ _ (hsub _ _ (hB _ _ cp g1)), g2, g3⟩) (hsub _ _ (hB _ _ czp hcz)) hcd (hsub _ _ (hB _ _ hpzn hpz)) hI F n ws key st v st')
    · split at h
      · rename_i e; cases h; subst e; exact .plain (fact_insort ok') (nm_insort' _) (insortIs _)
      · split at h
        · rename_i e; cases h; subst e; exact .plain (fact_bisect ok') (nm_bisect' _) (bisectIs _)
        · cases h
  have hObj : ∀ W' : Wd, W'.Ok → (∀ b o, (insWd W s p).B b o → W'.B b o) → ObjOk W' (insFns f zi) := fun W' ok' hsub a g h => by
    unfold insFns at h
    split at h
    · rename_i e; subst e; exact ⟨_, _, hsub _ _ (hB _ _ fp hf), rfl⟩
    · split at h
      · rename_i e; subst e; exact ⟨_, _, .inl (ok'.X _ _ (raw_insort' _).at_), (raw_insort' _).data⟩
      · split at h
        · rename_i e; subst e; exact ⟨_, _, .inl (ok'.X _ _ (raw_bisect' _).at_), (raw_bisect' _).data⟩
        · cases h
  have S := soundness (W := insWd W s p) (F := insFns f zi) (hObj _ okW fun b o e => e) (fun g => hEsc _ _) (fun g => hGrp _ _) (fun g => fun n c nm ix cap f k z x st st1 K hx he => (nomatch hx)) (fun g => hcall (hfns _ ⟨okW.X, okW.T⟩ fun b o e => e)) 60
  have hev := insort_ev (F := insFns f zi) (lam := f) (z := zi) (by simp [insFns, Ne.symm hf2.1]) (by simp [insFns, Ne.symm hf2.2]) (by simp [insFns]) hlaid
  refine S.c hev A _ [] s Q E [.ref p, .int i t] (some (.ref f)) hA R1 ht (.cons ⟨p, rfl, upd_self ..⟩ (.cons VR.int .nil)) ⟨.ref f, rfl, rfl⟩ fun τ3 s3 v3 t3 x3 R3 hv3 => ?_
  have hv : v3 = .none := hv3
  subst hv
  obtain ⟨a, vs', ep', h1, h2, h3⟩ := R3.own 0 _ rfl
  have hp3 : τ3 p = .own 0 := (x3.claim p (by rw [upd_self]; exact fun z => nomatch z)).trans (upd_self ..)
  have := R3.uniq a p 0 h1 hp3
  subst this
  have keep : ∀ b o, b ≠ a → s.heap.get? b = some o → s3.heap.get? b = some o := fun b o hb e => (R3.base b o (hB b o hb e)).1
  have z := R0.mutK (t := s3.toks) (h' := s3.heap) hp keep h2 (l' := r.map dI) (VRs.ints h3)
  have z2 := z.1.regen (hg := W.hg) (gs := s3.gens) R3.gens (fun g x e => R3.hgens g x (R0.hgens g x e))
  refine hQ s3 t3 ?_ z.2
  have e : s3 = { heap := s3.heap, gens := s3.gens, drawn := s.drawn, toks := s3.toks, os := s.os } := by
    have e1 : s3.drawn = s.drawn := R3.dr.trans R0.dr.symm
    have e2 : s3.os = s.os := R3.os.trans R0.os.symm
    rw [← e1, ← e2]
  rw [e]
  exact z2
end Mine.Internal
end
section
set_option genInjectivity false
open PySem PySem.W PyProof.Rows PySem.Calls
namespace Mine.Internal
inductive IsIns (nm : Nm) (ix : Ix) (pl : Pos) : Nat → Nat → Nat → Stmt → Prop
  | mk {f k z : Nat} {xf xk : Str} {p1 p2 p3 p4 p5 p6 p7 p8 pa pc pk b1 b2 b3 b4 : Pos} {kn kb : Nat} : FnN nm "insort_right" 23 → VarN ix xf f → VarN ix xk k → ix.lookup (Str.ofString "sizes") = some z →
      IsIns nm ix pl f k z (.If (.Compare (.Call (.Name "insort_right" p1) [.Name xf p2, .Name xk p3] [⟨some "key", .Lambda (lamArgs pa) (lamBody b1 b2 b3 b4) lamScope pl, pk⟩] pc) [.IsNot] [.Constant .none kn p4] p5) [.Return (some (.Constant (.bool false) kb p6)) p7] [] p8)
theorem ins_stmt {W : Wd} {c : Cx} {nm : Nm} {ix : Ix} {cap : Nat} {f k z : Nat} {x : Stmt} {pl : Pos} {st st1 : PS} {cz : Addr} {bz : Bool} (K : CtxOk nm ix cap c) (hcode : c.env.code = .ref 130) (hcl : c.env.cells.lookup (Str.ofString "sizes") = some cz) (hlz : c.ls[z]? = some (.cell cz bz))
    (hx : IsIns nm ix pl f k z x) (he : insortOf st f k z = some st1) {A : Around} {τ : Tau} {s : Shared} {Q : Flow → Shared → Prop} {E : Value → Shared → Prop} (hA : AOk A 60) (R0 : R W τ c.ls st s) (J : JJ (c.env.qual ++ "<lambda>") pl τ) (ht : 0 < s.toks)
    (hQ : ∀ τ' s', 0 < s'.toks → ExtJ τ s.heap τ' s'.heap → R W τ' c.ls st1 s' → JJ (c.env.qual ++ "<lambda>") pl τ' → Q .next s') : wpAny (model pw W.w) A (exec x c.env) Q E s := by
  obtain ⟨n, i, zi, is, r, g1, g2, g3, g4, g5, rfl⟩ := insortOf_some he
  cases hx with
  | mk hfn hxf hxk hxz =>
  rename_i xf xk p1 p2 p3 p4 p5 p6 p7 p8 pa pc pk b1 b2 b3 b4 kn kb
  refine wpAny_If (wpAny_isTrue_Compare1 ?_ rfl)
  have ok := K.ok
  have h23 : ∃ o fd, W.B 23 o ∧ o.data = .func fd := ⟨_, _, .inl (R0.ok.X _ _ (raw_insort' _).at_), (raw_insort' _).data⟩
  obtain ⟨o, fd, hB, hd⟩ := h23
  refine wpAny_Call_Name_kw (wpAny_globName ok R0 (hfn.ns _) (hfn.kindOf K.nm) ?_ hfn.dbg)
  refine callWith_function_kw (o := o) (fd := fd) ?_
  have hes : TEs W c 60 st [.Name xf p2, .Name xk p3] [.ref n, .d (.int i)] st := .cons (.name (by rw [K.ix]; exact hxf.ix) g1 hxf.dbg hxf.cd) (.cons (.name (by rw [K.ix]; exact hxk.ix) g2 hxk.dbg hxk.cd) .nil rfl) rfl
  refine evalArgs_kw rfl ?_
  show wpAny _ A (spliced (backTo pc (starEach [.Name xf p2, .Name xk p3] c.env))) _ _ s
  refine hes ok A τ s _ E pc hA R0 ht fun τ1 s1 us t1 x1 R1 v1 => ?_
  obtain ⟨u1, u2, rfl, hu1, hu2⟩ := v1.two
  show wpAny _ A (evalAll [(eval (.Lambda (lamArgs pa) (lamBody b1 b2 b3 b4) lamScope pl) c.env >>= fun v => standAt pc >>= fun _ => pure v)]) _ E s1
  have hclo : closureFor lamScope c.env = pure [(Str.ofString "sizes", cz)] := by
    have := closureFor_is (env := c.env) (fun _ => cz) (scope := lamScope) (fun y hy hf => by
      simp only [lamScope, List.mem_cons, List.mem_nil_iff, or_false] at hy
      rcases hy with rfl | rfl
      · cases hf
      · exact hcl)
    rw [this]; rfl
  refine wpAny_evalAll_cons (wpAny_bind (lam_made R1 t1 (J.ext x1) rfl hclo ok.glob hcode fun τ2 s2 f c' pm ctv t2 x2 R2 J2 hf hfn2 hcr => wpAny_bind (wpAny_standAt (wpAny_pure (wpAny_evalAll_nil ?_)))))
  refine ⟨⟨(R2.base 23 o hB).1, hd⟩, ?_⟩
  obtain ⟨u, rfl⟩ := isInt hu2
  obtain ⟨p, rfl, hp⟩ := hu1
  have hp2 : τ2 p = .own n := (x2.claim p (fun q => by obtain ⟨ps, j1, _⟩ := J.ext x1; rw [q, j1] at hp; cases hp) (by rw [hp]; exact fun z => nomatch z)).trans hp
  obtain ⟨p', vs, ep, e, hp3, hpo, hvs⟩ := R2.ownAt (rv := .ref p) ⟨p, rfl, hp2⟩ g4
  cases e
  obtain ⟨loc, rz, l1, l2, l3⟩ := R2.vars z _ g3
  rw [hlz] at l1
  cases l1
  obtain ⟨oc, hoc, hcd⟩ := l2
  obtain ⟨pz, vz, epz, rfl, z1, z2, z3⟩ : ∃ pz vz epz, rz = .ref pz ∧ τ2 pz = .none ∧ s2.heap.get? pz = some (LO vz epz) ∧ DRs τ2 s2.heap (zi.map D.int) vz := l3
  have hf2 : f ≠ 23 ∧ f ≠ 32 := by
    refine ⟨fun q => ?_, fun q => ?_⟩
    · subst q; rw [(R1.base 23 o hB).1] at hfn2; cases hfn2
    · subst q; rw [(R1.base 32 _ (.inl (R0.ok.X _ _ (raw_bisect' _).at_))).1] at hfn2; cases hfn2
  refine ins_call hA R2 t2 hp2 hpo hvs hf hf2 hcr hoc hcd z2 (fun q => by rw [q, hp2] at z1; cases z1) (ints_are z3) g5 fun s3 t3 R3 x3 => ?_
  refine wpAny_Constant_none (isNot_none (wpAny_truthy_bool ?_))
  exact wpAny_execs_nil (hQ τ2 s3 t3 (x1.toJ.trans (x2.trans x3.toJ)) R3 J2)
end Mine.Internal
end
section
set_option genInjectivity false
open PySem PySem.W PyProof.Rows PySem.Calls
namespace Mine.Internal
noncomputable def TL (W : Wd) (c : Cx) (q : Str) (pl : Pos) (N : Nat) (st : PS) (x : Stmt) (f : Fl) (st' : PS) : Prop :=
  ∀ (A : Around) (τ : Tau) (s : Shared) (Q : Flow → Shared → Prop) (E : Value → Shared → Prop), AOk A N → A.frames = some [c.env] → R W τ c.ls st s → JJ q pl τ → 0 < s.toks →
    (∀ τ' s' f', 0 < s'.toks → R W τ' c.ls st' s' → JJ q pl τ' → FR τ' s'.heap f f' → Q f' s') → wpAny (model pw W.w) A (exec x c.env) Q E s
theorem TS1.tl {W : Wd} {c : Cx} {q : Str} {pl : Pos} {N : Nat} {st st' : PS} {x : Stmt} {f : Fl} (ok : c.Ok) (h : TS1 W c N st x f st') : TL W c q pl N st x f st' :=
  fun A τ s Q E hA _ R0 J ht hQ => h ok A τ s Q E hA R0 ht fun τ' s' f' t' x' R' hf => hQ τ' s' f' t' R' (J.ext x') hf
theorem JJ.upd {q : Str} {pl : Pos} {τ : Tau} {a : Addr} {g : Gh} {x l st : Int} (J : JJ q pl τ) (ha : τ a = .held (rngObj x l st)) : JJ q pl (upd τ a g) := by
  obtain ⟨ps, h1, h2, h3⟩ := J
  refine ⟨ps, (upd_ne fun e => ?_).trans h1, h2, fun cv e => ?_⟩
  · rw [e, ha] at h1
    have := congrArg Obj.cls (Gh.held.inj h1)
    cases this
  · obtain ⟨c', oc, vs, t, e1, e2, e3, e4⟩ := h3 cv e
    refine ⟨c', oc, vs, t, e1, (upd_ne fun e' => ?_).trans e2, e3, e4⟩
    rw [e', ha] at e2
    have w := Gh.held.inj e2
    rw [← w] at e3
    have w2 : vs = #[rawInt x, rawInt l, rawInt st] := by injection e3 with w; exact w.symm
    rw [w2] at e4
    simp [rawInt] at e4
theorem ins_body {F : Addr → Option Fn} {f k z : Nat} : ∀ {n : Nat} {st : PS} {r : Fl × PS}, evSs F n (.cons (.insort f k z) .nil) st = some r → ∃ stb, insortOf st f k z = some stb ∧ r = (.next, stb)
  | 0, _, r, h => nomatch (show (Option.none : Option (Fl × PS)) = some r from h)
  | 1, _, r, h => nomatch (show (Option.none : Option (Fl × PS)) = some r from h)
  | n + 2, st, r, h => bd2_c h fun fl s1 e1 h => bd_c e1 fun stb e2 e3 => by
    obtain ⟨h1, h2⟩ := Prod.mk.inj (Option.some.inj e3)
    subst h1 h2
    exact ⟨_, e2, (Option.some.inj h).symm⟩
theorem ins_for {W : Wd} {F : Addr → Option Fn} {c : Cx} {nm : Nm} {ix : Ix} {cap i f k z N m0 : Nat} {x : Stmt} {xn : Str} {px pos pl : Pos} {iter : Expr} {st st1 st2 : PS} {cz : Addr} {bz : Bool} {fl : Fl} {y step : Int} {left : Nat} (K : CtxOk nm ix cap c) (hcode : c.env.code = .ref 130)
    (hcl : c.env.cells.lookup (Str.ofString "sizes") = some cz) (hlz : c.ls[z]? = some (.cell cz bz)) (hx : IsIns nm ix pl f k z x) (hi : TgtN nm ix cap xn i) (hN : 60 ≤ N) (hI : TI W c N st iter (.rng y step left) st1)
    (he : evF F m0 i (.rng y step left) (.cons (.insort f k z) .nil) st1 = some (fl, st2)) (hs : ∀ x, foldedSetIterable iter c.env x = pure x) : TL W c (c.env.qual ++ "<lambda>") pl N st (.For (.Name xn px) iter [x] [] pos) fl st2 := by
  intro A τ s Q E hA _ R0 J ht hQ
  have ok := K.ok
  refine wpAny_For (hI ok A τ s _ E _ hA R0 ht fun τ1 s1 a t1 x1 R1 hno so => ?_) hs
  refine codeAny_forLoop (fun n s' => ∃ τm stm y' left', evF F n i (.rng y' step left') (.cons (.insort f k z) .nil) stm = some (fl, st2) ∧ R W τm c.ls stm s' ∧ JJ (c.env.qual ++ "<lambda>") pl τm ∧ SrcOk τm s'.heap (.rng y' step left') (.ref a) ∧ 0 < s'.toks) ?_ m0
    ⟨τ1, st1, y, left, he, R1, J.ext x1, so, t1⟩
  rintro n s' ⟨τm, stm, y', left', hev, Rm, Jm, som, tm⟩
  obtain ⟨_, e, ha⟩ := id som
  cases e
  cases n with
  | zero => exact nomatch (show (Option.none : Option (Fl × PS)) = some _ from hev)
  | succ m =>
    refine bd_c (x := Src.next stm (.rng y' step left')) hev fun nx hnx hev => ?_
    rcases nx with _ | ⟨v, src'⟩
    · cases hev
      refine wpAny_with_toks (n := 1) tm (next_ok hA Rm som hnx (fun _ h' hk R' tk => ?_) (fun v src' e => nomatch e))
      exact wpAny_execs_nil (hQ _ _ _ tk R' (Jm.upd ha) rfl)
    · have hsrc : ∃ y2 l2, src' = .rng y2 step l2 := by
        cases left' with
        | zero => cases hnx
        | succ l => cases hnx; exact ⟨_, _, rfl⟩
      obtain ⟨y2, l2, rfl⟩ := hsrc
      refine bd_c (x := setVar stm i v) hev fun sta hsv hev => bd2_c (x := evSs F m (.cons (.insort f k z) .nil) sta) hev fun fl2 stb hq hev => ?_
      · obtain ⟨hlen, rfl⟩ := setVar_some hsv
        obtain ⟨stb', hins, eq⟩ := ins_body hq
        obtain ⟨e1, e2⟩ := Prod.mk.inj eq
        subst e1 e2
        refine wpAny_with_toks (n := 1) tm (next_ok hA Rm som hnx (fun e => nomatch e) (fun v0 src0 e o h' t v' hk R' so' hv tk => ?_))
        cases e
        refine wpAny_assign_Name (wpAny_with_toks (n := 1) tk (storeTo ok R' (by rw [K.ix]; exact hi.ix) hlen (by rw [K.cap]; exact hi.cap) (hi.free K.nm) hv fun s2 R2 x2 tk2 => ?_))
        have so2 := so'.mono x2
        obtain ⟨_, e, ha2⟩ := id so2
        cases e
        have J2 : JJ (c.env.qual ++ "<lambda>") pl (upd τm a (.held o)) := Jm.upd ha
        · skip
          refine wpAny_execs_cons (ins_stmt K hcode hcl hlz hx hins (hA.le hN) R2 J2 tk2 fun τ3 s3 t3 x3 R3 J3 => ?_)
          refine wpAny_execs_nil ⟨m, Nat.lt_succ_self _, τ3, stb, y2, l2, hev, R3, J3, ⟨a, rfl, ?_⟩, t3⟩
          refine (x3.claim a (fun q => ?_) (by rw [ha2]; exact fun z => nomatch z)).trans ha2
          obtain ⟨ps, j1, _⟩ := J2
          subst q
          have := congrArg Obj.cls (Gh.held.inj (ha2.symm.trans j1))
          cases this
end Mine.Internal
end
section
set_option genInjectivity false
open PySem PySem.W PyProof.Rows PySem.Calls
namespace Mine.Internal
noncomputable abbrev VE : Value := .type "ValueError"
structure Fly (base h1 : Heap) (l : List Env) (e : Addr) (h : Heap) : Prop where
  fly : ∃ a0, Heap.FlyingW base l e VE a0 h
  up : h1.UpToSlots h
structure Hel (base h1 : Heap) (l : List Env) (e L : Addr) (h : Heap) : Prop where
  hel : ∃ a0, Heap.HeldW base l e VE a0 L h
  up : h1.UpToSlots h
section
variable {M : Model} {A : Around} {E : Value → Shared → Prop} {s : Shared} {base h1 : Heap} {env : Env} {outer l : List Env} {L e : Addr} {Q : Unit → Shared → Prop}
theorem note_new {h : Heap} {args : List Value} (hfr : A.frames = some (env :: outer)) (hf : env.frame = some L) (hFF : h.FunFrames base (env :: outer)) (hkb : base.StaysIn h) (hx : Heap.MadeExc h s.heap e "ValueError" args) (hup : h1.UpToSlots h)
    (hQ : ∀ h', Hel base h1 (env :: outer) e L h' → Q () { s with heap := h' }) : wpAny M A (noteFrame (.ref e) env) Q E s := by
  obtain ⟨t, he, htn, ht⟩ := hx.there
  have hen : base.get? e = none := by
    cases hq : base.get? e with
    | none => rfl
    | some o' => have := hkb e o' hq; rw [hx.new] at this; cases this
  unfold noteFrame
  simp only [hf]
  refine wpAny_bind (wpAny_field he rfl (x := .none) rfl ?_)
  rw [if_neg (by decide)]
  refine wpAny_entryW (a0 := .ref t) hfr (hFF.of_keeps fun b o hb _ => ⟨o, hx.keeps b o hb, rfl⟩) hf he (fun b o hb => hx.keeps b o (hkb b o hb)) hen rfl (by show 1 < 6; decide) rfl fun h' hN => ?_
  obtain ⟨k1, k2, k3, k4⟩ := hN
  exact hQ h' ⟨⟨.ref t, k1, hen, k2, k3⟩, (hup.trans (.of_keeps hx.keeps)).trans k4⟩
theorem Fly.look (hfr : A.frames = some (env :: outer)) (hf : env.frame = some L) (x : Fly base h1 (env :: outer) e s.heap) (hQ : ∀ h', Hel base h1 (env :: outer) e L h' → Q () { s with heap := h' }) : wpAny M A (noteFrame (.ref e) env) Q E s := by
  obtain ⟨⟨a0, f⟩, up⟩ := x
  exact wpAny_looks_onW hfr hf f fun h' g u => hQ h' ⟨⟨a0, g⟩, up.trans u⟩
theorem Hel.lands (x : Hel base h1 l e L s.heap) (hQ : ∀ h', Fly base h1 l e h' → Q () { s with heap := h' }) : wpAny M A (setFlight (.ref e) none) Q E s := by
  obtain ⟨⟨a0, f⟩, up⟩ := x
  exact wpAny_landsW f fun h' g u => hQ h' ⟨⟨a0, g⟩, up.trans u⟩
theorem Fly.lands (x : Fly base h1 l e s.heap) (hQ : ∀ h', Fly base h1 l e h' → Q () { s with heap := h' }) : wpAny M A (setFlight (.ref e) none) Q E s := by
  obtain ⟨⟨a0, f1, f2, f3, f4⟩, up⟩ := x
  exact wpAny_setFlight_noneW f1 f3 f4.at fun h' k1 k2 k3 k4 => hQ h' ⟨⟨a0, k1, f2, k2, k3⟩, up.trans fun b o hb hn => ⟨o.slots, k4 b o hb hn⟩⟩
theorem Hel.leaves (hf : env.frame = some L) (x : Hel base h1 (env :: outer) e L s.heap) (hQ : ∀ h', Fly base h1 outer e h' → Q () { s with heap := h' }) : wpAny M A (leaving env (.ref e)) Q E s := by
  unfold leaving
  have x' := x
  obtain ⟨⟨a0, f⟩, up⟩ := x'
  refine wpAny_bind (wpAny_noteFrame_againW hf f.2.2.2 ?_)
  refine x.lands fun h' y => hQ h' ?_
  obtain ⟨⟨a1, k1, k2, ⟨_, _, k3⟩, k4⟩, up2⟩ := y
  exact ⟨⟨a1, k1, k2, k3, k4⟩, up2⟩
theorem Hel.back {P : Unit → Shared → Prop} (hf : env.frame = some L) (x : Hel base h1 l e L s.heap) (hQ : ∀ h', Hel base h1 l e L h' → P () { s with heap := h' }) : wpAny M A (do
    if (← field (.ref e) 1) == Value.none then unsupported "frame.own-activation:exception-without-traceback"
    setFlight (.ref e) env.frame) P E s := by
  obtain ⟨⟨a0, hkb, hen, hl, oe, vs, T, oT, ts, he, hcls, hd, h1', hnT, hTe, hT, hdT, h3⟩, up⟩ := x
  rw [hf]
  refine wpAny_bind (wpAny_field he hd h1' ?_)
  rw [if_neg (show ¬ ((Value.ref T == Value.none) = true) from by simp)]
  have hsz3 : 3 < ts.size := (Array.getElem?_eq_some_iff.mp h3).1
  have other : ∀ b, b ≠ T → (s.heap.update T (Obj.mapFields (·.setIfInBounds 3 ((some L).elim Value.none fun f => rawInt f)))).get? b = s.heap.get? b := fun b hb => Heap.get?_update_other _ _ (Ne.symm hb)
  have noRecord : ∀ b o, s.heap.get? b = some o → (∀ vs, o.data ≠ .fields vs) → b ≠ T := fun b o hb hnf q => by
    rw [q, hT] at hb; injection hb with hb; subst hb; exact hnf ts hdT
  unfold setFlight
  refine wpAny_bind (wpAny_field he hd h1' ?_)
  rw [if_pos (show (Value.ref T != Value.none) = true from by simp)]
  refine wpAny_setField hT hdT hsz3 (hQ _ ⟨⟨a0, fun b o hbo => (other b fun q => by rw [q, hnT] at hbo; cases hbo).trans (hkb b o hbo), hen, hl.of_keeps fun b o hb hnf => ⟨o, (other b (noRecord b o hb hnf)).trans hb, rfl⟩, ?_⟩, up.trans fun b o hb hnf => ⟨o.slots, (other b (noRecord b o hb hnf)).trans hb⟩⟩)
  exact ⟨oe, vs, T, _, _, (other e (Ne.symm hTe)).trans he, hcls, hd, h1', hnT, hTe, Heap.get?_update_self _ hT (Obj.isFreed_of_fields (Obj.data_mapFields hdT _)), Obj.data_mapFields hdT _, by simp [hsz3]⟩
end
theorem value_stop : isSubtype (.type "ValueError") (.type "StopIteration") = pure false := by rw [isSubtype_type]; kernel_rfl
theorem value_value : isSubtype (.type "ValueError") (.type "ValueError") = pure true := by rw [isSubtype_type]; kernel_rfl
theorem next_raise {prog : Program} {w : World} {A : Around} {E : Value → Shared → Prop} {s : Shared} {a : Addr} {g : Nat} {c : Code} {P : Shared → Addr → Shared → Prop} {Q : Option Value → Shared → Prop}
    (hl : s.heap.NoLimit) (hroom : A.depth < recursionLimit) (hg : s.heap.IsGen a g) (hgs : s.gens[g]? = some (.fresh c))
    (hgo : Seg (model prog w) A.in1 (fun n s₀ r s₁ => ∃ e, r = .error (.ref e) ∧ P s₀ e s₁) (fun _ _ _ _ _ => False) 0 (s.setGen g .running) c ((model prog w).den c) [] (s.setGen g .running))
    (hP : ∀ s₁ e, P (s.setGen g .running) e s₁ → (∃ o, s₁.heap.get? a = some o ∧ o.cls = .type "generator" ∧ o.data ≠ .fields #[] ∧ ∃ nm qn, o.data = .fields #[.int g 0, nm, qn]) ∧ (∃ o, s₁.heap.get? e = some o ∧ o.cls = VE) ∧ E (.ref e) (s₁.setGen g .finished)) :
    wpAny (model prog w) A (pyNext (.ref a)) Q E s := by
  unfold pyNext
  refine wpAny_bind (wpAny_attempt (wpAny_callSpecial?_slot (name := Str.ofString "__next__") hg.typeIs slot_gen_next
    (wpAny_call_entry slot_gen_next hg.typeIs entry_gen_next ?_ (args_gen_next _))))
  show wpAny _ A.in1 (Builtin.Generator.genWake (.ref a) (.send .none)) _ _ s
  unfold Builtin.Generator.genWake
  refine wpAny_bind (wpAny_holding (wpAny_genNumber hg (wpAny_bind (wpAny_genState hgs ?_))))
  refine wpAny_bind (wpAny_roomToWake hl hroom ?_)
  show wpAny _ A.in1 (.resume g (.send .none) [] _) _ _ s
  refine wpAny_resumeQ hgs ⟨rfl, hgo⟩ (fun x s₁ hx => ?_) (fun v s₁ gs' hb hv => hv.elim)
  obtain ⟨e, rfl, hp⟩ := hx
  obtain ⟨⟨o, ho, hc, _, nm, qn, hd⟩, ⟨oe, hoe, hce⟩, hE⟩ := hP s₁ e hp
  show wpAny _ A.in1 (Builtin.Generator.genLeft (.ref a) (.ref e)) _ _ _
  unfold Builtin.Generator.genLeft Builtin.Generator.madeByALambda
  have hT : ∀ s2 : Shared, s2.heap = s₁.heap → s2.TypeIs (.ref e) "ValueError" := fun s2 h => ⟨oe, by rw [h]; exact hoe, hce⟩
  refine wpAny_bind (wpAny_bind (wpAny_load (show (s₁.setGen g .finished).heap.get? a = some o from ho) ?_))
  rw [hc, hd]
  refine wpAny_pure (wpAny_bind (wpAny_isInstance (T := "ValueError") (b := false) (hT _ rfl) value_stop ?_))
  rw [if_neg (by simp)]
  unfold Builtin.Generator.genEscaped
  refine wpAny_bind (wpAny_isInstance (T := "ValueError") (b := false) (hT _ rfl) value_stop ?_)
  refine wpAny_throw ?_
  refine wpAny_bind (wpAny_isInstance (T := "ValueError") (b := false) (hT _ rfl) value_stop ?_)
  exact wpAny_throw hE
end Mine.Internal
end
section
set_option genInjectivity false
open PySem PySem.W PyProof.Rows PySem.Calls
namespace Mine.Internal
noncomputable def OutOk (h : Heap) (Ls : List Addr) (outer : List Env) : Prop := ∀ env ∈ outer, env.scope.kind ≠ .module ∧ ∃ Li o, env.frame = some Li ∧ Li ∈ Ls ∧ h.get? Li = some o ∧ ∀ vs, o.data ≠ .fields vs
theorem OutOk.frames {h h' base : Heap} {Ls : List Addr} (hb : ∀ b ∈ Ls, base.get? b = none) (hk : ∀ b ∈ Ls, ∀ o, h.get? b = some o → h'.get? b = some o) : ∀ {outer : List Env}, OutOk h Ls outer → h'.FunFrames base outer
  | [], _ => trivial
  | env :: r, x => by
    obtain ⟨k, Li, o, h1, h2, h3, h4⟩ := x env (.head _)
    exact ⟨k, ⟨Li, o, h1, hb Li h2, hk Li h2 o h3, h4⟩, OutOk.frames hb hk fun e he => x e (.tail _ he)⟩
theorem ns_ValueError (q : Params) : nsIn (hd.heap_1 q) mainGlobals "ValueError" = some none := by kernel_rfl
theorem boot_ValueError : bootBuiltins (Str.ofString "ValueError") = some (.type "ValueError") := by kernel_rfl
structure GRaised (hl : Heap) (outer : List Env) (L : Addr) (Ls : List Addr) (s₀ : Shared) (e : Addr) (s₁ : Shared) : Prop where
  fly : Fly (hideAll s₀.heap (L :: Ls)) hl outer e s₁.heap
  gens : ∀ (g : Nat) x, s₀.gens[g]? = some x → s₁.gens[g]? = some x
  bare : AllBare s₁.gens
  dr : s₁.drawn = s₀.drawn
  os : s₁.os = s₀.os
  toks : 0 < s₁.toks
section
variable {W : Wd} {A : Around} {s₀ : Shared} {L I p : Addr} {vs : List Value} {ep : Nat} {is : List Int}
theorem grp_raise (C : GrpC W L I p) (hI : IntsAre vs (0 :: is)) {s : Shared} (al : Alike W [] s s) (hns : s.heap.Ns L (fun y => ([(Str.ofString "grouping", Value.ref p)] : List (Str × Value)).reverse.lookup y))
    (hp1 : s.heap.get? p = some (LO vs ep)) (hIs : I = s.heap.objs.size) (h1 : A.handled = none) (hd : A.depth + 1 < 990) (hu : A.units + 3 < 9000)
    {hl : Heap} {outer : List Env} {Ls : List Addr} (hfr : A.frames = some outer) (hO : OutOk s.heap Ls outer) (hLs : ∀ b ∈ Ls, b ≠ L) (hup : ∀ b o, hl.get? b = some o → s.heap.get? b = some o ∧ b ≠ L) :
    Seg (model pw W.w) A (fun n s₀ r s₁ => ∃ e, r = .error (.ref e) ∧ GRaised hl outer L Ls s₀ e s₁) (fun _ _ _ _ _ => False) 0 s
      (.func (bodyOf W.w.params 67) (grpCx W.w.params L).env) ((model pw W.w).den (.func (bodyOf W.w.params 67) (grpCx W.w.params L).env)) [] s := by
  have K := grpCx_ok C.ok L
  have hloc : ∀ x, x ∈ grpVn → (grpCx W.w.params L).env.kindOf x = some .local := fun x hx => (K.nm x .local (by
    simp only [grpVn, List.mem_cons, List.mem_nil_iff, or_false] at hx
    rcases hx with rfl | rfl | rfl <;> rfl)).elim id fun q => (nomatch q.1)
  refine seg_func ?_
  have hB := grpIs W.w.params
  generalize bodyOf W.w.params 67 = body at hB ⊢
  cases hB with | @mk a1 a2 a3 a4 a5 d7 k1 fb hfb =>
  refine seg_execs_cons (seg_wrap (wpAny_Assign_Name (wpAny_Constant_none (wpAny_storeName_local (hloc _ (by simp [grpVn])) hns (fun h' hn' hs => ?_) (by rw [K.ok.kind]; rfl)))))
  refine seg_execs_cons (sgFor (fun _ => rfl) ?_)
  refine wpAny_Name (wpAny_loadName_local (v := .ref p) K.ok.kind (hloc _ (by simp [grpVn])) hn' (by rw [if_neg (by decide)]; rfl) ?_) rfl
  have hpL : p ≠ L := fun e => C.hp (by simp [e])
  have hp' : h'.get? p = some (LO vs ep) := (hs.2 p hpL).trans hp1
  refine wpAny_pyIter_list (items := vs.toArray) ⟨_, hp', rfl, ep, rfl⟩ ?_
  have hsz : h'.objs.size = I := hs.1.trans hIs.symm
  rw [hsz]
  generalize hh : h'.push { cls := .type "list_iterator", data := .fields #[.ref p, .int 0 0] } = h2
  have up : ∀ b o, h'.get? b = some o → h2.get? b = some o := fun b o e => by rw [← hh]; exact Heap.get?_push_of_some _ e
  have kp : ∀ b o, b ≠ L → s.heap.get? b = some o → h2.get? b = some o := fun b o hb e => up b o ((hs.2 b hb).trans e)
  have hIo : h2.get? I = some { cls := .type "list_iterator", data := .fields #[.ref p, .int 0 0] } := by rw [← hh, ← hsz]; exact Heap.get?_push_size _ rfl
  have al2 : Alike W [] s { s with heap := h2, toks := s.toks + 1 } := ⟨fun b hb => (nomatch hb), fun b o e => kp b o (fun q => C.B b o (.inl q) e) (al.base b o e), al.dr, al.os, al.bare, Nat.succ_pos _⟩
  have hpn : ∀ b, b ∉ [L, I] → tgen L [L, I] h2 b = .none := fun b hb => by
    unfold tgen
    rw [if_neg (fun e : b = L => hb (by simp [e])), if_neg hb]
  have hIt : tgen L [L, I] h2 I = .held { cls := .type "list_iterator", data := .fields #[.ref p, .int 0 0] } := by
    unfold tgen
    rw [if_neg C.ne, if_pos (by simp)]
    exact isHeld_some hIo
  have R2 := R.made (P := [L, I]) (vn := grpVn) (vars := [.none, some (lastV .none), .none]) C.ok al2 (hn'.at fun o e => up L o e) C.B (fun i v e => by
    match i, e with
    | 1, e =>
      cases e
      exact ⟨Str.ofString "last_interval", .none, rfl, if_pos rfl, VR.none⟩
    | 0, e => cases e
    | 2, e => cases e
    | n + 3, e => simp at e)
  have S2 : GrpS W s L I p vs ep 0 (tgen L [L, I] h2) .none .none { s with heap := h2, toks := s.toks + 1 } :=
    ⟨al.dr, al.os, fun b o hb e => ⟨kp b o (fun q => hb (by simp [q])) e, hpn b hb⟩, R2, fun v e => (nomatch e), ⟨_, hIt, rfl, rfl⟩, hpn p C.hp, up _ _ hp', Nat.succ_pos _⟩
  intro p'
  generalize hfc : Code.forLoop (.Name "interval" a4) (.ref I) fb [] (grpCx W.w.params L).env = fc
  have hA1 : ∀ {k g l b p kp}, AOk (A.over fc [.ret k none g l (.func b (grpCx W.w.params L).env) p kp]) 0 := by rw [← hfc]; exact overFunc ⟨rfl, rfl⟩ h1 hd hu
  have hfr1 : ∀ {k g l b p kp}, (A.over fc [.ret k none g l (.func b (grpCx W.w.params L).env) p kp]).frames = some ((grpCx W.w.params L).env :: outer) := by rw [← hfc]; intros; show pushEnvs [] (pushEnvs [_] A.frames) = _; rw [hfr]; rfl
  refine sgForLoop' hfc.symm (S2.next C hI hA1 (fun e => nomatch e) (fun x' r' e s1 τ1 t S1 => ?_))
  cases e
  clear hfc
  cases hfb with | @mk a6 a7 a8 a9 b1 b2 b3 b4 b5 b6 b7 b8 b9 c1 c2 c3 c4 c5 c6 c7 c8 c9 d1 d2 d3 d4 d5 d6 k2 k3 k4 k5 =>
  refine wpAny_of_eq (rfl : letOwnedTupleGo (.Name "interval" _) (.ref I) _ = pure ()) ?_
  refine wpAny_assign_Name (wpAny_with_toks (n := 1) S1.toks (storeTo (W := W.g fun (z : Nat) => s.gens[z]?) (i := 2) (v := .d (.int 0)) K.ok S1.r rfl (by show 2 < 3; decide) (by show 2 < 3; decide) (TgtN.free (nm := grpNm) (ix := grpVn.zipIdx) (cap := 3) (i := 2) ⟨rfl, by decide, .inl rfl⟩ K.nm) VR.int fun s2 R2 x2 t2 => ?_))
  have S2' : GrpS W s L I p vs ep 1 τ1 .none (some (.d (.int 0))) s2 := S1.step x2 t2 R2 (fun v e => by cases e; rfl)
  refine seg_execs_cons (sgIf (TB.cmp (W := W.g fun (z : Nat) => s.gens[z]?) (k := 0) (x := .d (.int 0)) (y := .d (.int 127)) (b := false) rfl (TE.name (x := Str.ofString "interval") (i := 2) rfl rfl rfl rfl) (TE.charMax ((K.nm _ _ (show grpNm.lookup (Str.ofString "CHAR_MAX") = some .globalImplicit from rfl)).elim id fun q => (nomatch q.1))) rfl K.ok _ τ1 s2 _ _ hA1 S2'.r S2'.toks fun τ3 s3 t3 x3 R3 => ?_))
  have S3 := S2'.step x3 t3 R3 S2'.fl
  refine seg_execs_nil (seg_execs_cons (sgIf (TB.cmp (W := W.g fun (z : Nat) => s.gens[z]?) (k := 0) (x := .d (.int 0)) (y := .d (.int 0)) (b := true) rfl (TE.name (x := Str.ofString "interval") (i := 2) rfl rfl rfl rfl) TE.int rfl K.ok _ τ3 s3 _ _ hA1 S3.r S3.toks fun τ4 s4 t4 x4 R4 => ?_)))
  have S4 := S3.step x4 t4 R4 S3.fl
  refine seg_execs_cons (sgIf (TB.cmp (W := W.g fun (z : Nat) => s.gens[z]?) (k := 0) (x := .d .none) (y := .d .none) (b := true) rfl (TE.name (x := Str.ofString "last_interval") (i := 1) rfl rfl rfl rfl) TE.none rfl K.ok _ τ4 s4 _ _ hA1 S4.r S4.toks fun τ5 s5 t5 x5 R5 => ?_))
  have S5 := S4.step x5 t5 R5 S4.fl
  refine seg_execs_cons (seg_wrap (wpAny_Raise_call F.excCall_ValueError F.excRaise_ValueError hA1.handled rfl ?_))
  refine wpAny_bltName (W := W.g _) K.ok S5.r (ns_ValueError _) boot_ValueError (by decide) ((K.nm _ _ (show grpNm.lookup (Str.ofString "ValueError") = some .globalImplicit from rfl)).elim id fun q => (nomatch q.1)) ⟨rfl, ?_⟩ rfl
  have hargs : backTo c1 (starEach [.Constant (.str (Str.ofString "invalid grouping")) k4 b9] (grpCx W.w.params L).env) = [(false, eval (.Constant (.str (Str.ofString "invalid grouping")) k4 b9) (grpCx W.w.params L).env)] := rfl
  rw [hargs]
  refine evalArgs_plain (spliced_cons (wpAny_Constant_str ?_))
  refine spliced_nil ⟨rfl, by rw [sizeLine_eq]; show 1 ≤ 16777216; decide, fun h' e hm => ?_⟩
  have env3 : (grpCx W.w.params L).env.frame = some L := rfl
  have hbL : (hideAll s.heap (L :: Ls)).get? L = none := hideAll_none _ (.head _)
  have hbLs : ∀ b ∈ Ls, (hideAll s.heap (L :: Ls)).get? b = none := fun b hb => hideAll_none _ (.tail _ hb)
  have hIn : s.heap.get? I = none := by rw [hIs]; exact get_size _
  have keep5 : ∀ b o, b ≠ L → s.heap.get? b = some o → s5.heap.get? b = some o := fun b o hb e => (S5.keep b o (fun q => by
    rcases List.mem_cons.mp q with q | q
    · exact hb q
    · rcases List.mem_singleton.mp q with rfl; rw [hIn] at e; cases e) e).1
  have hkb : (hideAll s.heap (L :: Ls)).StaysIn s5.heap := fun b o e => keep5 b o (fun q => by rw [q, hbL] at e; cases e) (of_hideAll _ e)
  have hFF : s5.heap.FunFrames (hideAll s.heap (L :: Ls)) ((grpCx W.w.params L).env :: outer) := by
    obtain ⟨_, m, hn⟩ := S5.r.locs (.dict L "grouping") (.head _)
    exact Heap.FunFrames.cons (by rw [K.ok.kind]; exact fun q => nomatch q) env3 hn hbL (hO.frames hbLs fun b hb o e => keep5 b o (hLs b hb) e)
  have hup5 : hl.UpToSlots s5.heap := .of_keeps fun b o e => keep5 b o (hup b o e).2 (hup b o e).1
  refine sgBind (note_new (base := hideAll s.heap (L :: Ls)) (h1 := hl) hfr1 env3 hFF hkb hm hup5 fun h6 H6 => ?_)
  refine seg_wrap (wpAny_theTreesLotGoes ?_)
  refine seg_leaf (.error (.ref e)) ?_
  show Seg _ A _ _ _ s _ (((do
    if (← field (.ref e) 1) == Value.none then unsupported "frame.own-activation:exception-without-traceback"
    setFlight (.ref e) (grpCx W.w.params L).env.frame : Sem Unit) >>= fun _ => (.raise (.ref e) : Sem Flow)).wrap _ _ _ _) [] _
  refine sgBind (Hel.back env3 H6 fun h7 H7 => ?_)
  show Seg _ A _ _ _ s _ ((leaving (grpCx W.w.params L).env (.ref e)).wrap (fun _ => .raise (.ref e)) .raise id id) [] _
  refine seg_wrap (Hel.leaves env3 H7 fun h8 F8 => ?_)
  exact seg_end (.error (.ref e)) ⟨e, rfl, F8, fun g x q => S5.r.hgens g x q, S5.r.gens, S5.r.dr.trans al.dr.symm, S5.r.os.trans al.os.symm, Nat.succ_pos _⟩
end
end Mine.Internal
end
section
set_option genInjectivity false
open PySem PySem.W PyProof.Rows PySem.Calls
namespace Mine.Internal
inductive IsTold : List Stmt → Prop
  | mk {a1 a2 a3 a4 a5 a6 a7 a8 : Pos} {body rest : List Stmt} : IsTold (.Assign [.Name "told" a1] (.List [] a2) a3 :: .For (.Name "size" a4) (.Call (.Name "_grouping_intervals" a5) [.Name "ruler" a6] [] a7) body [] a8 :: rest)
set_option maxRecDepth 100000 in
theorem toldSh (q : Params) : IsTold (bodyOf q 88) := .mk
section
variable {W : Wd} {A : Around} {τ : Tau} {ls : List Loc} {st : PS} {s : Shared}
noncomputable def OutS (S : Addr → Obj → Prop) (Ls : List Addr) (outer : List Env) : Prop := ∀ env ∈ outer, env.scope.kind ≠ .module ∧ ∃ Li o, env.frame = some Li ∧ Li ∈ Ls ∧ S Li o ∧ ∀ vs, o.data ≠ .fields vs
theorem VRs.areInts {τ : Tau} {h : Heap} : ∀ {is : List Int} {vs : List Value}, VRs τ h (is.map dI) vs → IntsAre vs is
  | [], _, .nil => .nil
  | x :: r, _, .cons a b => by
    obtain ⟨t, rfl⟩ := isInt a
    exact .cons x t (VRs.areInts b)
theorem told_raise' {S : Addr → Obj → Prop} {outer : List Env} {Ls : List Addr} {hl : Heap} {n : Nat} {is : List Int} {pl : Addr} {Q : Value → Shared → Prop} {E : Value → Shared → Prop} (hA : AOk A 9) (hfr : A.frames = some outer) (R0 : R W τ ls st s) (hhg : ∀ (g : Nat) x, s.gens[g]? = some x → W.hg g = some x) (ht : 0 < s.toks)
    (hS : ∀ b o, S b o → s.heap.get? b = some o ∧ ∀ n, τ b ≠ .own n) (hO : OutS S Ls outer) (hLsS : ∀ b ∈ Ls, ∃ o, S b o) (hlS : ∀ b o, hl.get? b = some o → S b o) (hpl : τ pl = .own n) (hown : st.own[n]? = some ((0 :: is).map dI))
    (hE : ∀ e s' base, Fly base hl outer e s'.heap → (∀ b o, b ∉ Ls → S b o → base.get? b = some o) → (∀ (g : Nat) x, s.gens[g]? = some x → s'.gens[g]? = some x) → AllBare s'.gens → s'.drawn = s.drawn → s'.os = s.os → 0 < s'.toks → E (.ref e) s') :
    wpAny (model pw W.w) A (call (.ref 88) [.ref pl]) Q E s := by
  have ok := R0.ok
  have hd := hA.depth
  have hu := hA.units
  refine fn_enter (v := .ref n) (fact_told ok) hA R0 ⟨pl, rfl, hpl⟩ rfl fun L h₀ hLn hk okc Re => ?_
  have K : CtxOk toldNm ([Str.ofString "ruler", Str.ofString "told", Str.ofString "size"] : List Str).zipIdx 3 (fnCx (fdOf W.w.params 88) [Str.ofString "ruler", Str.ofString "told", Str.ofString "size"] L 88) := ⟨okc, fun x k e => .inl (nmChk_ok (nm_told' W.w.params) e), rfl, rfl⟩
  have hSe : ∀ b o, S b o → h₀.get? b = some o ∧ (into τ (fun b => decide (b = L)) b = .none ∨ ∃ u, into τ (fun b => decide (b = L)) b = .held u) := fun b o e => by
    obtain ⟨q1, q2⟩ := hS b o e
    exact ⟨hk b o q1, into_nh hLn q2 q1⟩
  have hB := toldSh W.w.params
  show wpAny _ (A.deeper (callEnv (fdOf W.w.params 88) L 88)) (execs (bodyOf W.w.params 88) (callEnv (fdOf W.w.params 88) L 88)) _ _ _
  generalize bodyOf W.w.params 88 = body at hB ⊢
  cases hB
  have hA2 : AOk (A.deeper (callEnv (fdOf W.w.params 88) L 88)) 8 := ⟨hA.handled, by show A.depth + 1 + 8 < 990; (first | lia | omega), by show A.units + 3 + 40 * 8 < 9000; (first | lia | omega)⟩
  refine wpAny_execs_cons (TS1.assign (k := 8) (x := Str.ofString "told") (i := 1) rfl rfl (by show 1 < 3; decide) (TgtN.free (nm := toldNm) (ix := ([Str.ofString "ruler", Str.ofString "told", Str.ofString "size"] : List Str).zipIdx) (cap := 3) (i := 1) ⟨rfl, by decide, .inl rfl⟩ K.nm) (TE.list .nil (by decide)) (by show 1 < 3; decide) K.ok _ _ _ _ _ hA2 Re (Nat.succ_pos _) fun τ2 s2 f2 t2 x2 R2 v2 => ?_)
  cases v2
  refine wpAny_execs_cons (wpAny_For (gen_call (k := 8) (fact_grp ⟨ok.X, ok.T⟩) ⟨ns__grouping_intervals, rfl, rfl⟩ K.nm (fun _ _ => rfl) (TE.name (x := Str.ofString "ruler") (i := 0) (v := .ref n) rfl rfl rfl rfl) K.ok hA2 R2 t2 fun τ3 s3 u s4 Lg ga x3 R3 v3 G => ?_) (fun _ => rfl))
  let env2 := callEnv (fdOf W.w.params 88) L 88
  have frame2 : env2.frame = some L := rfl
  have hk3 : ∀ b o, S b o → s3.heap.get? b = some o := fun b o e => by
    obtain ⟨q1, q2⟩ := hSe b o e
    rcases q2 with q2 | ⟨u', q2⟩
    · have z := x2.keep b o q2 q1
      exact (x3.keep b o z.1 z.2).2
    · have z := (x2.claim b (by rw [q2]; exact fun z => nomatch z)).trans q2
      have z' := (x3.claim b (by rw [z]; exact fun z => nomatch z)).trans z
      have w1 := Re.held b u' q2
      rw [q1] at w1
      cases w1
      exact R3.held b _ z'
  obtain ⟨n', hn'⟩ : ∃ m, n < st.own.length ∧ m = n := ⟨n, (List.getElem?_eq_some_iff.mp hown).1, rfl⟩
  have hown3 : (st.own ++ [[]])[n]? = some ((0 :: is).map dI) := by rw [List.getElem?_append_left hn'.1]; exact hown
  obtain ⟨pa, vs, ep, rfl, hpa, g2, hvs⟩ := R3.ownAt v3 hown3
  have hI := hvs.areInts
  have hpL : pa ≠ Lg := fun q => by subst q; rw [G.freshL] at g2; cases g2
  have hpI : pa ≠ ga + 1 := fun q => by
    have w := Heap.lt_size (G.keep _ _ g2)
    rw [G.size, q] at w
    exact Nat.lt_irrefl _ w
  obtain ⟨_, m3, hnL⟩ := R3.locs (.dict L "ruler") (.head _)
  obtain ⟨oL, esL, epL, hoL, hdL, _⟩ := id hnL
  have exS : ∀ b ∈ L :: Ls, ∃ o, s3.heap.get? b = some o := fun b hb => by
    rcases List.mem_cons.mp hb with rfl | hb
    · exact ⟨oL, hoL⟩
    · obtain ⟨o', ho'⟩ := hLsS b hb
      exact ⟨o', hk3 b o' ho'⟩
  have neLg : ∀ b ∈ L :: Ls, b ≠ Lg := fun b hb q => by obtain ⟨o', h'⟩ := exS b hb; rw [q, G.freshL] at h'; cases h'
  have nega : ∀ b ∈ L :: Ls, b ≠ ga := fun b hb q => by obtain ⟨o', h'⟩ := exS b hb; rw [q, G.freshG] at h'; cases h'
  have frOut : (A.deeper env2).frames = some (env2 :: outer) := Around.frames_deeper hfr
  refine wpAny_pyIter_gen G.gen (codeAny_forLoop (fun _ s' => s' = s4) ?_ 0 rfl)
  rintro _ s' rfl
  have hgs : s'.gens[s3.gens.size]? = some (.fresh (.func (bodyOf W.w.params 67) (callEnv (fdOf W.w.params 67) Lg 67))) := by rw [G.gens]; exact Array.getElem?_push_size ..
  have al : Alike W [] (s'.setGen s3.gens.size .running) (s'.setGen s3.gens.size .running) :=
    ⟨fun b hb => (nomatch hb), fun b o e => G.keep b o (R3.base b o e).1, G.dr.trans R3.dr, G.os.trans R3.os, setGen_bare rfl (by rw [G.gens]; exact R3.gens.push rfl), G.toks⟩
  have CC : GrpC W Lg (ga + 1) pa := ⟨ok, fun q => absurd G.lt (by rw [← q]; exact Nat.not_lt.mpr (Nat.le_succ _)), by simp [hpL, hpI], fun b o hb e => by
    have h3 := (R3.base b o e).1
    simp only [List.mem_cons, List.mem_nil_iff, or_false] at hb
    have : b = Lg ∨ b = ga + 1 := by rcases hb with q | q | q <;> simp [q]
    rcases this with rfl | rfl
    · rw [G.freshL] at h3; cases h3
    · have w := Heap.lt_size (G.keep _ _ h3)
      rw [G.size] at w
      exact Nat.lt_irrefl _ w⟩
  have hOk : OutOk (s'.setGen s3.gens.size .running).heap (L :: Ls) (env2 :: outer) := fun env he => by
    rcases List.mem_cons.mp he with rfl | he
    · have hkm : env2.scope.kind ≠ .module := by
        have h : env2.scope.kind = .function := okc.kind
        rw [h]; exact fun q => (nomatch q)
      exact ⟨hkm, L, oL, frame2, .head _, G.keep _ _ hoL, fun vs q => by rw [hdL] at q; cases q⟩
    · obtain ⟨k1, Li, o', k2, k3, k4, k5⟩ := hO env he
      exact ⟨k1, Li, o', k2, .tail _ k3, G.keep _ _ (hk3 _ _ k4), k5⟩
  refine next_raise (R3.noLimit.keeps G.keep) (by unfold recursionLimit; show A.depth + 1 < 1000; (first | lia | omega)) G.gen hgs
    (grp_raise (A := (A.deeper env2).in1) CC hI al G.ns (G.keep _ _ g2) G.size.symm hA.handled (by show A.depth + 1 + 1 < 990; (first | lia | omega)) (by show A.units + 3 + 1 + 3 < 9000; (first | lia | omega)) (hl := hl) (outer := env2 :: outer) (Ls := L :: Ls) frOut hOk neLg (fun b o e => ⟨G.keep _ _ (hk3 _ _ (hlS b o e)), fun q => by
      have := hk3 _ _ (hlS b o e)
      rw [q, G.freshL] at this; cases this⟩)) (fun s₁ e GR => ?_)
  have hga : (hideAll (s'.setGen s3.gens.size .running).heap (Lg :: L :: Ls)).get? ga = s'.heap.get? ga := by
    obtain ⟨og, _, _, hog, _⟩ := G.gen
    have hn : ga ∉ Lg :: L :: Ls := fun hm => by
      rcases List.mem_cons.mp hm with q | hm
      · exact Nat.ne_of_gt G.lt q
      · exact nega _ hm rfl
    rw [hog]
    exact hideAll_get _ hog hn
  refine ⟨?_, ?_, ?_⟩
  · obtain ⟨⟨a0, f1, _⟩, _⟩ := GR.fly
    obtain ⟨og, nm, qn, hog, hc, hd', _⟩ := G.gen
    exact ⟨og, f1 ga og (hga.trans hog), hc, (fun q => by rw [hd'] at q; cases q), nm, qn, hd'⟩
  · obtain ⟨⟨a0, f⟩, _⟩ := GR.fly
    exact f.there
  · refine GR.fly.look frOut frame2 fun h5 H5 => ?_
    refine Hel.back frame2 H5 fun h6 H6 => ?_
    refine Hel.leaves frame2 H6 fun h7 F7 => ?_
    refine hE e _ _ F7 (fun b o hb e => ?_) (fun g x q => ?_) (setGen_bare rfl GR.bare) ?_ ?_ GR.toks
    · refine hideAll_get _ (G.keep _ _ (hk3 _ _ e)) fun hm => ?_
      have h3 := hk3 _ _ e
      rcases List.mem_cons.mp hm with q | hm
      · rw [q, G.freshL] at h3; cases h3
      · rcases List.mem_cons.mp hm with q | hm
        · have := (hS b o e).1
          rw [q, hLn] at this; cases this
        · exact hb hm
    · have w := R3.hgens g x (hhg g x q)
      obtain ⟨hlt, _⟩ := Array.getElem?_eq_some_iff.mp w
      have ne : g ≠ s3.gens.size := Nat.ne_of_lt hlt
      have w2 : s'.gens[g]? = some x := by
        rw [G.gens, Array.getElem?_push_lt hlt, ← Array.getElem?_eq_getElem hlt]; exact w
      exact (setGen_out ne).trans (GR.gens g x ((setGen_out ne).trans w2))
    · exact GR.dr.trans (G.dr.trans (R3.dr.trans R0.dr.symm))
    · exact GR.os.trans (G.os.trans (R3.os.trans R0.os.symm))
theorem told_raise {S : Addr → Obj → Prop} {outer : List Env} {Ls : List Addr} {hl : Heap} {n : Nat} {is : List Int} {pl : Addr} {Q : Value → Shared → Prop} {E : Value → Shared → Prop} (hA : AOk A 9) (hfr : A.frames = some outer) (R0 : R W τ ls st s) (ht : 0 < s.toks)
    (hS : ∀ b o, S b o → s.heap.get? b = some o ∧ ∀ n, τ b ≠ .own n) (hO : OutS S Ls outer) (hLsS : ∀ b ∈ Ls, ∃ o, S b o) (hlS : ∀ b o, hl.get? b = some o → S b o) (hpl : τ pl = .own n) (hown : st.own[n]? = some ((0 :: is).map dI))
    (hE : ∀ e s' base, Fly base hl outer e s'.heap → (∀ b o, b ∉ Ls → S b o → base.get? b = some o) → (∀ (g : Nat) x, s.gens[g]? = some x → s'.gens[g]? = some x) → AllBare s'.gens → s'.drawn = s.drawn → s'.os = s.os → 0 < s'.toks → E (.ref e) s') :
    wpAny (model pw W.w) A (call (.ref 88) [.ref pl]) Q E s :=
  told_raise' (W := W.g fun (y : Nat) => s.gens[y]?) hA hfr (R0.regen R0.gens fun g x e => e) (fun g x e => e) ht hS hO hLsS hlS hpl hown hE
end
end Mine.Internal
end
section
set_option genInjectivity false
open PySem PySem.W PyProof.Rows PySem.Calls
namespace Mine.Internal
section
variable {W : Wd} {A : Around} {τ : Tau} {ls : List Loc} {st : PS} {s : Shared}
theorem R.slots (r : R W τ ls st s) {L0 : Addr} {s' : Shared} (h0 : τ L0 = .fix) (hk : ∀ b o, b ≠ L0 → s.heap.get? b = some o → s'.heap.get? b = some o) (hL : ∀ o, s.heap.get? L0 = some o → ∃ sl, s'.heap.get? L0 = some { o with slots := sl })
    (hd : s'.drawn = s.drawn) (ho : s'.os = s.os) (hb : AllBare s'.gens) (hg : ∀ (g : Nat) x, W.hg g = some x → s'.gens[g]? = some x) (ht : ∀ P, Loc.tab P ∉ ls) : R W τ ls st s' := by
  have ne : ∀ b, τ b ≠ .fix → b ≠ L0 := fun b h e => h (e ▸ h0)
  have kx : ∀ b o, τ b = .none → s.heap.get? b = some o → τ b = .none ∧ s'.heap.get? b = some o := fun b o e q => ⟨e, hk b o (ne b (by rw [e]; exact fun z => nomatch z)) q⟩
  have nsK : ∀ {L m}, s.heap.Ns L m → s'.heap.Ns L m := fun {L m} hn => by
    by_cases e : L = L0
    · subst e
      obtain ⟨o, es, ep, h1, h2, h3⟩ := hn
      obtain ⟨sl, h4⟩ := hL o h1
      exact ⟨_, es, ep, h4, h2, h3⟩
    · exact hn.at fun o q => hk L o e q
  have ceK : ∀ {c v}, s.heap.IsCell c v → s'.heap.IsCell c v := fun {c v} ⟨o, h1, h2⟩ => by
    by_cases e : c = L0
    · subst e
      obtain ⟨sl, h4⟩ := hL o h1
      exact ⟨_, h4, h2⟩
    · exact ⟨o, hk c o e h1, h2⟩
  refine ⟨r.ok, hd.trans r.dr, ho.trans r.os, hb, hg, fun b o e => ?_, fun n l e => ?_, r.uniq, r.bound, fun b o e => hk b o (ne b (by rw [e]; exact fun z => nomatch z)) (r.held b o e), fun b e => ?_, fun l hl => ?_, fun i v e => ?_, fun b e => ?_⟩
  · have z := r.base b o e
    exact ⟨(kx b o z.2 z.1).2, z.2⟩
  · obtain ⟨b, vs, ep, h1, h2, h3⟩ := r.own n l e
    exact ⟨b, vs, ep, h1, hk b _ (ne b (by rw [h1]; exact fun z => nomatch z)) h2, h3.keep kx (fun _ _ e => e)⟩
  · obtain ⟨o, h1⟩ := r.alive b e
    by_cases q : b = L0
    · subst q
      obtain ⟨sl, h4⟩ := hL o h1
      exact ⟨_, h4⟩
    · exact ⟨o, hk b o q h1⟩
  · have z := r.locs l hl
    cases l with
    | dict L x => obtain ⟨e, m, hm⟩ := z; exact ⟨e, m, nsK hm⟩
    | cell c b => obtain ⟨e, v, hv⟩ := z; exact ⟨e, v, ceK hv⟩
    | tab P => exact absurd hl (ht P)
  · obtain ⟨loc, v', h1, h2, h3⟩ := r.vars i v e
    refine ⟨loc, v', h1, ?_, h3.keep kx (fun _ _ e => e)⟩
    cases loc with
    | dict L x => obtain ⟨m, hm, e⟩ := h2; exact ⟨m, nsK hm, e⟩
    | cell c b => exact ceK h2
    | tab P => exact h2.elim
  · obtain ⟨o, h1, h2⟩ := r.fixed b e
    by_cases q : b = L0
    · subst q
      obtain ⟨sl, h4⟩ := hL o h1
      exact ⟨_, h4, h2⟩
    · exact ⟨o, hk b o q h1, h2⟩
set_option maxRecDepth 100000
set_option maxHeartbeats 4000000
inductive IsRef : List Stmt → Prop
  | mk {a1 a2 a3 a4 a5 a6 a7 a8 a9 b1 b2 b3 b4 b5 : Pos} {k1 k2 k3 : Nat} : IsRef [
      .Try [.Return (some (.Compare (.Call (.Name "_law_told" a1) [.BinOp (.List [.Constant (.int 0) k1 a2] a3) .Add (.Name "ruler" a4) a5] [] a6) [.Is] [.Constant .none k2 a7] a8)) a9]
        [.ExceptHandler (some (.Name "ValueError" b1)) none [.Return (some (.Constant (.bool true) k3 b2)) b3] b4] [] [] b5]
theorem refSh (q : Params) : IsRef (bodyOf q 95) := .mk
noncomputable def refNm : Nm := [(Str.ofString "ruler", NameKind.local), (Str.ofString "_law_told", NameKind.globalImplicit), (Str.ofString "ValueError", NameKind.globalImplicit)]
theorem nm_ref (q : Params) : nmChk refNm (fdOf q 95).scope.names = true := by kernel_rfl
theorem gen_ref (q : Params) : (fdOf q 95).scope.isGenerator = false := by kernel_rfl
theorem cell_ref (q : Params) : noCell (fdOf q 95).scope.names = true := by kernel_rfl
theorem loc_ref (q : Params) : allLoc (fdOf q 95).scope.names [Str.ofString "ruler"] = true := by kernel_rfl
noncomputable def refF : Fn := ⟨1, [], false, 0, [], false, .nil⟩
theorem fact_ref {W : Wd} (ok : W.Ok) : FnFact W 95 refF (fdOf W.w.params 95) [Str.ofString "ruler"] [Str.ofString "ruler"] (bodyOf W.w.params 95) :=
  fact_plain (ps := [Str.ofString "ruler"]) (r := []) ok (raw_refused' _) (noCell_ok (cell_ref _)) (gen_ref _) (allLoc_ok (loc_ref _)) (by decide +kernel) rfl (fun S us h => by obtain ⟨u, rfl⟩ := single h; exact bind_refused _ S u)
theorem refused_call {env0 : Env} {L0 : Addr} {o0 : Obj} {is : List Int} {u : Value} {Q : Value → Shared → Prop} {E : Value → Shared → Prop} (hA : AOk A 20) (hfr : A.frames = some [env0]) (hf0 : env0.frame = some L0) (hk0 : env0.scope.kind ≠ .module) (R0 : R W τ ls st s) (ht : 0 < s.toks)
    (hown : st.own = []) (hL0 : τ L0 = .fix) (ho0 : s.heap.get? L0 = some o0) (hd0 : ∀ vs, o0.data ≠ .fields vs) (htab : ∀ P, Loc.tab P ∉ ls) (hlen : is.length < 900) (hu : VR τ s.heap (.d (.list (is.map D.int))) u)
    (hQ : ∀ s', 0 < s'.toks → R W τ ls st s' → Q (.bool true) s') : wpAny (model pw W.w) A (call (.ref 95) [u]) Q E s := by
  have ok := R0.ok
  have hbase : ∀ b o, W.B b o → s.heap.get? b = some o := fun b o e => (R0.base b o e).1
  have hd := hA.depth
  have hun := hA.units
  refine fn_enter (v := .d (.list (is.map D.int))) (fact_ref ok) hA R0 hu rfl fun L h₀ hLn hk okc Re => ?_
  have K : CtxOk refNm [(Str.ofString "ruler", 0)] 1 (fnCx (fdOf W.w.params 95) [Str.ofString "ruler"] L 95) := ⟨okc, fun x k e => .inl (nmChk_ok (nm_ref W.w.params) e), rfl, rfl⟩
  rw [hown] at Re
  have hB := refSh W.w.params
  show wpAny _ (A.deeper (callEnv (fdOf W.w.params 95) L 95)) (execs (bodyOf W.w.params 95) (callEnv (fdOf W.w.params 95) L 95)) _ _ _
  generalize bodyOf W.w.params 95 = body at hB ⊢
  cases hB
  rename_i a1 a2 a3 a4 a5 a6 a7 a8 a9 b1 b2 b3 b4 b5 k1 k2 k3
  let env1 := callEnv (fdOf W.w.params 95) L 95
  have frame1 : env1.frame = some L := rfl
  have fr1 : (A.deeper env1).frames = some [env1, env0] := Around.frames_deeper hfr
  have hA1 : AOk (A.deeper env1) 9 := ⟨hA.handled, by show A.depth + 1 + 9 < 990; (first | lia | omega), by show A.units + 3 + 40 * 9 < 9000; (first | lia | omega)⟩
  refine wpAny_execs_cons (wpAny_Try_except (wpAny_execs_cons (wpAny_Return_some (wpAny_Compare1 ?_ rfl))))
  have h88 : ∃ o fd, W.B 88 o ∧ o.data = .func fd := ⟨_, _, .inl (ok.X _ _ (raw_told' _).at_), (raw_told' _).data⟩
  obtain ⟨o88, fd88, hB88, hd88⟩ := h88
  have hfn : FnN refNm (Str.ofString "_law_told") 88 := ⟨ns__law_told, rfl, rfl⟩
  refine wpAny_Call_Name_kw (wpAny_globName K.ok Re (hfn.ns _) (hfn.kindOf K.nm) ?_ hfn.dbg)
  refine callWith_function (o := o88) (fd := fd88) ?_
  have hte : TE W (fnCx (fdOf W.w.params 95) [Str.ofString "ruler"] L 95) 9 ⟨[some (.d (.list (is.map D.int)))], []⟩ (.BinOp (.List [.Constant (.int 0) k1 a2] a3) .Add (.Name (Str.ofString "ruler") a4) a5) (.ref 1) ⟨[some (.d (.list (is.map D.int)))], [[dI 0], (0 :: is).map dI]⟩ :=
    .bin (x := .ref 0) (y := .d (.list (is.map D.int))) (.list (.cons .int .nil rfl) (by decide)) (.name (x := Str.ofString "ruler") (i := 0) rfl rfl rfl rfl) (by
      have e1 : items ⟨[some (.d (.list (is.map D.int)))], [[dI 0]]⟩ (.ref 0) = some [dI 0] := rfl
      have e2 : items ⟨[some (.d (.list (is.map D.int)))], [[dI 0]]⟩ (.d (.list (is.map D.int))) = some (is.map dI) := congrArg some List.map_map
      exact oAddL e1 e2 (by simp; (first | lia | omega)))
  have he : backTo a6 (starEach [.BinOp (.List [.Constant (.int 0) k1 a2] a3) .Add (.Name (Str.ofString "ruler") a4) a5] env1) = [(false, eval (.BinOp (.List [.Constant (.int 0) k1 a2] a3) .Add (.Name (Str.ofString "ruler") a4) a5) env1)] := rfl
  show wpAny _ _ (evalArgs (.ref 88) true (backTo a6 (starEach [.BinOp (.List [.Constant (.int 0) k1 a2] a3) .Add (.Name (Str.ofString "ruler") a4) a5] env1)) []) _ _ _
  rw [he]
  refine evalArgs_plain (spliced_cons (hte K.ok _ _ _ _ _ hA1 Re (Nat.succ_pos _) fun τ2 s2 u2 t2 x2 R2 v2 => spliced_nil ?_))
  refine ⟨⟨(R2.base 88 o88 hB88).1, hd88⟩, ?_⟩
  obtain ⟨pl, rfl, hpl⟩ := v2
  have noOwn : ∀ b m, τ b ≠ .own m := fun b m e => by have := R0.bound b m e; rw [hown] at this; cases this
  have tin : ∀ b o, s.heap.get? b = some o → into τ (fun b => decide (b = L)) b = .none ∨ ∃ w, into τ (fun b => decide (b = L)) b = .held w := fun b o e => into_nh hLn (noOwn b) e
  have hk2 : ∀ b o, s.heap.get? b = some o → s2.heap.get? b = some o ∧ ∀ m, τ2 b ≠ .own m := fun b o e => by
    rcases tin b o e with q | ⟨w, q⟩
    · have z := x2.keep b o q (hk b o e)
      exact ⟨z.2, fun m => by rw [z.1]; exact fun z => nomatch z⟩
    · have z := (x2.claim b (by rw [q]; exact fun z => nomatch z)).trans q
      have w1 := Re.held b w q
      rw [hk b o e] at w1
      cases w1
      exact ⟨R2.held b _ z, fun m => by rw [z]; exact fun z => nomatch z⟩
  have hL2 : τ2 L = .fix := (x2.claim L (by rw [into_t (fx := fun b => decide (b = L)) (decide_eq_true rfl)]; exact fun z => nomatch z)).trans (into_t (fx := fun b => decide (b = L)) (decide_eq_true rfl))
  obtain ⟨_, m2, hn2⟩ := R2.locs (.dict L "ruler") (.head _)
  obtain ⟨o1, es1, ep1, ho1, hd1, _⟩ := id hn2
  refine told_raise (S := fun b o => s.heap.get? b = some o ∨ (b = L ∧ o = o1)) (outer := [env1, env0]) (Ls := [L, L0]) (hl := s.heap) (n := 1) (is := is) hA1 fr1 R2 t2 (fun b o e => ?_) (fun env he => ?_) (fun b hb => ?_) (fun b o e => .inl e) hpl rfl (fun e s3 base F3 hb3 hg3 ab3 dr3 os3 t3 => ?_)
  · rcases e with e | ⟨rfl, rfl⟩
    · exact hk2 b o e
    · exact ⟨ho1, fun m => by rw [hL2]; exact fun z => nomatch z⟩
  · rcases List.mem_cons.mp he with rfl | he
    · have hkm : env1.scope.kind ≠ .module := by
        have h : env1.scope.kind = .function := okc.kind
        rw [h]; exact fun q => (nomatch q)
      exact ⟨hkm, L, o1, frame1, .head _, .inr ⟨rfl, rfl⟩, fun vs q => by rw [hd1] at q; cases q⟩
    · rcases List.mem_singleton.mp he with rfl
      exact ⟨hk0, L0, o0, hf0, .tail _ (.head _), .inl ho0, hd0⟩
  · rcases List.mem_cons.mp hb with rfl | hb
    · exact ⟨o1, .inr ⟨rfl, rfl⟩⟩
    · rcases List.mem_singleton.mp hb with rfl
      exact ⟨o0, .inl ho0⟩
  · refine F3.look fr1 frame1 fun h4 H4 => ?_
    refine H4.lands fun h5 F5 => ?_
    have keepB : ∀ b o, b ≠ L0 → s.heap.get? b = some o → base.get? b = some o := fun b o hb e => hb3 b o (fun hm => by
      rcases List.mem_cons.mp hm with q | hm
      · rw [q, hLn] at e; cases e
      · exact hb (List.mem_singleton.mp hm)) (.inl e)
    have keep5 : ∀ b o, b ≠ L0 → s.heap.get? b = some o → h5.get? b = some o := fun b o hb e => by
      obtain ⟨⟨a0, f1, _⟩, _⟩ := F5
      exact f1 b o (keepB b o hb e)
    obtain ⟨loose, mean, mg, mb, T⟩ := ok.T
    have hW : ∀ b o, W.h₀.get? b = some o → h5.get? b = some o := fun b o e => keep5 b o (fun q => by
      have := (R0.base b o (.inl e)).2
      rw [q, hL0] at this; cases this) (hbase b o (.inl e))
    refine wpAny_handleBy_builtin (X := "ValueError") (T := "ValueError") (b := true) F.excRaise_ValueError.isExc (by rw [isSubtype_type]; kernel_rfl) value_value ?_
    have hkn : env1.kindOf (Str.ofString "ValueError") = some .globalImplicit := (K.nm _ _ (show refNm.lookup (Str.ofString "ValueError") = some .globalImplicit from rfl)).elim id fun q => (nomatch q.1)
    refine Name_function_global (env := env1) okc.kind hkn (loadGlobal_builtin (env := env1) (mg := mg) (mb := mb) (v := .type "ValueError") ?_ (mg_none_of ok.X T.g (ns_ValueError _)) ?_ ((T.builtins _ (by decide)).trans boot_ValueError) ⟨rfl, ?_, ?_⟩) rfl
    · rw [show env1.globals = mainGlobals from okc.glob]; exact T.g.keeps hW
    · rw [show env1.builtins = builtinsNs from okc.blt]; exact T.b.keeps hW
    · obtain ⟨⟨a0, f⟩, _⟩ := F5
      exact f.there
    · rw [if_pos rfl]
      refine F5.lands fun h6 F6 => ?_
      refine wpAny_execs_cons (wpAny_Return_some (wpAny_Constant_bool ?_))
      refine hQ _ t3 (R0.slots hL0 (fun b o hb e => ?_) (fun o e => ?_) (dr3.trans (R2.dr.trans R0.dr.symm)) (os3.trans (R2.os.trans R0.os.symm)) ab3 (fun g x q => hg3 g x (R2.hgens g x q)) htab)
      · obtain ⟨⟨a0, f1, _⟩, _⟩ := F6
        exact f1 b o (keepB b o hb e)
      · rw [ho0] at e
        cases e
        exact F6.up L0 _ ho0 hd0
end
end Mine.Internal
end
section
set_option genInjectivity false
open PySem PySem.W PyProof.Rows PySem.Calls
namespace Mine.Internal
inductive Tl
  | nil
  | cons (s : S) (t : Tl)
  | frz (i : Nat) (t : Tl)
  | ref (a e : E) (t : Tl)
noncomputable def evL (F : Addr → Option Fn) (n : Nat) : Tl → PS → Option (Fl × PS)
  | .nil, st => some (.next, st)
  | .cons s t, st => bd2 (evS F n s st) fun f st1 => onNext f st1 (evL F n t st1)
  | .frz i t, st => bd (frzVar st i) fun st1 => evL F n t st1
  | .ref a e t, st => bd2 (evB F n a st) fun b st1 => gd (b = false) (bd2 (evE F n e st1) fun v st2 => bd (asZ v) fun l => gd (st2.own.length = 0) (bd (ints? (l.map V.d)) fun is => gd (is.length < 900) (evL F n t st2)))
noncomputable def fnsT : List (Addr × Fn) := [(23, insortF), (32, bisectF), (46, stripF), (53, checkF), (60, strxfrmF), (74, cellsF), (81, rulerF), (88, toldF), (100, namesF), (107, shapesF), (112, filledF), (119, billF), (126, laidF)]
noncomputable def fnsL (a : Addr) : Option Fn := fnsT.lookup a
noncomputable def AllT (P : Addr → Fn → Prop) : List (Addr × Fn) → Prop
  | [] => True
  | p :: r => P p.1 p.2 ∧ AllT P r
theorem allT_get {P : Addr → Fn → Prop} {a : Addr} {f : Fn} : ∀ {l : List (Addr × Fn)}, AllT P l → l.lookup a = some f → P a f
  | [], _, h => nomatch h
  | (b, g) :: r, ⟨h1, h2⟩, h => by
    rw [List.lookup_cons] at h
    by_cases hb : a = b
    · subst hb
      rw [beq_self_eq_true] at h
      cases h
      exact h1
    · rw [beq_eq_false_iff_ne.mpr hb] at h
      exact allT_get h2 h
theorem fnsL_ok {W : Wd} (ok : W.Ok) : ∀ a f, fnsL a = some f → FnOk W a f := fun a f h => allT_get (P := FnOk W) (l := fnsT) ⟨.plain (fact_insort ok) (nm_insort' _) (insortIs _), .plain (fact_bisect ok) (nm_bisect' _) (bisectIs _), .plain (fact_strip ok) (nm_strip' _) (stripIs _), .plain (fact_check ok) (nm_check' _) (checkIs _), .plain (fact_strxfrm ok) (nm_strxfrm' _) (strxfrmIs _), .plain (fact_cells ok) (nm_cells' _) (cellsIs _), .plain (fact_ruler ok) (nm_ruler' _) (rulerIs _), .plain (fact_told ok) (nm_told' _) (toldIs _), .cells (fact_names ok) rfl (nm_names' _) (namesIs _), .plain (fact_shapes ok) (nm_shapes' _) (shapesIs _), .plain (fact_filled ok) (nm_filled' _) (filledIs _), .plain (fact_bill ok) (nm_bill' _) (billIs _), .plain (fact_laid ok) (nm_laid' _) (laidIs _), trivial⟩ h
theorem fnsL_obj {W : Wd} (ok : W.Ok) : ObjOk W fnsL := fun a f h =>
  have key : ∀ {a c : Addr}, Raw W.w.params a c → ∃ o fd, W.B a o ∧ o.data = .func fd := fun r => ⟨_, _, .inl (ok.X _ _ r.at_), r.data⟩
  allT_get (P := fun a _ => ∃ o fd, W.B a o ∧ o.data = .func fd) (l := fnsT) ⟨key (raw_insort' _), key (raw_bisect' _), key (raw_strip' _), key (raw_check' _), key (raw_strxfrm' _), key (raw_cells' _), key (raw_ruler' _), key (raw_told' _), key (raw_names' _), key (raw_shapes' _), key (raw_filled' _), key (raw_bill' _), key (raw_laid' _), trivial⟩ h
theorem snd_law {W : Wd} (ok : W.Ok) (N : Nat) : Snd W fnsL N :=
  soundness (fnsL_obj ok) (fun g => hEsc _ _) (fun g => hGrp _ _) (fun g => fun n c nm ix cap f k z x st st1 K hx he => (nomatch hx)) (fun g => hcall (fnsL_ok ⟨ok.X, ok.T⟩)) N
inductive IsL (nm : Nm) (ix : Ix) (cap : Nat) (pl : Pos) : Tl → List Stmt → Prop
  | nil : IsL nm ix cap pl .nil []
  | cons {a t x xs} : IsS nm ix cap a x → IsL nm ix cap pl t xs → IsL nm ix cap pl (.cons a t) (x :: xs)
  | frz {i t xs} : IsL nm ix cap pl t xs → IsL nm ix cap pl (.frz i t) xs
  | ins {f k z i a xn q1 iter x q2 t xs e n q3 q4} : IsIns nm ix pl f k z x → TgtN nm ix cap xn i → ix.lookup (Str.ofString "sizes") = some z → iter = Expr.Call (.Name n q1) [e] [] q2 → BltN nm n (.type "range") → IsE nm ix cap a e → IsL nm ix cap pl t xs →
      IsL nm ix cap pl (.cons (.for i (.range1 a) (.cons (.insort f k z) .nil)) t) (.For (.Name xn q3) iter [x] [] q4 :: xs)
  | ref {a e t l er xs body px pc p1 p2 p3} : IsE nm ix cap a l → IsE nm ix cap e er → FnN nm "_law_refused" 95 → IsL nm ix cap pl t xs →
      IsL nm ix cap pl (.ref a e t) (.If (.BoolOp .Or [l, .UnaryOp .Not (.Call (.Name "_law_refused" px) [er] [] pc) p1] p2) body [] p3 :: xs)
end Mine.Internal
end
section
set_option genInjectivity false
open PySem PySem.W PyProof.Rows PySem.Calls
namespace Mine.Internal
theorem R.frzVarC {W : Wd} {τ : Tau} {ls : List Loc} {st st1 : PS} {s : Shared} {i : Nat} (r : R W τ ls st s) (h : Mine.Internal.frzVar st i = some st1) : ∃ m, R W (cut τ m) ls st1 s := by
  refine bd_c h fun v hv h => bd_c h fun k hk h => bd2_c h fun w st2 hf h => ?_
  cases h
  obtain ⟨loc, rv, h1, h2, h3⟩ := r.vars i _ (asR_e hk ▸ getV_some hv)
  have z := frz_ok (r.forget i) h3 hf
  exact ⟨_, z.1.put h1 h2 z.2⟩
theorem ins_next {F : Addr → Option Fn} {i f k z : Nat} : ∀ {n : Nat} {src : Src} {st st2 : PS} {fl : Fl}, evF F n i src (.cons (.insort f k z) .nil) st = some (fl, st2) → fl = .next
  | 0, src, st, st2, fl, h => nomatch (show (Option.none : Option (Fl × PS)) = some _ from h)
  | n + 1, src, st, st2, fl, h => by
    refine bd_c (x := src.next st) h fun nx hnx h => ?_
    rcases nx with _ | ⟨v, src'⟩
    · cases h; rfl
    · refine bd_c (x := setVar st i v) h fun st1 _ h => bd2_c (x := evSs F n (.cons (.insort f k z) .nil) st1) h fun f2 s3 hq h => ?_
      obtain ⟨stb, hins, eq⟩ := ins_body hq
      obtain ⟨e1, e2⟩ := Prod.mk.inj eq
      subst e1 e2
      exact ins_next h
structure LawEnv (W : Wd) (c : Cx) (nm : Nm) (ix : Ix) (cap : Nat) (cz : Addr) (bz : Bool) : Prop where
  K : CtxOk nm ix cap c
  code : c.env.code = .ref 130
  cl : c.env.cells.lookup (Str.ofString "sizes") = some cz
  lz : ∀ z, ix.lookup (Str.ofString "sizes") = some z → c.ls[z]? = some (.cell cz bz)
  frame : ∃ L0 x, c.env.frame = some L0 ∧ Loc.dict L0 x ∈ c.ls
  notab : ∀ P, Loc.tab P ∉ c.ls
noncomputable def TLs (W : Wd) (c : Cx) (q : Str) (pl : Pos) (N : Nat) (st : PS) (xs : List Stmt) (f : Fl) (st' : PS) : Prop :=
  ∀ (A : Around) (τ : Tau) (s : Shared) (Q : Flow → Shared → Prop) (E : Value → Shared → Prop), AOk A N → A.frames = some [c.env] → R W τ c.ls st s → JJ q pl τ → 0 < s.toks →
    (∀ τ' s' f', 0 < s'.toks → R W τ' c.ls st' s' → JJ q pl τ' → FR τ' s'.heap f f' → Q f' s') → wpAny (model pw W.w) A (execs xs c.env) Q E s
section
variable {W : Wd} {c : Cx} {nm : Nm} {ix : Ix} {cap : Nat} {cz : Addr} {bz : Bool} {pl : Pos} {N : Nat}
noncomputable def TlIh (W : Wd) (c : Cx) (pl : Pos) (N : Nat) (t : Tl) (xs : List Stmt) : Prop := ∀ st f st', evL fnsL N t st = some (f, st') → TLs W c (c.env.qual ++ "<lambda>") pl N st xs f st'
theorem tls_frz {i : Nat} {t : Tl} {xs : List Stmt} (ih : TlIh W c pl N t xs) : TlIh W c pl N (.frz i t) xs := fun st f st' he => by
  refine bd_c (x := frzVar st i) he fun st1 e1 he => ?_
  intro A τ s Q E hA hfr R0 J ht hQ
  obtain ⟨m, R1⟩ := R0.frzVarC e1
  exact ih _ _ _ he A _ s Q E hA hfr R1 (J.cut m) ht hQ
theorem tls_cons {a : S} {x : Stmt} {t : Tl} {xs : List Stmt} (LE : LawEnv W c nm ix cap cz bz) (S : Snd W fnsL N) (h1 : IsS nm ix cap a x) (ih : TlIh W c pl N t xs) : TlIh W c pl N (.cons a t) (x :: xs) := fun st f st' he => by
  refine bd2_c (x := evS fnsL N a st) he fun g st1 e1 he => ?_
  intro A τ s Q E hA hfr R0 J ht hQ
  refine wpAny_execs_cons ((S.s LE.K h1 e1).tl LE.K.ok A τ s _ E hA hfr R0 J ht fun τ1 s1 f' t1 R1 J1 v1 => ?_)
  cases g with
  | next => cases v1; exact ih _ _ _ he A τ1 s1 Q E hA hfr R1 J1 t1 hQ
  | brk => cases he; cases v1; exact hQ τ1 s1 _ t1 R1 J1 rfl
  | cont => cases he; cases v1; exact hQ τ1 s1 _ t1 R1 J1 rfl
  | ret v => cases he; obtain ⟨r, rfl, hr⟩ := v1; exact hQ τ1 s1 _ t1 R1 J1 ⟨r, rfl, hr⟩
theorem for_src {m i : Nat} {a : E} {b : Ss} {st : PS} {r : Fl × PS} (hr : evS fnsL (m + 1) (.for i (.range1 a) b) st = some r) : ∃ y st1, evI fnsL m (.range1 a) st = some (.rng 0 1 y, st1) ∧ evF fnsL m i (.rng 0 1 y) b st1 = some r := by
  refine bd2_c hr fun src st1 hi hf => ?_
  cases m with
  | zero => exact nomatch (show (Option.none : Option (Src × PS)) = some _ from hi)
  | succ m =>
    refine bdI_c hi fun y s1 e1 e2 => gd_c e2 fun _ e2 => ?_
    obtain ⟨g1, g2⟩ := Prod.mk.inj (Option.some.inj e2)
    exact ⟨y.toNat, st1, g1 ▸ hi, g1 ▸ hf⟩
theorem tls_ins {f k z i : Nat} {a : E} {xn : Str} {q1 q2 q3 q4 : Pos} {x : Stmt} {xs : List Stmt} {e : Expr} {n : Str} {t : Tl} (hN : 60 ≤ N) (LE : LawEnv W c nm ix cap cz bz) (S' : Snd W fnsL (N - 1)) (h1 : IsIns nm ix pl f k z x) (h2 : TgtN nm ix cap xn i)
    (h3 : ix.lookup (Str.ofString "sizes") = some z) (h5 : BltN nm n (.type "range")) (h6 : IsE nm ix cap a e) (ih : TlIh W c pl N t xs) : TlIh W c pl N (.cons (.for i (.range1 a) (.cons (.insort f k z) .nil)) t) (.For (.Name xn q3) (.Call (.Name n q1) [e] [] q2) [x] [] q4 :: xs) := fun st fl st' he => by
  obtain ⟨m, rfl⟩ : ∃ m, N = m + 1 := ⟨N - 1, by first | lia | omega⟩
  intro A τ s Q E hA hfr R0 J ht hQ
  · refine bd2_c (x := evS fnsL (m + 1) (.for i (.range1 a) (.cons (.insort f k z) .nil)) st) he fun fl2 st2 hs he => ?_
    obtain ⟨y, st1, hi, hf⟩ := for_src hs
    have hfl : fl2 = .next := ins_next hf
    subst hfl
    refine wpAny_execs_cons (ins_for LE.K LE.code LE.cl (LE.lz _ h3) h1 h2 hN (TI.up (S'.i LE.K (.range1 h5 h6) hi)) hf (fun _ => rfl) A τ s _ E hA hfr R0 J ht fun τ1 s1 f' t1 R1 J1 v1 => ?_)
    cases v1
    exact ih _ _ _ he A τ1 s1 Q E hA hfr R1 J1 t1 hQ
theorem tls_ref {a el : E} {t : Tl} {l er : Expr} {xs body : List Stmt} {px pc p1 p2 p3 : Pos} (hN : 60 ≤ N) (LE : LawEnv W c nm ix cap cz bz) (S : Snd W fnsL N) (h1 : IsE nm ix cap a l) (h2 : IsE nm ix cap el er) (h3 : FnN nm "_law_refused" 95) (ih : TlIh W c pl N t xs) :
    TlIh W c pl N (.ref a el t) (.If (.BoolOp .Or [l, .UnaryOp .Not (.Call (.Name "_law_refused" px) [er] [] pc) p1] p2) body [] p3 :: xs) := fun st f st' he => by
  intro A τ s Q E hA hfr R0 J ht hQ
  refine bd2_c (x := evB fnsL N a st) he fun b st1 e1 he1 => gd_c he1 fun hb he2 => bd2_c he2 fun v st2 e2 he3 => bd_c he3 fun ld hz he4 => gd_c he4 fun ho he5 => bd_c he5 fun is his he6 => gd_c he6 fun hlen he7 => ?_
  clear he he1 he2 he3 he4 he5 he6
  subst hb
  rw [asZ_e hz] at e2
  obtain ⟨vs, ow⟩ := st2
  have how : ow = [] := List.length_eq_zero_iff.mp ho
  subst how
  have ok := LE.K.ok
  have hl2 := ints_map his
  subst hl2
  obtain ⟨L0, x0, hf0, hm0⟩ := LE.frame
  refine wpAny_execs_cons (wpAny_If (wpAny_isTrue_BoolOp (wpAny_allTrue_Or_cons ((S.b LE.K h1 e1) ok A τ s _ E hA R0 ht fun τ1 s1 t1 x1 R1 => wpAny_allTrue_Or_cons (wpAny_isTrue_Not (wpAny_isTrue_value ?_ rfl))))))
  have h95 : ∃ o fd, W.B 95 o ∧ o.data = .func fd := ⟨_, _, .inl (R0.ok.X _ _ (raw_refused' _).at_), (raw_refused' _).data⟩
  obtain ⟨o, fd, hB, hd⟩ := h95
  refine wpAny_Call_Name_kw (wpAny_globName ok R1 (h3.ns _) (h3.kindOf LE.K.nm) ?_ h3.dbg)
  refine callWith_function (o := o) (fd := fd) ?_
  have hst : ∀ p, backTo p (starEach [er] c.env) = [(false, eval er c.env)] := fun p => by
    have := h2.noStar
    rw [this]; rfl
  rw [hst]
  refine evalArgs_plain (spliced_cons ((S.e LE.K h2 e2) ok A τ1 s1 _ E hA R1 t1 fun τ2 s2 u t2 x2 R2 v2 => spliced_nil ⟨⟨(R2.base 95 o hB).1, hd⟩, ?_⟩))
  have hl0 := R2.locs _ hm0
  obtain ⟨hfx, m0, hn0⟩ := hl0
  obtain ⟨o0, es0, ep0, ho0, hd0, _⟩ := id hn0
  refine refused_call (hA.le (by first | lia | omega)) hfr hf0 (by rw [ok.kind]; exact fun q => nomatch q) R2 t2 rfl hfx ho0 (fun vs q => by rw [hd0] at q; cases q) LE.notab hlen v2 fun s3 t3 R3 => ?_
  refine wpAny_truthy_bool ?_
  refine wpAny_allTrue_Or_nil ?_
  exact wpAny_execs_nil (ih _ _ _ he7 A τ2 s3 Q E hA hfr R3 ((J.ext x1).ext x2) t3 hQ)
noncomputable def LInv (nm : Nm) (ix : Ix) (cap : Nat) (pl : Pos) : Tl → List Stmt → Prop
  | .nil, xs => xs = []
  | .frz _ t, xs => IsL nm ix cap pl t xs
  | .cons a t, xs => (∃ x ys, xs = x :: ys ∧ IsS nm ix cap a x ∧ IsL nm ix cap pl t ys) ∨
      ∃ f k z i a' xn q1 q2 q3 q4 x ys e n, a = .for i (.range1 a') (.cons (.insort f k z) .nil) ∧ xs = .For (.Name xn q3) (.Call (.Name n q1) [e] [] q2) [x] [] q4 :: ys ∧ IsIns nm ix pl f k z x ∧ TgtN nm ix cap xn i ∧
        ix.lookup (Str.ofString "sizes") = some z ∧ BltN nm n (.type "range") ∧ IsE nm ix cap a' e ∧ IsL nm ix cap pl t ys
  | .ref a e t, xs => ∃ l er ys body px pc p1 p2 p3, xs = .If (.BoolOp .Or [l, .UnaryOp .Not (.Call (.Name "_law_refused" px) [er] [] pc) p1] p2) body [] p3 :: ys ∧ IsE nm ix cap a l ∧ IsE nm ix cap e er ∧ FnN nm "_law_refused" 95 ∧ IsL nm ix cap pl t ys
theorem l_inv {t : Tl} {xs : List Stmt} (h : IsL nm ix cap pl t xs) : LInv nm ix cap pl t xs := by
  induction h using IsL.casesOn with
  | nil => rfl
  | cons h1 h2 => exact .inl ⟨_, _, rfl, h1, h2⟩
  | frz h => exact h
  | ins h1 h2 h3 h4 h5 h6 h7 => exact .inr ⟨_, _, _, _, _, _, _, _, _, _, _, _, _, _, rfl, by rw [h4], h1, h2, h3, h5, h6, h7⟩
  | ref h1 h2 h3 h4 => exact ⟨_, _, _, _, _, _, _, _, _, rfl, h1, h2, h3, h4⟩
theorem tl_ih (hN : 60 ≤ N) (LE : LawEnv W c nm ix cap cz bz) (S : Snd W fnsL N) (S' : Snd W fnsL (N - 1)) : ∀ (t : Tl) (xs : List Stmt), IsL nm ix cap pl t xs → TlIh W c pl N t xs
  | .nil, xs, h => by
    have : xs = [] := l_inv h
    subst this
    intro st f st' he
    cases he
    exact fun A τ s Q E hA hfr R0 J ht hQ => wpAny_execs_nil (hQ τ s _ ht R0 J rfl)
  | .frz i t, xs, h => tls_frz (tl_ih hN LE S S' t xs (l_inv h))
  | .cons a t, xs, h => by
    rcases l_inv h with ⟨x, ys, rfl, h1, h2⟩ | ⟨f, k, z, i, a', xn, q1, q2, q3, q4, x, ys, e, n, rfl, rfl, h1, h2, h3, h5, h6, h7⟩
    · exact tls_cons LE S h1 (tl_ih hN LE S S' t ys h2)
    · exact tls_ins hN LE S' h1 h2 h3 h5 h6 (tl_ih hN LE S S' t ys h7)
  | .ref a e t, xs, h => by
    obtain ⟨l, er, ys, body, px, pc, p1, p2, p3, rfl, h1, h2, h3, h4⟩ := l_inv h
    exact tls_ref hN LE S h1 h2 h3 (tl_ih hN LE S S' t ys h4)
end
theorem tl_sound {W : Wd} {c : Cx} {nm : Nm} {ix : Ix} {cap : Nat} {cz : Addr} {bz : Bool} {pl : Pos} {N : Nat} (hN : 60 ≤ N) (LE : LawEnv W c nm ix cap cz bz) (S : Snd W fnsL N) (S' : Snd W fnsL (N - 1)) {t : Tl} {xs : List Stmt} {st st' : PS} {f : Fl} (h : IsL nm ix cap pl t xs) (he : evL fnsL N t st = some (f, st')) :
    TLs W c (c.env.qual ++ "<lambda>") pl N st xs f st' := tl_ih hN LE S S' t xs h st f st' he
end Mine.Internal
end
section
set_option genInjectivity false
open PySem PySem.W PyProof.Rows PySem.Calls
set_option maxRecDepth 100000
set_option maxHeartbeats 8000000
namespace Mine.Internal
noncomputable def lawL : Tl := (.cons (.assign 1 (.call 74 (.cons (.var 0) .nil))) (.cons (.assign 2 (.call 81 (.cons (.bin .Mod (.sub (.var 1) (.int 0)) (.int 48)) .nil))) (.cons (.assign 3 (.call 100 (.cons (.bin .Mod (.sub (.var 1) (.int 2)) (.int 336)) .nil))) (.cons (.assign 4 (.call 88 (.cons (.sub (.var 2) (.int 0)) .nil))) (.ref (.cmp .NotEq (.var 4) (.sub (.var 2) (.int 1))) (.sub (.var 2) (.int 0)) (.cons (.assign 5 (.frz (.take (.var 4) 3))) (.cons (.assign 6 (.list .nil)) (.cons (.for 7 (.range1 (.int 3)) (.cons (.insort 6 7 5) .nil)) (.cons (.ite (.cmp .NotEq (.var 6) (.frz (.comp 2 [5] (.var 1) 0 (.range3 (.int 3) (.int 0) (.neg (.int 1))) .no (.cons 1 (.range1 (.int 3)) (.yes (.cmp .Eq (.sub (.var 2) (.var 1)) (.var 0))) .nil)))) (.cons (.ret (.bool false)) .nil) .nil) (.frz 6 (.cons (.assign 8 (.list .nil)) (.cons (.for 9 (.list (.call 107 (.cons (.sum (.var 5)) (.cons (.sum (.var 5)) (.cons (.int 4) .nil))))) (.cons (.assign 10 (.call 112 (.cons (.var 9) (.cons (.var 5) .nil)))) (.cons (.assign 11 (.call 53 (.cons (.call 119 (.cons (.var 9) (.cons (.var 3) (.cons (.var 5) (.cons (.var 6) .nil))))) .nil))) (.cons (.ite (.cmp .Is (.var 10) .none) (.cons (.ite (.cmp .IsNot (.var 11) (.bool false)) (.cons (.ret (.bool false)) .nil) .nil) .nil) (.cons (.assign 12 (.frz (.comp 1 [3] (.comp 1 [1] (.sub (.var 1) (.var 0)) 0 (.list (.var 0)) .no .nil) 0 (.list (.var 10)) .no .nil))) (.cons (.ite (.or (.cmp .IsNot (.var 11) (.bool true)) (.cmp .NotEq (.call 126 (.cons (.frz (.comp 2 [] (.var 1) 0 (.list (.rev (.var 12))) .no (.cons 1 (.list (.var 0)) .no .nil))) .nil)) (.var 12))) (.cons (.ret (.bool false)) .nil) .nil) (.cons (.append (.var 8) (.var 9)) .nil)))) .nil)))) (.cons (.assign 13 (.comp 2 [5] (.var 0) 0 (.range1 (.int 3)) .no (.cons 1 (.range1 (.sub (.var 2) (.var 0))) .no .nil))) (.cons (.assign 14 (.bin .Mod (.sub (.var 1) (.int 1)) (.int 5040))) (.cons (.assign 15 (.list .nil)) (.cons (.while (.cmp .NotEq (.var 13) (.list .nil)) (.cons (.append (.var 15) (.sub (.var 3) (.pop (.var 13) (.bin .Mod (.var 14) (.len (.var 13)))))) (.cons (.assign 14 (.bin .FloorDiv (.var 14) (.bin .Add (.len (.var 13)) (.int 1)))) .nil))) (.frz 15 (.cons (.assign 16 (.call 126 (.cons (.var 15) .nil))) (.cons (.assign 17 (.frz (.comp 1 [] (.len (.var 0)) 0 (.list (.var 16)) .no .nil))) (.cons (.ite (.cmp .NotIn (.var 17) (.var 8)) (.cons (.ret (.bool false)) .nil) .nil) (.cons (.for 7 (.range1 (.len (.var 16))) (.cons (.ite (.cmp .NotEq (.frz (.comp 1 [16, 7] (.var 0) 0 (.range2 (.int 1) (.sub (.var 17) (.var 7))) (.yes (.cmp .Gt (.sub (.sub (.var 1) (.var 2)) (.bin .Sub (.var 0) (.int 1))) (.sub (.sub (.var 1) (.var 2)) (.var 0)))) .nil)) (.list .nil)) (.cons (.ret (.bool false)) .nil) .nil) (.cons (.ite (.and (.cmp .Gt (.var 7) (.int 0)) (.cmp .NotEq (.frz (.comp 1 [16, 7] (.var 0) 0 (.range1 (.sub (.var 17) (.var 7))) (.yes (.cmp .GtE (.sub (.sub (.var 1) (.bin .Sub (.var 2) (.int 1))) (.var 0)) (.sub (.sub (.var 1) (.var 2)) (.var 0)))) .nil)) (.list .nil))) (.cons (.ret (.bool false)) .nil) .nil) .nil))) (.cons (.assign 18 (.call 119 (.cons (.var 17) (.cons (.var 3) (.cons (.var 5) (.cons (.var 6) .nil)))))) (.cons (.ret (.and (.cmp .Is (.call 53 (.cons (.bin .Add (.str ")") (.var 18)) .nil)) (.bool false)) (.cmp .Is (.call 53 (.cons (.bin .Add (.var 18) (.str "(")) .nil)) (.bool false)))) .nil)))))))))))))))))))))))
theorem lawLIs (q : Params) : IsL lawNm lawVn.zipIdx 19 ⟨183, 37, 183, 60⟩ lawL (bodyOf q 131) :=
  (.cons (.sAssign (fun _ => rfl) ⟨rfl, by decide, .inl rfl⟩ (.call ⟨ns__law_cells, rfl, rfl⟩ (.esCons (.var ⟨rfl, rfl, rfl⟩) .esNil) ⟨fun _ _ => rfl, trivial⟩)) (.cons (.sAssign (fun _ => rfl) ⟨rfl, by decide, .inl rfl⟩ (.call ⟨ns__law_ruler, rfl, rfl⟩ (.esCons (.bin (.sub (fun _ _ _ => rfl) (.var ⟨rfl, rfl, rfl⟩) .int) .int) .esNil) ⟨fun _ _ => rfl, trivial⟩)) (.cons (.sAssign (fun _ => rfl) ⟨rfl, by decide, .inr rfl⟩ (.call ⟨ns__law_names, rfl, rfl⟩ (.esCons (.bin (.sub (fun _ _ _ => rfl) (.var ⟨rfl, rfl, rfl⟩) .int) .int) .esNil) ⟨fun _ _ => rfl, trivial⟩)) (.cons (.sAssign (fun _ => rfl) ⟨rfl, by decide, .inl rfl⟩ (.call ⟨ns__law_told, rfl, rfl⟩ (.esCons (.sub (fun _ _ _ => rfl) (.var ⟨rfl, rfl, rfl⟩) .int) .esNil) ⟨fun _ _ => rfl, trivial⟩)) (.ref (.cmp rfl (.var ⟨rfl, rfl, rfl⟩) (.sub (fun _ _ _ => rfl) (.var ⟨rfl, rfl, rfl⟩) .int)) (.sub (fun _ _ _ => rfl) (.var ⟨rfl, rfl, rfl⟩) .int) ⟨ns__law_refused, rfl, rfl⟩ (.cons (.sAssign (fun _ => rfl) ⟨rfl, by decide, .inr rfl⟩ (.frz (.take (fun _ _ => rfl) (.var ⟨rfl, rfl, rfl⟩)) (fun _ _ => rfl))) (.cons (.sAssign (fun _ => rfl) ⟨rfl, by decide, .inl rfl⟩ (.list .esNil)) (.ins (.mk ⟨ns_insort_right, rfl, rfl⟩ ⟨rfl, rfl, rfl⟩ ⟨rfl, rfl, rfl⟩ rfl) ⟨rfl, by decide, .inr rfl⟩ rfl rfl ⟨ns_range, rfl, by decide, rfl, rfl⟩ .int (.cons (.sIte (.cmp rfl (.var ⟨rfl, rfl, rfl⟩) (.frz (.comp (vn := ["size", "place"]) (fn := ["sizes"]) rfl (by unfold CompOk; decide +kernel) (fun _ _ => rfl) (.iRange3 ⟨ns_range, rfl, by decide, rfl, rfl⟩ .int .int (.neg .int)) (.var ⟨rfl, rfl, rfl⟩) (.gCons rfl ⟨rfl, by decide, .inl rfl⟩ .opNo rfl (fun _ _ => rfl) (.iRange1 ⟨ns_range, rfl, by decide, rfl, rfl⟩ .int) (.gNil rfl ⟨rfl, by decide, .inl rfl⟩ (.opYes (.cmp rfl (.sub (fun _ _ _ => rfl) (.var ⟨rfl, rfl, rfl⟩) (.var ⟨rfl, rfl, rfl⟩)) (.var ⟨rfl, rfl, rfl⟩))) rfl))) (fun _ _ => rfl))) (.ssCons (.sRet .bool) .ssNil) .ssNil) (.frz (.cons (.sAssign (fun _ => rfl) ⟨rfl, by decide, .inl rfl⟩ (.list .esNil)) (.cons (.sFor ⟨rfl, by decide, .inl rfl⟩ (fun _ _ => rfl) (.iList (.call ⟨ns__law_shapes, rfl, rfl⟩ (.esCons (.sum ⟨ns_sum, rfl, by decide, rfl, rfl⟩ (.var ⟨rfl, rfl, rfl⟩)) (.esCons (.sum ⟨ns_sum, rfl, by decide, rfl, rfl⟩ (.var ⟨rfl, rfl, rfl⟩)) (.esCons .int .esNil))) ⟨fun _ _ => rfl, fun _ _ => rfl, fun _ _ => rfl, trivial⟩)) (.ssCons (.sAssign (fun _ => rfl) ⟨rfl, by decide, .inl rfl⟩ (.call ⟨ns__law_filled, rfl, rfl⟩ (.esCons (.var ⟨rfl, rfl, rfl⟩) (.esCons (.var ⟨rfl, rfl, rfl⟩) .esNil)) ⟨fun _ _ => rfl, fun _ _ => rfl, trivial⟩)) (.ssCons (.sAssign (fun _ => rfl) ⟨rfl, by decide, .inl rfl⟩ (.call ⟨ns__check_parenthesis, rfl, rfl⟩ (.esCons (.call ⟨ns__law_bill, rfl, rfl⟩ (.esCons (.var ⟨rfl, rfl, rfl⟩) (.esCons (.var ⟨rfl, rfl, rfl⟩) (.esCons (.var ⟨rfl, rfl, rfl⟩) (.esCons (.var ⟨rfl, rfl, rfl⟩) .esNil)))) ⟨fun _ _ => rfl, fun _ _ => rfl, fun _ _ => rfl, fun _ _ => rfl, trivial⟩) .esNil) ⟨fun _ _ => rfl, trivial⟩)) (.ssCons (.sIte (.cmp rfl (.var ⟨rfl, rfl, rfl⟩) .none) (.ssCons (.sIte (.cmp rfl (.var ⟨rfl, rfl, rfl⟩) .bool) (.ssCons (.sRet .bool) .ssNil) .ssNil) .ssNil) (.ssCons (.sAssignF rfl rfl rfl ⟨rfl, by decide, .inl rfl⟩ (.cpMk (vn := ["row"]) (fn := ["names"]) rfl (by unfold CompOk; decide +kernel) (fun _ _ => rfl) (.iList (.var ⟨rfl, rfl, rfl⟩)) (.comp (vn := ["letter"]) (fn := ["names"]) rfl (by unfold CompOk; decide +kernel) (fun _ _ => rfl) (.iList (.var ⟨rfl, rfl, rfl⟩)) (.sub (fun _ _ _ => rfl) (.var ⟨rfl, rfl, rfl⟩) (.var ⟨rfl, rfl, rfl⟩)) (.gNil rfl ⟨rfl, by decide, .inl rfl⟩ .opNo rfl)) (.gNil rfl ⟨rfl, by decide, .inl rfl⟩ .opNo rfl))) (.ssCons (.sIte (.or (.cmp rfl (.var ⟨rfl, rfl, rfl⟩) .bool) (.cmp rfl (.call ⟨ns__law_laid, rfl, rfl⟩ (.esCons (.frz (.comp (vn := ["row", "name"]) (fn := []) rfl (by unfold CompOk; decide +kernel) (fun _ _ => rfl) (.iList (.rev (fun _ _ => rfl) (.var ⟨rfl, rfl, rfl⟩))) (.var ⟨rfl, rfl, rfl⟩) (.gCons rfl ⟨rfl, by decide, .inl rfl⟩ .opNo rfl (fun _ _ => rfl) (.iList (.var ⟨rfl, rfl, rfl⟩)) (.gNil rfl ⟨rfl, by decide, .inl rfl⟩ .opNo rfl))) (fun _ _ => rfl)) .esNil) ⟨fun _ _ => rfl, trivial⟩) (.var ⟨rfl, rfl, rfl⟩))) (.ssCons (.sRet .bool) .ssNil) .ssNil) (.ssCons (.sAppend (fun _ => rfl) rfl (.var ⟨rfl, rfl, rfl⟩) (.var ⟨rfl, rfl, rfl⟩)) .ssNil)))) .ssNil)))) (.cons (.sAssignC rfl rfl rfl ⟨rfl, by decide, .inl rfl⟩ (.cpMk (vn := ["letter", "k"]) (fn := ["sizes"]) rfl (by unfold CompOk; decide +kernel) (fun _ _ => rfl) (.iRange1 ⟨ns_range, rfl, by decide, rfl, rfl⟩ .int) (.var ⟨rfl, rfl, rfl⟩) (.gCons rfl ⟨rfl, by decide, .inl rfl⟩ .opNo rfl (fun _ _ => rfl) (.iRange1 ⟨ns_range, rfl, by decide, rfl, rfl⟩ (.sub (fun _ _ _ => rfl) (.var ⟨rfl, rfl, rfl⟩) (.var ⟨rfl, rfl, rfl⟩))) (.gNil rfl ⟨rfl, by decide, .inl rfl⟩ .opNo rfl)))) (.cons (.sAssign (fun _ => rfl) ⟨rfl, by decide, .inl rfl⟩ (.bin (.sub (fun _ _ _ => rfl) (.var ⟨rfl, rfl, rfl⟩) .int) .int)) (.cons (.sAssign (fun _ => rfl) ⟨rfl, by decide, .inl rfl⟩ (.list .esNil)) (.cons (.sWhile (.cmp rfl (.var ⟨rfl, rfl, rfl⟩) (.list .esNil)) (.ssCons (.sAppend (fun _ => rfl) rfl (.var ⟨rfl, rfl, rfl⟩) (.sub (fun _ _ _ => rfl) (.var ⟨rfl, rfl, rfl⟩) (.pop (fun _ => rfl) rfl (.var ⟨rfl, rfl, rfl⟩) (.bin (.var ⟨rfl, rfl, rfl⟩) (.len ⟨ns_len, rfl, by decide, rfl, rfl⟩ (.var ⟨rfl, rfl, rfl⟩)))))) (.ssCons (.sAssign (fun _ => rfl) ⟨rfl, by decide, .inl rfl⟩ (.bin (.var ⟨rfl, rfl, rfl⟩) (.bin (.len ⟨ns_len, rfl, by decide, rfl, rfl⟩ (.var ⟨rfl, rfl, rfl⟩)) .int))) .ssNil))) (.frz (.cons (.sAssign (fun _ => rfl) ⟨rfl, by decide, .inr rfl⟩ (.call ⟨ns__law_laid, rfl, rfl⟩ (.esCons (.var ⟨rfl, rfl, rfl⟩) .esNil) ⟨fun _ _ => rfl, trivial⟩)) (.cons (.sAssignF rfl rfl rfl ⟨rfl, by decide, .inl rfl⟩ (.cpMk (vn := ["row"]) (fn := []) rfl (by unfold CompOk; decide +kernel) (fun _ _ => rfl) (.iList (.var ⟨rfl, rfl, rfl⟩)) (.len ⟨ns_len, rfl, by decide, rfl, rfl⟩ (.var ⟨rfl, rfl, rfl⟩)) (.gNil rfl ⟨rfl, by decide, .inl rfl⟩ .opNo rfl))) (.cons (.sIte (.cmp rfl (.var ⟨rfl, rfl, rfl⟩) (.var ⟨rfl, rfl, rfl⟩)) (.ssCons (.sRet .bool) .ssNil) .ssNil) (.cons (.sFor ⟨rfl, by decide, .inr rfl⟩ (fun _ _ => rfl) (.iRange1 ⟨ns_range, rfl, by decide, rfl, rfl⟩ (.len ⟨ns_len, rfl, by decide, rfl, rfl⟩ (.var ⟨rfl, rfl, rfl⟩))) (.ssCons (.sIte (.cmp rfl (.frz (.comp (vn := ["j"]) (fn := ["table", "k"]) rfl (by unfold CompOk; decide +kernel) (fun _ _ => rfl) (.iRange2 ⟨ns_range, rfl, by decide, rfl, rfl⟩ .int (.sub (fun _ _ _ => rfl) (.var ⟨rfl, rfl, rfl⟩) (.var ⟨rfl, rfl, rfl⟩))) (.var ⟨rfl, rfl, rfl⟩) (.gNil rfl ⟨rfl, by decide, .inl rfl⟩ (.opYes (.cmp rfl (.sub (fun _ _ _ => rfl) (.sub (fun _ _ _ => rfl) (.var ⟨rfl, rfl, rfl⟩) (.var ⟨rfl, rfl, rfl⟩)) (.bin (.var ⟨rfl, rfl, rfl⟩) .int)) (.sub (fun _ _ _ => rfl) (.sub (fun _ _ _ => rfl) (.var ⟨rfl, rfl, rfl⟩) (.var ⟨rfl, rfl, rfl⟩)) (.var ⟨rfl, rfl, rfl⟩)))) rfl)) (fun _ _ => rfl)) (.list .esNil)) (.ssCons (.sRet .bool) .ssNil) .ssNil) (.ssCons (.sIte (.and (.cmp rfl (.var ⟨rfl, rfl, rfl⟩) .int) (.cmp rfl (.frz (.comp (vn := ["j"]) (fn := ["table", "k"]) rfl (by unfold CompOk; decide +kernel) (fun _ _ => rfl) (.iRange1 ⟨ns_range, rfl, by decide, rfl, rfl⟩ (.sub (fun _ _ _ => rfl) (.var ⟨rfl, rfl, rfl⟩) (.var ⟨rfl, rfl, rfl⟩))) (.var ⟨rfl, rfl, rfl⟩) (.gNil rfl ⟨rfl, by decide, .inl rfl⟩ (.opYes (.cmp rfl (.sub (fun _ _ _ => rfl) (.sub (fun _ _ _ => rfl) (.var ⟨rfl, rfl, rfl⟩) (.bin (.var ⟨rfl, rfl, rfl⟩) .int)) (.var ⟨rfl, rfl, rfl⟩)) (.sub (fun _ _ _ => rfl) (.sub (fun _ _ _ => rfl) (.var ⟨rfl, rfl, rfl⟩) (.var ⟨rfl, rfl, rfl⟩)) (.var ⟨rfl, rfl, rfl⟩)))) rfl)) (fun _ _ => rfl)) (.list .esNil))) (.ssCons (.sRet .bool) .ssNil) .ssNil) .ssNil))) (.cons (.sAssign (fun _ => rfl) ⟨rfl, by decide, .inl rfl⟩ (.call ⟨ns__law_bill, rfl, rfl⟩ (.esCons (.var ⟨rfl, rfl, rfl⟩) (.esCons (.var ⟨rfl, rfl, rfl⟩) (.esCons (.var ⟨rfl, rfl, rfl⟩) (.esCons (.var ⟨rfl, rfl, rfl⟩) .esNil)))) ⟨fun _ _ => rfl, fun _ _ => rfl, fun _ _ => rfl, fun _ _ => rfl, trivial⟩)) (.cons (.sRet (.and (.cmp rfl (.call ⟨ns__check_parenthesis, rfl, rfl⟩ (.esCons (.bin .str (.var ⟨rfl, rfl, rfl⟩)) .esNil) ⟨fun _ _ => rfl, trivial⟩) .bool) (.cmp rfl (.call ⟨ns__check_parenthesis, rfl, rfl⟩ (.esCons (.bin (.var ⟨rfl, rfl, rfl⟩) .str) .esNil) ⟨fun _ _ => rfl, trivial⟩) .bool))) .nil)))))))))))))))))))))))
end Mine.Internal
end
section
set_option genInjectivity false
open PySem PySem.W PyProof.Rows PySem.Calls
namespace Mine.Internal
noncomputable def st0 (ns : List Int) : PS := ⟨some (.d (.list (ns.map D.int))) :: List.replicate (lawVn.length - 1) .none, []⟩
theorem law_env {W : Wd} (ok : W.Ok) {L : Addr} (okc : (cfCx (fdOf W.w.params 131) lawVn L 131).Ok) : ∃ cz, LawEnv W (cfCx (fdOf W.w.params 131) lawVn L 131) lawNm lawVn.zipIdx 19 cz true := by
  have h1 := cls_law W.w.params L
  rw [List.all_eq_true] at h1
  have h2 := h1 (Str.ofString "sizes") (by simp)
  obtain ⟨cz, hcz⟩ := Option.isSome_iff_exists.mp h2
  have h3 := cel_law W.w.params
  rw [List.all_eq_true] at h3
  have h4 : (fdOf W.w.params 131).scope.names.lookup (Str.ofString "sizes") = some .cell := by
    have := h3 (Str.ofString "sizes") (by simp)
    simpa using this
  have e5 : lawVn[5]? = some (Str.ofString "sizes") := rfl
  have e0 : lawVn[0]? = some (Str.ofString "script") := rfl
  refine ⟨cz, ⟨okc, fun x k e => .inl (nmChk_ok (nm_law' W.w.params) e), rfl, by simp [cfCx]; rfl⟩, (raw_law' W.w.params).code, hcz, fun z hz => ?_, ⟨L, Str.ofString "script", rfl, ?_⟩, fun P hm => ?_⟩
  · have : z = 5 := by
      have e : lawVn.zipIdx.lookup (Str.ofString "sizes") = some 5 := rfl
      rw [e] at hz; cases hz; rfl
    subst this
    show (lawVn.map (locAt (fdOf W.w.params 131) L))[5]? = _
    rw [List.getElem?_map, e5, Option.map_some, locAt_c h4 hcz]
  · refine List.mem_map.mpr ⟨Str.ofString "script", List.mem_of_getElem? e0, ?_⟩
    exact locAt_l (par_law _)
  · obtain ⟨y, _, e⟩ := List.mem_map.mp hm
    exact locAt_tab e
theorem lawL_code {w : World} {s₁ : Shared} {p : Program} {loose : List Str} {mean : ExcName → Option Value} {mg mb : Str → Option Value} {a : Addr} {vs : List Value} {ns : List Int} {K : Nat} {st : PS}
    (KX : (hd.heap_1 w.params).In s₁.heap) (hT8 : s₁.heap.get? 128 = some (tabObj #[])) (T : Top p loose mean mg mb s₁.heap) (hg : s₁.gens = #[]) (g : s₁.heap.get? a = some (LO vs 0)) (hI : IntsAre vs ns)
    (hK6 : 60 ≤ K) (hK : K ≤ 200) (hrun : evL fnsL K lawL (st0 ns) = some (.ret (.d (.bool true)), st)) :
    codeAny (model pw w) callerA (.call (.ref 131) ⟨[.ref a], []⟩) (fun r s' => r = .ok (.ret (.bool true)) ∧ (∀ b o, b ≠ 128 → s₁.heap.get? b = some o → s'.heap.get? b = some o) ∧ (∃ ps, s'.heap.get? 128 = some (tabObj ps)) ∧ s'.os = s₁.os ∧ AllBare s'.gens) s₁ := by
  have hT : TabsAt [(130, 128)] s₁.heap := fun q hq => by
    rcases List.mem_singleton.mp hq with rfl
    exact ⟨codeHd_of_K KX (tab_law _), hT8⟩
  have hB : ∀ b o, (Wof w s₁).B b o → s₁.heap.get? b = some o ∧ b ≠ 128 := fun b o e => by
    rcases e with e | e
    · refine ⟨of_hideAll _ e, fun q => ?_⟩
      subst q
      have : (ghostOf s₁.heap [(130, 128)]).get? 128 = none := Heap.hide_self _ _
      have e' : (ghostOf s₁.heap [(130, 128)]).get? 128 = some o := e
      rw [this] at e'; cases e'
    · cases e
  have ok : (Wof w s₁).Ok := ⟨ghost_K hT KX (noTabs_hd _), _, _, _, _, ghost_top hT T⟩
  have R0 : R (Wof w s₁) (fun _ => .none) [] ⟨[], []⟩ s₁ := R.first ok (fun _ => rfl) rfl rfl hg fun b o e => (hB b o e).1
  have hv : VR (fun _ => .none) s₁.heap (.d (.list (ns.map D.int))) (.ref a) := by
    exact ⟨a, vs, 0, rfl, rfl, g, dr_ints hI⟩
  have X := fact_law ok
  obtain ⟨o, ho, hdata, hcode⟩ := X.obj s₁.heap fun b o e => (hB b o e).1
  refine code_cells (W := Wof w s₁) X (by decide) ho hdata T.nolimit hcode fun s2 t2 x2 => ?_
  obtain ⟨fx, hfx, Re, okc, hk⟩ := cf_enter X R0 hv x2
  have h128 : s2.heap.get? 128 = some (tabObj #[]) := hk _ _ hT8
  have n128 : fx 128 = false := by
    cases q : fx 128 with
    | false => rfl
    | true => have := hfx 128 q; rw [hT8] at this; cases this
  have i128 : into (fun _ => Gh.none) fx 128 = .none := into_f n128 rfl
  have Rc := Re.claimHeld (C := 128) i128 h128 (fun xs n q => nomatch q) (fun o q => (hB 128 o q).2 rfl) (fun l hl q => by
    have z := (Re.locs l hl).own (by
      obtain ⟨y, _, e⟩ := List.mem_map.mp hl
      subst e
      exact locAt_own)
    rw [q, i128] at z
    cases z)
  obtain ⟨cz, LE⟩ := law_env ok okc
  have J : JJ ((cfCx (fdOf w.params 131) lawVn s₁.heap.objs.size 131).env.qual ++ "<lambda>") ⟨183, 37, 183, 60⟩ (upd (into (fun _ => .none) fx) 128 (.held (tabObj #[]))) := ⟨#[], upd_self .., ⟨by constructor, fun cv e => nomatch e⟩⟩
  refine tl_sound hK6 LE (snd_law ok K) (snd_law ok (K - 1)) (lawLIs _) hrun (callerA.deeper _) _ s2 _ _ ⟨rfl, by show 301 + 1 + K < 990; (first | lia | omega), by show 4 + 3 + 40 * K < 9000; (first | lia | omega)⟩ rfl Rc J t2 fun τ3 s3 f3 t3 R3 J3 hf => ?_
  obtain ⟨rr, rfl, hr⟩ := hf
  have := isBool hr
  subst this
  refine ⟨rfl, fun b o hb e => ?_, ?_, R3.os, R3.gens⟩
  · exact (R3.base b o (.inl (ghost_ne e (by simpa using hb)))).1
  · obtain ⟨ps, h1, _⟩ := J3
    exact ⟨ps, R3.held 128 _ h1⟩
end Mine.Internal
end
section
set_option genInjectivity false
open PySem PySem.W PyProof.Rows PySem.Calls
namespace Mine.Internal
section
variable {F : Addr → Option Fn} {n : Nat} {st st1 st2 : PS}
theorem lCons {s : S} {t : Tl} {r : Fl × PS} (h1 : evS F n s st = some (.next, st1)) (h2 : evL F n t st1 = some r) : evL F n (.cons s t) st = some r := (bd2_s h1).trans h2
theorem lRet {s : S} {t : Tl} {v : V} (h1 : evS F n s st = some (.ret v, st1)) : evL F n (.cons s t) st = some (.ret v, st1) := bd2_s h1
theorem lFrz {i : Nat} {t : Tl} {r : Fl × PS} (h1 : frzVar st i = some st1) (h2 : evL F n t st1 = some r) : evL F n (.frz i t) st = some r := (bd_s h1).trans h2
theorem lRef {a e : E} {t : Tl} {l : List D} {is : List Int} {vs : List (Option V)} {r : Fl × PS} (h1 : evB F n a st = some (false, st1)) (h2 : evE F n e st1 = some (.d (.list l), ⟨vs, []⟩)) (h3 : ints? (l.map V.d) = some is) (h4 : is.length < 900) (h5 : evL F n t ⟨vs, []⟩ = some r) :
    evL F n (.ref a e t) st = some r := (bd2_s h1).trans ((gd_s rfl).trans ((bd2_s h2).trans ((gd_s rfl).trans ((bd_s h3).trans ((gd_s h4).trans h5)))))
theorem mapO_deep {own : List (List V)} {m k : Nat} : ∀ ds : List D, mapO (deepV (k + 1) own m) (ds.map V.d) = some ds
  | [] => rfl
  | d :: ds => (bd_s (x := deepV (k + 1) own m (.d d)) rfl).trans (bd_s (mapO_deep ds))
theorem frzD {vars : List (Option V)} {base : List (List V)} {ds : List D} {m : Nat} (hm : base.length = m) (hv : okVars m vars = true) (hb : okOwn m base = true) :
    frz m (.ref m) ⟨vars, base ++ [ds.map V.d]⟩ = some (.d (.list ds), ⟨vars, base⟩) := by
  subst hm
  have e : (base ++ [ds.map V.d]).take base.length = base := by simp
  have g : (base ++ [ds.map V.d])[base.length]? = some (ds.map V.d) := by simp
  rw [frz_s (st := ⟨vars, base ++ [ds.map V.d]⟩) (by simp) hv (.inr (by rw [e]; exact hb)) (deepV_ref (Nat.lt_irrefl _) g (mapO_deep ds)), e]
theorem mapO_rows {own : List (List V)} {m k : Nat} : ∀ (rows : List (List D)) (j : Nat), m ≤ j → (∀ (i : Nat) r, rows[i]? = some r → own[j + i]? = some (r.map V.d)) →
    mapO (deepV (k + 2) own m) ((List.range' j rows.length).map V.ref) = some (rows.map D.list)
  | [], j, _, _ => rfl
  | r :: rows, j, hj, h => by
    exact (bd_s (x := deepV (k + 2) own m (.ref j)) (deepV_ref (Nat.not_lt.mpr hj) (h 0 r rfl) (mapO_deep r))).trans (bd_s (mapO_rows rows (j + 1) (Nat.le_succ_of_le hj) fun i q e => by rw [Nat.succ_add]; exact h (i + 1) q e))
theorem frzRows {vars : List (Option V)} {base : List (List V)} {rows : List (List D)} {m : Nat} (hm : base.length = m) (hv : okVars m vars = true) (hb : okOwn m base = true) :
    frz m (.ref m) ⟨vars, base ++ ((List.range' (m + 1) rows.length).map V.ref) :: rows.map (·.map V.d)⟩ = some (.d (.list (rows.map D.list)), ⟨vars, base⟩) := by
  subst hm
  have e : (base ++ ((List.range' (base.length + 1) rows.length).map V.ref) :: rows.map (·.map V.d)).take base.length = base := by simp
  have g : (base ++ ((List.range' (base.length + 1) rows.length).map V.ref) :: rows.map (·.map V.d))[base.length]? = some ((List.range' (base.length + 1) rows.length).map V.ref) := by simp
  rw [frz_s (st := ⟨vars, base ++ ((List.range' (base.length + 1) rows.length).map V.ref) :: rows.map (·.map V.d)⟩) (by simp) hv (.inr (by rw [e]; exact hb)) (deepV_ref (Nat.lt_irrefl _) g (mapO_rows (k := 2) rows (base.length + 1) (Nat.le_succ _) (fun i r q => by
    rw [List.getElem?_append_right (by first | lia | omega), show base.length + 1 + i - base.length = i + 1 by first | lia | omega]
    simp [q]))), e]
theorem evC_any {a : Addr} {f : Fn} {vs : List V} {v : V} {s0 s1 : PS} (hf : F a = some f) (hp : f.prim = false) (hk : f.key = false) (hd : allD vs = true) (h : evC F (n + 1) a vs .none s0 = some (v, s1)) (s : PS) : evC F (n + 1) a vs .none s = some (v, s) := by
  refine bd_c h fun f' hf' h1 => bd_c h1 fun ws hws h2 => ?_
  cases hf.symm.trans hf'
  refine bind_c hws hk fun _ hl e => ?_
  subst e
  refine (bd_s hf).trans ((bd_s (x := f.bind ws .none) hws).trans ?_)
  exact callOf_c h2 hp (fun sx _ ho _ => call_d hp hd ho) fun sx hD _ _ => nomatch hd.symm.trans hD
theorem kNone {elt : E} {i : Nat} {t : E} {g : Gs} {acc m : Nat} {own : List (List V)} {vars : List (Option V)} (hi : i < vars.length) :
    ∀ (left : Nat) (x : Int) (w : Option V), (∀ j : Nat, j < left → evB F m t ⟨vars.set i (some (.d (.int (x + j)))), own⟩ = some (false, ⟨vars.set i (some (.d (.int (x + j)))), own⟩)) →
      ∃ w', evK F (m + left + 2) elt i (.yes t) g (.rng x 1 left) acc ⟨vars.set i w, own⟩ = some ⟨vars.set i w', own⟩
  | 0, x, w, _ => ⟨w, kEnd rfl⟩
  | left + 1, x, w, h => by
    obtain ⟨w', ih⟩ := kNone (g := g) (elt := elt) (acc := acc) hi left (x + 1) (some (.d (.int x))) (fun j hj => by
      have := h (j + 1) (by first | lia | omega)
      rw [show x + ((j + 1 : Nat) : Int) = x + 1 + (j : Int) by first | lia | omega] at this
      exact this)
    refine ⟨w', ?_⟩
    have h0 := h 0 (by first | lia | omega)
    simp only [Int.natCast_zero, Int.add_zero] at h0
    rw [show m + (left + 1) + 2 = (m + left + 2) + 1 by first | lia | omega]
    refine kSkip rfl (setVar_at (by simpa using hi)) (oYes (upB (m := m) (n := m + left + 1) (by first | lia | omega) ?_)) ih
    simpa using h0
end
end Mine.Internal
end
section
set_option genInjectivity false
open PySem PySem.W PyProof.Rows PySem.Calls
namespace Mine.Internal
noncomputable def bump (l : List Int) (k : Nat) (x : Int) : List Int := l[k % 3]?.elim l fun y => l.set (k % 3) (y + x)
theorem bump_at {l : List Int} {k : Nat} {x y : Int} (h : l[k % 3]? = some y) : bump l k x = l.set (k % 3) (y + x) := by
  delta bump
  rw [h]; rfl
theorem bump_len (l : List Int) (k : Nat) (x : Int) : (bump l k x).length = l.length := by
  cases h : l[k % 3]? with
  | none => delta bump; rw [h]; rfl
  | some y => rw [bump_at h, List.length_set]
noncomputable def cellsLoop : Ss := .cons (.setItem (.var 1) (.bin .Mod (.var 2) (.int 3)) (.bin .Add (.sub (.var 1) (.bin .Mod (.var 2) (.int 3))) (.sub (.var 0) (.var 2)))) .nil
theorem cells_step (F : Addr → Option Fn) (n : Nat) (ns : List Int) (l : List Int) (hl : l.length = 3) (k : Nat) (hk : k < ns.length) (hs : ns.length ≤ 63) :
    evSs F (n + 8) cellsLoop ⟨[some (.d (.list (ns.map D.int))), some (.ref 0), some (.d (.int k))], [l.map dI]⟩ =
      some (.next, ⟨[some (.d (.list (ns.map D.int))), some (.ref 0), some (.d (.int k))], [(bump l k (ns[k]'hk)).map dI]⟩) := by
  have h1 : ((k : Int).fmod 3) = ((k % 3 : Nat) : Int) := by
    rw [Int.fmod_eq_emod_of_nonneg _ (by first | lia | omega)]; (first | lia | omega)
  have hg : ns[k]? = some (ns[k]'hk) := List.getElem?_eq_getElem hk
  have hm : k % 3 < l.length := by first | lia | omega
  have hl3 : l[k % 3]? = some (l[k % 3]'hm) := List.getElem?_eq_getElem hm
  have mod3 : ∀ m, evE F (m + 2) (.bin .Mod (.var 2) (.int 3)) ⟨[some (.d (.list (ns.map D.int))), some (.ref 0), some (.d (.int k))], [l.map dI]⟩ = some (.d (.int ((k % 3 : Nat) : Int)), ⟨[some (.d (.list (ns.map D.int))), some (.ref 0), some (.d (.int k))], [l.map dI]⟩) := fun m => by
    rw [← h1]
    exact xBin (xVar rfl) xInt (oMod (by decide))
  refine zCons (sSetItem (xBin (xSub (xVar rfl) (mod3 _) (subOf (l := l.map dI) (v := dI (l[k % 3]'hm)) rfl (by simp [hl3]) (by first | lia | omega))) (xSub (xVar rfl) (xVar rfl) (subOf (l := (ns.map D.int).map V.d) (v := .d (.int (ns[k]'hk))) rfl (by simp [hg]) (by first | lia | omega))) oAdd) (xVar rfl) (mod3 _) ?_) zNil
  have hc : (0 : Int) ≤ ((k % 3 : Nat) : Int) ∧ ((k % 3 : Nat) : Int) < ((l.map dI).length : Nat) ∧ ((k % 3 : Nat) : Int) < 1000 := by
    simp only [List.length_map]; (first | lia | omega)
  refine (setOwn_s rfl (if_pos hc)).trans ?_
  rw [Int.toNat_natCast, bump_at hl3, List.map_set]; rfl
noncomputable def cellsOf (ns : List Int) (l : List Int) : Nat → Nat → List Int
  | 0, _ => l
  | j + 1, k => ns[k]?.elim l fun x => cellsOf ns (bump l k x) j (k + 1)
theorem cellsOf_at {ns l : List Int} {j k : Nat} {x : Int} (h : ns[k]? = some x) : cellsOf ns l (j + 1) k = cellsOf ns (bump l k x) j (k + 1) := by
  show ns[k]?.elim l _ = _
  rw [h]; rfl
theorem cellsOf_len (ns : List Int) : ∀ (j k : Nat) (l : List Int), (cellsOf ns l j k).length = l.length
  | 0, k, l => rfl
  | j + 1, k, l => by
    cases h : ns[k]? with
    | some x => rw [cellsOf_at h, cellsOf_len ns j (k + 1), bump_len]
    | none =>
      show (ns[k]?.elim l _).length = _
      rw [h]; rfl
theorem cells_loop (F : Addr → Option Fn) (ns : List Int) (hs : ns.length ≤ 63) : ∀ (j k : Nat) (l : List Int) (w : Option V), l.length = 3 → k + j = ns.length →
    ∃ w', evF F (j + 12) 2 (.rng k 1 j) cellsLoop ⟨[some (.d (.list (ns.map D.int))), some (.ref 0), w], [l.map dI]⟩ = some (.next, ⟨[some (.d (.list (ns.map D.int))), some (.ref 0), w'], [(cellsOf ns l j k).map dI]⟩)
  | 0, k, l, w, hl, hk => ⟨w, fEnd rfl⟩
  | j + 1, k, l, w, hl, hk => by
    have hk' : k < ns.length := by first | lia | omega
    obtain ⟨w', ih⟩ := cells_loop F ns hs j (k + 1) (bump l k (ns[k]'hk')) (some (.d (.int k))) (by rw [bump_len]; exact hl) (by first | lia | omega)
    refine ⟨w', ?_⟩
    rw [show j + 1 + 12 = (j + 12) + 1 by first | lia | omega]
    refine fNext (v := .d (.int k)) (src' := .rng ((k + 1 : Nat) : Int) 1 j) rfl rfl (upSs (by first | lia | omega) (cells_step F j ns l hl k hk' hs)) ?_
    rw [cellsOf_at (List.getElem?_eq_getElem hk')]
    exact ih
theorem cells_ev (ns : List Int) (hs : ns.length ≤ 63) (st : PS) : ∃ a b c : Int, evC fnsL 90 74 [.d (.list (ns.map D.int))] .none st = some (.d (.list [.int a, .int b, .int c]), st) := by
  obtain ⟨w', hl⟩ := cells_loop fnsL ns hs ns.length 0 [26, 1234, 130] .none rfl (by first | lia | omega)
  have h3 := cellsOf_len ns ns.length 0 [26, 1234, 130]
  obtain ⟨a, b, c, e⟩ : ∃ a b c, cellsOf ns [26, 1234, 130] ns.length 0 = [a, b, c] := three h3
  rw [e] at hl
  refine ⟨a, b, c, ?_⟩
  refine cData (st' := ⟨[], []⟩) (f := cellsF) rfl rfl rfl rfl ?_
  have run : evSs fnsL 89 cellsB ⟨[some (.d (.list (ns.map D.int))), .none, .none], []⟩ = some (.ret (.ref 0), ⟨[some (.d (.list (ns.map D.int))), some (.ref 0), w'], [[a, b, c].map dI]⟩) := by
    refine zCons (sAssign (xList (xCons xInt (xCons xInt (xCons xInt xNil))) (by simp)) rfl) ?_
    refine zCons (sFor (iRange1 (xLenL (xVar rfl) (by simp; (first | lia | omega))) (by simp; (first | lia | omega))) (upF (m := ns.length + 12) (by first | lia | omega) ?_)) (zRet (sRet (xVar rfl)))
    rw [show (((ns.map D.int).length : Nat) : Int).toNat = ns.length by simp]
    exact hl
  have e : evSs fnsL 89 cellsF.body ⟨List.map some [.d (.list (ns.map D.int))] ++ List.map some cellsF.cap ++ List.replicate cellsF.nv .none, []⟩ = _ := run
  rw [e]
  have := frzD (vars := []) (base := []) (ds := [.int a, .int b, .int c]) (m := 0) rfl rfl rfl
  exact this
end Mine.Internal
end
section
set_option genInjectivity false
open PySem PySem.W PyProof.Rows PySem.Calls
namespace Mine.Internal
section
variable {α β : Type}
noncomputable def ltAt (lt : α → α → Bool) (r : List α) (x : α) (i : Nat) : Bool := r[i]?.elim false (lt x)
theorem ltAt_s {lt : α → α → Bool} {r : List α} {x y : α} {i : Nat} (h : r[i]? = some y) : ltAt lt r x i = lt x y := by
  delta ltAt
  rw [h]; rfl
noncomputable def bisP (lt : α → α → Bool) (r : List α) (x : α) : Nat := bis (ltAt lt r x) (r.length + 1) 0 r.length
noncomputable def insG (lt : α → α → Bool) : List (List α) → α → List (List α)
  | [], x => [[x]]
  | r :: rs, x => r[bisP lt r x]?.elim ((r ++ [x]) :: rs) fun y => r.set (bisP lt r x) x :: insG lt rs y
theorem insG_n {lt : α → α → Bool} {r : List α} {rs : List (List α)} {x : α} (h : r[bisP lt r x]? = .none) : insG lt (r :: rs) x = (r ++ [x]) :: rs := by
  show r[bisP lt r x]?.elim _ _ = _
  rw [h]; rfl
theorem insG_s {lt : α → α → Bool} {r : List α} {rs : List (List α)} {x y : α} (h : r[bisP lt r x]? = some y) : insG lt (r :: rs) x = r.set (bisP lt r x) x :: insG lt rs y := by
  show r[bisP lt r x]?.elim _ _ = _
  rw [h]; rfl
noncomputable def laidG (lt : α → α → Bool) (w : List α) : List (List α) := w.foldl (insG lt) []
theorem insG_len (lt : α → α → Bool) : ∀ (rows : List (List α)) (x : α) (k : Nat), (∀ r ∈ rows, r.length ≤ k) → ∀ r ∈ insG lt rows x, r.length ≤ k + 1
  | [], x, k, h, r, hr => by
    cases List.mem_singleton.mp hr
    exact Nat.succ_le_succ (Nat.zero_le _)
  | r0 :: rs, x, k, h, r, hr => by
    have h0 := h r0 (.head _)
    cases e : r0[bisP lt r0 x]? with
    | none =>
      rw [insG_n e] at hr
      rcases List.mem_cons.mp hr with rfl | hr
      · rw [List.length_append]; exact Nat.succ_le_succ h0
      · exact Nat.le_succ_of_le (h r (.tail _ hr))
    | some y =>
      rw [insG_s e] at hr
      rcases List.mem_cons.mp hr with rfl | hr
      · rw [List.length_set]; exact Nat.le_succ_of_le h0
      · exact insG_len lt rs _ k (fun r q => h r (.tail _ q)) r hr
theorem insG_rows (lt : α → α → Bool) : ∀ (rows : List (List α)) (x : α), (insG lt rows x).length ≤ rows.length + 1
  | [], x => Nat.le_refl _
  | r0 :: rs, x => by
    cases e : r0[bisP lt r0 x]? with
    | none => rw [insG_n e]; exact Nat.le_succ _
    | some y => rw [insG_s e]; exact Nat.succ_le_succ (insG_rows lt rs y)
theorem bisP_le (lt : α → α → Bool) (r : List α) (x : α) : bisP lt r x ≤ r.length := bis_le _ _ _ _ (Nat.zero_le _)
theorem insG_map {lt : α → α → Bool} {lt' : β → β → Bool} {f : α → β} (h : ∀ a b, lt' (f a) (f b) = lt a b) : ∀ (rows : List (List α)) (x : α), insG lt' (rows.map (·.map f)) (f x) = (insG lt rows x).map (·.map f)
  | [], x => rfl
  | r :: rs, x => by
    have e1 : ltAt lt' (r.map f) (f x) = ltAt lt r x := by
      funext i
      delta ltAt
      rw [List.getElem?_map]
      cases r[i]? with
      | none => rfl
      | some y => exact h x y
    have e2 : bisP lt' (r.map f) (f x) = bisP lt r x := by simp only [bisP, e1, List.length_map]
    cases e : r[bisP lt r x]? with
    | none =>
      rw [insG_n e, List.map_cons, insG_n (by rw [e2, List.getElem?_map, e]; rfl), List.map_cons, List.map_append]; rfl
    | some y => rw [insG_s e, List.map_cons, insG_s (y := f y) (by rw [e2, List.getElem?_map, e]; rfl), insG_map h rs y, e2, List.map_cons, List.map_set]
theorem laidG_map {lt : α → α → Bool} {lt' : β → β → Bool} {f : α → β} (h : ∀ a b, lt' (f a) (f b) = lt a b) (w : List α) : laidG lt' (w.map f) = (laidG lt w).map (·.map f) := by
  unfold laidG
  suffices ∀ (rows : List (List α)), (w.map f).foldl (insG lt') (rows.map (·.map f)) = (w.foldl (insG lt) rows).map (·.map f) from this []
  induction w with
  | nil => intro rows; rfl
  | cons x w ih => intro rows; simp only [List.map_cons, List.foldl_cons, insG_map h, ih]
end
noncomputable def vS (x : Str) : V := .d (.str x)
noncomputable def ownR (rows : List (List Str)) : List (List V) := ((List.range' 1 rows.length).map V.ref) :: rows.map (·.map vS)
theorem ownR_at (rows : List (List Str)) (L : Nat) : (ownR rows)[L + 1]? = (rows[L]?).map (·.map vS) := by simp [ownR]
theorem ownR_ref {rows : List (List Str)} {L : Nat} (h : L < rows.length) (hn : rows.length < 900) (vs : List (Option V)) : ofSub (.ref 0) (.d (.int L)) ⟨vs, ownR rows⟩ = some (.ref (L + 1)) :=
  subOf (l := (List.range' 1 rows.length).map V.ref) rfl (by rw [List.getElem?_map, List.getElem?_range' (by first | lia | omega)]; simp; (first | lia | omega)) (by first | lia | omega)
theorem ownR_set {rows : List (List Str)} {L : Nat} {r : List Str} : (ownR rows).set (L + 1) (r.map vS) = ownR (rows.set L r) := by simp [ownR, List.map_set]
theorem ownR_new (rows : List (List Str)) : (ownR rows ++ [[]]).set 0 ((List.range' 1 rows.length).map V.ref ++ [V.ref (ownR rows).length]) = ownR (rows ++ [[]]) := by simp [ownR, List.range'_concat, Nat.add_comm]
theorem ownR_put {rows : List (List Str)} {L : Nat} {r : List Str} {x : Str} : (ownR rows).set (L + 1) (r.map vS ++ [vS x]) = ownR (rows.set L (r ++ [x])) := by rw [← ownR_set, List.map_append]; rfl
theorem xfrm_ev (v : D) (n : Nat) (st : PS) : evC fnsL (n + 5) 60 [.d v] .none st = some (.d v, st) := by
  refine cData (f := strxfrmF) (st' := ⟨[], []⟩) rfl rfl rfl rfl ?_
  have run : evSs fnsL (n + 4) strxfrmB ⟨[some (.d v)], []⟩ = some (.ret (.d v), ⟨[some (.d v)], []⟩) := zRet (sRet (xVar rfl))
  have e : evSs fnsL (n + 4) strxfrmF.body ⟨List.map some [.d v] ++ List.map some strxfrmF.cap ++ List.replicate strxfrmF.nv .none, []⟩ = _ := run
  rw [e]
  rfl
noncomputable def laidW : E := .cmp .Lt (.var 3) (.len (.var 1))
noncomputable def laidWB : Ss := (.cons (.assign 4 (.callKey 32 (.cons (.sub (.var 1) (.var 3)) (.cons (.call 60 (.cons (.var 2) .nil)) .nil)) (.gfn 60))) (.cons (.ite (.cmp .Eq (.var 4) (.len (.sub (.var 1) (.var 3)))) (.cons .brk .nil) .nil) (.cons (.assign 5 (.sub (.sub (.var 1) (.var 3)) (.var 4))) (.cons (.setItem (.sub (.var 1) (.var 3)) (.var 4) (.var 2)) (.cons (.assign 2 (.var 5)) (.cons (.assign 3 (.bin .Add (.var 3) (.int 1))) .nil))))))
theorem laid_while (w : Option V) : ∀ (rest pre : List (List Str)) (x : Str) (pl out : Option V), pre.length + rest.length < 50 → (∀ r ∈ rest, r.length ≤ 20) →
    ∃ x' L' pl' out' rows', evW fnsL (rest.length + 70) laidW laidWB ⟨[w, some (.ref 0), some (vS x), some (.d (.int pre.length)), pl, out], ownR (pre ++ rest)⟩ = some (.next, ⟨[w, some (.ref 0), some (vS x'), some (.d (.int (L' : Nat))), pl', out'], ownR rows'⟩) ∧
      rows'.length = pre.length + rest.length ∧ ((L' = rows'.length ∧ rows' ++ [[x']] = pre ++ insG strLt rest x) ∨ (∃ r, rows'[L']? = some r ∧ r.length ≤ 20 ∧ rows'.set L' (r ++ [x']) = pre ++ insG strLt rest x))
  | [], pre, x, pl, out, hn, hr => by
    refine ⟨x, pre.length, pl, out, pre, ?_, by simp, .inl ⟨rfl, rfl⟩⟩
    simp only [List.append_nil, List.length_nil, Nat.add_zero] at hn ⊢
    have e0 : ofCmp .Lt (.d (.int pre.length)) (.d (.int ((List.range' 1 pre.length).map V.ref).length)) ⟨[w, some (.ref 0), some (vS x), some (.d (.int pre.length)), pl, out], ownR pre⟩ = some false := lLt.trans (by simp)
    exact wEnd (yCmp (xVar rfl) (xLenR (xVar rfl) (l := (List.range' 1 pre.length).map V.ref) rfl (by simp; (first | lia | omega))) e0)
  | r :: rest, pre, x, pl, out, hn, hr => by
    have hr0 := hr r (.head _)
    simp only [List.length_cons] at hn
    have hlen : (pre ++ r :: rest).length = pre.length + rest.length + 1 := by simp; (first | lia | omega)
    have hL : pre.length < (pre ++ r :: rest).length := by first | lia | omega
    have hrow : (ownR (pre ++ r :: rest))[pre.length + 1]? = some (r.map vS) := by rw [ownR_at]; simp
    have href : ∀ vs, ofSub (.ref 0) (.d (.int pre.length)) ⟨vs, ownR (pre ++ r :: rest)⟩ = some (.ref (pre.length + 1)) := fun vs => ownR_ref hL (by first | lia | omega) vs
    have test : evB fnsL (rest.length + 70) laidW ⟨[w, some (.ref 0), some (vS x), some (.d (.int pre.length)), pl, out], ownR (pre ++ r :: rest)⟩ = some (true, ⟨[w, some (.ref 0), some (vS x), some (.d (.int pre.length)), pl, out], ownR (pre ++ r :: rest)⟩) := by
      refine yCmp (xVar rfl) (xLenR (xVar rfl) (l := (List.range' 1 (pre ++ r :: rest).length).map V.ref) rfl (by simp; (first | lia | omega))) ?_
      exact lLt.trans (by simp; (first | lia | omega))
    have row : ∀ n pl out, evE fnsL (n + 2) (.sub (.var 1) (.var 3)) ⟨[w, some (.ref 0), some (vS x), some (.d (.int pre.length)), pl, out], ownR (pre ++ r :: rest)⟩ = some (.ref (pre.length + 1), ⟨[w, some (.ref 0), some (vS x), some (.d (.int pre.length)), pl, out], ownR (pre ++ r :: rest)⟩) := fun n pl out =>
      xSub (xVar rfl) (xVar rfl) (href _)
    have hbis := bis_call (F := fnsL) (j := pre.length + 1) (fa := 60) (x := vS x) (st := ⟨[w, some (.ref 0), some (vS x), some (.d (.int pre.length)), pl, out], ownR (pre ++ r :: rest)⟩) (l := r.map vS) (lt := ltAt strLt r x) (m := 5) rfl (.inl rfl) hrow (by simp; (first | lia | omega)) (fun i v ws hi => by
        rw [List.getElem?_map] at hi
        cases q : r[i]? with
        | none => rw [q] at hi; cases hi
        | some y =>
          rw [q] at hi
          cases hi
          refine ⟨_, xfrm_ev (.str y) 0 _, ?_⟩
          exact congrArg some (ltAt_s q).symm)
    have hb2 : bis (ltAt strLt r x) ((r.map vS).length + 1) 0 (r.map vS).length = bisP strLt r x := by simp [bisP]
    rw [hb2] at hbis
    have s1 : evS fnsL (rest.length + 69) (.assign 4 (.callKey 32 (.cons (.sub (.var 1) (.var 3)) (.cons (.call 60 (.cons (.var 2) .nil)) .nil)) (.gfn 60))) ⟨[w, some (.ref 0), some (vS x), some (.d (.int pre.length)), pl, out], ownR (pre ++ r :: rest)⟩ =
        some (.next, ⟨[w, some (.ref 0), some (vS x), some (.d (.int pre.length)), some (.d (.int (bisP strLt r x))), out], ownR (pre ++ r :: rest)⟩) :=
      sAssign (xCallKey (xCons (row _ _ _) (xCons (xCall (xCons (xVar rfl) xNil) (xfrm_ev _ _ _)) xNil)) xGfn (upC (by simp; (first | lia | omega)) hbis)) rfl
    have eqt : evB fnsL (rest.length + 67) (.cmp .Eq (.var 4) (.len (.sub (.var 1) (.var 3)))) ⟨[w, some (.ref 0), some (vS x), some (.d (.int pre.length)), some (.d (.int (bisP strLt r x))), out], ownR (pre ++ r :: rest)⟩ =
        some (((bisP strLt r x : Nat) : Int) == ((r.map vS).length : Nat), ⟨[w, some (.ref 0), some (vS x), some (.d (.int pre.length)), some (.d (.int (bisP strLt r x))), out], ownR (pre ++ r :: rest)⟩) :=
      yCmp (xVar rfl) (xLenR (row _ _ _) (l := r.map vS) hrow (by simp; (first | lia | omega))) lEq
    cases q : r[bisP strLt r x]? with
    | none =>
      have hp : bisP strLt r x = r.length := by
        have := bisP_le strLt r x
        have := List.getElem?_eq_none_iff.mp q
        (first | lia | omega)
      have e0 : (((bisP strLt r x : Nat) : Int) == ((r.map vS).length : Nat)) = true := by simp [hp]
      rw [e0] at eqt
      refine ⟨x, pre.length, some (.d (.int (bisP strLt r x))), out, pre ++ r :: rest, ?_, by simp, .inr ⟨r, by simp, hr0, ?_⟩⟩
      · rw [show (r :: rest).length + 70 = (rest.length + 70) + 1 by simp]
        exact wBrk test (zCons s1 (zBrk (sIteT eqt (zBrk sBrk))))
      · rw [insG_n q]; simp
    | some y =>
      have hp : bisP strLt r x < r.length := (List.getElem?_eq_some_iff.mp q).1
      have e0 : (((bisP strLt r x : Nat) : Int) == ((r.map vS).length : Nat)) = false := by simp; (first | lia | omega)
      rw [e0] at eqt
      obtain ⟨x', L', pl', out', rows', ih, h1, h2⟩ := laid_while w rest (pre ++ [r.set (bisP strLt r x) x]) y (some (.d (.int (bisP strLt r x)))) (some (vS y)) (by simp; (first | lia | omega)) (fun r' q' => hr r' (.tail _ q'))
      refine ⟨x', L', pl', out', rows', ?_, by simp at h1 ⊢; (first | lia | omega), ?_⟩
      · rw [show (r :: rest).length + 70 = (rest.length + 70) + 1 by simp]
        have s3 : evS fnsL (rest.length + 67) (.assign 5 (.sub (.sub (.var 1) (.var 3)) (.var 4))) ⟨[w, some (.ref 0), some (vS x), some (.d (.int pre.length)), some (.d (.int (bisP strLt r x))), out], ownR (pre ++ r :: rest)⟩ =
            some (.next, ⟨[w, some (.ref 0), some (vS x), some (.d (.int pre.length)), some (.d (.int (bisP strLt r x))), some (vS y)], ownR (pre ++ r :: rest)⟩) :=
          sAssign (xSub (row _ _ _) (xVar rfl) (subOf (l := r.map vS) (v := vS y) hrow (by rw [List.getElem?_map, q]; rfl) (by first | lia | omega))) rfl
        have s4 : evS fnsL (rest.length + 66) (.setItem (.sub (.var 1) (.var 3)) (.var 4) (.var 2)) ⟨[w, some (.ref 0), some (vS x), some (.d (.int pre.length)), some (.d (.int (bisP strLt r x))), some (vS y)], ownR (pre ++ r :: rest)⟩ =
            some (.next, ⟨[w, some (.ref 0), some (vS x), some (.d (.int pre.length)), some (.d (.int (bisP strLt r x))), some (vS y)], ownR (pre ++ r.set (bisP strLt r x) x :: rest)⟩) := by
          refine sSetItem (xVar rfl) (row _ _ _) (xVar rfl) ?_
          have hc : (0 : Int) ≤ ((bisP strLt r x : Nat) : Int) ∧ ((bisP strLt r x : Nat) : Int) < ((r.map vS).length : Nat) ∧ ((bisP strLt r x : Nat) : Int) < 1000 := by
            simp only [List.length_map]; (first | lia | omega)
          refine (setOwn_s hrow (if_pos hc)).trans ?_
          rw [Int.toNat_natCast]
          have : (r.map vS).set (bisP strLt r x) (vS x) = (r.set (bisP strLt r x) x).map vS := by rw [List.map_set]
          rw [this]
          refine congrArg (fun z => some (PS.mk _ z)) (ownR_set.trans ?_)
          simp
        refine wNext test (zCons s1 (zCons (sIteF eqt zNil) (zCons s3 (zCons s4 (zCons (sAssign (xVar rfl) rfl) (zCons (sAssign (xBin (xVar rfl) xInt oAdd) rfl) zNil)))))) ?_
        have e3 : ((pre ++ [r.set (bisP strLt r x) x]).length : Int) = (pre.length : Int) + 1 := by simp
        rw [e3] at ih
        simpa using ih
      · rw [insG_s q]
        simpa using h2
end Mine.Internal
end
section
set_option genInjectivity false
open PySem PySem.W PyProof.Rows PySem.Calls
namespace Mine.Internal
noncomputable def laidFB : Ss := .cons (.assign 3 (.int 0)) (.cons (.while laidW laidWB) (.cons (.ite (.cmp .Eq (.var 3) (.len (.var 1))) (.cons (.append (.var 1) (.list .nil)) .nil) .nil) (.cons (.append (.sub (.var 1) (.var 3)) (.var 2)) .nil)))
theorem laid_for (w : List Str) (hw : w.length ≤ 20) : ∀ (k j : Nat) (rows : List (List Str)) (v2 v3 v4 v5 : Option V), j + k = w.length → rows.length ≤ j → (∀ r ∈ rows, r.length ≤ j) →
    ∃ a b c d, evF fnsL (k + 120) 2 (.lst (.d (.list (w.map D.str))) j) laidFB ⟨[some (.d (.list (w.map D.str))), some (.ref 0), v2, v3, v4, v5], ownR rows⟩ = some (.next, ⟨[some (.d (.list (w.map D.str))), some (.ref 0), a, b, c, d], ownR ((w.drop j).foldl (insG strLt) rows)⟩)
  | 0, j, rows, v2, v3, v4, v5, hk, hr, hl => by
    have e : w.drop j = [] := List.drop_eq_nil_of_le (by first | lia | omega)
    rw [e]
    exact ⟨v2, v3, v4, v5, fEnd (next_end rfl (List.getElem?_eq_none (by simp; (first | lia | omega))))⟩
  | k + 1, j, rows, v2, v3, v4, v5, hk, hr, hl => by
    have hj : j < w.length := by first | lia | omega
    obtain ⟨x', L', pl', out', rows', hwh, h1, h2⟩ := laid_while (some (.d (.list (w.map D.str)))) rows [] w[j] v4 v5 (by simp; (first | lia | omega)) (fun r q => by have := hl r q; (first | lia | omega))
    simp only [List.nil_append, List.length_nil, Nat.zero_add] at hwh h1 h2
    obtain ⟨a, b, c, d, ih⟩ := laid_for w hw k (j + 1) (insG strLt rows w[j]) (some (vS x')) (some (.d (.int L'))) pl' out' (by first | lia | omega) (by have := insG_rows strLt rows w[j]; (first | lia | omega)) (insG_len strLt rows w[j] j hl)
    refine ⟨a, b, c, d, ?_⟩
    rw [List.drop_eq_getElem_cons hj, List.foldl_cons, show k + 1 + 120 = (k + 120) + 1 by first | lia | omega]
    refine fNext (v := vS w[j]) (src' := .lst (.d (.list (w.map D.str))) (j + 1)) (next_lst rfl (by simp [hj, vS])) rfl (st2 := ⟨[some (.d (.list (w.map D.str))), some (.ref 0), some (vS x'), some (.d (.int L')), pl', out'], ownR (insG strLt rows w[j])⟩) ?_ ih
    refine zCons (sAssign xInt rfl) (zCons (sWhile (upW (m := rows.length + 70) (by first | lia | omega) hwh)) ?_)
    have eqt : evB fnsL (k + 115) (.cmp .Eq (.var 3) (.len (.var 1))) ⟨[some (.d (.list (w.map D.str))), some (.ref 0), some (vS x'), some (.d (.int L')), pl', out'], ownR rows'⟩ =
        some (((L' : Nat) : Int) == (((List.range' 1 rows'.length).map V.ref).length : Nat), ⟨[some (.d (.list (w.map D.str))), some (.ref 0), some (vS x'), some (.d (.int L')), pl', out'], ownR rows'⟩) :=
      yCmp (xVar rfl) (xLenR (xVar rfl) (l := (List.range' 1 rows'.length).map V.ref) rfl (by simp; (first | lia | omega))) lEq
    rcases h2 with ⟨rfl, h2⟩ | ⟨r, hr', hrl, h2⟩
    · have e0 : (((rows'.length : Nat) : Int) == (((List.range' 1 rows'.length).map V.ref).length : Nat)) = true := by simp
      rw [e0] at eqt
      have happ : setOwn ⟨[some (.d (.list (w.map D.str))), some (.ref 0), some (vS x'), some (.d (.int rows'.length)), pl', out'], ownR rows' ++ [[]]⟩ (.ref 0) (fun l => if l.length < 1000 then some (l ++ [.ref (ownR rows').length]) else .none) =
          some ⟨[some (.d (.list (w.map D.str))), some (.ref 0), some (vS x'), some (.d (.int rows'.length)), pl', out'], ownR (rows' ++ [[]])⟩ := by
        have hc : ((List.range' 1 rows'.length).map V.ref).length < 1000 := by simp; (first | lia | omega)
        exact (setOwn_s rfl (if_pos hc)).trans (congrArg (fun z => some (PS.mk _ z)) (ownR_new rows'))
      refine zCons (sIteT eqt (zCons (sAppend (xVar rfl) (xList xNil (by simp)) happ) zNil)) (zCons (sAppend (x := .ref (rows'.length + 1)) (xSub (xVar rfl) (xVar rfl) (ownR_ref (by simp) (by simp; (first | lia | omega)) _)) (xVar rfl) ?_) zNil)
      have hg : (ownR (rows' ++ [[]]))[rows'.length + 1]? = some [] := by rw [ownR_at]; simp
      rw [← h2]
      exact (setOwn_s hg (if_pos (show 0 < 1000 by decide))).trans (congrArg (fun z => some (PS.mk _ z)) ((ownR_put (r := [])).trans (by simp)))
    · have hL : L' < rows'.length := (List.getElem?_eq_some_iff.mp hr').1
      have e0 : (((L' : Nat) : Int) == (((List.range' 1 rows'.length).map V.ref).length : Nat)) = false := by simp; (first | lia | omega)
      rw [e0] at eqt
      refine zCons (sIteF eqt zNil) (zCons (sAppend (x := .ref (L' + 1)) (xSub (xVar rfl) (xVar rfl) (ownR_ref hL (by first | lia | omega) _)) (xVar rfl) ?_) zNil)
      have hg : (ownR rows')[L' + 1]? = some (r.map vS) := by rw [ownR_at, hr']; rfl
      rw [← h2]
      exact (setOwn_s hg (if_pos (show (r.map vS).length < 1000 by simp; (first | lia | omega)))).trans (congrArg (fun z => some (PS.mk _ z)) ownR_put)
noncomputable def rowsD (rows : List (List Str)) : D := .list (rows.map fun r => .list (r.map D.str))
theorem laid_ev (w : List Str) (hw : w.length ≤ 20) (st : PS) : evC fnsL 150 126 [.d (.list (w.map D.str))] .none st = some (.d (rowsD (laidG strLt w)), st) := by
  obtain ⟨a, b, c, d, h⟩ := laid_for w hw w.length 0 [] .none .none .none .none (by first | lia | omega) (by simp) (by simp)
  refine cData (f := laidF) (st' := ⟨[], []⟩) rfl rfl rfl rfl ?_
  have run : evSs fnsL 149 laidB ⟨[some (.d (.list (w.map D.str))), .none, .none, .none, .none, .none], []⟩ = some (.ret (.ref 0), ⟨[some (.d (.list (w.map D.str))), some (.ref 0), a, b, c, d], ownR (laidG strLt w)⟩) := by
    refine zCons (sAssign (xList xNil (by simp)) rfl) ?_
    exact zCons (sFor (iList (xVar rfl) rfl) (upF (m := w.length + 120) (by first | lia | omega) h)) (zRet (sRet (xVar rfl)))
  have e : evSs fnsL 149 laidF.body ⟨List.map some [.d (.list (w.map D.str))] ++ List.map some laidF.cap ++ List.replicate laidF.nv .none, []⟩ = _ := run
  rw [e]
  have := frzRows (vars := []) (base := []) (rows := (laidG strLt w).map (·.map D.str)) (m := 0) rfl rfl rfl
  show frz 0 (.ref 0) ⟨[], ownR (laidG strLt w)⟩ = _
  delta ownR rowsD
  have e2 : (laidG strLt w).map (·.map vS) = ((laidG strLt w).map (·.map D.str)).map (·.map V.d) := by
    simp [vS]
  rw [e2]
  simp only [List.length_map, List.nil_append, Nat.zero_add] at this ⊢
  rw [this]
  simp
end Mine.Internal
end
section
set_option genInjectivity false
open PySem PySem.W PyProof.Rows PySem.Calls
namespace Mine.Internal
theorem escs_b {i : Int} {c : Nat} {r : List Nat} (h : c = 92) : escs i false (c :: r) = escs (i + 1) true r := if_pos h
theorem escs_n {i : Int} {c : Nat} {r : List Nat} (h : ¬ c = 92) : escs i false (c :: r) = (i, one c) :: escs (i + 1) false r := if_neg h
theorem escs_len : ∀ (l : List Nat) (i : Int) (b : Bool), (escs i b l).length ≤ l.length + (if b then 1 else 0)
  | [], i, true => Nat.le_refl _
  | [], i, false => Nat.le_refl _
  | c :: r, i, true => Nat.le_succ_of_le (Nat.succ_le_succ (escs_len r (i + 1) false))
  | c :: r, i, false => by
    by_cases h : c = 92
    · rw [escs_b h]; exact escs_len r (i + 1) true
    · rw [escs_n h]; exact Nat.succ_le_succ (escs_len r (i + 1) false)
abbrev StS := Int × Option Int × List Str
noncomputable def strStep (x : Str) (s : StS) (t : Int × Str) : StS := ifB (t.2 == ("\"" : Str)) (s.2.1.elim (s.1, some t.1, s.2.2) fun o => (t.1 + 1, .none, ifB (s.1 == o) s.2.2 (s.2.2 ++ [Txt.slice x (some s.1) (some o)]))) s
theorem step_n {x : Str} {s : StS} {t : Int × Str} (h : (t.2 == ("\"" : Str)) = false) : strStep x s t = s := by
  delta strStep
  rw [h]; rfl
theorem step_q {x : Str} {s : StS} {t : Int × Str} (h : (t.2 == ("\"" : Str)) = true) : strStep x s t = s.2.1.elim (s.1, some t.1, s.2.2) fun o => (t.1 + 1, .none, ifB (s.1 == o) s.2.2 (s.2.2 ++ [Txt.slice x (some s.1) (some o)])) := by
  delta strStep
  rw [h]; rfl
noncomputable def strRun (x : Str) : StS := (escs 0 false x.cps.toList).foldl (strStep x) (0, .none, [])
noncomputable def strEnd (x : Str) (s : StS) : List Str := if s.1 < (x.length : Int) then s.2.2 ++ [Txt.slice x (some s.1) .none] else s.2.2
noncomputable def stripP (x : Str) : Str := if hasSub "\"" x = true then Txt.join "" (strEnd x (strRun x)) else x
noncomputable def oI : Option Int → V
  | .none => .d .none
  | some i => .d (.int i)
noncomputable def stB : Ss := (.cons (.ite (.cmp .Eq (.var 5) (.str "\"")) (.cons (.ite (.cmp .Is (.var 2) .none) (.cons (.assign 2 (.var 4)) .nil) (.cons (.ite (.cmp .NotEq (.var 1) (.var 2)) (.cons (.append (.var 3) (.scut (.var 0) (.var 1) (.var 2))) .nil) .nil) (.cons (.assign 1 (.bin .Add (.var 4) (.int 1))) (.cons (.assign 2 .none) .nil)))) .nil) .nil) .nil)
noncomputable def stS (x : Str) (s : StS) (a b : Option V) : PS := ⟨[some (vS x), some (.d (.int s.1)), some (oI s.2.1), some (.ref 0), a, b], [s.2.2.map vS]⟩
theorem strip_turn (x : Str) (hx : x.length < 900) (m : Nat) (p : Int) (t : Str) (s : StS) (h : s.2.2.length < 900) :
    evSs fnsL (m + 19) stB (stS x s (some (.d (.int p))) (some (vS t))) = some (.next, stS x (strStep x s (p, t)) (some (.d (.int p))) (some (vS t))) := by
  have hq : ∀ m, evB fnsL (m + 2) (.cmp .Eq (.var 5) (.str "\"")) (stS x s (some (.d (.int p))) (some (vS t))) = some (t == ("\"" : Str), stS x s (some (.d (.int p))) (some (vS t))) := fun m => yCmp (xVar rfl) xStr rfl
  cases ht : (t == ("\"" : Str)) with
  | false =>
    rw [ht] at hq
    rw [step_n ht]
    exact zCons (sIteF (hq _) zNil) zNil
  | true =>
    rw [ht] at hq
    rw [step_q ht]
    obtain ⟨s0, s1, s2⟩ := s
    cases s1 with
    | none => exact zCons (sIteT (hq _) (zCons (sIteT (yCmp (xVar rfl) xNone rfl) (zCons (sAssign (xVar rfl) rfl) zNil)) zNil)) zNil
    | some o =>
      refine zCons (sIteT (hq _) (zCons (sIteF (yCmp (xVar rfl) xNone rfl) (zCons (st1 := stS x (s0, some o, ifB (s0 == o) s2 (s2 ++ [Txt.slice x (some s0) (some o)])) (some (.d (.int p))) (some (vS t))) ?_ (zCons (sAssign (xBin (xVar rfl) xInt oAdd) rfl) (zCons (sAssign xNone rfl) zNil)))) zNil)) zNil
      clear hq
      have hne : ofCmp .NotEq (.d (.int s0)) (.d (.int o)) (stS x (s0, some o, s2) (some (.d (.int p))) (some (vS t))) = some (!(s0 == o)) := rfl
      cases ho : (s0 == o) with
      | true => rw [ho] at hne; exact sIteF (yCmp (xVar rfl) (xVar rfl) hne) zNil
      | false =>
        rw [ho] at hne
        refine sIteT (yCmp (xVar rfl) (xVar rfl) hne) (zCons (sAppend (xVar rfl) (xScut (xVar rfl) (xVar rfl) (xVar rfl) (Nat.lt_of_lt_of_le hx (by decide))) ((setOwn_s (l := s2.map vS) rfl (if_pos ?_)).trans ?_)) zNil)
        · rw [List.length_map]; exact Nat.lt_of_lt_of_le h (by decide)
        · refine congrArg (fun z => some (PS.mk _ [z])) ?_
          show _ = (s2 ++ [Txt.slice x (some s0) (some o)]).map vS
          rw [List.map_append]; rfl
theorem step_len (x : Str) (s : StS) (t : Int × Str) : (strStep x s t).2.2.length ≤ s.2.2.length + 1 := by
  cases h : (t.2 == ("\"" : Str)) with
  | false => rw [step_n h]; exact Nat.le_succ _
  | true =>
    rw [step_q h]
    cases s.2.1 with
    | none => exact Nat.le_succ _
    | some o =>
      show (ifB (s.1 == o) s.2.2 _).length ≤ _
      cases (s.1 == o) with
      | true => exact Nat.le_succ _
      | false => exact Nat.le_of_eq List.length_append
theorem strip_loop (x : Str) (hx : x.length < 900) : ∀ (ts : List (Int × Str)) (s : StS) (a b : Option V), s.2.2.length + ts.length < 900 →
    ∃ a' b', evX fnsL (ts.length + 20) 4 5 ts stB (stS x s a b) = some (.next, stS x (ts.foldl (strStep x) s) a' b')
  | [], s, a, b, h => ⟨a, b, eEnd⟩
  | (p, t) :: ts, s, a, b, h => by
    have h1 := step_len x s (p, t)
    have h2 : s.2.2.length + (ts.length + 1) < 900 := h
    obtain ⟨a', b', ih⟩ := strip_loop x hx ts (strStep x s (p, t)) (some (.d (.int p))) (some (vS t)) (by omega)
    refine ⟨a', b', ?_⟩
    show evX fnsL (ts.length + 1 + 20) 4 5 _ stB _ = _
    rw [Nat.succ_add]
    exact eNext rfl rfl (strip_turn x hx (ts.length + 1) p t s (by omega)) ih
theorem strs_map : ∀ l : List Str, strs? (l.map vS) = some l
  | [] => rfl
  | x :: l => bd_s (f := fun l => some (x :: l)) (strs_map l)
theorem strip_acc (x : Str) : ∀ (ts : List (Int × Str)) (s : StS), (ts.foldl (strStep x) s).2.2.length ≤ s.2.2.length + ts.length
  | [], s => Nat.le_refl _
  | t :: ts, s => by
    have h1 := strip_acc x ts (strStep x s t)
    have h2 := step_len x s t
    rw [List.foldl_cons, List.length_cons]; omega
theorem strip_ev (x : Str) (hx : x.length ≤ 60) (hj : JoinOk "" (strEnd x (strRun x)) = true) (st : PS) : evC fnsL 100 46 [.d (.str x)] .none st = some (.d (.str (stripP x)), st) := by
  refine cData (f := stripF) (st' := ⟨[], []⟩) rfl rfl rfl rfl ?_
  have fin : ∀ r st', evSs fnsL 99 stripB ⟨[some (vS x), .none, .none, .none, .none, .none], []⟩ = some (.ret (.d (.str r)), st') → outOf 0 (evSs fnsL 99 stripF.body ⟨List.map some [.d (.str x)] ++ List.map some stripF.cap ++ List.replicate stripF.nv .none, []⟩) = some (.d (.str r), ⟨[], []⟩) := fun r st' run => by
    have e : evSs fnsL 99 stripF.body ⟨List.map some [.d (.str x)] ++ List.map some stripF.cap ++ List.replicate stripF.nv .none, []⟩ = _ := run
    rw [e]
    exact out_0
  have e0 : ofCmp .NotIn (.d (.str "\"")) (.d (.str x)) ⟨[some (vS x), .none, .none, .none, .none, .none], []⟩ = some (!hasSub "\"" x) := rfl
  cases hs : hasSub "\"" x with
  | true =>
    rw [hs] at e0
    have hl : (escs 0 false x.cps.toList).length ≤ x.length := escs_len x.cps.toList 0 false
    obtain ⟨a', b', hloop⟩ := strip_loop x (by omega) (escs 0 false x.cps.toList) (0, .none, []) .none .none (by show 0 + _ < 900; omega)
    have hst : stripP x = Txt.join "" (strEnd x (strRun x)) := if_pos hs
    rw [hst]
    refine fin _ ⟨[some (vS x), some (.d (.int (strRun x).1)), some (oI (strRun x).2.1), some (.ref 0), a', b'], [(strEnd x (strRun x)).map vS]⟩ (zCons (sIteF (yCmp xStr (xVar rfl) e0) zNil) ?_)
    refine zCons (sAssign xInt rfl) (zCons (sAssign xNone rfl) (zCons (sAssign (xList xNil (Nat.zero_le _)) rfl) ?_))
    refine zCons (sForEsc (xVar rfl) (Nat.lt_of_le_of_lt hx (by decide)) (upX (m := (escs 0 false x.cps.toList).length + 20) (by omega) hloop)) ?_
    have hacc : (strRun x).2.2.length ≤ 60 := by
      have := strip_acc x (escs 0 false x.cps.toList) (0, .none, [])
      exact Nat.le_trans this (by show 0 + _ ≤ 60; omega)
    clear hloop hl fin
    refine zCons (st1 := ⟨[some (vS x), some (.d (.int (strRun x).1)), some (oI (strRun x).2.1), some (.ref 0), a', b'], [(strEnd x (strRun x)).map vS]⟩) ?_ (zRet (sRet (xJoin (xVar rfl) rfl (strs_map _) hj)))
    show evS fnsL _ _ (stS x (strRun x) a' b') = _
    have e1 : ofCmp .Lt (.d (.int (strRun x).1)) (.d (.int (x.length : Int))) (stS x (strRun x) a' b') = some (decide ((strRun x).1 < (x.length : Int))) := rfl
    by_cases hlt : (strRun x).1 < (x.length : Int)
    · rw [decide_eq_true hlt] at e1
      refine sIteT (yCmp (xVar rfl) (xLenS (xVar rfl) (Nat.lt_of_le_of_lt hx (by decide))) e1) (zCons (sAppend (xVar rfl) (xSfrom (xVar rfl) (xVar rfl) (Nat.lt_of_le_of_lt hx (by decide))) ((setOwn_s (l := (strRun x).2.2.map vS) rfl (if_pos ?_)).trans ?_)) zNil)
      · rw [List.length_map]; exact Nat.lt_of_le_of_lt hacc (by decide)
      · rw [show strEnd x (strRun x) = (strRun x).2.2 ++ [Txt.slice x (some (strRun x).1) .none] from if_pos hlt, List.map_append]; rfl
    · rw [decide_eq_false hlt] at e1
      rw [show strEnd x (strRun x) = (strRun x).2.2 from if_neg hlt]
      exact sIteF (yCmp (xVar rfl) (xLenS (xVar rfl) (Nat.lt_of_le_of_lt hx (by decide))) e1) zNil
  | false =>
    rw [hs] at e0
    have hst : stripP x = x := if_neg (by rw [hs]; exact Bool.false_ne_true)
    rw [hst]
    exact fin _ ⟨[some (vS x), .none, .none, .none, .none, .none], []⟩ (zRet (sIteT (yCmp xStr (xVar rfl) e0) (zRet (sRet (xVar rfl)))))
noncomputable def chkStep (o : Int) (t : Str) : Option Int := ifB (t == ("(" : Str)) (some (o + 1)) (ifB (t == (")" : Str)) (ifB (decide (o - 1 < 0)) .none (some (o - 1))) (some o))
noncomputable def chkGo : Int → List (Int × Str) → Bool
  | o, [] => o == 0
  | o, p :: r => (chkStep o p.2).elim false fun o => chkGo o r
noncomputable def chB : Ss := (.cons (.ite (.cmp .Eq (.var 3) (.str "(")) (.cons (.aug 1 .Add (.int 1)) .nil) (.cons (.ite (.cmp .Eq (.var 3) (.str ")")) (.cons (.aug 1 .Sub (.int 1)) (.cons (.ite (.cmp .Lt (.var 1) (.int 0)) (.cons (.ret (.bool false)) .nil) .nil) .nil)) .nil) .nil)) .nil)
theorem check_turn (x : Option V) (m : Nat) (p : Int) (t : Str) (o : Int) :
    (chkStep o t = .none ∧ ∃ st', evSs fnsL (m + 19) chB ⟨[x, some (.d (.int o)), some (.d (.int p)), some (vS t)], []⟩ = some (.ret (.d (.bool false)), st')) ∨
    ∃ o', chkStep o t = some o' ∧ evSs fnsL (m + 19) chB ⟨[x, some (.d (.int o)), some (.d (.int p)), some (vS t)], []⟩ = some (.next, ⟨[x, some (.d (.int o')), some (.d (.int p)), some (vS t)], []⟩) := by
  have h1 : ∀ m, evB fnsL (m + 2) (.cmp .Eq (.var 3) (.str "(")) ⟨[x, some (.d (.int o)), some (.d (.int p)), some (vS t)], []⟩ = some (t == ("(" : Str), ⟨[x, some (.d (.int o)), some (.d (.int p)), some (vS t)], []⟩) := fun m => yCmp (xVar rfl) xStr rfl
  have h2 : ∀ m, evB fnsL (m + 2) (.cmp .Eq (.var 3) (.str ")")) ⟨[x, some (.d (.int o)), some (.d (.int p)), some (vS t)], []⟩ = some (t == (")" : Str), ⟨[x, some (.d (.int o)), some (.d (.int p)), some (vS t)], []⟩) := fun m => yCmp (xVar rfl) xStr rfl
  delta chkStep
  cases q1 : (t == ("(" : Str)) with
  | true =>
    rw [q1] at h1
    exact .inr ⟨_, rfl, zCons (sIteT (h1 _) (zCons (sAdd rfl xInt rfl) zNil)) zNil⟩
  | false =>
    rw [q1] at h1
    cases q2 : (t == (")" : Str)) with
    | true =>
      rw [q2] at h2
      have e0 : ofCmp .Lt (.d (.int (o - 1))) (.d (.int 0)) ⟨[x, some (.d (.int (o - 1))), some (.d (.int p)), some (vS t)], []⟩ = some (decide (o - 1 < 0)) := rfl
      cases q3 : decide (o - 1 < 0) with
      | true =>
        rw [q3] at e0
        exact .inl ⟨rfl, _, zRet (sIteF (h1 _) (zRet (sIteT (h2 _) (zCons (sSubt rfl xInt rfl) (zRet (sIteT (yCmp (xVar rfl) xInt e0) (zRet (sRet xBool))))))))⟩
      | false =>
        rw [q3] at e0
        exact .inr ⟨_, rfl, zCons (sIteF (h1 _) (zCons (sIteT (h2 _) (zCons (sSubt rfl xInt rfl) (zCons (sIteF (yCmp (xVar rfl) xInt e0) zNil) zNil))) zNil)) zNil⟩
    | false =>
      rw [q2] at h2
      exact .inr ⟨_, rfl, zCons (sIteF (h1 _) (zCons (sIteF (h2 _) zNil) zNil)) zNil⟩
theorem check_loop (x : Option V) : ∀ (ts : List (Int × Str)) (o : Int) (a b : Option V),
    (∃ st', evX fnsL (ts.length + 20) 2 3 ts chB ⟨[x, some (.d (.int o)), a, b], []⟩ = some (.ret (.d (.bool false)), st') ∧ chkGo o ts = false) ∨
    (∃ o' a' b', evX fnsL (ts.length + 20) 2 3 ts chB ⟨[x, some (.d (.int o)), a, b], []⟩ = some (.next, ⟨[x, some (.d (.int o')), a', b'], []⟩) ∧ chkGo o ts = (o' == 0))
  | [], o, a, b => .inr ⟨o, a, b, eEnd, rfl⟩
  | (p, t) :: ts, o, a, b => by
    show (∃ st', evX fnsL (ts.length + 1 + 20) 2 3 _ chB _ = _ ∧ (chkStep o t).elim false (fun o => chkGo o ts) = false) ∨ (∃ o' a' b', evX fnsL (ts.length + 1 + 20) 2 3 _ chB _ = _ ∧ (chkStep o t).elim false (fun o => chkGo o ts) = (o' == 0))
    rw [Nat.succ_add]
    rcases check_turn x (ts.length + 1) p t o with ⟨e, st', h⟩ | ⟨o1, e, h⟩
    · rw [e]; exact .inl ⟨st', eRet rfl rfl h, rfl⟩
    · rw [e]
      rcases check_loop x ts o1 (some (.d (.int p))) (some (vS t)) with ⟨st', e1, e2⟩ | ⟨o', a', b', e1, e2⟩
      · exact .inl ⟨st', eNext rfl rfl h e1, e2⟩
      · exact .inr ⟨o', a', b', eNext rfl rfl h e1, e2⟩
noncomputable def checkP (x : Str) : Bool := chkGo 0 (escs 0 false (stripP x).cps.toList)
theorem check_ev (x : Str) (hx : x.length ≤ 60) (hj : JoinOk "" (strEnd x (strRun x)) = true) (h2 : (stripP x).length ≤ 60) (st : PS) : evC fnsL 110 53 [.d (.str x)] .none st = some (.d (.bool (checkP x)), st) := by
  have hl := escs_len (stripP x).cps.toList 0 false
  have hlen : (stripP x).cps.toList.length = (stripP x).length := by simp [Str.length]
  simp only [Bool.false_eq_true, if_false, Nat.add_zero] at hl
  refine cData (f := checkF) (st' := ⟨[], []⟩) rfl rfl rfl rfl ?_
  have fin : ∀ r st', evSs fnsL 109 checkB ⟨[some (vS x), .none, .none, .none], []⟩ = some (.ret (.d (.bool r)), st') → outOf 0 (evSs fnsL 109 checkF.body ⟨List.map some [.d (.str x)] ++ List.map some checkF.cap ++ List.replicate checkF.nv .none, []⟩) = some (.d (.bool r), ⟨[], []⟩) := fun r st' run => by
    have e : evSs fnsL 109 checkF.body ⟨List.map some [.d (.str x)] ++ List.map some checkF.cap ++ List.replicate checkF.nv .none, []⟩ = _ := run
    rw [e]
    exact out_0
  have hc := check_loop (some (.d (.str (stripP x)))) (escs 0 false (stripP x).cps.toList) 0 .none .none
  rcases hc with ⟨st', e1, e2⟩ | ⟨o', a', b', e1, e2⟩
  · have e3 : checkP x = false := e2
    rw [e3]
    refine fin _ st' ?_
    refine zCons (sAssign (xCall (xCons (xVar rfl) xNil) (upC (by first | lia | omega) (strip_ev x hx hj _))) rfl) (zCons (sAssign xInt rfl) ?_)
    exact zRet (sForEsc (xVar rfl) (by first | lia | omega) (upX (by first | lia | omega) e1))
  · have e3 : checkP x = (o' == 0) := e2
    rw [e3]
    refine fin _ ⟨[some (.d (.str (stripP x))), some (.d (.int o')), a', b'], []⟩ ?_
    refine zCons (sAssign (xCall (xCons (xVar rfl) xNil) (upC (by first | lia | omega) (strip_ev x hx hj _))) rfl) (zCons (sAssign xInt rfl) ?_)
    exact zCons (sForEsc (xVar rfl) (by first | lia | omega) (upX (by first | lia | omega) e1)) (zRet (sRet (xCmp (xVar rfl) xInt rfl)))
end Mine.Internal
end
section
set_option genInjectivity false
open PySem PySem.W PyProof.Rows PySem.Calls
namespace Mine.Internal
noncomputable def nI (n : Nat) : D := .int n
noncomputable def iN (l : List Nat) : D := .list (l.map nI)
noncomputable def sL (l : List Str) : D := .list (l.map D.str)
noncomputable def inn (n : Str) : Str := Txt.replace (Txt.replace n "\\" "\\\\") "\"" "\\\""
noncomputable def bill1 (s : List Nat) (T : Str) (k : Nat) : Str := match s[k]? with
  | some y => T ++ Txt.mul "(" (y : Int)
  | .none => T
noncomputable def bill2 (names : List Str) (z fall : List Nat) (T : Str) (k : Nat) : Str := match fall[k]? with
  | some f => (((T ++ "\"") ++ inn (names.getD f "")) ++ "\"") ++ Txt.mul ")" (z.getD f 0 : Nat)
  | .none => T
noncomputable def billS (names : List Str) (s z fall : List Nat) : Nat → Nat → Str → Str
  | 0, _, T => T
  | j + 1, k, T => billS names s z fall j (k + 1) (bill2 names z fall (bill1 s T k) k)
noncomputable def billP (names : List Str) (s z fall : List Nat) : Str := billS names s z fall (max s.length fall.length) 0 ""
structure BillOk (names : List Str) (s z fall : List Nat) : Prop where
  hs : ∀ y ∈ s, y < 1000 ∧ (Txt.mul "(" (y : Int)).length ≤ 10
  hz : ∀ y ∈ z, y < 1000 ∧ (Txt.mul ")" (y : Int)).length ≤ 10
  hf : ∀ y ∈ fall, y < 3
  hn : ∀ n ∈ names, n.length ≤ 10 ∧ (Txt.replace n "\\" "\\\\").length ≤ 20 ∧ (inn n).length ≤ 20
  nl : names.length = 3
  zl : z.length = 3
  sl : s.length ≤ 4
  fl : fall.length = 3
noncomputable def biB : Ss := (.cons (.ite (.cmp .Lt (.var 5) (.len (.var 0))) (.cons (.assign 4 (.bin .Add (.var 4) (.bin .Mult (.str "(") (.sub (.var 0) (.var 5))))) .nil) .nil) (.cons (.ite (.cmp .Lt (.var 5) (.len (.var 3))) (.cons (.assign 6 (.replace (.replace (.sub (.var 1) (.sub (.var 3) (.var 5))) "\\" "\\\\") "\"" "\\\"")) (.cons (.assign 4 (.bin .Add (.bin .Add (.bin .Add (.bin .Add (.var 4) (.str "\"")) (.var 6)) (.str "\"")) (.bin .Mult (.str ")") (.sub (.var 2) (.sub (.var 3) (.var 5)))))) .nil)) .nil) .nil))
theorem Str.len_app (a b : Str) : (a ++ b).length = a.length + b.length := by
  show (a.cps ++ b.cps).size = _
  rw [Array.size_append]; rfl
section
variable {names : List Str} {s z fall : List Nat}
theorem oAddS {x y : Str} {st : PS} (h : x.length + y.length ≤ 1000) : ofBin .Add (.d (.str x)) (.d (.str y)) st = some (.d (.str (x ++ y)), st) := if_pos h
theorem oMulS {x : Str} {y : Int} {st : PS} (h : y < 1000 ∧ 0 ≤ y ∧ x.length < 1000) : ofBin .Mult (.d (.str x)) (.d (.int y)) st = some (.d (.str (Txt.mul x y)), st) := if_pos h
theorem subN {l : List Nat} {i y : Nat} {st : PS} (h : l[i]? = some y) (hi : i < 1000) : ofSub (.d (iN l)) (.d (.int i)) st = some (.d (.int y)) :=
  subOf (l := (l.map nI).map V.d) rfl (by simp [h, nI]) hi
theorem subS {l : List Str} {i : Nat} {y : Str} {st : PS} (h : l[i]? = some y) (hi : i < 1000) : ofSub (.d (sL l)) (.d (.int i)) st = some (.d (.str y)) :=
  subOf (l := (l.map D.str).map V.d) rfl (by simp [h]) hi
noncomputable abbrev biSt (names : List Str) (s z fall : List Nat) (T : Str) (k : Option V) (w : Option V) : PS := ⟨[some (.d (iN s)), some (.d (sL names)), some (.d (iN z)), some (.d (iN fall)), some (.d (.str T)), k, w], []⟩
theorem bill_step1 (B : BillOk names s z fall) (T : Str) (k : Nat) (w : Option V) (hT : T.length ≤ 500) (hk : k < 10) (n : Nat) :
    evS fnsL (n + 9) (.ite (.cmp .Lt (.var 5) (.len (.var 0))) (.cons (.assign 4 (.bin .Add (.var 4) (.bin .Mult (.str "(") (.sub (.var 0) (.var 5))))) .nil) .nil) (biSt names s z fall T (some (.d (.int k))) w) = some (.next, biSt names s z fall (bill1 s T k) (some (.d (.int k))) w) ∧ (bill1 s T k).length ≤ T.length + 10 := by
  have hlen : evB fnsL (n + 8) (.cmp .Lt (.var 5) (.len (.var 0))) (biSt names s z fall T (some (.d (.int k))) w) = some (decide ((k : Int) < ((s.map nI).length : Nat)), biSt names s z fall T (some (.d (.int k))) w) :=
    yCmp (xVar rfl) (xLenL (xVar rfl) (by simp; have := B.sl; (first | lia | omega))) lLt
  cases q : s[k]? with
  | none =>
    have : s.length ≤ k := List.getElem?_eq_none_iff.mp q
    have e0 : decide ((k : Int) < ((s.map nI).length : Nat)) = false := by simp; (first | lia | omega)
    rw [e0] at hlen
    simp only [bill1, q]
    exact ⟨sIteF hlen zNil, by first | lia | omega⟩
  | some y =>
    have hk' : k < s.length := (List.getElem?_eq_some_iff.mp q).1
    have e0 : decide ((k : Int) < ((s.map nI).length : Nat)) = true := by simp; (first | lia | omega)
    rw [e0] at hlen
    have hy := B.hs y (List.mem_of_getElem? q)
    simp only [bill1, q]
    refine ⟨sIteT hlen (zCons (sAssign (xBin (xVar rfl) (xBin xStr (xSub (xVar rfl) (xVar rfl) (subN q (by first | lia | omega))) (oMulS ⟨by first | lia | omega, by first | lia | omega, by decide +kernel⟩)) (oAddS (by first | lia | omega))) rfl) zNil), ?_⟩
    rw [Str.len_app]; (first | lia | omega)
theorem bill_step2 (B : BillOk names s z fall) (T : Str) (k : Nat) (w : Option V) (hT : T.length ≤ 500) (hk : k < 10) (n : Nat) :
    ∃ w', evS fnsL (n + 14) (.ite (.cmp .Lt (.var 5) (.len (.var 3))) (.cons (.assign 6 (.replace (.replace (.sub (.var 1) (.sub (.var 3) (.var 5))) "\\" "\\\\") "\"" "\\\"")) (.cons (.assign 4 (.bin .Add (.bin .Add (.bin .Add (.bin .Add (.var 4) (.str "\"")) (.var 6)) (.str "\"")) (.bin .Mult (.str ")") (.sub (.var 2) (.sub (.var 3) (.var 5)))))) .nil)) .nil) (biSt names s z fall T (some (.d (.int k))) w) =
      some (.next, biSt names s z fall (bill2 names z fall T k) (some (.d (.int k))) w') ∧ (bill2 names z fall T k).length ≤ T.length + 40 := by
  have hlen : evB fnsL (n + 13) (.cmp .Lt (.var 5) (.len (.var 3))) (biSt names s z fall T (some (.d (.int k))) w) = some (decide ((k : Int) < ((fall.map nI).length : Nat)), biSt names s z fall T (some (.d (.int k))) w) :=
    yCmp (xVar rfl) (xLenL (xVar rfl) (by simp; have := B.fl; (first | lia | omega))) lLt
  cases q : fall[k]? with
  | none =>
    have : fall.length ≤ k := List.getElem?_eq_none_iff.mp q
    have e0 : decide ((k : Int) < ((fall.map nI).length : Nat)) = false := by simp; (first | lia | omega)
    rw [e0] at hlen
    simp only [bill2, q]
    exact ⟨w, sIteF hlen zNil, by first | lia | omega⟩
  | some f =>
    have hk' : k < fall.length := (List.getElem?_eq_some_iff.mp q).1
    have e0 : decide ((k : Int) < ((fall.map nI).length : Nat)) = true := by simp; (first | lia | omega)
    rw [e0] at hlen
    have hf := B.hf f (List.mem_of_getElem? q)
    have hfn : f < names.length := by have := B.nl; (first | lia | omega)
    have hfz : f < z.length := by have := B.zl; (first | lia | omega)
    have gn : names[f]? = some (names.getD f "") := by rw [List.getD_eq_getElem?_getD, List.getElem?_eq_getElem hfn]; rfl
    have gz : z[f]? = some (z.getD f 0) := by rw [List.getD_eq_getElem?_getD, List.getElem?_eq_getElem hfz]; rfl
    have hn := B.hn _ (List.mem_of_getElem? gn)
    have hz := B.hz _ (List.mem_of_getElem? gz)
    have l1 : ("\"" : Str).length = 1 := by decide +kernel
    have l2 : (")" : Str).length = 1 := by decide +kernel
    simp only [bill2, q]
    have e1 := Str.len_app T "\""
    have e2 := Str.len_app (T ++ "\"") (inn (names.getD f ""))
    have e3 := Str.len_app ((T ++ "\"") ++ inn (names.getD f "")) "\""
    have e4 := Str.len_app (((T ++ "\"") ++ inn (names.getD f "")) ++ "\"") (Txt.mul ")" ((z.getD f 0 : Nat) : Int))
    refine ⟨some (.d (.str (inn (names.getD f "")))), sIteT hlen (zCons (sAssign (xReplace (xReplace (xSub (xVar rfl) (xSub (xVar rfl) (xVar rfl) (subN q (by first | lia | omega))) (subS gn (by first | lia | omega))) ⟨by first | lia | omega, by decide +kernel, by decide +kernel⟩) ⟨by first | lia | omega, by decide +kernel, by decide +kernel⟩) rfl) (zCons (sAssign (xBin (xBin (xBin (xBin (xVar rfl) xStr (oAddS (by first | lia | omega))) (xVar rfl) (oAddS (by show _ + (inn _).length ≤ _; (first | lia | omega)))) xStr (oAddS (by show ((T ++ "\"") ++ inn (names.getD f "")).length + _ ≤ _; (first | lia | omega)))) (xBin xStr (xSub (xVar rfl) (xSub (xVar rfl) (xVar rfl) (subN q (by first | lia | omega))) (subN gz (by first | lia | omega))) (oMulS ⟨by first | lia | omega, by first | lia | omega, by first | lia | omega⟩)) (oAddS (by show (((T ++ "\"") ++ inn (names.getD f "")) ++ "\"").length + _ ≤ _; (first | lia | omega)))) rfl) zNil)), ?_⟩
    (first | lia | omega)
theorem bill_loop (B : BillOk names s z fall) : ∀ (j k : Nat) (T : Str) (v w : Option V), j + k ≤ 8 → T.length ≤ 50 * k → ∃ v' w', evF fnsL (j + 20) 5 (.rng k 1 j) biB (biSt names s z fall T v w) = some (.next, biSt names s z fall (billS names s z fall j k T) v' w')
  | 0, k, T, v, w, hk, hT => ⟨v, w, fEnd rfl⟩
  | j + 1, k, T, v, w, hk, hT => by
    obtain ⟨a1, a2⟩ := bill_step1 B T k w (by first | lia | omega) (by first | lia | omega) (j + 10)
    obtain ⟨w', b1, b2⟩ := bill_step2 B (bill1 s T k) k w (by first | lia | omega) (by first | lia | omega) (j + 4)
    obtain ⟨v', w'', ih⟩ := bill_loop B j (k + 1) (bill2 names z fall (bill1 s T k) k) (some (.d (.int k))) w' (by first | lia | omega) (by first | lia | omega)
    refine ⟨v', w'', ?_⟩
    rw [show j + 1 + 20 = (j + 20) + 1 by first | lia | omega]
    exact fNext (v := .d (.int k)) (src' := .rng ((k + 1 : Nat) : Int) 1 j) rfl rfl (zCons a1 (zCons b1 zNil)) ih
theorem bill_ev (B : BillOk names s z fall) (st : PS) : evC fnsL 50 119 [.d (iN s), .d (sL names), .d (iN z), .d (iN fall)] .none st = some (.d (.str (billP names s z fall)), st) := by
  have hs := B.sl
  have hf := B.fl
  obtain ⟨v', w', hl⟩ := bill_loop B (max s.length fall.length) 0 "" .none .none (by first | lia | omega) (by decide +kernel)
  refine cData (f := billF) (st' := ⟨[], []⟩) rfl rfl rfl rfl ?_
  have run : evSs fnsL 49 billB ⟨[some (.d (iN s)), some (.d (sL names)), some (.d (iN z)), some (.d (iN fall)), .none, .none, .none], []⟩ = some (.ret (.d (.str (billP names s z fall))), biSt names s z fall (billP names s z fall) v' w') := by
    refine zCons (sAssign xStr rfl) (zCons (sFor (iRange1 (xMax (xLenL (xVar rfl) (by simp; (first | lia | omega))) (xLenL (xVar rfl) (by simp; (first | lia | omega)))) (by simp only [List.length_map]; split <;> (first | lia | omega))) (upF (m := max s.length fall.length + 20) (by first | lia | omega) ?_)) (zRet (sRet (xVar rfl))))
    have e : (if (((s.map nI).length : Nat) : Int) < (((fall.map nI).length : Nat) : Int) then (((fall.map nI).length : Nat) : Int) else (((s.map nI).length : Nat) : Int)).toNat = max s.length fall.length := by
      simp only [List.length_map]; split <;> (first | lia | omega)
    rw [e]
    exact hl
  have e : evSs fnsL 49 billF.body ⟨List.map some [.d (iN s), .d (sL names), .d (iN z), .d (iN fall)] ++ List.map some billF.cap ++ List.replicate billF.nv .none, []⟩ = _ := run
  rw [e]
  rfl
end
end Mine.Internal
end
section
set_option genInjectivity false
open PySem PySem.W PyProof.Rows PySem.Calls
set_option maxRecDepth 100000
namespace Mine.Internal
noncomputable def s00 : PS := ⟨[], []⟩
noncomputable def natD : D → Option Nat
  | .int (.ofNat n) => some n
  | _ => .none
noncomputable def natsD : D → Option (List Nat)
  | .list l => mapO natD l
  | _ => .none
theorem natD_eq {d : D} {n : Nat} (h : natD d = some n) : d = nI n := by
  cases d with
  | int i => cases i with
    | ofNat k => cases h; rfl
    | negSucc k => cases h
  | _ => cases h
theorem mapO_eq {α β : Type} {f : α → Option β} {g : β → α} (hf : ∀ a b, f a = some b → a = g b) : ∀ {l : List α} {r : List β}, mapO f l = some r → l = r.map g
  | [], r, h => by cases h; rfl
  | a :: l, r, h => by
    exact bd_c (x := f a) h fun y e h => bd_c h fun ys e2 h => by
      cases h
      rw [hf _ _ e, mapO_eq hf e2, List.map_cons]
theorem natsD_eq {d : D} {l : List Nat} (h : natsD d = some l) : d = iN l := by
  cases d with
  | list x => rw [mapO_eq (fun _ _ => natD_eq) (show mapO natD x = some l from h)]; rfl
  | _ => cases h
theorem elim_t {α : Type} {o : Option α} {f : α → Bool} (h : o.elim false f = true) : ∃ a, o = some a ∧ f a = true := by
  cases o with
  | none => cases h
  | some a => exact ⟨a, rfl, h⟩
noncomputable def asD : V → Option D
  | .d x => some x
  | .ref _ => .none
noncomputable def asLs : D → Option (List D)
  | .list l => some l
  | _ => .none
noncomputable def strD : D → Option Str
  | .str s => some s
  | _ => .none
theorem asD_e {v : V} {d : D} (h : asD v = some d) : v = .d d := by cases v <;> cases h; rfl
theorem asLs_e {d : D} {l : List D} (h : asLs d = some l) : d = .list l := by cases d <;> cases h; rfl
theorem strD_e {d : D} {l : Str} (h : strD d = some l) : d = .str l := by cases d <;> cases h; rfl
noncomputable def sizes12 : List (List Nat) := [[1,1,1],[1,1,2],[1,1,3],[1,2,1],[1,2,2],[1,2,3],[2,1,1],[2,1,2],[2,1,3],[2,2,1],[2,2,2],[2,2,3]]
noncomputable def rulerChk (r : Nat) : Bool := (evC fnsL 60 81 [.d (.int r)] .none s00).elim false fun p => (asD p.1).elim false fun d => (asLs d).elim false fun l0 => decide (l0.length = 2) && ((natsD (l0.getD 0 .none)).elim false fun l => (natsD (l0.getD 1 .none)).elim false fun m =>
  (evC fnsL 60 88 [.d (l0.getD 0 .none)] .none s00).elim false fun q => (asD q.1).elim false fun t => (natsD t).elim false fun m' => m' == m && sizes12.contains (m.take 3) && decide (m.length < 10 ∧ l.length < 10 ∧ 3 ≤ m.length) && ofCmp .NotEq (.d t) (.d (l0.getD 1 .none)) s00 == some false)
theorem ruler_all : ((List.range 48).all rulerChk) = true := by decide +kernel
noncomputable def typed : List Str := ["", "\"", "(", "()", ")", "A", "\\", "a"]
noncomputable def namesChk (r : Nat) : Bool := (evC fnsL 60 100 [.d (.int r)] .none s00).elim false fun p => (asD p.1).elim false fun d => (asLs d).elim false fun l => (mapO strD l).elim false fun n =>
  decide (n.length = 3) && (strLt (n.getD 0 "") (n.getD 1 "") && strLt (n.getD 1 "") (n.getD 2 "") && typed.contains (n.getD 0 "") && typed.contains (n.getD 1 "") && typed.contains (n.getD 2 ""))
noncomputable def shapesP : Nat → Nat → Nat → List (List Nat)
  | _, 0, _ => [[]]
  | 0, _ + 1, _ => []
  | rows + 1, t + 1, most => ((List.range' 1 (min (t + 1) most)).reverse).flatMap fun size => (shapesP rows (t + 1 - size) size).map (size :: ·)
noncomputable def shapesOf (z : List Nat) : List (List Nat) := shapesP 4 z.sum z.sum
noncomputable def shapesChk (z : List Nat) : Bool := (evC fnsL 120 107 [.d (.int z.sum), .d (.int z.sum), .d (.int 4)] .none s00).elim false fun p => (asD p.1).elim false fun d => (asLs d).elim false fun l => mapO natsD l == some (shapesOf z)
theorem shapes_all : ([[1,1,1],[1,1,2],[1,1,3],[1,2,3],[2,2,3]] : List (List Nat)).all shapesChk = true := by decide +kernel
abbrev Lt := Fin 3
noncomputable def letD (d : D) : Option Lt := bd (natD d) fun n => if h : n < 3 then some ⟨n, h⟩ else .none
noncomputable def rowD (d : D) : Option (List Lt) := bd (asLs d) (mapO letD)
noncomputable def ltF (a b : Lt) : Bool := decide (a < b)
noncomputable def fallOf (z : List Nat) : List Nat := [3, 2, 1].flatMap fun size => [0, 1, 2].filter fun p => z.getD p 0 == size
noncomputable def segK (z s : List Nat) (k : Nat) : List Nat := List.replicate (z.getD ((fallOf z).getD k 0) 0) 41 ++ List.replicate (s.getD (k + 1) 0) 40
noncomputable def brk (z s : List Nat) : List Nat := List.replicate (s.getD 0 0) 40 ++ segK z s 0 ++ segK z s 1 ++ segK z s 2
noncomputable def bal (l : List Nat) : Bool := chkGo 0 (escs 0 false l)
noncomputable def shapeChk (z s : List Nat) : Bool := decide (1 ≤ s.length ∧ s.length ≤ 4) && s.all (· ≤ 7) && ((evC fnsL 120 112 [.d (iN s), .d (iN z)] .none s00).elim false fun p => (asD p.1).elim false fun d => (asLs d).elim (isNo (.d d) && bal (brk z s) == false) fun rows => (mapO rowD rows).elim false fun R => bal (brk z s) && laidG ltF R.reverse.flatten == R && R.map List.length == s && decide (R.length ≤ 4))
end Mine.Internal
end
section
set_option genInjectivity false
open PySem PySem.W PyProof.Rows PySem.Calls
set_option maxRecDepth 100000
namespace Mine.Internal
noncomputable def wordsP : Nat → Nat → Nat → Nat → List (List Lt)
  | 0, _, _, _ => [[]]
  | n + 1, a, b, c => (if 0 < a then (wordsP n (a - 1) b c).map (0 :: ·) else []) ++ ((if 0 < b then (wordsP n a (b - 1) c).map (1 :: ·) else []) ++ (if 0 < c then (wordsP n a b (c - 1)).map (2 :: ·) else []))
noncomputable def wordsOf (z : List Nat) : List (List Lt) := wordsP z.sum (z.getD 0 0) (z.getD 1 0) (z.getD 2 0)
noncomputable def ltT (T : List (List Lt)) (i j i' j' : Nat) : Bool := ltF ((T.getD i []).getD j 0) ((T.getD i' []).getD j' 0)
noncomputable def rowsOk (T : List (List Lt)) : Bool := (List.range T.length).all fun k => (List.range ((T.getD k []).length - 1)).all (fun j => !ltT T k (j + 1) k j) && (k == 0 || decide ((T.getD k []).length ≤ (T.getD (k - 1) []).length) && (List.range (T.getD k []).length).all fun j => ltT T (k - 1) j k j)
noncomputable def wordChk (z : List Nat) (w : List Lt) : Bool :=
  let T := laidG ltF w
  let g := T.map List.length
  (shapesOf z).contains g && bal (brk z g) && rowsOk T && bal (41 :: brk z g) == false && bal (brk z g ++ [40]) == false && decide (T.length ≤ 4) && T.all fun r => decide (r.length ≤ 7)
end Mine.Internal
end
section
set_option genInjectivity false
open PySem PySem.W PyProof.Rows PySem.Calls
set_option maxRecDepth 100000
namespace Mine.Internal
noncomputable def cl (x : Str) : List Nat := x.cps.toList
theorem cl_app (a b : Str) : cl (a ++ b) = cl a ++ cl b := by
  show (a.cps ++ b.cps).toList = _
  rw [Array.toList_append]; rfl
theorem cl_len (x : Str) : (cl x).length = x.length := by simp [cl, Str.length]
theorem cl_one (c : Nat) : cl (one c) = [c] := rfl
theorem q_one : ("\"" : Str) = one 34 := by decide +kernel
theorem l_one : ("(" : Str) = one 40 := by decide +kernel
theorem r_one : (")" : Str) = one 41 := by decide +kernel
theorem cl_e : cl ("" : Str) = [] := by decide +kernel
theorem mulL : ∀ n < 8, cl (Txt.mul "(" ((n : Nat) : Int)) = List.replicate n 40 := by decide +kernel
theorem mulR : ∀ n < 8, cl (Txt.mul ")" ((n : Nat) : Int)) = List.replicate n 41 := by decide +kernel
theorem one_ne {a b : Nat} (h : a ≠ b) : (one a == one b) = false := by
  rw [beq_eq_false_iff_ne]
  intro e
  have := congrArg cl e
  simp only [cl_one, List.cons.injEq, and_true] at this
  exact h this
theorem tok_ne {c : Nat} (h : c ≠ 34) : (one c == ("\"" : Str)) = false := by
  rw [q_one]; exact one_ne h
noncomputable def toks : Int → List Nat → List (Int × Str)
  | _, [] => []
  | i, c :: r => (i, one c) :: toks (i + 1) r
theorem escs_toks : ∀ (P : List Nat) (i : Int) (r : List Nat), (∀ c ∈ P, c ≠ 92) → escs i false (P ++ r) = toks i P ++ escs (i + P.length) false r
  | [], i, r, h => by
    show escs i false r = escs (i + 0) false r
    rw [Int.add_zero]
  | c :: P, i, r, h => by
    have h0 : c ≠ 92 := h c (.head _)
    have ih := escs_toks P (i + 1) r fun c q => h c (.tail _ q)
    show escs i false (c :: (P ++ r)) = (i, one c) :: (toks (i + 1) P ++ escs (i + ((P.length + 1 : Nat) : Int)) false r)
    rw [escs_n h0, ih, show i + 1 + (P.length : Int) = i + ((P.length + 1 : Nat) : Int) by first | lia | omega]
noncomputable def NoQ (ts : List (Int × Str)) : Prop := ∀ t ∈ ts, (t.2 == ("\"" : Str)) = false
theorem toks_noQ : ∀ (P : List Nat) (i : Int), (∀ c ∈ P, c ≠ 34) → NoQ (toks i P)
  | [], i, h => fun t q => nomatch q
  | c :: P, i, h => fun t q => by
    rcases List.mem_cons.mp q with rfl | q
    · exact tok_ne (h c (.head _))
    · exact toks_noQ P _ (fun c q => h c (.tail _ q)) t q
theorem fold_noQ (x : Str) : ∀ (ts : List (Int × Str)) (s : StS), NoQ ts → ts.foldl (strStep x) s = s
  | [], s, h => rfl
  | t :: ts, s, h => by
    have h0 := h t (.head _)
    have : strStep x s t = s := step_n h0
    rw [List.foldl_cons, this, fold_noQ x ts s fun t q => h t (.tail _ q)]
noncomputable def Quiet (q : List Nat) : Prop := ∀ (i : Int) (r : List Nat), ∃ ts, NoQ ts ∧ escs i false (q ++ 34 :: r) = ts ++ (i + q.length, one 34) :: escs (i + q.length + 1) false r
theorem two_ne (a b : Nat) : ((⟨#[a, b]⟩ : Str) == ("\"" : Str)) = false := by
  rw [q_one, beq_eq_false_iff_ne]
  intro e
  have := congrArg Str.length e
  simp [Str.length, one] at this
theorem quiet_plain {q : List Nat} (h : ∀ c ∈ q, c ≠ 92 ∧ c ≠ 34) : Quiet q := fun i r =>
  ⟨toks i q, toks_noQ q i fun c m => (h c m).2, by
    rw [escs_toks q i _ fun c m => (h c m).1, escs_n (by decide)]⟩
theorem quiet_esc (a : Nat) : Quiet [92, a] := fun i r => ⟨[(i + 1, ⟨#[92, a]⟩)], fun t q => by
    rcases List.mem_singleton.mp q with rfl
    exact two_ne _ _, by
    have e1 : i + 1 + 1 = i + 2 := by first | lia | omega
    show escs i false (92 :: a :: 34 :: r) = (i + 1, ⟨#[92, a]⟩) :: (i + 2, one 34) :: escs (i + 2 + 1) false r
    rw [escs_b rfl]
    show (i + 1, (⟨#[92, a]⟩ : Str)) :: escs (i + 1 + 1) false (34 :: r) = _
    rw [e1, escs_n (by decide)]⟩
abbrev Seg := List Nat × List Nat
noncomputable def segT (l : List Seg) : List Nat := l.flatMap fun p => p.1 ++ 34 :: (p.2 ++ [34])
noncomputable def Br (P : List Nat) : Prop := ∀ c ∈ P, c ≠ 92 ∧ c ≠ 34
theorem slice_mid {x : Str} {A P B : List Nat} (h : cl x = A ++ (P ++ B)) : cl (Txt.slice x (some (A.length : Int)) (some ((A.length : Int) + P.length))) = P := by
  have hl := congrArg List.length h
  rw [cl_len] at hl
  simp only [List.length_append] at hl
  have := slice_closesL (x := x) (i := (A.length : Int)) (j := (A.length : Int) + P.length) (by first | lia | omega) (by first | lia | omega) (by first | lia | omega)
  rw [beq_iff_eq] at this
  rw [this]
  show (((cl x).drop _).take _).toArray.toList = P
  rw [h]
  have e1 : ((A.length : Int)).toNat = A.length := by simp
  have e2 : ((A.length : Int) + P.length - A.length).toNat = P.length := by first | lia | omega
  rw [e1, e2]
  simp
theorem slice_end {x : Str} {A P : List Nat} (h : cl x = A ++ P) : cl (Txt.slice x (some (A.length : Int)) .none) = P := by
  have hl := congrArg List.length h
  rw [cl_len] at hl
  simp only [List.length_append] at hl
  have := slice_closes_fromL (x := x) (i := (A.length : Int)) (b := x.length) (by first | lia | omega) (by first | lia | omega) rfl
  rw [beq_iff_eq] at this
  rw [this]
  show (((cl x).drop _).take _).toArray.toList = P
  rw [h]
  have e1 : ((A.length : Int)).toNat = A.length := by simp
  have e2 : ((x.length : Int) - A.length).toNat = P.length := by first | lia | omega
  rw [e1, e2]
  simp
theorem strip_fold (x : Str) (Pl : List Nat) (hPl : Br Pl) : ∀ (segs : List Seg) (A : List Nat) (acc : List Str), cl x = A ++ (segT segs ++ Pl) → (∀ p ∈ segs, Br p.1 ∧ Quiet p.2) →
    ∃ acc', (escs A.length false (segT segs ++ Pl)).foldl (strStep x) ((A.length : Int), .none, acc) = (((A.length + (segT segs).length : Nat) : Int), .none, acc') ∧ (acc'.map cl).flatten = (acc.map cl).flatten ++ (segs.map (·.1)).flatten
  | [], A, acc, hx, hs => by
    refine ⟨acc, ?_, by simp⟩
    have := escs_toks Pl A.length [] fun c m => (hPl c m).1
    rw [List.append_nil, show escs ((A.length : Int) + Pl.length) false [] = [] from rfl, List.append_nil] at this
    simp only [segT, List.flatMap_nil, List.nil_append, List.length_nil, Nat.add_zero, this]
    exact fold_noQ x _ _ (toks_noQ Pl _ fun c m => (hPl c m).2)
  | (P, q) :: segs, A, acc, hx, hs => by
    obtain ⟨hP, hq⟩ := hs (P, q) (.head _)
    have eT : segT ((P, q) :: segs) ++ Pl = P ++ 34 :: (q ++ 34 :: (segT segs ++ Pl)) := by simp [segT]
    obtain ⟨ts, hts, e2⟩ := hq ((A.length : Int) + P.length + 1) (segT segs ++ Pl)
    obtain ⟨acc', ih, ih2⟩ := strip_fold x Pl hPl segs (A ++ (P ++ 34 :: (q ++ [34]))) (ifB ((A.length : Int) == (A.length : Int) + P.length) acc (acc ++ [Txt.slice x (some (A.length : Int)) (some ((A.length : Int) + P.length))])) (by rw [hx, eT]; simp) (fun p m => hs p (.tail _ m))
    have el : ((A ++ (P ++ 34 :: (q ++ [34]))).length : Int) = (A.length : Int) + P.length + 1 + q.length + 1 := by simp; (first | lia | omega)
    refine ⟨acc', ?_, ?_⟩
    · rw [eT, escs_toks P _ _ fun c m => (hP c m).1, List.foldl_append, fold_noQ x _ _ (toks_noQ P _ fun c m => (hP c m).2)]
      have e1 : escs ((A.length : Int) + P.length) false (34 :: (q ++ 34 :: (segT segs ++ Pl))) = ((A.length : Int) + P.length, one 34) :: escs ((A.length : Int) + P.length + 1) false (q ++ 34 :: (segT segs ++ Pl)) := escs_n (by decide)
      rw [e1, List.foldl_cons, e2, List.foldl_append, List.foldl_cons]
      have q1 : (one 34 == ("\"" : Str)) = true := by decide +kernel
      have s1 : strStep x ((A.length : Int), .none, acc) ((A.length : Int) + P.length, one 34) = ((A.length : Int), some ((A.length : Int) + P.length), acc) := step_q q1
      rw [s1, fold_noQ x ts _ hts]
      have s2 : strStep x ((A.length : Int), some ((A.length : Int) + P.length), acc) ((A.length : Int) + P.length + 1 + q.length, one 34) = ((A.length : Int) + P.length + 1 + q.length + 1, .none, ifB ((A.length : Int) == (A.length : Int) + P.length) acc (acc ++ [Txt.slice x (some (A.length : Int)) (some ((A.length : Int) + P.length))])) := step_q q1
      rw [s2, ← el, ih]
      congr 1
      simp [segT]
      (first | lia | omega)
    · rw [ih2]
      by_cases h0 : P.length = 0
      · have : P = [] := List.length_eq_zero_iff.mp h0
        subst this
        rw [show ((A.length : Int) == (A.length : Int) + ([] : List Nat).length) = true by simp, show ∀ a b : List Str, ifB true a b = a from fun _ _ => rfl]
        simp
      · have e : ((A.length : Int) == (A.length : Int) + P.length) = false := by rw [beq_eq_false_iff_ne]; (first | lia | omega)
        rw [e]
        have sm : cl (Txt.slice x (some (A.length : Int)) (some ((A.length : Int) + P.length))) = P := slice_mid (B := 34 :: (q ++ 34 :: (segT segs ++ Pl))) (by rw [hx, eT])
        rw [show ∀ a b : List Str, ifB false a b = b from fun _ _ => rfl]
        simp [sm]
theorem cl_join : ∀ l : List Str, cl (Txt.join "" l) = (l.map cl).flatten := by
  intro l
  show cl (Builtin.Str.glued "" l) = _
  rw [StrLaws.glued_eq_join]
  induction l with
  | nil => rfl
  | cons a l ih =>
    cases l with
    | nil => simp [Str.join]
    | cons b l =>
      show cl (a ++ "" ++ Str.join "" (b :: l)) = _
      rw [cl_app, cl_app, cl_e, ih]
      simp
theorem strip_segs (x : Str) (segs : List Seg) (Pl : List Nat) (hPl : Br Pl) (hx : cl x = segT segs ++ Pl) (hs : ∀ p ∈ segs, Br p.1 ∧ Quiet p.2) (hne : segs ≠ []) :
    cl (stripP x) = (segs.map (·.1)).flatten ++ Pl ∧ ((strEnd x (strRun x)).map cl).flatten = (segs.map (·.1)).flatten ++ Pl := by
  obtain ⟨acc', h1, h2⟩ := strip_fold x Pl hPl segs [] [] (by simpa using hx) hs
  have hr : strRun x = (((segT segs).length : Int), .none, acc') := by
    unfold strRun
    have : x.cps.toList = segT segs ++ Pl := hx
    rw [this]
    simpa using h1
  have hl := congrArg List.length hx
  rw [cl_len, List.length_append] at hl
  have hE : ((strEnd x (strRun x)).map cl).flatten = (segs.map (·.1)).flatten ++ Pl := by
    rw [hr]
    unfold strEnd
    by_cases hlt : ((segT segs).length : Int) < (x.length : Int)
    · rw [if_pos hlt]
      have := slice_end (x := x) (A := segT segs) (P := Pl) hx
      simp only [List.map_append, List.flatten_append, h2, List.map_cons, List.map_nil, this]
      simp
    · rw [if_neg hlt]
      have : Pl = [] := List.length_eq_zero_iff.mp (by first | lia | omega)
      subst this
      simp only [h2]
      simp
  refine ⟨?_, hE⟩
  have hsub : hasSub "\"" x = true := by
    unfold hasSub
    rw [q_one]
    have := StrLaws.found_one x 34
    have e : (!(Builtin.Str.occurrences x (one 34) 0 x.length 1).isEmpty) = decide (34 ∈ x.cps.toList) := this
    rw [e, decide_eq_true_eq]
    have : x.cps.toList = segT segs ++ Pl := hx
    rw [this]
    cases segs with
    | nil => exact (hne rfl).elim
    | cons p segs => simp [segT]
  unfold stripP
  rw [if_pos hsub, cl_join, hE]
theorem joinOk_e (l : List Str) (h : (l.map cl).flatten.length ≤ 1000) : JoinOk "" l = true := by
  unfold JoinOk
  have e := StrLaws.joinTotal "" l
  have e0 : ("" : Str).length = 0 := by decide +kernel
  have e1 : (l.map (·.length)).sum = (l.map cl).flatten.length := by
    rw [List.length_flatten, List.map_map]
    rfl
  rw [e0] at e
  simp only [Nat.add_zero, Nat.mul_zero] at e
  have e2 : l.toArray.foldl (fun a p => a + p.length + ("" : Str).length) 0 = (l.map (·.length)).sum := by rw [e0]; exact e
  have e3 : Builtin.Str.tooLong ((l.map (·.length)).sum) = false := by
    unfold Builtin.Str.tooLong
    rw [e1]
    have : (1000 : Nat) ≤ sizeLine := by decide +kernel
    exact decide_eq_false (by first | lia | omega)
  show (!(Builtin.Str.tooLong (l.toArray.foldl (fun a p => a + p.length + ("" : Str).length) 0))) = true
  rw [e2, e3]; rfl
theorem check_segs (x : Str) (segs : List Seg) (Pl : List Nat) (hPl : Br Pl) (hx : cl x = segT segs ++ Pl) (hs : ∀ p ∈ segs, Br p.1 ∧ Quiet p.2) (hne : segs ≠ []) (hlen : x.length ≤ 60) (st : PS) :
    evC fnsL 110 53 [.d (.str x)] .none st = some (.d (.bool (bal ((segs.map (·.1)).flatten ++ Pl))), st) := by
  obtain ⟨h1, h2⟩ := strip_segs x segs Pl hPl hx hs hne
  have hle : ((segs.map (·.1)).flatten ++ Pl).length ≤ x.length := by
    have hl := congrArg List.length hx
    rw [cl_len] at hl
    rw [hl]
    clear hl hx hs hne h1 h2
    simp only [List.length_append]
    have : (segs.map (·.1)).flatten.length ≤ (segT segs).length := by
      induction segs with
      | nil => simp
      | cons p segs ih =>
        simp only [segT, List.map_cons, List.flatten_cons, List.length_append, List.flatMap_cons, List.length_cons] at ih ⊢
        (first | lia | omega)
    (first | lia | omega)
  have hs2 : (stripP x).length ≤ 60 := by rw [← cl_len, h1]; (first | lia | omega)
  rw [check_ev x hlen (joinOk_e _ (by rw [h2]; (first | lia | omega))) hs2 st]
  unfold checkP bal
  rw [← h1]; rfl
end Mine.Internal
end
section
set_option genInjectivity false
open PySem PySem.W PyProof.Rows PySem.Calls
set_option maxRecDepth 100000
namespace Mine.Internal
theorem inn_all : typed.map (fun n => cl (inn n)) = [[], [92, 34], [40], [40, 41], [41], [65], [92, 92], [97]] := by decide +kernel
theorem typed_len : ∀ n ∈ typed, n.length ≤ 10 ∧ (Txt.replace n "\\" "\\\\").length ≤ 20 := by decide +kernel
theorem inn_fact {n : Str} (h : n ∈ typed) : Quiet (cl (inn n)) ∧ (cl (inn n)).length ≤ 2 := by
  have : cl (inn n) ∈ typed.map (fun n => cl (inn n)) := List.mem_map.mpr ⟨n, h, rfl⟩
  rw [inn_all] at this
  simp only [List.mem_cons, List.not_mem_nil, or_false] at this
  rcases this with e | e | e | e | e | e | e | e <;> rw [e]
  · exact ⟨quiet_plain (by decide), by decide⟩
  · exact ⟨quiet_esc 34, by decide⟩
  · exact ⟨quiet_plain (by decide), by decide⟩
  · exact ⟨quiet_plain (by decide), by decide⟩
  · exact ⟨quiet_plain (by decide), by decide⟩
  · exact ⟨quiet_plain (by decide), by decide⟩
  · exact ⟨quiet_esc 92, by decide⟩
  · exact ⟨quiet_plain (by decide), by decide⟩
structure Nms (names : List Str) : Prop where
  len : names.length = 3
  mem : ∀ n ∈ names, n ∈ typed
  lt : ∀ i j : Lt, strLt (names.getD i.val "") (names.getD j.val "") = ltF i j
theorem typed_irr : ∀ x ∈ typed, strLt x x = false := by decide +kernel
theorem typed_tr : ∀ x ∈ typed, ∀ y ∈ typed, strLt x y = true → strLt y x = false := by decide +kernel
theorem typed_tr2 : ∀ x ∈ typed, ∀ y ∈ typed, strLt x y = true → ∀ z ∈ typed, strLt y z = true → strLt x z = true := by decide +kernel
theorem fin3 : ∀ x : Lt, x = 0 ∨ x = 1 ∨ x = 2 := by decide
theorem nms_mk {a b c : Str} (ha : a ∈ typed) (hb : b ∈ typed) (hc : c ∈ typed) (hab : strLt a b = true) (hbc : strLt b c = true) : Nms [a, b, c] := by
  have hac := typed_tr2 a ha b hb hab c hc hbc
  refine ⟨rfl, fun n h => ?_, ?_⟩
  · simp only [List.mem_cons, List.not_mem_nil, or_false] at h
    rcases h with rfl | rfl | rfl <;> assumption
  · have ra := typed_irr a ha
    have rb := typed_irr b hb
    have rc := typed_irr c hc
    have rba := typed_tr a ha b hb hab
    have rcb := typed_tr b hb c hc hbc
    have rca := typed_tr a ha c hc hac
    intro i j
    rcases fin3 i with rfl | rfl | rfl <;> rcases fin3 j with rfl | rfl | rfl
    · exact ra
    · exact hab
    · exact hac
    · exact rba
    · exact rb
    · exact hbc
    · exact rca
    · exact rcb
    · exact rc
noncomputable def segsOf (names : List Str) (z s : List Nat) : List Seg :=
  [(List.replicate (s.getD 0 0) 40, cl (inn (names.getD ((fallOf z).getD 0 0) ""))), (segK z s 0, cl (inn (names.getD ((fallOf z).getD 1 0) ""))), (segK z s 1, cl (inn (names.getD ((fallOf z).getD 2 0) "")))]
theorem cl_b1 (s : List Nat) (hs : ∀ y ∈ s, y ≤ 7) (T : Str) (k : Nat) : cl (bill1 s T k) = cl T ++ List.replicate (s.getD k 0) 40 := by
  unfold bill1
  rw [List.getD_eq_getElem?_getD]
  cases h : s[k]? with
  | none => simp
  | some y =>
    have := hs y (List.mem_of_getElem? h)
    simp only [cl_app, Option.getD_some]
    rw [mulL y (by first | lia | omega)]
theorem cl_b2 (names : List Str) (z fall : List Nat) (hz : ∀ y ∈ z, y ≤ 7) (T : Str) (k : Nat) (hk : k < fall.length) : cl (bill2 names z fall T k) = cl T ++ 34 :: (cl (inn (names.getD (fall.getD k 0) "")) ++ 34 :: List.replicate (z.getD (fall.getD k 0) 0) 41) := by
  unfold bill2
  have e : fall[k]? = some (fall.getD k 0) := by rw [List.getD_eq_getElem?_getD, List.getElem?_eq_getElem hk]; rfl
  rw [e]
  have hz2 : z.getD (fall.getD k 0) 0 ≤ 7 := by
    rw [List.getD_eq_getElem?_getD]
    cases h : z[fall.getD k 0]? with
    | none => simp
    | some y => exact hz y (List.mem_of_getElem? h)
  simp only [cl_app]
  rw [mulR _ (by first | lia | omega), q_one, cl_one]
  simp
theorem cl_b2n (names : List Str) (z fall : List Nat) (T : Str) (k : Nat) (hk : fall.length ≤ k) : bill2 names z fall T k = T := by
  unfold bill2
  rw [List.getElem?_eq_none hk]
theorem fall_len : ∀ z ∈ sizes12, (fallOf z).length = 3 ∧ ∀ y ∈ fallOf z, y < 3 := by decide +kernel
theorem z_le : ∀ z ∈ sizes12, z.length = 3 ∧ (∀ y ∈ z, y ≤ 7) ∧ z.sum ≤ 7 ∧ (z.getD ((fallOf z).getD 0 0) 0 + z.getD ((fallOf z).getD 1 0) 0 + z.getD ((fallOf z).getD 2 0) 0 ≤ 7) := by decide +kernel
theorem bill_cl (names : List Str) {z s : List Nat} (hz : z ∈ sizes12) (h1 : 1 ≤ s.length) (h4 : s.length ≤ 4) (hs : ∀ y ∈ s, y ≤ 7) :
    cl (billP names s z (fallOf z)) = segT (segsOf names z s) ++ segK z s 2 := by
  obtain ⟨hf, _⟩ := fall_len z hz
  obtain ⟨_, hz7, _⟩ := z_le z hz
  have b1 := cl_b1 s hs
  have b2 := fun T k => cl_b2 names z (fallOf z) hz7 T k
  have b3 := fun T k => cl_b2n names z (fallOf z) T k
  unfold billP
  rw [hf]
  by_cases h : s.length = 4
  · rw [h]
    show cl (bill2 names z (fallOf z) (bill1 s _ 3) 3) = _
    rw [b3 _ 3 (by first | lia | omega), b1]
    show cl (bill2 names z (fallOf z) (bill1 s _ 2) 2) ++ _ = _
    rw [b2 _ 2 (by first | lia | omega), b1]
    show cl (bill2 names z (fallOf z) (bill1 s _ 1) 1) ++ _ ++ _ ++ _ = _
    rw [b2 _ 1 (by first | lia | omega), b1]
    show cl (bill2 names z (fallOf z) (bill1 s _ 0) 0) ++ _ ++ _ ++ _ ++ _ ++ _ = _
    rw [b2 _ 0 (by first | lia | omega), b1, cl_e]
    simp [segT, segsOf, segK]
  · have e : max s.length 3 = 3 := by first | lia | omega
    have e3 : s.getD 3 0 = 0 := by rw [List.getD_eq_getElem?_getD, List.getElem?_eq_none (by first | lia | omega)]; rfl
    rw [e]
    show cl (bill2 names z (fallOf z) (bill1 s _ 2) 2) = _
    rw [b2 _ 2 (by first | lia | omega), b1]
    show cl (bill2 names z (fallOf z) (bill1 s _ 1) 1) ++ _ ++ _ = _
    rw [b2 _ 1 (by first | lia | omega), b1]
    show cl (bill2 names z (fallOf z) (bill1 s _ 0) 0) ++ _ ++ _ ++ _ ++ _ = _
    rw [b2 _ 0 (by first | lia | omega), b1, cl_e]
    simp [segT, segsOf, segK]
    simpa using e3
theorem segK_len (z s : List Nat) (k : Nat) : (segK z s k).length = z.getD ((fallOf z).getD k 0) 0 + s.getD (k + 1) 0 := by simp [segK]
theorem segK_br (z s : List Nat) (k : Nat) : Br (segK z s k) := fun c h => by
  simp only [segK, List.mem_append, List.mem_replicate] at h
  rcases h with ⟨_, rfl⟩ | ⟨_, rfl⟩ <;> decide
theorem segsOf_ok {names : List Str} (N : Nms names) {z s : List Nat} (hz : z ∈ sizes12) : ∀ p ∈ segsOf names z s, Br p.1 ∧ Quiet p.2 ∧ p.2.length ≤ 2 := by
  obtain ⟨hf, hf3⟩ := fall_len z hz
  have key : ∀ k < 3, Quiet (cl (inn (names.getD ((fallOf z).getD k 0) ""))) ∧ (cl (inn (names.getD ((fallOf z).getD k 0) ""))).length ≤ 2 := fun k hk => by
    refine inn_fact (N.mem _ ?_)
    have h0 : (fallOf z).getD k 0 < 3 := by
      rw [List.getD_eq_getElem?_getD, List.getElem?_eq_getElem (by first | lia | omega)]
      exact hf3 _ (List.getElem_mem _)
    have h1 : (fallOf z).getD k 0 < names.length := by have := N.len; (first | lia | omega)
    rw [List.getD_eq_getElem?_getD (l := names), List.getElem?_eq_getElem h1]
    exact List.getElem_mem _
  intro p hp
  simp only [segsOf, List.mem_cons, List.not_mem_nil, or_false] at hp
  rcases hp with rfl | rfl | rfl
  · exact ⟨fun c h => by rcases List.mem_replicate.mp h with ⟨_, rfl⟩; decide, key 0 (by first | lia | omega)⟩
  · exact ⟨segK_br _ _ _, key 1 (by first | lia | omega)⟩
  · exact ⟨segK_br _ _ _, key 2 (by first | lia | omega)⟩
theorem segs_flat (names : List Str) (z s : List Nat) : ((segsOf names z s).map (·.1)).flatten ++ segK z s 2 = brk z s := by simp [segsOf, brk]
theorem bill_len {names : List Str} (N : Nms names) {z s : List Nat} (hz : z ∈ sizes12) (h1 : 1 ≤ s.length) (h4 : s.length ≤ 4) (hs : ∀ y ∈ s, y ≤ 7) : (billP names s z (fallOf z)).length ≤ 55 := by
  rw [← cl_len, bill_cl names hz h1 h4 hs]
  have hk := segsOf_ok N hz (s := s)
  have a0 := (hk _ (.head _)).2.2
  have a1 := (hk _ (.tail _ (.head _))).2.2
  have a2 := (hk _ (.tail _ (.tail _ (.head _)))).2.2
  obtain ⟨_, _, _, hzz⟩ := z_le z hz
  have hg : ∀ k, s.getD k 0 ≤ 7 := fun k => by
    rw [List.getD_eq_getElem?_getD]
    cases h : s[k]? with
    | none => simp
    | some y => exact hs y (List.mem_of_getElem? h)
  have g0 := hg 0
  have g1 := hg 1
  have g2 := hg 2
  have g3 := hg 3
  simp only [segsOf, segT, List.flatMap_cons, List.flatMap_nil, List.length_append, List.length_cons, List.length_nil, List.length_replicate, segK_len, Nat.zero_add, Nat.reduceAdd] at *
  (first | lia | omega)
theorem billOk {names : List Str} (N : Nms names) {z s : List Nat} (hz : z ∈ sizes12) (h4 : s.length ≤ 4) (hs : ∀ y ∈ s, y ≤ 7) : BillOk names s z (fallOf z) := by
  obtain ⟨hf, hf3⟩ := fall_len z hz
  obtain ⟨hz3, hz7, _⟩ := z_le z hz
  refine ⟨fun y h => ?_, fun y h => ?_, hf3, fun n h => ?_, N.len, hz3, h4, hf⟩
  · have := hs y h
    refine ⟨by first | lia | omega, ?_⟩
    rw [← cl_len, mulL y (by first | lia | omega), List.length_replicate]; (first | lia | omega)
  · have := hz7 y h
    refine ⟨by first | lia | omega, ?_⟩
    rw [← cl_len, mulR y (by first | lia | omega), List.length_replicate]; (first | lia | omega)
  · have a := typed_len n (N.mem n h)
    have b := (inn_fact (N.mem n h)).2
    rw [cl_len] at b
    exact ⟨a.1, a.2, by first | lia | omega⟩
theorem check_bill {names : List Str} (N : Nms names) {z s : List Nat} (hz : z ∈ sizes12) (h1 : 1 ≤ s.length) (h4 : s.length ≤ 4) (hs : ∀ y ∈ s, y ≤ 7) (st : PS) :
    evC fnsL 110 53 [.d (.str (billP names s z (fallOf z)))] .none st = some (.d (.bool (bal (brk z s))), st) := by
  have hl := bill_len N hz h1 h4 hs
  rw [← segs_flat names z s]
  exact check_segs _ _ _ (segK_br _ _ _) (bill_cl names hz h1 h4 hs) (fun p hp => ⟨(segsOf_ok N hz p hp).1, (segsOf_ok N hz p hp).2.1⟩) (by simp [segsOf]) (by first | lia | omega) st
theorem check_front {names : List Str} (N : Nms names) {z s : List Nat} (hz : z ∈ sizes12) (h1 : 1 ≤ s.length) (h4 : s.length ≤ 4) (hs : ∀ y ∈ s, y ≤ 7) (st : PS) :
    evC fnsL 110 53 [.d (.str (")" ++ billP names s z (fallOf z)))] .none st = some (.d (.bool (bal (41 :: brk z s))), st) := by
  have hl := bill_len N hz h1 h4 hs
  have hk := segsOf_ok N hz (s := s)
  have e := bill_cl names hz h1 h4 hs
  rw [← segs_flat names z s]
  cases hseg : segsOf names z s with
  | nil => simp [segsOf] at hseg
  | cons p r =>
    rw [hseg] at hk e
    have := check_segs (")" ++ billP names s z (fallOf z)) ((41 :: p.1, p.2) :: r) _ (segK_br z s 2) (by rw [cl_app, e, r_one, cl_one]; simp [segT]) (fun q hq => by
      rcases List.mem_cons.mp hq with rfl | hq
      · refine ⟨fun c h => ?_, (hk p (.head _)).2.1⟩
        rcases List.mem_cons.mp h with rfl | h
        · decide
        · exact (hk p (.head _)).1 c h
      · exact ⟨(hk q (.tail _ hq)).1, (hk q (.tail _ hq)).2.1⟩) (by simp) (by
        rw [Str.len_app]
        have : (")" : Str).length = 1 := by decide +kernel
        (first | lia | omega)) st
    simpa using this
theorem check_back {names : List Str} (N : Nms names) {z s : List Nat} (hz : z ∈ sizes12) (h1 : 1 ≤ s.length) (h4 : s.length ≤ 4) (hs : ∀ y ∈ s, y ≤ 7) (st : PS) :
    evC fnsL 110 53 [.d (.str (billP names s z (fallOf z) ++ "("))] .none st = some (.d (.bool (bal (brk z s ++ [40]))), st) := by
  have hl := bill_len N hz h1 h4 hs
  have hk := segsOf_ok N hz (s := s)
  have e := bill_cl names hz h1 h4 hs
  rw [← segs_flat names z s, List.append_assoc]
  refine check_segs _ (segsOf names z s) (segK z s 2 ++ [40]) (fun c h => ?_) (by rw [cl_app, e, l_one, cl_one]; simp) (fun p hp => ⟨(hk p hp).1, (hk p hp).2.1⟩) (by simp [segsOf]) (by
        rw [Str.len_app]
        have : ("(" : Str).length = 1 := by decide +kernel
        (first | lia | omega)) st
  rcases List.mem_append.mp h with h | h
  · exact segK_br _ _ _ c h
  · rcases List.mem_singleton.mp h with rfl
    decide
end Mine.Internal
end
section
set_option genInjectivity false
open PySem PySem.W PyProof.Rows PySem.Calls
set_option maxRecDepth 100000
namespace Mine.Internal
theorem names_0 : (List.range' 0 16).all namesChk = true := by decide +kernel
theorem names_1 : (List.range' 16 16).all namesChk = true := by decide +kernel
theorem names_2 : (List.range' 32 16).all namesChk = true := by decide +kernel
theorem names_3 : (List.range' 48 16).all namesChk = true := by decide +kernel
theorem names_4 : (List.range' 64 16).all namesChk = true := by decide +kernel
theorem names_5 : (List.range' 80 16).all namesChk = true := by decide +kernel
theorem names_6 : (List.range' 96 16).all namesChk = true := by decide +kernel
theorem names_7 : (List.range' 112 16).all namesChk = true := by decide +kernel
theorem names_8 : (List.range' 128 16).all namesChk = true := by decide +kernel
theorem names_9 : (List.range' 144 16).all namesChk = true := by decide +kernel
theorem names_10 : (List.range' 160 16).all namesChk = true := by decide +kernel
theorem names_11 : (List.range' 176 16).all namesChk = true := by decide +kernel
theorem names_12 : (List.range' 192 16).all namesChk = true := by decide +kernel
theorem names_13 : (List.range' 208 16).all namesChk = true := by decide +kernel
theorem names_14 : (List.range' 224 16).all namesChk = true := by decide +kernel
theorem names_15 : (List.range' 240 16).all namesChk = true := by decide +kernel
theorem names_16 : (List.range' 256 16).all namesChk = true := by decide +kernel
theorem names_17 : (List.range' 272 16).all namesChk = true := by decide +kernel
theorem names_18 : (List.range' 288 16).all namesChk = true := by decide +kernel
theorem names_19 : (List.range' 304 16).all namesChk = true := by decide +kernel
theorem names_20 : (List.range' 320 16).all namesChk = true := by decide +kernel
theorem filled_111 : (shapesOf [1, 1, 1]).all (shapeChk [1, 1, 1]) = true := by decide +kernel
theorem filled_112 : (shapesOf [1, 1, 2]).all (shapeChk [1, 1, 2]) = true := by decide +kernel
theorem filled_113 : (shapesOf [1, 1, 3]).all (shapeChk [1, 1, 3]) = true := by decide +kernel
theorem filled_121 : (shapesOf [1, 2, 1]).all (shapeChk [1, 2, 1]) = true := by decide +kernel
theorem filled_122 : (shapesOf [1, 2, 2]).all (shapeChk [1, 2, 2]) = true := by decide +kernel
theorem filled_123 : (shapesOf [1, 2, 3]).all (shapeChk [1, 2, 3]) = true := by decide +kernel
theorem filled_211 : (shapesOf [2, 1, 1]).all (shapeChk [2, 1, 1]) = true := by decide +kernel
theorem filled_212 : (shapesOf [2, 1, 2]).all (shapeChk [2, 1, 2]) = true := by decide +kernel
theorem filled_213 : (shapesOf [2, 1, 3]).all (shapeChk [2, 1, 3]) = true := by decide +kernel
theorem filled_221 : (shapesOf [2, 2, 1]).all (shapeChk [2, 2, 1]) = true := by decide +kernel
theorem filled_222 : (shapesOf [2, 2, 2]).all (shapeChk [2, 2, 2]) = true := by decide +kernel
theorem filled_223 : (shapesOf [2, 2, 3]).all (shapeChk [2, 2, 3]) = true := by decide +kernel
theorem words_111 : (wordsOf [1, 1, 1]).all (wordChk [1, 1, 1]) = true := by decide +kernel
theorem words_112 : (wordsOf [1, 1, 2]).all (wordChk [1, 1, 2]) = true := by decide +kernel
theorem words_113 : (wordsOf [1, 1, 3]).all (wordChk [1, 1, 3]) = true := by decide +kernel
theorem words_121 : (wordsOf [1, 2, 1]).all (wordChk [1, 2, 1]) = true := by decide +kernel
theorem words_122 : (wordsOf [1, 2, 2]).all (wordChk [1, 2, 2]) = true := by decide +kernel
theorem words_123 : (wordsOf [1, 2, 3]).all (wordChk [1, 2, 3]) = true := by decide +kernel
theorem words_211 : (wordsOf [2, 1, 1]).all (wordChk [2, 1, 1]) = true := by decide +kernel
theorem words_212 : (wordsOf [2, 1, 2]).all (wordChk [2, 1, 2]) = true := by decide +kernel
theorem words_213 : (wordsOf [2, 1, 3]).all (wordChk [2, 1, 3]) = true := by decide +kernel
theorem words_221 : (wordsOf [2, 2, 1]).all (wordChk [2, 2, 1]) = true := by decide +kernel
theorem words_222 : (wordsOf [2, 2, 2]).all (wordChk [2, 2, 2]) = true := by decide +kernel
theorem words_223 : (wordsOf [2, 2, 3]).all (wordChk [2, 2, 3]) = true := by decide +kernel
theorem all_app {p : Nat → Bool} {a m n : Nat} (h1 : (List.range' a m).all p = true) (h2 : (List.range' (a + m) n).all p = true) : (List.range' a (m + n)).all p = true := by
  rw [← List.range'_append_1, List.all_append, h1, h2]; rfl
theorem namesA_19 : (List.range' 304 32).all namesChk = true := all_app (a := 304) (m := 16) (n := 16) names_19 names_20
theorem namesA_18 : (List.range' 288 48).all namesChk = true := all_app (a := 288) (m := 16) (n := 32) names_18 namesA_19
theorem namesA_17 : (List.range' 272 64).all namesChk = true := all_app (a := 272) (m := 16) (n := 48) names_17 namesA_18
theorem namesA_16 : (List.range' 256 80).all namesChk = true := all_app (a := 256) (m := 16) (n := 64) names_16 namesA_17
theorem namesA_15 : (List.range' 240 96).all namesChk = true := all_app (a := 240) (m := 16) (n := 80) names_15 namesA_16
theorem namesA_14 : (List.range' 224 112).all namesChk = true := all_app (a := 224) (m := 16) (n := 96) names_14 namesA_15
theorem namesA_13 : (List.range' 208 128).all namesChk = true := all_app (a := 208) (m := 16) (n := 112) names_13 namesA_14
theorem namesA_12 : (List.range' 192 144).all namesChk = true := all_app (a := 192) (m := 16) (n := 128) names_12 namesA_13
theorem namesA_11 : (List.range' 176 160).all namesChk = true := all_app (a := 176) (m := 16) (n := 144) names_11 namesA_12
theorem namesA_10 : (List.range' 160 176).all namesChk = true := all_app (a := 160) (m := 16) (n := 160) names_10 namesA_11
theorem namesA_9 : (List.range' 144 192).all namesChk = true := all_app (a := 144) (m := 16) (n := 176) names_9 namesA_10
theorem namesA_8 : (List.range' 128 208).all namesChk = true := all_app (a := 128) (m := 16) (n := 192) names_8 namesA_9
theorem namesA_7 : (List.range' 112 224).all namesChk = true := all_app (a := 112) (m := 16) (n := 208) names_7 namesA_8
theorem namesA_6 : (List.range' 96 240).all namesChk = true := all_app (a := 96) (m := 16) (n := 224) names_6 namesA_7
theorem namesA_5 : (List.range' 80 256).all namesChk = true := all_app (a := 80) (m := 16) (n := 240) names_5 namesA_6
theorem namesA_4 : (List.range' 64 272).all namesChk = true := all_app (a := 64) (m := 16) (n := 256) names_4 namesA_5
theorem namesA_3 : (List.range' 48 288).all namesChk = true := all_app (a := 48) (m := 16) (n := 272) names_3 namesA_4
theorem namesA_2 : (List.range' 32 304).all namesChk = true := all_app (a := 32) (m := 16) (n := 288) names_2 namesA_3
theorem namesA_1 : (List.range' 16 320).all namesChk = true := all_app (a := 16) (m := 16) (n := 304) names_1 namesA_2
theorem namesA_0 : (List.range' 0 336).all namesChk = true := all_app (a := 0) (m := 16) (n := 320) names_0 namesA_1
theorem names_chk (r : Nat) (h : r < 336) : namesChk r = true := List.all_eq_true.mp namesA_0 r (List.mem_range'_1.mpr ⟨Nat.zero_le r, by rwa [Nat.zero_add]⟩)
theorem len3 {α : Type} {l : List α} (h : l.length = 3) : ∃ a b c, l = [a, b, c] := match l, h with | [a, b, c], _ => ⟨a, b, c, rfl⟩
theorem len2 {α : Type} {l : List α} (h : l.length = 2) : ∃ a b, l = [a, b] := match l, h with | [a, b], _ => ⟨a, b, rfl⟩
theorem names_fact (r : Nat) (h : r < 336) (st : PS) : ∃ names, Nms names ∧ evC fnsL 60 100 [.d (.int r)] .none st = some (.d (sL names), st) := by
  have hc := names_chk r h
  obtain ⟨⟨v, s'⟩, e, hc_1⟩ := elim_t hc
  clear hc
  obtain ⟨d, e1, hc_2⟩ := elim_t hc_1
  clear hc_1
  obtain ⟨l, e2, hc_3⟩ := elim_t hc_2
  clear hc_2
  obtain ⟨n, e3, hc_4⟩ := elim_t hc_3
  clear hc_3
  simp only [Bool.and_eq_true, decide_eq_true_eq] at hc_4
  obtain ⟨hn, hc_4⟩ := hc_4
  obtain ⟨a, b, c, rfl⟩ := len3 hn
  obtain ⟨⟨⟨⟨h1, h2⟩, h3⟩, h4⟩, h5⟩ := hc_4
  have q1 := asD_e e1
  dsimp only at q1
  have q2 := asLs_e e2
  have q3 := mapO_eq (fun _ _ => strD_e) e3
  subst q1 q2 q3
  exact ⟨[a, b, c], nms_mk (List.contains_iff_mem.mp h3) (List.contains_iff_mem.mp h4) (List.contains_iff_mem.mp h5) h1 h2, evC_any (f := namesF) rfl rfl rfl rfl e st⟩
theorem filled_chk : ∀ z ∈ sizes12, ∀ s ∈ shapesOf z, shapeChk z s = true := by
  intro z hz s hs
  simp only [sizes12, List.mem_cons, List.not_mem_nil, or_false] at hz
  rcases hz with rfl | rfl | rfl | rfl | rfl | rfl | rfl | rfl | rfl | rfl | rfl | rfl
  · exact List.all_eq_true.mp filled_111 s hs
  · exact List.all_eq_true.mp filled_112 s hs
  · exact List.all_eq_true.mp filled_113 s hs
  · exact List.all_eq_true.mp filled_121 s hs
  · exact List.all_eq_true.mp filled_122 s hs
  · exact List.all_eq_true.mp filled_123 s hs
  · exact List.all_eq_true.mp filled_211 s hs
  · exact List.all_eq_true.mp filled_212 s hs
  · exact List.all_eq_true.mp filled_213 s hs
  · exact List.all_eq_true.mp filled_221 s hs
  · exact List.all_eq_true.mp filled_222 s hs
  · exact List.all_eq_true.mp filled_223 s hs
theorem words_chk : ∀ z ∈ sizes12, ∀ w ∈ wordsOf z, wordChk z w = true := by
  intro z hz s hs
  simp only [sizes12, List.mem_cons, List.not_mem_nil, or_false] at hz
  rcases hz with rfl | rfl | rfl | rfl | rfl | rfl | rfl | rfl | rfl | rfl | rfl | rfl
  · exact List.all_eq_true.mp words_111 s hs
  · exact List.all_eq_true.mp words_112 s hs
  · exact List.all_eq_true.mp words_113 s hs
  · exact List.all_eq_true.mp words_121 s hs
  · exact List.all_eq_true.mp words_122 s hs
  · exact List.all_eq_true.mp words_123 s hs
  · exact List.all_eq_true.mp words_211 s hs
  · exact List.all_eq_true.mp words_212 s hs
  · exact List.all_eq_true.mp words_213 s hs
  · exact List.all_eq_true.mp words_221 s hs
  · exact List.all_eq_true.mp words_222 s hs
  · exact List.all_eq_true.mp words_223 s hs
theorem ruler_fact (r : Nat) (h : r < 48) (st : PS) : ∃ l m : List Nat, evC fnsL 60 81 [.d (.int r)] .none st = some (.d (.list [iN l, iN m]), st) ∧ (∀ st', evC fnsL 60 88 [.d (iN l)] .none st' = some (.d (iN m), st')) ∧
    m.take 3 ∈ sizes12 ∧ m.length < 10 ∧ l.length < 10 ∧ 3 ≤ m.length ∧ ofCmp .NotEq (.d (iN m)) (.d (iN m)) s00 = some false := by
  have hc := List.all_eq_true.mp ruler_all r (List.mem_range.mpr h)
  obtain ⟨⟨v, s'⟩, e, hc_1⟩ := elim_t hc
  clear hc
  obtain ⟨d, e1, hc_2⟩ := elim_t hc_1
  clear hc_1
  obtain ⟨l0, e2, hc_3⟩ := elim_t hc_2
  clear hc_2
  simp only [Bool.and_eq_true, decide_eq_true_eq] at hc_3
  obtain ⟨hn, hc_3⟩ := hc_3
  obtain ⟨a, b, rfl⟩ := len2 hn
  obtain ⟨l, e3, hc_4⟩ := elim_t hc_3
  clear hc_3
  obtain ⟨m, e4, hc_5⟩ := elim_t hc_4
  clear hc_4
  obtain ⟨⟨v2, s2⟩, e5, hc_6⟩ := elim_t hc_5
  clear hc_5
  obtain ⟨t, e6, hc_7⟩ := elim_t hc_6
  clear hc_6
  obtain ⟨m', e7, hc_8⟩ := elim_t hc_7
  clear hc_7
  have q1 := asD_e e1
  have q6 := asD_e e6
  dsimp only at q1 q6
  have q2 := asLs_e e2
  have ha : a = iN l := natsD_eq e3
  have hb : b = iN m := natsD_eq e4
  have ht := natsD_eq e7
  subst q1 q2 q6 ha hb ht
  simp only [Bool.and_eq_true, List.contains_iff_mem, decide_eq_true_eq, beq_iff_eq] at hc_8
  obtain ⟨⟨⟨rfl, h2⟩, h3⟩, h4⟩ := hc_8
  exact ⟨l, m', evC_any (f := rulerF) rfl rfl rfl rfl e st, fun st' => evC_any (f := toldF) rfl rfl rfl rfl e5 st', h2, h3.1, h3.2.1, h3.2.2, h4⟩
theorem shapes_fact {z : List Nat} (hz : z ∈ sizes12) (st : PS) : evC fnsL 120 107 [.d (.int z.sum), .d (.int z.sum), .d (.int 4)] .none st = some (.d (.list ((shapesOf z).map iN)), st) := by
  have key : ∀ y ∈ ([[1,1,1],[1,1,2],[1,1,3],[1,2,3],[2,2,3]] : List (List Nat)), evC fnsL 120 107 [.d (.int y.sum), .d (.int y.sum), .d (.int 4)] .none st = some (.d (.list ((shapesOf y).map iN)), st) := fun y hy => by
    have hc := List.all_eq_true.mp shapes_all y hy
    obtain ⟨⟨v, s'⟩, e, hc_1⟩ := elim_t hc
    clear hc
    obtain ⟨d, e1, hc_2⟩ := elim_t hc_1
    clear hc_1
    obtain ⟨l, e2, hc_3⟩ := elim_t hc_2
    clear hc_2
    have q1 := asD_e e1
    dsimp only at q1
    have q2 := asLs_e e2
    subst q1 q2
    rw [beq_iff_eq] at hc_3
    rw [mapO_eq (fun _ _ => natsD_eq) hc_3] at e
    exact evC_any (f := shapesF) rfl rfl rfl rfl e st
  obtain ⟨y, hy, e⟩ : ∃ y ∈ ([[1,1,1],[1,1,2],[1,1,3],[1,2,3],[2,2,3]] : List (List Nat)), y.sum = z.sum := by
    revert z; decide
  have := key y hy
  unfold shapesOf at this ⊢
  rwa [e] at this
noncomputable def lN (l : List Lt) : D := .list (l.map fun a => nI a.val)
theorem letD_eq {d : D} {a : Lt} (h : letD d = some a) : d = nI a.val := by
  refine bd_c h fun n hn h => ?_
  by_cases q : n < 3
  · rw [dif_pos q] at h
    cases h
    exact natD_eq hn
  · rw [dif_neg q] at h
    cases h
theorem rowD_eq {d : D} {l : List Lt} (h : rowD d = some l) : d = lN l := by
  refine bd_c h fun x hx h => ?_
  rw [asLs_e hx, mapO_eq (fun _ _ => letD_eq) h]; rfl
inductive Fill (z s : List Nat) : D → Prop
  | no : bal (brk z s) = false → Fill z s .none
  | yes (R : List (List Lt)) : bal (brk z s) = true → laidG ltF R.reverse.flatten = R → R.map List.length = s → Fill z s (.list (R.map lN))
theorem shapeChk_eq (z s : List Nat) : shapeChk z s = (decide (1 ≤ s.length ∧ s.length ≤ 4) && s.all (· ≤ 7) && ((evC fnsL 120 112 [.d (iN s), .d (iN z)] .none s00).elim false fun p => (asD p.1).elim false fun d => (asLs d).elim (isNo (.d d) && bal (brk z s) == false) fun rows =>
  (mapO rowD rows).elim false fun R => bal (brk z s) && laidG ltF R.reverse.flatten == R && R.map List.length == s && decide (R.length ≤ 4))) := rfl
theorem filled_fact {z : List Nat} (hz : z ∈ sizes12) {s : List Nat} (hs : s ∈ shapesOf z) : (1 ≤ s.length ∧ s.length ≤ 4) ∧ (∀ y ∈ s, y ≤ 7) ∧ ∃ d, Fill z s d ∧ ∀ st, evC fnsL 120 112 [.d (iN s), .d (iN z)] .none st = some (.d d, st) := by
  have hc := filled_chk z hz s hs
  rw [shapeChk_eq] at hc
  simp only [Bool.and_eq_true, decide_eq_true_eq, List.all_eq_true] at hc
  obtain ⟨⟨h1, h2⟩, h3⟩ := hc
  refine ⟨h1, h2, ?_⟩
  obtain ⟨⟨v, s'⟩, e, h3_1⟩ := elim_t h3
  clear h3
  obtain ⟨d, e1, h3_2⟩ := elim_t h3_1
  clear h3_1
  have q1 := asD_e e1
  dsimp only at q1
  subst q1
  cases d with
  | none => exact ⟨_, .no (beq_iff_eq.mp (show (bal (brk z s) == false) = true from h3_2)), fun st => evC_any (f := filledF) rfl rfl rfl rfl e st⟩
  | list rows =>
    obtain ⟨R, e2, h3_3⟩ := elim_t (o := mapO rowD rows) h3_2
    clear h3_2
    simp only [Bool.and_eq_true, decide_eq_true_eq, beq_iff_eq] at h3_3
    obtain ⟨⟨⟨g1, g2⟩, g3⟩, g4⟩ := h3_3
    have := mapO_eq (fun _ _ => rowD_eq) e2
    subst this
    exact ⟨_, .yes R g1 g2 g3, fun st => evC_any (f := filledF) rfl rfl rfl rfl e st⟩
  | _ => cases h3_2
end Mine.Internal
end
section
set_option genInjectivity false
open PySem PySem.W PyProof.Rows PySem.Calls
set_option maxRecDepth 100000
namespace Mine.Internal
noncomputable def la_0 : S := (.assign 1 (.call 74 (.cons (.var 0) .nil)))
noncomputable def la_1 : S := (.assign 2 (.call 81 (.cons (.bin .Mod (.sub (.var 1) (.int 0)) (.int 48)) .nil)))
noncomputable def la_2 : S := (.assign 3 (.call 100 (.cons (.bin .Mod (.sub (.var 1) (.int 2)) (.int 336)) .nil)))
noncomputable def la_3 : S := (.assign 4 (.call 88 (.cons (.sub (.var 2) (.int 0)) .nil)))
noncomputable def la_5 : S := (.assign 5 (.frz (.take (.var 4) 3)))
noncomputable def la_6 : S := (.assign 6 (.list .nil))
noncomputable def la_7 : S := (.for 7 (.range1 (.int 3)) (.cons (.insort 6 7 5) .nil))
noncomputable def la_8 : S := (.ite (.cmp .NotEq (.var 6) (.frz (.comp 2 [5] (.var 1) 0 (.range3 (.int 3) (.int 0) (.neg (.int 1))) .no (.cons 1 (.range1 (.int 3)) (.yes (.cmp .Eq (.sub (.var 2) (.var 1)) (.var 0))) .nil)))) (.cons (.ret (.bool false)) .nil) .nil)
noncomputable def la_10 : S := (.assign 8 (.list .nil))
noncomputable def la_11 : S := (.for 9 (.list (.call 107 (.cons (.sum (.var 5)) (.cons (.sum (.var 5)) (.cons (.int 4) .nil))))) (.cons (.assign 10 (.call 112 (.cons (.var 9) (.cons (.var 5) .nil)))) (.cons (.assign 11 (.call 53 (.cons (.call 119 (.cons (.var 9) (.cons (.var 3) (.cons (.var 5) (.cons (.var 6) .nil))))) .nil))) (.cons (.ite (.cmp .Is (.var 10) .none) (.cons (.ite (.cmp .IsNot (.var 11) (.bool false)) (.cons (.ret (.bool false)) .nil) .nil) .nil) (.cons (.assign 12 (.frz (.comp 1 [3] (.comp 1 [1] (.sub (.var 1) (.var 0)) 0 (.list (.var 0)) .no .nil) 0 (.list (.var 10)) .no .nil))) (.cons (.ite (.or (.cmp .IsNot (.var 11) (.bool true)) (.cmp .NotEq (.call 126 (.cons (.frz (.comp 2 [] (.var 1) 0 (.list (.rev (.var 12))) .no (.cons 1 (.list (.var 0)) .no .nil))) .nil)) (.var 12))) (.cons (.ret (.bool false)) .nil) .nil) (.cons (.append (.var 8) (.var 9)) .nil)))) .nil))))
noncomputable def la_12 : S := (.assign 13 (.comp 2 [5] (.var 0) 0 (.range1 (.int 3)) .no (.cons 1 (.range1 (.sub (.var 2) (.var 0))) .no .nil)))
noncomputable def la_13 : S := (.assign 14 (.bin .Mod (.sub (.var 1) (.int 1)) (.int 5040)))
noncomputable def la_14 : S := (.assign 15 (.list .nil))
noncomputable def la_15 : S := (.while (.cmp .NotEq (.var 13) (.list .nil)) (.cons (.append (.var 15) (.sub (.var 3) (.pop (.var 13) (.bin .Mod (.var 14) (.len (.var 13)))))) (.cons (.assign 14 (.bin .FloorDiv (.var 14) (.bin .Add (.len (.var 13)) (.int 1)))) .nil)))
noncomputable def la_17 : S := (.assign 16 (.call 126 (.cons (.var 15) .nil)))
noncomputable def la_18 : S := (.assign 17 (.frz (.comp 1 [] (.len (.var 0)) 0 (.list (.var 16)) .no .nil)))
noncomputable def la_19 : S := (.ite (.cmp .NotIn (.var 17) (.var 8)) (.cons (.ret (.bool false)) .nil) .nil)
noncomputable def la_20 : S := (.for 7 (.range1 (.len (.var 16))) (.cons (.ite (.cmp .NotEq (.frz (.comp 1 [16, 7] (.var 0) 0 (.range2 (.int 1) (.sub (.var 17) (.var 7))) (.yes (.cmp .Gt (.sub (.sub (.var 1) (.var 2)) (.bin .Sub (.var 0) (.int 1))) (.sub (.sub (.var 1) (.var 2)) (.var 0)))) .nil)) (.list .nil)) (.cons (.ret (.bool false)) .nil) .nil) (.cons (.ite (.and (.cmp .Gt (.var 7) (.int 0)) (.cmp .NotEq (.frz (.comp 1 [16, 7] (.var 0) 0 (.range1 (.sub (.var 17) (.var 7))) (.yes (.cmp .GtE (.sub (.sub (.var 1) (.bin .Sub (.var 2) (.int 1))) (.var 0)) (.sub (.sub (.var 1) (.var 2)) (.var 0)))) .nil)) (.list .nil))) (.cons (.ret (.bool false)) .nil) .nil) .nil)))
noncomputable def la_21 : S := (.assign 18 (.call 119 (.cons (.var 17) (.cons (.var 3) (.cons (.var 5) (.cons (.var 6) .nil))))))
noncomputable def la_22 : S := (.ret (.and (.cmp .Is (.call 53 (.cons (.bin .Add (.str ")") (.var 18)) .nil)) (.bool false)) (.cmp .Is (.call 53 (.cons (.bin .Add (.var 18) (.str "(")) .nil)) (.bool false))))
noncomputable def tl_23 : Tl := .nil
noncomputable def tl_22 : Tl := .cons la_22 tl_23
noncomputable def tl_21 : Tl := .cons la_21 tl_22
noncomputable def tl_20 : Tl := .cons la_20 tl_21
noncomputable def tl_19 : Tl := .cons la_19 tl_20
noncomputable def tl_18 : Tl := .cons la_18 tl_19
noncomputable def tl_17 : Tl := .cons la_17 tl_18
noncomputable def tl_16 : Tl := .frz 15 tl_17
noncomputable def tl_15 : Tl := .cons la_15 tl_16
noncomputable def tl_14 : Tl := .cons la_14 tl_15
noncomputable def tl_13 : Tl := .cons la_13 tl_14
noncomputable def tl_12 : Tl := .cons la_12 tl_13
noncomputable def tl_11 : Tl := .cons la_11 tl_12
noncomputable def tl_10 : Tl := .cons la_10 tl_11
noncomputable def tl_9 : Tl := .frz 6 tl_10
noncomputable def tl_8 : Tl := .cons la_8 tl_9
noncomputable def tl_7 : Tl := .cons la_7 tl_8
noncomputable def tl_6 : Tl := .cons la_6 tl_7
noncomputable def tl_5 : Tl := .cons la_5 tl_6
noncomputable def tl_4 : Tl := .ref (.cmp .NotEq (.var 4) (.sub (.var 2) (.int 1))) (.sub (.var 2) (.int 0)) tl_5
noncomputable def tl_3 : Tl := .cons la_3 tl_4
noncomputable def tl_2 : Tl := .cons la_2 tl_3
noncomputable def tl_1 : Tl := .cons la_1 tl_2
noncomputable def tl_0 : Tl := .cons la_0 tl_1
theorem lawL_eq : lawL = tl_0 := rfl
noncomputable def pI (n : Nat) : PyData := .int n
theorem pys_nat : ∀ l : List Nat, D.pys (l.map nI) = some (l.map pI)
  | [] => rfl
  | a :: l => pys_s rfl (pys_nat l)
theorem lay_nat : ∀ l : List Nat, PyData.canLayAll0 (l.map pI) = true
  | [] => rfl
  | a :: l => by simp only [List.map_cons, PyData.canLayAll0, pI, PyData.canLay0, lay_nat l]; rfl
theorem depth_nat : ∀ l : List Nat, PyData.depthAll (l.map pI) = 0
  | [] => rfl
  | a :: l => by simp only [List.map_cons, PyData.depthAll, pI, PyData.depth, depth_nat l]; rfl
noncomputable def pN (l : List Nat) : PyData := .list (l.map pI)
theorem dataN (st : PS) (l : List Nat) : dataOf st (.d (iN l)) = some (pN l) := by
  have e1 : D.py (iN l) = some (pN l) := py_s (pys_nat l)
  have e2 : (pN l).canLay0 = true := lay_nat l
  have e3 : (pN l).depth ≤ 10 := by
    show PyData.depthAll _ + 1 ≤ 10
    rw [depth_nat]; (first | lia | omega)
  exact data_s (d := iN l) rfl e1 e2 e3
theorem dataRef {own : List (List V)} {vs : List (Option V)} {k : Nat} {l : List D} (h : own[k]? = some (l.map V.d)) : dataOf ⟨vs, own⟩ (.ref k) = dataOf ⟨vs, own⟩ (.d (.list l)) := by
  have e : deepV 5 own 0 (.ref k) = some (.list l) := deepV_ref (Nat.not_lt_zero _) h (mapO_deep l)
  delta dataOf
  rw [e]; rfl
theorem neData {st : PS} {a b : V} {x y : PyData} (ha : asI a = .none) (hs : asS a = .none) (h1 : dataOf st a = some x) (h2 : dataOf st b = some y) : ofCmp .NotEq a b st = some (!PyData.eqv x y) := by
  rw [cNe]
  delta twoV pr
  rw [ha, hs]
  exact (bd_s h1).trans (bd_s h2)
theorem frzVar_s {vars vars' vars'' : List (Option V)} {own own' : List (List V)} {i k : Nat} {w : V} (h1 : getV ⟨vars, own⟩ i = some (.ref k)) (hv : vars.set i .none = vars') (h2 : frz k (.ref k) ⟨vars', own⟩ = some (w, ⟨vars', own'⟩)) (h3 : vars'.set i (some w) = vars'') : frzVar ⟨vars, own⟩ i = some ⟨vars'', own'⟩ := by
  subst hv h3
  exact (bd_s h1).trans ((bd_s (x := asR (.ref k)) rfl).trans (bd2_s h2))
theorem eqv_nat : ∀ a b : List Nat, PyData.eqvAll (a.map pI) (b.map pI) = decide (a = b)
  | [], [] => rfl
  | [], b :: bs => rfl
  | a :: as, [] => rfl
  | a :: as, b :: bs => by
    simp only [List.map_cons, PyData.eqvAll, pI, PyData.eqv, eqv_nat as bs]
    by_cases h : a = b
    · subst h; simp
    · have : ((a : Int) == (b : Int)) = false := by rw [beq_eq_false_iff_ne]; (first | lia | omega)
      rw [this]; simp [h]
theorem eqvN (a b : List Nat) : PyData.eqv (pN a) (pN b) = decide (a = b) := eqv_nat a b
theorem neD (a b : D) (st st' : PS) : ofCmp .NotEq (.d a) (.d b) st = ofCmp .NotEq (.d a) (.d b) st' := by
  cases a <;> cases b <;> rfl
theorem modNat (a : Int) (n : Nat) (h : 0 < n) : ∃ r : Nat, r < n ∧ a.fmod n = (r : Int) := by
  have h1 : 0 ≤ a.fmod n := Int.fmod_nonneg_of_pos _ (by first | lia | omega)
  have h2 : a.fmod n < n := Int.fmod_lt_of_pos _ (by first | lia | omega)
  exact ⟨(a.fmod n).toNat, by first | lia | omega, by first | lia | omega⟩
theorem ints_iN (l : List Nat) : ints? ((l.map nI).map V.d) = some (l.map fun n : Nat => (n : Int)) := by
  induction l with
  | nil => rfl
  | cons a l ih =>
    exact bd_s (f := fun r => some ((a : Int) :: r)) ih
theorem sum_cast (l : List Nat) : (l.map fun n : Nat => (n : Int)).sum = (l.sum : Int) := by
  induction l with
  | nil => rfl
  | cons a l ih => simp [ih]
theorem part1 (ns : List Int) (hn : ns.length ≤ 63) : ∃ names z w0 w1 w2 w4 a b c, Nms names ∧ z ∈ sizes12 ∧ w1 = some (.d (.list [.int a, .int b, .int c])) ∧ (∀ m, okVars m [w0, w1, w2, w4] = true) ∧
      ∀ r, evL fnsL 200 tl_6 ⟨[w0, w1, w2, some (.d (sL names)), w4, some (.d (iN z)), .none, .none, .none, .none, .none, .none, .none, .none, .none, .none, .none, .none, .none], []⟩ = some r → evL fnsL 200 lawL (st0 ns) = some r := by
    obtain ⟨a, b, c, hc⟩ := cells_ev ns hn ⟨[some (.d (.list (ns.map D.int))), .none, .none, .none, .none, .none, .none, .none, .none, .none, .none, .none, .none, .none, .none, .none, .none, .none, .none], []⟩
    obtain ⟨r1, hr1, e1⟩ := modNat a 48 (by first | lia | omega)
    obtain ⟨r2, hr2, e2⟩ := modNat c 336 (by first | lia | omega)
    obtain ⟨l, m, h1, h2, h3, h4, h5, h6, h7⟩ := ruler_fact r1 hr1 ⟨[some (.d (.list (ns.map D.int))), some (.d (.list [.int a, .int b, .int c])), .none, .none, .none, .none, .none, .none, .none, .none, .none, .none, .none, .none, .none, .none, .none, .none, .none], []⟩
    obtain ⟨names, N, hnm⟩ := names_fact r2 hr2 ⟨[some (.d (.list (ns.map D.int))), some (.d (.list [.int a, .int b, .int c])), some (.d (.list [iN l, iN m])), .none, .none, .none, .none, .none, .none, .none, .none, .none, .none, .none, .none, .none, .none, .none, .none], []⟩
    refine ⟨names, m.take 3, some (.d (.list (ns.map D.int))), some (.d (.list [.int a, .int b, .int c])), some (.d (.list [iN l, iN m])), some (.d (iN m)), a, b, c, N, h3, rfl, fun _ => rfl, fun r h => ?_⟩
    rw [lawL_eq]
    refine lCons (s := la_0) (sAssign (xCall (xCons (xVar rfl) xNil) (upC (by first | lia | omega) hc)) rfl) ?_
    refine lCons (s := la_1) (sAssign (xCall (xCons (xBin (xSub (xVar rfl) xInt (subOf (i := 0) (l := [.d (.int a), .d (.int b), .d (.int c)]) rfl rfl (by first | lia | omega))) xInt (oMod (by decide))) xNil) (by rw [show a.fmod 48 = (r1 : Int) from e1]; exact upC (by first | lia | omega) h1)) rfl) ?_
    refine lCons (s := la_2) (sAssign (xCall (xCons (xBin (xSub (xVar rfl) xInt (subOf (i := 2) (l := [.d (.int a), .d (.int b), .d (.int c)]) rfl rfl (by first | lia | omega))) xInt (oMod (by decide))) xNil) (by rw [show c.fmod 336 = (r2 : Int) from e2]; exact upC (by first | lia | omega) hnm)) rfl) ?_
    refine lCons (s := la_3) (sAssign (xCall (xCons (xSub (xVar rfl) xInt (subOf (i := 0) (l := [.d (iN l), .d (iN m)]) rfl rfl (by first | lia | omega))) xNil) (upC (by first | lia | omega) (h2 _))) rfl) ?_
    refine lRef (l := l.map nI) (is := l.map fun n : Nat => (n : Int)) (yCmp (xVar rfl) (xSub (xVar rfl) xInt (subOf (i := 1) (l := [.d (iN l), .d (iN m)]) rfl rfl (by first | lia | omega))) ((neD _ _ _ _).trans h7)) (xSub (xVar rfl) xInt (subOf (i := 0) (l := [.d (iN l), .d (iN m)]) rfl rfl (by first | lia | omega))) (ints_iN l) (by simp; (first | lia | omega)) ?_
    have hz := frzD (vars := [some (.d (.list (ns.map D.int))), some (.d (.list [.int a, .int b, .int c])), some (.d (.list [iN l, iN m])), some (.d (sL names)), some (.d (iN m)), .none, .none, .none, .none, .none, .none, .none, .none, .none, .none, .none, .none, .none, .none]) (base := []) (ds := (m.take 3).map nI) (m := 0) rfl rfl rfl
    have ez : ((m.take 3).map nI).map V.d = ((m.map nI).map V.d).take 3 := by simp [List.map_take]
    rw [ez] at hz
    exact lCons (s := la_5) (sAssign (xFrz (xTake (l := (m.map nI).map V.d) (xVar rfl) rfl (by simp; (first | lia | omega))) hz) rfl) h
end Mine.Internal
end
section
set_option genInjectivity false
open PySem PySem.W PyProof.Rows PySem.Calls
set_option maxRecDepth 100000
namespace Mine.Internal
noncomputable def vI (n : Nat) : V := .d (nI n)
theorem okApp (m : Nat) (a b : List (Option V)) : okVars m (a ++ b) = (okVars m a && okVars m b) := List.all_append
theorem s7 {z : List Nat} (hz : z ∈ sizes12) (w0 w1 w2 w3 w4 : Option V) : evS fnsL 200 la_7 ⟨[w0, w1, w2, w3, w4, some (.d (iN z)), some (.ref 0), .none, .none, .none, .none, .none, .none, .none, .none, .none, .none, .none, .none], [[]]⟩ =
    some (.next, ⟨[w0, w1, w2, w3, w4, some (.d (iN z)), some (.ref 0), some (.d (.int 2)), .none, .none, .none, .none, .none, .none, .none, .none, .none, .none, .none], [(fallOf z).map vI]⟩) := by
  simp only [sizes12, List.mem_cons, List.not_mem_nil, or_false] at hz
  rcases hz with rfl | rfl | rfl | rfl | rfl | rfl | rfl | rfl | rfl | rfl | rfl | rfl <;> kernel_rfl
theorem s8 {z : List Nat} (hz : z ∈ sizes12) (w0 w1 w2 w3 w4 : Option V) : evE fnsL 197 (.comp 2 [5] (.var 1) 0 (.range3 (.int 3) (.int 0) (.neg (.int 1))) .no (.cons 1 (.range1 (.int 3)) (.yes (.cmp .Eq (.sub (.var 2) (.var 1)) (.var 0))) .nil)) ⟨[w0, w1, w2, w3, w4, some (.d (iN z)), some (.ref 0), some (.d (.int 2)), .none, .none, .none, .none, .none, .none, .none, .none, .none, .none, .none], [(fallOf z).map vI]⟩ =
    some (.ref 1, ⟨[w0, w1, w2, w3, w4, some (.d (iN z)), some (.ref 0), some (.d (.int 2)), .none, .none, .none, .none, .none, .none, .none, .none, .none, .none, .none], [(fallOf z).map vI, (fallOf z).map vI]⟩) := by
  simp only [sizes12, List.mem_cons, List.not_mem_nil, or_false] at hz
  rcases hz with rfl | rfl | rfl | rfl | rfl | rfl | rfl | rfl | rfl | rfl | rfl | rfl <;> kernel_rfl
theorem s8b {z : List Nat} (hz : z ∈ sizes12) : okOwn 1 [(fallOf z).map vI] = true := by
  simp only [sizes12, List.mem_cons, List.not_mem_nil, or_false] at hz
  rcases hz with rfl | rfl | rfl | rfl | rfl | rfl | rfl | rfl | rfl | rfl | rfl | rfl <;> kernel_rfl
theorem vI_map (l : List Nat) : (l.map nI).map V.d = l.map vI := by simp [vI]
theorem part2 {z : List Nat} (hz : z ∈ sizes12) {w0 w1 w2 w3 w4 : Option V} (hw : ∀ m, okVars m [w0, w1, w2, w3, w4] = true) {r : Fl × PS}
    (h : evL fnsL 200 tl_10 ⟨[w0, w1, w2, w3, w4, some (.d (iN z)), some (.d (iN (fallOf z))), some (.d (.int 2)), .none, .none, .none, .none, .none, .none, .none, .none, .none, .none, .none], []⟩ = some r) :
    evL fnsL 200 tl_6 ⟨[w0, w1, w2, w3, w4, some (.d (iN z)), .none, .none, .none, .none, .none, .none, .none, .none, .none, .none, .none, .none, .none], []⟩ = some r := by
  refine lCons (s := la_6) (sAssign (xList xNil (by simp)) rfl) ?_
  refine lCons (s7 hz w0 w1 w2 w3 w4) ?_
  have hv : ∀ m, okVars (m + 1) [w0, w1, w2, w3, w4, some (.d (iN z)), some (.ref 0), some (.d (.int 2)), .none, .none, .none, .none, .none, .none, .none, .none, .none, .none, .none] = true := fun m => by
    show okVars (m + 1) ([w0, w1, w2, w3, w4] ++ _) = true
    rw [okApp, hw]
    rfl
  have hz1 := frzD (base := [(fallOf z).map vI]) (ds := (fallOf z).map nI) (m := 1) rfl (hv 0) (s8b hz)
  rw [vI_map] at hz1
  have hne : evB fnsL 199 (.cmp .NotEq (.var 6) (.frz (.comp 2 [5] (.var 1) 0 (.range3 (.int 3) (.int 0) (.neg (.int 1))) .no (.cons 1 (.range1 (.int 3)) (.yes (.cmp .Eq (.sub (.var 2) (.var 1)) (.var 0))) .nil)))) ⟨[w0, w1, w2, w3, w4, some (.d (iN z)), some (.ref 0), some (.d (.int 2)), .none, .none, .none, .none, .none, .none, .none, .none, .none, .none, .none], [(fallOf z).map vI]⟩ =
      some (false, ⟨[w0, w1, w2, w3, w4, some (.d (iN z)), some (.ref 0), some (.d (.int 2)), .none, .none, .none, .none, .none, .none, .none, .none, .none, .none, .none], [(fallOf z).map vI]⟩) := by
    refine yCmp (xVar rfl) (xFrz (s8 hz w0 w1 w2 w3 w4) hz1) ?_
    have e1 := dataRef (vs := [w0, w1, w2, w3, w4, some (.d (iN z)), some (.ref 0), some (.d (.int 2)), .none, .none, .none, .none, .none, .none, .none, .none, .none, .none, .none]) (own := [(fallOf z).map vI]) (k := 0) (l := (fallOf z).map nI) (by rw [vI_map]; rfl)
    have e2 := dataN ⟨[w0, w1, w2, w3, w4, some (.d (iN z)), some (.ref 0), some (.d (.int 2)), .none, .none, .none, .none, .none, .none, .none, .none, .none, .none, .none], [(fallOf z).map vI]⟩ (fallOf z)
    have e3 : dataOf _ (.d (.list ((fallOf z).map nI))) = _ := e2
    rw [e3] at e1
    rw [neData rfl rfl e1 e3, eqvN, decide_eq_true rfl]; rfl
  refine lCons (s := la_8) (sIteF hne zNil) ?_
  refine lFrz ?_ h
  have hv0 : okVars 0 [w0, w1, w2, w3, w4, some (.d (iN z)), .none, some (.d (.int 2)), .none, .none, .none, .none, .none, .none, .none, .none, .none, .none, .none] = true := by
    show okVars 0 ([w0, w1, w2, w3, w4] ++ _) = true
    rw [okApp, hw]
    rfl
  have hz2 := frzD (base := []) (ds := (fallOf z).map nI) (m := 0) rfl hv0 rfl
  rw [vI_map] at hz2
  exact frzVar_s rfl rfl hz2 rfl
end Mine.Internal
end
section
set_option genInjectivity false
open PySem PySem.W PyProof.Rows PySem.Calls
set_option maxRecDepth 100000
namespace Mine.Internal
section
variable {F : Addr → Option Fn}
theorem kMapB {elt : E} {i acc m : Nat} {vars : List (Option V)} {ds : List D} {f : D → D} {own : List (List V)} {src : V} (hi : i < vars.length) (hacc : acc < own.length)
    (hs : ∀ w o, items ⟨vars.set i w, own.set acc o⟩ src = some (ds.map V.d)) (hw : ∀ d ∈ ds, ∀ o : List V, evE F m elt ⟨vars.set i (some (.d d)), own.set acc o⟩ = some (.d (f d), ⟨vars.set i (some (.d d)), own.set acc o⟩)) :
    ∀ (k j : Nat) (w : Option V) (o : List V), k + j = ds.length → o.length + k < 900 →
      ∃ w', evK F (m + k + 2) elt i .no .nil (.lst src j) acc ⟨vars.set i w, own.set acc o⟩ = some ⟨vars.set i w', own.set acc (o ++ ((ds.drop j).map f).map V.d)⟩
  | 0, j, w, o, hk, _ => by
    have e : ds.drop j = [] := List.drop_eq_nil_of_le (by first | lia | omega)
    refine ⟨w, ?_⟩
    rw [e]
    simp only [List.map_nil, List.append_nil]
    refine kEnd ?_
    have : (ds.map V.d)[j]? = .none := List.getElem?_eq_none (by simp; (first | lia | omega))
    exact next_end (hs _ _) this
  | k + 1, j, w, o, hk, ho => by
    have hj : j < ds.length := by first | lia | omega
    have hg : (ds.map V.d)[j]? = some (.d ds[j]) := by simp [hj]
    obtain ⟨w', ih⟩ := kMapB hi hacc hs hw k (j + 1) (some (.d ds[j])) (o ++ [.d (f ds[j])]) (by first | lia | omega) (by simp; (first | lia | omega))
    refine ⟨w', ?_⟩
    rw [show m + (k + 1) + 2 = (m + k + 2) + 1 by first | lia | omega]
    have e : ds.drop j = ds[j] :: ds.drop (j + 1) := List.drop_eq_getElem_cons hj
    refine kAdd (v := .d ds[j]) (src' := .lst src (j + 1)) (next_lst (hs _ _) hg) (setVar_at (by simpa using hi)) oNo (x := .d (f ds[j])) (st3 := ⟨vars.set i (some (.d ds[j])), own.set acc o⟩) ?_ (st4 := ⟨vars.set i (some (.d ds[j])), own.set acc (o ++ [.d (f ds[j])])⟩) ?_ ?_
    · have := hw ds[j] (List.getElem_mem hj) o
      simpa using upE (n := m + k + 2) (by first | lia | omega) this
    · have q : (own.set acc o)[acc]? = some o := by simp [hacc]
      exact (setOwn_s q (if_pos (show o.length < 1000 by first | lia | omega))).trans (congrArg (fun z => some (PS.mk _ z)) (by rw [List.set_set]))
    · rw [e]
      simp only [List.map_cons, List.append_assoc, List.cons_append, List.nil_append] at ih ⊢
      exact ih
end
theorem set_mid {α : Type} (a : List α) (x y : α) (b : List α) : (a ++ x :: b).set a.length y = a ++ y :: b := by simp
noncomputable def fN (names : List Str) : D → D
  | .int i => .str (names.getD i.toNat "")
  | d => d
noncomputable def nmL (names : List Str) (a : Lt) : Str := names.getD a.val ""
theorem nm_get {names : List Str} (N : Nms names) (a : Lt) : names[a.val]? = some (nmL names a) := by
  have := N.len
  have h : a.val < names.length := by have := a.isLt; (first | lia | omega)
  unfold nmL
  rw [List.getD_eq_getElem?_getD, List.getElem?_eq_getElem h]; rfl
theorem row_ev {names : List Str} (N : Nms names) (row : List Lt) (hr : row.length ≤ 20) (w2 : Option V) (own : List (List V)) (n : Nat) :
    evE fnsL (n + 40) (.comp 1 [1] (.sub (.var 1) (.var 0)) 0 (.list (.var 0)) .no .nil) ⟨[some (.d (lN row)), some (.d (sL names))], own⟩ = some (.ref own.length, ⟨[some (.d (lN row)), some (.d (sL names))], own ++ [(row.map (nmL names)).map vS]⟩) := by
  obtain ⟨w', h⟩ := kMapB (F := fnsL) (elt := .sub (.var 1) (.var 0)) (i := 0) (acc := own.length) (m := 5) (vars := [.none, some (.d (sL names))]) (ds := row.map fun a => nI a.val) (f := fN names) (own := own ++ [[]]) (src := .d (lN row)) (by simp) (by simp)
    (fun w o => rfl) (fun d hd o => by
      obtain ⟨a, ha, rfl⟩ := List.mem_map.mp hd
      exact xSub (xVar rfl) (xVar rfl) (subS (nm_get N a) (by have := a.isLt; (first | lia | omega)))) row.length 0 .none [] (by simp) (by simp; (first | lia | omega))
  have e1 : (own ++ [[]]).set own.length [] = own ++ [[]] := by simp
  have e2 : ∀ x : List V, (own ++ [[]]).set own.length x = own ++ [x] := fun x => by simp
  have e3 : (((row.map fun a => nI a.val).drop 0).map (fN names)).map V.d = (row.map (nmL names)).map vS := by
    simp only [List.drop_zero, List.map_map]
    exact List.map_congr_left fun a _ => rfl
  rw [e1, e2, e3] at h
  have hk := upK (n := n + 39) (by first | lia | omega) h
  exact xComp (m := 1) (caps := [1]) (st2 := ⟨[w', some (.d (sL names))], own ++ [(row.map (nmL names)).map vS]⟩) (iList (xVar rfl) rfl) hk
theorem rows_loop {names : List Str} (N : Nms names) (R : List (List Lt)) (hR : R.length ≤ 10) (hr : ∀ r ∈ R, r.length ≤ 20) (base : List (List V)) : ∀ (k j : Nat) (w : Option V), k + j = R.length →
    ∃ w', evK fnsL (k + 50) (.comp 1 [1] (.sub (.var 1) (.var 0)) 0 (.list (.var 0)) .no .nil) 0 .no .nil (.lst (.d (.list (R.map lN))) j) base.length ⟨[w, some (.d (sL names))], base ++ ((List.range' (base.length + 1) j).map V.ref) :: ((R.take j).map (·.map (nmL names))).map (·.map vS)⟩ =
      some ⟨[w', some (.d (sL names))], base ++ ((List.range' (base.length + 1) R.length).map V.ref) :: (R.map (·.map (nmL names))).map (·.map vS)⟩
  | 0, j, w, hk => by
    have e : j = R.length := by first | lia | omega
    subst e
    refine ⟨w, ?_⟩
    rw [List.take_length]
    refine kEnd ?_
    have : ((R.map lN).map V.d)[R.length]? = .none := List.getElem?_eq_none (by simp)
    exact next_end rfl this
  | k + 1, j, w, hk => by
    have hj : j < R.length := by first | lia | omega
    obtain ⟨w', ih⟩ := rows_loop N R hR hr base k (j + 1) (some (.d (lN R[j]))) (by first | lia | omega)
    refine ⟨w', ?_⟩
    rw [show k + 1 + 50 = (k + 50) + 1 by first | lia | omega]
    refine kAdd (v := .d (lN R[j])) (src' := .lst (.d (.list (R.map lN))) (j + 1)) (next_lst rfl (by simp [hj])) rfl oNo (row_ev N R[j] (hr _ (List.getElem_mem hj)) .none _ (k + 10)) (st4 := ⟨[some (.d (lN R[j])), some (.d (sL names))], base ++ ((List.range' (base.length + 1) (j + 1)).map V.ref) :: ((R.take (j + 1)).map (·.map (nmL names))).map (·.map vS)⟩) ?_ ih
    have g : ((base ++ ((List.range' (base.length + 1) j).map V.ref) :: ((R.take j).map (·.map (nmL names))).map (·.map vS)) ++ [(R[j].map (nmL names)).map vS])[base.length]? = some ((List.range' (base.length + 1) j).map V.ref) := by simp
    have gl : ((List.range' (base.length + 1) j).map V.ref).length < 1000 := by simp; (first | lia | omega)
    refine (setOwn_s g (if_pos gl)).trans (congrArg (fun z => some (PS.mk _ z)) ?_)
    rw [List.append_assoc, List.cons_append, set_mid]
    congr 2
    · simp only [List.length_append, List.length_cons, List.length_map, List.length_take, Nat.min_eq_left (Nat.le_of_lt hj), List.range'_concat, List.map_append, List.map_cons, List.map_nil]
      congr 3
      (first | lia | omega)
    · simp only [List.take_succ_eq_append_getElem hj, List.map_append, List.map_cons, List.map_nil]
theorem written_ev {names : List Str} (N : Nms names) (R : List (List Lt)) (hR : R.length ≤ 10) (hr : ∀ r ∈ R, r.length ≤ 20) {vars : List (Option V)} (h3 : vars[3]? = some (some (.d (sL names)))) (h10 : vars[10]? = some (some (.d (.list (R.map lN))))) {base : List (List V)} {m : Nat} (hm : base.length = m)
    (hv : okVars m vars = true) (hb : okOwn m base = true) (n : Nat) :
    evE fnsL (n + 70) (.frz (.comp 1 [3] (.comp 1 [1] (.sub (.var 1) (.var 0)) 0 (.list (.var 0)) .no .nil) 0 (.list (.var 10)) .no .nil)) ⟨vars, base⟩ = some (.d (rowsD (R.map (·.map (nmL names)))), ⟨vars, base⟩) := by
  subst hm
  obtain ⟨w', h⟩ := rows_loop N R hR hr base R.length 0 .none rfl
  have hc : evE fnsL (n + 69) (.comp 1 [3] (.comp 1 [1] (.sub (.var 1) (.var 0)) 0 (.list (.var 0)) .no .nil) 0 (.list (.var 10)) .no .nil) ⟨vars, base⟩ = some (.ref base.length, ⟨vars, base ++ ((List.range' (base.length + 1) R.length).map V.ref) :: (R.map (·.map (nmL names))).map (·.map vS)⟩) := by
    refine xComp (st2 := ⟨[w', some (.d (sL names))], base ++ ((List.range' (base.length + 1) R.length).map V.ref) :: (R.map (·.map (nmL names))).map (·.map vS)⟩) (iList (xVar h10) rfl) ?_
    simp only [List.map_cons, List.map_nil, h3, Option.join_some]
    exact upK (by first | lia | omega) h
  have hz := frzRows (vars := vars) (base := base) (rows := (R.map (·.map (nmL names))).map (·.map D.str)) (m := base.length) rfl hv hb
  have e : ((R.map (·.map (nmL names))).map (·.map D.str)).map (·.map V.d) = (R.map (·.map (nmL names))).map (·.map vS) := by
    simp [vS]
  rw [e] at hz
  simp only [List.length_map] at hz
  refine xFrz hc ?_
  rw [hz]
  simp [rowsD]
theorem flat_loop (L : List (List Str)) (hL : L.length ≤ 10) (hr : ∀ r ∈ L, r.length ≤ 20) (base : List (List V)) (rl : List V) : ∀ (k j : Nat) (w w2 : Option V) (o : List Str), k + j = L.length → o.length ≤ 20 * j → rl = (L.map fun r => D.list (r.map D.str)).map V.d →
    ∃ w' w2', evK fnsL (k + 60) (.var 1) 0 .no (.cons 1 (.list (.var 0)) .no .nil) (.lst (.ref base.length) j) (base.length + 1) ⟨[w, w2], base ++ [rl, o.map vS]⟩ = some ⟨[w', w2'], base ++ [rl, (o ++ (L.drop j).flatten).map vS]⟩
  | 0, j, w, w2, o, hk, ho, hrl => by
    have e : L.drop j = [] := List.drop_eq_nil_of_le (by first | lia | omega)
    refine ⟨w, w2, ?_⟩
    rw [e]
    simp only [List.flatten_nil, List.append_nil]
    refine kEnd ?_
    have g : (base ++ [rl, o.map vS])[base.length]? = some rl := by simp
    have : rl[j]? = .none := by subst hrl; exact List.getElem?_eq_none (by simp; (first | lia | omega))
    exact next_end g this
  | k + 1, j, w, w2, o, hk, ho, hrl => by
    have hj : j < L.length := by first | lia | omega
    have hrj := hr _ (List.getElem_mem hj)
    have gj : rl[j]? = some (.d (.list (L[j].map D.str))) := by subst hrl; simp [hj]
    have g : (base ++ [rl, o.map vS])[base.length]? = some rl := by simp
    obtain ⟨w2', h2⟩ := kMapB (F := fnsL) (elt := .var 1) (i := 1) (acc := base.length + 1) (m := 2) (vars := [some (.d (.list (L[j].map D.str))), .none]) (ds := L[j].map D.str) (f := fun d => d) (own := base ++ [rl, []]) (src := .d (.list (L[j].map D.str))) (by simp) (by simp)
      (fun w o => rfl) (fun d hd o => xVar rfl) L[j].length 0 w2 (o.map vS) (by simp) (by simp; (first | lia | omega))
    obtain ⟨w', w2'', ih⟩ := flat_loop L hL hr base rl k (j + 1) (some (.d (.list (L[j].map D.str)))) w2' (o ++ L[j]) (by first | lia | omega) (by simp; (first | lia | omega)) hrl
    refine ⟨w', w2'', ?_⟩
    rw [show k + 1 + 60 = (k + 60) + 1 by first | lia | omega]
    have es : ∀ x : List V, (base ++ [rl, []]).set (base.length + 1) x = base ++ [rl, x] := fun x => by simp
    rw [es, es] at h2
    refine kNest (v := .d (.list (L[j].map D.str))) (src' := .lst (.ref base.length) (j + 1)) (next_lst g gj) rfl oNo (iList (xVar rfl) rfl) (upK (m := 2 + L[j].length + 2) (by first | lia | omega) h2) ?_
    have e : L.drop j = L[j] :: L.drop (j + 1) := List.drop_eq_getElem_cons hj
    have e2 : o.map vS ++ (((L[j].map D.str).drop 0).map fun d => d).map V.d = (o ++ L[j]).map vS := by
      simp [vS]
    rw [e2, e, List.flatten_cons, ← List.append_assoc]
    exact ih
theorem flat_ev (M : List (List Str)) (hL : M.length ≤ 10) (hr : ∀ r ∈ M, r.length ≤ 20) {vars : List (Option V)} (h12 : vars[12]? = some (some (.d (rowsD M)))) {base : List (List V)} {m : Nat} (hm : base.length = m) (hv : okVars m vars = true) (hb : okOwn m base = true) (n : Nat) :
    evE fnsL (n + 80) (.frz (.comp 2 [] (.var 1) 0 (.list (.rev (.var 12))) .no (.cons 1 (.list (.var 0)) .no .nil))) ⟨vars, base⟩ = some (.d (.list (M.reverse.flatten.map D.str)), ⟨vars, base⟩) := by
  subst hm
  have er : (((M.map fun r => D.list (r.map D.str)).map V.d).reverse) = (M.reverse.map fun r => D.list (r.map D.str)).map V.d := by simp
  obtain ⟨w', w2', h⟩ := flat_loop M.reverse (by simpa using hL) (fun r hm => hr r (List.mem_reverse.mp hm)) base _ M.reverse.length 0 .none .none [] rfl (by simp) er
  simp only [List.map_nil, List.drop_zero, List.nil_append] at h
  have hc : evE fnsL (n + 79) (.comp 2 [] (.var 1) 0 (.list (.rev (.var 12))) .no (.cons 1 (.list (.var 0)) .no .nil)) ⟨vars, base⟩ = some (.ref (base.length + 1), ⟨vars, base ++ [((M.map fun r => D.list (r.map D.str)).map V.d).reverse, M.reverse.flatten.map vS]⟩) := by
    have h1 : evI fnsL (n + 78) (.list (.rev (.var 12))) ⟨vars, base⟩ = some (.lst (.ref base.length) 0, ⟨vars, base ++ [((M.map fun r => D.list (r.map D.str)).map V.d).reverse]⟩) :=
      iList (l := ((M.map fun r => D.list (r.map D.str)).map V.d).reverse) (xRev (l := (M.map fun r => D.list (r.map D.str)).map V.d) (xVar h12) rfl (by simp; (first | lia | omega))) (show _[base.length]? = _ by simp)
    have q := xComp (m := 2) (caps := []) (elt := .var 1) (i := 0) (t := .no) (g := .cons 1 (.list (.var 0)) .no .nil) (st2 := ⟨[w', w2'], base ++ [((M.map fun r => D.list (r.map D.str)).map V.d).reverse, M.reverse.flatten.map vS]⟩) h1 (by
      have e : (base ++ [((M.map fun r => D.list (r.map D.str)).map V.d).reverse]).length = base.length + 1 := by simp
      rw [e]
      simp only [List.append_assoc, List.cons_append, List.nil_append]
      exact upK (m := M.reverse.length + 60) (by simp; (first | lia | omega)) h)
    simpa using q
  refine xFrz hc ?_
  have e : (base ++ [((M.map fun r => D.list (r.map D.str)).map V.d).reverse, M.reverse.flatten.map vS]).take base.length = base := by simp
  have g : (base ++ [((M.map fun r => D.list (r.map D.str)).map V.d).reverse, M.reverse.flatten.map vS])[base.length + 1]? = some ((M.reverse.flatten.map D.str).map V.d) := by
    have e5 : (M.reverse.flatten.map D.str).map V.d = M.reverse.flatten.map vS := by rw [List.map_map]; rfl
    rw [List.getElem?_append_right (by first | lia | omega), e5]; simp
  rw [frz_s (st := ⟨vars, base ++ [((M.map fun r => D.list (r.map D.str)).map V.d).reverse, M.reverse.flatten.map vS]⟩) (by simp) hv (.inr (by rw [e]; exact hb)) (deepV_ref (Nat.not_lt.mpr (Nat.le_succ _)) g (mapO_deep _)), e]
end Mine.Internal
end
section
set_option genInjectivity false
open PySem PySem.W PyProof.Rows PySem.Calls
set_option maxRecDepth 100000
namespace Mine.Internal
noncomputable def pS (r : List Str) : PyData := .list (r.map PyData.str)
theorem pys_str : ∀ l : List Str, D.pys (l.map D.str) = some (l.map PyData.str)
  | [] => rfl
  | a :: l => pys_s rfl (pys_str l)
theorem pys_rows : ∀ l : List (List Str), D.pys (l.map fun r => D.list (r.map D.str)) = some (l.map pS)
  | [] => rfl
  | a :: l => pys_s (py_s (pys_str a)) (pys_rows l)
noncomputable def okS (x : Str) : Bool := (PyData.str x).canLay0
theorem lay_str : ∀ l : List Str, (∀ x ∈ l, okS x = true) → PyData.canLayAll0 (l.map PyData.str) = true
  | [], _ => rfl
  | a :: l, h => by
    have h0 : (PyData.str a).canLay0 = true := h a (.head _)
    simp only [List.map_cons, PyData.canLayAll0, h0, lay_str l fun x q => h x (.tail _ q)]; rfl
theorem lay_rows : ∀ l : List (List Str), (∀ r ∈ l, ∀ x ∈ r, okS x = true) → PyData.canLayAll0 (l.map pS) = true
  | [], _ => rfl
  | a :: l, h => by
    have h0 : (pS a).canLay0 = true := lay_str a (h a (.head _))
    simp only [List.map_cons, PyData.canLayAll0, h0, lay_rows l fun x q => h x (.tail _ q)]; rfl
theorem depth_str : ∀ l : List Str, PyData.depthAll (l.map PyData.str) = 0
  | [] => rfl
  | a :: l => by simp only [List.map_cons, PyData.depthAll, PyData.depth, depth_str l]; rfl
theorem depth_rows : ∀ l : List (List Str), PyData.depthAll (l.map pS) ≤ 1
  | [] => by simp [PyData.depthAll]
  | a :: l => by
    have := depth_rows l
    simp only [List.map_cons, PyData.depthAll, pS, PyData.depth, depth_str]
    (first | lia | omega)
theorem eqv_strs : ∀ l : List Str, PyData.eqvAll (l.map PyData.str) (l.map PyData.str) = true
  | [] => rfl
  | a :: l => by simp [PyData.eqvAll, PyData.eqv, eqv_strs l]
theorem eqv_rows : ∀ l : List (List Str), PyData.eqvAll (l.map pS) (l.map pS) = true
  | [] => rfl
  | a :: l => by simp [PyData.eqvAll, PyData.eqv, pS, eqv_strs a]; exact eqv_rows l
theorem ne_rows {M : List (List Str)} (h : ∀ r ∈ M, ∀ x ∈ r, okS x = true) (st : PS) : ofCmp .NotEq (.d (rowsD M)) (.d (rowsD M)) st = some false := by
  have e1 : D.py (rowsD M) = some (.list (M.map pS)) := py_s (pys_rows M)
  have e2 : (PyData.list (M.map pS)).canLay0 = true := lay_rows M h
  have e3 : (PyData.list (M.map pS)).depth ≤ 10 := by
    show PyData.depthAll _ + 1 ≤ 10
    have := depth_rows M
    (first | lia | omega)
  have e4 : dataOf st (.d (rowsD M)) = some (.list (M.map pS)) := data_s (d := rowsD M) rfl e1 e2 e3
  have e5 : PyData.eqv (.list (M.map pS)) (.list (M.map pS)) = true := eqv_rows M
  rw [neData rfl rfl e4 e4, e5]; rfl
theorem typed_ok : ∀ x ∈ typed, okS x = true := by decide +kernel
theorem nmL_mem {names : List Str} (N : Nms names) (a : Lt) : nmL names a ∈ typed := N.mem _ (List.mem_of_getElem? (nm_get N a))
theorem rows_ok {names : List Str} (N : Nms names) (R : List (List Lt)) : ∀ r ∈ R.map (·.map (nmL names)), ∀ x ∈ r, okS x = true := by
  intro r hr x hx
  obtain ⟨q, _, rfl⟩ := List.mem_map.mp hr
  obtain ⟨a, _, rfl⟩ := List.mem_map.mp hx
  exact typed_ok _ (nmL_mem N a)
noncomputable def vC (s : List Nat) : V := .d (iN s)
theorem all_vC (can : List (List Nat)) {m : Nat} : (can.map vC).all (small m) = true := List.all_eq_true.mpr fun v hv => by
  obtain ⟨s, _, rfl⟩ := List.mem_map.mp hv
  rfl
noncomputable abbrev ShSt (w0 w1 w2 w4 : Option V) (names : List Str) (z : List Nat) (w7 w9 w10 w11 w12 : Option V) (can : List (List Nat)) : PS :=
  ⟨[w0, w1, w2, some (.d (sL names)), w4, some (.d (iN z)), some (.d (iN (fallOf z))), w7, some (.ref 0), w9, w10, w11, w12, .none, .none, .none, .none, .none, .none], [can.map vC]⟩
noncomputable def OkV (v : Option V) : Prop := ∀ m, okVars m [v] = true
noncomputable def shB : Ss := (.cons (.assign 10 (.call 112 (.cons (.var 9) (.cons (.var 5) .nil)))) (.cons (.assign 11 (.call 53 (.cons (.call 119 (.cons (.var 9) (.cons (.var 3) (.cons (.var 5) (.cons (.var 6) .nil))))) .nil))) (.cons (.ite (.cmp .Is (.var 10) .none) (.cons (.ite (.cmp .IsNot (.var 11) (.bool false)) (.cons (.ret (.bool false)) .nil) .nil) .nil) (.cons (.assign 12 (.frz (.comp 1 [3] (.comp 1 [1] (.sub (.var 1) (.var 0)) 0 (.list (.var 0)) .no .nil) 0 (.list (.var 10)) .no .nil))) (.cons (.ite (.or (.cmp .IsNot (.var 11) (.bool true)) (.cmp .NotEq (.call 126 (.cons (.frz (.comp 2 [] (.var 1) 0 (.list (.rev (.var 12))) .no (.cons 1 (.list (.var 0)) .no .nil))) .nil)) (.var 12))) (.cons (.ret (.bool false)) .nil) .nil) (.cons (.append (.var 8) (.var 9)) .nil)))) .nil)))
theorem sum_le : ∀ z ∈ sizes12, ∀ s ∈ shapesOf z, s.sum ≤ 7 := by decide +kernel
theorem ok_cons {m : Nat} {v : Option V} {l : List (Option V)} (h : okVars m [v] = true) (hl : okVars m l = true) : okVars m (v :: l) = true := by
  have e := okApp m [v] l
  rw [h, hl] at e
  exact e
theorem isNone (st : PS) (l : List D) : ofCmp .Is (.d (.list l)) (.d .none) st = some false := rfl
theorem sh_step {names : List Str} (N : Nms names) {z s : List Nat} (hz : z ∈ sizes12) (hs : s ∈ shapesOf z) {w0 w1 w2 w4 w7 w10 w11 w12 : Option V} (hw0 : OkV w0) (hw1 : OkV w1) (hw2 : OkV w2) (hw4 : OkV w4) (hw7 : OkV w7) (hw12 : OkV w12) (can : List (List Nat)) (hcan : can.length < 900) (n : Nat) :
    ∃ w10' w11' w12', (OkV w10' ∧ OkV w11' ∧ OkV w12') ∧ evSs fnsL (n + 175) shB (ShSt w0 w1 w2 w4 names z w7 (some (vC s)) w10 w11 w12 can) =
      some (.next, ShSt w0 w1 w2 w4 names z w7 (some (vC s)) w10' w11' w12' (if bal (brk z s) then can ++ [s] else can)) := by
  obtain ⟨⟨h1, h4⟩, hs7, d, hd, hf⟩ := filled_fact hz hs
  have hb := bill_ev (billOk N hz h4 hs7)
  have hc := check_bill N hz h1 h4 hs7
  have s1 : evS fnsL (n + 174) (.assign 10 (.call 112 (.cons (.var 9) (.cons (.var 5) .nil)))) (ShSt w0 w1 w2 w4 names z w7 (some (vC s)) w10 w11 w12 can) = some (.next, ShSt w0 w1 w2 w4 names z w7 (some (vC s)) (some (.d d)) w11 w12 can) :=
    sAssign (xCall (xCons (xVar rfl) (xCons (xVar rfl) xNil)) (upC (by first | lia | omega) (hf _))) rfl
  have s2 : evS fnsL (n + 173) (.assign 11 (.call 53 (.cons (.call 119 (.cons (.var 9) (.cons (.var 3) (.cons (.var 5) (.cons (.var 6) .nil))))) .nil))) (ShSt w0 w1 w2 w4 names z w7 (some (vC s)) (some (.d d)) w11 w12 can) =
      some (.next, ShSt w0 w1 w2 w4 names z w7 (some (vC s)) (some (.d d)) (some (.d (.bool (bal (brk z s))))) w12 can) :=
    sAssign (xCall (xCons (xCall (xCons (xVar rfl) (xCons (xVar rfl) (xCons (xVar rfl) (xCons (xVar rfl) xNil)))) (upC (by first | lia | omega) (hb _))) xNil) (upC (by first | lia | omega) (hc _))) rfl
  cases hd with
  | no hq =>
    rw [hq] at s2 ⊢
    exact ⟨_, _, w12, ⟨fun _ => rfl, fun _ => rfl, hw12⟩, zCons s1 (zCons s2 (zCons (sIteT (yCmp (xVar rfl) xNone rfl) (zCons (sIteF (yCmp (xVar rfl) xBool rfl) zNil) zNil)) zNil))⟩
  | yes R hq hR hsh =>
    rw [hq] at s2 ⊢
    have hRl : R.length ≤ 10 := by
      have := congrArg List.length hsh
      rw [List.length_map] at this; (first | lia | omega)
    have hRr : ∀ r ∈ R, r.length ≤ 20 := fun r hr => by
      have : r.length ∈ s := by rw [← hsh]; exact List.mem_map.mpr ⟨r, hr, rfl⟩
      have := hs7 _ this; (first | lia | omega)
    have hv : ∀ (w12 : Option V), OkV w12 → okVars 1 (ShSt w0 w1 w2 w4 names z w7 (some (vC s)) (some (.d (.list (R.map lN)))) (some (.d (.bool true))) w12 can).vars = true := fun w12 h12 =>
      ok_cons (hw0 1) (ok_cons (hw1 1) (ok_cons (hw2 1) (ok_cons rfl (ok_cons (hw4 1) (ok_cons rfl (ok_cons rfl (ok_cons (hw7 1) (ok_cons rfl (ok_cons rfl (ok_cons rfl (ok_cons rfl (ok_cons (h12 1) rfl))))))))))))
    have hb1 : okOwn 1 [can.map vC] = true := List.all_eq_true.mpr fun l hl => by rw [List.mem_singleton.mp hl]; exact all_vC can
    have s3 := written_ev N R hRl hRr (vars := (ShSt w0 w1 w2 w4 names z w7 (some (vC s)) (some (.d (.list (R.map lN)))) (some (.d (.bool true))) w12 can).vars) rfl rfl (base := [can.map vC]) (m := 1) rfl (hv _ hw12) hb1 (n + 95)
    have hw12' : OkV (some (.d (rowsD (R.map (·.map (nmL names)))))) := fun m => rfl
    have hMr : ∀ r ∈ R.map (·.map (nmL names)), r.length ≤ 20 := fun r hr => by
      obtain ⟨q, hq, rfl⟩ := List.mem_map.mp hr
      simpa using hRr q hq
    have s4 := flat_ev (R.map (·.map (nmL names))) (by simpa using hRl) hMr (vars := (ShSt w0 w1 w2 w4 names z w7 (some (vC s)) (some (.d (.list (R.map lN)))) (some (.d (.bool true))) (some (.d (rowsD (R.map (·.map (nmL names)))))) can).vars) rfl (base := [can.map vC]) (m := 1) rfl (hv _ hw12') hb1 (n + 80)
    have ef : (R.map (·.map (nmL names))).reverse.flatten = R.reverse.flatten.map (nmL names) := by
      rw [← List.map_reverse, List.map_flatten]
    have eL : laidG strLt ((R.map (·.map (nmL names))).reverse.flatten) = R.map (·.map (nmL names)) := by
      rw [ef, laidG_map (lt := ltF) (lt' := strLt) (f := nmL names) N.lt, hR]
    have hlen : ((R.map (·.map (nmL names))).reverse.flatten).length ≤ 20 := by
      rw [ef, List.length_map, List.length_flatten, List.map_reverse, hsh, List.sum_reverse]
      have := sum_le z hz s hs
      (first | lia | omega)
    have s5 := laid_ev _ hlen
    rw [eL] at s5
    refine ⟨some (.d (.list (R.map lN))), some (.d (.bool true)), some (.d (rowsD (R.map (·.map (nmL names))))), ⟨fun _ => rfl, fun _ => rfl, hw12'⟩, zCons s1 (zCons s2 (zCons (sIteF (yCmp (xVar rfl) xNone (isNone _ _)) (zCons (sAssign (upE (by first | lia | omega) s3) rfl) (zCons (sIteF (yOrF (yCmp (xVar rfl) xBool rfl) (yCmp (xCall (xCons (upE (by first | lia | omega) s4) xNil) (upC (by first | lia | omega) (s5 _))) (xVar rfl) (ne_rows (rows_ok N R) _))) zNil) (zCons (sAppend (xVar rfl) (xVar rfl) ?_) zNil)))) zNil))⟩
    refine (setOwn_s rfl (if_pos (by rw [List.length_map]; (first | lia | omega)))).trans ?_
    simp [vC]
noncomputable def canOf (z : List Nat) : List (List Nat) := (shapesOf z).filter fun s => bal (brk z s)
theorem shapes_len : ∀ z ∈ sizes12, (shapesOf z).length ≤ 11 := by decide +kernel
theorem sh_loop {names : List Str} (N : Nms names) {z : List Nat} (hz : z ∈ sizes12) {w0 w1 w2 w4 w7 : Option V} (hw0 : OkV w0) (hw1 : OkV w1) (hw2 : OkV w2) (hw4 : OkV w4) (hw7 : OkV w7) :
    ∀ (k j : Nat) (w9 w10 w11 w12 : Option V) (can : List (List Nat)), k + j = (shapesOf z).length → OkV w9 → OkV w10 → OkV w11 → OkV w12 → can.length ≤ j →
      ∃ w9' w10' w11' w12', (OkV w9' ∧ OkV w10' ∧ OkV w11' ∧ OkV w12') ∧ evF fnsL (k + 180) 9 (.lst (.d (.list ((shapesOf z).map iN))) j) shB (ShSt w0 w1 w2 w4 names z w7 w9 w10 w11 w12 can) =
        some (.next, ShSt w0 w1 w2 w4 names z w7 w9' w10' w11' w12' (can ++ ((shapesOf z).drop j).filter fun s => bal (brk z s)))
  | 0, j, w9, w10, w11, w12, can, hk, h9, h10, h11, h12, hc => by
    have e : (shapesOf z).drop j = [] := List.drop_eq_nil_of_le (by first | lia | omega)
    refine ⟨w9, w10, w11, w12, ⟨h9, h10, h11, h12⟩, ?_⟩
    rw [e]
    simp only [List.filter_nil, List.append_nil]
    exact fEnd (next_end rfl (List.getElem?_eq_none (by simp; (first | lia | omega))))
  | k + 1, j, w9, w10, w11, w12, can, hk, h9, h10, h11, h12, hc => by
    have hj : j < (shapesOf z).length := by first | lia | omega
    have hm := List.getElem_mem hj
    have hl := shapes_len z hz
    obtain ⟨w10', w11', w12', a1, a2⟩ := sh_step N hz hm hw0 hw1 hw2 hw4 hw7 h12 (w10 := w10) (w11 := w11) can (by first | lia | omega) (k + 5)
    obtain ⟨b9, b10, b11, b12, c1, c3⟩ := sh_loop N hz hw0 hw1 hw2 hw4 hw7 k (j + 1) (some (vC (shapesOf z)[j])) w10' w11' w12' (if bal (brk z (shapesOf z)[j]) then can ++ [(shapesOf z)[j]] else can) (by first | lia | omega) (fun m => rfl) a1.1 a1.2.1 a1.2.2 (by split <;> (try rw [List.length_append, List.length_singleton]) <;> (first | lia | omega))
    refine ⟨b9, b10, b11, b12, c1, ?_⟩
    rw [show k + 1 + 180 = (k + 180) + 1 by first | lia | omega]
    refine fNext (v := vC (shapesOf z)[j]) (src' := .lst (.d (.list ((shapesOf z).map iN))) (j + 1)) (next_lst rfl (by simp [hj, vC])) rfl a2 ?_
    have e : (shapesOf z).drop j = (shapesOf z)[j] :: (shapesOf z).drop (j + 1) := List.drop_eq_getElem_cons hj
    rw [e, List.filter_cons]
    by_cases hb : bal (brk z (shapesOf z)[j]) = true
    · rw [if_pos hb] at c3 ⊢
      rw [if_pos hb]
      simpa using c3
    · rw [if_neg hb] at c3 ⊢
      rw [if_neg hb]
      exact c3
theorem part3 {names : List Str} (N : Nms names) {z : List Nat} (hz : z ∈ sizes12) {w0 w1 w2 w4 w7 : Option V} (hw0 : OkV w0) (hw1 : OkV w1) (hw2 : OkV w2) (hw4 : OkV w4) (hw7 : OkV w7) :
    ∃ w9 w10 w11 w12, (OkV w9 ∧ OkV w10 ∧ OkV w11 ∧ OkV w12) ∧ ∀ r, evL fnsL 200 tl_12 (ShSt w0 w1 w2 w4 names z w7 w9 w10 w11 w12 (canOf z)) = some r →
    evL fnsL 200 tl_10 ⟨[w0, w1, w2, some (.d (sL names)), w4, some (.d (iN z)), some (.d (iN (fallOf z))), w7, .none, .none, .none, .none, .none, .none, .none, .none, .none, .none, .none], []⟩ = some r := by
  obtain ⟨w9, w10, w11, w12, c1, c3⟩ := sh_loop N hz hw0 hw1 hw2 hw4 hw7 (shapesOf z).length 0 .none .none .none .none [] rfl (fun m => rfl) (fun m => rfl) (fun m => rfl) (fun m => rfl) (by simp)
  have hl := shapes_len z hz
  obtain ⟨hz3, _⟩ := z_le z hz
  simp only [List.drop_zero, List.nil_append] at c3
  have hsum : evE fnsL 196 (.sum (.var 5)) (ShSt w0 w1 w2 w4 names z w7 .none .none .none .none []) = some (.d (.int z.sum), ShSt w0 w1 w2 w4 names z w7 .none .none .none .none []) := by
    rw [← sum_cast]
    exact xSum (xVar rfl) rfl (ints_iN z) (by simp; (first | lia | omega))
  have hsum' : evE fnsL 195 (.sum (.var 5)) (ShSt w0 w1 w2 w4 names z w7 .none .none .none .none []) = some (.d (.int z.sum), ShSt w0 w1 w2 w4 names z w7 .none .none .none .none []) := by
    rw [← sum_cast]
    exact xSum (xVar rfl) rfl (ints_iN z) (by simp; (first | lia | omega))
  have hcall : evE fnsL 198 (.call 107 (.cons (.sum (.var 5)) (.cons (.sum (.var 5)) (.cons (.int 4) .nil)))) (ShSt w0 w1 w2 w4 names z w7 .none .none .none .none []) = some (.d (.list ((shapesOf z).map iN)), ShSt w0 w1 w2 w4 names z w7 .none .none .none .none []) :=
    xCall (xCons hsum (xCons hsum' (xCons xInt xNil))) (upC (by first | lia | omega) (shapes_fact hz _))
  refine ⟨w9, w10, w11, w12, c1, fun r h => ?_⟩
  refine lCons (s := la_10) (sAssign (xList xNil (by simp)) rfl) ?_
  refine lCons (s := la_11) (st1 := ShSt w0 w1 w2 w4 names z w7 w9 w10 w11 w12 (canOf z)) ?_ h
  exact sFor (st1 := ShSt w0 w1 w2 w4 names z w7 .none .none .none .none []) (iList hcall rfl) (upF (m := (shapesOf z).length + 180) (by first | lia | omega) c3)
end Mine.Internal
end
section
set_option genInjectivity false
open PySem PySem.W PyProof.Rows PySem.Calls
set_option maxRecDepth 100000
namespace Mine.Internal
theorem words_mem : ∀ (w : List Lt) (a b c : Nat), w.count 0 = a → w.count 1 = b → w.count 2 = c → w ∈ wordsP w.length a b c
  | [], a, b, c, _, _, _ => .head _
  | x :: w, a, b, c, h0, h1, h2 => by
    refine List.mem_append.mpr ?_
    rcases fin3 x with rfl | rfl | rfl
    · simp only [List.count_cons] at h0 h1 h2
      simp at h0 h1 h2
      have := words_mem w (a - 1) b c (by first | lia | omega) h1 h2
      exact .inl (by rw [if_pos (by first | lia | omega)]; exact List.mem_map.mpr ⟨w, this, rfl⟩)
    · simp only [List.count_cons] at h0 h1 h2
      simp at h0 h1 h2
      have := words_mem w a (b - 1) c h0 (by first | lia | omega) h2
      exact .inr (List.mem_append.mpr (.inl (by rw [if_pos (by first | lia | omega)]; exact List.mem_map.mpr ⟨w, this, rfl⟩)))
    · simp only [List.count_cons] at h0 h1 h2
      simp at h0 h1 h2
      have := words_mem w a b (c - 1) h0 h1 (by first | lia | omega)
      exact .inr (List.mem_append.mpr (.inr (by rw [if_pos (by first | lia | omega)]; exact List.mem_map.mpr ⟨w, this, rfl⟩)))
noncomputable def poolOf (z : List Nat) : List Lt := List.replicate (z.getD 0 0) 0 ++ (List.replicate (z.getD 1 0) 1 ++ List.replicate (z.getD 2 0) 2)
theorem pool_cnt : ∀ z ∈ sizes12, (poolOf z).count 0 = z.getD 0 0 ∧ (poolOf z).count 1 = z.getD 1 0 ∧ (poolOf z).count 2 = z.getD 2 0 ∧ (poolOf z).length = z.sum := by decide +kernel
theorem perm_word {z : List Nat} (hz : z ∈ sizes12) {w : List Lt} (h : w.Perm (poolOf z)) : w ∈ wordsOf z ∧ w.length ≤ 7 := by
  obtain ⟨h0, h1, h2, h3⟩ := pool_cnt z hz
  have := words_mem w _ _ _ ((h.count_eq 0).trans h0) ((h.count_eq 1).trans h1) ((h.count_eq 2).trans h2)
  rw [h.length_eq, h3] at this
  obtain ⟨_, _, h7, _⟩ := z_le z hz
  exact ⟨this, by rw [h.length_eq, h3]; exact h7⟩
theorem perm_erase {α : Type} : ∀ (l : List α) (i : Nat) (h : i < l.length), (l[i] :: l.eraseIdx i).Perm l
  | a :: l, 0, h => .refl _
  | a :: l, i + 1, h => by
    simp only [List.getElem_cons_succ, List.eraseIdx_cons_succ]
    exact (List.Perm.swap a _ _).trans ((perm_erase l i (by simpa using h)).cons a)
theorem erase_map {α β : Type} (f : α → β) : ∀ (l : List α) (i : Nat), (l.map f).eraseIdx i = (l.eraseIdx i).map f
  | [], i => rfl
  | a :: l, 0 => rfl
  | a :: l, i + 1 => by simp [erase_map f l i]
noncomputable def vL (a : Lt) : V := .d (nI a.val)
theorem vL_map (l : List Lt) : l.map vL = ((l.map Fin.val).map nI).map V.d := by simp [vL]
noncomputable abbrev PoSt (w0 w1 w2 w4 : Option V) (names : List Str) (z : List Nat) (w7 w9 w10 w11 w12 w13 w14 w15 : Option V) (own : List (List V)) : PS :=
  ⟨[w0, w1, w2, some (.d (sL names)), w4, some (.d (iN z)), some (.d (iN (fallOf z))), w7, some (.ref 0), w9, w10, w11, w12, w13, w14, w15, .none, .none, .none], own⟩
theorem s12 {z : List Nat} (hz : z ∈ sizes12) (w0 w1 w2 w4 w7 w9 w10 w11 w12 : Option V) (names : List Str) (C : List V) : evS fnsL 200 la_12 (PoSt w0 w1 w2 w4 names z w7 w9 w10 w11 w12 .none .none .none [C]) =
    some (.next, PoSt w0 w1 w2 w4 names z w7 w9 w10 w11 w12 (some (.ref 1)) .none .none [C, (poolOf z).map vL]) := by
  simp only [sizes12, List.mem_cons, List.not_mem_nil, or_false] at hz
  rcases hz with rfl | rfl | rfl | rfl | rfl | rfl | rfl | rfl | rfl | rfl | rfl | rfl <;> kernel_rfl
noncomputable def poT : E := (.cmp .NotEq (.var 13) (.list .nil))
noncomputable def poB : Ss := (.cons (.append (.var 15) (.sub (.var 3) (.pop (.var 13) (.bin .Mod (.var 14) (.len (.var 13)))))) (.cons (.assign 14 (.bin .FloorDiv (.var 14) (.bin .Add (.len (.var 13)) (.int 1)))) .nil))
theorem po_test (w0 w1 w2 w4 : Option V) (names : List Str) (z : List Nat) (w7 w9 w10 w11 w12 w14 w15 : Option V) (C W : List V) (pool : List Lt) (junk : List (List V)) (n : Nat) :
    evB fnsL (n + 5) poT (PoSt w0 w1 w2 w4 names z w7 w9 w10 w11 w12 (some (.ref 1)) w14 w15 (C :: pool.map vL :: W :: junk)) =
      some (!decide (pool = []), PoSt w0 w1 w2 w4 names z w7 w9 w10 w11 w12 (some (.ref 1)) w14 w15 (C :: pool.map vL :: W :: (junk ++ [[]]))) := by
  refine yCmp (xVar rfl) (xList xNil (by simp)) ?_
  have e1 := dataRef (vs := (PoSt w0 w1 w2 w4 names z w7 w9 w10 w11 w12 (some (.ref 1)) w14 w15 []).vars) (own := C :: pool.map vL :: W :: (junk ++ [[]])) (k := 1) (l := (pool.map Fin.val).map nI) (by rw [vL_map]; rfl)
  have e2 := dataRef (vs := (PoSt w0 w1 w2 w4 names z w7 w9 w10 w11 w12 (some (.ref 1)) w14 w15 []).vars) (own := C :: pool.map vL :: W :: (junk ++ [[]])) (k := (C :: pool.map vL :: W :: junk).length) (l := ([] : List Nat).map nI) (by simp)
  have d1 := dataN (PoSt w0 w1 w2 w4 names z w7 w9 w10 w11 w12 (some (.ref 1)) w14 w15 (C :: pool.map vL :: W :: (junk ++ [[]]))) (pool.map Fin.val)
  have d2 := dataN (PoSt w0 w1 w2 w4 names z w7 w9 w10 w11 w12 (some (.ref 1)) w14 w15 (C :: pool.map vL :: W :: (junk ++ [[]]))) []
  have f1 := e1.trans d1
  have f2 := e2.trans d2
  rw [neData rfl rfl f1 f2, eqvN]
  simp only [List.map_eq_nil_iff]
theorem po_loop {names : List Str} (N : Nms names) (w0 w1 w2 w4 : Option V) (z : List Nat) (w7 w9 w10 w11 w12 : Option V) (C : List V) : ∀ (k : Nat) (pool : List Lt) (word : List Str) (q : Int) (junk : List (List V)), pool.length = k → word.length + k < 900 →
    ∃ (l : List Lt) (q' : Int) (junk' : List (List V)), l.Perm pool ∧ evW fnsL (k + 40) poT poB (PoSt w0 w1 w2 w4 names z w7 w9 w10 w11 w12 (some (.ref 1)) (some (.d (.int q))) (some (.ref 2)) (C :: pool.map vL :: word.map vS :: junk)) =
      some (.next, PoSt w0 w1 w2 w4 names z w7 w9 w10 w11 w12 (some (.ref 1)) (some (.d (.int q'))) (some (.ref 2)) (C :: [] :: (word ++ l.map (nmL names)).map vS :: junk'))
  | 0, pool, word, q, junk, hk, hw => by
    have : pool = [] := List.length_eq_zero_iff.mp hk
    subst this
    have ht := po_test w0 w1 w2 w4 names z w7 w9 w10 w11 w12 (some (.d (.int q))) (some (.ref 2)) C (word.map vS) [] junk 34
    refine ⟨[], q, junk ++ [[]], .refl _, ?_⟩
    simp only [List.map_nil, List.append_nil]
    exact wEnd ht
  | k + 1, pool, word, q, junk, hk, hw => by
    have ht := po_test w0 w1 w2 w4 names z w7 w9 w10 w11 w12 (some (.d (.int q))) (some (.ref 2)) C (word.map vS) pool junk (k + 35)
    have hne : (!decide (pool = [])) = true := by
      cases pool with
      | nil => simp at hk
      | cons a l => simp
    rw [hne] at ht
    obtain ⟨i, hi, ei⟩ := modNat q pool.length (by first | lia | omega)
    have hg : pool[i]? = some pool[i] := List.getElem?_eq_getElem hi
    have hlen : (pool.eraseIdx i).length = k := by rw [List.length_eraseIdx, if_pos hi]; (first | lia | omega)
    obtain ⟨l, q', junk', hl, ih⟩ := po_loop N w0 w1 w2 w4 z w7 w9 w10 w11 w12 C k (pool.eraseIdx i) (word ++ [nmL names pool[i]]) (q.fdiv ((k : Int) + 1)) (junk ++ [[]]) hlen (by simp; (first | lia | omega))
    refine ⟨pool[i] :: l, q', junk', ?_, ?_⟩
    · exact (List.Perm.cons _ hl).trans (perm_erase pool i hi)
    · rw [show k + 1 + 40 = (k + 40) + 1 by first | lia | omega]
      have hidx : evE fnsL (k + 35) (.bin .Mod (.var 14) (.len (.var 13))) (PoSt w0 w1 w2 w4 names z w7 w9 w10 w11 w12 (some (.ref 1)) (some (.d (.int q))) (some (.ref 2)) (C :: pool.map vL :: word.map vS :: (junk ++ [[]]))) =
          some (.d (.int (i : Int)), PoSt w0 w1 w2 w4 names z w7 w9 w10 w11 w12 (some (.ref 1)) (some (.d (.int q))) (some (.ref 2)) (C :: pool.map vL :: word.map vS :: (junk ++ [[]]))) := by
        rw [← ei]
        have e : ((pool.map vL).length : Int) = (pool.length : Int) := by simp
        rw [← e]
        exact xBin (xVar rfl) (xLenR (l := pool.map vL) (xVar rfl) rfl (by simp; (first | lia | omega))) (oMod (by rw [List.length_map]; (first | lia | omega)))
      have hpop : evE fnsL (k + 36) (.pop (.var 13) (.bin .Mod (.var 14) (.len (.var 13)))) (PoSt w0 w1 w2 w4 names z w7 w9 w10 w11 w12 (some (.ref 1)) (some (.d (.int q))) (some (.ref 2)) (C :: pool.map vL :: word.map vS :: (junk ++ [[]]))) =
          some (vL pool[i], PoSt w0 w1 w2 w4 names z w7 w9 w10 w11 w12 (some (.ref 1)) (some (.d (.int q))) (some (.ref 2)) (C :: (pool.eraseIdx i).map vL :: word.map vS :: (junk ++ [[]]))) := by
        refine xPop (xVar rfl) hidx (by first | lia | omega) (subOf (l := pool.map vL) rfl (by rw [List.getElem?_map, hg]; rfl) (by first | lia | omega)) ?_
        have hc : (pool.map vL).length < 1000 := by simp; (first | lia | omega)
        refine (setOwn_s rfl (if_pos hc)).trans ?_
        rw [Int.toNat_natCast, erase_map]; rfl
      have happ : evS fnsL (k + 39) (.append (.var 15) (.sub (.var 3) (.pop (.var 13) (.bin .Mod (.var 14) (.len (.var 13)))))) (PoSt w0 w1 w2 w4 names z w7 w9 w10 w11 w12 (some (.ref 1)) (some (.d (.int q))) (some (.ref 2)) (C :: pool.map vL :: word.map vS :: (junk ++ [[]]))) =
          some (.next, PoSt w0 w1 w2 w4 names z w7 w9 w10 w11 w12 (some (.ref 1)) (some (.d (.int q))) (some (.ref 2)) (C :: (pool.eraseIdx i).map vL :: (word ++ [nmL names pool[i]]).map vS :: (junk ++ [[]]))) := by
        refine sAppend (xVar rfl) (xSub (xVar rfl) (upE (by first | lia | omega) hpop) (subS (nm_get N pool[i]) (by have := pool[i].isLt; (first | lia | omega)))) ?_
        have hc : (word.map vS).length < 1000 := by simp; (first | lia | omega)
        refine (setOwn_s rfl (if_pos hc)).trans ?_
        rw [List.map_append]; rfl
      have hdiv : evS fnsL (k + 38) (.assign 14 (.bin .FloorDiv (.var 14) (.bin .Add (.len (.var 13)) (.int 1)))) (PoSt w0 w1 w2 w4 names z w7 w9 w10 w11 w12 (some (.ref 1)) (some (.d (.int q))) (some (.ref 2)) (C :: (pool.eraseIdx i).map vL :: (word ++ [nmL names pool[i]]).map vS :: (junk ++ [[]]))) =
          some (.next, PoSt w0 w1 w2 w4 names z w7 w9 w10 w11 w12 (some (.ref 1)) (some (.d (.int (q.fdiv ((k : Int) + 1))))) (some (.ref 2)) (C :: (pool.eraseIdx i).map vL :: (word ++ [nmL names pool[i]]).map vS :: (junk ++ [[]]))) := by
        have e : (((pool.eraseIdx i).map vL).length : Int) = (k : Int) := by simp [hlen]
        rw [← e]
        exact sAssign (xBin (xVar rfl) (xBin (xLenR (l := (pool.eraseIdx i).map vL) (xVar rfl) rfl (by simp; (first | lia | omega))) xInt oAdd) (oDiv (by rw [List.length_map]; (first | lia | omega)) (by rw [List.length_map]; (first | lia | omega)))) rfl
      refine wNext ht (zCons happ (zCons hdiv zNil)) ?_
      simpa using ih
theorem part4 {names : List Str} (N : Nms names) {z : List Nat} (hz : z ∈ sizes12) {w0 w2 w4 w7 w9 w10 w11 w12 : Option V} {a b c : Int} (hw0 : OkV w0) (hw2 : OkV w2) (hw4 : OkV w4) (hw7 : OkV w7) (hw9 : OkV w9) (hw10 : OkV w10) (hw11 : OkV w11) (hw12 : OkV w12) {can : List (List Nat)} :
    ∃ (w : List Lt) (q : Int), w ∈ wordsOf z ∧ w.length ≤ 7 ∧ ∀ r, evL fnsL 200 tl_17 (PoSt w0 (some (.d (.list [.int a, .int b, .int c]))) w2 w4 names z w7 w9 w10 w11 w12 (some (.ref 1)) (some (.d (.int q))) (some (.d (.list ((w.map (nmL names)).map D.str)))) [can.map vC, []]) = some r →
    evL fnsL 200 tl_12 (ShSt w0 (some (.d (.list [.int a, .int b, .int c]))) w2 w4 names z w7 w9 w10 w11 w12 can) = some r := by
  obtain ⟨_, _, _, h3⟩ := pool_cnt z hz
  obtain ⟨_, _, h7, _⟩ := z_le z hz
  obtain ⟨l, q', junk, hl, hloop⟩ := po_loop N w0 (some (.d (.list [.int a, .int b, .int c]))) w2 w4 z w7 w9 w10 w11 w12 (can.map vC) (poolOf z).length (poolOf z) [] (b.fmod 5040) [] rfl (by simp; (first | lia | omega))
  obtain ⟨g1, g2⟩ := perm_word hz hl
  refine ⟨l, q', g1, g2, fun r h => ?_⟩
  refine lCons (s12 hz _ _ _ _ _ _ _ _ _ _ _) ?_
  refine lCons (s := la_13) (sAssign (xBin (xSub (xVar rfl) xInt (subOf (i := 1) (l := [.d (.int a), .d (.int b), .d (.int c)]) rfl rfl (by first | lia | omega))) xInt (oMod (by decide))) rfl) ?_
  refine lCons (s := la_14) (sAssign (xList xNil (by simp)) rfl) ?_
  refine lCons (s := la_15) (sWhile (upW (m := (poolOf z).length + 40) (by first | lia | omega) hloop)) ?_
  refine lFrz ?_ h
  simp only [List.nil_append]
  have hv : okVars 2 [w0, some (.d (.list [.int a, .int b, .int c])), w2, some (.d (sL names)), w4, some (.d (iN z)), some (.d (iN (fallOf z))), w7, some (.ref 0), w9, w10, w11, w12, some (.ref 1), some (.d (.int q')), .none, .none, .none, .none] = true :=
    ok_cons (hw0 2) (ok_cons rfl (ok_cons (hw2 2) (ok_cons rfl (ok_cons (hw4 2) (ok_cons rfl (ok_cons rfl (ok_cons (hw7 2) (ok_cons rfl (ok_cons (hw9 2) (ok_cons (hw10 2) (ok_cons (hw11 2) (ok_cons (hw12 2) rfl))))))))))))
  have hb : okOwn 2 [can.map vC, []] = true := List.all_eq_true.mpr fun l hl => by rcases List.mem_cons.mp hl with rfl | hl; exact all_vC can; rw [List.mem_singleton.mp hl]; rfl
  have hf : frz 2 (.ref 2) ⟨[w0, some (.d (.list [.int a, .int b, .int c])), w2, some (.d (sL names)), w4, some (.d (iN z)), some (.d (iN (fallOf z))), w7, some (.ref 0), w9, w10, w11, w12, some (.ref 1), some (.d (.int q')), .none, .none, .none, .none], can.map vC :: [] :: (l.map (nmL names)).map vS :: junk⟩ =
      some (.d (.list ((l.map (nmL names)).map D.str)), ⟨[w0, some (.d (.list [.int a, .int b, .int c])), w2, some (.d (sL names)), w4, some (.d (iN z)), some (.d (iN (fallOf z))), w7, some (.ref 0), w9, w10, w11, w12, some (.ref 1), some (.d (.int q')), .none, .none, .none, .none], [can.map vC, []]⟩) := by
    have e5 : (l.map (nmL names)).map vS = ((l.map (nmL names)).map D.str).map V.d := by rw [List.map_map (f := D.str)]; rfl
    have g : (can.map vC :: [] :: (l.map (nmL names)).map vS :: junk)[2]? = some (((l.map (nmL names)).map D.str).map V.d) := by rw [← e5]; rfl
    exact frz_s (by simp) hv (.inr hb) (deepV_ref (Nat.lt_irrefl _) g (mapO_deep _))
  exact frzVar_s rfl rfl hf rfl
end Mine.Internal
end
section
set_option genInjectivity false
open PySem PySem.W PyProof.Rows PySem.Calls
set_option maxRecDepth 100000
namespace Mine.Internal
structure Rest where
  w0 : Option V
  w1 : Option V
  w2 : Option V
  w4 : Option V
  w9 : Option V
  w10 : Option V
  w11 : Option V
  w12 : Option V
  w14 : Option V
  w15 : Option V
structure Rest.Ok (e : Rest) : Prop where
  h0 : OkV e.w0
  h1 : OkV e.w1
  h2 : OkV e.w2
  h4 : OkV e.w4
  h9 : OkV e.w9
  h10 : OkV e.w10
  h11 : OkV e.w11
  h12 : OkV e.w12
  h14 : OkV e.w14
  h15 : OkV e.w15
noncomputable abbrev FiSt (e : Rest) (names : List Str) (z : List Nat) (w7 w16 w17 w18 : Option V) (own : List (List V)) : PS :=
  ⟨[e.w0, e.w1, e.w2, some (.d (sL names)), e.w4, some (.d (iN z)), some (.d (iN (fallOf z))), w7, some (.ref 0), e.w9, e.w10, e.w11, e.w12, some (.ref 1), e.w14, e.w15, w16, w17, w18], own⟩
theorem fi_ok {e : Rest} (E : e.Ok) {names : List Str} {z : List Nat} {w7 w16 w17 w18 : Option V} (h7 : OkV w7) (h16 : OkV w16) (h17 : OkV w17) (h18 : OkV w18) (own : List (List V)) (m : Nat) : okVars (m + 2) (FiSt e names z w7 w16 w17 w18 own).vars = true := by
  have r0 : ∀ k, k < m + 2 → okVars (m + 2) [some (.ref k)] = true := fun k hk => (Bool.and_true _).trans (decide_eq_true hk)
  exact ok_cons (E.h0 _) (ok_cons (E.h1 _) (ok_cons (E.h2 _) (ok_cons rfl (ok_cons (E.h4 _) (ok_cons rfl (ok_cons rfl (ok_cons (h7 _) (ok_cons (r0 0 (by first | lia | omega)) (ok_cons (E.h9 _) (ok_cons (E.h10 _) (ok_cons (E.h11 _) (ok_cons (E.h12 _) (ok_cons (r0 1 (by first | lia | omega)) (ok_cons (E.h14 _) (ok_cons (E.h15 _) (ok_cons (h16 _) (ok_cons (h17 _) (h18 _))))))))))))))))))
noncomputable def ownE (can : List (List Nat)) (n : Nat) : List (List V) := can.map vC :: [] :: List.replicate n []
theorem ownE_len (can : List (List Nat)) (n : Nat) : (ownE can n).length = n + 2 := by simp [ownE]
theorem ownE_ok (can : List (List Nat)) (n m : Nat) : okOwn m (ownE can n) = true := by
  refine List.all_eq_true.mpr fun l hl => ?_
  rcases List.mem_cons.mp hl with rfl | hl
  · exact all_vC can
  rcases List.mem_cons.mp hl with rfl | hl
  · rfl
  rw [List.eq_of_mem_replicate hl]; rfl
theorem ownE_snoc (can : List (List Nat)) (n : Nat) : ownE can n ++ [[]] = ownE can (n + 1) := by
  simp [ownE, List.replicate_succ']
noncomputable def lenD : D → D
  | .list l => .int l.length
  | d => d
theorem grown_ev {TS : List (List Str)} (hn : TS.length ≤ 10) (hr : ∀ r ∈ TS, r.length ≤ 20) {vars : List (Option V)} (h16 : vars[16]? = some (some (.d (rowsD TS)))) {base : List (List V)} {m : Nat} (hm : base.length = m) (hv : okVars m vars = true) (hb : okOwn m base = true) (n : Nat) :
    evE fnsL (n + 40) (.frz (.comp 1 [] (.len (.var 0)) 0 (.list (.var 16)) .no .nil)) ⟨vars, base⟩ = some (.d (iN (TS.map List.length)), ⟨vars, base⟩) := by
  subst hm
  obtain ⟨w', h⟩ := kMapB (F := fnsL) (elt := .len (.var 0)) (i := 0) (acc := base.length) (m := 5) (vars := [.none]) (ds := TS.map fun r => .list (r.map D.str)) (f := lenD) (own := base ++ [[]]) (src := .d (rowsD TS)) (by simp) (by simp)
    (fun w o => rfl) (fun d hd o => by
      obtain ⟨r, hr', rfl⟩ := List.mem_map.mp hd
      exact xLenL (xVar rfl) (by have := hr r hr'; simp; (first | lia | omega))) TS.length 0 .none [] (by simp) (by simp; (first | lia | omega))
  have e1 : (base ++ [[]]).set base.length [] = base ++ [[]] := by simp
  have e2 : ∀ x : List V, (base ++ [[]]).set base.length x = base ++ [x] := fun x => by simp
  have e3 : (((TS.map fun r => D.list (r.map D.str)).drop 0).map lenD).map V.d = ((TS.map List.length).map nI).map V.d := by
    simp only [List.drop_zero, List.map_map]
    exact List.map_congr_left fun a _ => congrArg (fun k : Nat => V.d (D.int k)) (List.length_map D.str)
  rw [e1, e2, e3] at h
  have hk := upK (n := n + 38) (by first | lia | omega) h
  have hc : evE fnsL (n + 39) (.comp 1 [] (.len (.var 0)) 0 (.list (.var 16)) .no .nil) ⟨vars, base⟩ = some (.ref base.length, ⟨vars, base ++ [((TS.map List.length).map nI).map V.d]⟩) :=
    xComp (m := 1) (caps := []) (st2 := ⟨[w'], base ++ [((TS.map List.length).map nI).map V.d]⟩) (iList (xVar h16) rfl) hk
  exact xFrz hc (frzD rfl hv hb)
theorem emp_ev {c : E} {vars : List (Option V)} {can : List (List Nat)} {k n : Nat} (hv : okVars (k + 2) vars = true) (h : evE fnsL (n + 2) c ⟨vars, ownE can k⟩ = some (.ref (k + 2), ⟨vars, ownE can k ++ [[]]⟩)) :
    evB fnsL (n + 4) (.cmp .NotEq (.frz c) (.list .nil)) ⟨vars, ownE can k⟩ = some (false, ⟨vars, ownE can (k + 1)⟩) := by
  have hz := frzD (vars := vars) (base := ownE can k) (ds := []) (m := k + 2) (ownE_len can k) hv (ownE_ok can k _)
  simp only [List.map_nil] at hz
  have hf : evE fnsL (n + 3) (.frz c) ⟨vars, ownE can k⟩ = some (.d (.list []), ⟨vars, ownE can k⟩) := xFrz h (by rw [ownE_len]; exact hz)
  have hl : evE fnsL (n + 3) (.list .nil) ⟨vars, ownE can k⟩ = some (.ref (k + 2), ⟨vars, ownE can (k + 1)⟩) := by
    have := xList (F := fnsL) (n := n + 2) (st := ⟨vars, ownE can k⟩) (st1 := ⟨vars, ownE can k⟩) (es := .nil) (vs := []) xNil (by simp)
    simp only [ownE_snoc, ownE_len] at this
    exact this
  refine yCmp hf hl ?_
  have e1 := dataRef (vs := vars) (own := ownE can (k + 1)) (k := k + 2) (l := ([] : List Nat).map nI) (by simp [ownE])
  have d1 := dataN ⟨vars, ownE can (k + 1)⟩ []
  have d2 : dataOf ⟨vars, ownE can (k + 1)⟩ (.d (.list [])) = some (pN []) := d1
  rw [neData rfl rfl d2 (e1.trans d1), eqvN, decide_eq_true rfl]; rfl
theorem tab1 {TS : List (List Str)} {k : Nat} {row : List Str} {st : PS} (hk : TS[k]? = some row) (h : k < 1000) : ofSub (.d (rowsD TS)) (.d (.int k)) st = some (.d (.list (row.map D.str))) :=
  subOf (l := (TS.map fun r => D.list (r.map D.str)).map V.d) rfl (by simp [hk]) h
theorem tab2 {row : List Str} {j : Nat} {x : Str} {st : PS} (hj : row[j]? = some x) (h : j < 1000) : ofSub (.d (.list (row.map D.str))) (.d (.int j)) st = some (.d (.str x)) :=
  subOf (l := (row.map D.str).map V.d) rfl (by simp [hj]) h
theorem getD_of {α : Type} {l : List α} {i : Nat} {x : α} (h : l[i]? = some x) (d : α) : l.getD i d = x := by
  rw [List.getD_eq_getElem?_getD, h]; rfl
noncomputable def rowC : E := (.comp 1 [16, 7] (.var 0) 0 (.range2 (.int 1) (.sub (.var 17) (.var 7))) (.yes (.cmp .Gt (.sub (.sub (.var 1) (.var 2)) (.bin .Sub (.var 0) (.int 1))) (.sub (.sub (.var 1) (.var 2)) (.var 0)))) .nil)
noncomputable def colC : E := (.comp 1 [16, 7] (.var 0) 0 (.range1 (.sub (.var 17) (.var 7))) (.yes (.cmp .GtE (.sub (.sub (.var 1) (.bin .Sub (.var 2) (.int 1))) (.var 0)) (.sub (.sub (.var 1) (.var 2)) (.var 0)))) .nil)
noncomputable def fiB : Ss := (.cons (.ite (.cmp .NotEq (.frz rowC) (.list .nil)) (.cons (.ret (.bool false)) .nil) .nil) (.cons (.ite (.and (.cmp .Gt (.var 7) (.int 0)) (.cmp .NotEq (.frz colC) (.list .nil))) (.cons (.ret (.bool false)) .nil) .nil) .nil))
section
variable {names : List Str} {T : List (List Lt)}
noncomputable abbrev nmT (names : List Str) (T : List (List Lt)) : List (List Str) := T.map (·.map (nmL names))
theorem row_comp (N : Nms names) (hrow : ∀ k < T.length, ∀ j < (T.getD k []).length - 1, ltT T k (j + 1) k j = false) (hlen : ∀ r ∈ T, r.length ≤ 20) {vars : List (Option V)} (h16 : vars[16]? = some (some (.d (rowsD (nmT names T))))) (h17 : vars[17]? = some (some (.d (iN (T.map List.length))))) {k : Nat} (hk : k < T.length) (hk2 : k < 100) (h7 : vars[7]? = some (some (.d (.int k)))) (own : List (List V)) (n : Nat) :
    evE fnsL (n + 60) rowC ⟨vars, own⟩ = some (.ref own.length, ⟨vars, own ++ [[]]⟩) := by
  have gk : T[k]? = some T[k] := List.getElem?_eq_getElem hk
  have gs : (nmT names T)[k]? = some (T[k].map (nmL names)) := by simp [hk]
  have hl := hlen _ (List.getElem_mem hk)
  have hI : evI fnsL (n + 59) (.range2 (.int 1) (.sub (.var 17) (.var 7))) ⟨vars, own⟩ = some (.rng 1 1 (T[k].length - 1), ⟨vars, own⟩) := by
    have := iRange2 (F := fnsL) (n := n + 58) (a := .int 1) (b := .sub (.var 17) (.var 7)) (st := ⟨vars, own⟩) (x := 1) (y := (T[k].length : Nat)) xInt (xSub (xVar h17) (xVar h7) (subN (l := T.map List.length) (y := T[k].length) (by simp [hk]) (by first | lia | omega))) (by first | lia | omega)
    rw [this]
    congr 3
    (first | lia | omega)
  obtain ⟨w', h⟩ := kNone (F := fnsL) (elt := .var 0) (i := 0) (t := .cmp .Gt (.sub (.sub (.var 1) (.var 2)) (.bin .Sub (.var 0) (.int 1))) (.sub (.sub (.var 1) (.var 2)) (.var 0))) (g := .nil) (acc := own.length) (m := 10) (own := own ++ [[]]) (vars := [.none, some (.d (rowsD (nmT names T))), some (.d (.int k))]) (by simp) (T[k].length - 1) 1 .none (fun j hj => by
    have g1 : T[k][j]? = some (T[k][j]'(by first | lia | omega)) := List.getElem?_eq_getElem (by first | lia | omega)
    have g2 : T[k][j + 1]? = some (T[k][j + 1]'(by first | lia | omega)) := List.getElem?_eq_getElem (by first | lia | omega)
    have hlt := hrow k hk j (by rw [getD_of gk]; exact hj)
    unfold ltT at hlt
    rw [getD_of gk, getD_of g1, getD_of g2] at hlt
    have e1 : (1 : Int) + (j : Int) - 1 = (j : Int) := by first | lia | omega
    have e2 : (1 : Int) + (j : Int) = ((j + 1 : Nat) : Int) := by first | lia | omega
    refine yCmp (xSub (xSub (xVar rfl) (xVar rfl) (tab1 gs (by first | lia | omega))) (xBin (xVar rfl) xInt oSubt) (v := .d (.str (nmL names (T[k][j]'(by first | lia | omega))))) ?_) (xSub (xSub (xVar rfl) (xVar rfl) (tab1 gs (by first | lia | omega))) (xVar rfl) (v := .d (.str (nmL names (T[k][j + 1]'(by first | lia | omega))))) ?_) ?_
    · rw [e1]; exact tab2 (by rw [List.getElem?_map, g1]; rfl) (by first | lia | omega)
    · rw [e2]; exact tab2 (by rw [List.getElem?_map, g2]; rfl) (by first | lia | omega)
    · show some (strLt _ _) = _
      congr 1
      exact (N.lt _ _).trans hlt)
  have hkk := upK (n := n + 59) (by first | lia | omega) h
  refine xComp (m := 1) (caps := [16, 7]) (st2 := ⟨[w', some (.d (rowsD (nmT names T))), some (.d (.int k))], own ++ [[]]⟩) hI ?_
  simp only [List.map_cons, List.map_nil, h16, h7, Option.join_some]
  exact hkk
theorem col_comp (N : Nms names) (hcol : ∀ k < T.length, 0 < k → (T.getD k []).length ≤ (T.getD (k - 1) []).length ∧ ∀ j < (T.getD k []).length, ltT T (k - 1) j k j = true) (hlen : ∀ r ∈ T, r.length ≤ 20) {vars : List (Option V)} (h16 : vars[16]? = some (some (.d (rowsD (nmT names T))))) (h17 : vars[17]? = some (some (.d (iN (T.map List.length))))) {k : Nat} (hk : k < T.length) (h0 : 0 < k) (hk2 : k < 100) (h7 : vars[7]? = some (some (.d (.int k)))) (own : List (List V)) (n : Nat) :
    evE fnsL (n + 60) colC ⟨vars, own⟩ = some (.ref own.length, ⟨vars, own ++ [[]]⟩) := by
  have gk : T[k]? = some T[k] := List.getElem?_eq_getElem hk
  have gk1 : T[k - 1]? = some (T[k - 1]'(by first | lia | omega)) := List.getElem?_eq_getElem (by first | lia | omega)
  have gs : (nmT names T)[k]? = some (T[k].map (nmL names)) := by simp [hk]
  have gs1 : (nmT names T)[k - 1]? = some ((T[k - 1]'(by first | lia | omega)).map (nmL names)) := by rw [List.getElem?_map, gk1]; rfl
  have hl := hlen _ (List.getElem_mem hk)
  obtain ⟨hc1, hc2⟩ := hcol k hk h0
  rw [getD_of gk, getD_of gk1] at hc1
  have hI : evI fnsL (n + 59) (.range1 (.sub (.var 17) (.var 7))) ⟨vars, own⟩ = some (.rng 0 1 T[k].length, ⟨vars, own⟩) := by
    have := iRange1 (F := fnsL) (n := n + 58) (a := .sub (.var 17) (.var 7)) (st := ⟨vars, own⟩) (x := (T[k].length : Nat)) (xSub (xVar h17) (xVar h7) (subN (l := T.map List.length) (y := T[k].length) (by simp [hk]) (by first | lia | omega))) (by first | lia | omega)
    rw [this]
    congr 3
  obtain ⟨w', h⟩ := kNone (F := fnsL) (elt := .var 0) (i := 0) (t := .cmp .GtE (.sub (.sub (.var 1) (.bin .Sub (.var 2) (.int 1))) (.var 0)) (.sub (.sub (.var 1) (.var 2)) (.var 0))) (g := .nil) (acc := own.length) (m := 10) (own := own ++ [[]]) (vars := [.none, some (.d (rowsD (nmT names T))), some (.d (.int k))]) (by simp) T[k].length 0 .none (fun j hj => by
    have g1 : (T[k - 1]'(by first | lia | omega))[j]? = some ((T[k - 1]'(by first | lia | omega))[j]'(by first | lia | omega)) := List.getElem?_eq_getElem (by first | lia | omega)
    have g2 : T[k][j]? = some (T[k][j]'(by first | lia | omega)) := List.getElem?_eq_getElem (by first | lia | omega)
    have hlt := hc2 j (by rw [getD_of gk]; exact hj)
    unfold ltT at hlt
    rw [getD_of gk, getD_of gk1, getD_of g1, getD_of g2] at hlt
    have e1 : (k : Int) - 1 = ((k - 1 : Nat) : Int) := by first | lia | omega
    have e2 : (0 : Int) + (j : Int) = (j : Int) := by first | lia | omega
    rw [e2]
    refine yCmp (xSub (xSub (xVar rfl) (xBin (xVar rfl) xInt oSubt) (v := .d (.list (((T[k - 1]'(by first | lia | omega)).map (nmL names)).map D.str))) ?_) (xVar rfl) (v := .d (.str (nmL names ((T[k - 1]'(by first | lia | omega))[j]'(by first | lia | omega))))) (tab2 (by rw [List.getElem?_map, g1]; rfl) (by first | lia | omega))) (xSub (xSub (xVar rfl) (xVar rfl) (tab1 gs (by first | lia | omega))) (xVar rfl) (v := .d (.str (nmL names (T[k][j]'(by first | lia | omega))))) (tab2 (by rw [List.getElem?_map, g2]; rfl) (by first | lia | omega))) ?_
    · rw [e1]; exact tab1 gs1 (by first | lia | omega)
    · show some (!strLt _ _) = _
      have e3 : strLt (nmL names ((T[k - 1]'(by first | lia | omega))[j]'(by first | lia | omega))) (nmL names (T[k][j]'(by first | lia | omega))) = true := (N.lt _ _).trans hlt
      rw [e3]; rfl)
  have hkk := upK (n := n + 59) (by first | lia | omega) h
  refine xComp (m := 1) (caps := [16, 7]) (st2 := ⟨[w', some (.d (rowsD (nmT names T))), some (.d (.int k))], own ++ [[]]⟩) hI ?_
  simp only [List.map_cons, List.map_nil, h16, h7, Option.join_some]
  exact hkk
theorem fi_loop (N : Nms names) (hrow : ∀ k < T.length, ∀ j < (T.getD k []).length - 1, ltT T k (j + 1) k j = false) (hcol : ∀ k < T.length, 0 < k → (T.getD k []).length ≤ (T.getD (k - 1) []).length ∧ ∀ j < (T.getD k []).length, ltT T (k - 1) j k j = true)
    (hlen : ∀ r ∈ T, r.length ≤ 20) (hT : T.length ≤ 10) {e : Rest} (E : e.Ok) (z : List Nat) (can : List (List Nat)) : ∀ (left k n : Nat) (w7 : Option V), k + left = T.length →
    ∃ w7' n', evF fnsL (left + 80) 7 (.rng k 1 left) fiB (FiSt e names z w7 (some (.d (rowsD (nmT names T)))) (some (.d (iN (T.map List.length)))) .none (ownE can n)) =
      some (.next, FiSt e names z w7' (some (.d (rowsD (nmT names T)))) (some (.d (iN (T.map List.length)))) .none (ownE can n'))
  | 0, k, n, w7, hk => ⟨w7, n, fEnd rfl⟩
  | left + 1, k, n, w7, hk => by
    have hk' : k < T.length := by first | lia | omega
    have hv : ∀ m, okVars (m + 2) (FiSt e names z (some (.d (.int k))) (some (.d (rowsD (nmT names T)))) (some (.d (iN (T.map List.length)))) .none []).vars = true := fun m => fi_ok E (fun _ => rfl) (fun _ => rfl) (fun _ => rfl) (fun _ => rfl) [] m
    have h1 := row_comp N hrow hlen (vars := (FiSt e names z (some (.d (.int k))) (some (.d (rowsD (nmT names T)))) (some (.d (iN (T.map List.length)))) .none []).vars) rfl rfl hk' (by first | lia | omega) rfl (ownE can n) (left + 10)
    rw [ownE_len] at h1
    have t1 := emp_ev (hv n) h1
    rw [show left + 1 + 80 = (left + 80) + 1 by first | lia | omega]
    by_cases h0 : 0 < k
    · have h2 := col_comp N hcol hlen (vars := (FiSt e names z (some (.d (.int k))) (some (.d (rowsD (nmT names T)))) (some (.d (iN (T.map List.length)))) .none []).vars) rfl rfl hk' h0 (by first | lia | omega) rfl (ownE can (n + 1)) (left + 10)
      rw [ownE_len] at h2
      have t2 := emp_ev (hv (n + 1)) h2
      obtain ⟨w7', n', ih⟩ := fi_loop N hrow hcol hlen hT E z can left (k + 1) (n + 2) (some (.d (.int k))) (by first | lia | omega)
      refine ⟨w7', n', fNext (v := .d (.int k)) (src' := .rng ((k + 1 : Nat) : Int) 1 left) rfl rfl (zCons (sIteF (upB (by first | lia | omega) t1) zNil) (zCons (sIteF (yAndT (yCmp (xVar rfl) xInt ?_) (upB (by first | lia | omega) t2)) zNil) zNil)) ih⟩
      show some (decide ((k : Int) > 0)) = _
      rw [decide_eq_true (by first | lia | omega)]
    · obtain ⟨w7', n', ih⟩ := fi_loop N hrow hcol hlen hT E z can left (k + 1) (n + 1) (some (.d (.int k))) (by first | lia | omega)
      refine ⟨w7', n', fNext (v := .d (.int k)) (src' := .rng ((k + 1 : Nat) : Int) 1 left) rfl rfl (zCons (sIteF (upB (by first | lia | omega) t1) zNil) (zCons (sIteF (yAndF (yCmp (xVar rfl) xInt ?_)) zNil) zNil)) ih⟩
      show some (decide ((k : Int) > 0)) = _
      rw [decide_eq_false (by first | lia | omega)]
end
theorem rows_of {T : List (List Lt)} (h : rowsOk T = true) : (∀ k < T.length, ∀ j < (T.getD k []).length - 1, ltT T k (j + 1) k j = false) ∧ (∀ k < T.length, 0 < k → (T.getD k []).length ≤ (T.getD (k - 1) []).length ∧ ∀ j < (T.getD k []).length, ltT T (k - 1) j k j = true) := by
  unfold rowsOk at h
  rw [List.all_eq_true] at h
  refine ⟨fun k hk j hj => ?_, fun k hk h0 => ?_⟩
  · have := h k (List.mem_range.mpr hk)
    simp only [Bool.and_eq_true, List.all_eq_true] at this
    have := this.1 j (List.mem_range.mpr hj)
    simpa using this
  · have := h k (List.mem_range.mpr hk)
    simp only [Bool.and_eq_true, Bool.or_eq_true, List.all_eq_true, decide_eq_true_eq, beq_iff_eq] at this
    rcases this.2 with q | ⟨q1, q2⟩
    · (first | lia | omega)
    · exact ⟨q1, fun j hj => q2 j (List.mem_range.mpr hj)⟩
theorem in_can {can : List (List Nat)} {g : List Nat} (h : g ∈ can) {vs : List (Option V)} {own : List (List V)} (ho : own[0]? = some (can.map vC)) : ofCmp .NotIn (.d (iN g)) (.ref 0) ⟨vs, own⟩ = some false := by
  have e0 : can.map vC = (can.map iN).map V.d := by rw [List.map_map]; rfl
  have e1 := dataRef (vs := vs) (k := 0) (l := can.map iN) (by rw [ho, e0])
  have p1 : ∀ l : List (List Nat), D.pys (l.map iN) = some (l.map pN) := by
    intro l
    induction l with
    | nil => rfl
    | cons a l ih => exact pys_s (py_s (pys_nat a)) ih
  have p2 : ∀ l : List (List Nat), PyData.canLayAll0 (l.map pN) = true := by
    intro l
    induction l with
    | nil => rfl
    | cons a l ih =>
      have : (pN a).canLay0 = true := lay_nat a
      simp only [List.map_cons, PyData.canLayAll0, this, ih]; rfl
  have p3 : ∀ l : List (List Nat), PyData.depthAll (l.map pN) ≤ 1 := by
    intro l
    induction l with
    | nil => simp [PyData.depthAll]
    | cons a l ih =>
      have : (pN a).depth = 1 := by show PyData.depthAll _ + 1 = 1; rw [depth_nat]
      simp only [List.map_cons, PyData.depthAll, this]; (first | lia | omega)
  have e2 : dataOf ⟨vs, own⟩ (.d (.list (can.map iN))) = some (.list (can.map pN)) := by
    have q1 : D.py (.list (can.map iN)) = some (.list (can.map pN)) := py_s (p1 can)
    have q2 : (PyData.list (can.map pN)).canLay0 = true := p2 can
    have q3 : (PyData.list (can.map pN)).depth ≤ 10 := by
      show PyData.depthAll _ + 1 ≤ 10
      have := p3 can
      (first | lia | omega)
    exact data_s (d := .list (can.map iN)) rfl q1 q2 q3
  have e3 := dataN ⟨vs, own⟩ g
  have : (can.map pN).any (fun z => PyData.eqv z (pN g)) = true := List.any_eq_true.mpr ⟨pN g, List.mem_map.mpr ⟨g, h, rfl⟩, by rw [eqvN]; simp⟩
  have hin : inOf (.d (iN g)) (.ref 0) ⟨vs, own⟩ = some true := (bd_s e3).trans ((bd_s (e1.trans e2)).trans ((bd_s (x := asPL (.list (can.map pN))) rfl).trans (congrArg some this)))
  exact bd_s (f := fun r => some (!r)) hin
theorem part5 {names : List Str} (N : Nms names) {z : List Nat} (hz : z ∈ sizes12) {w : List Lt} (hw : w ∈ wordsOf z) (hw7 : w.length ≤ 7) {e : Rest} (E : e.Ok) {w7 : Option V} (h7 : OkV w7) (h15 : e.w15 = some (.d (.list ((w.map (nmL names)).map D.str)))) :
    ∃ st, evL fnsL 200 tl_17 (FiSt e names z w7 .none .none .none [(canOf z).map vC, []]) = some (.ret (.d (.bool true)), st) := by
  have hc := words_chk z hz w hw
  unfold wordChk at hc
  simp only [Bool.and_eq_true, decide_eq_true_eq, List.contains_iff_mem, beq_iff_eq, List.all_eq_true] at hc
  obtain ⟨⟨⟨⟨⟨⟨g1, g2⟩, g3⟩, g4⟩, g5⟩, g6⟩, g7⟩ := hc
  obtain ⟨hrow, hcol⟩ := rows_of g3
  have hcan : (laidG ltF w).map List.length ∈ canOf z := List.mem_filter.mpr ⟨g1, by simpa using g2⟩
  obtain ⟨⟨s1, s4⟩, s7, _⟩ := filled_fact hz g1
  have hlaid := laid_ev (w.map (nmL names)) (by simp; (first | lia | omega))
  rw [laidG_map (lt := ltF) (lt' := strLt) (f := nmL names) N.lt] at hlaid
  have hTr : ∀ r ∈ laidG ltF w, r.length ≤ 20 := fun r hr => by have := g7 r hr; (first | lia | omega)
  have hTS : ∀ r ∈ nmT names (laidG ltF w), r.length ≤ 20 := fun r hr => by
    obtain ⟨q, hq, rfl⟩ := List.mem_map.mp hr
    simpa using hTr q hq
  have eT : (nmT names (laidG ltF w)).map List.length = (laidG ltF w).map List.length := by simp
  have hgr := grown_ev (TS := nmT names (laidG ltF w)) (by simp; (first | lia | omega)) hTS (vars := (FiSt e names z w7 (some (.d (rowsD (nmT names (laidG ltF w))))) .none .none []).vars) rfl (base := ownE (canOf z) 0) (m := 2) (ownE_len _ _) (fi_ok E h7 (fun _ => rfl) (fun _ => rfl) (fun _ => rfl) [] 0) (ownE_ok _ _ _) 100
  rw [eT] at hgr
  obtain ⟨w7', n', hloop⟩ := fi_loop N hrow hcol hTr (by first | lia | omega) E z (canOf z) (laidG ltF w).length 0 0 w7 (by first | lia | omega)
  have hbill := bill_ev (billOk N hz s4 s7)
  have hf := check_front N hz s1 s4 s7
  have hb := check_back N hz s1 s4 s7
  rw [g4] at hf
  rw [g5] at hb
  have hv15 : (FiSt e names z w7 .none .none .none [(canOf z).map vC, []]).vars[15]? = some (some (.d (.list ((w.map (nmL names)).map D.str)))) := by rw [← h15]; rfl
  refine ⟨FiSt e names z w7' (some (.d (rowsD (nmT names (laidG ltF w))))) (some (.d (iN ((laidG ltF w).map List.length)))) (some (.d (.str (billP names ((laidG ltF w).map List.length) z (fallOf z))))) (ownE (canOf z) n'), ?_⟩
  refine lCons (s := la_17) (sAssign (xCall (xCons (xVar hv15) xNil) (upC (by first | lia | omega) (hlaid _))) rfl) ?_
  refine lCons (s := la_18) (sAssign (upE (by first | lia | omega) hgr) rfl) ?_
  refine lCons (s := la_19) (sIteF (yCmp (xVar rfl) (xVar rfl) (in_can hcan rfl)) zNil) ?_
  refine lCons (s := la_20) (st1 := FiSt e names z w7' (some (.d (rowsD (nmT names (laidG ltF w))))) (some (.d (iN ((laidG ltF w).map List.length)))) .none (ownE (canOf z) n')) (sFor (iRange1 (xLenL (xVar rfl) (by simp; (first | lia | omega))) (by simp; (first | lia | omega))) (upF (m := (laidG ltF w).length + 80) (by first | lia | omega) ?_)) ?_
  · have e : ((((nmT names (laidG ltF w)).map fun r => D.list (r.map D.str)).length : Nat) : Int).toNat = (laidG ltF w).length := by simp
    rw [e]
    exact hloop
  · refine lCons (s := la_21) (sAssign (xCall (xCons (xVar rfl) (xCons (xVar rfl) (xCons (xVar rfl) (xCons (xVar rfl) xNil)))) (upC (by first | lia | omega) (hbill _))) rfl) ?_
    refine lRet (s := la_22) (sRet (xAndT (xCmp (xCall (xCons (xBin xStr (xVar rfl) (oAddS ?_)) xNil) (upC (by first | lia | omega) (hf _))) xBool rfl) (xCmp (xCall (xCons (xBin (xVar rfl) xStr (oAddS ?_)) xNil) (upC (by first | lia | omega) (hb _))) xBool rfl)))
    all_goals
      have := bill_len N hz s1 s4 s7
      have a1 : (")" : Str).length = 1 := by decide +kernel
      have a2 : ("(" : Str).length = 1 := by decide +kernel
      (first | lia | omega)
end Mine.Internal
end
section
set_option genInjectivity false
open PySem PySem.W PyProof.Rows PySem.Calls
set_option maxRecDepth 100000
namespace Mine.Internal
theorem plain_law (ns : List Int) (h : ns.length ≤ 63) : ∃ st, evL fnsL 200 lawL (st0 ns) = some (.ret (.d (.bool true)), st) := by
  obtain ⟨names, z, w0, w1, w2, w4, a, b, c, N, hz, rfl, hw, h1⟩ := part1 ns h
  have hok : ∀ m, okVars m [w0, some (.d (.list [.int a, .int b, .int c])), w2, some (.d (sL names)), w4] = true := fun m => by
    have q := hw m
    simp -iota only [okVars, List.all_cons, List.all_nil, Bool.and_true, Bool.and_eq_true] at q ⊢
    exact ⟨q.1, q.2.1, q.2.2.1, rfl, q.2.2.2⟩
  have k0 : OkV w0 := fun m => by
    have q := hw m
    simp -iota only [okVars, List.all_cons, List.all_nil, Bool.and_true, Bool.and_eq_true] at q ⊢
    exact q.1
  have k2 : OkV w2 := fun m => by
    have q := hw m
    simp -iota only [okVars, List.all_cons, List.all_nil, Bool.and_true, Bool.and_eq_true] at q ⊢
    exact q.2.2.1
  have k4 : OkV w4 := fun m => by
    have q := hw m
    simp -iota only [okVars, List.all_cons, List.all_nil, Bool.and_true, Bool.and_eq_true] at q ⊢
    exact q.2.2.2
  obtain ⟨w9, w10, w11, w12, ⟨k9, k10, k11, k12⟩, h3⟩ := part3 N hz k0 (w1 := some (.d (.list [.int a, .int b, .int c]))) (fun _ => rfl) k2 k4 (w7 := some (.d (.int 2))) (fun _ => rfl)
  obtain ⟨w, q, g1, g2, h4⟩ := part4 N hz k0 (a := a) (b := b) (c := c) k2 k4 (w7 := some (.d (.int 2))) (fun _ => rfl) k9 k10 k11 k12 (can := canOf z)
  obtain ⟨st, h5⟩ := part5 N hz g1 g2 (e := ⟨w0, some (.d (.list [.int a, .int b, .int c])), w2, w4, w9, w10, w11, w12, some (.d (.int q)), some (.d (.list ((w.map (nmL names)).map D.str)))⟩) ⟨k0, fun _ => rfl, k2, k4, k9, k10, k11, k12, fun _ => rfl, fun _ => rfl⟩ (w7 := some (.d (.int 2))) (fun _ => rfl) rfl
  exact ⟨st, h1 _ (part2 hz hok (h3 _ (h4 _ h5)))⟩
end Mine.Internal
end
section
open PySem PySem.W PyProof.Rows PySem.Calls
namespace Mine.Internal
theorem well_ints {P : Params} {h : Heap} {a : Addr} {vs : List Value} {ns : List Int} (hL : h.IsList a vs.toArray) (hw : Well P h (.ref a) (ofPy (PyData.list (ns.map PyData.int)))) : h.get? a = some (LO vs 0) := by
  simp only [ofPy] at hw
  cases hw with
  | list g _ =>
    obtain ⟨o, ho, hc, n, hd⟩ := hL
    rw [g] at ho
    cases ho
    simp only [Data.seq.injEq] at hd
    obtain ⟨e1, e2⟩ := hd
    rw [g, e1]
end Mine.Internal
end
open PySem PySem.W PyProof.Rows PySem.Calls
set_option maxRecDepth 100000 in
set_option maxHeartbeats 8000000 in
theorem PySem.Challenge.cw_ux0010_01_holds : PySem.Challenge.rw_ux0010_01.Holds :=
  Mine.Internal.hd (by
  k_fill
  intro w s₀ s₁ mg mb G Y fa o pm cd doc dV kV ho hd hcd hD hmg hg args vals as hpre hlay hrd hwl hlo
  have KX := km_in_of Y
  km_tabs Y
  have X := (Ground.X G).1
  have V := (Ground.X G).2
  refine Ground.open G ?_
  intro T B D TE TW
  try (refine guard_noD D (by decide +kernel) ?_; clear D)
  have hfa : fa = 131 := by
    have e1 := mg_of KX T.g (Mine.Internal.fa_law _)
    have e2 := hmg.symm.trans e1
    exact Value.ref.inj (Option.some.inj e2)
  clear hmg
  wrow_args hpre hlay hrd hwl hlo
  rename IntsAre _ _ => hI
  rename Well _ _ _ _ => hw
  rename Heap.IsList _ _ _ => hL
  refine enter_call ?_
  have hT8' := hT8 128 (.head _)
  have hT : TabsAt [(130, 128)] s₁.heap := fun q hq => by
    rcases List.mem_singleton.mp hq with rfl
    exact ⟨codeHd_of_K KX (Mine.Internal.tab_law _), hT8'⟩
  rename ¬ (_ : Int) < _ => hlen
  obtain ⟨st, hrun⟩ := Mine.Internal.plain_law _ (by first | exact Nat.le_of_not_lt (by exact_mod_cast hlen) | omega)
  exact Mine.Internal.law_good hfa hT (fun _ => rfl) (by kernel_rfl) (Mine.Internal.lawL_code (K := 200) KX hT8' T hg (Mine.Internal.well_ints hL hw) hI (by decide) (by decide) hrun))
