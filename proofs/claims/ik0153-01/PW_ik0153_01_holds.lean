import PyProof.Rows.All
import Wide.All
import Wide.Once
import OpenK.AllK
import Wide.FinOn
import PyProof.StationsW
import PyProof.Rules2
import PyProof.Rows.TupAssign
import PyProof.Rows.InDataRows
import PyProof.Rows.FStr
import PyProof.Rows.DictRows
import PyProof.AttrMissHeap
import KE.KUnpack
import KE.KLam
import KE.KFromBytes
import KE.BitLaws
import PySem.Challenge.RW_ik0153_01
set_option Elab.async false
set_option linter.unusedSectionVars false
set_option linter.unusedVariables false
set_option maxRecDepth 100000
section
set_option genInjectivity false
set_option genSizeOf false
open PySem PySem.W PyProof.Rows PySem.Spec
noncomputable section
namespace Mine
/-- the size of the heap at the law's call -/
structure Bnd where
  n : Nat
variable [Inhabited Bnd]
def low : Nat := (default : Bnd).n

abbrev tb : Addr := 57
def Tab (h : Heap) : Prop := ∃ ps : Array Value, h.get? tb = some (tabObj ps) ∧ TriplesOk ps.toList
/-- the heap bears the table; the addresses that are to be looked past stand -/
structure Ok (U : List Addr) (h : Heap) : Prop where
  tab : Tab h
  at_ : ∀ a ∈ U, a ≠ tb ∧ ∃ o, h.get? a = some o
/-- what was keeps, but for what is listed; a dict may change its slots -/
structure Up (X : List Addr) (h h' : Heap) : Prop where
  ex : ∀ b o, b ∉ X → h.get? b = some o → (∀ es n, o.data ≠ .dict es n) → h'.get? b = some o
  di : ∀ b o es n, b ∉ X → h.get? b = some o → o.data = .dict es n → ∃ sl, h'.get? b = some { o with slots := sl }
  fr : ∀ b o, b ∉ X → b < low → h.get? b = some o → h'.get? b = some o
theorem Up.all {X : List Addr} {h h' : Heap} (k : ∀ b o, b ∉ X → h.get? b = some o → h'.get? b = some o) : Up X h h' := ⟨fun b o n e _ => k b o n e, fun b o _ _ n e _ => ⟨o.slots, k b o n e⟩, fun b o n _ e => k b o n e⟩
theorem Up.trans {X Y Z : List Addr} {a b c : Heap} (x : Up X a b) (y : Up Y b c) (hx : ∀ z, z ∉ Z → z ∉ X ∧ z ∉ Y) : Up Z a c :=
  ⟨fun i o n e nd => y.ex i o (hx i n).2 (x.ex i o (hx i n).1 e nd) nd, fun i o es m n e d => by
    obtain ⟨sl, e'⟩ := x.di i o es m (hx i n).1 e d
    obtain ⟨sl', e''⟩ := y.di i _ es m (hx i n).2 e' d
    exact ⟨sl', e''⟩, fun i o n l e => y.fr i o (hx i n).2 l (x.fr i o (hx i n).1 l e)⟩
theorem Up.there {X : List Addr} {h h' : Heap} (k : Up X h h') {b : Addr} {o : Obj} (n : b ∉ X) (e : h.get? b = some o) : ∃ o', h'.get? b = some o' := by
  by_cases d : ∃ es m, o.data = .dict es m
  · obtain ⟨es, m, d⟩ := d
    obtain ⟨sl, e'⟩ := k.di b o es m n e d
    exact ⟨_, e'⟩
  · exact ⟨o, k.ex b o n e fun es m q => d ⟨es, m, q⟩⟩
theorem Up.ns {X : List Addr} {h h' : Heap} (k : Up X h h') {a : Addr} {m : Str → Option Value} (n : a ∉ X) (x : h.Ns a m) : h'.Ns a m := by
  obtain ⟨o, es, ep, e, d, r⟩ := x
  obtain ⟨sl, e'⟩ := k.di a o es ep n e d
  exact ⟨_, es, ep, e', d, r⟩
theorem Up.over {X : List Addr} {h h₁ h₂ : Heap} {a : Addr} (x : Up X h h₁) (k : ∀ b o, b ≠ a → h₁.get? b = some o → h₂.get? b = some o) (n : h.get? a = none) : Up X h h₂ :=
  ⟨fun b o m e nd => k b o (fun q => by rw [q, n] at e; cases e) (x.ex b o m e nd), fun b o es j m e d => by
    obtain ⟨sl, e'⟩ := x.di b o es j m e d
    exact ⟨sl, k _ _ (fun q => by rw [q, n] at e; cases e) e'⟩, fun b o m l e => k b o (fun q => by rw [q, n] at e; cases e) (x.fr b o m l e)⟩
theorem Up.mem {X Y : List Addr} {h h' : Heap} (x : Up X h h') (k : ∀ z, z ∉ Y → z ∉ X) : Up Y h h' := ⟨fun b o n => x.ex b o (k b n), fun b o es m n => x.di b o es m (k b n), fun b o n => x.fr b o (k b n)⟩
theorem Up.past {X wr : List Addr} {h h₁ h₂ : Heap} (x : Up X h h₁) (k : Up wr h₁ h₂) (nw : ∀ b ∈ wr, h.get? b = none) : Up X h h₂ :=
  ⟨fun b o m e nd => k.ex b o (fun q => by rw [nw b q] at e; cases e) (x.ex b o m e nd) nd, fun b o es j m e d => by
    obtain ⟨sl, e'⟩ := x.di b o es j m e d
    obtain ⟨sl', e''⟩ := k.di b _ es j (fun q => by rw [nw b q] at e; cases e) e' d
    exact ⟨sl', e''⟩, fun b o m l e => k.fr b o (fun q => by rw [nw b q] at e; cases e) l (x.fr b o m l e)⟩
theorem Up.but {X Y : List Addr} {h h₁ h₂ : Heap} (x : Up X h h₁) (k : Up Y h₁ h₂) (nw : ∀ b, b ∈ Y → b ∉ X → h.get? b = none) : Up X h h₂ :=
  ⟨fun b o m e nd => k.ex b o (fun q => by rw [nw b q m] at e; cases e) (x.ex b o m e nd) nd, fun b o es j m e d => by
    obtain ⟨sl, e'⟩ := x.di b o es j m e d
    obtain ⟨sl', e''⟩ := k.di b _ es j (fun q => by rw [nw b q m] at e; cases e) e' d
    exact ⟨sl', e''⟩, fun b o m l e => k.fr b o (fun q => by rw [nw b q m] at e; cases e) l (x.fr b o m l e)⟩
abbrev KpH (h h' : Heap) : Prop := Up [tb] h h'
theorem ntb {b : Addr} (n : b ≠ tb) : b ∉ [tb] := fun m => n (List.mem_singleton.mp m)
theorem KpH.x {h h' : Heap} (k : KpH h h') (b : Addr) (o : Obj) (n : b ≠ tb) (e : h.get? b = some o) (nd : ∀ es n, o.data ≠ .dict es n) : h'.get? b = some o := k.ex b o (ntb n) e nd
structure Kp (U : List Addr) (s s' : Shared) : Prop where
  keep : KpH s.heap s'.heap
  ok0 : Ok U s.heap
  ok : Ok U s'.heap
  gens : s'.gens = s.gens
  os : s'.os = s.os

section
variable {U : List Addr}
theorem Kp.refl {s : Shared} (t : Ok U s.heap) : Kp U s s := ⟨.all fun _ _ _ e => e, t, t, rfl, rfl⟩
theorem Kp.trans {a b c : Shared} (x : Kp U a b) (y : Kp U b c) : Kp U a c := ⟨x.keep.trans y.keep fun _ n => ⟨n, n⟩, x.ok0, y.ok, y.gens.trans x.gens, y.os.trans x.os⟩
theorem Ok.of {h h' : Heap} (t : Ok U h) (k : ∀ b o, h.get? b = some o → h'.get? b = some o) : Ok U h' :=
  ⟨let ⟨ps, e, q⟩ := t.tab; ⟨ps, k _ _ e, q⟩, fun a m => let ⟨n, o, e⟩ := t.at_ a m; ⟨n, o, k _ _ e⟩⟩
theorem Ok.fresh {h : Heap} (t : Ok U h) : h.objs.size ∉ U := fun m => let ⟨_, _, e⟩ := t.at_ _ m; Nat.lt_irrefl _ (Heap.lt_size e)
theorem Kp.of {s : Shared} {h : Heap} {n : Nat} (t : Ok U s.heap) (k : ∀ b o, s.heap.get? b = some o → h.get? b = some o) : Kp U s { s with heap := h, toks := n } := ⟨.all fun b o _ e => k b o e, t, t.of k, rfl, rfl⟩
theorem Kp.tok {s : Shared} {n : Nat} (t : Ok U s.heap) : Kp U s { s with toks := n } := .of t fun _ _ e => e
theorem Kp.push {s : Shared} {o : Obj} {n : Nat} (t : Ok U s.heap) : Kp U s { s with heap := s.heap.push o, toks := n } := .of t fun _ _ e => Heap.get?_push_of_some _ e
end

/-- the lists of h stand in h' -/
def KpS (h h' : Heap) : Prop := ∀ b o, h.get? b = some o → o.cls = .type "list" → (∃ vs n, o.data = .seq vs n) → h'.get? b = some o
theorem Tab.ne {h : Heap} (t : Tab h) {b : Addr} {o : Obj} (e : h.get? b = some o) (n : ∀ ps, o.data ≠ .fields ps) : b ≠ tb := fun q => by
  obtain ⟨ps, e', _⟩ := t
  rw [q, e'] at e; cases e; exact n _ rfl
theorem KpH.seq {U : List Addr} {h h' : Heap} (t : Tab h) (k : KpH h h') : KpS (hideAll h U) (hideAll h' U) := fun b o e _ ⟨_, _, d⟩ =>
  hideAll_get _ (k.x b o (t.ne (of_hideAll _ e) (by rw [d]; nofun)) (of_hideAll _ e) (by rw [d]; nofun)) fun m => by rw [hideAll_none _ m] at e; cases e
theorem KpS.of {U : List Addr} {h h' : Heap} (k : ∀ b o, h.get? b = some o → h'.get? b = some o) : KpS (hideAll h U) (hideAll h' U) := fun b o e _ _ =>
  hideAll_get _ (k b o (of_hideAll _ e)) fun m => by rw [hideAll_none _ m] at e; cases e

/-- a datum: what a value at a heap may be told to be -/
structure D where
  P : Heap → Value → Prop
  mono : ∀ {h h' : Heap} {v : Value}, KpS h h' → P h v → P h' v

def val (u : Value) : D := ⟨fun _ v => v = u, fun _ r => r⟩
abbrev non : D := val .none
abbrev boo (b : Bool) : D := val (.bool b)
def int (i : Int) : D := ⟨fun _ v => ∃ t, v = .int i t, fun _ r => r⟩
def str (x : Str) : D := ⟨fun _ v => ∃ t, v = .str x t, fun _ r => r⟩
def byt (b : Array UInt8) : D := ⟨fun _ v => ∃ t, v = .bytes b t, fun _ r => r⟩
def All (h : Heap) (vs : List Value) (ds : List D) : Prop := Paired (fun v (d : D) => d.P h v) vs ds
theorem paired_mono {α β : Type} {F G : α → β → Prop} (k : ∀ a b, F a b → G a b) {l : List α} {m : List β} (p : Paired F l m) : Paired G l m := by
  induction p with
  | nil => exact .nil
  | cons x _ ih => exact .cons (k _ _ x) ih
theorem All.mono {h h' : Heap} {vs : List Value} {ds : List D} (k : KpS h h') (a : All h vs ds) : All h' vs ds := paired_mono (fun _ d r => d.mono k r) a
def LsP (ds : List D) (h : Heap) (v : Value) : Prop := ∃ a vs, v = .ref a ∧ h.PlainList a vs ∧ All h vs.toList ds
theorem LsP.mono {ds : List D} {h h' : Heap} {v : Value} (k : KpS h h') (r : LsP ds h v) : LsP ds h' v := by
  obtain ⟨a, vs, e, ⟨n, g⟩, r⟩ := r
  exact ⟨a, vs, e, ⟨n, k _ _ g rfl ⟨_, _, rfl⟩⟩, r.mono k⟩
def ls (ds : List D) : D := ⟨LsP ds, LsP.mono⟩

/-- the datum is one of the library's data -/
def Cv (d : D) (p : PyData) : Prop := ∀ h v, d.P h v → ∃ as, Reads h v p as
theorem Cv.non : Cv non .none := fun _ _ e => by cases e; exact ⟨_, .none⟩
theorem Cv.boo {b : Bool} : Cv (boo b) (.bool b) := fun _ _ e => by cases e; exact ⟨_, .bool _⟩
theorem Cv.str {x : Str} : Cv (str x) (.str x) := fun _ _ e => by cases e with | intro t e => cases e; exact ⟨_, .str _ _⟩
theorem Cv.all {ds : List D} {ps : List PyData} (p : Paired Cv ds ps) {h : Heap} : ∀ {vs : List Value}, All h vs ds → ∃ as, ReadsAll h vs ps as := by
  induction p with
  | nil => intro vs a; cases a; exact ⟨_, .nil⟩
  | cons x _ ih => intro vs a; cases a with | cons a b => obtain ⟨_, a⟩ := x _ _ a; obtain ⟨_, b⟩ := ih b; exact ⟨_, .cons a b⟩
theorem Cv.ls {ds : List D} {ps : List PyData} (p : Paired Cv ds ps) : Cv (ls ds) (.list ps) := fun _ _ r => by
  obtain ⟨_, _, e, ⟨n, g⟩, r⟩ := r
  obtain ⟨as, r⟩ := Cv.all p r
  cases e; exact ⟨_, .list g rfl rfl r⟩

/-! where a tree is run -/
structure Cx where
  prog : Program
  w : World
  A : Around
  env : Env
  U : List Addr
  tr : prog.given.tree = none
abbrev Wp (c : Cx) {α : Type} (t : Sem α) (Q : α → Shared → Prop) (s : Shared) : Prop := wpAny (model c.prog c.w) c.A t Q (fun _ _ => False) s
theorem Wp.mono {c : Cx} {α : Type} {t : Sem α} {Q Q' : α → Shared → Prop} {s : Shared} (h : Wp c t Q s) (k : ∀ a s, Q a s → Q' a s) : Wp c t Q' s := wpAny_mono h k fun _ _ x => x
theorem Wp.up {c : Cx} {α : Type} {t : Sem α} {Q : α → Shared → Prop} {E : Value → Shared → Prop} {s : Shared} (h : Wp c t Q s) : wpAny (model c.prog c.w) c.A t Q E s := wpAny_mono h (fun _ _ x => x) fun _ _ x => x.elim

/-- the heap without what is to be looked past -/
abbrev hp (U : List Addr) (s : Shared) : Heap := hideAll s.heap U
theorem D.at (d : D) {U : List Addr} {s s' : Shared} {v : Value} (k : Kp U s s') (r : d.P (hp U s) v) : d.P (hp U s') v := d.mono (k.keep.seq k.ok0.tab) r
theorem All.at {U : List Addr} {s s' : Shared} {vs : List Value} {ds : List D} (k : Kp U s s') (r : All (hp U s) vs ds) : All (hp U s') vs ds := r.mono (k.keep.seq k.ok0.tab)
theorem plain_of {U : List Addr} {h : Heap} {a : Addr} {vs : Array Value} (l : (hideAll h U).PlainList a vs) : h.PlainList a vs := let ⟨n, e⟩ := l; ⟨n, of_hideAll _ e⟩
/-- a list laid anew -/
theorem ls_new {U : List Addr} {s : Shared} {vs : List Value} {ds : List D} {n : Nat} (t : Ok U s.heap) (r : All (hp U s) vs ds) :
    (ls ds).P (hp U { s with heap := s.heap.push { cls := .type "list", data := .seq vs.toArray }, toks := n }) (.ref s.heap.objs.size) :=
  ⟨_, vs.toArray, rfl, ⟨_, hideAll_get _ (Heap.get?_push_size _ rfl) t.fresh⟩, r.mono (.of fun _ _ e => Heap.get?_push_of_some _ e)⟩

/-- what comes back from s: the state grew, the value is told -/
abbrev Gives (U : List Addr) (d : D) (s : Shared) (v : Value) (s' : Shared) : Prop := Kp U s s' ∧ d.P (hp U s') v
abbrev Gets (U : List Addr) {α : Type} (b : α) (s : Shared) (v : α) (s' : Shared) : Prop := Kp U s s' ∧ v = b
def Ev (c : Cx) (s : Shared) (e : Expr) (d : D) : Prop := ∀ s₁, Kp c.U s s₁ → Wp c (eval e c.env) (Gives c.U d s₁) s₁
def EvT (c : Cx) (s : Shared) (e : Expr) (b : Bool) : Prop := ∀ s₁, Kp c.U s s₁ → Wp c (isTrue e c.env (eval e c.env)) (Gets c.U b s₁) s₁
def EvL (c : Cx) (s : Shared) (es : List Expr) (ds : List D) : Prop := ∀ pos s₁, Kp c.U s s₁ → Wp c (spliced (backTo pos (starEach es c.env))) (fun vs s₂ => Kp c.U s₁ s₂ ∧ All (hp c.U s₂) vs ds) s₁
def Op2 (c : Cx) (op : Operator) (d1 d2 d : D) : Prop := ∀ s a b, Ok c.U s.heap → d1.P (hp c.U s) a → d2.P (hp c.U s) b → Wp c (binaryOp op a b) (Gives c.U d s) s
def Cmp (c : Cx) (op : CmpOp) (d1 d2 : D) (r : Bool) : Prop := ∀ s a b, Ok c.U s.heap → d1.P (hp c.U s) a → d2.P (hp c.U s) b → Wp c (compareOp op a b) (Gets c.U (.bool r) s) s
def Tr (c : Cx) (d : D) (b : Bool) : Prop := ∀ s v, Ok c.U s.heap → d.P (hp c.U s) v → Wp c (truthy v) (Gets c.U b s) s

section
variable {c : Cx} {s s' : Shared} {e l r : Expr} {d d1 d2 : D} {pos : Pos} {b : Bool}
theorem Ev.at (x : Ev c s e d) (k : Kp c.U s s') : Ev c s' e d := fun s₁ k₁ => x s₁ (k.trans k₁)
theorem Ev.now (x : Ev c s e d) (t : Ok c.U s.heap) : Wp c (eval e c.env) (Gives c.U d s) s := x s (.refl t)
theorem Ev.cInt {i : Int} {k : Nat} : Ev c s (.Constant (.int i) k pos) (int i) := fun _ k => wpAny_Constant_int ⟨.tok k.ok, _, rfl⟩
theorem Ev.cStr {x : Str} {k : Nat} : Ev c s (.Constant (.str x) k pos) (str x) := fun _ k => wpAny_Constant_str ⟨.tok k.ok, _, rfl⟩
theorem Ev.cNone {k : Nat} : Ev c s (.Constant .none k pos) non := fun _ k => wpAny_Constant_none ⟨.refl k.ok, rfl⟩
theorem Ev.cBool {b : Bool} {k : Nat} : Ev c s (.Constant (.bool b) k pos) (boo b) := fun _ k => wpAny_Constant_bool ⟨.refl k.ok, rfl⟩
theorem Ev.cBytes {b : List UInt8} {k : Nat} : Ev c s (.Constant (.bytes b) k pos) (byt b.toArray) := fun s₁ k => by
  rw [eval_Constant]; exact wpAny_mkTextBytes ⟨.tok k.ok, _, rfl⟩
theorem Ev.bin {op : Operator} (x : Ev c s l d1) (y : Ev c s r d2) (o : Op2 c op d1 d2 d) : Ev c s (.BinOp l op r pos) d := fun s₁ k =>
  wpAny_BinOp ((x s₁ k).mono fun _ s₂ h => (y s₂ (k.trans h.1)).mono fun _ s₃ h' => (o s₃ _ _ h'.1.ok (d1.at h'.1 h.2) h'.2).mono fun _ _ q => ⟨h.1.trans (h'.1.trans q.1), q.2⟩)
theorem Ev.cmp {op : CmpOp} (x : Ev c s l d1) (y : Ev c s r d2) (o : Cmp c op d1 d2 b) (hm : behindInMarks op r = false := by with_unfolding_all rfl) : Ev c s (.Compare l [op] [r] pos) (boo b) := fun s₁ k =>
  wpAny_Compare1 ((x s₁ k).mono fun _ s₂ h => (y s₂ (k.trans h.1)).mono fun _ s₃ h' => (o s₃ _ _ h'.1.ok (d1.at h'.1 h.2) h'.2).mono fun _ _ q => ⟨h.1.trans (h'.1.trans q.1), q.2⟩) hm
theorem EvT.cmp {op : CmpOp} (x : Ev c s l d1) (y : Ev c s r d2) (o : Cmp c op d1 d2 b) (hm : behindInMarks op r = false := by with_unfolding_all rfl) : EvT c s (.Compare l [op] [r] pos) b := fun s₁ k =>
  wpAny_isTrue_Compare1 ((x s₁ k).mono fun _ s₂ h => (y s₂ (k.trans h.1)).mono fun _ s₃ h' => (o s₃ _ _ h'.1.ok (d1.at h'.1 h.2) h'.2).mono fun _ _ q => by
    obtain ⟨q, rfl⟩ := q; exact wpAny_truthy_bool ⟨h.1.trans (h'.1.trans q), rfl⟩) hm
theorem EvT.val (x : Ev c s e d) (t : Tr c d b) (he : ∀ w, isTrue e c.env w = (do let v ← w; standAt e.pos; holding [v] (truthy v)) := by intro _; rfl) : EvT c s e b := fun s₁ k =>
  wpAny_isTrue_value ((x s₁ k).mono fun _ s₂ h => (t s₂ _ h.1.ok h.2).mono fun _ _ q => ⟨h.1.trans q.1, q.2⟩) (he _)
theorem EvT.not (x : EvT c s e b) : EvT c s (.UnaryOp .Not e pos) (!b) := fun s₁ k => wpAny_isTrue_Not ((x s₁ k).mono fun _ _ q => ⟨q.1, by rw [q.2]⟩)
theorem Ev.ite {t : Expr} (x : EvT c s t b) (y : b = true → Ev c s l d) (z : b = false → Ev c s r d) : Ev c s (.IfExp t l r pos) d := fun s₁ k =>
  wpAny_IfExp ((x s₁ k).mono fun b' s₂ q => by
    obtain ⟨k₂, rfl⟩ := q
    cases b' with
    | true => exact (y rfl s₂ (k.trans k₂)).mono fun _ _ q => ⟨k₂.trans q.1, q.2⟩
    | false => exact (z rfl s₂ (k.trans k₂)).mono fun _ _ q => ⟨k₂.trans q.1, q.2⟩)
theorem EvL.nil : EvL c s [] [] := fun _ _ k => wpAny_items_nil ⟨.refl k.ok, .nil⟩
theorem EvL.cons {es : List Expr} {ds : List D} (x : Ev c s e d) (y : EvL c s es ds) (he : starEach (e :: es) c.env = (false, eval e c.env) :: starEach es c.env := by rfl) : EvL c s (e :: es) (d :: ds) := fun pos s₁ k =>
  wpAny_items_cons ((x s₁ k).mono fun _ s₂ h => (y pos s₂ (k.trans h.1)).mono fun _ _ q => ⟨h.1.trans q.1, .cons (d.at q.1 h.2) q.2⟩) he
theorem Ev.list {es : List Expr} {ds : List D} (x : EvL c s es ds) (hn : ds.length ≤ sizeLine := by decide) : Ev c s (.List es pos) (ls ds) := fun s₁ k =>
  wpAny_List ((x pos s₁ k).mono fun vs s₂ h => ⟨by rw [Paired.length h.2]; exact hn, h.1.trans (.push h.1.ok), ls_new h.1.ok h.2⟩)
end
end Mine
end
end
section
set_option genInjectivity false
set_option genSizeOf false
open PySem PySem.W PyProof.Rows PySem.Spec
namespace Mine
variable [Inhabited Bnd]

/-- the frame of env at h: its names read as ρ says -/
structure FS (U : List Addr) (env : Env) (h : Heap) (ρ : List (Str × D)) : Prop where
  fn : env.scope.kind = .function
  gl : env.globals = mainGlobals
  bi : env.builtins = builtinsNs
  ns : ∃ m, h.Ns env.locals m ∧ ∀ x d, ρ.lookup x = some d → env.kindOf x = some .local → ∃ v, m x = some v ∧ d.P (hideAll h U) v
  cl : ∀ x d, ρ.lookup x = some d → env.kindOf x = some .cell → ∃ c v, env.cells.lookup x = some c ∧ h.IsCell c (some v) ∧ d.P (hideAll h U) v
  cs : ∀ x c, env.cells.lookup x = some c → ∃ v, h.IsCell c v
  ap : env.cells.Pairwise fun x y => x.2 ≠ y.2

section
variable {U : List Addr} {env : Env} {h h' : Heap} {ρ : List (Str × D)} {m : Str → Option Value} {a : Addr}
theorem Ns.kp (t : Tab h) (k : KpH h h') (n : h.Ns a m) : h'.Ns a m := by
  have n' := n
  obtain ⟨o, es, ep, e, d, r⟩ := n
  exact k.ns (ntb (t.ne e (by rw [d]; nofun))) n'
theorem IsCell.kp {v : Option Value} (t : Tab h) (k : KpH h h') (n : h.IsCell a v) : h'.IsCell a v := by
  obtain ⟨o, e, d⟩ := n
  exact ⟨o, k.x _ _ (t.ne e (by rw [d]; nofun)) e (by rw [d]; nofun), d⟩
end
theorem FS.at {U : List Addr} {env : Env} {ρ : List (Str × D)} {s s' : Shared} (F : FS U env s.heap ρ) (k : Kp U s s') : FS U env s'.heap ρ where
  fn := F.fn
  gl := F.gl
  bi := F.bi
  ns := let ⟨m, n, q⟩ := F.ns; ⟨m, Ns.kp k.ok0.tab k.keep n, fun x d e l => let ⟨v, e, r⟩ := q x d e l; ⟨v, e, d.at k r⟩⟩
  cl := fun x d e l => let ⟨c, v, e, i, r⟩ := F.cl x d e l; ⟨c, v, e, IsCell.kp k.ok0.tab k.keep i, d.at k r⟩
  cs := fun x c e => let ⟨v, i⟩ := F.cs x c e; ⟨v, IsCell.kp k.ok0.tab k.keep i⟩
  ap := F.ap

section
variable {c : Cx} {s s' : Shared} {d : D} {pos : Pos} {ρ : List (Str × D)} {x : Str} {Q : Unit → Shared → Prop}
theorem FS.loc (F : FS c.U c.env s.heap ρ) (e : ρ.lookup x = some d := by rfl) (l : c.env.kindOf x = some .local := by rfl) (hd : (x == ("__debug__" : Str)) = false := by decide) : Ev c s (.Name x pos) d := fun s₁ k => by
  obtain ⟨m, n, q⟩ := (F.at k).ns
  obtain ⟨v, e, r⟩ := q x d e l
  exact wpAny_Name (wpAny_loadName_local F.fn l n e ⟨.refl k.ok, r⟩) hd
theorem FS.cell (F : FS c.U c.env s.heap ρ) (e : ρ.lookup x = some d := by rfl) (l : c.env.kindOf x = some .cell := by rfl) (hd : (x == ("__debug__" : Str)) = false := by decide) : Ev c s (.Name x pos) d := fun s₁ k => by
  obtain ⟨a, v, e, i, r⟩ := (F.at k).cl x d e l
  exact wpAny_Name (wpAny_loadName_cell F.fn l e i ⟨.refl k.ok, r⟩) hd

/-- what a store leaves: all but what stands at a -/
structure Stored (U : List Addr) (a : Addr) (s s' : Shared) : Prop where
  keep : ∀ b o, b ≠ a → s.heap.get? b = some o → s'.heap.get? b = some o
  seq : KpS (hp U s) (hp U s')
  ok : Ok U s'.heap
  gens : s'.gens = s.gens
  os : s'.os = s.os

theorem lookup_cons_ne {α : Type} {x y : Str} {a : α} {l : List (Str × α)} (h : y ≠ x) : ((x, a) :: l).lookup y = l.lookup y := by
  rw [List.lookup_cons]
  have : (y == x) = false := by simpa using h
  rw [this]
/-- one object turned, that is no list and not the table -/
theorem turned {U : List Addr} {s : Shared} {h' : Heap} {a : Addr} {o : Obj} {n : Nat} (t : Ok U s.heap) (b' : Heap.SameBut a s.heap h') (e : s.heap.get? a = some o) (e' : ∃ o', h'.get? a = some o') (hd : ∀ vs n, o.data ≠ .seq vs n) (hf : ∀ vs, o.data ≠ .fields vs) : Stored U a s { s with heap := h', toks := n } where
  keep := fun b o hb q => b'.extBut b o hb q
  seq := fun b ob q _ ⟨vs, n, d⟩ => hideAll_get _ (b'.extBut b ob (fun w => by have := of_hideAll _ q; rw [w, e] at this; cases this; exact hd _ _ d) (of_hideAll _ q)) fun m => by rw [hideAll_none _ m] at q; cases q
  ok := ⟨let ⟨ps, q, r⟩ := t.tab; ⟨ps, b'.extBut _ _ (fun w => t.tab.ne e hf w.symm) q, r⟩, fun b m => let ⟨n, ob, q⟩ := t.at_ b m; ⟨n, if w : b = a then w ▸ e' else ⟨ob, b'.extBut _ _ w q⟩⟩⟩
  gens := rfl
  os := rfl

theorem FS.stL {v : Value} (F : FS c.U c.env s.heap ρ) (t : Ok c.U s.heap) (l : c.env.kindOf x = some .local) (r : d.P (hp c.U s) v)
    (h : ∀ s', FS c.U c.env s'.heap ((x, d) :: ρ) → Stored c.U c.env.locals s s' → Q () s') : Wp c (storeName c.env x v) Q s := by
  obtain ⟨m, n, q⟩ := F.ns
  obtain ⟨oL, es, ep, eL, dL, _⟩ := id n
  refine wpAny_storeName_local l n (fun h' n' b' => ?_) (by rw [F.fn]; rfl)
  have st : Stored c.U c.env.locals s { s with heap := h', toks := s.toks + 1 } := turned t b' eL (let ⟨o, _, _, e, _⟩ := n'; ⟨o, e⟩) (by rw [dL]; nofun) (by rw [dL]; nofun)
  refine h _ ?_ st
  have kc : ∀ a v, s.heap.IsCell a v → h'.IsCell a v := fun a v i => i.sameBut b' fun w => by
    obtain ⟨o, e, di⟩ := i
    rw [w, eL] at e; cases e; rw [dL] at di; cases di
  refine ⟨F.fn, F.gl, F.bi, ⟨_, n', fun y d' e l' => ?_⟩, fun y d' e l' => ?_, fun y a e => let ⟨v, i⟩ := F.cs y a e; ⟨v, kc _ _ i⟩, F.ap⟩
  · by_cases w : y = x
    · subst w
      rw [List.lookup_cons_self] at e; cases e
      exact ⟨v, by simp, d.mono st.seq r⟩
    · rw [lookup_cons_ne w] at e
      obtain ⟨u, e, r'⟩ := q y d' e l'
      exact ⟨u, by simp [w, e], d'.mono st.seq r'⟩
  · have w : y ≠ x := fun w => by subst w; rw [l] at l'; cases l'
    rw [lookup_cons_ne w] at e
    obtain ⟨a, u, e, i, r'⟩ := F.cl y d' e l'
    exact ⟨a, u, e, kc _ _ i, d'.mono st.seq r'⟩

theorem FS.stC {v : Value} (F : FS c.U c.env s.heap ρ) (t : Ok c.U s.heap) (l : c.env.kindOf x = some .cell) (hc : (c.env.cells.lookup x).isSome = true) (r : d.P (hp c.U s) v)
    (h : ∀ a s', c.env.cells.lookup x = some a → FS c.U c.env s'.heap ((x, d) :: ρ) → Stored c.U a s s' → Q () s') : Wp c (storeName c.env x v) Q s := by
  obtain ⟨a, ha⟩ := Option.isSome_iff_exists.mp hc
  have hm := mem_of_lookup ha
  obtain ⟨v₀, i₀⟩ := F.cs x a ha
  obtain ⟨oC, eC, dC⟩ := id i₀
  refine wpAny_storeName_cell F.fn l ha i₀ (fun h' i' b' => ?_)
  have st : Stored c.U a s { s with heap := h' } := turned (n := s.toks) t b' eC (let ⟨o, e, _⟩ := i'; ⟨o, e⟩) (by rw [dC]; nofun) (by rw [dC]; nofun)
  refine h a _ ha ?_ st
  have kc : ∀ y b v, (y, b) ∈ c.env.cells → y ≠ x → s.heap.IsCell b v → h'.IsCell b v := fun y b v hy w i => i.sameBut b' fun q => w (name_of_addr F.ap (q ▸ hy) hm)
  obtain ⟨m, n, q⟩ := F.ns
  refine ⟨F.fn, F.gl, F.bi, ⟨m, n.sameBut b' (fun w => by obtain ⟨o, es, ep, e, dn, _⟩ := n; rw [w, eC] at e; cases e; rw [dC] at dn; cases dn), fun y d' e l' => ?_⟩, fun y d' e l' => ?_, fun y b e => ?_, F.ap⟩
  · have w : y ≠ x := fun w => by subst w; rw [l] at l'; cases l'
    rw [lookup_cons_ne w] at e
    obtain ⟨u, e, r'⟩ := q y d' e l'
    exact ⟨u, e, d'.mono st.seq r'⟩
  · by_cases w : y = x
    · subst w
      rw [List.lookup_cons_self] at e; cases e
      exact ⟨a, v, ha, i', d.mono st.seq r⟩
    · rw [lookup_cons_ne w] at e
      obtain ⟨b, u, e, i, r'⟩ := F.cl y d' e l'
      exact ⟨b, u, e, kc y b _ (mem_of_lookup e) w i, d'.mono st.seq r'⟩
  · by_cases w : y = x
    · subst w
      rw [ha] at e; cases e
      exact ⟨_, i'⟩
    · obtain ⟨u, i⟩ := F.cs y b e
      exact ⟨u, kc y b _ (mem_of_lookup e) w i⟩
end
end Mine
end
section
set_option genInjectivity false
set_option genSizeOf false
open PySem PySem.W PyProof.Rows PySem.Spec
namespace Mine
variable [Inhabited Bnd]

def Room (A : Around) (n : Nat) : Prop := A.handled = none ∧ A.depth + n ≤ 900 ∧ A.units + 10 * n ≤ 9000 ∧ ∃ l, A.frames = some l
theorem Room.deeper {A : Around} {n : Nat} {env : Env} (r : Room A (n + 1)) : Room (A.deeper env) n := ⟨r.1, by have := r.2.1; show A.depth + 1 + n ≤ 900; omega, by have := r.2.2.1; show A.units + 3 + 10 * n ≤ 9000; omega, let ⟨_, e⟩ := r.2.2.2; ⟨_, Around.frames_deeper e⟩⟩
theorem Room.less {A : Around} {n m : Nat} (r : Room A n) (h : m ≤ n := by decide) : Room A m := ⟨r.1, by have := r.2.1; omega, by have := r.2.2.1; omega, r.2.2.2⟩

/-- the module's own heap, with the table hidden -/
structure Md where
  g : Heap
  mg : Str → Option Value
  mb : Str → Option Value
structure Md.Ok (B : Md) : Prop where
  G : B.g.Ns mainGlobals B.mg
  U : B.g.Ns builtinsNs B.mb
  lim : B.g.NoLimit
  hid : B.g.get? tb = none
  seer : B.g.NoSeer
def Md.In (B : Md) (s : Shared) : Prop := Up [] B.g s.heap
theorem Md.Ok.to {B : Md} (O : B.Ok) {s s' : Shared} (i : B.In s) (k : KpH s.heap s'.heap) : B.In s' :=
  ⟨fun b o n e nd => k.x b o (fun q => by rw [q, O.hid] at e; cases e) (i.ex b o n e nd) nd, fun b o es m n e d => by
    obtain ⟨sl, e'⟩ := i.di b o es m n e d
    obtain ⟨sl', e''⟩ := k.di b _ es m (ntb fun q => by rw [q, O.hid] at e; cases e) e' d
    exact ⟨sl', e''⟩, fun b o n l e => k.fr b o (ntb fun q => by rw [q, O.hid] at e; cases e) l (i.fr b o n l e)⟩
theorem Md.Ok.at {B : Md} (O : B.Ok) {U : List Addr} {s s' : Shared} (i : B.In s) (k : Kp U s s') : B.In s' :=
  ⟨fun b o n e nd => k.keep.x b o (fun q => by rw [q, O.hid] at e; cases e) (i.ex b o n e nd) nd, fun b o es m n e d => by
    obtain ⟨sl, e'⟩ := i.di b o es m n e d
    obtain ⟨sl', e''⟩ := k.keep.di b _ es m (ntb fun q => by rw [q, O.hid] at e; cases e) e' d
    exact ⟨sl', e''⟩, fun b o n l e => k.keep.fr b o (ntb fun q => by rw [q, O.hid] at e; cases e) l (i.fr b o n l e)⟩
theorem Md.In.ns {B : Md} {s : Shared} (i : B.In s) {a : Addr} {m : Str → Option Value} (n : B.g.Ns a m) : s.heap.Ns a m := Up.ns i (by simp) n
theorem Md.In.obj {B : Md} {s : Shared} (i : B.In s) {b : Addr} {o : Obj} (e : B.g.get? b = some o) (nd : ∀ es n, o.data ≠ .dict es n) : s.heap.get? b = some o := i.ex b o (by simp) e nd
theorem Md.In.fn {B : Md} {s : Shared} (i : B.In s) {a : Addr} (x : FnAt a B.g) : FnAt a s.heap := let ⟨a, b, f, sl, e⟩ := x; ⟨a, b, f, sl, i.obj e nofun⟩
theorem Md.In.code {B : Md} {s : Shared} (i : B.In s) {cd : Value} {q : Str} (x : B.g.CodeRec cd q) : s.heap.CodeRec cd q := let ⟨c, o, vs, t, e, g, d, r⟩ := x; ⟨c, o, vs, t, e, i.obj g (by rw [d]; nofun), d, r⟩
theorem Md.In.lim {B : Md} {s : Shared} (i : B.In s) (x : B.g.NoLimit) : s.heap.NoLimit := let ⟨mc, n, e⟩ := x; ⟨mc, i.ns n, e⟩
theorem Md.In.seer {B : Md} {s : Shared} (i : B.In s) (x : B.g.NoSeer) : s.heap.NoSeer where
  statics := let ⟨mc, a, b⟩ := x.statics; ⟨mc, i.ns a, b⟩
  mods := let ⟨mc, a, b⟩ := x.mods; ⟨mc, i.ns a, b⟩
  imp := let ⟨mc, a, b⟩ := x.imp; ⟨mc, i.ns a, b⟩
  main := by
    obtain ⟨mg, bm, ob, a, b, c, d, e⟩ := x.main
    by_cases q : ∃ es m, ob.data = .dict es m
    · obtain ⟨es, m, q⟩ := q
      obtain ⟨sl, c'⟩ := i.di bm ob es m (by simp) c q
      exact ⟨mg, bm, _, i.ns a, b, c', d, e⟩
    · exact ⟨mg, bm, ob, i.ns a, b, i.obj c fun es m z => q ⟨es, m, z⟩, d, e⟩

/-- the frame of a def's call from s₀ -/
structure Fm (c : Cx) (s₀ s : Shared) (ρ : List (Str × D)) : Prop where
  fs : FS c.U c.env s.heap ρ
  kp : Kp c.U s₀ s
  nl : s₀.heap.get? c.env.locals = none
  nc : ∀ y a, c.env.cells.lookup y = some a → s₀.heap.get? a = none

section
variable {c : Cx} {s₀ s s' : Shared} {d : D} {ρ : List (Str × D)} {x : Str} {e : Expr} {rest : List Stmt} {pos p : Pos} {Q : Flow → Shared → Prop}
theorem Fm.at (F : Fm c s₀ s ρ) (k : Kp c.U s s') : Fm c s₀ s' ρ := ⟨F.fs.at k, F.kp.trans k, F.nl, F.nc⟩
theorem Fm.stored (F : Fm c s₀ s ρ) {ρ' : List (Str × D)} {a : Addr} (f : FS c.U c.env s'.heap ρ') (k : Stored c.U a s s') (n : s₀.heap.get? a = none) : Fm c s₀ s' ρ' :=
  ⟨f, ⟨F.kp.keep.over k.keep n, F.kp.ok0, k.ok, k.gens.trans F.kp.gens, k.os.trans F.kp.os⟩, F.nl, F.nc⟩
theorem ex_cons {st : Stmt} (h : Wp c (exec st c.env) (fun f s' => match f with | .next => Wp c (execs rest c.env) Q s' | f => Q f s') s) : Wp c (execs (st :: rest) c.env) Q s := wpAny_execs_cons h
theorem Fm.asg (F : Fm c s₀ s ρ) (v : Ev c s e d) (h : ∀ s', Fm c s₀ s' ((x, d) :: ρ) → Wp c (execs rest c.env) Q s') (l : c.env.kindOf x = some .local := by rfl)
    (sw : swapsWith e (some (.Name x p)) pos.line c.env = pure false := by rfl) : Wp c (execs (.Assign [.Name x p] e pos :: rest) c.env) Q s :=
  ex_cons (wpAny_Assign_Name ((v s (.refl F.kp.ok)).mono fun _ _ q => (F.at q.1).fs.stL q.1.ok l q.2 fun _ f k => h _ ((F.at q.1).stored f k F.nl)) sw)
theorem Fm.asgC (F : Fm c s₀ s ρ) (v : Ev c s e d) (h : ∀ s', Fm c s₀ s' ((x, d) :: ρ) → Wp c (execs rest c.env) Q s') (l : c.env.kindOf x = some .cell := by rfl) (lc : (c.env.cells.lookup x).isSome = true := by rfl)
    (sw : swapsWith e (some (.Name x p)) pos.line c.env = pure false := by rfl) : Wp c (execs (.Assign [.Name x p] e pos :: rest) c.env) Q s :=
  ex_cons (wpAny_Assign_Name ((v s (.refl F.kp.ok)).mono fun _ _ q => (F.at q.1).fs.stC q.1.ok l lc q.2 fun a _ e f k => h _ ((F.at q.1).stored f k (F.nc x a e))) sw)
theorem Fm.ret (F : Fm c s₀ s ρ) (v : Ev c s e d) (h : ∀ v s', Gives c.U d s₀ v s' → Q (.ret v) s') : Wp c (execs (.Return (some e) pos :: rest) c.env) Q s :=
  ex_cons (wpAny_Return_some ((v s (.refl F.kp.ok)).mono fun v s' q => h v s' ⟨F.kp.trans q.1, q.2⟩))
theorem Fm.iff {t : Expr} {b : Bool} {l r : List Stmt} (F : Fm c s₀ s ρ) (v : EvT c s t b)
    (h : ∀ s', Fm c s₀ s' ρ → Wp c (execs (if b then l else r) c.env) (fun f s'' => match f with | .next => Wp c (execs rest c.env) Q s'' | f => Q f s'') s') : Wp c (execs (.If t l r pos :: rest) c.env) Q s :=
  ex_cons (wpAny_If ((v s (.refl F.kp.ok)).mono fun b' s₁ q => by
    obtain ⟨k, rfl⟩ := q
    have := h s₁ (F.at k)
    cases b' <;> exact this))
theorem ex_nil (h : Q .next s) : Wp c (execs [] c.env) Q s := wpAny_execs_nil h
end

/-! names of the module and of the built-in world; calls of defs -/
section
variable {B : Md} {c : Cx} {s : Shared} {ρ : List (Str × D)} {x : Str} {u : Value} {pos np : Pos} {d : D}
theorem Ev.glob (O : B.Ok) (i : B.In s) (F : FS c.U c.env s.heap ρ) (hv : B.mg x = some u) (k : c.env.kindOf x = some .globalImplicit := by rfl) (hd : (x == ("__debug__" : Str)) = false := by decide) : Ev c s (.Name x pos) (val u) := fun s₁ q =>
  Calls.Name_function_global F.fn k (Calls.loadGlobal_global (by rw [F.gl]; exact (O.at i q).ns O.G) hv ⟨.refl q.ok, rfl⟩) hd
theorem Ev.bi (O : B.Ok) (i : B.In s) (F : FS c.U c.env s.heap ρ) (hn : B.mg x = none) (hv : B.mb x = some u) (k : c.env.kindOf x = some .globalImplicit := by rfl) (hd : (x == ("__debug__" : Str)) = false := by decide) : Ev c s (.Name x pos) (val u) := fun s₁ q =>
  Calls.Name_function_global F.fn k (Calls.loadGlobal_builtin (by rw [F.gl]; exact (O.at i q).ns O.G) hn (by rw [F.bi]; exact (O.at i q).ns O.U) hv ⟨.refl q.ok, rfl⟩) hd

/-- what a def of the module gives back -/
def Fun (B : Md) (f : Str) (n : Nat) (args : List D) (d : D) : Prop :=
  ∃ a, B.mg f = some (.ref a) ∧ FnAt a B.g ∧ ∀ U prog w A s vs, prog.given.tree = none → Room A n → B.In s → Ok U s.heap → All (hp U s) vs args → wpAny (model prog w) A (call (.ref a) vs []) (Gives U d s) (fun _ _ => False) s

theorem Ev.call {n : Nat} {e : Expr} {es : List Expr} {ds : List D} (O : B.Ok) (i : B.In s) (F : FS c.U c.env s.heap ρ) (f : Fun B x n ds d) (R : Room c.A n) (a : EvL c s (e :: es) ds) (k : c.env.kindOf x = some .globalImplicit := by rfl)
    (hd : (x == ("__debug__" : Str)) = false := by decide) (he : starEach (e :: es) c.env = (false, eval e c.env) :: starEach es c.env := by rfl) (hp : (backTo pos (starEach es c.env)).any (·.1) = false := by rfl) :
    Ev c s (.Call (.Name x np) (e :: es) [] pos) d := fun s₁ q => by
  obtain ⟨q', hm, hf, call⟩ := f
  refine wpAny_Call_ofName ((Ev.glob O i F hm k hd s₁ q).mono fun v s₂ h => ?_)
  obtain ⟨k₂, rfl⟩ := h
  have i₂ := O.at (O.at i q) k₂
  refine callWith_F (i₂.fn hf) ((a pos s₂ (q.trans k₂)).mono fun vs s₃ h₃ => ⟨(O.at i₂ h₃.1).fn hf, ?_⟩) he hp
  exact (wpAny_mono (call _ _ _ _ s₃ vs c.tr R (O.at i₂ h₃.1) h₃.1.ok h₃.2) (fun _ _ y => ⟨k₂.trans (h₃.1.trans y.1), y.2⟩) fun _ _ y => y)
theorem Ev.call0 {n : Nat} (O : B.Ok) (i : B.In s) (F : FS c.U c.env s.heap ρ) (f : Fun B x n [] d) (R : Room c.A n) (k : c.env.kindOf x = some .globalImplicit := by rfl) (hd : (x == ("__debug__" : Str)) = false := by decide) :
    Ev c s (.Call (.Name x np) [] [] pos) d := fun s₁ q => by
  obtain ⟨q', hm, hf, call⟩ := f
  refine wpAny_Call_ofName ((Ev.glob O i F hm k hd s₁ q).mono fun v s₂ h => ?_)
  obtain ⟨k₂, rfl⟩ := h
  have i₂ := O.at (O.at i q) k₂
  refine callWith_F0 (i₂.fn hf) ?_
  exact (wpAny_mono (call _ _ _ _ s₂ [] c.tr R i₂ k₂.ok .nil) (fun _ _ y => ⟨k₂.trans y.1, y.2⟩) fun _ _ y => y)
end

/-! the call of a def opened -/
def retOf : Flow → Value
  | .ret v => v
  | _ => .none
theorem bindL_told {h : Heap} {k : Str → Option NameKind} : ∀ (binds : List (Str × Value)) (ds : List D) (m : Str → Option Value) (ρ : List (Str × D)), All h (binds.map (·.2)) ds →
    (∀ x d, ρ.lookup x = some d → k x = some .local → ∃ v, m x = some v ∧ d.P h v) → ∀ x d, (((binds.map (·.1)).zip ds).reverse ++ ρ).lookup x = some d → k x = some .local → ∃ v, bindL k binds m x = some v ∧ d.P h v
  | [], _, m, ρ, a, H, x, d, e, l => by cases a; exact H x d e l
  | (n, v) :: r, ds, m, ρ, a, H, x, d, e, l => by
    cases a with
    | @cons _ d' _ ds' a b =>
      rw [List.map_cons, List.zip_cons_cons, List.reverse_cons, List.append_assoc] at e
      refine bindL_told r ds' _ ((n, d') :: ρ) b (fun y d'' e l => ?_) x d e l
      by_cases w : y = n
      · subst w
        rw [List.lookup_cons_self] at e; cases e
        exact ⟨v, by rw [if_pos l]; simp, a⟩
      · rw [lookup_cons_ne w] at e
        obtain ⟨u, e, r'⟩ := H y d'' e l
        refine ⟨u, ?_, r'⟩
        split
        · simp [w, e]
        · exact e
theorem bindC_told {h : Heap} {k : Str → Option NameKind} : ∀ (binds : List (Str × Value)) (ds : List D) (m : Str → Option Value) (ρ : List (Str × D)), All h (binds.map (·.2)) ds →
    (∀ x d, ρ.lookup x = some d → k x = some .cell → ∃ v, m x = some v ∧ d.P h v) → ∀ x d, (((binds.map (·.1)).zip ds).reverse ++ ρ).lookup x = some d → k x = some .cell → ∃ v, bindC k binds m x = some v ∧ d.P h v
  | [], _, m, ρ, a, H, x, d, e, l => by cases a; exact H x d e l
  | (n, v) :: r, ds, m, ρ, a, H, x, d, e, l => by
    cases a with
    | @cons _ d' _ ds' a b =>
      rw [List.map_cons, List.zip_cons_cons, List.reverse_cons, List.append_assoc] at e
      refine bindC_told r ds' _ ((n, d') :: ρ) b (fun y d'' e l => ?_) x d e l
      by_cases w : y = n
      · subst w
        rw [List.lookup_cons_self] at e; cases e
        exact ⟨v, by rw [if_neg (by rw [l]; nofun)]; simp, a⟩
      · rw [lookup_cons_ne w] at e
        obtain ⟨u, e, r'⟩ := H y d'' e l
        refine ⟨u, ?_, r'⟩
        split
        · exact e
        · simp [w, e]

theorem call_defL {U : List Addr} {prog : Program} {T : prog.given.tree = none} {w : World} {A : Around} {s : Shared} {n : Nat} {a : Addr} {o : Obj} {fd : FuncData} {body : List Stmt} {vs : List Value} {kw : List (Str × Value)} {binds : List (Str × Value)} {ds : List D} {Q : Value → Shared → Prop}
    (R : Room A (n + 1)) (t : Ok U s.heap) (ho : s.heap.get? a = some o) (hd : o.data = .func fd) (lim : s.heap.NoLimit) (cr : s.heap.CodeRec fd.code fd.qualname) (hb : fd.body = .stmts body)
    (hbind : BindsTo s fd ⟨vs, kw⟩ binds) (dat : All (hp U s) (binds.map (·.2)) ds) (hcl : fd.closure = []) (hg : fd.globals = mainGlobals) (hbi : fd.builtins = builtinsNs)
    (hkind : ∀ n, ∀ x ∈ binds, fd.scope.names.lookup x.1 = some .local ∨ (fd.scope.names.lookup x.1 = some .cell ∧ ((cellsFrom n fd.scope.names []).lookup x.1).isSome = true))
    (hco : fd.scope.isCoroutine = false) (hge : fd.scope.isGenerator = false) (hk : fd.scope.kind = .function)
    (hcel : ∀ n x d, (((binds.map (·.1)).zip ds).reverse).lookup x = some d → fd.scope.names.lookup x = some .cell → ∃ c, (cellsFrom n fd.scope.names []).lookup x = some c)
    (h : ∀ L s₁, s.heap.objs.size ≤ L → Fm ⟨prog, w, A.deeper (callEnvC fd L a), callEnvC fd L a, U, T⟩ s s₁ ((binds.map (·.1)).zip ds).reverse →
      Wp ⟨prog, w, A.deeper (callEnvC fd L a), callEnvC fd L a, U, T⟩ (execs body (callEnvC fd L a)) (fun fl s' => Q (retOf fl) s') s₁) :
    wpAny (model prog w) A (call (.ref a) vs kw) Q (fun _ _ => False) s := by
  have hroom : A.depth < recursionLimit := by have := R.2.1; show A.depth < 1000; omega
  refine wpAny_call (codeAny_call_function hroom ho hd hco hge hb cr (hbind _ _ _ _ ?_))
  rw [hcl]
  refine wpAny_newFunctionEnv_cells hk (hkind _) fun env he s₁ I => ?_
  subst he
  obtain ⟨⟨⟨h₁, tk, rfl⟩, ns, keep, fresh⟩, cell, ap, above⟩ := I
  have hlow : ∀ b, s.heap.objs.size ≤ b → s.heap.get? b = none := fun b hb => Heap.get?_none_of_le hb
  have k₁ : Kp U s { s with heap := h₁, toks := tk } := .of t keep
  have hdat := dat.at k₁
  refine ⟨lim.keeps keep, codeAny_func (Wp.up (c := ⟨prog, w, A.deeper (callEnvC fd s.heap.objs.size a), callEnvC fd s.heap.objs.size a, U, T⟩) ((h s.heap.objs.size _ (Nat.le_refl _) ⟨⟨hk, hg, hbi, ⟨_, ns, fun x d e l => ?_⟩, fun x d e l => ?_, fun x c e => ⟨_, cell x c e⟩, ap⟩, k₁, hlow _ fresh, fun y c m => hlow _ (Nat.le_of_lt (Nat.lt_of_le_of_lt fresh (above y c (mem_of_lookup m))))⟩).mono fun fl s' q => ?_))⟩
  · have := bindL_told (h := hideAll h₁ U) binds ds (fun _ => none) [] hdat (fun _ _ e _ => by cases e) x d (by rw [List.append_nil]; exact e) l
    exact this
  · obtain ⟨v, e', r⟩ := bindC_told (h := hideAll h₁ U) binds ds (fun _ => none) [] hdat (fun _ _ e _ => by cases e) x d (by rw [List.append_nil]; exact e) l
    obtain ⟨c, hc⟩ := hcel (s.heap.objs.size + 1) x d e l
    exact ⟨c, v, hc, e' ▸ cell x c hc, r⟩
  · cases fl <;> exact q
theorem call_def {U : List Addr} {prog : Program} {T : prog.given.tree = none} {w : World} {A : Around} {s : Shared} {n : Nat} {a : Addr} {o : Obj} {fd : FuncData} {body : List Stmt} {vs : List Value} {kw : List (Str × Value)} {binds : List (Str × Value)} {ds : List D} {Q : Value → Shared → Prop}
    (R : Room A (n + 1)) (t : Ok U s.heap) (ho : s.heap.get? a = some o) (hd : o.data = .func fd) (lim : s.heap.NoLimit) (cr : s.heap.CodeRec fd.code fd.qualname) (hb : fd.body = .stmts body)
    (hbind : BindsTo s fd ⟨vs, kw⟩ binds) (dat : All (hp U s) (binds.map (·.2)) ds) (hcl : fd.closure = []) (hg : fd.globals = mainGlobals) (hbi : fd.builtins = builtinsNs)
    (hkind : ∀ n, ∀ x ∈ binds, fd.scope.names.lookup x.1 = some .local ∨ (fd.scope.names.lookup x.1 = some .cell ∧ ((cellsFrom n fd.scope.names []).lookup x.1).isSome = true))
    (hco : fd.scope.isCoroutine = false) (hge : fd.scope.isGenerator = false) (hk : fd.scope.kind = .function)
    (hcel : ∀ n x d, (((binds.map (·.1)).zip ds).reverse).lookup x = some d → fd.scope.names.lookup x = some .cell → ∃ c, (cellsFrom n fd.scope.names []).lookup x = some c)
    (h : ∀ L s₁, Fm ⟨prog, w, A.deeper (callEnvC fd L a), callEnvC fd L a, U, T⟩ s s₁ ((binds.map (·.1)).zip ds).reverse →
      Wp ⟨prog, w, A.deeper (callEnvC fd L a), callEnvC fd L a, U, T⟩ (execs body (callEnvC fd L a)) (fun fl s' => Q (retOf fl) s') s₁) :
    wpAny (model prog w) A (call (.ref a) vs kw) Q (fun _ _ => False) s :=
  call_defL R t ho hd lim cr hb hbind dat hcl hg hbi hkind hco hge hk hcel fun L s₁ _ F => h L s₁ F
end Mine
end
section
set_option genInjectivity false
set_option genSizeOf false
open PySem PySem.W PyProof.Rows PySem.Spec
namespace Mine
variable [Inhabited Bnd]

/-- all but what is listed keeps -/
structure Chg (L : List Addr) (s s' : Shared) : Prop where
  keep : Up L s.heap s'.heap
  gens : s'.gens = s.gens
  os : s'.os = s.os
theorem Chg.trans {L L' M : List Addr} {a b c : Shared} (x : Chg L a b) (y : Chg L' b c) (h : ∀ z, z ∈ L ∨ z ∈ L' → z ∈ M) : Chg M a c :=
  ⟨x.keep.trans y.keep fun z n => ⟨fun m => n (h z (.inl m)), fun m => n (h z (.inr m))⟩, y.gens.trans x.gens, y.os.trans x.os⟩

/-- an iterator of n items, its i-th told by P i -/
structure Itr (prog : Program) (w : World) (A : Around) (target : Expr) (I : Addr) (wr fp : List Addr) (n : Nat) (P : Nat → Heap → Value → Prop) (St : Nat → Heap → Prop) : Prop where
  sub : ∀ b ∈ wr, b ∈ fp
  frame : ∀ i h h', St i h → (∀ b ∈ fp, ∀ o, h.get? b = some o → h'.get? b = some o) → St i h'
  kinds : ∀ i h, St i h → ∀ b ∈ fp, ∃ o, h.get? b = some o ∧ o.cls ≠ .none ∧ (∀ es n, o.data ≠ .dict es n) ∧ (∀ v, o.data ≠ .cell v) ∧ (b ∈ wr → o.cls ≠ .type "list")
  item : ∀ i s, i < n → St i s.heap → wpAny (model prog w) A (pyNext (.ref I)) (fun r s₁ => ∃ v, r = some v ∧ wpAny (model prog w) A (letOwnedTupleGo target (.ref I) v) (fun _ s' => P i s'.heap v ∧ St (i + 1) s'.heap ∧ Chg wr s s') (fun _ _ => False) s₁) (fun _ _ => False) s
  done : ∀ s, St n s.heap → wpAny (model prog w) A (pyNext (.ref I)) (fun r s' => r = none ∧ Chg wr s s') (fun _ _ => False) s
  self : ∀ i s (Q : Value → Shared → Prop), St i s.heap → Q (.ref I) s → wpAny (model prog w) A (pyIter (.ref I)) Q (fun _ _ => False) s

theorem Itr.nd {prog : Program} {w : World} {A : Around} {target : Expr} {I : Addr} {wr fp : List Addr} {n i : Nat} {P : Nat → Heap → Value → Prop} {St : Nat → Heap → Prop} (W : Itr prog w A target I wr fp n P St) {h : Heap} (st : St i h) {b : Addr} (m : b ∈ fp) {o : Obj} (e : h.get? b = some o) : ∀ es n, o.data ≠ .dict es n := by
  obtain ⟨o', e', _, q, _⟩ := W.kinds _ _ st b m
  rw [e] at e'; cases e'; exact q
/-- a comprehension under way: the frame, the list that fills -/
structure CS (c : Cx) (acc : Addr) (s₂ s : Shared) (ρ : List (Str × D)) (res : List D) : Prop where
  fs : FS c.U c.env s.heap ρ
  ok : Ok c.U s.heap
  base : Chg [tb] s₂ s
  acc : ∃ vs, s.heap.PlainList acc vs ∧ All (hp c.U s) vs.toList res

section
variable {c : Cx} {acc I : Addr} {s₂ s s' : Shared} {ρ : List (Str × D)} {res : List D} {wr fp : List Addr} {n i : Nat} {P : Nat → Heap → Value → Prop} {St : Nat → Heap → Prop} {target : Expr}

/-- the frame goes with a change of things that are no lists and not its own -/
theorem FS.chg {L : List Addr} (F : FS c.U c.env s.heap ρ) (k : Chg L s s') (sq : KpS (hp c.U s) (hp c.U s')) (hl : c.env.locals ∉ L) (hc : ∀ x a, c.env.cells.lookup x = some a → a ∉ L) : FS c.U c.env s'.heap ρ where
  fn := F.fn
  gl := F.gl
  bi := F.bi
  ns := let ⟨m, n, q⟩ := F.ns; ⟨m, k.keep.ns hl n, fun x d e l => let ⟨v, e, r⟩ := q x d e l; ⟨v, e, d.mono sq r⟩⟩
  cl := fun x d e l => let ⟨a, v, e, ⟨o, i, j⟩, r⟩ := F.cl x d e l; ⟨a, v, e, ⟨o, k.keep.ex _ _ (hc x a e) i (by rw [j]; nofun), j⟩, d.mono sq r⟩
  cs := fun x a e => let ⟨v, o, i, j⟩ := F.cs x a e; ⟨v, o, k.keep.ex _ _ (hc x a e) i (by rw [j]; nofun), j⟩
  ap := F.ap

/-- an iterator's step leaves the comprehension as it stands -/
theorem CS.step (C : CS c acc s₂ s ρ res) (W : Itr c.prog c.w c.A target I wr fp n P St) (st : St i s.heap) (off : ∀ b ∈ fp, b ∉ c.U) (ha : acc ∈ c.U) (nw : ∀ b ∈ wr, s₂.heap.get? b = none) (k : Chg wr s s') : CS c acc s₂ s' ρ res := by
  have kd := W.kinds i _ st
  have sq : KpS (hp c.U s) (hp c.U s') := fun b o e hc ⟨_, _, hd⟩ => hideAll_get _ (k.keep.ex b o (fun m => by
    obtain ⟨o', e', _, _, _, q⟩ := kd b (W.sub b m)
    rw [of_hideAll _ e] at e'; cases e'; exact q m hc) (of_hideAll _ e) (by rw [hd]; nofun)) fun m => by rw [hideAll_none _ m] at e; cases e
  have htb : tb ∉ wr := fun m => by
    obtain ⟨o', e', q, _⟩ := kd tb (W.sub _ m)
    obtain ⟨ps, e, _⟩ := C.ok.tab
    rw [e] at e'; cases e'; exact q rfl
  refine ⟨C.fs.chg k sq (fun m => ?_) (fun x a e m => ?_), ⟨let ⟨ps, e, t⟩ := C.ok.tab; ⟨ps, k.keep.ex _ _ htb e nofun, t⟩, fun a m => let ⟨q, o, e⟩ := C.ok.at_ a m; ⟨q, k.keep.there (fun w => off a (W.sub a w) m) e⟩⟩, ?_, ?_⟩
  · obtain ⟨o', e', _, q, _⟩ := kd _ (W.sub _ m)
    obtain ⟨m, ⟨o, es, ep, e, d, _⟩, _⟩ := C.fs.ns
    rw [e] at e'; cases e'; exact q _ _ d
  · obtain ⟨o', e', _, _, q, _⟩ := kd _ (W.sub _ m)
    obtain ⟨v, o, e, d⟩ := C.fs.cs x a e
    rw [e] at e'; cases e'; exact q _ d
  · exact ⟨C.base.keep.past k.keep nw, k.gens.trans C.base.gens, k.os.trans C.base.os⟩
  · obtain ⟨vs, ⟨o, e⟩, al⟩ := C.acc
    exact ⟨vs, ⟨o, k.keep.ex _ _ (fun m => off _ (W.sub _ m) ha) e nofun⟩, al.mono sq⟩

theorem CS.drop {σ : List (Str × D)} (C : CS c acc s₂ s (σ ++ ρ) res) (h : ∀ x, (ρ.lookup x).isSome = true → σ.lookup x = none) : CS c acc s₂ s ρ res := by
  have up : ∀ x d, ρ.lookup x = some d → (σ ++ ρ).lookup x = some d := fun x d e => by
    have := h x (by rw [e]; rfl)
    rw [List.lookup_append, this]; exact e
  exact ⟨⟨C.fs.fn, C.fs.gl, C.fs.bi, let ⟨m, n, q⟩ := C.fs.ns; ⟨m, n, fun x d e l => q x d (up x d e) l⟩, fun x d e l => C.fs.cl x d (up x d e) l, C.fs.cs, C.fs.ap⟩, C.ok, C.base, C.acc⟩
theorem CS.kp (C : CS c acc s₂ s ρ res) (k : Kp c.U s s') (ha : acc ∈ c.U) : CS c acc s₂ s' ρ res :=
  ⟨C.fs.at k, k.ok, ⟨C.base.keep.trans k.keep fun _ n => ⟨n, n⟩, k.gens.trans C.base.gens, k.os.trans C.base.os⟩,
    let ⟨vs, ⟨o, e⟩, al⟩ := C.acc; ⟨vs, ⟨o, k.keep.x _ _ (C.ok.at_ _ ha).1 e nofun⟩, al.at k⟩⟩

/-- an item more -/
theorem CS.put {d : D} {v : Value} (C₁ : CS c acc s₂ s ρ res) (ha : acc ∈ c.U) (hn : s₂.heap.get? acc = none) (hl : acc ≠ c.env.locals) (hc : ∀ x a, c.env.cells.lookup x = some a → a ≠ acc) (y : d.P (hp c.U s) v) (hs : res.length ≤ sizeLine)
    {Q : Value → Shared → Prop} (h : ∀ s', CS c acc s₂ s' ρ (res ++ [d]) → Chg [tb, acc] s s' → Q .none s') :
    Wp c (call (.builtin "list.append") [.ref acc, v]) Q s := by
  obtain ⟨vs, l, al⟩ := C₁.acc
  have hsz : vs.size ≤ sizeLine := by rw [← Array.length_toList, Paired.length al]; exact hs
  refine wpAny_list_append_plain l (fun h' l' b' => h _ ?_ ?_) hsz
  · have sq : KpS (hp c.U s) (hideAll h' c.U) := fun b o e _ _ => by
      have hb : b ∉ c.U := fun m => by rw [hideAll_none _ m] at e; cases e
      exact hideAll_get _ (b'.extBut b o (fun w => hb (w ▸ ha)) (of_hideAll _ e)) hb
    refine ⟨C₁.fs.chg (L := [acc]) (s' := { s with heap := h' }) ⟨.all fun b o m e => b'.extBut b o (fun w => m (w ▸ List.mem_singleton_self _)) e, rfl, rfl⟩ sq (fun m => hl (List.mem_singleton.mp m).symm) (fun x a e m => hc x a e (List.mem_singleton.mp m)), ?_, ?_, ?_⟩
    · obtain ⟨ps, e, t⟩ := C₁.ok.tab
      obtain ⟨o, el, _⟩ := l'.isList
      refine ⟨⟨ps, b'.extBut _ _ (C₁.ok.at_ _ ha).1.symm e, t⟩, fun a m => let ⟨n, o', e⟩ := C₁.ok.at_ a m; ⟨n, if w : a = acc then ⟨o, w ▸ el⟩ else ⟨o', b'.extBut _ _ w e⟩⟩⟩
    · exact ⟨C₁.base.keep.over (fun b o n e => b'.extBut b o n e) hn, C₁.base.gens, C₁.base.os⟩
    · refine ⟨_, l', ?_⟩
      rw [Array.toList_push]
      exact (All.mono sq al).snoc (d.mono sq y)
  · exact ⟨.all fun b o m e => b'.extBut b o (fun w => m (by rw [w]; simp)) e, rfl, rfl⟩
theorem CS.add {elt : Expr} {d : D} (C : CS c acc s₂ s ρ res) (ha : acc ∈ c.U) (hn : s₂.heap.get? acc = none) (hl : acc ≠ c.env.locals) (hc : ∀ x a, c.env.cells.lookup x = some a → a ≠ acc) (x : Ev c s elt d) (hs : res.length ≤ sizeLine)
    {Q : Unit → Shared → Prop} (h : ∀ s', CS c acc s₂ s' ρ (res ++ [d]) → Chg [tb, acc] s s' → Q () s') :
    Wp c (eval elt c.env >>= fun x => call (.builtin "list.append") [.ref acc, x] >>= fun _ => pure ()) Q s := by
  refine wpAny_bind ((x.now C.ok).mono fun v s₁ y => wpAny_bind ((C.kp y.1 ha).put ha hn hl hc y.2 hs fun s' C' k => wpAny_pure (h s' C' ?_)))
  exact ⟨y.1.keep.trans k.keep (fun z n => ⟨fun m => n (by rw [List.mem_singleton.mp m]; simp), n⟩), k.gens.trans y.1.gens, k.os.trans y.1.os⟩
end
end Mine
end
section
set_option genInjectivity false
set_option genSizeOf false
open PySem PySem.W PyProof.Rows PySem.Spec
namespace Mine
variable [Inhabited Bnd]

theorem flatMap_succ {α : Type} (f : Nat → List α) (i : Nat) : (List.range (i + 1)).flatMap f = (List.range i).flatMap f ++ f i := by
  rw [List.range_succ, List.flatMap_append, List.flatMap_singleton]

theorem flatMap_le {α : Type} (f : Nat → List α) {i n : Nat} (h : i ≤ n) : ((List.range i).flatMap f).length ≤ ((List.range n).flatMap f).length := by
  induction h with
  | refl => exact Nat.le_refl _
  | step _ ih => rw [flatMap_succ, List.length_append]; exact Nat.le_trans ih (Nat.le_add_right _ _)

section
variable {c : Cx} {acc I : Addr} {s₂ : Shared} {ρ : List (Str × D)} {own wr fp : List Addr} {n dep : Nat} {P : Nat → Heap → Value → Prop} {St : Nat → Heap → Prop} {target elt : Expr} {gens : List Comprehension} {scope : Scope} {pos p : Pos} {body : Sem Unit}
  {bnd : Nat → List (Str × D)} {out : Nat → List D}

/-- what the assignment of an item makes of the frame -/
def Asg (c : Cx) (acc : Addr) (target : Expr) (own : List Addr) (s₂ : Shared) (ρ : List (Str × D)) (P : Nat → Heap → Value → Prop) (bnd : Nat → List (Str × D)) (n : Nat) : Prop :=
  ∀ i v s res, i < n → CS c acc s₂ s ρ res → P i s.heap v → Wp c (assign target c.env v) (fun _ s' => CS c acc s₂ s' (bnd i ++ ρ) res ∧ Chg own s s') s

theorem comp_loop (W : Itr c.prog c.w c.A target I wr fp n P St)
    (eqn : compTurn (.ListComp elt gens scope pos) dep (.ref I) (.ref acc) c.env = (standAt p >>= fun _ => pyNext (.ref I) >>= fun r => match r with
      | none => pure (.done .next)
      | some v => letOwnedTupleGo target (.ref I) v >>= fun _ => assign target c.env v >>= fun _ => body >>= fun _ => again (.compLoop (.ListComp elt gens scope pos) dep (.ref I) (.ref acc) c.env)))
    (off : ∀ b ∈ fp, b ∉ c.U) (ha : acc ∈ c.U) (nw : ∀ b ∈ wr, s₂.heap.get? b = none) (fo : ∀ b ∈ fp, b ∉ own ∧ b ≠ tb) (asg : Asg c acc target own s₂ ρ P bnd n)
    (hb : ∀ i x, (ρ.lookup x).isSome = true → (bnd i).lookup x = none)
    (turn : ∀ i s res, i < n → res.length + (out i).length ≤ sizeLine → CS c acc s₂ s (bnd i ++ ρ) res → Wp c body (fun _ s' => CS c acc s₂ s' (bnd i ++ ρ) (res ++ out i) ∧ Chg (tb :: acc :: own) s s') s)
    {s : Shared} {res : List D} (C : CS c acc s₂ s ρ res) (st : St 0 s.heap) (hN : res.length + ((List.range n).flatMap out).length ≤ sizeLine) :
    codeAny (model c.prog c.w) c.A (.compLoop (.ListComp elt gens scope pos) dep (.ref I) (.ref acc) c.env)
      (fun r s' => (∃ f, r = .ok f) ∧ CS c acc s₂ s' ρ (res ++ (List.range n).flatMap out) ∧ Chg (tb :: acc :: (own ++ wr)) s s') s := by
  refine codeAny_loop rfl (fun k s' => ∃ i, i ≤ n ∧ k = n - i ∧ CS c acc s₂ s' ρ (res ++ (List.range i).flatMap out) ∧ St i s'.heap ∧ Chg (tb :: acc :: (own ++ wr)) s s') (fun k s₁ J => ?_) n
    ⟨0, Nat.zero_le _, rfl, by simpa using C, st, .all fun _ _ _ e => e, rfl, rfl⟩
  obtain ⟨i, hi, rfl, C₁, st₁, k₁⟩ := J
  show wpAny _ c.A ((compTurn (.ListComp elt gens scope pos) dep (.ref I) (.ref acc) c.env).onRaise (fun x => do noteFrame x c.env; theTreesLotGoes x)) _ _ s₁
  refine wpAny_noted (Wp.up ?_)
  rw [eqn]
  refine wpAny_bind (wpAny_standAt (wpAny_bind ?_))
  have sub1 : ∀ z, z ∈ tb :: acc :: (own ++ wr) ∨ z ∈ wr → z ∈ tb :: acc :: (own ++ wr) := fun z m => m.elim id fun m => by simp [m]
  by_cases hlt : i < n
  · refine Wp.mono (W.item i s₁ hlt st₁) fun r s₂' h => ?_
    obtain ⟨v, rfl, h⟩ := h
    refine wpAny_bind (Wp.mono h fun _ s₃ ⟨hP, st₃, k₃⟩ => wpAny_bind ((asg i v s₃ _ hlt (C₁.step W st₁ off ha nw k₃) hP).mono fun _ s₄ ⟨C₄, k₄⟩ => wpAny_bind ((turn i s₄ _ hlt (by rw [List.length_append, Nat.add_assoc, ← List.length_append, ← flatMap_succ]; exact Nat.le_trans (Nat.add_le_add_left (flatMap_le out hlt) _) hN) C₄).mono fun _ s₅ h₅ => ?_)))
    refine wpAny_pure ⟨rfl, n - (i + 1), by omega, i + 1, hlt, rfl, ?_, ?_, ?_⟩
    · rw [flatMap_succ, ← List.append_assoc]; exact h₅.1.drop (hb i)
    · refine W.frame _ _ _ st₃ fun b m o e => h₅.2.keep.ex b o (fun q => ?_) (k₄.keep.ex b o (fo b m).1 e (W.nd st₃ m e)) (W.nd st₃ m e)
      rcases List.mem_cons.mp q with q | q
      · exact (fo b m).2 q
      · rcases List.mem_cons.mp q with q | q
        · exact off b m (q ▸ ha)
        · exact (fo b m).1 q
    · exact (k₁.trans k₃ sub1).trans (k₄.trans h₅.2 (M := tb :: acc :: own) fun z m => m.elim (fun m => by simp [m]) id) fun z m => m.elim id fun m => by
        rcases List.mem_cons.mp m with m | m
        · simp [m]
        · rcases List.mem_cons.mp m with m | m <;> simp [m]
  · obtain rfl : i = n := by omega
    refine Wp.mono (W.done s₁ st₁) fun r s' h => ?_
    obtain ⟨rfl, k⟩ := h
    exact wpAny_pure ⟨⟨_, rfl⟩, C₁.step W st₁ off ha nw k, k₁.trans k sub1⟩
end
end Mine
end
section
set_option genInjectivity false
set_option genSizeOf false
open PySem PySem.W PyProof.Rows PySem.Spec
namespace Mine
variable [Inhabited Bnd]

def cEnv (scope : Scope) (cl : List (Str × Addr)) (C : Addr) (env : Env) : Env :=
  { scope := relabel scope env, locals := C, globals := env.globals, cells := cellsFrom (C + 1) scope.names cl, qual := env.qual, func := none, code := env.code, frame := env.frame, builtins := env.builtins }
def cIn (c : Cx) (scope : Scope) (cl : List (Str × Addr)) (C acc : Addr) : Cx := ⟨c.prog, c.w, c.A, cEnv scope cl C c.env, acc :: c.U, c.tr⟩

theorem cells_spec : ∀ (names : List (Str × NameKind)) (h : Heap) (acc : List (Str × Addr)), (∀ p ∈ acc, ∃ v, h.IsCell p.2 v) → (acc.Pairwise fun x y => x.2 ≠ y.2) →
    (∀ p ∈ cellsFrom h.objs.size names acc, (∃ v, (pushCells h names).IsCell p.2 v) ∧ (p ∈ acc ∨ h.objs.size ≤ p.2)) ∧ (cellsFrom h.objs.size names acc).Pairwise fun x y => x.2 ≠ y.2
  | [], h, acc, c, a => ⟨fun p m => ⟨c p m, .inl m⟩, a⟩
  | (n, k) :: r, h, acc, c, a => by
    unfold pushCells cellsFrom
    split
    · have old : ∀ b o, h.get? b = some o → (h.push { cls := .type "cell", data := .cell none }).get? b = some o := fun _ _ e => Heap.get?_push_of_some _ e
      have := cells_spec r (h.push { cls := .type "cell", data := .cell none }) ((n, h.objs.size) :: acc) (fun p m => by
        rcases List.mem_cons.mp m with rfl | m
        · exact ⟨_, _, Heap.get?_push_size _ rfl, rfl⟩
        · obtain ⟨v, i⟩ := c p m; exact ⟨v, i.keeps old⟩) (List.pairwise_cons.mpr ⟨fun y m q => by
          obtain ⟨v, o, e, _⟩ := c y m
          exact Nat.lt_irrefl _ ((show h.objs.size = y.2 from q) ▸ Heap.lt_size e), a⟩)
      rw [Heap.size_push] at this
      refine ⟨fun p m => ⟨(this.1 p m).1, ?_⟩, this.2⟩
      rcases (this.1 p m).2 with m | m
      · rcases List.mem_cons.mp m with rfl | m
        · exact .inr (Nat.le_refl _)
        · exact .inl m
      · exact .inr (Nat.le_of_succ_le m)
    · exact cells_spec r h acc c a

/-- the names that a comprehension takes from around it -/
def Caps (c : Cx) (scope : Scope) (cl : List (Str × Addr)) (ρ : List (Str × D)) : List (Str × D) → Prop
  | [] => True
  | (x, d) :: r => (ρ.lookup x = some d ∧ c.env.kindOf x = some .cell ∧ (relabel scope c.env).names.lookup x = some .cell ∧ ∀ n, (cellsFrom n scope.names cl).lookup x = c.env.cells.lookup x) ∧ Caps c scope cl ρ r
theorem Caps.get {c : Cx} {scope : Scope} {cl : List (Str × Addr)} {ρ : List (Str × D)} {x : Str} {d : D} : ∀ {l : List (Str × D)}, Caps c scope cl ρ l → l.lookup x = some d →
    ρ.lookup x = some d ∧ c.env.kindOf x = some .cell ∧ (relabel scope c.env).names.lookup x = some .cell ∧ ∀ n, (cellsFrom n scope.names cl).lookup x = c.env.cells.lookup x
  | (y, d') :: r, k, e => by
    by_cases w : x = y
    · subst w
      rw [List.lookup_cons_self] at e; cases e; exact k.1
    · rw [lookup_cons_ne w] at e; exact k.2.get e
def Clos (c : Cx) (cl : List (Str × Addr)) : Prop := (∀ p ∈ cl, c.env.cells.lookup p.1 = some p.2) ∧ (cl.map (·.1)).Nodup

theorem closed_apart {cs cl : List (Str × Addr)} (a : cs.Pairwise fun x y => x.2 ≠ y.2) (m : ∀ p ∈ cl, p ∈ cs) (nd : (cl.map (·.1)).Nodup) : cl.Pairwise fun x y => x.2 ≠ y.2 := by
  induction cl with
  | nil => exact .nil
  | cons p r ih =>
    rw [List.map_cons, List.nodup_cons] at nd
    refine List.pairwise_cons.mpr ⟨fun y hy q => nd.1 ?_, ih (fun q hq => m q (.tail _ hq)) nd.2⟩
    have : p.1 = y.1 := name_of_addr a (m p (.head _)) (show (y.1, p.2) ∈ cs from q ▸ m y (.tail _ hy))
    exact this ▸ List.mem_map_of_mem hy

section
variable {c : Cx} {s₁ s₂ s : Shared} {ρ ρ' : List (Str × D)} {scope : Scope} {cl : List (Str × Addr)}

/-- the frame of a comprehension laid -/
theorem new_cenv (F : FS c.U c.env s₂.heap ρ) (t : Ok c.U s₂.heap) (k : Kp c.U s₂ s) (hk : scope.kind = .function) (hcl : Clos c cl) (caps : Caps c scope cl ρ ρ') :
    Wp c (newList []) (fun av s₃ => ∃ acc, av = .ref acc ∧ s₂.heap.get? acc = none ∧ s.heap.get? acc = none ∧ Wp c (newFunctionEnv scope c.env.globals cl [] c.env.qual none .none (some c.env)) (fun cenv s₄ => ∃ C, cenv.locals = C ∧ { cenv with scope := relabel scope c.env } = cEnv scope cl C c.env ∧
      s₂.heap.get? C = none ∧ acc ≠ C ∧ (∀ p ∈ cellsFrom (C + 1) scope.names cl, (∃ v, s₄.heap.IsCell p.2 v) ∧ p.2 ≠ acc ∧ (p ∈ cl ∨ s₂.heap.get? p.2 = none)) ∧ CS (cIn c scope cl C acc) acc s₂ s₄ ρ' [] ∧ Kp c.U s s₄) s₃) s := by
  have hlow : ∀ b, s.heap.objs.size ≤ b → s₂.heap.get? b = none := fun b hb => by
    cases q : s₂.heap.get? b with
    | none => rfl
    | some o =>
      by_cases w : b = tb
      · obtain ⟨ps, e, _⟩ := k.ok.tab
        exact absurd (Heap.lt_size e) (by rw [← w]; exact Nat.not_lt.mpr hb)
      · exact absurd (let ⟨_, e⟩ := k.keep.there (ntb w) q; Heap.lt_size e) (Nat.not_lt.mpr hb)
  refine wpAny_newObj_type ⟨_, rfl, hlow _ (Nat.le_refl _), Heap.get?_none_of_le (Nat.le_refl _), ?_⟩
  generalize hH : s.heap.push { cls := .type "list", dict := none, data := .seq ([] : List Value).toArray } = H
  have hsz : H.objs.size = s.heap.objs.size + 1 := by rw [← hH, Heap.size_push]
  have kH : ∀ b o, s.heap.get? b = some o → H.get? b = some o := fun b o e => hH ▸ Heap.get?_push_of_some _ e
  have eA : H.get? s.heap.objs.size = some { cls := .type "list", dict := none, data := .seq ([] : List Value).toArray } := hH ▸ Heap.get?_push_size _ rfl
  simp only [newFunctionEnv, Option.isSome_some, if_true]
  refine wpAny_bind (wpAny_alloc ?_)
  refine wpAny_bind (wpAny_layCells _ (fun name kind cells => by cases kind == NameKind.cell <;> simp) _ _ _ _ ?_)
  refine wpAny_bind (wpAny_pure (wpAny_pure ?_))
  generalize hG : H.push { cls := .type "dict", data := .dict #[] } = G
  have hsG : G.objs.size = H.objs.size + 1 := by rw [← hG, Heap.size_push]
  have kG : ∀ b o, H.get? b = some o → (pushCells G scope.names).get? b = some o := fun b o e => pushCells_keeps _ _ b o (hG ▸ Heap.get?_push_of_some _ e)
  have kU : Up [tb] s₂.heap (pushCells G scope.names) := k.keep.trans (Y := []) (.all fun b o _ e => kG _ _ (kH _ _ e)) fun _ n => ⟨n, by simp⟩
  have k₂ : ∀ b o, b ≠ tb → s₂.heap.get? b = some o → (∀ es n, o.data ≠ .dict es n) → (pushCells G scope.names).get? b = some o := fun b o n e nd => kU.ex b o (ntb n) e nd
  have cellG : ∀ p ∈ cl, ∃ v, G.IsCell p.2 v := fun p m => by
    obtain ⟨v, o, e, d⟩ := F.cs p.1 p.2 (hcl.1 p m)
    exact ⟨v, o, hG ▸ Heap.get?_push_of_some _ (kH _ _ (k.keep.x _ _ (t.tab.ne e (by rw [d]; nofun)) e (by rw [d]; nofun))), d⟩
  obtain ⟨sp, ap⟩ := cells_spec scope.names G cl cellG (closed_apart F.ap (fun p m => mem_of_lookup (hcl.1 p m)) hcl.2)
  rw [hsG] at sp ap
  have nA : s.heap.objs.size ≠ H.objs.size := by rw [hsz]; exact Nat.ne_of_lt (Nat.lt_succ_self _)
  have hC : s₂.heap.get? H.objs.size = none := hlow _ (by rw [hsz]; exact Nat.le_succ _)
  have cne : ∀ p ∈ cellsFrom (H.objs.size + 1) scope.names cl, p.2 ≠ s.heap.objs.size ∧ (p ∈ cl ∨ s₂.heap.get? p.2 = none) := fun p m => by
    rcases (sp p m).2 with q | q
    · obtain ⟨v, o, e, d⟩ := F.cs p.1 p.2 (hcl.1 p q)
      exact ⟨fun w => (by rw [w, hlow _ (Nat.le_refl _)] at e; cases e), .inl q⟩
    · rw [hsz] at q
      exact ⟨Nat.ne_of_gt (Nat.lt_of_lt_of_le (Nat.lt_succ_self _) (Nat.le_of_succ_le q)), .inr (hlow _ (Nat.le_of_succ_le (Nat.le_of_succ_le q)))⟩
  have sq : KpS (hp c.U s₂) (hideAll (pushCells G scope.names) (s.heap.objs.size :: c.U)) := fun b o e _ ⟨_, _, d⟩ => by
    have e' := of_hideAll _ e
    refine hideAll_get _ (k₂ b o (t.tab.ne e' (by rw [d]; nofun)) e' (by rw [d]; nofun)) fun m => ?_
    rcases List.mem_cons.mp m with m | m
    · rw [m, hlow _ (Nat.le_refl _)] at e'; cases e'
    · rw [hideAll_none _ m] at e; cases e
  refine ⟨H.objs.size, rfl, by rw [F.gl]; simp [cEnv, hsG, F.gl], hC, nA, fun p m => ⟨(sp p m).1, cne p m⟩, ⟨⟨hk, F.gl, F.bi, ?_, fun x d e _ => ?_, fun x a e => ?_, ap⟩, ⟨?_, ?_⟩, ⟨?_, k.gens, k.os⟩, ?_⟩, .of k.ok fun b o e => kG _ _ (kH _ _ e)⟩
  · refine ⟨fun _ => none, (hG ▸ Heap.Ns.new H (.type "dict")).keeps (pushCells_keeps _ _), fun x d e l => ?_⟩
    have q : (relabel scope c.env).names.lookup x = some .local := l
    rw [(caps.get e).2.2.1] at q; cases q
  · obtain ⟨e1, e2, _, e4⟩ := caps.get e
    obtain ⟨a, v, e5, ⟨o, e6, e7⟩, r⟩ := F.cl x d e1 e2
    exact ⟨a, v, (e4 _).trans e5, ⟨o, k₂ _ _ (t.tab.ne e6 (by rw [e7]; nofun)) e6 (by rw [e7]; nofun), e7⟩, d.mono sq r⟩
  · exact (sp (x, a) (mem_of_lookup e)).1
  · obtain ⟨ps, e, q⟩ := k.ok.tab; exact ⟨ps, kG _ _ (kH _ _ e), q⟩
  · intro a m
    rcases List.mem_cons.mp m with rfl | m
    · exact ⟨fun w => by obtain ⟨ps, e, _⟩ := k.ok.tab; exact absurd (Heap.lt_size e) (by rw [← w]; exact Nat.lt_irrefl _), _, kG _ _ eA⟩
    · obtain ⟨n, o, e⟩ := k.ok.at_ a m; exact ⟨n, o, kG _ _ (kH _ _ e)⟩
  · exact kU
  · exact ⟨#[], ⟨_, kG _ _ eA⟩, .nil⟩
end
end Mine
end
section
set_option genInjectivity false
set_option genSizeOf false
open PySem PySem.W PyProof.Rows PySem.Spec
namespace Mine
variable [Inhabited Bnd]

/-- an iterator stands, laid between s₂ and s₃ -/
def ItOk (c : Cx) (target : Expr) (n : Nat) (P : Nat → Heap → Value → Prop) (s₂ : Shared) (it : Value) (s₃ : Shared) : Prop :=
  Kp c.U s₂ s₃ ∧ ∃ I wr fp St, it = .ref I ∧ Itr c.prog c.w c.A target I wr fp n P St ∧ St 0 s₃.heap ∧ (∀ b ∈ fp, b ∉ c.U) ∧ ∀ b ∈ wr, s₂.heap.get? b = none
/-- e gives what is iterated: n items, told over the heap where e has come back -/
def EvIt (c : Cx) (s : Shared) (e target : Expr) (n : Nat) (P : Heap → Nat → Heap → Value → Prop) : Prop :=
  ∀ s₁, Kp c.U s s₁ → Wp c (eval e c.env) (fun x sx => ∃ s₂, Kp c.U s₁ s₂ ∧ Kp c.U s₂ sx ∧ Wp c (pyIter x) (ItOk c target n (P (hp c.U s₂)) s₂) sx) s₁

section
variable {c : Cx} {s₀ : Shared} {ρ ρ' : List (Str × D)} {scope : Scope} {cl : List (Str × Addr)} {target iter elt : Expr} {ifs : List Expr} {rest : List Comprehension} {pos pos' p : Pos} {n : Nat} {P : Heap → Nat → Heap → Value → Prop}
  {body : Env → Addr → Sem Unit} {bnd : Nat → List (Str × D)} {out : Nat → List D}

/-- where an element is reckoned -/
structure In (c : Cx) (s₀ : Shared) (scope : Scope) (cl : List (Str × Addr)) (C acc : Addr) (own : List Addr) (s₂ : Shared) : Prop where
  from_ : Kp c.U s₀ s₂
  hacc : s₂.heap.get? acc = none
  hown : ∀ b ∈ own, s₂.heap.get? b = none
  hC : C ∈ own
  hcell : ∀ x a, (cIn c scope cl C acc).env.cells.lookup x = some a → a ≠ acc ∧ (a ∈ own ∨ (x, a) ∈ cl)
  nacc : acc ∉ own
  kown : ∀ b ∈ own, b = C ∨ ∃ x, (cIn c scope cl C acc).env.cells.lookup x = some b
  kpS : ∀ s, Chg [tb] s₂ s → KpS (hp c.U s₂) (hp (acc :: c.U) s)

theorem comp_core (F : FS c.U c.env s₀.heap ρ) (hclos : closureFor scope c.env = pure cl) (hcl : Clos c cl) (hk : scope.kind = .function)
    (hnames : ∀ x ∈ scope.names, x.2 = .local → scope.names.lookup x.1 = some .local) (hs : ∀ x, foldedSetIterable iter c.env x = pure x) (caps : Caps c scope cl ρ ρ') (it : EvIt c s₀ iter target n P)
    (eqn : ∀ I acc env, compTurn (.ListComp elt (⟨target, iter, ifs, 0⟩ :: rest) scope pos) 0 (.ref I) (.ref acc) env = (standAt p >>= fun _ => pyNext (.ref I) >>= fun r => match r with
      | none => pure (.done .next)
      | some v => letOwnedTupleGo target (.ref I) v >>= fun _ => assign target env v >>= fun _ => body env acc >>= fun _ => again (.compLoop (.ListComp elt (⟨target, iter, ifs, 0⟩ :: rest) scope pos) 0 (.ref I) (.ref acc) env)))
    (hb : ∀ i x, (ρ'.lookup x).isSome = true → (bnd i).lookup x = none) (hN : ((List.range n).flatMap out).length ≤ sizeLine)
    (asg : ∀ C acc own s₂, In c s₀ scope cl C acc own s₂ → Asg (cIn c scope cl C acc) acc target own s₂ ρ' (P (hp c.U s₂)) bnd n)
    (turn : ∀ C acc own s₂ i s res, In c s₀ scope cl C acc own s₂ → i < n → res.length + (out i).length ≤ sizeLine → CS (cIn c scope cl C acc) acc s₂ s (bnd i ++ ρ') res →
      Wp (cIn c scope cl C acc) (body (cIn c scope cl C acc).env acc) (fun _ s' => CS (cIn c scope cl C acc) acc s₂ s' (bnd i ++ ρ') (res ++ out i) ∧ Chg (tb :: acc :: own) s s') s)
    {s₁ : Shared} (k₁ : Kp c.U s₀ s₁) {use : Option (Value → Sem Unit)} {Q : Value → Shared → Prop}
    (done : ∀ C acc s' m, Kp c.U s₁ s' → (ls ((List.range n).flatMap out)).P (hp c.U s') (.ref acc) → s'.heap.Ns C m → C ∉ c.U → (∀ o, s₁.heap.get? C ≠ some o) → C ≠ acc → (∀ x a, c.env.cells.lookup x = some a → a ≠ C) → c.env.locals ≠ C →
      compPost (model c.prog c.w) c.A (fun _ _ => False) use Q (.ref acc) C (.ok .next) s') :
    Wp c (comprehension (.ListComp elt (⟨target, iter, ifs, 0⟩ :: rest) scope pos) scope c.env pos' (newList []) false (eval iter c.env) use) Q s₁ := by
  refine wpAny_comprehension_free rfl hs hclos hk hnames ((it s₁ k₁).mono fun xv sx h => ?_)
  obtain ⟨s₂, k₂, _, h⟩ := h
  refine Wp.mono h fun iv s₃ h => ?_
  obtain ⟨k₃, I, wr, fp, St, rfl, W, st, hfp, hwr⟩ := h
  have F₂ := F.at (k₁.trans k₂)
  refine Wp.mono (new_cenv F₂ k₂.ok k₃ hk hcl caps) fun av s₄ h => ?_
  obtain ⟨acc, rfl, hacc, hacc₃, h⟩ := h
  refine Wp.mono h fun cenv s₅ h => ?_
  obtain ⟨C, hCe, henv, hC, nAC, cells, S, k₅⟩ := h
  rw [henv, hCe]
  let own := C :: ((cellsFrom (C + 1) scope.names cl).filter fun p => (s₂.heap.get? p.2).isNone && ((cellsFrom (C + 1) scope.names cl).lookup p.1 == some p.2)).map (·.2)
  have hown : ∀ b ∈ own, s₂.heap.get? b = none := fun b m => by
    rcases List.mem_cons.mp m with rfl | m
    · exact hC
    · obtain ⟨p, m', rfl⟩ := List.mem_map.mp m
      exact Option.isNone_iff_eq_none.mp (Bool.and_eq_true_iff.mp (List.mem_filter.mp m').2).1
  have live : ∀ {a o}, s₂.heap.get? a = some o → a ≠ C ∧ a ≠ acc := fun e => ⟨fun w => (by rw [w, hC] at e; cases e), fun w => (by rw [w, hacc] at e; cases e)⟩
  have hin : In c s₀ scope cl C acc own s₂ := by
    refine ⟨k₁.trans k₂, hacc, hown, .head _, fun x a e => ?_, fun m => ?_, fun b m => ?_, fun s k b o e _ hq => ?_⟩
    · have m := mem_of_lookup e
      refine ⟨(cells _ m).2.1, (cells _ m).2.2.elim .inr fun q => .inl (.tail _ (List.mem_map.mpr ⟨_, List.mem_filter.mpr ⟨m, by rw [show (cellsFrom (C + 1) scope.names cl).lookup x = some a from e, q]; simp⟩, rfl⟩))⟩
    · rcases List.mem_cons.mp m with w | m
      · exact nAC w
      · obtain ⟨p, m', w⟩ := List.mem_map.mp m
        exact (cells _ (List.mem_filter.mp m').1).2.1 w
    · rcases List.mem_cons.mp m with w | m
      · exact .inl w
      · obtain ⟨p, m', rfl⟩ := List.mem_map.mp m
        exact .inr ⟨p.1, eq_of_beq (Bool.and_eq_true_iff.mp (List.mem_filter.mp m').2).2⟩
    · have e' := of_hideAll _ e
      obtain ⟨vs, n, d⟩ := hq
      refine hideAll_get _ (k.keep.ex b o (fun m => ?_) e' (by rw [d]; nofun)) fun m => ?_
      · exact k₂.ok.tab.ne e' (by rw [d]; nofun) (List.mem_singleton.mp m)
      · rcases List.mem_cons.mp m with m | m
        · exact (live e').2 m
        · rw [hideAll_none _ m] at e; cases e
  have kd := W.kinds 0 _ st
  have ftb : ∀ b ∈ fp, b ≠ tb := fun b m w => by
    obtain ⟨o, e, q, _⟩ := kd b m
    obtain ⟨ps, e', _⟩ := k₃.ok.tab
    rw [w, e'] at e; cases e; exact q rfl
  have fown : ∀ b ∈ fp, b ∉ own := fun b m w => by
    obtain ⟨o, e, _, q1, q2, _⟩ := kd b m
    have e₅ := k₅.keep.x b o (ftb b m) e (W.nd st m e)
    rcases List.mem_cons.mp w with w | w
    · obtain ⟨m', ⟨o', es, ep, e', d, _⟩, _⟩ := S.fs.ns
      rw [w, show C = (cIn c scope cl C acc).env.locals from rfl, e'] at e₅; cases e₅; exact q1 _ _ d
    · obtain ⟨p, m', rfl⟩ := List.mem_map.mp w
      have mc := (List.mem_filter.mp m').1
      obtain ⟨v, o', e', d⟩ := (cells p mc).1
      rw [e'] at e₅; cases e₅; exact q2 _ d
  have loop := comp_loop (c := cIn c scope cl C acc) (dep := 0) W (eqn I acc _) (fun b m w => (List.mem_cons.mp w).elim (fun w => by obtain ⟨o, e, _⟩ := kd b m; rw [w, hacc₃] at e; cases e) (hfp b m)) (.head _) hwr (fun b m => ⟨fown b m, ftb b m⟩)
    (asg C acc own s₂ hin) hb (fun i s res hi hl S => turn C acc own s₂ i s res hin hi hl S) S (W.frame _ _ _ st fun b m o e => k₅.keep.x b o (ftb b m) e (W.nd st m e)) (by simpa using hN)
  have fin : ∀ r s', ((∃ f, r = (.ok f : Result)) ∧ CS (cIn c scope cl C acc) acc s₂ s' ρ' ([] ++ (List.range n).flatMap out) ∧ Chg (tb :: acc :: (own ++ wr)) s₅ s') → compPost (model c.prog c.w) c.A (fun _ _ => False) use Q (.ref acc) C r s' := by
    rintro r s' ⟨⟨f, rfl⟩, S', _⟩
    obtain ⟨m, nsC, _⟩ := S'.fs.ns
    obtain ⟨vs, ⟨o, e⟩, al⟩ := S'.acc
    have aU : acc ∉ c.U := fun m => let ⟨_, _, e⟩ := k₂.ok.at_ _ m; (live e).2 rfl
    have kk : Kp c.U s₁ s' := ⟨k₂.keep.trans S'.base.keep fun _ n => ⟨n, n⟩, k₂.ok0, ⟨S'.ok.tab, fun a m => S'.ok.at_ a (.tail _ m)⟩, S'.base.gens.trans k₂.gens, S'.base.os.trans k₂.os⟩
    have := done C acc s' m kk ⟨acc, vs, rfl, ⟨o, hideAll_get _ e aU⟩, All.mono (h := hp (acc :: c.U) s') (fun b o e _ _ => hideAll_get _ (of_hideAll _ e) fun m => by rw [hideAll_none _ (List.mem_cons_of_mem _ m)] at e; cases e) al⟩ nsC
      (fun m => let ⟨_, _, e⟩ := k₂.ok.at_ _ m; (live e).1 rfl) (fun o e => by
        by_cases w : C = tb
        · obtain ⟨ps, e', _⟩ := k₂.ok.tab; exact (live e').1 w.symm
        · obtain ⟨_, e⟩ := k₂.keep.there (ntb w) e; exact (live e).1 rfl) (Ne.symm nAC) (fun x a e => by obtain ⟨v, o, e, _⟩ := F₂.cs x a e; exact (live e).1) (by obtain ⟨m, ⟨o, es, ep, e, _⟩, _⟩ := F₂.ns; exact (live e).1)
    cases use <;> exact this
  exact codeAny_compStart_list (codeAny_mono loop fin) (Wp.up (W.self 0 s₅ _ (W.frame _ _ _ st fun b m o e => k₅.keep.x b o (ftb b m) e (W.nd st m e)) (codeAny_mono loop fin)))
end
end Mine
end
section
set_option genInjectivity false
set_option genSizeOf false
open PySem PySem.W PyProof.Rows PySem.Spec
namespace Mine
variable [Inhabited Bnd]

theorem range_flat {α β : Type} (k : α → List β) (xs : List α) : (List.range xs.length).flatMap (fun i => (xs[i]?).elim [] k) = xs.flatMap k := by
  induction xs with
  | nil => rfl
  | cons x xs ih =>
    rw [List.length_cons, List.range_succ_eq_map, List.flatMap_cons, List.flatMap_cons, List.flatMap_map, ← ih]
    rfl

/-- the items of xs, one by one, each told by P -/
def Over {α : Type} (xs : List α) (P : α → Heap → Heap → Value → Prop) (hb : Heap) (i : Nat) (h : Heap) (v : Value) : Prop := ∃ x, xs[i]? = some x ∧ P x hb h v
/-- plain items -/
def Plain {α : Type} (g : α → D) (x : α) (hb _ : Heap) (v : Value) : Prop := (g x).P hb v

section
variable {c : Cx} {s₀ s₂ s : Shared} {ρ ρ' : List (Str × D)} {scope : Scope} {cl : List (Str × Addr)} {target iter elt q : Expr} {ifs : List Expr} {rest : List Comprehension} {pos pos' p : Pos}
  {body : Env → Addr → Sem Unit} {α : Type} {xs : List α} {P : α → Heap → Heap → Value → Prop} {bnd : α → List (Str × D)} {k : α → List D} {f : α → D} {C acc : Addr} {own : List Addr} {res : List D}

theorem CS.stored {a : Addr} {c : Cx} {σ : List (Str × D)} {s' : Shared} (S : CS c acc s₂ s ρ res) (f : FS c.U c.env s'.heap σ) (k : Stored c.U a s s') (hn : s₂.heap.get? a = none) (na : a ≠ acc) : CS c acc s₂ s' σ res :=
  ⟨f, k.ok, ⟨S.base.keep.over k.keep hn, k.gens.trans S.base.gens, k.os.trans S.base.os⟩,
    let ⟨vs, ⟨o, e⟩, al⟩ := S.acc; ⟨vs, ⟨o, k.keep _ _ na.symm e⟩, al.mono k.seq⟩⟩
theorem Stored.chg {U : List Addr} {a : Addr} {s s' : Shared} (k : Stored U a s s') (m : a ∈ own) : Chg own s s' := ⟨.all fun b o n e => k.keep b o (fun w => n (w ▸ m)) e, k.gens, k.os⟩

/-- the target is one name -/
def AsgX (c : Cx) (s₀ : Shared) (scope : Scope) (cl : List (Str × Addr)) (ρ' : List (Str × D)) (target : Expr) {α : Type} (P : α → Heap → Heap → Value → Prop) (bnd : α → List (Str × D)) : Prop :=
  ∀ C acc own s₂ x s res v, In c s₀ scope cl C acc own s₂ → CS (cIn c scope cl C acc) acc s₂ s ρ' res → P x (hp c.U s₂) s.heap v →
    Wp (cIn c scope cl C acc) (assign target (cIn c scope cl C acc).env v) (fun _ s' => CS (cIn c scope cl C acc) acc s₂ s' (bnd x ++ ρ') res ∧ Chg own s s') s
theorem AsgX.loc {x : Str} {g : α → D} (l : (relabel scope c.env).names.lookup x = some .local := by rfl) : AsgX c s₀ scope cl ρ' (.Name x p) (Plain g) fun a => [(x, g a)] :=
  fun C _ own _ a s _ _ I S r => wpAny_assign_Name (S.fs.stL S.ok l ((g a).mono (I.kpS s S.base) r) fun _ f k =>
    have m : C ∈ own := I.hC
    ⟨S.stored f k (I.hown _ m) (fun w => I.nacc (w ▸ m)), k.chg m⟩)
theorem AsgX.cell {x : Str} {g : α → D} (l : (relabel scope c.env).names.lookup x = some .cell := by rfl) (lc : ∀ n, ((cellsFrom n scope.names cl).lookup x).isSome = true := by intro _; rfl) (nc : cl.lookup x = none := by rfl) : AsgX c s₀ scope cl ρ' (.Name x p) (Plain g) fun a => [(x, g a)] :=
  fun _ _ own _ a s _ _ I S r => wpAny_assign_Name (S.fs.stC S.ok l (lc _) ((g a).mono (I.kpS s S.base) r) fun b _ e f k =>
    have m : b ∈ own := ((I.hcell x b e).2).elim id fun w => by
      have := List.lookup_eq_none_iff.mp nc _ w
      simp at this
    ⟨S.stored f k (I.hown _ m) (fun w => I.nacc (w ▸ m)), k.chg m⟩)

/-- what stands around an element -/
structure Here (c : Cx) (s₀ : Shared) (scope : Scope) (cl : List (Str × Addr)) (ρ : List (Str × D)) (C acc : Addr) (s : Shared) : Prop where
  fs : FS (acc :: c.U) (cEnv scope cl C c.env) s.heap ρ
  ok : Ok (acc :: c.U) s.heap
  keep : KpH s₀.heap s.heap

/-- how an element is told: what it adds to the list -/
def EltOk (c : Cx) (s₀ : Shared) (scope : Scope) (cl : List (Str × Addr)) (ρ' : List (Str × D)) {α : Type} (bnd : α → List (Str × D)) (body : Env → Addr → Sem Unit) (x : α) (k : List D) : Prop :=
  ∀ C acc own s₂ s res, In c s₀ scope cl C acc own s₂ → res.length + k.length ≤ sizeLine → Here c s₀ scope cl (bnd x ++ ρ') C acc s → CS (cIn c scope cl C acc) acc s₂ s (bnd x ++ ρ') res →
      Wp (cIn c scope cl C acc) (body (cIn c scope cl C acc).env acc) (fun _ s' => CS (cIn c scope cl C acc) acc s₂ s' (bnd x ++ ρ') (res ++ k) ∧ Chg (tb :: acc :: own) s s') s

abbrev emit (elt : Expr) (env : Env) (acc : Addr) : Sem Unit := eval elt env >>= fun x => call (.builtin "list.append") [.ref acc, x] >>= fun _ => pure ()
abbrev emitIf (q elt : Expr) (env : Env) (acc : Addr) : Sem Unit := isTrue q env (eval q env) >>= fun ok => if ok = true then emit elt env acc else pure ()

theorem EltOk.emit {x : α} {d : D} (h : ∀ C acc s, Here c s₀ scope cl (bnd x ++ ρ') C acc s → Ev (cIn c scope cl C acc) s elt d) : EltOk c s₀ scope cl ρ' bnd (emit elt) x [d] :=
  fun C acc own s₂ s _ I hl H S => S.add (.head _) I.hacc (fun w => I.nacc (w ▸ I.hC)) (fun y a e => (I.hcell y a e).1) (h C acc s H) (Nat.le_of_succ_le hl)
    fun s' S' k => ⟨S', ⟨k.keep.mem fun z n => fun m => n (by rcases List.mem_cons.mp m with m | m <;> simp_all), k.gens, k.os⟩⟩
theorem EltOk.emitIf {x : α} {b : Bool} {d : D} (t : ∀ C acc s, Here c s₀ scope cl (bnd x ++ ρ') C acc s → EvT (cIn c scope cl C acc) s q b) (h : b = true → ∀ C acc s, Here c s₀ scope cl (bnd x ++ ρ') C acc s → Ev (cIn c scope cl C acc) s elt d) :
    EltOk c s₀ scope cl ρ' bnd (emitIf q elt) x (if b then [d] else []) := fun C acc own s₂ s res I hl H S =>
  wpAny_bind ((t C acc s H s (.refl S.ok)).mono fun b' s₁ y => by
    obtain ⟨y, rfl⟩ := y
    have S₁ := S.kp y (.head _)
    have H₁ : Here c s₀ scope cl (bnd x ++ ρ') C acc s₁ := ⟨S₁.fs, S₁.ok, H.keep.trans y.keep fun _ n => ⟨n, n⟩⟩
    have k₁ : Chg (tb :: acc :: own) s s₁ := ⟨y.keep.mem fun z n m => n (by rw [List.mem_singleton.mp m]; exact .head _), y.gens, y.os⟩
    cases b' with
    | false => exact wpAny_pure ⟨by simpa using S₁, k₁⟩
    | true => exact Wp.mono (EltOk.emit (h rfl) C acc own s₂ s₁ res I hl H₁ S₁) fun _ s' z => ⟨z.1, k₁.trans z.2 fun _ m => m.elim id id⟩)

/-- the shape of a turn: what is done with an item -/
def Eqn (elt target iter : Expr) (ifs : List Expr) (rest : List Comprehension) (scope : Scope) (pos p : Pos) (body : Env → Addr → Sem Unit) : Prop :=
  ∀ I acc env, compTurn (.ListComp elt (⟨target, iter, ifs, 0⟩ :: rest) scope pos) 0 (.ref I) (.ref acc) env = (standAt p >>= fun _ => pyNext (.ref I) >>= fun r => match r with
      | none => pure (.done .next)
      | some v => letOwnedTupleGo target (.ref I) v >>= fun _ => assign target env v >>= fun _ => body env acc >>= fun _ => again (.compLoop (.ListComp elt (⟨target, iter, ifs, 0⟩ :: rest) scope pos) 0 (.ref I) (.ref acc) env))
theorem Eqn.one {elt target iter : Expr} {scope : Scope} {pos : Pos} : Eqn elt target iter [] [] scope pos iter.pos (Mine.emit elt) := fun _ _ _ => by rfl
theorem Eqn.test {elt target iter q : Expr} {scope : Scope} {pos : Pos} : Eqn elt target iter [q] [] scope pos iter.pos (Mine.emitIf q elt) := fun I acc env => by
  rw [compTurn_list]
  refine bind_congr fun _ => bind_congr fun r => ?_
  cases r with
  | none => rfl
  | some v =>
    refine bind_congr fun _ => bind_congr fun _ => ?_
    simp only [List.forIn_cons, List.forIn_nil, if_true, bind_assoc, pure_bind, Mine.emitIf, Mine.emit]
    refine bind_congr fun ok => ?_
    cases ok
    · rfl
    · simp only [if_true, bind_assoc, pure_bind]
end
end Mine
end
section
set_option genInjectivity false
set_option genSizeOf false
open PySem PySem.W PyProof.Rows PySem.Spec
namespace Mine
variable [Inhabited Bnd]

/-- a comprehension gives a list that is told by d -/
def CompEv (c : Cx) (s₀ : Shared) (elt : Expr) (gens : List Comprehension) (scope : Scope) (pos : Pos) (d : D) : Prop :=
  ∀ s₁, Kp c.U s₀ s₁ → ∀ (use : Option (Value → Sem Unit)) (Q : Value → Shared → Prop), (∀ C v s' m, Kp c.U s₁ s' → d.P (hp c.U s') v → s'.heap.Ns C m → C ∉ c.U → (∀ o, s₁.heap.get? C ≠ some o) → (∀ x a, c.env.cells.lookup x = some a → a ≠ C) → c.env.locals ≠ C →
      compPost (model c.prog c.w) c.A (fun _ _ => False) use Q v C (.ok .next) s') →
    Wp c (comprehension (.ListComp elt gens scope pos) scope c.env (firstIterPos gens pos) (newList []) (firstAsync gens) (firstIter gens c.env) use) Q s₁

theorem letGo {U : List Addr} {s s' : Shared} {h' : Heap} {C : Addr} {m : Str → Option Value} (k : Kp U s s') (ns : s'.heap.Ns C m) (b' : Heap.SameBut C s'.heap h') (hU : C ∉ U) (hn : ∀ o, s.heap.get? C ≠ some o) :
    Kp U s { s' with heap := h' } ∧ KpS (hp U s') (hideAll h' U) ∧ (Tab s'.heap → C ≠ tb) := by
  obtain ⟨oC, es, ep, eC, dC, _⟩ := ns
  have nt : C ≠ tb := k.ok.tab.ne eC (by rw [dC]; nofun)
  refine ⟨⟨k.keep.over (fun b o n e => b'.extBut b o n e) (by cases q : s.heap.get? C with | none => rfl | some o => exact absurd q (hn o)), k.ok0, ⟨let ⟨ps, e, t⟩ := k.ok.tab; ⟨ps, b'.extBut _ _ nt.symm e, t⟩, fun a m => let ⟨n, o, e⟩ := k.ok.at_ a m; ⟨n, o, b'.extBut _ _ (fun w => hU (w ▸ m)) e⟩⟩, k.gens, k.os⟩, fun b o e _ ⟨vs, n, d⟩ => ?_, fun _ => nt⟩
  have e' := of_hideAll _ e
  exact hideAll_get _ (b'.extBut b o (fun w => by rw [w, eC] at e'; cases e'; rw [dC] at d; cases d) e') fun m => by rw [hideAll_none _ m] at e; cases e

section
variable {c : Cx} {s₀ s : Shared} {ρ ρ' : List (Str × D)} {scope : Scope} {cl : List (Str × Addr)} {target iter elt : Expr} {ifs : List Expr} {gens rest : List Comprehension} {pos p : Pos}
  {body : Env → Addr → Sem Unit} {α : Type} {xs : List α} {P : α → Heap → Heap → Value → Prop} {bnd : α → List (Str × D)} {k : α → List D} {d : D} {y : Str} {py spos : Pos} {stmts : List Stmt}

theorem CompEv.of (F : FS c.U c.env s₀.heap ρ) (hclos : closureFor scope c.env = pure cl) (hcl : Clos c cl) (caps : Caps c scope cl ρ ρ') (it : EvIt c s₀ iter target xs.length (Over xs P)) (asg : AsgX c s₀ scope cl ρ' target P bnd)
    (eqn : Eqn elt target iter ifs rest scope pos p body) (el : ∀ x ∈ xs, EltOk c s₀ scope cl ρ' bnd body x (k x)) (hN : (xs.flatMap k).length ≤ sizeLine)
    (hb : ∀ x y, (ρ'.lookup y).isSome = true → (bnd x).lookup y = none) (hk : scope.kind = .function := by rfl) (hnames : ∀ x ∈ scope.names, x.2 = .local → scope.names.lookup x.1 = some .local := by decide)
    (hs : ∀ x, foldedSetIterable iter c.env x = pure x := by intro _; rfl) : CompEv c s₀ elt (⟨target, iter, ifs, 0⟩ :: rest) scope pos (ls (xs.flatMap k)) := fun s₁ k₁ use Q done => by
  refine comp_core (bnd := fun i => (xs[i]?).elim [] bnd) (out := fun i => (xs[i]?).elim [] k) F hclos hcl hk hnames hs caps it eqn (fun i x h => ?_) (by rw [range_flat]; exact hN) (fun C acc own s₂ I i v s res hi S r => ?_) (fun C acc own s₂ i s res I hi hl S => ?_) k₁
    fun C acc s' m q r => done C (.ref acc) s' m q (by rw [range_flat] at r; exact r) |> fun f a b c' d e g => f a b c' e g
  · cases q : xs[i]? with
    | none => rfl
    | some a => exact hb a x h
  · obtain ⟨a, e, r⟩ := r
    simp only [e, Option.elim_some]
    exact asg C acc own s₂ a s res v I S r
  · have e : xs[i]? = some xs[i] := List.getElem?_eq_getElem hi
    simp only [e, Option.elim_some] at hl S ⊢
    exact el _ (List.getElem_mem hi) C acc own s₂ s res I hl ⟨S.fs, S.ok, I.from_.keep.trans S.base.keep fun _ n => ⟨n, n⟩⟩ S

theorem CompEv.ev (x : CompEv c s elt gens scope pos d) : Ev c s (.ListComp elt gens scope pos) d := fun s₁ k => by
  rw [eval_ListComp]
  refine (x s₁ k none _ fun C v s' m kk r ns hU hn _ _ => ⟨m, ns, fun h' b' => ?_⟩)
  have := letGo kk ns b' hU hn
  exact ⟨this.1, d.mono this.2.1 r⟩

/-- a comprehension stored under a local name -/
theorem Fm.comp {Q : Flow → Shared → Prop} (F : Fm c s₀ s ρ) (x : CompEv c s elt gens scope pos d) (h : ∀ s', Fm c s₀ s' ((y, d) :: ρ) → Wp c (execs stmts c.env) Q s') (l : c.env.kindOf y = some .local := by rfl)
    (sw : swapsWith (.ListComp elt gens scope pos) (some (.Name y py)) spos.line c.env = pure true := by rfl) : Wp c (execs (.Assign [.Name y py] (.ListComp elt gens scope pos) spos :: stmts) c.env) Q s := by
  refine ex_cons ?_
  rw [exec_Assign_Name_used _ _ _ _ sw]
  refine wpAny_bind (wpAny_standAt (wpAny_bind ?_))
  show Wp c (do let _ ← comprehension (.ListComp elt gens scope pos) scope c.env (firstIterPos gens pos) (newList []) (firstAsync gens) (firstIter gens c.env) (some (assign (.Name y py) c.env))) _ s
  refine wpAny_bind (Wp.mono (x s (.refl F.kp.ok) (some (assign (.Name y py) c.env)) (fun _ s' => Fm c s₀ s' ((y, d) :: ρ)) fun C v s' m kk r ns hU hn hc hl => ?_) fun _ s' f => wpAny_pure (wpAny_pure (h s' f)))
  refine wpAny_assign_Name ((F.at kk).fs.stL kk.ok l r fun s'' f st => ⟨m, ?_, fun h' b' => ?_⟩)
  · obtain ⟨o, es, ep, e, q⟩ := ns
    exact ⟨o, es, ep, st.keep _ _ (Ne.symm hl) e, q⟩
  · have F' := (F.at kk).stored f st F.nl
    have ns' : s''.heap.Ns C m := by obtain ⟨o, es, ep, e, q⟩ := ns; exact ⟨o, es, ep, st.keep _ _ (Ne.symm hl) e, q⟩
    have hn' : ∀ o, s₀.heap.get? C ≠ some o := fun o e => by
      by_cases w : C = tb
      · exact (letGo kk ns (.refl ..) hU hn).2.2 kk.ok.tab w
      · obtain ⟨o', e'⟩ := F.kp.keep.there (ntb w) e; exact hn o' e'
    have g := letGo F'.kp ns' b' hU hn'
    exact ⟨f.chg (L := [C]) (s' := { s'' with heap := h' }) ⟨.all fun b o n e => b'.extBut b o (fun w => n (by simp [w])) e, rfl, rfl⟩ g.2.1 (fun w => hl (List.mem_singleton.mp w)) fun x a e w => hc x a e (List.mem_singleton.mp w), g.1, F.nl, F.nc⟩
end
end Mine
end
section
set_option genInjectivity false
set_option genSizeOf false
open PySem PySem.W PyProof.Rows PySem.Spec
namespace Mine
variable [Inhabited Bnd]

/-! what is iterated: lists, ranges, bytes -/
theorem Itr.ofWalks {prog : Program} {w : World} {A : Around} {x : Str} {p : Pos} {I : Addr} {fp wr : List Addr} {n : Nat} {P : Nat → Value → Prop} {St : Nat → Heap → Prop} (W : Walks prog w A I fp wr n P St)
    (kd : ∀ i h, St i h → ∀ b ∈ fp, ∃ o, h.get? b = some o ∧ o.cls ≠ .none ∧ (∀ es n, o.data ≠ .dict es n) ∧ (∀ v, o.data ≠ .cell v) ∧ (b ∈ wr → o.cls ≠ .type "list")) : Itr prog w A (.Name x p) I wr fp n (fun i _ v => P i v) St where
  sub := W.sub
  frame := W.frame
  kinds := kd
  item := fun i s hi st => W.item i s _ _ hi st fun v h' tk hP st' k => ⟨v, rfl, by
    show wpAny _ _ (pure ()) _ _ _
    exact wpAny_pure ⟨hP, st', .all k, rfl, rfl⟩⟩
  done := fun s st => W.done s _ _ st fun h' tk k => ⟨rfl, .all k, rfl, rfl⟩
  self := fun i s Q st h => W.self i s Q _ st h
theorem Itr.weaken {prog : Program} {w : World} {A : Around} {t : Expr} {I : Addr} {fp wr : List Addr} {n : Nat} {P P' : Nat → Heap → Value → Prop} {St : Nat → Heap → Prop} (W : Itr prog w A t I wr fp n P St) (h : ∀ i h v, i < n → P i h v → P' i h v) : Itr prog w A t I wr fp n P' St where
  sub := W.sub
  frame := W.frame
  kinds := W.kinds
  item := fun i s hi st => wpAny_mono (W.item i s hi st) (fun _ _ ⟨v, e, z⟩ => ⟨v, e, wpAny_mono z (fun _ _ y => ⟨h _ _ _ hi y.1, y.2⟩) fun _ _ f => f⟩) fun _ _ f => f
  done := W.done
  self := W.self

theorem All.get {h : Heap} {vs : List Value} {ds : List D} (a : All h vs ds) {i : Nat} {v : Value} (e : vs[i]? = some v) : ∃ d, ds[i]? = some d ∧ d.P h v := by
  induction a generalizing i with
  | nil => cases e
  | cons x _ ih =>
    cases i with
    | zero => cases e; exact ⟨_, rfl, x⟩
    | succ i => exact ih e
theorem All.nth {h : Heap} {vs : List Value} {ds : List D} (a : All h vs ds) {i : Nat} {d : D} (e : ds[i]? = some d) : ∃ v, vs[i]? = some v ∧ d.P h v := by
  induction a generalizing i with
  | nil => cases e
  | cons x _ ih =>
    cases i with
    | zero => cases e; exact ⟨_, rfl, x⟩
    | succ i => exact ih e
theorem ls_at {U : List Addr} {h : Heap} {v : Value} {ds : List D} (r : (ls ds).P (hideAll h U) v) : ∃ a vs, v = .ref a ∧ h.PlainList a vs ∧ a ∉ U ∧ All (hideAll h U) vs.toList ds ∧ vs.size = ds.length := by
  obtain ⟨a, vs, e, l, al⟩ := r
  refine ⟨a, vs, e, plain_of l, fun m => ?_, al, ?_⟩
  · obtain ⟨o, e⟩ := l; rw [hideAll_none _ m] at e; cases e
  · rw [← Array.length_toList]; exact Paired.length al

section
variable {c : Cx} {s₀ s : Shared} {e : Expr} {x : Str} {p pos : Pos} {α : Type} {xs : List α} {g : α → D}
theorem EvIt.list (hh : c.A.handled = none) (v : Ev c s e (ls (xs.map g))) : EvIt c s e (.Name x p) xs.length (Over xs (Plain g)) := fun s₁ k => (v s₁ k).mono fun u s₂ ⟨k₂, r⟩ => by
  obtain ⟨a, vs, rfl, l, hU, al, hn⟩ := ls_at r
  have l := l.isList
  rw [List.length_map] at hn
  have hne : a ≠ s₂.heap.objs.size := by obtain ⟨o, e, _⟩ := l; exact Nat.ne_of_lt (Heap.lt_size e)
  have W : Itr c.prog c.w c.A (.Name x p) s₂.heap.objs.size [s₂.heap.objs.size] [s₂.heap.objs.size, a] vs.size (fun i _ v => vs[i]? = some v) (fun i h => h.IsListIter s₂.heap.objs.size a i ∧ h.IsList a vs) := Itr.ofWalks (Walks.list hh _ a hne vs) fun i h ⟨⟨o, e, c1, d1⟩, ⟨o', e', c2, n, d2⟩⟩ b m => by
    rcases List.mem_cons.mp m with rfl | m
    · exact ⟨o, e, by rw [c1]; nofun, by rw [d1]; nofun, by rw [d1]; nofun, fun _ => by rw [c1]; decide⟩
    · obtain rfl := List.mem_singleton.mp m
      exact ⟨o', e', by rw [c2]; nofun, by rw [d2]; nofun, by rw [d2]; nofun, fun m => absurd (List.mem_singleton.mp m) hne⟩
  rw [hn] at W
  refine ⟨s₂, k₂, .refl k₂.ok, wpAny_pyIter_list l ⟨.push k₂.ok, _, _, _, _, rfl, W.weaken fun i _ v _ e => ?_, ⟨⟨_, Heap.get?_push_size _ rfl, rfl, rfl⟩, l.push _⟩, fun b m => ?_, fun b m => ?_⟩⟩
  · obtain ⟨d, ed, r⟩ := al.get (i := i) (v := v) (by simpa using e)
    rw [List.getElem?_map] at ed
    cases q : xs[i]? with
    | none => rw [q] at ed; cases ed
    | some y => rw [q] at ed; cases ed; exact ⟨y, q, r⟩
  · rcases List.mem_cons.mp m with rfl | m
    · exact k₂.ok.fresh
    · exact List.mem_singleton.mp m ▸ hU
  · rw [List.mem_singleton.mp m]; exact Heap.get?_none_of_le (Nat.le_refl _)
theorem EvIt.bytes {b : Array UInt8} (hh : c.A.handled = none) (v : Ev c s e (byt b)) : EvIt c s e (.Name x p) b.toList.length (Over b.toList (Plain fun y => int y.toNat)) := fun s₁ k => (v s₁ k).mono fun u s₂ ⟨k₂, r⟩ => by
  obtain ⟨t, rfl⟩ := r
  have W : Itr c.prog c.w c.A (.Name x p) s₂.heap.objs.size [s₂.heap.objs.size] [s₂.heap.objs.size] b.size (fun i _ v => ∃ c u, b[i]? = some c ∧ v = Value.int (c.toNat : Int) u) (fun i h => KBw.IsBytesIter h s₂.heap.objs.size b t i) := Itr.ofWalks (KBw.walks hh _ b t) fun i h ⟨o, e, c1, d1⟩ b m => by
    obtain rfl := List.mem_singleton.mp m
    exact ⟨o, e, by rw [c1]; nofun, by rw [d1]; nofun, by rw [d1]; nofun, fun _ => by rw [c1]; decide⟩
  rw [← Array.length_toList] at W
  refine ⟨s₂, k₂, .refl k₂.ok, KBw.pyIter_bytes ⟨.push k₂.ok, _, _, _, _, rfl, W.weaken fun i _ v _ e => ?_, ⟨_, Heap.get?_push_size _ rfl, rfl, rfl⟩, fun b m => ?_, fun b m => ?_⟩⟩
  · obtain ⟨y, u, e, rfl⟩ := e
    exact ⟨y, by simpa using e, u, rfl⟩
  · rw [List.mem_singleton.mp m]; exact k₂.ok.fresh
  · rw [List.mem_singleton.mp m]; exact Heap.get?_none_of_le (Nat.le_refl _)
end

/-! what the built-in world calls -/
def Bi (c : Cx) (u : Value) (args : List D) (d : D) : Prop := ∀ s vs, Ok c.U s.heap → All (hp c.U s) vs args → Wp c (call u vs []) (Gives c.U d s) s
def isTB : Value → Bool
  | .type _ => true
  | .builtin _ => true
  | _ => false
section
variable {B : Md} {c : Cx} {s : Shared} {ρ : List (Str × D)} {x y : Str} {u : Value} {pos np : Pos} {d : D} {e : Expr} {es : List Expr} {ds : List D}
theorem callWith_TB {M : Model} {A : Around} {E : Value → Shared → Prop} {env : Env} {Q : Value → Shared → Prop} (hu : isTB u = true) (h : wpAny M A (spliced (backTo pos (starEach (e :: es) env))) (fun vs s₁ => wpAny M A (call u vs) Q E s₁) E s)
    (he : starEach (e :: es) env = (false, eval e env) :: starEach es env) (hp : (backTo pos (starEach es env)).any (·.1) = false) : wpAny M A (callWith pos u [] (backTo pos (starEach (e :: es) env)) []) Q E s := by
  cases u with
  | type T => exact callWith_type1 h he hp
  | builtin id =>
    rw [he] at h ⊢
    exact Calls.callWith_builtin (by show (false || (backTo pos (starEach es env)).any (·.1)) = false; rw [hp]; rfl) (Calls.evalArgs_plain h)
  | _ => cases hu
theorem Ev.callB (O : B.Ok) (i : B.In s) (F : FS c.U c.env s.heap ρ) (hn : B.mg x = Option.none) (hv : B.mb x = some u) (hu : isTB u = true) (a : EvL c s (e :: es) ds) (b : Bi c u ds d) (k : c.env.kindOf x = some .globalImplicit := by rfl)
    (hd : (x == ("__debug__" : Str)) = false := by decide) (he : starEach (e :: es) c.env = (false, eval e c.env) :: starEach es c.env := by rfl) (hp : (backTo pos (starEach es c.env)).any (·.1) = false := by rfl) :
    Ev c s (.Call (.Name x np) (e :: es) [] pos) d := fun s₁ q => by
  refine wpAny_Call_ofName ((Ev.bi O i F hn hv k hd s₁ q).mono fun v s₂ h => ?_)
  obtain ⟨k₂, rfl⟩ := h
  exact callWith_TB hu ((a pos s₂ (q.trans k₂)).mono fun vs s₃ h₃ => (b s₃ vs h₃.1.ok h₃.2).mono fun _ _ z => ⟨k₂.trans (h₃.1.trans z.1), z.2⟩) he hp

theorem range_ok {n : Nat} {p : Pos} (hh : c.A.handled = none) {s₁ : Shared} (k : Ok c.U s₁.heap) {a b st : Int} {t u v : Tok} (hs : Builtin.Range.small a b st = true) (hn : Builtin.Range.rangeSize a b st = n) {r : Addr} (R : IsRange s₁.heap r a b st t u v) :
    Wp c (pyIter (.ref r)) (ItOk c (.Name y p) n (Over (List.range n) (Plain fun i => int (a + (i : Nat) * st)) (hideAll s₁.heap c.U)) s₁) s₁ := by
  have W : Itr c.prog c.w c.A (.Name y p) s₁.heap.objs.size [s₁.heap.objs.size] [s₁.heap.objs.size] n (fun i _ v => ∃ t, v = Value.int (a + (i : Nat) * st) t) (fun i h => IsRangeIter h s₁.heap.objs.size (a + (i : Nat) * st) ((n : Int) - (i : Nat)) st) := Itr.ofWalks (Walks.range hh _ a st n) fun i h e b m => by
    obtain rfl := List.mem_singleton.mp m
    exact ⟨_, e, nofun, nofun, nofun, fun _ w => absurd (Value.type.inj w) (by decide)⟩
  refine wpAny_pyIter_range R hs ⟨.push k, _, _, _, _, rfl, W.weaken fun i _ v hi ⟨t, e⟩ => ⟨i, by simp [hi], t, e⟩, ?_, fun b m => ?_, fun b m => ?_⟩
  · show IsRangeIter _ _ _ _ _
    rw [show (a + ((0 : Nat) : Int) * st) = a by simp, show ((n : Int) - ((0 : Nat) : Int)) = Builtin.Range.rangeSize a b st by rw [hn]; simp]
    exact Heap.get?_push_size _ rfl
  · rw [List.mem_singleton.mp m]; exact k.fresh
  · rw [List.mem_singleton.mp m]; exact Heap.get?_none_of_le (Nat.le_refl _)
/-- range(n), n told -/
theorem EvIt.range {n : Nat} {p : Pos} (hh : c.A.handled = none) (O : B.Ok) (i : B.In s) (F : FS c.U c.env s.heap ρ) (hn : B.mg "range" = none) (hv : B.mb "range" = some (.type "range")) (v : Ev c s e (int n)) (hN : n < 4611686018427387904)
    (k : c.env.kindOf "range" = some .globalImplicit := by rfl) (he : starEach [e] c.env = [(false, eval e c.env)] := by rfl) :
    EvIt c s (.Call (.Name "range" np) [e] [] pos) (.Name y p) n (Over (List.range n) (Plain fun i => int (i : Nat))) := fun s₁ q => by
  refine wpAny_Call_ofName ((Ev.bi O i F hn hv k (by decide) s₁ q).mono fun u s₂ h => ?_)
  obtain ⟨k₂, rfl⟩ := h
  refine callWith_type1 (wpAny_items_cons ((v s₂ (q.trans k₂)).mono fun u s₃ ⟨k₃, t, hu⟩ => wpAny_items_nil ?_) he) he
  subst hu
  refine call_range_1 ⟨_, k₂.trans (k₃.trans (.push k₃.ok)), .refl (k₃.trans (.push k₃.ok)).ok, Wp.mono (range_ok (y := y) (p := p) (a := 0) (b := n) (st := 1) (n := n) hh (k₃.trans (.push k₃.ok)).ok (small_one (by decide) (by decide) (by omega) (by omega)) (by rw [rangeSize_one]; split <;> omega) (.new ..)) fun it s₅ h => ?_⟩
  obtain ⟨k₅, I, wr, fp, St, e1, W, r⟩ := h
  exact ⟨k₅, I, wr, fp, St, e1, W.weaken fun i _ v _ ⟨j, e, t, e'⟩ => ⟨j, e, t, by rw [e']; simp⟩, r⟩
end
end Mine
end
section
set_option genInjectivity false
set_option genSizeOf false
open PySem PySem.W PyProof.Rows PySem.Spec
namespace Mine
variable [Inhabited Bnd]

def S (l : List Nat) : Str := ⟨l.toArray⟩
abbrev tx (l : List Nat) : D := str (S l)
def cut {α : Type} (l : List α) (lo hi : Option Int) : List α := (l.drop (kms_lo lo l.length)).take (kms_hi hi l.length - kms_lo lo l.length)
theorem S_len (l : List Nat) : (S l).length = l.length := by simp [S, Str.length]
theorem kms_hi_le (hi : Option Int) (n : Nat) : kms_hi hi n ≤ n := by
  unfold kms_hi
  split
  · exact Nat.le_refl _
  · split
    · exact Nat.sub_le _ _
    · exact Nat.min_le_right _ _
theorem S_slice (l : List Nat) (lo hi : Option Int) : Txt.slice (S l) lo hi = S (cut l lo hi) := by
  have e : Builtin.Str.strSliceIndices lo hi 1 (S l).length = sliceRange (kms_lo lo l.length) (kms_hi hi l.length) 1 := by
    rw [S_len]
    show sliceRange (sliceBounds lo hi none l.length).1 (sliceBounds lo hi none l.length).2.1 1 = _
    rw [kms_bounds]
  have p : (⟨((Builtin.Str.strSliceIndices lo hi 1 (S l).length).filterMap ((S l).cps[·]?)).toArray⟩ : Str) = S (cut l lo hi) := by
    rw [e, sliceRange_one, pick_run]; rfl
  unfold Txt.slice
  split
  · rename_i h
    rw [e, sliceRange_one, S_len, List.length_map, List.length_range] at h
    have h : kms_hi hi l.length - kms_lo lo l.length = l.length := by simpa using h
    have h2 := kms_hi_le hi l.length
    unfold cut
    rw [h]
    by_cases z : l.length = 0
    · rw [List.eq_nil_of_length_eq_zero z]; rfl
    · rw [show kms_lo lo l.length = 0 by omega]; simp
  · exact p

section
variable {c : Cx} {s : Shared} {i j k : Int} {e l r value part : Expr} {d d1 d2 d3 : D} {pos p : Pos} {b : Bool} {x y : List Nat} {ds es : List D}

theorem Ev.cTx {k : Nat} {z : Str} (h : z = S x := by rfl) : Ev c s (.Constant (.str z) k pos) (tx x) := h ▸ Ev.cStr
theorem Op2.ints {op : Operator} (h : ∀ s t u, Wp c (binaryOp op (.int i t) (.int j u)) (fun v s' => (∃ t, v = .int k t) ∧ ∃ n, s' = { s with toks := n }) s) : Op2 c op (int i) (int j) (int k) := fun s a b ok ⟨t, ha⟩ ⟨u, hb⟩ => by
  subst ha hb
  exact (h s t u).mono fun v s' ⟨q, n, e⟩ => by subst e; exact ⟨.tok ok, q⟩
theorem Op2.add : Op2 c .Add (int i) (int j) (int (i + j)) := .ints fun s t u => PyProof.Rows.add_int ⟨⟨_, rfl⟩, _, rfl⟩
theorem Op2.sub : Op2 c .Sub (int i) (int j) (int (i - j)) := .ints fun s t u => PyProof.Rows.sub_int ⟨⟨_, rfl⟩, _, rfl⟩
theorem Op2.mul (h : IntMulOk i j) : Op2 c .Mult (int i) (int j) (int (i * j)) := .ints fun s t u => PyProof.Rows.mul_int ⟨⟨_, rfl⟩, _, rfl⟩ h
theorem Op2.mod (h : j ≠ 0) : Op2 c .Mod (int i) (int j) (int (i.fmod j)) := .ints fun s t u => PyProof.Rows.mod_int h ⟨⟨_, rfl⟩, _, rfl⟩
theorem Op2.pow (h : 0 ≤ j) (h2 : j ≤ 1000000) (h3 : i.natAbs < 2 ^ 64) : Op2 c .Pow (int i) (int j) (int (i ^ j.toNat)) := .ints fun s t u => pow_int_small h h2 h3 ⟨⟨_, rfl⟩, _, rfl⟩
theorem Op2.shl (h : 0 ≤ j) (h2 : j ≤ 1000000) (h3 : i.natAbs < 2 ^ 64) : Op2 c .LShift (int i) (int j) (int (i * 2 ^ j.toNat)) := .ints fun s t u => lshift_int_small h h2 h3 ⟨⟨_, rfl⟩, _, rfl⟩
theorem Op2.shr (h : 0 ≤ j) : Op2 c .RShift (int i) (int j) (int (i.fdiv (2 ^ j.toNat))) := .ints fun s t u => PyProof.Rows.rshift_int h ⟨⟨_, rfl⟩, _, rfl⟩
theorem Op2.or : Op2 c .BitOr (int i) (int j) (int (Builtin.bitOr i j)) := .ints fun s t u => PyProof.Rows.or_int ⟨⟨_, rfl⟩, _, rfl⟩
theorem Op2.and : Op2 c .BitAnd (int i) (int j) (int (Builtin.bitAnd i j)) := .ints fun s t u => PyProof.Rows.and_int ⟨⟨_, rfl⟩, _, rfl⟩
theorem Op2.divS (h : j ≠ 0) (n : Builtin.divisionGoesByPylong i j = false) : Op2 c .FloorDiv (int i) (int j) (int (i.fdiv j)) := .ints fun s t u => PyProof.Rows.floordiv_int h ⟨⟨_, rfl⟩, _, rfl⟩ (.inl n)
/-- the frame on top of the stack is one that a division by _pylong could ask -/
def OnTop (A : Around) : Prop := ∃ (env : Env) (l : List Env), A.frames = some (env :: l) ∧ env.scope.isGenerator = false ∧ env.scope.isCoroutine = false ∧ env.builtins = builtinsNs ∧ env.globals = mainGlobals
theorem Ev.div {B : Md} (O : B.Ok) (I : B.In s) (T : OnTop c.A) (R : Room c.A 1) (x : Ev c s l (int i)) (y : Ev c s r (int j)) (h : j ≠ 0) : Ev c s (.BinOp l .FloorDiv r pos) (int (i.fdiv j)) := fun s₁ k =>
  wpAny_BinOp ((x s₁ k).mono fun a s₂ ⟨k₂, t, ha⟩ => (y s₂ (k.trans k₂)).mono fun b s₃ ⟨k₃, u, hb⟩ => by
    subst ha hb
    obtain ⟨env, l, e1, e2, e3, e4, e5⟩ := T
    have I₃ := O.at I (k.trans (k₂.trans k₃))
    exact PyProof.Rows.floordiv_int h ⟨k₂.trans (k₃.trans (.tok k₃.ok)), _, rfl⟩ (.inr (PylongRoom.of (I₃.lim O.lim) (by have := R.2.1; show _ + 100 < 1000; omega) (.of (I₃.seer O.seer) c.tr e1 e2 e3 e4 e5))))
theorem Op2.addS (h : x.length + y.length ≤ sizeLine) : Op2 c .Add (tx x) (tx y) (tx (x ++ y)) := fun s a b ok ⟨t, ha⟩ ⟨u, hb⟩ => by
  subst ha hb
  have q : S x ++ S y = S (x ++ y) := Str.ext' (by rw [Str.cps_append]; simp [S])
  exact PyProof.Rows.add_str (fun t' tk => by rw [q]; exact ⟨.tok ok, _, rfl⟩) (by rw [S_len, S_len]; exact h)
theorem paired_append {α β : Type} {R : α → β → Prop} {l l' : List α} {m m' : List β} (p : Paired R l m) (q : Paired R l' m') : Paired R (l ++ l') (m ++ m') := by
  induction p with
  | nil => exact q
  | cons a _ ih => exact .cons a ih
theorem Op2.addL (h : ds.length + es.length ≤ sizeLine) : Op2 c .Add (ls ds) (ls es) (ls (ds ++ es)) := fun s a b ok ra rb => by
  obtain ⟨a, vs, rfl, ⟨n, ho⟩, _, al, hn⟩ := ls_at ra
  obtain ⟨b, ws, rfl, ⟨n2, ho2⟩, _, bl, hm⟩ := ls_at rb
  refine concat_meets ⟨_, ho, rfl⟩ ⟨_, ho2, rfl⟩ noFill_list_add seq_list_add PySem.F.slot_list_add PySem.F.entry_list_add (PySem.F.args_list_add_2 _ _) (list_addW a b vs ws n n2 none none #[] #[] (by rw [hn, hm]; exact h)) ⟨ho, ho2, .push ok, ?_⟩
  have := ls_new (n := s.toks) ok (paired_append al bl)
  have e : (vs.toList ++ ws.toList).toArray = vs ++ ws := by simp
  rwa [e] at this
theorem Cmp.ints {op : CmpOp} (h : ∀ s t u, Wp c (compareOp op (.int i t) (.int j u)) (fun v s' => v = .bool b ∧ s' = s) s) : Cmp c op (int i) (int j) b := fun s v w ok ⟨t, ha⟩ ⟨u, hb⟩ => by
  subst ha hb
  exact (h s t u).mono fun v s' ⟨q, e⟩ => by subst e; exact ⟨.refl ok, q⟩
theorem Cmp.eqI : Cmp c .Eq (int i) (int j) (i == j) := .ints fun s t u => PyProof.Rows.eq_int ⟨rfl, rfl⟩
theorem Cmp.neI : Cmp c .NotEq (int i) (int j) (i != j) := .ints fun s t u => PyProof.Rows.ne_int ⟨rfl, rfl⟩
theorem Cmp.ltI : Cmp c .Lt (int i) (int j) (decide (i < j)) := .ints fun s t u => PyProof.Rows.lt_int ⟨rfl, rfl⟩
theorem Cmp.gtI : Cmp c .Gt (int i) (int j) (decide (j < i)) := .ints fun s t u => PyProof.Rows.gt_int ⟨rfl, rfl⟩
theorem Cmp.geI : Cmp c .GtE (int i) (int j) (decide (j ≤ i)) := .ints fun s t u => PyProof.Rows.ge_int ⟨rfl, rfl⟩
theorem S_inj : (S x == S y) = (x == y) := by
  rw [Bool.eq_iff_iff, beq_iff_eq, beq_iff_eq]
  refine ⟨fun h => ?_, fun h => h ▸ rfl⟩
  have := congrArg (fun z => z.cps.toList) h
  simpa [S] using this
theorem Cmp.eqS : Cmp c .Eq (tx x) (tx y) (x == y) := fun s v w ok ⟨t, ha⟩ ⟨u, hb⟩ => by
  subst ha hb; exact PyProof.Rows.eq_str ⟨.refl ok, by rw [S_inj]⟩
theorem Cmp.neS : Cmp c .NotEq (tx x) (tx y) (x != y) := fun s v w ok ⟨t, ha⟩ ⟨u, hb⟩ => by
  subst ha hb; exact PyProof.Rows.ne_str ⟨.refl ok, by unfold bne; rw [S_inj]⟩

/-! one of many, and a part of it -/
def Idx (c : Cx) (d1 d2 d : D) : Prop := ∀ s a b, Ok c.U s.heap → d1.P (hp c.U s) a → d2.P (hp c.U s) b → (∃ T id, s.TypeIs a T ∧ typeLookup (.type T) "__getitem__" = pure (some (.builtin id))) ∧ Wp c (getItem a b) (Gives c.U d s) s
theorem sub_ops (slice : Expr) (o i : Value) : ∃ ops, subscripted slice false o i = operate ops (getItem o i) := by
  unfold subscripted
  split
  · exact ⟨_, rfl⟩
  · rename_i h; cases h
  · exact ⟨_, rfl⟩
theorem subTail {a b : Value} {T id : String} {Q : Value → Shared → Prop} (hT : s.TypeIs a T) (hl : typeLookup (.type T) "__getitem__" = pure (some (.builtin id))) (h : Wp c (getItem a b) Q s) : Wp c (subscriptTail value part a b) Q s := by
  unfold subscriptTail
  refine wpAny_bind ?_
  rw [getitemInPython_of_ne hT.not_modules]
  refine wpAny_bind (wpAny_specialOf hT hl ?_)
  have fin : Wp c (subscripted part false a b) (fun r s₃ => Wp c (letTemporaryGo value a r >>= fun _ => pure r) Q s₃) s := by
    obtain ⟨ops, e⟩ := sub_ops part a b
    rw [e]
    exact wpAny_operating (h.mono fun r s₃ h₃ => wpAny_bind (wpAny_letTemporaryGo (wpAny_pure h₃)))
  first
    | exact wpAny_pure (wpAny_bind fin)
    | exact wpAny_bind (wpAny_pure (wpAny_bind fin))
    | exact wpAny_bind fin
theorem Ev.sub (x : Ev c s value d1) (y : Ev c s part d2) (o : Idx c d1 d2 d) : Ev c s (.Subscript value part pos) d := fun s₁ k =>
  Subscript_ ((x s₁ k).mono fun a s₂ h => (y s₂ (k.trans h.1)).mono fun b s₃ h' => by
    obtain ⟨⟨T, id, hT, hl⟩, g⟩ := o s₃ a b h'.1.ok (d1.at h'.1 h.2) h'.2
    exact subTail hT hl (g.mono fun _ _ q => ⟨h.1.trans (h'.1.trans q.1), q.2⟩))
theorem Idx.list {n : Nat} (h : ds[n]? = some d) (hn : (n : Int) < 2 ^ 63) : Idx c (ls ds) (int n) d := fun s a b ok ra ⟨t, hb⟩ => by
  obtain ⟨a, vs, rfl, l, _, al, _⟩ := ls_at ra
  subst hb
  obtain ⟨v, e, r⟩ := al.nth h
  exact ⟨⟨_, _, l.isList.typeIs, list_getitem_lookup⟩, wpAny_getItem_list l.isList (Int.natCast_nonneg n) hn (by simpa using e) ⟨.refl ok, r⟩⟩
theorem Idx.tx {n a : Nat} (h : x[n]? = some a) (hn : (n : Int) < 2 ^ 63) : Idx c (tx x) (int n) (tx [a]) := fun s v b ok ⟨t, ha⟩ ⟨u, hb⟩ => by
  subst ha hb
  have hl : n < x.length := (List.getElem?_eq_some_iff.mp h).1
  refine ⟨⟨_, _, typeIs_str .., PySem.F.slot_str_getitem.lookup⟩, PyProof.Rows.getItem_str (c := a) (by simp; omega) ?_ ⟨.tok ok, _, rfl⟩⟩
  rw [show seqIndex? (n : Int) (S x).length = some n from by rw [S_len]; simp only [seqIndex?, if_neg (show ¬ ((n : Int) < 0) by omega)]; simp [hl]]
  show (S x).cps[n]? = some a
  simpa [S] using h

def EvP (c : Cx) (s : Shared) (e : Option Expr) (o : Option Int) : Prop := ∀ s₁, Kp c.U s s₁ → Wp c (evalPart e c.env) (fun v s₂ => Kp c.U s₁ s₂ ∧ IsPart v o) s₁
theorem EvP.no : EvP c s none none := fun _ k => wpAny_pure ⟨.refl k.ok, .none⟩
theorem EvP.yes (x : Ev c s e (int i)) : EvP c s (some e) (some i) := fun s₁ k => (x s₁ k).mono fun v s₂ h => by
  obtain ⟨k, t, rfl⟩ := h; exact ⟨k, .int _ _⟩
def Slc (c : Cx) (d1 : D) (lo hi st : Option Int) (d : D) : Prop := ∀ s a sl vl vu vs, Ok c.U s.heap → d1.P (hp c.U s) a → s.heap.IsSliceOf sl vl vu vs → IsPart vl lo → IsPart vu hi → IsPart vs st → (∃ T id, s.TypeIs a T ∧ typeLookup (.type T) "__getitem__" = pure (some (.builtin id))) ∧ Wp c (getItem a (.ref sl)) (Gives c.U d s) s
theorem Ev.slice {lower upper step : Option Expr} {lo hi st : Option Int} (x : Ev c s value d1) (y : EvP c s lower lo) (z : EvP c s upper hi) (w : EvP c s step st) (o : Slc c d1 lo hi st d) : Ev c s (.Subscript value (.Slice lower upper step p) pos) d := fun s₁ k =>
  Subscript_ ((x s₁ k).mono fun a s₂ h => wpAny_Slice ((y s₂ (k.trans h.1)).mono fun vl s₃ h₃ => (z s₃ ((k.trans h.1).trans h₃.1)).mono fun vu s₄ h₄ => (w s₄ (((k.trans h.1).trans h₃.1).trans h₄.1)).mono fun vs s₅ h₅ => by
    have kk := (h₃.1.trans h₄.1).trans (h₅.1.trans (.push (o := { cls := .type "slice", data := .fields #[vl, vu, vs] }) (n := s₅.toks) h₅.1.ok))
    obtain ⟨⟨T, id, hT, hl⟩, g⟩ := o _ a s₅.heap.objs.size vl vu vs kk.ok (d1.at kk h.2) (Heap.IsSliceOf.new ..) h₃.2 h₄.2 h₅.2
    exact subTail hT hl (g.mono fun _ _ q => ⟨h.1.trans (kk.trans q.1), q.2⟩)))
theorem paired_drop {α β : Type} {R : α → β → Prop} {l : List α} {m : List β} (p : Paired R l m) : ∀ n, Paired R (l.drop n) (m.drop n) := by
  induction p with
  | nil => intro n; rw [List.drop_nil, List.drop_nil]; exact .nil
  | cons a b ih => intro n; cases n with
    | zero => exact .cons a b
    | succ n => exact ih n
theorem paired_take {α β : Type} {R : α → β → Prop} {l : List α} {m : List β} (p : Paired R l m) : ∀ n, Paired R (l.take n) (m.take n) := by
  induction p with
  | nil => intro n; rw [List.take_nil, List.take_nil]; exact .nil
  | cons a b ih => intro n; cases n with
    | zero => exact .nil
    | succ n => exact .cons a (ih n)
theorem All.cut {h : Heap} {vs : List Value} {ds : List D} (a : All h vs ds) (lo hi : Option Int) : All h (Mine.cut vs lo hi) (Mine.cut ds lo hi) := by
  unfold Mine.cut; rw [Paired.length a]; exact paired_take (paired_drop a _) _
theorem paired_reverse {α β : Type} {R : α → β → Prop} {l : List α} {m : List β} (p : Paired R l m) : Paired R l.reverse m.reverse := by
  induction p with
  | nil => exact .nil
  | cons a _ ih => rw [List.reverse_cons, List.reverse_cons]; exact paired_append ih (.cons a .nil)
theorem Slc.list {lo hi : Option Int} (h : ds.length ≤ sizeLine) : Slc c (ls ds) lo hi none (ls (cut ds lo hi)) := fun s a sl vl vu vs ok ra is pl pu ps => by
  obtain ⟨a, vs, rfl, l, _, al, hn⟩ := ls_at ra
  refine ⟨⟨_, _, l.isList.typeIs, list_getitem_lookup⟩, wpAny_getItem_list_slice l.isList is pl pu ps (by nofun) ⟨.push ok, ?_⟩ (hn ▸ h)⟩
  rw [kms_pick_eq]
  exact ls_new (n := s.toks) ok (al.cut lo hi)
theorem Slc.rev (h : ds.length ≤ sizeLine) : Slc c (ls ds) none none (some (-1)) (ls ds.reverse) := fun s a sl vl vu vs ok ra is pl pu ps => by
  obtain ⟨a, vs, rfl, l, _, al, hn⟩ := ls_at ra
  refine ⟨⟨_, _, l.isList.typeIs, list_getitem_lookup⟩, wpAny_getItem_list_slice l.isList is pl pu ps (by decide) ⟨.push ok, ?_⟩ (hn ▸ h)⟩
  rw [krv_pick]
  exact ls_new (n := s.toks) ok (paired_reverse al)
theorem part_val {v : Value} {o : Option Int} (p : IsPart v o) : ∃ l : Option (Int × Tok), v = partValue l ∧ l.map (·.1) = o := by
  cases p with
  | none => exact ⟨none, rfl, rfl⟩
  | int i t => exact ⟨some (i, t), rfl, rfl⟩
theorem Slc.tx {lo hi : Option Int} (h : x.length ≤ sizeLine) : Slc c (tx x) lo hi none (tx (cut x lo hi)) := fun s a sl vl vu vs ok ⟨t, ha⟩ is pl pu ps => by
  subst ha
  obtain ⟨l, rfl, rfl⟩ := part_val pl
  obtain ⟨u, rfl, rfl⟩ := part_val pu
  cases ps
  refine ⟨⟨_, _, typeIs_str .., PySem.F.slot_str_getitem.lookup⟩, wpAny_getItem_str_slice (l := l) (u := u) (st := none) is rfl (post_val_or_str (c := (_ && _) = true) ?_)⟩
  have e := S_slice x (l.map (·.1)) (u.map (·.1))
  show (Txt.slice (S x) (l.map (·.1)) (u.map (·.1))).length ≤ sizeLine ∧ ∀ t' k, Gives c.U _ s (.str (Txt.slice (S x) (l.map (·.1)) (u.map (·.1))) t') { s with toks := k }
  refine ⟨Nat.le_trans (Txt.slice_le ..) (by rw [S_len]; exact h), fun t' k => ?_⟩
  rw [e]
  exact ⟨.tok ok, _, rfl⟩
end
end Mine
end
section
set_option genInjectivity false
set_option genSizeOf false
open PySem PySem.W PyProof.Rows PySem.Spec
namespace Mine
variable [Inhabited Bnd]

/-- a method of the built-in world -/
def Me (c : Cx) (name : Str) (d1 : D) (args : List D) (d : D) : Prop := ∃ T id, PlainAttrs T ∧ Slot T name id ∧ typeOf (.builtin id) = pure (.type "method_descriptor") ∧
  ∀ s v, Ok c.U s.heap → d1.P (hp c.U s) v → s.TypeIs v T ∧ (∀ a, v = .ref a → ∃ o, s.heap.get? a = some o ∧ o.dict = none) ∧ ∀ vs, All (hp c.U s) vs args → Wp c (call (.builtin id) (v :: vs)) (Gives c.U d s) s

section
variable {c : Cx} {s : Shared} {o e : Expr} {es : List Expr} {d1 d : D} {ds : List D} {name : Str} {apos pos : Pos} {x y : List Nat} {i j : Int} {ns : List Int} {l r : Expr} {b b' : Bool}
theorem Ev.meth (x : Ev c s o d1) (a : EvL c s (e :: es) ds) (m : Me c name d1 ds d) (hbase : attributeBase o name c.env (eval o c.env) = eval o c.env := by rfl)
    (hfew : ((backTo pos (starEach (e :: es) c.env)).all (fun x => !x.1) && (backToKw pos (keywordEach [] c.env)).all (fun x => x.1.isSome) && decide ((e :: es).length + ([] : List Keyword).length + (if ([] : List Keyword).isEmpty then 0 else 1) < 30)) = true := by rfl)
    (hline : (apos.endLine == pos.line) = true := by rfl) (he : starEach (e :: es) c.env = (false, eval e c.env) :: starEach es c.env := by rfl) (hp : (backTo pos (starEach es c.env)).any (·.1) = false := by rfl) :
    Ev c s (.Call (.Attribute o name apos) (e :: es) [] pos) d := fun s₁ k => by
  obtain ⟨T, id, pa, sl, ty, q⟩ := m
  refine wpAny_Call_method hbase hfew hline pa sl ty ((x s₁ k).mono fun v s₂ h => ?_)
  have q₂ := q s₂ v h.1.ok h.2
  refine ⟨q₂.1, q₂.2.1, callWith_method1 ((a pos s₂ (k.trans h.1)).mono fun vs s₃ h₃ => ?_) he hp⟩
  exact ((q s₃ v h₃.1.ok (d1.at h₃.1 h.2)).2.2 vs h₃.2).mono fun _ _ z => ⟨h.1.trans (h₃.1.trans z.1), z.2⟩
theorem All.one {h : Heap} {vs : List Value} {d : D} (a : All h vs [d]) : ∃ v, vs = [v] ∧ d.P h v := by
  cases a with | cons x r => cases r; exact ⟨_, rfl, x⟩
theorem Bi.lenS (h : x.length ≤ 1099511627776) : Bi c (.builtin "len") [tx x] (int x.length) := fun s vs ok a => by
  obtain ⟨_, rfl, t, rfl⟩ := a.one
  exact PyProof.Rows.len_str (by rw [S_len]; omega) ⟨.tok ok, _, by rw [S_len]⟩
theorem Bi.lenL (h : ds.length ≤ 1099511627776) : Bi c (.builtin "len") [ls ds] (int ds.length) := fun s vs ok a => by
  obtain ⟨_, rfl, r⟩ := a.one
  obtain ⟨a, vs, rfl, l, _, _, hn⟩ := ls_at r
  exact PyProof.Rows.len_list l.isList (by omega) ⟨.tok ok, _, by rw [hn]⟩
theorem Bi.lenB {b : Array UInt8} (h : b.size ≤ 1099511627776) : Bi c (.builtin "len") [byt b] (int b.size) := fun s vs ok a => by
  obtain ⟨_, rfl, t, rfl⟩ := a.one
  exact len_bytes h ⟨.tok ok, _, rfl⟩
theorem ints_of {h : Heap} : ∀ {ns : List Int} {vs : List Value}, All h vs (ns.map int) → IntsAre vs ns
  | [], _, a => by cases a; exact .nil
  | _ :: _, _, a => by
    cases a with
    | cons x r => obtain ⟨t, rfl⟩ := x; exact .cons _ t (ints_of r)
theorem Bi.bytes (hh : c.A.handled = none) (h : ∀ n ∈ ns, 0 ≤ n ∧ n < 256) (hz : ns.length ≤ sizeLine) : Bi c (.type "bytes") [ls (ns.map int)] (byt (byteArr ns)) := fun s vs ok a => by
  obtain ⟨_, rfl, r⟩ := a.one
  obtain ⟨a, vs, rfl, l, _, al, hn⟩ := ls_at r
  exact call_bytes_ints (vs := vs.toList) (by rw [Array.toArray_toList]; exact l.isList) (ints_of al) h (by rw [Array.length_toList, hn, List.length_map]; exact hz) hh fun h' t k kp => ⟨.of ok kp, _, rfl⟩
theorem toks_of {h : Heap} : ∀ {ns : List Int} {vs : List Value}, All h vs (ns.map int) → ∃ ts : List (Int × Tok), ts.map (·.1) = ns ∧ vs = ts.map fun p => .int p.1 p.2
  | [], _, a => by cases a; exact ⟨[], rfl, rfl⟩
  | n :: _, _, a => by
    cases a with
    | cons x r => obtain ⟨t, rfl⟩ := x; obtain ⟨ts, e, f⟩ := toks_of r; exact ⟨(n, t) :: ts, by simp [e], by simp [f]⟩
theorem preSum_eq (xs : Array (Int × Tok)) : ∀ k, k ≤ xs.size → preSum (numAt xs) k = ((xs.toList.map (·.1)).take k).sum
  | 0, _ => rfl
  | k + 1, h => by
    have q : xs[k]? = some (xs[k]'h) := Array.getElem?_eq_getElem h
    have e : (xs.toList.map (·.1))[k]? = some (xs[k]'h).1 := by rw [List.getElem?_map, Array.getElem?_toList, q]; rfl
    rw [preSum, preSum_eq xs k (Nat.le_of_succ_le h), List.take_add_one, e, List.sum_append]
    unfold numAt
    rw [q]; simp
theorem Bi.sum (hh : c.A.handled = none) : Bi c (.builtin "sum") [ls (ns.map int)] (int ns.sum) := fun s vs ok a => by
  obtain ⟨_, rfl, r⟩ := a.one
  obtain ⟨a, vs, rfl, l, _, al, _⟩ := ls_at r
  obtain ⟨ts, e, f⟩ := toks_of al
  refine sum_intListG (xs := ts.toArray) hh (by have := l.isList; rwa [show vs = intItems ts.toArray by rw [← Array.toArray_toList (xs := vs), f]; simp [intItems]] at this) fun h' tk t kp => ⟨.of ok kp, t, ?_⟩
  rw [preSum_eq _ _ (Nat.le_refl _), ← e, List.take_of_length_le (by simp)]
theorem Ev.neg (x : Ev c s e (int i)) : Ev c s (.UnaryOp .USub e pos) (int (-i)) := fun s₁ k => wpAny_UnaryOp ((x s₁ k).mono fun v s₂ ⟨k₂, t, h⟩ => by
  subst h; exact PyProof.Rows.neg_int ⟨k₂.trans (.tok k₂.ok), _, rfl⟩)

theorem one_occ {a : Nat} : x[(x.findIdx (· == a))]? = some a → ∃ r, Builtin.Str.occurrences (S x) (S [a]) 0 (S x).length 1 = x.findIdx (· == a) :: r := fun h => by
  have at_ : ∀ k, StrLaws.At (S x) (S [a]) (S x).length k ↔ x[k]? = some a := fun k => by
    have := StrLaws.subAt_one (S x) a k
    simpa [S, StrLaws.At] using this
  rcases StrLaws.occ_head (S x) (S [a]) 1 (Nat.le_refl 1) with ⟨_, hn⟩ | ⟨i, r, e, ha, hn⟩
  · exact absurd ((at_ _).mpr h) (hn _)
  · rw [at_] at ha
    have hi : i < x.length := (List.getElem?_eq_some_iff.mp ha).1
    have : x.findIdx (· == a) = i := by
      rw [List.findIdx_eq hi]
      refine ⟨by rw [(List.getElem?_eq_some_iff.mp ha).2]; exact beq_self_eq_true _, fun j hj => ?_⟩
      have := hn j hj
      rw [at_] at this
      have hj' : j < x.length := Nat.lt_trans hj hi
      rw [List.getElem?_eq_getElem hj'] at this
      simpa using this
    exact ⟨r, this ▸ e⟩
theorem Me.index {a : Nat} (h : x[(x.findIdx (· == a))]? = some a) : Me c "index" (tx x) [tx [a]] (int (x.findIdx (· == a))) :=
  ⟨"str", _, PySem.F.plainAttrs_str, PySem.F.slot_str_index, PySem.F.type_str_index, fun s v ok ⟨t, e⟩ => by
    subst e
    refine ⟨typeIs_str .., (fun _ e => nomatch e), fun vs al => ?_⟩
    obtain ⟨_, rfl, u, rfl⟩ := al.one
    obtain ⟨r, ho⟩ := one_occ h
    exact SC.index ho ⟨.tok ok, _, rfl⟩⟩
theorem strs_of {h : Heap} : ∀ {ls : List (List Nat)} {vs : List Value}, All h vs (ls.map tx) → ∃ ts : List (Str × Tok), ts.map (·.1) = ls.map S ∧ vs = strValues ts
  | [], _, a => by cases a; exact ⟨[], rfl, rfl⟩
  | n :: _, _, a => by
    cases a with
    | cons x r => obtain ⟨t, rfl⟩ := x; obtain ⟨ts, e, f⟩ := strs_of r; exact ⟨(S n, t) :: ts, by simp [e], by simp [f, strValues]⟩
theorem join_S : ∀ l : List Nat, Str.join (S []) (l.map fun k => S [k]) = S l := join_ones
theorem fold_ones : ∀ (l : List Nat) (n : Nat), (l.map fun k => S [k]).foldl (fun m (z : Str) => m + z.length + (S []).length) n = n + l.length
  | [], n => rfl
  | k :: r, n => by
    rw [List.map_cons, List.foldl_cons, fold_ones r]
    simp [S_len]; omega
theorem Me.join (h : x.length ≤ sizeLine) : Me c "join" (tx []) [ls (x.map fun a => tx [a])] (tx x) :=
  ⟨"str", _, PySem.F.plainAttrs_str, PySem.F.slot_str_join, PySem.F.type_str_join, fun s v ok ⟨t, e⟩ => by
    subst e
    refine ⟨typeIs_str .., (fun _ e => nomatch e), fun vs al => ?_⟩
    obtain ⟨_, rfl, r⟩ := al.one
    obtain ⟨a, vs, rfl, l, _, al, _⟩ := ls_at r
    obtain ⟨ts, e, f⟩ := strs_of (ls := x.map fun a => [a]) (by rw [List.map_map]; exact al)
    have l' := l.isList
    rw [← Array.toArray_toList (xs := vs), f] at l'
    rw [List.map_map] at e
    refine SC.join (texts := x.map fun a => S [a]) l' e ?_ fun t' k => ⟨.tok ok, t', ?_⟩
    · have fo : (x.map fun a => S [a]).toArray.foldl (fun m (z : Str) => m + z.length + (S []).length) 0 = x.length := by
        rw [List.foldl_toArray, fold_ones]; simp
      show (!Builtin.Str.tooLong _) = true
      rw [fo]
      simp [Builtin.Str.tooLong]; exact h
    · rw [eq_of_beq (join_closes (sep' := S []) (ys := x.map fun a => S [a]) rfl), join_S]⟩
theorem Op2.mulS {a : Nat} {n : Nat} (h : n ≤ 1000) : Op2 c .Mult (tx [a]) (int n) (tx (List.replicate n a)) := fun s v w ok ⟨t, ha⟩ ⟨u, hb⟩ => by
  subst ha hb
  have e : Txt.mul (S [a]) n = S (List.replicate n a) := by
    unfold Txt.mul
    by_cases h1 : (n : Int) < 1
    · rw [if_pos h1, show n = 0 by omega]; rfl
    · rw [if_neg h1]
      by_cases h2 : n = 1
      · subst h2; rfl
      · rw [if_neg (by simp [S, Str.length]; omega)]
        refine congrArg Str.mk ?_
        have : ∀ (m : Nat) (z : Array Nat), (List.replicate m #[a]).foldl (· ++ ·) z = z ++ (List.replicate m a).toArray := fun m => by
          induction m with
          | zero => intro z; simp
          | succ m ih => intro z; rw [List.replicate_succ, List.foldl_cons, ih, List.replicate_succ]; apply Array.ext'; simp
        simpa [S] using this n #[]
  refine SB.mul ⟨by simp; omega, fun h1 _ => ?_, fun _ _ => ?_⟩ fun t' k => ⟨.tok ok, t', by rw [e]⟩
  · rw [S_len]
    have : (1 : Int) ≤ (2 ^ 63 - 1) / (n : Int) := (Int.le_ediv_iff_mul_le (by omega)).mpr (by omega)
    exact Int.not_lt.mpr this
  · rw [S_len]; simp [Builtin.Str.tooLong, sizeLine]; omega
theorem foldl_rep (vs : Array Value) : ∀ (m : Nat) (z : Array Value), ((List.replicate m vs).foldl (fun a b => a ++ b) z).toList = z.toList ++ (List.replicate m vs.toList).flatten
  | 0, z => by simp
  | m + 1, z => by rw [List.replicate_succ, List.foldl_cons, foldl_rep vs m]; simp [List.replicate_succ]
theorem All.rep {h : Heap} {vs : List Value} (a : All h vs ds) : ∀ n, All h (List.replicate n vs).flatten (List.replicate n ds).flatten
  | 0 => .nil
  | n + 1 => by rw [List.replicate_succ, List.replicate_succ, List.flatten_cons, List.flatten_cons]; exact paired_append a (a.rep n)
theorem Op2.mulX {x : Int} (h0 : 0 ≤ x) (hn : x ≤ 1000) (h : ds.length ≤ 1000) : Op2 c .Mult (ls ds) (int x) (ls (List.replicate x.toNat ds).flatten) := fun s v w ok ra ⟨u, hb⟩ => by
  subst hb
  obtain ⟨a, vs, rfl, ⟨k, ho⟩, _, al, hz⟩ := ls_at ra
  have hm : vs.size * x.toNat ≤ 1000000 := Nat.le_trans (Nat.mul_le_mul (hz ▸ h) (show x.toNat ≤ 1000 by omega)) (by decide)
  have f0 : ¬(!Builtin.List.listFitsIndex x) = true := by simp [Builtin.List.listFitsIndex]; omega
  have f2 : ¬Builtin.List.listTooLong (vs.size * x.toNat) = true := by
    unfold Builtin.List.listTooLong; rw [decide_eq_true_eq, sizeLine_eq]; omega
  have f1 : ¬vs.size * x.toNat > (2 ^ 63 - 1) / 8 := Nat.not_lt.mpr (Nat.le_trans hm (Nat.le_of_ble_eq_true rfl))
  refine wpAny_binaryOp_repeat_ref (T := "list") (U := "int") (by decide) ⟨_, ho, rfl⟩ (fun s' => typeIs_int s' x u) noFill_list_mul F.fills_int_mul F.slot_int_rmul repeat_list F.slot_int_index.lookup
    (call_meets F.slot_int_rmul (typeIs_int s x u) F.entry_int_rmul (F.args_int_rmul_2 _ _) (int___rmul___int_list x u a vs k)
      ⟨ho, rfl, ⟨_, ho, rfl⟩, call_meets F.slot_list_mul ⟨_, ho, rfl⟩ F.entry_list_mul (F.args_list_mul_2 _ _)
        (AutoListH.list___mul___list_int_3 a vs k x u f0 f1 f2)
        ⟨ho, .push ok, ?_⟩⟩)
  have e : ((List.replicate (if vs.isEmpty = true then 0 else x.toNat) vs).foldl (fun a b => a ++ b) #[]).toList = (List.replicate x.toNat vs.toList).flatten := by
    rw [foldl_rep]
    split
    · rename_i hv
      rw [Array.isEmpty_iff.mp hv]; simp
    · simp
  have := ls_new (n := s.toks) ok (al.rep x.toNat)
  rw [← e, Array.toArray_toList] at this
  exact this
theorem Op2.mulL {n : Nat} (hn : n ≤ 1000) (h : ds.length ≤ 1000) : Op2 c .Mult (ls ds) (int n) (ls (List.replicate n ds).flatten) := by
  have := Op2.mulX (c := c) (x := n) (Int.natCast_nonneg n) (by omega) h
  rwa [Int.toNat_natCast] at this
theorem mem_S {a : Nat} : (!(Builtin.Str.occurrences (S x) (S [a]) 0 (S x).length 1).isEmpty) = decide (a ∈ x) := by
  show (!(Builtin.Str.occurrences (S x) ⟨#[a]⟩ 0 (S x).length 1).isEmpty) = _
  rw [StrLaws.found_one]
  exact decide_eq_decide.mpr (by simp [S])
theorem Cmp.inS {a : Nat} : Cmp c .In (tx [a]) (tx x) (decide (a ∈ x)) := fun s v w ok ⟨t, ha⟩ ⟨u, hb⟩ => by
  subst ha hb; exact PyProof.Rows.in_str ⟨.refl ok, by rw [mem_S]⟩
theorem Cmp.notInS {a : Nat} : Cmp c .NotIn (tx [a]) (tx x) (!decide (a ∈ x)) := fun s v w ok ⟨t, ha⟩ ⟨u, hb⟩ => by
  subst ha hb; exact PyProof.Rows.notIn_str ⟨.refl ok, by rw [mem_S]⟩

theorem EvT.and (x : EvT c s l b) (y : b = true → EvT c s r b') : EvT c s (.BoolOp .And [l, r] pos) (b && b') := fun s₁ k => wpAny_isTrue_BoolOp (wpAny_allTrue_And_cons ((x s₁ k).mono fun q s₂ h => by
  obtain ⟨k₂, rfl⟩ := h
  cases q with
  | false => exact ⟨k₂, rfl⟩
  | true => exact wpAny_allTrue_And_cons ((y rfl s₂ (k.trans k₂)).mono fun q s₃ h => by
      obtain ⟨k₃, rfl⟩ := h
      cases q with
      | false => exact ⟨k₂.trans k₃, rfl⟩
      | true => exact wpAny_allTrue_And_nil ⟨k₂.trans k₃, rfl⟩)))
theorem EvT.or (x : EvT c s l b) (y : b = false → EvT c s r b') : EvT c s (.BoolOp .Or [l, r] pos) (b || b') := fun s₁ k => wpAny_isTrue_BoolOp (wpAny_allTrue_Or_cons ((x s₁ k).mono fun q s₂ h => by
  obtain ⟨k₂, rfl⟩ := h
  cases q with
  | true => exact ⟨k₂, rfl⟩
  | false => exact wpAny_allTrue_Or_cons ((y rfl s₂ (k.trans k₂)).mono fun q s₃ h => by
      obtain ⟨k₃, rfl⟩ := h
      cases q with
      | true => exact ⟨k₂.trans k₃, rfl⟩
      | false => exact wpAny_allTrue_Or_nil ⟨k₂.trans k₃, rfl⟩)))
theorem Ev.and (x : Ev c s l (boo b)) (y : b = true → Ev c s r (boo b')) : Ev c s (.BoolOp .And [l, r] pos) (boo (b && b')) := fun s₁ k => wpAny_And2 ((x s₁ k).mono fun q s₂ h => by
  obtain ⟨k₂, rfl⟩ := h
  refine wpAny_truthy_bool ?_
  cases b with
  | false => exact ⟨k₂, rfl⟩
  | true => exact (y rfl s₂ (k.trans k₂)).mono fun _ _ z => ⟨k₂.trans z.1, z.2⟩)
theorem Ev.or (x : Ev c s l (boo b)) (y : b = false → Ev c s r (boo b')) : Ev c s (.BoolOp .Or [l, r] pos) (boo (b || b')) := fun s₁ k => wpAny_Or2 ((x s₁ k).mono fun q s₂ h => by
  obtain ⟨k₂, rfl⟩ := h
  refine wpAny_truthy_bool ?_
  cases b with
  | true => exact ⟨k₂, rfl⟩
  | false => exact (y rfl s₂ (k.trans k₂)).mono fun _ _ z => ⟨k₂.trans z.1, z.2⟩)
end
end Mine
end
section
set_option genInjectivity false
set_option genSizeOf false
open PySem PySem.W PyProof.Rows PySem.Spec
open PySem.SeqAt PySem.MeetsSeq
namespace Mine
variable [Inhabited Bnd]

/-- what is told by g is alike just if it is the same -/
def Dat {α : Type} [DecidableEq α] (n : Nat) (g : α → D) : Prop := ∀ (A : Around) (s : Shared) (U : List Addr) (x y : α) (v w : Value), A.units + n < cLine → (g x).P (hp U s) v → (g y).P (hp U s) w →
  (∀ z t, v ≠ .float z t) ∧ RcAt A s v w (decide (x = y)) ∧ (v = w → x = y)
section
variable {α : Type} [DecidableEq α] {n : Nat} {g : α → D} {A : Around} {s : Shared} {v w : Value} {b : Bool}
theorem eqAt_of (hv : ∀ z t, v ≠ .float z t) (h : RcAt A s v w b) (e : v = w → b = true) : EqAt A s v w b := fun prog w' E Q hq => by
  unfold eqBool
  refine wpAny_holding ?_
  refine wpAny_ite_split (fun hab => ?_) (fun _ => ?_)
  · have := e (eq_of_beq hab); subst this; exact wpAny_bind (wpAny_rule (wpAny_pure hq))
  · have k := wpAny_bind (h prog w' E (fun v s => wpAny (model prog w') A (truthOfDropped v) Q E s) (wpAny_truthy_bool hq))
    split
    · rename_i q; exact absurd (congrArg Prod.fst q) (hv _ _)
    · exact k
theorem Dat.eqAt (h : Dat n g) {U : List Addr} {x y : α} (hu : A.units + n < cLine) (r : (g x).P (hp U s) v) (r' : (g y).P (hp U s) w) : EqAt A s v w (decide (x = y)) :=
  let q := h A s U x y v w hu r r'; eqAt_of q.1 q.2.1 fun e => decide_eq_true (q.2.2 e)
theorem dec_S (x y : List Nat) : (S x == S y) = decide (x = y) := by
  rw [S_inj, Bool.eq_iff_iff]; simp
theorem Dat.tx : Dat 0 tx := fun A s U x y v w _ r r' => by
  obtain ⟨t, rfl⟩ := r
  obtain ⟨u, rfl⟩ := r'
  refine ⟨nofun, by rw [← dec_S]; exact RcAt.str_str _ _ _ _, fun e => ?_⟩
  have := congrArg (fun z => z.cps.toList) (Value.str.inj e).1
  simpa [S] using this
theorem Dat.byt : Dat 0 (fun l : List UInt8 => byt l.toArray) := fun A s U x y v w _ r r' => by
  obtain ⟨t, rfl⟩ := r
  obtain ⟨u, rfl⟩ := r'
  exact ⟨nofun, fun prog w E Q h => eq_bytes (by rw [show (x.toArray.toList == y.toArray.toList) = decide (x = y) by rw [Bool.eq_iff_iff]; simp]; exact h), fun e => List.toArray_inj (Value.bytes.inj e).1⟩
theorem Dat.boo : Dat 0 boo := fun A s U x y v w _ r r' => by
  cases r; cases r'
  exact ⟨nofun, RcAt.bool_bool _ _, fun e => Value.bool.inj e⟩
def opt (o : Option (List Nat)) : D := o.elim non Mine.tx
theorem Dat.opt : Dat 0 opt := fun A s U x y v w h r r' => by
  cases x with
  | none =>
    cases r
    cases y with
    | none => cases r'; exact ⟨nofun, RcAt.none_none, fun _ => rfl⟩
    | some y => obtain ⟨u, rfl⟩ := r'; exact ⟨nofun, RcAt.none_str _ _, nofun⟩
  | some x =>
    cases y with
    | none => obtain ⟨u, rfl⟩ := r; cases r'; exact ⟨nofun, RcAt.str_none _ _, nofun⟩
    | some y =>
      have := Dat.tx A s U x y v w h r r'
      exact ⟨this.1, by rw [decide_eq_decide.mpr (show some x = some y ↔ x = y by simp)]; exact this.2.1, fun e => congrArg some (this.2.2 e)⟩
theorem all_range {f : Nat → Bool} {xs ys : List α} (h : xs.length = ys.length) (hf : ∀ j (h1 : j < xs.length) (h2 : j < ys.length), f j = decide (xs[j] = ys[j])) : (List.range xs.length).all f = decide (xs = ys) := by
  rw [Bool.eq_iff_iff, List.all_eq_true, decide_eq_true_eq]
  refine ⟨fun q => List.ext_getElem h fun i h1 h2 => of_decide_eq_true ((hf i h1 h2) ▸ q i (List.mem_range.mpr h1)), fun e i hi => ?_⟩
  have h1 := List.mem_range.mp hi
  rw [hf i h1 (h ▸ h1)]
  subst e; exact decide_eq_true rfl
theorem two_lists {c : List Value} {xs : List α} {h : Heap} (al : All h c (xs.map g)) {j : Nat} (h1 : j < c.length) (h2 : j < xs.length) : (g xs[j]).P h c[j] := by
  obtain ⟨d, e, q⟩ := al.get (List.getElem?_eq_getElem h1)
  rw [List.getElem?_map, List.getElem?_eq_getElem h2] at e
  cases e; exact q
theorem Dat.ls (h : Dat n g) : Dat (n + 1) fun l : List α => ls (l.map g) := fun A s U x y v w hu r r' => by
  obtain ⟨a, vs, rfl, l, _, al, hn⟩ := ls_at r
  obtain ⟨b, ws, rfl, l', _, al', hn'⟩ := ls_at r'
  rw [List.length_map] at hn hn'
  refine ⟨nofun, ?_, fun e => ?_⟩
  · by_cases hz : x.length = y.length
    · have := RcAt.lists (A := A) (s := s) (e := fun j => if h : j < x.length ∧ j < y.length then decide (x[j] = y[j]) else true) l.isList l'.isList (by rw [hn, hn', hz]) (by omega) fun j h1 h2 => by
        have k1 : j < x.length := hn ▸ h1
        have k2 : j < y.length := hn' ▸ h2
        rw [dif_pos ⟨k1, k2⟩]
        exact h.eqAt (by show A.units + 1 + n < cLine; omega) (two_lists al h1 k1) (two_lists al' h2 k2)
      rwa [hn, all_range hz fun j k1 k2 => dif_pos ⟨k1, k2⟩] at this
    · rw [decide_eq_false fun e => hz (congrArg List.length e)]
      exact RcAt.lists_lengths l.isList l'.isList (by rw [hn, hn']; simpa using hz) (by omega)
  · cases e
    obtain ⟨k, e⟩ := l
    obtain ⟨k', e'⟩ := l'
    rw [e] at e'
    cases e'
    exact List.ext_getElem (hn.symm.trans hn') fun j h1 h2 => (h A s U x[j] y[j] (vs.toList[j]'(by simpa [hn] using h1)) _ (by omega) (two_lists al _ h1) (two_lists al' _ h2)).2.2 rfl
end

section
variable {c : Cx} {α : Type} [DecidableEq α] {n m : Nat} {g : α → D} {x y : α} {xs ys : List α}
theorem units_ok {A : Around} {m k : Nat} (R : Room A m) (h : k ≤ 800) : A.units + k < cLine := by have := R.2.2.1; show _ < 9900; omega
theorem Cmp.eqD (h : Dat n g) (R : Room c.A m) (hn : n ≤ 800 := by decide) : Cmp c .Eq (g x) (g y) (decide (x = y)) := fun s v w ok r r' =>
  (h c.A s c.U x y v w (units_ok R hn) r r').2.1 c.prog c.w _ _ ⟨.refl ok, rfl⟩
theorem Cmp.neL (h : Dat n g) (R : Room c.A m) (hn : n + 1 ≤ 800 := by decide) : Cmp c .NotEq (ls (xs.map g)) (ls (ys.map g)) (!decide (xs = ys)) := fun s v w ok r r' => by
  have hu := units_ok R hn
  obtain ⟨a, vs, rfl, l, _, al, hn⟩ := ls_at r
  obtain ⟨b, ws, rfl, l', _, al', hn'⟩ := ls_at r'
  rw [List.length_map] at hn hn'
  by_cases hz : xs.length = ys.length
  · refine RcNeAt.lists (e := fun j => if h : j < xs.length ∧ j < ys.length then decide (xs[j] = ys[j]) else true) l.isList l'.isList (by rw [hn, hn', hz]) (by omega) (fun j h1 h2 => ?_) c.prog c.w _ _ ?_
    · have k1 : j < xs.length := hn ▸ h1
      have k2 : j < ys.length := hn' ▸ h2
      rw [dif_pos ⟨k1, k2⟩]
      exact h.eqAt (by show c.A.units + 1 + n < cLine; omega) (two_lists al h1 k1) (two_lists al' h2 k2)
    · rw [hn, all_range hz fun j k1 k2 => dif_pos ⟨k1, k2⟩]
      exact ⟨.refl ok, rfl⟩
  · rw [decide_eq_false fun e => hz (congrArg List.length e)]
    exact RcNeAt.lists_lengths l.isList l'.isList (by rw [hn, hn']; simpa using hz) (by omega) c.prog c.w _ _ ⟨.refl ok, rfl⟩

open Classical in
/-- what eqBool says of a value beside what y tells -/
noncomputable def isY (g : α → D) (y : α) (h : Heap) (v : Value) : Bool := decide ((g y).P h v)
theorem isY_at {A : Around} {s : Shared} {U : List Addr} {vs : List Value} {v w : Value} (h : Dat n g) (hu : A.units + n < cLine) (al : All (hp U s) vs (xs.map g)) (r : (g y).P (hp U s) w) (m : v ∈ vs) : EqAt A s v w (isY g y (hp U s) v) := by
  obtain ⟨i, hi, e⟩ := List.getElem_of_mem m
  have hx : i < xs.length := by have := Paired.length al; rw [List.length_map] at this; omega
  have q := two_lists al hi hx
  rw [e] at q
  have k := h.eqAt hu q r
  have : isY g y (hp U s) v = decide (xs[i] = y) := by
    unfold isY
    rw [decide_eq_decide]
    exact ⟨fun z => (h A s U _ _ v v hu q z).2.2 rfl, fun z => z ▸ q⟩
  rwa [this]
theorem isY_map {A : Around} {s : Shared} {U : List Addr} (h : Dat n g) (hu : A.units + n < cLine) : ∀ {xs : List α} {vs : List Value}, All (hp U s) vs (xs.map g) → vs.map (isY g y (hp U s)) = xs.map fun x => decide (x = y)
  | [], _, a => by cases a; rfl
  | x :: xs, _, a => by
    cases a with
    | @cons v _ _ _ q a =>
      rw [List.map_cons, List.map_cons, isY_map h hu a]
      congr 1
      unfold isY
      rw [decide_eq_decide]
      exact ⟨fun z => (h A s U _ _ v v hu q z).2.2 rfl, fun z => z ▸ q⟩
theorem any_map {β : Type} (f : β → Bool) (l : List β) : l.any f = (l.map f).any id := by rw [List.any_map]; rfl
theorem isY_any {A : Around} {s : Shared} {U : List Addr} {vs : List Value} (h : Dat n g) (hu : A.units + n < cLine) (al : All (hp U s) vs (xs.map g)) : vs.any (isY g y (hp U s)) = decide (y ∈ xs) := by
  rw [any_map, isY_map h hu al, Bool.eq_iff_iff, List.any_eq_true, decide_eq_true_eq]
  simp
theorem Cmp.inL (h : Dat n g) (R : Room c.A m) (hn : n + 1 ≤ 800 := by decide) : Cmp c .In (g y) (ls (xs.map g)) (decide (y ∈ xs)) := fun s v w ok r r' => by
  have hu : c.A.in1.units + n < cLine := by have := units_ok R hn; show c.A.units + 1 + n < cLine; omega
  obtain ⟨a, vs, rfl, l, _, al, _⟩ := ls_at r'
  refine in_listAt (isY g y (hp c.U s)) l.isList (fun v m => isY_at h hu al r (by simpa using m)) ⟨.refl ok, ?_⟩
  rw [← isY_any h hu al, Array.any_toList]
theorem Cmp.notInL (h : Dat n g) (R : Room c.A m) (hn : n + 1 ≤ 800 := by decide) : Cmp c .NotIn (g y) (ls (xs.map g)) (!decide (y ∈ xs)) := fun s v w ok r r' => by
  have hu : c.A.in1.units + n < cLine := by have := units_ok R hn; show c.A.units + 1 + n < cLine; omega
  obtain ⟨a, vs, rfl, l, _, al, _⟩ := ls_at r'
  refine notIn_listAt (isY g y (hp c.U s)) l.isList (fun v m => isY_at h hu al r (by simpa using m)) ⟨.refl ok, ?_⟩
  rw [← isY_any h hu al, Array.any_toList]
theorem isY_count {A : Around} {s : Shared} {U : List Addr} {vs : List Value} (h : Dat n g) (hu : A.units + n < cLine) (al : All (hp U s) vs (xs.map g)) : vs.countP (isY g y (hp U s)) = xs.count y := by
  have : vs.countP (isY g y (hp U s)) = (vs.map (isY g y (hp U s))).countP id := by rw [List.countP_map]; rfl
  rw [this, isY_map h hu al, List.countP_map]
  exact List.countP_congr fun x _ => by simp
theorem Me.count (h : Dat n g) (R : Room c.A m) (hn : n + 1 ≤ 800 := by decide) : Me c "count" (ls (xs.map g)) [g y] (int (xs.count y)) :=
  ⟨"list", _, PySem.F.plainAttrs_list, PySem.F.slot_list_count, PySem.F.type_list_count, fun s v ok r' => by
    have hu : c.A.in1.units + n < cLine := by have := units_ok R hn; show c.A.units + 1 + n < cLine; omega
    obtain ⟨a, vs, rfl, ⟨k, ho⟩, _, al, _⟩ := ls_at r'
    refine ⟨⟨_, ho, rfl⟩, fun _ e => by cases e; exact ⟨_, ho, rfl⟩, fun ws aw => ?_⟩
    obtain ⟨w, rfl, r⟩ := aw.one
    exact call_meets PySem.F.slot_list_count ⟨_, ho, rfl⟩ PySem.F.entry_list_count (PySem.F.args_list_count_2 _ _) (list_countAt a vs k none #[] w (isY g y (hp c.U s)))
      ⟨ho, fun v m => isY_at h hu al r (by simpa using m), .tok ok, _, by rw [isY_count h hu al]⟩⟩
end
end Mine
end
section
set_option genInjectivity false
set_option genSizeOf false
open PySem PySem.W PyProof.Rows PySem.Spec
open PySem.Builtin
namespace Mine
variable [Inhabited Bnd]

theorem forIn_two {β : Type} (f : Nat → β → Sem (ForInStep β)) (a b : β) (h1 : ∀ x, f x a = pure (.yield b)) (h2 : ∀ x, f x b = pure (.done b)) : ∀ l : List Nat, l ≠ [] → forIn l a f = pure b
  | [], h => absurd rfl h
  | x :: r, _ => by
    rw [List.forIn_cons, h1, pure_bind]
    cases r with
    | nil => rfl
    | cons y r =>
      show forIn (y :: r) b f = _
      rw [List.forIn_cons, h2, pure_bind]
theorem bytes_fold : ∀ (z : List Nat) (o : Array UInt8), z.toArray.foldl (fun acc y => acc ++ (_codecs.asciiCodec.bytesOf y).toArray) o = o ++ (z.map Nat.toUInt8).toArray
  | [], o => by simp
  | y :: z, o => by
    have := bytes_fold z (o ++ (_codecs.asciiCodec.bytesOf y).toArray)
    rw [List.foldl_toArray] at this ⊢
    rw [List.foldl_cons, this]
    apply Array.ext'; simp [_codecs.asciiCodec]
/-- the bytes of the clean part, as the model reckons them -/
def clean (x : Str) : Array UInt8 := ((x.cps.extract 0 x.cps.size).extract 0 (((x.cps.extract 0 x.cps.size).findIdx? _codecs.asciiCodec.bad).getD (x.cps.extract 0 x.cps.size).size)).foldl (fun acc y => acc ++ (_codecs.asciiCodec.bytesOf y).toArray) #[]
def cleanTo (x : Str) : Nat := 0 + ((x.cps.extract 0 x.cps.size).findIdx? _codecs.asciiCodec.bad).getD (x.cps.extract 0 x.cps.size).size
theorem enc_shape (id : String) (self : Value) (x : Str) (hb : ∀ c, x.cps[0]? = some c → (!_codecs.asciiCodec.bad c) = true) (hn : (x.cps[0]?).isSome = true) (he : x.cps[cleanTo x]? = none) (hz : ¬ (clean x).size > sizeLine) (hl : List.range' 0 [0:x.length].size ≠ []) :
    _codecs.encodeNarrow id _codecs.asciiCodec none self x = pure (clean x) := by
  obtain ⟨c, hc⟩ := Option.isSome_iff_exists.mp hn
  refine (congrArg (fun (z : Sem (Nat × Array UInt8 × _codecs.Faults)) => z >>= fun r => pure r.2.1) ((Std.Legacy.Range.forIn_eq_forIn_range' [0:x.length] _ _).trans (forIn_two _ (0, #[], {}) (cleanTo x, clean x, {}) (fun k => ?_) (fun k => ?_) _ hl))).trans rfl
  · refine (if_neg (by simp)).trans ?_
    rw [show x.cps[((0 : Nat), (#[] : Array UInt8), ({} : _codecs.Faults)).fst]? = some c from hc]
    exact if_pos (hb c hc)
  · refine (if_neg hz).trans ?_
    rw [show x.cps[(cleanTo x, clean x, ({} : _codecs.Faults)).fst]? = none from he]
theorem forIn_all {β : Type} (f : Nat → β → Sem (ForInStep β)) (st : Nat → β) : ∀ (l : List Nat) (i : Nat), (∀ x j, i ≤ j → j < i + l.length → f x (st j) = pure (.yield (st (j + 1)))) → forIn l (st i) f = pure (st (i + l.length))
  | [], _, _ => rfl
  | x :: r, i, h => by
    rw [List.forIn_cons, h x i (Nat.le_refl _) (Nat.lt_add_of_pos_right (Nat.succ_pos _)), pure_bind]
    show forIn r (st (i + 1)) f = _
    rw [forIn_all f st r (i + 1) fun x j h1 h2 => h x j (Nat.le_of_succ_le h1) (by rw [List.length_cons]; omega), List.length_cons]
    congr 2; omega
def decTo (b : Array UInt8) (i : Nat) : Nat × Array Nat × _codecs.Faults := (i, ((b.toList.take i).map (·.toNat)).toArray, {})
theorem dec_shape (id : String) (b : Array UInt8) (hb : ∀ c ∈ b, c.toNat < 128) (hz : b.size ≤ sizeLine) : ∃ n, _codecs.runDecoder id _codecs.asciiDecoder none true b 0 [] = pure ((b.toList.map (·.toNat)).toArray, n) := by
  refine ⟨b.size, (congrArg (fun (z : Sem (Nat × Array Nat × _codecs.Faults)) => z >>= fun r => pure (r.2.1, r.1)) ((Std.Legacy.Range.forIn_eq_forIn_range' [0:b.size] _ _).trans (forIn_all _ (decTo b) _ 0 fun x j _ hj => ?_))).trans ?_⟩
  · have hj : j < b.size := by simpa using hj
    refine (if_neg (by simp [decTo]; omega)).trans ?_
    refine (if_neg (Nat.not_le.mpr hj)).trans ?_
    have e : _codecs.asciiDecoder.find true b j = .text [b[j].toNat] (j + 1) := by
      show (if (b.getD j 0).toNat < 128 then _ else _) = _
      rw [show b.getD j 0 = b[j] by simp [Array.getD, hj]]
      exact if_pos (hb _ (Array.getElem_mem hj))
    rw [show _codecs.asciiDecoder.find true b (decTo b j).1 = .text [b[j].toNat] (j + 1) from e]
    show pure (ForInStep.yield (j + 1, ((b.toList.take j).map (·.toNat)).toArray ++ [b[j].toNat].toArray, _)) = pure (ForInStep.yield (decTo b (j + 1)))
    unfold decTo
    rw [List.take_add_one, Array.getElem?_toList, Array.getElem?_eq_getElem hj]
    simp
  · rw [pure_bind]
    simp only [decTo, Nat.zero_add]
    rw [show (List.range' 0 [:b.size].size).length = b.toList.length by simp, List.take_length]
    simp
theorem dec_entry (c : UInt8) (cs : List UInt8) (t u : Tok) : «bytes.decode» ⟨[.bytes (c :: cs).toArray t, .str "ascii" u], []⟩ = (mkStr (PySem.Str.ofString "utf-8") >>= fun _ => mkStr "ascii" >>= fun e => mkStr (PySem.Str.ofString "bytes.decode") >>= fun d =>
    call (.builtin "_codecs.decode.text") [.bytes (c :: cs).toArray t, e, .none, d] >>= fun v => ret v) := by kernel_rfl
theorem dec_empty (t u : Tok) : «bytes.decode» ⟨[.bytes ([] : List UInt8).toArray t, .str "ascii" u], []⟩ = (rule "bytes.decode.empty" >>= fun _ => retStr Str.empty) := by kernel_rfl
theorem road (id : String) (b : Array UInt8) : _codecs.decodeRoad id b "ascii" none [] = (_codecs.runDecoder id _codecs.asciiDecoder none true b 0 [] >>= fun r => mkStr ⟨r.1⟩) := by kernel_rfl
theorem enc_entry (x : Str) (t u : Tok) : «str.encode» ⟨[.str x t, .str "ascii" u], []⟩ = ((_codecs.encodeNarrow "str.encode" _codecs.asciiCodec none (.str x t) x >>= fun b => mkBytes b) >>= fun v => ret v) := by kernel_rfl
theorem enc_empty (id : String) (self : Value) : _codecs.encodeNarrow id _codecs.asciiCodec none self (S []) = pure #[] :=
  (congrArg (fun (z : Sem (Nat × Array UInt8 × _codecs.Faults)) => z >>= fun r => pure r.2.1) ((Std.Legacy.Range.forIn_eq_forIn_range' [0:(S []).length] (0, #[], {}) _).trans (show _ = pure (0, #[], {}) from rfl))).trans rfl
/-- the table of b64encode -/
def tbl : Array UInt8 := ([(43, 45), (47, 95)] : List (UInt8 × UInt8)).foldl (fun t (p : UInt8 × UInt8) => t.setIfInBounds p.1.toNat p.2) ((Array.range 256).map (·.toUInt8))
theorem make_entry (t u : Tok) : «bytes.maketrans» ⟨[.bytes [43, 47].toArray t, .bytes [45, 95].toArray u], []⟩ = (mkBytes tbl >>= fun v => ret v) := by kernel_rfl
theorem find_make : findCls [] (.type "bytes") (.type "type") (PySem.Str.ofString "maketrans") = some (.val (.builtin "bytes.maketrans")) := by kernel_rfl
theorem trans_entry (b : Array UInt8) (t u : Tok) : «bytes.translate» ⟨[.bytes b t, .bytes tbl u], []⟩ =
   (if ((b.filter fun _ => true).map fun c => tbl.getD c.toNat c) == b then (do rule "bytes.translate.unchanged"; ret (.bytes b t)) else mkBytes ((b.filter fun _ => true).map fun c => tbl.getD c.toNat c) >>= fun v => ret v) := by kernel_rfl

def asc : List Nat := [97, 115, 99, 105, 105]
theorem slot_tr : Slot "bytes" "translate" "bytes.translate" :=
  .of (owner := "bytes") (n := "translate") (by rw [typeLookup_type, builtinLookup_eq_fast]; kernel_rfl) (by decide +kernel) (by decide +kernel) (by decide +kernel)
    (by first | exact .inl (by decide +kernel) | exact .inr (by decide +kernel)) (by rw [isSubtype_type]; kernel_rfl)
theorem type_tr : typeOf (.builtin "bytes.translate") = pure (.type "method_descriptor") := by show builtinType _ = _; rw [builtinType_eq_fast]; kernel_rfl
theorem entry_tr : entryFor PySem.table "bytes.translate" = some Builtin.«bytes.translate» := entryFor_of_tree (by kernel_rfl)
theorem args_tr (a b : Value) : argsOk "bytes.translate" ⟨[a, b], []⟩ := by
  unfold argsOk; kernel_rfl
theorem args_dec (a b : Value) : argsOk "bytes.decode" ⟨[a, b], []⟩ := by
  unfold argsOk; kernel_rfl
theorem plain_mk : plainId "bytes.maketrans" = true := by decide +kernel
theorem entry_mk : entryFor PySem.table "bytes.maketrans" = some Builtin.«bytes.maketrans» := entryFor_of_tree (by kernel_rfl)
theorem check_mk (a b : Value) : checkBuiltinCall "bytes.maketrans" ⟨[a, b], []⟩ = pure () := by kernel_rfl
theorem type_mk : typeOf (.builtin "bytes.maketrans") = pure (.type "builtin_function_or_method") := by show builtinType _ = _; rw [builtinType_eq_fast]; kernel_rfl

section
variable {c : Cx} {s : Shared} {l : List Nat} {b : List UInt8}
theorem Me.encode (h : ∀ c ∈ l, c < 128) (hz : l.length ≤ sizeLine) : Me c "encode" (tx l) [tx asc] (byt (l.map Nat.toUInt8).toArray) :=
  ⟨"str", _, PySem.F.plainAttrs_str, PySem.F.slot_str_encode, PySem.F.type_str_encode, fun s v ok ⟨t, e⟩ => by
    subst e
    refine ⟨typeIs_str .., (fun _ e => nomatch e), fun vs al => ?_⟩
    obtain ⟨_, rfl, u, rfl⟩ := al.one
    have e : _codecs.encodeNarrow "str.encode" _codecs.asciiCodec none (.str (S l) t) (S l) = pure (l.map Nat.toUInt8).toArray := by
      cases l with
      | nil => exact enc_empty _ _
      | cons a r =>
        have f : ((S (a :: r)).cps.extract 0 (S (a :: r)).cps.size).findIdx? _codecs.asciiCodec.bad = none := by
          rw [Array.findIdx?_eq_none_iff]; intro x m
          have := h x (by simpa [S] using m)
          show decide (x ≥ 128) = false
          rw [decide_eq_false_iff_not]; omega
        have q : clean (S (a :: r)) = ((a :: r).map Nat.toUInt8).toArray := by
          unfold clean
          rw [f, show (((S (a :: r)).cps.extract 0 (S (a :: r)).cps.size).extract 0 ((none : Option Nat).getD ((S (a :: r)).cps.extract 0 (S (a :: r)).cps.size).size)) = (a :: r).toArray by simp [S], bytes_fold]
          simp
        have q2 : cleanTo (S (a :: r)) = (a :: r).length := by unfold cleanTo; rw [f]; simp [S]
        rw [← q]
        refine enc_shape _ _ _ (fun c hc => ?_) rfl ?_ ?_ (by simp [S_len])
        · have : c = a := by simpa [S] using hc.symm
          subst this
          have := h c (.head _)
          show (!decide (c ≥ 128)) = true
          simp; omega
        · rw [q2]; simp [S]
        · rw [q]; simpa using hz
    refine call_meets PySem.F.slot_str_encode (typeIs_str ..) PySem.F.entry_str_encode (PySem.F.args_str_encode_2 _ _) (.of_wp (S := fun _ R s => ∀ t' k, R (.ok (.ret (.bytes (l.map Nat.toUInt8).toArray t'))) { s with toks := k }) fun prog w A R s hS => ?_) fun t' k => ⟨.tok ok, _, rfl⟩
    show wpAny _ _ («str.encode» ⟨[.str (S l) t, .str "ascii" u], []⟩) _ _ _
    rw [enc_entry, e, pure_bind]
    exact wpAny_bind (wpAny_mkBytes (wpAny_pure ⟨_, rfl, hS _ _⟩) (by simpa using hz))⟩
theorem Me.decode (h : ∀ c ∈ b, c.toNat < 128) (hz : b.length ≤ sizeLine) : Me c "decode" (byt b.toArray) [tx asc] (tx (b.map (·.toNat))) :=
  ⟨"bytes", _, FB.plainAttrs_bytes, FB.slot_bytes_decode, FB.type_bytes_decode, fun s v ok ⟨t, e⟩ => by
    subst e
    refine ⟨typeIs_bytes .., (fun _ e => nomatch e), fun vs al => ?_⟩
    obtain ⟨_, rfl, u, rfl⟩ := al.one
    refine call_meets FB.slot_bytes_decode (typeIs_bytes ..) FB.entry_bytes_decode (args_dec _ _) (.of_wp (S := fun _ R s => ∀ t' k, R (.ok (.ret (.str (S (b.map (·.toNat))) t'))) { s with toks := k }) fun prog w A R s hS => ?_) fun t' k => ⟨.tok ok, _, rfl⟩
    show wpAny _ _ («bytes.decode» ⟨[.bytes b.toArray t, .str "ascii" u], []⟩) _ _ _
    cases b with
    | nil =>
      rw [dec_empty]
      exact wpAny_bind (wpAny_rule (wpAny_bind (wpAny_mkStr (wpAny_pure ⟨_, rfl, hS _ _⟩) (by decide))))
    | cons c cs =>
      rw [dec_entry]
      refine wpAny_bind (wpAny_mkStr (wpAny_bind (wpAny_mkStr (wpAny_bind (wpAny_mkStr (wpAny_bind ?_) (by decide))) (by decide))) (by decide))
      refine call_function_meets KBd.kind_text KBd.plain_text KBd.entry_text (KBd.args_text _ _ _ _) (.of_wp (S := fun _ R s => ∀ t' k, R (.ok (.ret (.str (S ((c :: cs).map (·.toNat))) t'))) { s with toks := k }) fun prog w A R s hS => ?_) fun t' k => wpAny_pure ⟨_, rfl, hS _ _⟩
      show wpAny _ _ (Bytes.bytesLike _ (.bytes (c :: cs).toArray t) >>= fun r => _) _ _ s
      refine wpAny_bind (wpAny_of_eq KBd.like_eq ?_)
      refine wpAny_bind (wpAny_of_eq KBd.held_eq ?_)
      show wpAny _ _ (_codecs.decodeRoad _ (c :: cs).toArray "ascii" none [] >>= fun v => _) _ _ s
      obtain ⟨n, e⟩ := dec_shape (PySem.Str.ofString "bytes.decode").toString (c :: cs).toArray (by simpa using h) (by simpa using hz)
      rw [road, e, pure_bind]
      exact wpAny_bind (wpAny_mkStr (wpAny_pure ⟨_, rfl, hS _ _⟩) (by simpa [Str.length] using hz))⟩
theorem Me.translate (hz : b.length ≤ sizeLine) : Me c "translate" (byt b.toArray) [byt tbl] (byt (b.map fun c => tbl.getD c.toNat c).toArray) :=
  ⟨"bytes", _, FB.plainAttrs_bytes, slot_tr, type_tr, fun s v ok ⟨t, e⟩ => by
    subst e
    refine ⟨typeIs_bytes .., (fun _ e => nomatch e), fun vs al => ?_⟩
    obtain ⟨_, rfl, u, rfl⟩ := al.one
    have e : ((b.toArray.filter fun _ => true).map fun c => tbl.getD c.toNat c) = (b.map fun c => tbl.getD c.toNat c).toArray := by
      rw [show b.toArray.filter (fun _ => true) = b.toArray by simp [List.filter_eq_self]]; simp
    refine call_meets slot_tr (typeIs_bytes ..) entry_tr (args_tr _ _) (.of_wp (S := fun _ R s => ∀ t' k, R (.ok (.ret (.bytes (b.map fun c => tbl.getD c.toNat c).toArray t'))) { s with toks := k }) fun prog w A R s hS => ?_) fun t' k => ⟨.tok ok, _, rfl⟩
    rw [trans_entry, e]
    split
    · rename_i q
      rw [eq_of_beq q] at hS
      exact wpAny_bind (wpAny_rule (wpAny_pure ⟨_, rfl, hS t s.toks⟩))
    · exact wpAny_bind (wpAny_mkBytes (wpAny_pure ⟨_, rfl, hS _ _⟩) (by simpa using hz))⟩
theorem Bi.maketrans : Bi c (.builtin "bytes.maketrans") [byt [43, 47].toArray, byt [45, 95].toArray] (byt tbl) := fun s vs ok a => by
  cases a with
  | cons x r =>
    obtain ⟨t, rfl⟩ := x
    obtain ⟨_, rfl, u, rfl⟩ := All.one r
    refine wpAny_call (codeAny_call_builtin plain_mk entry_mk ?_)
    show wpAny _ _ (checkBuiltinCall "bytes.maketrans" ⟨[_, _], []⟩) _ _ _
    rw [check_mk]
    refine wpAny_pure ?_
    rw [make_entry]
    exact wpAny_bind (wpAny_mkBytes (wpAny_pure ⟨.tok ok, _, rfl⟩) (by decide +kernel))
/-- bytes.maketrans looked up -/
theorem get_make {pl : Sem Bool} {Q : Value × List Value → Shared → Prop} (h : Q (.builtin "bytes.maketrans", []) { s with toks := s.toks + 1 }) : Wp c (getMethod (.type "bytes") (PySem.Str.ofString "maketrans") pl) Q s := by
  have hstub : opaqueClassAbove (.type "bytes") = pure none := by unfold opaqueClassAbove; dsimp only; rw [show Manifest.isStub "bytes" = false by decide +kernel]; rfl
  have ht : typeOf (.type "bytes") = pure (.type "type") := by first | rfl | kernel_rfl
  have X : Frag.In [] s.heap := fun _ _ e => nomatch e
  have L0 : Looks (model c.prog c.w) s.heap (typeOf (.type "bytes")) (.type "type") := Looks.of_pure ht
  have hg : findIn [] (.type "type") "__getattribute__" = some (some (.builtin "type.__getattribute__")) := type_tga
  unfold getMethod specialOf
  refine wpAny_bind (wpAny_bind (L0.here ((looks_findIn X hg).here ?_)))
  dsimp only
  rw [if_pos canon_tga]
  refine wpAny_bind (wpAny_mono (Q := fun v => Q (v, [])) (E := fun _ _ => False) ?_ (fun _ _ z => wpAny_pure z) fun _ _ z => z)
  exact cls_open X (Looks.of_pure hstub) L0 hg (looks_hook X (r := none) (by rfl)) (by show subIn [] _ _ = _; rfl) find_make (wpAny_pure (by show wpAny _ _ (pure _) _ _ _; exact wpAny_pure h))
theorem Ev.make {B : Md} {F : List (Str × D)} {e : Expr} {es : List Expr} {ds : List D} {d : D} {np apos pos : Pos} (O : B.Ok) (i : B.In s) (F : FS c.U c.env s.heap F) (hn : B.mg "bytes" = none) (hv : B.mb "bytes" = some (.type "bytes")) (a : EvL c s (e :: es) ds) (m : Bi c (.builtin "bytes.maketrans") ds d)
    (k : c.env.kindOf "bytes" = some .globalImplicit := by rfl) (hfew : ((backTo pos (starEach (e :: es) c.env)).all (fun x => !x.1) && (backToKw pos (keywordEach [] c.env)).all (fun x => x.1.isSome) && decide ((e :: es).length + ([] : List Keyword).length + (if ([] : List Keyword).isEmpty then 0 else 1) < 30)) = true := by rfl)
    (hline : (apos.endLine == pos.line) = true := by rfl) (he : starEach (e :: es) c.env = (false, eval e c.env) :: starEach es c.env := by rfl) (hp : (backTo pos (starEach es c.env)).any (·.1) = false := by rfl) :
    Ev c s (.Call (.Attribute (.Name "bytes" np) "maketrans" apos) (e :: es) [] pos) d := fun s₁ q => by
  rw [arm_eval_Call]
  show Wp c (eval (.Name "bytes" np) c.env >>= _) _ s₁
  refine wpAny_bind ((Ev.bi O i F hn hv k (by decide) s₁ q).mono fun v s₂ h => ?_)
  obtain ⟨k₂, rfl⟩ := h
  refine wpAny_bind (wpAny_standAt ?_)
  have hform : methodCallForm ((e :: es).length + ([] : List Keyword).length) (backTo pos (starEach (e :: es) c.env)) (backToKw pos (keywordEach [] c.env)) = true := hfew
  have hpos : methodCallPos true (.Name "bytes" np) c.env apos pos = pure pos := by unfold methodCallPos; simp [hline]
  unfold methodCall
  rw [hform]
  refine wpAny_bind (wpAny_holding (get_make ?_))
  refine wpAny_bind (wpAny_of_eq hpos ?_)
  have k₃ : Kp c.U s₂ { s₂ with toks := s₂.toks + 1 } := .tok k₂.ok
  exact callWith_TB rfl ((a pos _ ((q.trans k₂).trans k₃)).mono fun vs s₄ h₄ => (m s₄ vs h₄.1.ok h₄.2).mono fun _ _ z => ⟨k₂.trans (k₃.trans (h₄.1.trans z.1)), z.2⟩) he hp
end
end Mine
end
section
set_option genInjectivity false
set_option genSizeOf false
open PySem PySem.W PyProof.Rows PySem.Spec
namespace Mine
variable [Inhabited Bnd]

/-! loops as statements -/
section
variable {c : Cx} {s : Shared} {test iter target : Expr} {body rest : List Stmt} {pos : Pos} {Q : Flow → Shared → Prop} {J : Nat → Shared → Prop} {K : Shared → Prop}
theorem ex_while (turn : ∀ n s, J n s → Wp c (isTrue test c.env (eval test c.env)) (fun b s₂ => if b = true then Wp c (execs body c.env) (fun f s₃ => f = .next ∧ ∃ m, m < n ∧ J m s₃) s₂ else K s₂) s)
    (n : Nat) (h0 : J n s) (fin : ∀ s', K s' → Wp c (execs rest c.env) Q s') : Wp c (execs (.While test body [] pos :: rest) c.env) Q s := by
  refine ex_cons (wpAny_While (codeAny_whileLoop J (fun n s hJ => Wp.up ((turn n s hJ).mono fun b s₂ h => ?_)) n h0))
  cases b with
  | true => exact Wp.up (Wp.mono h fun f s₃ h₃ => by obtain ⟨rfl, h₃⟩ := h₃; exact h₃)
  | false => exact Wp.up (ex_nil (fin s₂ h))
theorem ex_for {I : Addr} {wr fp : List Addr} {n : Nat} {P : Nat → Heap → Value → Prop} {St : Nat → Heap → Prop} {L : List Addr} {R : Result → Shared → Prop} (W : Itr c.prog c.w c.A target I wr fp n P St) (off : ∀ b ∈ fp, b ∉ L)
    (skip : ∀ i s s', i ≤ n → J i s → St i s.heap → Chg wr s s' → J i s')
    (turn : ∀ i v s, i < n → J i s → P i s.heap v → wpAny (model c.prog c.w) c.A (assign target c.env v) (fun _ s₂ => wpAny (model c.prog c.w) c.A (execs body c.env) (fun f s₃ => f = .next ∧ J (i + 1) s₃ ∧ Chg L s s₃) (notedBy (model c.prog c.w) c.A c.env fun e s' => R (.error e) s') s₂) (notedBy (model c.prog c.w) c.A c.env fun e s' => R (.error e) s') s)
    (h0 : J 0 s) (st : St 0 s.heap) (fin : ∀ s', J n s' → R (.ok .next) s') : codeAny (model c.prog c.w) c.A (.forLoop target (.ref I) body [] c.env) R s := by
  refine codeAny_forLoop_any (fun k s' => ∃ i, i ≤ n ∧ k = n - i ∧ J i s' ∧ St i s'.heap) (fun k s₁ H => ?_) n ⟨0, Nat.zero_le _, rfl, h0, st⟩
  obtain ⟨i, hi, rfl, j, st₁⟩ := H
  by_cases hlt : i < n
  · refine Wp.up (Wp.mono (W.item i s₁ hlt st₁) fun r s₂ h => ?_)
    obtain ⟨v, rfl, h⟩ := h
    refine Wp.up (Wp.mono h fun _ s₃ ⟨hP, st₃, k₃⟩ => ?_)
    refine wpAny_mono (turn i v s₃ hlt (skip i s₁ s₃ hi j st₁ k₃) hP) (fun _ s₄ h₄ => wpAny_mono h₄ (fun f s₅ h₅ => ?_) fun _ _ e => e) fun _ _ e => e
    obtain ⟨rfl, j₅, k₅⟩ := h₅
    exact ⟨n - (i + 1), by omega, i + 1, hlt, rfl, j₅, W.frame _ _ _ st₃ fun b m o e => k₅.keep.ex b o (off b m) e (W.nd st₃ m e)⟩
  · obtain rfl : i = n := by omega
    refine Wp.up (Wp.mono (W.done s₁ st₁) fun r s' h => ?_)
    obtain ⟨rfl, k⟩ := h
    exact Wp.up (c := c) (wpAny_execs_nil (fin s' (skip i s₁ s' hi j st₁ k)))
end

/-- a list of the frame's own, that grows: what else was known keeps -/
structure Ow (c : Cx) (a : Addr) (s₀ t s : Shared) (ρ : List (Str × D)) (ds : List D) : Prop where
  cs : CS c a s₀ s ρ ds
  ch : Chg [tb, a, c.env.locals] t s
  hU : a ∈ c.U
  na : s₀.heap.get? a = none
  nl : s₀.heap.get? c.env.locals = none
  ne : a ≠ c.env.locals
  nc : ∀ y b, c.env.cells.lookup y = some b → s₀.heap.get? b = none ∧ b ≠ a
abbrev Cx.own (c : Cx) (a : Addr) : Cx := { c with U := a :: c.U }

section
variable {c : Cx} {a : Addr} {s₀ t s s' : Shared} {ρ ρ' : List (Str × D)} {ds : List D} {d : D} {x : Str} {e : Expr} {rest : List Stmt} {pos p np apos spos : Pos} {Q : Flow → Shared → Prop}
theorem Chg.refl {L : List Addr} : Chg L s s := ⟨.all fun _ _ _ e => e, rfl, rfl⟩
theorem Kp.chg {L : List Addr} {U : List Addr} (k : Kp U s s') (h : tb ∈ L) : Chg L s s' := ⟨k.keep.mem fun z n m => n (by rw [List.mem_singleton.mp m]; exact h), k.gens, k.os⟩
theorem Chg.then {L : List Addr} {s s' s'' : Shared} (x : Chg L s s') (y : Chg L s' s'') : Chg L s s'' := x.trans y fun _ m => m.elim id id
theorem Ow.kp (O : Ow c a s₀ t s ρ ds) (k : Kp c.U s s') : Ow c a s₀ t s' ρ ds := ⟨O.cs.kp k O.hU, O.ch.then (k.chg (by simp)), O.hU, O.na, O.nl, O.ne, O.nc⟩
theorem Ow.now (O : Ow c a s₀ t s ρ ds) : Ow c a s₀ s s ρ ds := ⟨O.cs, .refl, O.hU, O.na, O.nl, O.ne, O.nc⟩
theorem Ow.from (O : Ow c a s₀ t s ρ ds) {t' : Shared} (k : Chg [tb, a, c.env.locals] t' s) : Ow c a s₀ t' s ρ ds := ⟨O.cs, k, O.hU, O.na, O.nl, O.ne, O.nc⟩
theorem Ow.tell (O : Ow c a s₀ t s ρ ds) (h : ∀ x d, ρ'.lookup x = some d → ρ.lookup x = some d) : Ow c a s₀ t s ρ' ds :=
  let F := O.cs.fs
  ⟨⟨⟨F.fn, F.gl, F.bi, let ⟨m, n, q⟩ := F.ns; ⟨m, n, fun x d e l => q x d (h x d e) l⟩, fun x d e l => F.cl x d (h x d e) l, F.cs, F.ap⟩, O.cs.ok, O.cs.base, O.cs.acc⟩, O.ch, O.hU, O.na, O.nl, O.ne, O.nc⟩
theorem tell_nil : ∀ x d, ([] : List (Str × D)).lookup x = some d → ρ.lookup x = some d := fun _ _ e => by cases e
theorem tell_cons (h : ρ.lookup x = some d) (r : ∀ x d, ρ'.lookup x = some d → ρ.lookup x = some d) : ∀ y e, ((x, d) :: ρ').lookup y = some e → ρ.lookup y = some e := fun y e q => by
  by_cases w : y = x
  · subst w; rw [List.lookup_cons_self] at q; cases q; exact h
  · rw [lookup_cons_ne w] at q; exact r y e q
theorem Ow.asg (O : Ow c a s₀ t s ρ ds) (v : Ev c s e d) (h : ∀ s', Ow c a s₀ t s' ((x, d) :: ρ) ds → Wp c (execs rest c.env) Q s') (l : c.env.kindOf x = some .local := by rfl)
    (sw : swapsWith e (some (.Name x p)) pos.line c.env = pure false := by rfl) : Wp c (execs (.Assign [.Name x p] e pos :: rest) c.env) Q s :=
  ex_cons (wpAny_Assign_Name ((v s (.refl O.cs.ok)).mono fun _ s₁ q => (O.kp q.1).cs.fs.stL q.1.ok l q.2 fun s₂ f k =>
    h s₂ ⟨(O.kp q.1).cs.stored f k O.nl O.ne.symm, (O.kp q.1).ch.then (k.chg (by simp)), O.hU, O.na, O.nl, O.ne, O.nc⟩) sw)
theorem Ow.setN {v : Value} {Q : Unit → Shared → Prop} (O : Ow c a s₀ t s ρ ds) (r : d.P (hp c.U s) v) (h : ∀ s', Ow c a s₀ t s' ((x, d) :: ρ) ds → Q () s') (l : c.env.kindOf x = some .local := by rfl) : Wp c (assign (.Name x p) c.env v) Q s :=
  wpAny_assign_Name (O.cs.fs.stL O.cs.ok l r fun s₂ f k => h s₂ ⟨O.cs.stored f k O.nl O.ne.symm, O.ch.then (k.chg (by simp)), O.hU, O.na, O.nl, O.ne, O.nc⟩)
theorem Ow.iff {q : Expr} {b : Bool} {l r : List Stmt} (O : Ow c a s₀ t s ρ ds) (v : EvT c s q b)
    (h : ∀ s', Ow c a s₀ t s' ρ ds → Wp c (execs (if b then l else r) c.env) (fun f s'' => match f with | .next => Wp c (execs rest c.env) Q s'' | f => Q f s'') s') : Wp c (execs (.If q l r pos :: rest) c.env) Q s :=
  ex_cons (wpAny_If ((v s (.refl O.cs.ok)).mono fun b' s₁ q => by
    obtain ⟨k, rfl⟩ := q
    have := h s₁ (O.kp k)
    cases b' <;> exact this))
theorem Ow.put {v : Value} {Q : Value → Shared → Prop} (O : Ow c a s₀ t s ρ ds) (r : d.P (hp c.U s) v) (hs : ds.length ≤ sizeLine) (h : ∀ s', Ow c a s₀ t s' ρ (ds ++ [d]) → Q .none s') : Wp c (call (.builtin "list.append") [.ref a, v]) Q s :=
  O.cs.put O.hU O.na O.ne (fun x b e => (O.nc x b e).2) r hs fun s' C' k => h s' ⟨C', O.ch.then ⟨k.keep.mem fun b m w => m (by rcases List.mem_cons.mp w with w | w <;> simp_all), k.gens, k.os⟩, O.hU, O.na, O.nl, O.ne, O.nc⟩
theorem Ow.app (O : Ow c a s₀ t s ρ ds) (v : Ev c s e d) (hs : ds.length ≤ sizeLine) (h : ∀ s', Ow c a s₀ t s' ρ (ds ++ [d]) → Wp c (execs rest c.env) Q s') (hx : ρ.lookup x = some (val (.ref a)) := by rfl) (l : c.env.kindOf x = some .local := by rfl)
    (hd : (x == ("__debug__" : Str)) = false := by decide) (hbase : attributeBase (.Name x np) "append" c.env (eval (.Name x np) c.env) = eval (.Name x np) c.env := by rfl)
    (hfew : ((backTo pos (starEach [e] c.env)).all (fun x => !x.1) && (backToKw pos (keywordEach [] c.env)).all (fun x => x.1.isSome) && decide ([e].length + ([] : List Keyword).length + (if ([] : List Keyword).isEmpty then 0 else 1) < 30)) = true := by rfl)
    (hline : (apos.endLine == pos.line) = true := by rfl) (he : starEach [e] c.env = [(false, eval e c.env)] := by rfl) (hi : interactive c.env = false := by rfl) (hsw : swapsWith (.Call (.Attribute (.Name x np) "append" apos) [e] [] pos) none spos.line c.env = pure false := by rfl) :
    Wp c (execs (.Expr (.Call (.Attribute (.Name x np) "append" apos) [e] [] pos) spos :: rest) c.env) Q s := by
  refine ex_cons (wpAny_Expr_any ?_ hi hsw)
  refine wpAny_Call_method hbase hfew hline PySem.F.plainAttrs_list PySem.F.slot_list_append PySem.F.type_list_append (((FS.loc O.cs.fs hx l hd) s (.refl O.cs.ok)).mono fun v' s₂ q => ?_)
  obtain ⟨k, rfl⟩ := q
  have O₂ := O.kp k
  obtain ⟨vs, ⟨n, e₂⟩, _⟩ := O₂.cs.acc
  refine ⟨⟨_, e₂, rfl⟩, fun _ z => by cases z; exact ⟨_, e₂, rfl⟩, callWith_method1 (wpAny_items_cons ((v s₂ k).mono fun u s₃ q => wpAny_items_nil ?_) he) he⟩
  exact (O₂.kp q.1).put q.2 hs h

/-- the frame, seen past more -/
theorem FS.hide {L U U' : List Addr} {env : Env} (F : FS U env s.heap ρ) (k : Chg L s s') (sq : KpS (hp U s) (hp U' s')) (hl : env.locals ∉ L) (hc : ∀ x a, env.cells.lookup x = some a → a ∉ L) : FS U' env s'.heap ρ where
  fn := F.fn
  gl := F.gl
  bi := F.bi
  ns := let ⟨m, n, q⟩ := F.ns; ⟨m, k.keep.ns hl n, fun x d e l => let ⟨v, e, r⟩ := q x d e l; ⟨v, e, d.mono sq r⟩⟩
  cl := fun x d e l => let ⟨a, v, e, ⟨o, i, j⟩, r⟩ := F.cl x d e l; ⟨a, v, e, ⟨o, k.keep.ex _ _ (hc x a e) i (by rw [j]; nofun), j⟩, d.mono sq r⟩
  cs := fun x a e => let ⟨v, o, i, j⟩ := F.cs x a e; ⟨v, o, k.keep.ex _ _ (hc x a e) i (by rw [j]; nofun), j⟩
  ap := F.ap
/-- a fresh list -/
def EvNew (c : Cx) (s : Shared) (e : Expr) (ds : List D) : Prop := ∀ s₁, Kp c.U s s₁ → Wp c (eval e c.env) (fun v s₂ => ∃ sx, Kp c.U s₁ sx ∧ Kp c.U sx s₂ ∧ ∃ a vs, v = .ref a ∧ sx.heap.get? a = none ∧ s₂.heap.PlainList a vs ∧ All (hp c.U sx) vs.toList ds) s₁
theorem EvNew.nil : EvNew c s (.List [] pos) [] := fun s₁ k => wpAny_List (wpAny_items_nil ⟨Nat.zero_le _, _, .refl k.ok, .push k.ok, _, _, rfl, Heap.get?_none_of_le (Nat.le_refl _), ⟨_, Heap.get?_push_size _ rfl⟩, .nil⟩)
theorem Fm.own (F : Fm c s₀ s ρ) (ev : EvNew c s e ds) (h : ∀ a s', Ow (c.own a) a s₀ s' s' ((x, val (.ref a)) :: ρ) ds → Wp (c.own a) (execs rest (c.own a).env) Q s') (l : c.env.kindOf x = some .local := by rfl)
    (sw : swapsWith e (some (.Name x p)) pos.line c.env = pure false := by rfl) : Wp c (execs (.Assign [.Name x p] e pos :: rest) c.env) Q s := by
  refine ex_cons (wpAny_Assign_Name ((ev s (.refl F.kp.ok)).mono fun v s₂ q => ?_) sw)
  obtain ⟨sx, kx, k, a, vs, rfl, hn, ⟨n, hl⟩, al⟩ := q
  replace F := F.at kx
  have sq : KpS (hp c.U sx) (hp (a :: c.U) s₂) := fun b o e c' ⟨vs, n, d⟩ => by
    have e' := of_hideAll _ e
    refine hideAll_get _ (k.keep.x b o (k.ok0.tab.ne e' (by rw [d]; nofun)) e' (by rw [d]; nofun)) fun m => ?_
    rcases List.mem_cons.mp m with m | m
    · rw [m, hn] at e'; cases e'
    · rw [hideAll_none _ m] at e; cases e
  obtain ⟨ps, et, tt⟩ := id k.ok0.tab
  have at_ : a ≠ tb := fun w => by rw [w, et] at hn; cases hn
  have lt : c.env.locals ≠ tb := fun w => by
    obtain ⟨m, ⟨o, es, ep, e, d, _⟩, _⟩ := F.fs.ns
    rw [w, et] at e; cases e; cases d
  have ct : ∀ y b, c.env.cells.lookup y = some b → b ≠ tb ∧ b ≠ a := fun y b e => by
    obtain ⟨v, o, e, d⟩ := F.fs.cs y b e
    exact ⟨fun w => (by rw [w, et] at e; cases e; cases d), fun w => (by rw [w, hn] at e; cases e)⟩
  have f₂ : FS (a :: c.U) c.env s₂.heap ρ := F.fs.hide (k.chg (List.mem_singleton_self tb)) sq (fun m => lt (List.mem_singleton.mp m)) (fun x b e m => (ct x b e).1 (List.mem_singleton.mp m))
  have ok₂ : Ok (a :: c.U) s₂.heap := ⟨k.ok.tab, fun b m => by
    rcases List.mem_cons.mp m with rfl | m
    · exact ⟨at_, _, hl⟩
    · exact k.ok.at_ b m⟩
  have n₀ : s₀.heap.get? a = none := by
    cases q : s₀.heap.get? a with
    | none => rfl
    | some o => obtain ⟨_, w⟩ := F.kp.keep.there (ntb at_) q; rw [w] at hn; cases hn
  have al₂ : a ≠ c.env.locals := fun w => by
    obtain ⟨m, ⟨o, es, ep, e, _⟩, _⟩ := F.fs.ns
    rw [← w, hn] at e; cases e
  have C₂ : CS (c.own a) a s₀ s₂ ρ ds := ⟨f₂, ok₂, ⟨F.kp.keep.trans k.keep fun _ n => ⟨n, n⟩, k.gens.trans F.kp.gens, k.os.trans F.kp.os⟩, vs, ⟨n, hl⟩, al.mono sq⟩
  have nc : ∀ y b, c.env.cells.lookup y = some b → s₀.heap.get? b = none ∧ b ≠ a := fun y b e => ⟨F.nc y b e, (ct y b e).2⟩
  exact FS.stL (c := c.own a) f₂ ok₂ l (d := val (.ref a)) rfl fun s₃ f k₃ => h a s₃ ⟨C₂.stored f k₃ F.nl al₂.symm, .refl, .head _, n₀, F.nl, al₂, nc⟩
theorem Wp.un {β : Type} {m : Sem β} {Q : β → Shared → Prop} (h : Wp c m Q s) : Wp (c.own a) m Q s := h
/-- the list is let out again: it grows no more -/
theorem Ow.release (O : Ow (c.own a) a s₀ t s ρ ds) (ok0 : Ok c.U s₀.heap) (hx : ρ.lookup x = some (val (.ref a)) := by rfl) (l : c.env.kindOf x = some .local := by rfl) : Fm c s₀ s ((x, ls ds) :: ρ) := by
  have sq : KpS (hp (a :: c.U) s) (hp c.U s) := fun b o e _ _ => hideAll_get _ (of_hideAll _ e) fun m => by rw [hideAll_none _ (List.mem_cons_of_mem _ m)] at e; cases e
  have ok : Ok c.U s.heap := ⟨O.cs.ok.tab, fun b m => O.cs.ok.at_ b (.tail _ m)⟩
  have kp : Kp c.U s₀ s := ⟨O.cs.base.keep, ok0, ok, O.cs.base.gens, O.cs.base.os⟩
  have aU : a ∉ c.U := fun m => by
    obtain ⟨_, o, e⟩ := ok0.at_ a m
    rw [O.na] at e; cases e
  have F : FS c.U c.env s.heap ρ := FS.hide (env := c.env) O.cs.fs (L := []) .refl sq (by simp) (by simp)
  obtain ⟨vs, ⟨n, el⟩, al⟩ := O.cs.acc
  have r : (ls ds).P (hp c.U s) (.ref a) := ⟨a, vs, rfl, ⟨n, hideAll_get _ el aU⟩, al.mono sq⟩
  refine ⟨⟨F.fn, F.gl, F.bi, ?_, fun y d e l' => ?_, F.cs, F.ap⟩, kp, O.nl, fun y b e => (O.nc y b e).1⟩
  · obtain ⟨m, n, q⟩ := F.ns
    refine ⟨m, n, fun y d e l' => ?_⟩
    by_cases w : y = x
    · subst w
      rw [List.lookup_cons_self] at e; cases e
      obtain ⟨v, e, hv⟩ := q y _ hx l
      exact ⟨v, e, by cases hv; exact r⟩
    · rw [lookup_cons_ne w] at e; exact q y d e l'
  · have w : y ≠ x := fun w => by subst w; rw [l] at l'; cases l'
    rw [lookup_cons_ne w] at e; exact F.cl y d e l'
end
end Mine
end
section
set_option genInjectivity false
set_option genSizeOf false
open PySem PySem.W PyProof.Rows PySem.Spec
namespace Mine
variable [Inhabited Bnd]

section
variable {c : Cx} {a : Addr} {s₀ t s s' : Shared} {ρ ρ' : List (Str × D)} {ds : List D} {d : D} {x : Str} {iter : Expr} {body rest : List Stmt} {pos p : Pos} {Q : Flow → Shared → Prop}
theorem Ow.kpS (O : Ow c a s₀ t s ρ ds) (k : Chg [tb, a, c.env.locals] s s') : KpS (hp c.U s) (hp c.U s') := fun b o e hc ⟨vs, n, hd⟩ => by
  have hU : b ∉ c.U := fun m => by rw [hideAll_none _ m] at e; cases e
  have e' := of_hideAll _ e
  refine hideAll_get _ (k.keep.ex b o (fun m => ?_) e' (by rw [hd]; nofun)) hU
  rcases List.mem_cons.mp m with w | m
  · exact O.cs.ok.tab.ne e' (by rw [hd]; nofun) w
  rcases List.mem_cons.mp m with w | m
  · exact hU (w ▸ O.hU)
  · obtain ⟨_, ⟨o', es, ep, q, hd', _⟩, _⟩ := O.cs.fs.ns
    rw [List.mem_singleton.mp m, q] at e'; cases e'
    rw [hd] at hd'; cases hd'
theorem KpS.trans {h h' h'' : Heap} (x : KpS h h') (y : KpS h' h'') : KpS h h'' := fun b o e c d => y b o (x b o e c d) c d
theorem KpS.refl {h : Heap} : KpS h h := fun _ _ e _ _ => e

/-- a for over told items, its answers told by R -/
theorem Ow.forR {α : Type} {xs : List α} {g : α → D} {R : Result → Shared → Prop} (O : Ow c a s₀ t s ρ ds) (it : EvIt c s iter (.Name x p) xs.length (Over xs (Plain g))) (σ : List α → List (Str × D)) (out : List α → List D)
    (h0 : ∀ y d, (σ []).lookup y = some d → ρ.lookup y = some d) (ho : out [] = ds)
    (turn : ∀ i y s, xs[i]? = some y → Ow c a s₀ s s ((x, g y) :: σ (xs.take i)) (out (xs.take i)) →
      wpAny (model c.prog c.w) c.A (execs body c.env) (fun f s' => f = .next ∧ Ow c a s₀ s s' (σ (xs.take (i + 1))) (out (xs.take (i + 1)))) (notedBy (model c.prog c.w) c.A c.env fun e s' => R (.error e) s') s)
    (fin : ∀ s', Ow c a s₀ s' s' (σ xs) (out xs) → R (.ok .next) s') (l : c.env.kindOf x = some .local := by rfl) (hs : ∀ x, foldedSetIterable iter c.env x = pure x := by intro _; rfl) :
    ∀ {E : Value → Shared → Prop} {Q : Flow → Shared → Prop}, (∀ r s', R r s' → match r with | .ok f => Q f s' | .error e => cameBackBy (model c.prog c.w) c.A c.env E e s') → wpAny (model c.prog c.w) c.A (exec (.For (.Name x p) iter body [] pos) c.env) Q E s := fun {E Q} hR => by
  refine wpAny_For ?_ hs
  refine Wp.up ((it s (.refl O.cs.ok)).mono fun v sx h => ?_)
  obtain ⟨s₂, k₂, _, h⟩ := h
  refine Wp.up (Wp.mono h fun iv s₃ h => ?_)
  obtain ⟨k₃, I, wr, fp, St, rfl, W, st, hfp, hwr⟩ := h
  have O₃ := (O.kp k₂).kp k₃
  have kd := W.kinds 0 _ st
  have off : ∀ b ∈ fp, b ∉ [tb, a, c.env.locals] := fun b m w => by
    obtain ⟨o, e, c1, c2, _⟩ := kd b m
    rcases List.mem_cons.mp w with w | w
    · obtain ⟨ps, e', _⟩ := k₃.ok.tab
      rw [w, e'] at e; cases e; exact c1 rfl
    rcases List.mem_cons.mp w with w | w
    · exact hfp b m (w ▸ O.hU)
    · obtain ⟨_, ⟨o', es, ep, q, hd', _⟩, _⟩ := O₃.cs.fs.ns
      rw [List.mem_singleton.mp w, q] at e; cases e; exact c2 _ _ hd'
  have nw : ∀ b ∈ wr, s₀.heap.get? b = none := fun b m => by
    cases q : s₀.heap.get? b with
    | none => rfl
    | some o =>
      by_cases w : b = tb
      · exact absurd (by rw [w]; exact .head _) (off b (W.sub b m))
      · obtain ⟨_, this⟩ := (O.kp k₂).cs.base.keep.there (fun m => w (List.mem_singleton.mp m)) q
        rw [hwr b m] at this; cases this
  have := ex_for (c := c) (target := .Name x p) (body := body) (R := R) (L := [tb, a, c.env.locals]) (J := fun i s => Ow c a s₀ s s (σ (xs.take i)) (out (xs.take i)) ∧ KpS (hp c.U s₂) (hp c.U s)) W off (fun i s s' hi j sti k => ?_) (fun i v s hi j hP => ?_) ⟨by
      rw [List.take_zero, ho]; exact (O₃.tell h0).now, k₃.keep.seq k₃.ok0.tab⟩ st (fun s' j => fin s' (by simpa using j.1))
  · refine codeAny_mono this fun r s' q => hR r s' q
  · have sq : KpS (hp c.U s) (hp c.U s') := fun b o e hc ⟨_, _, hd⟩ => hideAll_get _ (k.keep.ex b o (fun m => by
      obtain ⟨o', e', _, _, _, q⟩ := W.kinds i _ sti b (W.sub b m)
      rw [of_hideAll _ e] at e'; cases e'; exact q m hc) (of_hideAll _ e) (by rw [hd]; nofun)) fun m => by rw [hideAll_none _ m] at e; cases e
    exact ⟨⟨j.1.cs.step W sti hfp j.1.hU nw k, .refl, j.1.hU, j.1.na, j.1.nl, j.1.ne, j.1.nc⟩, j.2.trans sq⟩
  · obtain ⟨y, e, r⟩ := hP
    refine Wp.up (j.1.setN (d := g y) ((g y).mono j.2 r) (fun s₄ O₄ => ?_) l)
    refine wpAny_mono (turn i y s₄ e O₄.now) (fun f s₅ h => ?_) fun _ _ z => z
    obtain ⟨rfl, O₅⟩ := h
    have k₅ : Chg [tb, a, c.env.locals] s s₅ := O₄.ch.then O₅.ch
    exact ⟨rfl, ⟨O₅.now, j.2.trans (j.1.kpS k₅)⟩, k₅⟩
theorem Ow.for {α : Type} {xs : List α} {g : α → D} (O : Ow c a s₀ t s ρ ds) (it : EvIt c s iter (.Name x p) xs.length (Over xs (Plain g))) (σ : List α → List (Str × D)) (out : List α → List D)
    (h0 : ∀ y d, (σ []).lookup y = some d → ρ.lookup y = some d) (ho : out [] = ds)
    (turn : ∀ i y s, xs[i]? = some y → Ow c a s₀ s s ((x, g y) :: σ (xs.take i)) (out (xs.take i)) → Wp c (execs body c.env) (fun f s' => f = .next ∧ Ow c a s₀ s s' (σ (xs.take (i + 1))) (out (xs.take (i + 1)))) s)
    (fin : ∀ s', Ow c a s₀ s' s' (σ xs) (out xs) → Wp c (execs rest c.env) Q s') (l : c.env.kindOf x = some .local := by rfl) (hs : ∀ x, foldedSetIterable iter c.env x = pure x := by intro _; rfl) :
    Wp c (execs (.For (.Name x p) iter body [] pos :: rest) c.env) Q s :=
  ex_cons (O.forR it σ out h0 ho (R := fun r s' => match r with | .ok .next => Wp c (execs rest c.env) Q s' | _ => False) (fun i y s e O' => Wp.up (turn i y s e O')) fin l hs fun r s' q => by
    match r, q with
    | .ok .next, q => exact q)
end
end Mine
end
section
set_option genInjectivity false
set_option genSizeOf false
open PySem PySem.W PyProof.Rows PySem.Spec PySem.Calls
namespace Mine
variable [Inhabited Bnd]

/-- a def of the module, without defaults -/
def DefAt (B : Md) (name : Str) (params : Arguments) (body : List Stmt) (scope : Scope) : Prop :=
  ∃ a pm cd doc o, B.mg name = some (.ref a) ∧ B.g.get? a = some o ∧ o.data = .func (docDef name params body scope pm cd doc) ∧ B.g.CodeRec cd name
/-- where a def's body is run -/
abbrev dEnv (name : Str) (params : Arguments) (body : List Stmt) (scope : Scope) (pm cd doc : Value) (L a : Addr) : Env := callEnvC (docDef name params body scope pm cd doc) L a
abbrev dCx (prog : Program) (w : World) (A : Around) (U : List Addr) (T : prog.given.tree = none) (env : Env) : Cx := ⟨prog, w, A.deeper env, env, U, T⟩
theorem zip_snd {xs : List Str} {vs : List Value} (h : vs.length = xs.length) : (xs.zip vs).map (·.2) = vs := List.map_snd_zip (Nat.le_of_eq h)
theorem zip_fst {xs : List Str} {vs : List Value} (h : vs.length = xs.length) : (xs.zip vs).map (·.1) = xs := List.map_fst_zip (Nat.le_of_eq h.symm)

theorem Fun.of {B : Md} (O : B.Ok) {name : Str} {params : Arguments} {body : List Stmt} {scope : Scope} {n : Nat} {args : List D} {d : D} (xs : List Str) (Df : DefAt B name params body scope)
    (hb : ∀ vs pm cd doc, vs.length = xs.length → bindArgs (docDef name params body scope pm cd doc) ⟨vs, []⟩ = pure (xs.zip vs)) (hlen : args.length = xs.length)
    (hkind : ∀ n, ∀ x ∈ xs, scope.names.lookup x = some .local ∨ (scope.names.lookup x = some .cell ∧ ((cellsFrom n scope.names []).lookup x).isSome = true))
    (hco : scope.isCoroutine = false) (hge : scope.isGenerator = false) (hk : scope.kind = .function)
    (hcel : ∀ n x d, ((xs.zip args).reverse).lookup x = some d → scope.names.lookup x = some .cell → ∃ c, (cellsFrom n scope.names []).lookup x = some c)
    (run : ∀ prog w A U T pm cd doc L a s₀ s, B.In s₀ → Room (A.deeper (dEnv name params body scope pm cd doc L a)) n → OnTop (A.deeper (dEnv name params body scope pm cd doc L a)) → Fm (dCx prog w A U T (dEnv name params body scope pm cd doc L a)) s₀ s (xs.zip args).reverse →
      Wp (dCx prog w A U T (dEnv name params body scope pm cd doc L a)) (execs body (dEnv name params body scope pm cd doc L a)) (fun fl s' => Gives U d s₀ (retOf fl) s') s) : Fun B name (n + 1) args d := by
  obtain ⟨a, pm, cd, doc, o, hm, ho, hd, hc⟩ := Df
  have fa : FnAt a B.g := by
    obtain ⟨c1, d1, dt, sl⟩ := o
    cases (show dt = _ from hd)
    exact ⟨_, _, _, _, ho⟩
  refine ⟨a, hm, fa, fun U prog w A s vs T R I ok al => ?_⟩
  have hl : vs.length = xs.length := (Paired.length al).trans hlen
  refine call_def (T := T) R ok (I.obj ho (by rw [hd]; nofun)) hd (I.lim O.lim) (I.code hc) rfl (BindsTo.of_eq (hb vs pm cd doc hl)) (ds := args) (by rw [zip_snd hl]; exact al) rfl rfl rfl (fun n x hx => ?_) hco hge hk (fun n x d e => ?_) fun L s₁ F => ?_
  · have : x.1 ∈ xs := (zip_fst hl) ▸ List.mem_map_of_mem hx
    exact hkind n x.1 this
  · rw [zip_fst hl] at e; exact hcel n x d e
  · rw [zip_fst hl] at F
    exact run prog w A U T pm cd doc L a s s₁ I R.deeper (let ⟨l, e⟩ := R.2.2.2; ⟨_, l, Around.frames_deeper e, hge, hco, rfl, rfl⟩) F

abbrev pw : Program := PySem.Challenge.pw_ik0153_01
def stm (i : Nat) : Stmt := (pw.main.body[i]?).getD (.Pass ⟨0, 0, 0, 0⟩)
def dParams : Stmt → Arguments
  | .FunctionDef _ a .. => a
  | _ => ⟨[], [], none, [], [], none, []⟩
def dBody : Stmt → List Stmt
  | .FunctionDef _ _ b .. => b
  | _ => []
def dScope : Stmt → Scope
  | .FunctionDef _ _ _ _ _ _ s .. => s
  | _ => ⟨.module, [], false, false, []⟩
abbrev Dd (B : Md) (name : Str) (i : Nat) : Prop := DefAt B name (dParams (stm i)) (dBody (stm i)) (dScope (stm i))
def alpha : List Nat := "ABCDEFGHIJKLMNOPQRSTUVWXYZabcdefghijklmnopqrstuvwxyz0123456789-_".toList.map Char.toNat
end Mine
end
section
set_option genInjectivity false
set_option genSizeOf false
open PySem PySem.W PyProof.Rows PySem.Spec PySem.Calls
namespace Mine
variable [Inhabited Bnd]

theorem Clos.nil {c : Cx} : Clos c [] := ⟨fun _ m => (by cases m), List.nodup_nil⟩
theorem Clos.one {c : Cx} {x : Str} {a : Addr} (h : c.env.cells.lookup x = some a) : Clos c [(x, a)] := ⟨fun _ m => by cases List.mem_singleton.mp m; exact h, by simp⟩
theorem Clos.two {c : Cx} {x y : Str} {a b : Addr} (h : c.env.cells.lookup x = some a) (h' : c.env.cells.lookup y = some b) (n : x ≠ y) : Clos c [(x, a), (y, b)] :=
  ⟨fun _ m => by rcases List.mem_cons.mp m with rfl | m; exact h; cases List.mem_singleton.mp m; exact h', by simpa using n⟩
theorem Clos.three {c : Cx} {x y z : Str} {a b d : Addr} (h : c.env.cells.lookup x = some a) (h' : c.env.cells.lookup y = some b) (h'' : c.env.cells.lookup z = some d) (n : x ≠ y) (n' : x ≠ z) (n'' : y ≠ z) : Clos c [(x, a), (y, b), (z, d)] :=
  ⟨fun _ m => by
    rcases List.mem_cons.mp m with rfl | m; exact h
    rcases List.mem_cons.mp m with rfl | m; exact h'
    cases List.mem_singleton.mp m; exact h'', by simp; exact ⟨⟨n, n'⟩, n''⟩⟩

section
variable {c : Cx} {s₀ s : Shared} {ρ ρ' : List (Str × D)} {scope : Scope} {cl : List (Str × Addr)} {target iter elt q : Expr} {pos : Pos} {α : Type} {xs : List α} {P : α → Heap → Heap → Value → Prop} {bnd : α → List (Str × D)} {f : α → D} {t : α → Bool}
theorem flat_one {β : Type} (f : α → β) : ∀ xs : List α, xs.flatMap (fun x => [f x]) = xs.map f
  | [] => rfl
  | x :: xs => by rw [List.flatMap_cons, flat_one f xs]; rfl
theorem flat_if {β : Type} (f : α → β) (t : α → Bool) : ∀ xs : List α, xs.flatMap (fun x => if t x then [f x] else []) = (xs.filter t).map f
  | [] => rfl
  | x :: xs => by
    rw [List.flatMap_cons, flat_if f t xs]
    cases h : t x
    · rw [List.filter_cons_of_neg (by simp [h])]; rfl
    · rw [List.filter_cons_of_pos h]; rfl
theorem CompEv.map (F : FS c.U c.env s₀.heap ρ) (hcl : Clos c cl) (caps : Caps c scope cl ρ ρ') (it : EvIt c s₀ iter target xs.length (Over xs P)) (asg : AsgX c s₀ scope cl ρ' target P bnd)
    (el : ∀ x ∈ xs, ∀ C acc s, Here c s₀ scope cl (bnd x ++ ρ') C acc s → Ev (cIn c scope cl C acc) s elt (f x)) (hN : xs.length ≤ sizeLine)
    (hb : ∀ x y, (ρ'.lookup y).isSome = true → (bnd x).lookup y = none) (hclos : closureFor scope c.env = pure cl := by rfl) (hk : scope.kind = .function := by rfl) (hnames : ∀ x ∈ scope.names, x.2 = .local → scope.names.lookup x.1 = some .local := by decide)
    (hs : ∀ x, foldedSetIterable iter c.env x = pure x := by intro _; rfl) : CompEv c s₀ elt [⟨target, iter, [], 0⟩] scope pos (ls (xs.map f)) := by
  rw [← flat_one]
  exact CompEv.of F hclos hcl caps it asg Eqn.one (fun x h => EltOk.emit (el x h)) (by rw [flat_one, List.length_map]; exact hN) hb hk hnames hs
theorem CompEv.filter (F : FS c.U c.env s₀.heap ρ) (hcl : Clos c cl) (caps : Caps c scope cl ρ ρ') (it : EvIt c s₀ iter target xs.length (Over xs P)) (asg : AsgX c s₀ scope cl ρ' target P bnd)
    (te : ∀ x ∈ xs, ∀ C acc s, Here c s₀ scope cl (bnd x ++ ρ') C acc s → EvT (cIn c scope cl C acc) s q (t x)) (el : ∀ x ∈ xs, t x = true → ∀ C acc s, Here c s₀ scope cl (bnd x ++ ρ') C acc s → Ev (cIn c scope cl C acc) s elt (f x)) (hN : xs.length ≤ sizeLine)
    (hb : ∀ x y, (ρ'.lookup y).isSome = true → (bnd x).lookup y = none) (hclos : closureFor scope c.env = pure cl := by rfl) (hk : scope.kind = .function := by rfl) (hnames : ∀ x ∈ scope.names, x.2 = .local → scope.names.lookup x.1 = some .local := by decide)
    (hs : ∀ x, foldedSetIterable iter c.env x = pure x := by intro _; rfl) : CompEv c s₀ elt [⟨target, iter, [q], 0⟩] scope pos (ls ((xs.filter t).map f)) := by
  rw [← flat_if]
  exact CompEv.of F hclos hcl caps it asg Eqn.test (fun x h => EltOk.emitIf (te x h) (el x h)) (by rw [flat_if, List.length_map]; exact Nat.le_trans (List.length_filter_le ..) hN) hb hk hnames hs
/-- no name of ρ' is bound by the target x -/
theorem apart {x : Str} {g : α → D} (h : ρ'.lookup x = none) : ∀ (a : α) y, (ρ'.lookup y).isSome = true → ([(x, g a)] : List (Str × D)).lookup y = none := fun a y e => by
  by_cases w : y = x
  · subst w; rw [h] at e; cases e
  · exact lookup_cons_ne w
end

theorem Here.in_ {B : Md} (O : B.Ok) {c : Cx} {s₀ s : Shared} {scope : Scope} {cl : List (Str × Addr)} {ρ : List (Str × D)} {C acc : Addr} (H : Here c s₀ scope cl ρ C acc s) (I : B.In s₀) : B.In s := O.to I H.keep
/-- what kind of name a parameter is -/
def PK (scope : Scope) (x : Str) : Prop := scope.names.lookup x = some .local ∨ (scope.names.lookup x = some .cell ∧ ∀ n, ((cellsFrom n scope.names []).lookup x).isSome = true)
section
variable {B : Md} {name x y : Str} {params : Arguments} {body : List Stmt} {scope : Scope} {n : Nat} {d d1 d2 : D}
theorem PK.kind (k : PK scope x) (n : Nat) : scope.names.lookup x = some .local ∨ (scope.names.lookup x = some .cell ∧ ((cellsFrom n scope.names []).lookup x).isSome = true) := k.elim .inl fun k => .inr ⟨k.1, k.2 n⟩
theorem PK.cell (k : PK scope x) (h : scope.names.lookup x = some .cell) (n : Nat) : ∃ c, (cellsFrom n scope.names []).lookup x = some c := k.elim (fun k => by rw [h] at k; cases k) fun k => Option.isSome_iff_exists.mp (k.2 n)
theorem Fun.of0 (O : B.Ok) (Df : DefAt B name params body scope) 
    (run : ∀ prog w A U T pm cd doc L a s₀ s, B.In s₀ → Room (A.deeper (dEnv name params body scope pm cd doc L a)) n → OnTop (A.deeper (dEnv name params body scope pm cd doc L a)) → Fm (dCx prog w A U T (dEnv name params body scope pm cd doc L a)) s₀ s [] →
      Wp (dCx prog w A U T (dEnv name params body scope pm cd doc L a)) (execs body (dEnv name params body scope pm cd doc L a)) (fun fl s' => Gives U d s₀ (retOf fl) s') s)
    (hb : ∀ pm cd doc, bindArgs (docDef name params body scope pm cd doc) ⟨[], []⟩ = pure [] := by intro _ _ _; rfl) (hco : scope.isCoroutine = false := by rfl) (hge : scope.isGenerator = false := by rfl) (hk : scope.kind = .function := by rfl) : Fun B name (n + 1) [] d :=
  Fun.of O [] Df (fun vs pm cd doc h => by cases vs with | nil => exact hb _ _ _ | cons => cases h) rfl (fun _ _ h => by cases h) hco hge hk (fun _ _ _ e => by cases e) run
theorem Fun.of1 (O : B.Ok) (x : Str) (Df : DefAt B name params body scope) (k : PK scope x)
    (run : ∀ prog w A U T pm cd doc L a s₀ s, B.In s₀ → Room (A.deeper (dEnv name params body scope pm cd doc L a)) n → OnTop (A.deeper (dEnv name params body scope pm cd doc L a)) → Fm (dCx prog w A U T (dEnv name params body scope pm cd doc L a)) s₀ s [(x, d1)] →
      Wp (dCx prog w A U T (dEnv name params body scope pm cd doc L a)) (execs body (dEnv name params body scope pm cd doc L a)) (fun fl s' => Gives U d s₀ (retOf fl) s') s)
    (hb : ∀ v pm cd doc, bindArgs (docDef name params body scope pm cd doc) ⟨[v], []⟩ = pure [(x, v)] := by intro _ _ _ _; rfl) (hco : scope.isCoroutine = false := by rfl) (hge : scope.isGenerator = false := by rfl) (hk : scope.kind = .function := by rfl) : Fun B name (n + 1) [d1] d :=
  Fun.of O [x] Df (fun vs pm cd doc h => by cases vs with | nil => cases h | cons a r => cases r with | nil => exact hb _ _ _ _ | cons => cases h) rfl (fun n y h => by cases List.mem_singleton.mp h; exact k.kind n) hco hge hk
    (fun n y d e h => by
      by_cases w : y = x
      · subst w; exact k.cell h n
      · change List.lookup y [(x, d1)] = some d at e
        rw [lookup_cons_ne w] at e; cases e) run
theorem Fun.of2 (O : B.Ok) (x y : Str) (Df : DefAt B name params body scope) (k : PK scope x) (k' : PK scope y)
    (run : ∀ prog w A U T pm cd doc L a s₀ s, B.In s₀ → Room (A.deeper (dEnv name params body scope pm cd doc L a)) n → OnTop (A.deeper (dEnv name params body scope pm cd doc L a)) → Fm (dCx prog w A U T (dEnv name params body scope pm cd doc L a)) s₀ s [(y, d2), (x, d1)] →
      Wp (dCx prog w A U T (dEnv name params body scope pm cd doc L a)) (execs body (dEnv name params body scope pm cd doc L a)) (fun fl s' => Gives U d s₀ (retOf fl) s') s)
    (hb : ∀ v u pm cd doc, bindArgs (docDef name params body scope pm cd doc) ⟨[v, u], []⟩ = pure [(x, v), (y, u)] := by intro _ _ _ _ _; rfl) (hco : scope.isCoroutine = false := by rfl) (hge : scope.isGenerator = false := by rfl) (hk : scope.kind = .function := by rfl) : Fun B name (n + 1) [d1, d2] d :=
  Fun.of O [x, y] Df (fun vs pm cd doc h => by
    cases vs with
    | nil => cases h
    | cons a r => cases r with
      | nil => cases h
      | cons b r => cases r with
        | nil => exact hb _ _ _ _ _
        | cons => cases h) rfl (fun n z h => by
      rcases List.mem_cons.mp h with rfl | h
      · exact k.kind n
      · cases List.mem_singleton.mp h; exact k'.kind n) hco hge hk
    (fun n z d e h => by
      change List.lookup z [(y, d2), (x, d1)] = some d at e
      by_cases w : z = y
      · subst w; exact k'.cell h n
      · rw [lookup_cons_ne w] at e
        by_cases w : z = x
        · subst w; exact k.cell h n
        · rw [lookup_cons_ne w] at e; cases e) run
/-- the names of the built-in world that the text uses -/
structure Nm (B : Md) : Prop where
  bytes : B.mg "bytes" = none ∧ B.mb "bytes" = some (.type "bytes")
  range : B.mg "range" = none ∧ B.mb "range" = some (.type "range")
  list : B.mg "list" = none ∧ B.mb "list" = some (.type "list")
  str : B.mg "str" = none ∧ B.mb "str" = some (.type "str")
  bool : B.mg "bool" = none ∧ B.mb "bool" = some (.type "bool")
  type : B.mg "type" = none ∧ B.mb "type" = some (.type "type")
  zip : B.mg "zip" = none ∧ B.mb "zip" = some (.type "zip")
  len : B.mg "len" = none ∧ B.mb "len" = some (.builtin "len")
  sum : B.mg "sum" = none ∧ B.mb "sum" = some (.builtin "sum")
  inst : B.mg "isinstance" = none ∧ B.mb "isinstance" = some (.builtin "isinstance")
  verr : B.mg "ValueError" = none ∧ B.mb "ValueError" = some (.type "ValueError")
end
theorem Bi.bytes' {c : Cx} {ds : List D} {ns : List Int} (e : ds = ns.map int) (hh : c.A.handled = none) (h : ∀ n ∈ ns, 0 ≤ n ∧ n < 256) (hz : ns.length ≤ sizeLine) : Bi c (.type "bytes") [ls ds] (byt (byteArr ns)) := e ▸ Bi.bytes hh h hz
theorem Bi.sum' {c : Cx} {ds : List D} {ns : List Int} (e : ds = ns.map int) (hh : c.A.handled = none) : Bi c (.builtin "sum") [ls ds] (int ns.sum) := e ▸ Bi.sum hh
theorem EvIt.rangeL {B : Md} {c : Cx} {s : Shared} {ρ : List (Str × D)} {e : Expr} {y : Str} {pos np p : Pos} {n : Nat} (hh : c.A.handled = none) (O : B.Ok) (N : Nm B) (i : B.In s) (F : FS c.U c.env s.heap ρ) (v : Ev c s e (int n)) (hN : n < 4611686018427387904)
    (k : c.env.kindOf "range" = some .globalImplicit := by rfl) (he : starEach [e] c.env = [(false, eval e c.env)] := by rfl) :
    EvIt c s (.Call (.Name "range" np) [e] [] pos) (.Name y p) (List.range n).length (Over (List.range n) (Plain fun i => int (i : Nat))) := by
  rw [List.length_range]
  exact EvIt.range hh O i F N.range.1 N.range.2 v hN k he
end Mine
end
section
set_option genInjectivity false
set_option genSizeOf false
open PySem PySem.W PyProof.Rows PySem.Spec PySem.Calls
namespace Mine
variable [Inhabited Bnd]

/-! a comprehension with two for clauses -/
theorem compStart_at {prog : Program} {w : World} {A : Around} {R : Result → Shared → Prop} {s : Shared} {elt : Expr} {gens : List Comprehension} {g : Comprehension} {scope : Scope} {pos : Pos} {it acc : Value} {env : Env} {dep : Nat} (hg : gens[dep]? = some g) (ha : g.is_async = 0)
    (h0 : codeAny (model prog w) A (.compLoop (.ListComp elt gens scope pos) dep it acc env) R s)
    (h : wpAny (model prog w) A (pyIter it) (fun it' s' => codeAny (model prog w) A (.compLoop (.ListComp elt gens scope pos) dep it' acc env) R s') (notedBy (model prog w) A env fun x s' => R (.error x) s') s) :
    codeAny (model prog w) A (.compStart (.ListComp elt gens scope pos) dep it acc env) R s := by
  refine codeAny_of_tree ?_
  show wpAny _ _ ((compStart (.ListComp elt gens scope pos) dep it acc env).onRaise (fun x => do noteFrame x env; standAt theWindowsPlace)) _ _ s
  refine wpAny_notedAt ?_
  unfold compStart
  rw [show (clausesOf (.ListComp elt gens scope pos))[dep]? = some g from hg]
  simp only [Option.elim_some, ha]
  show wpAny _ _ (ask >>= _) _ _ s
  refine wpAny_bind (wpAny_askSetting (wpAny_ite ?_))
  split
  · first
      | exact wpAny_bind (wpAny_pure (wpAny_pure (And.intro rfl h0)))
      | exact wpAny_pure (And.intro rfl h0)
  · first
      | exact wpAny_bind (wpAny_rule (wpAny_bind (wpAny_standAt (wpAny_bind (wpAny_mono h (fun it' s' h' => wpAny_pure (And.intro rfl h')) fun _ _ x => x)))))
      | (refine wpAny_bind (wpAny_rule ?_); show wpAny _ _ (standAt g.iter.pos >>= _) _ _ s; exact wpAny_bind (wpAny_standAt (wpAny_bind (wpAny_mono h (fun it' s' h' => wpAny_pure (And.intro rfl h')) fun _ _ x => x))))

abbrev nest (e iter2 : Expr) (env : Env) (acc : Addr) : Sem Unit := eval iter2 env >>= fun x => standAt iter2.pos >>= fun _ => foldedSetIterable iter2 env x >>= fun x => holding [x] (pyIter x) >>= fun it => runOwn (.compStart e 1 it (.ref acc) env) env >>= fun _ => pure ()
theorem Eqn.two {elt target iter target2 iter2 : Expr} {scope : Scope} {pos : Pos} : Eqn elt target iter [] [⟨target2, iter2, [], 0⟩] scope pos iter.pos (nest (.ListComp elt [⟨target, iter, [], 0⟩, ⟨target2, iter2, [], 0⟩] scope pos) iter2) := fun I acc env => by
  show (standAt iter.pos >>= fun _ => pyNext (.ref I) >>= fun r => _) = _
  refine bind_congr fun _ => bind_congr fun r => ?_
  cases r with
  | none => rfl
  | some v =>
    refine bind_congr fun _ => bind_congr fun _ => ?_
    simp only [Mine.nest, bind_assoc, pure_bind]
    rfl
theorem eqn_in {elt target iter target2 iter2 : Expr} {scope : Scope} {pos : Pos} {I acc : Addr} {env : Env} : compTurn (.ListComp elt [⟨target, iter, [], 0⟩, ⟨target2, iter2, [], 0⟩] scope pos) 1 (.ref I) (.ref acc) env = (standAt iter2.pos >>= fun _ => pyNext (.ref I) >>= fun r => match r with
      | none => pure (.done .next)
      | some v => letOwnedTupleGo target2 (.ref I) v >>= fun _ => assign target2 env v >>= fun _ => emit elt env acc >>= fun _ => again (.compLoop (.ListComp elt [⟨target, iter, [], 0⟩, ⟨target2, iter2, [], 0⟩] scope pos) 1 (.ref I) (.ref acc) env)) := by rfl

section
variable {c : Cx} {s₀ : Shared} {ρ' : List (Str × D)} {scope : Scope} {cl : List (Str × Addr)} {target iter elt iter2 : Expr} {pos p2 : Pos} {k2 : Str} {α β : Type} {bnd : α → List (Str × D)} {ys : List β} {num : β → Int} {f : β → D} {x : α}
theorem EltOk.nest (it2 : ∀ C acc s, Here c s₀ scope cl (bnd x ++ ρ') C acc s → EvIt (cIn c scope cl C acc) s iter2 (.Name k2 p2) ys.length (Over ys (Plain fun y => int (num y))))
    (el : ∀ y ∈ ys, ∀ C acc s, Here c s₀ scope cl ((k2, int (num y)) :: (bnd x ++ ρ')) C acc s → Ev (cIn c scope cl C acc) s elt (f y)) (hk2 : (bnd x ++ ρ').lookup k2 = none) (l : (relabel scope c.env).names.lookup k2 = some .local := by rfl)
    (hs : ∀ C acc v, foldedSetIterable iter2 (cIn c scope cl C acc).env v = pure v := by intro _ _ _; rfl) :
    EltOk c s₀ scope cl ρ' bnd (Mine.nest (.ListComp elt [⟨target, iter, [], 0⟩, ⟨.Name k2 p2, iter2, [], 0⟩] scope pos) iter2) x (ys.map f) := fun C acc own s₂ s res I hl H S => by
  refine wpAny_bind ((it2 C acc s H s (.refl S.ok)).mono fun v sx h => ?_)
  obtain ⟨s₃, k₃, _, h⟩ := h
  refine wpAny_bind (wpAny_standAt (wpAny_bind (wpAny_of_eq (hs C acc v) (wpAny_bind (wpAny_holding (Wp.mono h fun iv s₄ h => ?_))))))
  obtain ⟨k₄, J, wr, fp, St, rfl, W, st, hfp, hwr⟩ := h
  have S₄ := (S.kp k₃ (.head _)).kp k₄ (.head _)
  have kd := W.kinds 0 _ st
  have ftb : ∀ b ∈ fp, b ≠ tb := fun b m w => by
    obtain ⟨o, e, q, _⟩ := kd b m
    obtain ⟨ps, e', _⟩ := k₄.ok.tab
    rw [w, e'] at e; cases e; exact q rfl
  have fown : ∀ b ∈ fp, b ∉ own := fun b m w => by
    obtain ⟨o, e, _, q1, q2, _⟩ := kd b m
    rcases I.kown b w with w | ⟨y, w⟩
    · obtain ⟨m', ⟨o', es, ep, e', d, _⟩, _⟩ := S₄.fs.ns
      rw [w, show C = (cIn c scope cl C acc).env.locals from rfl, e'] at e; cases e; exact q1 _ _ d
    · obtain ⟨v, o', e', d⟩ := S₄.fs.cs y b w
      rw [e'] at e; cases e; exact q2 _ d
  have fresh : ∀ b ∈ wr, s.heap.get? b = none := fun b m => by
    cases q : s.heap.get? b with
    | none => rfl
    | some o =>
      obtain ⟨_, this⟩ := k₃.keep.there (ntb (ftb b (W.sub b m))) q
      rw [hwr b m] at this; cases this
  have nw : ∀ b ∈ wr, s₂.heap.get? b = none := fun b m => by
    cases q : s₂.heap.get? b with
    | none => rfl
    | some o =>
      obtain ⟨_, this⟩ := S.base.keep.there (fun w => ftb b (W.sub b m) (List.mem_singleton.mp w)) q
      rw [fresh b m] at this; cases this
  let bnd' : Nat → List (Str × D) := fun i => (ys[i]?).elim [] fun y => [(k2, int (num y))]
  have hout : (List.range ys.length).flatMap (fun i => (ys[i]?).elim [] fun y => [f y]) = ys.map f := by rw [range_flat, flat_one]
  have loop := comp_loop (c := cIn c scope cl C acc) (dep := 1) (own := own) (bnd := bnd') (out := fun i => (ys[i]?).elim [] fun y => [f y]) W (eqn_in (target := target) (iter := iter) (elt := elt) (scope := scope) (pos := pos) (iter2 := iter2)) hfp (.head _) nw (fun b m => ⟨fown b m, ftb b m⟩)
    (fun i v s res hi S r => by
      obtain ⟨y, e, t, rfl⟩ := r
      have hC : C ∈ own := I.hC
      simp only [bnd', e, Option.elim_some]
      exact wpAny_assign_Name (S.fs.stL S.ok l (d := int (num y)) ⟨t, rfl⟩ fun _ f k => ⟨S.stored f k (I.hown _ hC) (fun w => I.nacc (w ▸ hC)), k.chg hC⟩))
    (fun i y h => by
      simp only [bnd']
      cases q : ys[i]? with
      | none => rfl
      | some a => exact apart (ρ' := bnd x ++ ρ') (g := fun y => int (num y)) hk2 a y h)
    (fun i s res hi hl S => by
      have e : ys[i]? = some ys[i] := List.getElem?_eq_getElem hi
      simp only [bnd', e, Option.elim_some] at hl S ⊢
      have H' : Here c s₀ scope cl ((k2, int (num ys[i])) :: (bnd x ++ ρ')) C acc s := ⟨S.fs, S.ok, I.from_.keep.trans S.base.keep fun _ n => ⟨n, n⟩⟩
      exact S.add (.head _) I.hacc (fun w => I.nacc (w ▸ I.hC)) (fun y a e => (I.hcell y a e).1) (el _ (List.getElem_mem hi) C acc s H') (Nat.le_of_succ_le hl)
        fun s' S' k => ⟨S', ⟨k.keep.mem fun b m q => m (by rcases List.mem_cons.mp q with q | q <;> simp_all), k.gens, k.os⟩⟩)
    S₄ st (by rw [hout]; exact hl)
  have fin : codeAny (model c.prog c.w) c.A (.compLoop (.ListComp elt [⟨target, iter, [], 0⟩, ⟨.Name k2 p2, iter2, [], 0⟩] scope pos) 1 (.ref J) (.ref acc) (cIn c scope cl C acc).env)
      (fun r s' => match r with | .ok fl => Wp (cIn c scope cl C acc) (pure ()) (fun _ s' => CS (cIn c scope cl C acc) acc s₂ s' (bnd x ++ ρ') (res ++ ys.map f) ∧ Chg (tb :: acc :: own) s s') s' | .error e => cameBackBy (model c.prog c.w) c.A (cIn c scope cl C acc).env (fun _ _ => False) e s') s₄ := codeAny_mono loop fun r s' h => by
    obtain ⟨⟨fl, rfl⟩, S', k'⟩ := h
    rw [hout] at S'
    refine wpAny_pure ⟨S', ⟨((k₃.keep.trans k₄.keep fun _ n => ⟨n, n⟩).mem (Y := tb :: acc :: own) fun b m q => m (by rw [List.mem_singleton.mp q]; exact .head _)).but k'.keep fun b q m => ?_, k'.gens.trans (k₄.gens.trans k₃.gens), k'.os.trans (k₄.os.trans k₃.os)⟩⟩
    rcases List.mem_cons.mp q with q | q
    · exact absurd (by simp [q]) m
    rcases List.mem_cons.mp q with q | q
    · exact absurd (by simp [q]) m
    rcases List.mem_append.mp q with q | q
    · exact absurd (by simp [q]) m
    · exact fresh b q
  exact wpAny_bind (wpAny_runOwn (compStart_at (g := ⟨.Name k2 p2, iter2, [], 0⟩) rfl rfl fin (Wp.up (W.self 0 s₄ _ st fin))))
end
end Mine
end
section
set_option genInjectivity false
set_option genSizeOf false
open PySem PySem.W PyProof.Rows PySem.Spec PySem.Calls
namespace Mine
variable [Inhabited Bnd]
theorem Ev.is {c : Cx} {s : Shared} {e : Expr} {d d' : D} (h : d = d') (x : Ev c s e d) : Ev c s e d' := h ▸ x
abbrev lsI (ns : List Int) : D := ls (ns.map int)
theorem rangeSize_six {b : Int} (h : 0 ≤ b) : Builtin.Range.rangeSize 0 b 6 = (b + 5) / 6 := by
  unfold Builtin.Range.rangeSize
  rw [if_pos (by decide)]
  split <;> omega
theorem small_six {b : Int} (h : 0 ≤ b) (h' : b < 6000000) : Builtin.Range.small 0 b 6 = true := by
  unfold Builtin.Range.small
  rw [rangeSize_six h]
  simp only [Builtin.Range.rangeFitsLong, Bool.and_eq_true, Bool.or_eq_true, decide_eq_true_eq, beq_iff_eq, show (6 : Int) > 0 by decide, if_true]
  omega
theorem EvIt.range6 {B : Md} {c : Cx} {s : Shared} {ρ : List (Str × D)} {e : Expr} {y : Str} {pos np p p1 p3 : Pos} {k1 k3 n : Nat} (hh : c.A.handled = none) (O : B.Ok) (N : Nm B) (i : B.In s) (F : FS c.U c.env s.heap ρ) {b : Int} (v : Ev c s e (int b)) (hb : b = 6 * (n : Int)) (hN : n < 1000000)
    (k : c.env.kindOf "range" = some .globalImplicit := by rfl) (he : starEach [.Constant (.int 0) k1 p1, e, .Constant (.int 6) k3 p3] c.env = (false, eval (.Constant (.int 0) k1 p1) c.env) :: starEach [e, .Constant (.int 6) k3 p3] c.env := by rfl)
    (he2 : starEach [e, .Constant (.int 6) k3 p3] c.env = (false, eval e c.env) :: starEach [.Constant (.int 6) k3 p3] c.env := by rfl) (he3 : starEach [.Constant (.int 6) k3 p3] c.env = [(false, eval (.Constant (.int 6) k3 p3) c.env)] := by rfl)
    (hp : (backTo pos (starEach [e, .Constant (.int 6) k3 p3] c.env)).any (·.1) = false := by rfl) :
    EvIt c s (.Call (.Name "range" np) [.Constant (.int 0) k1 p1, e, .Constant (.int 6) k3 p3] [] pos) (.Name y p) (List.range n).length (Over (List.range n) (Plain fun i => int (6 * (i : Nat)))) := fun s₁ q => by
  rw [List.length_range]
  refine wpAny_Call_ofName ((Ev.bi O i F N.range.1 N.range.2 k (by decide) s₁ q).mono fun u s₂ h => ?_)
  obtain ⟨k₂, rfl⟩ := h
  refine callWith_type1 ((EvL.cons Ev.cInt (EvL.cons v (EvL.cons Ev.cInt EvL.nil he3) he2) he pos s₂ (q.trans k₂)).mono fun vs s₃ h => ?_) he hp
  obtain ⟨k₃, al⟩ := h
  cases al with
  | cons a al =>
    obtain ⟨t1, rfl⟩ := a
    cases al with
    | cons a al =>
      obtain ⟨t2, rfl⟩ := a
      obtain ⟨_, rfl, t3, rfl⟩ := All.one al
      have hs : Builtin.Range.rangeSize 0 b 6 = n := (rangeSize_six (by omega)).trans (by omega)
      have sm : Builtin.Range.small 0 b 6 = true := small_six (by omega) (by omega)
      refine call_range_3 (by decide) ⟨_, k₂.trans (k₃.trans (.push k₃.ok)), .refl (k₃.trans (.push k₃.ok)).ok, Wp.mono (range_ok (y := y) (p := p) (a := 0) (b := b) (st := 6) (n := n) hh (k₃.trans (.push k₃.ok)).ok sm hs (.new ..)) fun it s₅ h => ?_⟩ (.inl (PyProof.noPylong_small (by decide)))
      obtain ⟨k₅, I, wr, fp, St, e1, W, r⟩ := h
      exact ⟨k₅, I, wr, fp, St, e1, W.weaken fun i _ v _ ⟨j, e, t, e'⟩ => ⟨j, e, t, by rw [e']; congr 1; omega⟩, r⟩
theorem Idx.ints {c : Cx} {ns : List Int} {i v : Int} {n : Nat} (hi : i = (n : Nat)) (h : ns[n]? = some v) (hn : (n : Int) < 2 ^ 63) : Idx c (lsI ns) (int i) (int v) := by
  subst hi; exact Idx.list (by rw [List.getElem?_map, h]; rfl) hn
theorem CompEv.is {c : Cx} {s : Shared} {elt : Expr} {gens : List Comprehension} {scope : Scope} {pos : Pos} {d d' : D} (h : d = d') (x : CompEv c s elt gens scope pos d) : CompEv c s elt gens scope pos d' := h ▸ x
theorem pow2_small : ∀ m, m < 8 → ((2 : Int) ^ m).natAbs < 1073741824 ∧ (2 : Int) ^ m ≠ 0 := by decide
theorem pow2_bits : ∀ m, m < 8 → Builtin.Int.intBits ((2 : Int) ^ m) ≤ 64 := by decide +kernel
theorem Op2.is {c : Cx} {op : Operator} {d1 d2 d2' d : D} (h : d2' = d2) (x : Op2 c op d1 d2 d) : Op2 c op d1 d2' d := h ▸ x
theorem Idx.txI {c : Cx} {x : List Nat} {i : Int} {n a : Nat} (hi : i = (n : Nat)) (h : x[n]? = some a) (hn : (n : Int) < 2 ^ 63) : Idx c (Mine.tx x) (int i) (Mine.tx [a]) := by
  subst hi; exact Idx.tx h hn
end Mine
end
section
set_option genInjectivity false
set_option genSizeOf false
open PySem PySem.W PyProof.Rows PySem.Spec PySem.Calls
namespace Mine
variable [Inhabited Bnd]

/-! zip of two things of one length -/
structure ZA (z TI TO i1 i2 : Addr) (fp1 fp2 : List Addr) : Prop where
  TIz : TI ≠ z
  TOz : TO ≠ z
  i1z : i1 ≠ z
  i2z : i2 ≠ z
  TITO : TI ≠ TO
  TIi1 : TI ≠ i1
  TIi2 : TI ≠ i2
  TOi1 : TO ≠ i1
  TOi2 : TO ≠ i2
  i12 : i1 ≠ i2
  z1 : z ∉ fp1
  z2 : z ∉ fp2
  t1 : TO ∉ fp1
  t2 : TO ∉ fp2
  i1f : i1 ∉ fp2
  i2f : i2 ∉ fp1

section
variable {prog : Program} {w : World} {A : Around} {E : Value → Shared → Prop} {s : Shared} {z TI TO i1 i2 : Addr} {fp1 fp2 : List Addr} {n k : Nat} {P1 P2 : Nat → Value → Prop} {St1 St2 : Nat → Heap → Prop} {a b : Value}
theorem Draws.but {c : Addr} {h h' : Heap} (D : Draws prog w A i1 fp1 n P1 St1) (st : St1 k h) (x : Heap.SameBut c h h') (hc : c ∉ fp1) : St1 k h' := D.frame _ _ _ st fun b m o e => x.extBut b o (fun q => hc (q ▸ m)) e
theorem zipD_item {Q : Value → Shared → Prop} (D1 : Draws prog w A i1 fp1 n P1 St1) (D2 : Draws prog w A i2 fp2 n P2 St2) (Z : ZA z TI TO i1 i2 fp1 fp2) (hz : IsZip s.heap z TI TO .none) (hTI : IsPair s.heap TI (.ref i1) (.ref i2)) (hTO : IsPair s.heap TO a b) (st1 : St1 k s.heap) (st2 : St2 k s.heap) (hk : k < n)
    (hQ : ∀ (x y : Value) (T : Addr) (h' : Heap) (tk : Nat), P1 k x → P2 k y → IsZip h' z TI TO (rawInt T) → IsPair h' TI (.ref i1) (.ref i2) → IsPair h' TO x y → IsPair h' T x y → s.heap.objs.size ≤ T → St1 (k + 1) h' → St2 (k + 1) h' → (∀ c o, c ≠ z → c ≠ TO → c ≠ i1 → c ≠ i2 → s.heap.get? c = some o → h'.get? c = some o) → Q (.ref T) { s with heap := h', toks := tk }) :
    wpAny (model prog w) A (Builtin.«zip.__next__» ⟨[.ref z], []⟩) (fun fin s' => ∃ v, fin = .done (.ret v) ∧ Q v s') E s := by
  show wpAny _ _ (field (.ref z) 2 >>= _) _ _ _
  refine wpAny_bind (wpAny_field hz rfl (x := .bool false) rfl ?_)
  show wpAny _ _ (field (.ref z) 3 >>= _) _ _ _
  refine wpAny_bind (wpAny_field hz rfl (x := .ref TI) rfl ?_)
  refine wpAny_bind (wpAny_seqItems hTI rfl ?_)
  show wpAny _ _ (Builtin.SmallTypes.ownedTupleIsFree (.ref z) >>= _) _ _ _
  refine wpAny_bind ?_
  unfold Builtin.SmallTypes.ownedTupleIsFree
  refine wpAny_bind (wpAny_field hz rfl (x := .none) rfl (wpAny_pure ?_))
  simp only [if_true]
  refine wpAny_bind (wpAny_rule ?_)
  refine wpAny_bind (wpAny_field hz rfl (x := .ref TO) rfl ?_)
  refine wpAny_bind (wpAny_setField_rec hz (by simp) fun h₁ hz₁ hs₁ => ?_)
  replace hz₁ : IsZip h₁ z TI TO .ellipsis := hz₁
  refine wpAny_bind ?_
  simp only [List.zipIdx_cons, List.zipIdx_nil, List.forIn_cons, List.forIn_nil]
  refine wpAny_bind (wpAny_bind (wpAny_onRaise ?_))
  show wpAny _ _ (Builtin.SmallTypes.nextOf (.ref i1) >>= _) _ _ _
  refine wpAny_bind (D1.item k _ _ _ hk (Draws.but D1 st1 hs₁ Z.z1) fun x h₂ tk₂ hx st1₂ hs₂ => wpAny_pure ?_)
  have hTO₂ : IsPair h₂ TO a b := hs₂.extBut _ _ Z.TOi1 (hs₁.extBut _ _ Z.TOz hTO)
  refine wpAny_bind (wpAny_seqItems hTO₂ rfl ?_)
  refine wpAny_bind (wpAny_updateSeq_pair hTO₂ fun h₃ hTO₃ hs₃ => ?_)
  replace hTO₃ : IsPair h₃ TO x b := hTO₃
  refine wpAny_bind (wpAny_letGo (wpAny_pure ?_))
  refine wpAny_bind (wpAny_bind (wpAny_onRaise ?_))
  show wpAny _ _ (Builtin.SmallTypes.nextOf (.ref i2) >>= _) _ _ _
  refine wpAny_bind (D2.item k _ _ _ hk (Draws.but D2 (Draws.but D2 (Draws.but D2 st2 hs₁ Z.z2) hs₂ Z.i1f) hs₃ Z.t2) fun y h₄ tk₄ hy st2₄ hs₄ => wpAny_pure ?_)
  have hTO₄ : IsPair h₄ TO x b := hs₄.extBut _ _ Z.TOi2 hTO₃
  refine wpAny_bind (wpAny_seqItems hTO₄ rfl ?_)
  refine wpAny_bind (wpAny_updateSeq_pair hTO₄ fun h₅ hTO₅ hs₅ => ?_)
  replace hTO₅ : IsPair h₅ TO x y := hTO₅
  refine wpAny_bind (wpAny_letGo (wpAny_pure (wpAny_pure ?_)))
  refine wpAny_bind (wpAny_seqItems hTO₅ rfl ?_)
  refine wpAny_bind (wpAny_newTuple ?_)
  have hsz : h₅.objs.size = s.heap.objs.size := by rw [hs₅.1, hs₄.1, hs₃.1, hs₂.1, hs₁.1]
  have hk₅ : ∀ c o, c ≠ z → c ≠ TO → c ≠ i1 → c ≠ i2 → s.heap.get? c = some o → h₅.get? c = some o := fun c o c1 c2 c3 c4 e =>
    hs₅.extBut _ _ c2 (hs₄.extBut _ _ c4 (hs₃.extBut _ _ c2 (hs₂.extBut _ _ c3 (hs₁.extBut _ _ c1 e))))
  have hz₅ : IsZip h₅ z TI TO .ellipsis := hs₅.extBut _ _ Z.TOz.symm (hs₄.extBut _ _ Z.i2z.symm (hs₃.extBut _ _ Z.TOz.symm (hs₂.extBut _ _ Z.i1z.symm hz₁)))
  have hTI₅ : IsPair h₅ TI (.ref i1) (.ref i2) := hk₅ _ _ Z.TIz Z.TITO Z.TIi1 Z.TIi2 hTI
  have st1₅ : St1 (k + 1) h₅ := Draws.but D1 (Draws.but D1 (Draws.but D1 st1₂ hs₃ Z.t1) hs₄ Z.i2f) hs₅ Z.t1
  have st2₅ : St2 (k + 1) h₅ := Draws.but D2 st2₄ hs₅ Z.t2
  have hzlt : z < h₅.objs.size := Heap.lt_size hz₅
  show wpAny _ _ (Builtin.SmallTypes.ownedTupleHandOut (.ref z) (.ref h₅.objs.size) >>= _) _ _ _
  refine wpAny_bind ?_
  unfold Builtin.SmallTypes.ownedTupleHandOut
  have hz₆ : IsZip (h₅.push { cls := .type "tuple", data := .seq #[x, y] }) z TI TO .ellipsis := Heap.get?_push_of_some _ hz₅
  refine wpAny_bind (wpAny_setField_rec hz₆ (by simp) fun h₇ hz₇ hs₇ => ?_)
  replace hz₇ : IsZip h₇ z TI TO (rawInt h₅.objs.size) := hz₇
  refine wpAny_setField_rec hz₇ (by simp) fun h₈ hz₈ hs₈ => ?_
  replace hz₈ : IsZip h₈ z TI TO (rawInt h₅.objs.size) := hz₈
  have up : ∀ c o, c ≠ z → h₅.get? c = some o → h₈.get? c = some o := fun c o c1 e => hs₈.extBut _ _ c1 (hs₇.extBut _ _ c1 (Heap.get?_push_of_some _ e))
  have hT₈ : IsPair h₈ h₅.objs.size x y := hs₈.extBut _ _ (Nat.ne_of_gt hzlt) (hs₇.extBut _ _ (Nat.ne_of_gt hzlt) (Heap.get?_push_size _ rfl))
  refine wpAny_pure ⟨_, rfl, ?_⟩
  exact hQ x y _ h₈ _ hx hy hz₈ (up _ _ Z.TIz hTI₅) (up _ _ Z.TOz hTO₅) hT₈ (Nat.le_of_eq hsz.symm) (D1.frame _ _ _ st1₅ fun c m o e => up c o (fun q => Z.z1 (q ▸ m)) e) (D2.frame _ _ _ st2₅ fun c m o e => up c o (fun q => Z.z2 (q ▸ m)) e)
    fun c o c1 c2 c3 c4 e => up c o c1 (hk₅ c o c1 c2 c3 c4 e)
theorem zipD_end {Q : Fin → Shared → Prop} (D1 : Draws prog w A i1 fp1 n P1 St1) (Z : ZA z TI TO i1 i2 fp1 fp2) (hz : IsZip s.heap z TI TO .none) (hTI : IsPair s.heap TI (.ref i1) (.ref i2)) (st1 : St1 n s.heap)
    (hE : ∀ h' e, (∀ c o, c ≠ z → c ≠ TO → c ≠ i1 → c ≠ i2 → s.heap.get? c = some o → h'.get? c = some o) → (∃ o, h'.get? e = some o ∧ o.cls = .type "StopIteration") → E (.ref e) { s with heap := h' }) :
    wpAny (model prog w) A (Builtin.«zip.__next__» ⟨[.ref z], []⟩) Q E s := by
  show wpAny _ _ (field (.ref z) 2 >>= _) _ _ _
  refine wpAny_bind (wpAny_field hz rfl (x := .bool false) rfl ?_)
  show wpAny _ _ (field (.ref z) 3 >>= _) _ _ _
  refine wpAny_bind (wpAny_field hz rfl (x := .ref TI) rfl ?_)
  refine wpAny_bind (wpAny_seqItems hTI rfl ?_)
  show wpAny _ _ (Builtin.SmallTypes.ownedTupleIsFree (.ref z) >>= _) _ _ _
  refine wpAny_bind ?_
  unfold Builtin.SmallTypes.ownedTupleIsFree
  refine wpAny_bind (wpAny_field hz rfl (x := .none) rfl (wpAny_pure ?_))
  simp only [if_true]
  refine wpAny_bind (wpAny_rule ?_)
  refine wpAny_bind (wpAny_field hz rfl (x := .ref TO) rfl ?_)
  refine wpAny_bind (wpAny_setField_rec hz (by simp) fun h₁ hz₁ hs₁ => ?_)
  replace hz₁ : IsZip h₁ z TI TO .ellipsis := hz₁
  refine wpAny_bind ?_
  simp only [List.zipIdx_cons, List.zipIdx_nil, List.forIn_cons, List.forIn_nil]
  refine wpAny_bind (wpAny_bind (wpAny_onRaise ?_))
  show wpAny _ _ (Builtin.SmallTypes.nextOf (.ref i1) >>= _) _ _ _
  refine wpAny_bind (D1.done _ _ _ (Draws.but D1 st1 hs₁ Z.z1) fun h₂ e hs₂ he => ?_)
  obtain ⟨oe, hoe, hce⟩ := he
  have hz₂ : IsZip h₂ z TI TO .ellipsis := hs₂ _ _ Z.i1z.symm hz₁
  have hez : e ≠ z := fun x => by subst x; rw [hz₂] at hoe; cases hoe; simp at hce
  exact wpAny_setField_rec hz₂ (by simp) fun h₃ _ hs₃ => hE h₃ e (fun c o c1 _ c3 _ x => hs₃.extBut _ _ c1 (hs₂ _ _ c3 (hs₁.extBut _ _ c1 x))) ⟨oe, hs₃.extBut _ _ hez hoe, hce⟩

/-- what stands at an iterator's own places -/
def Kn (fp : List Addr) (i : Addr) (St : Nat → Heap → Prop) : Prop := ∀ k h, St k h → ∀ b ∈ fp, ∃ o, h.get? b = some o ∧ o.cls ≠ .none ∧ (∀ es n, o.data ≠ .dict es n) ∧ (∀ v, o.data ≠ .cell v) ∧ (b = i → o.cls ≠ .type "list")
theorem Itr.zip {elts : List Expr} {x1 : Nat} {pos : Pos} (D1 : Draws prog w A.in1 i1 fp1 n P1 St1) (D2 : Draws prog w A.in1 i2 fp2 n P2 St2) (Z : ZA z TI TO i1 i2 fp1 fp2) (k1 : Kn fp1 i1 St1) (k2 : Kn fp2 i2 St2) (n1 : i1 ∈ fp1) (n2 : i2 ∈ fp2) (hd : A.handled = none) :
    Itr prog w A (.Tuple elts x1 pos) z [z, TO, i1, i2] (z :: TI :: TO :: (fp1 ++ fp2)) n (fun k h v => ∃ T x y, v = .ref T ∧ h.IsTuple T #[x, y] ∧ P1 k x ∧ P2 k y)
      (fun k h => IsZip h z TI TO .none ∧ IsPair h TI (.ref i1) (.ref i2) ∧ (∃ a b, IsPair h TO a b) ∧ St1 k h ∧ St2 k h) where
  sub := fun b m => by simp at m ⊢; rcases m with rfl | rfl | rfl | rfl <;> simp [n1, n2]
  frame := fun k h h' ⟨hz, hTI, ⟨a, b, hTO⟩, s1, s2⟩ e => ⟨e z (by simp) _ hz, e TI (by simp) _ hTI, ⟨a, b, e TO (by simp) _ hTO⟩, D1.frame _ _ _ s1 fun b m => e b (by simp [m]), D2.frame _ _ _ s2 fun b m => e b (by simp [m])⟩
  kinds := fun k h ⟨hz, hTI, ⟨a, b, hTO⟩, s1, s2⟩ c m => by
    rcases List.mem_cons.mp m with rfl | m1
    · exact ⟨_, hz, nofun, nofun, nofun, fun _ w => absurd (Value.type.inj w) (by decide)⟩
    rcases List.mem_cons.mp m1 with rfl | m2
    · exact ⟨_, hTI, nofun, nofun, nofun, fun _ w => absurd (Value.type.inj w) (by decide)⟩
    rcases List.mem_cons.mp m2 with rfl | m3
    · exact ⟨_, hTO, nofun, nofun, nofun, fun _ w => absurd (Value.type.inj w) (by decide)⟩
    clear m m1 m2
    rcases List.mem_append.mp m3 with m4 | m4
    · obtain ⟨o, e, q1, q2, q3, q4⟩ := k1 k h s1 c m4
      refine ⟨o, e, q1, q2, q3, fun w => ?_⟩
      simp at w
      rcases w with rfl | rfl | rfl | rfl
      · exact absurd m4 Z.z1
      · exact absurd m4 Z.t1
      · exact q4 rfl
      · exact absurd m4 Z.i2f
    · obtain ⟨o, e, q1, q2, q3, q4⟩ := k2 k h s2 c m4
      refine ⟨o, e, q1, q2, q3, fun w => ?_⟩
      simp at w
      rcases w with rfl | rfl | rfl | rfl
      · exact absurd m4 Z.z2
      · exact absurd m4 Z.t2
      · exact absurd m4 Z.i1f
      · exact q4 rfl
  item := fun k s hk ⟨hz, hTI, ⟨a, b, hTO⟩, s1, s2⟩ => by
    have hT : s.TypeIs (.ref z) "zip" := ⟨_, hz, rfl⟩
    unfold pyNext
    refine wpAny_bind (wpAny_attempt (wpAny_callSpecial?_slot (name := Str.ofString "__next__") hT F.slot_zip_next
      (wpAny_call_entry F.slot_zip_next hT F.entry_zip_next (zipD_item D1 D2 Z hz hTI hTO s1 s2 hk fun x y T h' tk hx hy a1 a2 a3 a4 hT5 a5 a6 a7 => ?_) (F.args_zip_next_1 _))))
    refine wpAny_pure ⟨.ref T, rfl, ?_⟩
    refine wpAny_letOwnedTupleGo_zip a1 fun h'' hz'' hs'' => ?_
    have zlt : z < s.heap.objs.size := Heap.lt_size hz
    have Tz : T ≠ z := fun q => absurd zlt (by rw [← q]; exact Nat.not_lt.mpr hT5)
    refine ⟨⟨T, x, y, rfl, ⟨_, hs''.extBut _ _ Tz a4, rfl, _, rfl⟩, hx, hy⟩, ⟨hz'', hs''.extBut _ _ Z.TIz a2, ⟨_, _, hs''.extBut _ _ Z.TOz a3⟩, Draws.but D1 a5 hs'' Z.z1, Draws.but D2 a6 hs'' Z.z2⟩, .all fun c o m e => ?_, rfl, rfl⟩
    simp at m
    exact hs''.extBut _ _ m.1 (a7 c o m.1 m.2.1 m.2.2.1 m.2.2.2 e)
  done := fun s ⟨hz, hTI, ⟨a, b, hTO⟩, s1, s2⟩ => by
    have hT : s.TypeIs (.ref z) "zip" := ⟨_, hz, rfl⟩
    unfold pyNext
    refine wpAny_bind (wpAny_attempt (wpAny_callSpecial?_slot (name := Str.ofString "__next__") hT F.slot_zip_next
      (wpAny_call_entry F.slot_zip_next hT F.entry_zip_next (zipD_end D1 Z hz hTI s1 fun h' e hk he => ?_) (F.args_zip_next_1 _))))
    obtain ⟨o, ho, hc⟩ := he
    refine wpAny_bind (wpAny_isInstance (T := "StopIteration") (b := true) ⟨o, ho, hc⟩ isSubtype_stop ?_)
    refine wpAny_pure ⟨rfl, .all fun c o m e => ?_, rfl, rfl⟩
    simp at m
    exact hk c o m.1 m.2.1 m.2.2.1 m.2.2.2 e
  self := fun k s Q ⟨hz, _⟩ h => wpAny_pyIter_zip hz h
end
end Mine
end
section
set_option genInjectivity false
set_option genSizeOf false
set_option maxHeartbeats 4000000
open PySem PySem.W PyProof.Rows PySem.Spec PySem.Calls
namespace Mine
variable [Inhabited Bnd]

theorem zaL (n l1 l2 : Nat) (h1 : l1 < n) (h2 : l2 < n) : ZA (n+4) (n+2) (n+3) n (n+1) [n, l1] [n+1, l2] := by
  constructor <;> (try simp only [List.mem_cons, List.not_mem_nil, or_false, not_or]) <;> first | (show @Ne Nat _ _; omega) | (show ¬ @Eq Nat _ _ ∧ ¬ @Eq Nat _ _; omega) | (show ¬ @Eq Nat _ _; omega)
theorem zaS (n l1 : Nat) (h1 : l1 < n) : ZA (n+4) (n+2) (n+3) n (n+1) [n, l1] [n+1] := by
  constructor <;> (try simp only [List.mem_cons, List.not_mem_nil, or_false, not_or]) <;> first | (show @Ne Nat _ _; omega) | (show ¬ @Eq Nat _ _ ∧ ¬ @Eq Nat _ _; omega) | (show ¬ @Eq Nat _ _; omega)
/-- a pair is told -/
def Pr {α : Type} (g1 g2 : α → D) (x : α) (hb h : Heap) (v : Value) : Prop := ∃ T u w, v = .ref T ∧ h.IsTuple T #[u, w] ∧ (g1 x).P hb u ∧ (g2 x).P hb w
theorem Kn.list {i l : Addr} {xs : Array Value} (hl : l ≠ i) : Kn [i, l] i (fun k h => h.IsListIter i l k ∧ h.IsList l xs) := fun k h st b m => by
  obtain ⟨⟨o, e, c1, d1⟩, ⟨o', e', c2, n, d2⟩⟩ := st
  rcases List.mem_cons.mp m with rfl | m
  · exact ⟨o, e, by rw [c1]; nofun, by rw [d1]; nofun, by rw [d1]; nofun, fun _ => by rw [c1]; decide⟩
  · obtain rfl := List.mem_singleton.mp m
    exact ⟨o', e', by rw [c2]; nofun, by rw [d2]; nofun, by rw [d2]; nofun, fun w => absurd w hl⟩
theorem Kn.str {i : Addr} {x : Str} {t : Tok} : Kn [i] i (fun k h => h.IsStrIter i "str_ascii_iterator" x t k) := fun k h st b m => by
  obtain ⟨o, e, c1, d1⟩ := st
  obtain rfl := List.mem_singleton.mp m
  exact ⟨o, e, by rw [c1]; nofun, by rw [d1]; nofun, by rw [d1]; nofun, fun _ => by rw [c1]; decide⟩

abbrev zqH1 (h : Heap) (l1 : Addr) : Heap := h.push { cls := .type "list_iterator", data := .fields #[.ref l1, .int 0 0] }
abbrev zqH2 (h : Heap) (l1 : Addr) (x : Str) (t : Tok) : Heap := (zqH1 h l1).push { cls := .type "str_ascii_iterator", data := .fields #[.str x t, .int 0 0] }
abbrev zqH3 (h : Heap) (l1 : Addr) (x : Str) (t : Tok) : Heap := (zqH2 h l1 x t).push { cls := .type "tuple", data := .seq #[.ref h.objs.size, .ref (zqH1 h l1).objs.size] }
abbrev zqH4 (h : Heap) (l1 : Addr) (x : Str) (t : Tok) : Heap := (zqH3 h l1 x t).push { cls := .type "tuple", data := .seq #[.none, .none] }
abbrev zqH5 (h : Heap) (l1 : Addr) (x : Str) (t : Tok) : Heap := (zqH4 h l1 x t).push { cls := .type "zip", data := .fields #[.none, .bool false, .bool false, .ref (zqH2 h l1 x t).objs.size, .ref (zqH3 h l1 x t).objs.size] }
theorem meets_zip_str (l1 : Addr) (xs : Array Value) (x : Str) (t : Tok) (ha : x.cps.all (· < 128) = true) :
    Meets (Builtin.«zip.__new__» ⟨[.type "zip", .ref l1, .str x t], []⟩) (fun _ R s => s.heap.IsList l1 xs ∧ R (.ok (.ret (.ref (zqH4 s.heap l1 x t).objs.size))) { s with heap := zqH5 s.heap l1 x t }) :=
  .of_wp fun prog w A R s h => by
    obtain ⟨hp, g, d, tk, os⟩ := s; obtain ⟨hl1, h⟩ := h
    have hsub := sub_zip
    have hL1 : Heap.IsList (Shared.heap ⟨hp, g, d, tk, os⟩) l1 xs := hl1
    wp_walk using wpAny_pyIter_list hL1, wpAny_pyIter_ascii ha
    exact ⟨_, rfl, h⟩

section
variable {c : Cx} {s : Shared} {B : Md} {ρ : List (Str × D)} {e1 e2 : Expr} {elts : List Expr} {x1 : Nat} {np pos p : Pos} {α : Type} {xs : List α} {g1 g2 : α → D} {f : α → Nat}
theorem zip_args (O : B.Ok) (N : Nm B) (i : B.In s) (F : FS c.U c.env s.heap ρ) {d1 d2 : D} {Q : Value → Shared → Prop} (v1 : Ev c s e1 d1) (v2 : Ev c s e2 d2) {s₁ : Shared} (q : Kp c.U s s₁)
    (h : ∀ u v s', Kp c.U s₁ s' → d1.P (hp c.U s') u → d2.P (hp c.U s') v → Wp c (call (.type "zip") [u, v]) Q s') (k : c.env.kindOf "zip" = some .globalImplicit) (he : starEach [e1, e2] c.env = (false, eval e1 c.env) :: starEach [e2] c.env) (he2 : starEach [e2] c.env = [(false, eval e2 c.env)])
    (hp : (backTo pos (starEach [e2] c.env)).any (·.1) = false) : Wp c (eval (.Call (.Name "zip" np) [e1, e2] [] pos) c.env) Q s₁ := by
  refine wpAny_Call_ofName ((Ev.bi O i F N.zip.1 N.zip.2 k (by decide) s₁ q).mono fun u s₂ h' => ?_)
  obtain ⟨k₂, rfl⟩ := h'
  refine callWith_type1 ((EvL.cons v1 (EvL.cons v2 EvL.nil he2) he pos s₂ (q.trans k₂)).mono fun vs s₃ h' => ?_) he hp
  obtain ⟨k₃, al⟩ := h'
  cases al with
  | cons a al =>
    obtain ⟨v, rfl, b⟩ := All.one al
    exact h _ _ s₃ (k₂.trans k₃) a b
theorem EvIt.zipLL (hh : c.A.handled = none) (O : B.Ok) (N : Nm B) (i : B.In s) (F : FS c.U c.env s.heap ρ) (v1 : Ev c s e1 (ls (xs.map g1))) (v2 : Ev c s e2 (ls (xs.map g2))) (k : c.env.kindOf "zip" = some .globalImplicit := by rfl) (he : starEach [e1, e2] c.env = (false, eval e1 c.env) :: starEach [e2] c.env := by rfl)
    (he2 : starEach [e2] c.env = [(false, eval e2 c.env)] := by rfl) (hp : (backTo pos (starEach [e2] c.env)).any (·.1) = false := by rfl) : EvIt c s (.Call (.Name "zip" np) [e1, e2] [] pos) (.Tuple elts x1 p) xs.length (Over xs (Pr g1 g2)) := fun s₁ q =>
  zip_args O N i F v1 v2 q (fun u v s' k' r1 r2 => by
    obtain ⟨l1, us, rfl, L1, U1, a1, n1⟩ := ls_at r1
    obtain ⟨l2, ws, rfl, L2, U2, a2, n2⟩ := ls_at r2
    rw [List.length_map] at n1 n2
    have L1 := L1.isList
    have L2 := L2.isList
    have b1 : l1 < s'.heap.objs.size := by obtain ⟨o, e, _⟩ := L1; exact Heap.lt_size e
    have b2 : l2 < s'.heap.objs.size := by obtain ⟨o, e, _⟩ := L2; exact Heap.lt_size e
    have up : ∀ j, s'.heap.get? (s'.heap.objs.size + j) = none := fun j => Heap.get?_none_of_le (Nat.le_add_right _ _)
    have off : ∀ b, s'.heap.objs.size ≤ b → b ∉ c.U := fun b h m => by obtain ⟨_, o, e⟩ := k'.ok.at_ b m; exact absurd (Heap.lt_size e) (Nat.not_lt.mpr h)
    refine call_zip_2 L1 L2 fun h' hz hTI hTO h1 h2 _ kp => ⟨s', k', .of k'.ok kp (n := s'.toks), ?_⟩
    have D1 : Draws c.prog c.w c.A.in1 s'.heap.objs.size [s'.heap.objs.size, l1] us.size (fun i v => us[i]? = some v) (fun i h => h.IsListIter s'.heap.objs.size l1 i ∧ h.IsList l1 us) := Draws.list (A := c.A.in1) hh _ _ (Nat.ne_of_lt b1) us
    have D2 : Draws c.prog c.w c.A.in1 (s'.heap.objs.size + 1) [s'.heap.objs.size + 1, l2] ws.size (fun i v => ws[i]? = some v) (fun i h => h.IsListIter (s'.heap.objs.size + 1) l2 i ∧ h.IsList l2 ws) := Draws.list (A := c.A.in1) hh _ _ (Nat.ne_of_lt (Nat.lt_succ_of_lt b2)) ws
    have Z := zaL s'.heap.objs.size l1 l2 b1 b2
    have W := Itr.zip (prog := c.prog) (w := c.w) (A := c.A) (elts := elts) (x1 := x1) (pos := p) (z := s'.heap.objs.size + 4) (TI := s'.heap.objs.size + 2) (TO := s'.heap.objs.size + 3)
      (n1 ▸ D1) (n2 ▸ D2) Z (Kn.list (Nat.ne_of_lt b1)) (Kn.list (Nat.ne_of_lt (Nat.lt_succ_of_lt b2))) (by simp) (by simp) hh
    refine wpAny_pyIter_zip hz ⟨.of k'.ok kp (n := s'.toks), _, _, _, _, rfl, W.weaken fun j h v hj hv => ?_, ⟨hz, hTI, ⟨_, _, hTO⟩, ⟨h1, L1.at fun o e => kp _ o e⟩, ⟨h2, L2.at fun o e => kp _ o e⟩⟩, fun b m => ?_, fun b m => ?_⟩
    · obtain ⟨T, u, w, e, t, hu, hw⟩ := hv
      obtain ⟨d, e1, r⟩ := a1.get (i := j) (v := u) (by simpa using hu)
      obtain ⟨d', e2, r'⟩ := a2.get (i := j) (v := w) (by simpa using hw)
      rw [List.getElem?_map] at e1 e2
      cases hx : xs[j]? with
      | none => rw [hx] at e1; cases e1
      | some y =>
        rw [hx] at e1 e2; cases e1; cases e2
        exact ⟨y, hx, T, u, w, e, t, r, r'⟩
    · simp only [List.mem_cons, List.mem_append, List.not_mem_nil, or_false] at m
      rcases m with rfl | rfl | rfl | (rfl | rfl) | (rfl | rfl)
      · exact off _ (by omega)
      · exact off _ (by omega)
      · exact off _ (by omega)
      · exact off _ (by omega)
      · exact U1
      · exact off _ (by omega)
      · exact U2
    · simp only [List.mem_cons, List.not_mem_nil, or_false] at m
      rcases m with rfl | rfl | rfl | rfl
      · exact up 4
      · exact up 3
      · exact up 0
      · exact up 1) k he he2 hp
theorem EvIt.zipLS (hh : c.A.handled = none) (O : B.Ok) (N : Nm B) (i : B.In s) (F : FS c.U c.env s.heap ρ) (v1 : Ev c s e1 (ls (xs.map g1))) (v2 : Ev c s e2 (tx (xs.map f))) (hf : ∀ x ∈ xs, f x < 128) (k : c.env.kindOf "zip" = some .globalImplicit := by rfl) (he : starEach [e1, e2] c.env = (false, eval e1 c.env) :: starEach [e2] c.env := by rfl)
    (he2 : starEach [e2] c.env = [(false, eval e2 c.env)] := by rfl) (hp : (backTo pos (starEach [e2] c.env)).any (·.1) = false := by rfl) : EvIt c s (.Call (.Name "zip" np) [e1, e2] [] pos) (.Tuple elts x1 p) xs.length (Over xs (Pr g1 fun x => tx [f x])) := fun s₁ q =>
  zip_args O N i F v1 v2 q (fun u v s' k' r1 r2 => by
    obtain ⟨l1, us, rfl, L1, U1, a1, n1⟩ := ls_at r1
    obtain ⟨tk, rfl⟩ := r2
    rw [List.length_map] at n1
    have L1 := L1.isList
    have b1 : l1 < s'.heap.objs.size := by obtain ⟨o, e, _⟩ := L1; exact Heap.lt_size e
    have ha : (S (xs.map f)).cps.all (· < 128) = true := by
      simp [S]; exact hf
    have n2 : (S (xs.map f)).cps.size = xs.length := by simp [S]
    have up : ∀ j, s'.heap.get? (s'.heap.objs.size + j) = none := fun j => Heap.get?_none_of_le (Nat.le_add_right _ _)
    have off : ∀ b, s'.heap.objs.size ≤ b → b ∉ c.U := fun b h m => by obtain ⟨_, o, e⟩ := k'.ok.at_ b m; exact absurd (Heap.lt_size e) (Nat.not_lt.mpr h)
    refine callType_new PySem.F.called_zip (by decide) (PySem.F.typeCall_zip_2 _ _) (PySem.F.newCall_zip_2 _ _) (fun obj => PySem.F.args_object_init_3 obj _ _) PySem.F.entry_zip_new (meets_zip_str l1 us _ tk ha) ⟨L1, ?_⟩
    have z1 : (zqH1 s'.heap l1).objs.size = s'.heap.objs.size + 1 := Heap.size_push ..
    have z2 : (zqH2 s'.heap l1 (S (xs.map f)) tk).objs.size = s'.heap.objs.size + 2 := by rw [Heap.size_push, z1]
    have z3 : (zqH3 s'.heap l1 (S (xs.map f)) tk).objs.size = s'.heap.objs.size + 3 := by rw [Heap.size_push, z2]
    have z4 : (zqH4 s'.heap l1 (S (xs.map f)) tk).objs.size = s'.heap.objs.size + 4 := by rw [Heap.size_push, z3]
    have g5 : (zqH5 s'.heap l1 (S (xs.map f)) tk).get? (zqH4 s'.heap l1 (S (xs.map f)) tk).objs.size = some _ := Heap.get?_push_size _ rfl
    have g4 : (zqH5 s'.heap l1 (S (xs.map f)) tk).get? (zqH3 s'.heap l1 (S (xs.map f)) tk).objs.size = some _ := Heap.get?_push_of_some _ (Heap.get?_push_size _ rfl)
    have g3 : (zqH5 s'.heap l1 (S (xs.map f)) tk).get? (zqH2 s'.heap l1 (S (xs.map f)) tk).objs.size = some _ := Heap.get?_push_of_some _ (Heap.get?_push_of_some _ (Heap.get?_push_size _ rfl))
    have g2 : (zqH5 s'.heap l1 (S (xs.map f)) tk).get? (zqH1 s'.heap l1).objs.size = some _ := Heap.get?_push_of_some _ (Heap.get?_push_of_some _ (Heap.get?_push_of_some _ (Heap.get?_push_size _ rfl)))
    have g1 : (zqH5 s'.heap l1 (S (xs.map f)) tk).get? s'.heap.objs.size = some _ := Heap.get?_push_of_some _ (Heap.get?_push_of_some _ (Heap.get?_push_of_some _ (Heap.get?_push_of_some _ (Heap.get?_push_size _ rfl))))
    show _ ∧ _
    rw [z2, z3, z4] at g5
    rw [z1, z2] at g3
    rw [z3] at g4
    rw [z1] at g2
    rw [z4]
    have kp : ∀ b o, s'.heap.get? b = some o → (zqH5 s'.heap l1 (S (xs.map f)) tk).get? b = some o := fun b o e => Heap.get?_push_of_some _ (Heap.get?_push_of_some _ (Heap.get?_push_of_some _ (Heap.get?_push_of_some _ (Heap.get?_push_of_some _ e))))
    refine ⟨⟨_, g5, rfl⟩, s', k', .of k'.ok kp (n := s'.toks), ?_⟩
    have D1 : Draws c.prog c.w c.A.in1 s'.heap.objs.size [s'.heap.objs.size, l1] us.size (fun i v => us[i]? = some v) (fun i h => h.IsListIter s'.heap.objs.size l1 i ∧ h.IsList l1 us) := Draws.list (A := c.A.in1) hh _ _ (Nat.ne_of_lt b1) us
    have D2 : Draws c.prog c.w c.A.in1 (s'.heap.objs.size + 1) [s'.heap.objs.size + 1] (S (xs.map f)).cps.size (fun i v => ∃ ch u, (S (xs.map f)).cps[i]? = some ch ∧ v = .str ⟨#[ch]⟩ u) (fun i h => h.IsStrIter (s'.heap.objs.size + 1) "str_ascii_iterator" (S (xs.map f)) tk i) := Draws.strAscii (A := c.A.in1) hh _ _ _
    have Z := zaS s'.heap.objs.size l1 b1
    have W := Itr.zip (prog := c.prog) (w := c.w) (A := c.A) (elts := elts) (x1 := x1) (pos := p) (z := s'.heap.objs.size + 4) (TI := s'.heap.objs.size + 2) (TO := s'.heap.objs.size + 3)
      (n1 ▸ D1) (n2 ▸ D2) Z (Kn.list (Nat.ne_of_lt b1)) Kn.str (by simp) (by simp) hh
    refine wpAny_pyIter_zip g5 ⟨.of k'.ok kp (n := s'.toks), _, _, _, _, rfl, W.weaken fun j h v hj hv => ?_, ⟨g5, g3, ⟨_, _, g4⟩, ⟨⟨_, g1, rfl, rfl⟩, L1.at fun o e => kp _ o e⟩, ⟨_, g2, rfl, rfl⟩⟩, fun b m => ?_, fun b m => ?_⟩
    · obtain ⟨T, u, w, e, t, hu, ch, tt, hc, rfl⟩ := hv
      obtain ⟨d, e1, r⟩ := a1.get (i := j) (v := u) (by simpa using hu)
      rw [List.getElem?_map] at e1
      rw [show (S (xs.map f)).cps[j]? = (xs.map f)[j]? by simp [S], List.getElem?_map] at hc
      cases hx : xs[j]? with
      | none => rw [hx] at e1; cases e1
      | some y =>
        rw [hx] at e1 hc; cases e1; cases hc
        exact ⟨y, hx, T, u, _, e, t, r, tt, rfl⟩
    · simp only [List.mem_cons, List.mem_append, List.not_mem_nil, or_false] at m
      rcases m with rfl | rfl | rfl | (rfl | rfl) | rfl
      · exact off _ (by omega)
      · exact off _ (by omega)
      · exact off _ (by omega)
      · exact off _ (by omega)
      · exact U1
      · exact off _ (by omega)
    · simp only [List.mem_cons, List.not_mem_nil, or_false] at m
      rcases m with rfl | rfl | rfl | rfl
      · exact up 4
      · exact up 3
      · exact up 0
      · exact up 1) k he he2 hp
/-- two names are the target -/
theorem AsgX.pair {s₀ : Shared} {ρ' : List (Str × D)} {scope : Scope} {cl : List (Str × Addr)} {x y : Str} {px py : Pos} {k : Nat} (hh : c.A.handled = none) (l : (relabel scope c.env).names.lookup x = some .local := by rfl) (l' : (relabel scope c.env).names.lookup y = some .local := by rfl) :
    AsgX c s₀ scope cl ρ' (.Tuple [.Name x px, .Name y py] k p) (Pr g1 g2) fun a => [(y, g2 a), (x, g1 a)] := fun C acc own s₂ a s res v I S r => by
  obtain ⟨T, u, w, rfl, t, r1, r2⟩ := r
  have m : C ∈ own := I.hC
  refine wpAny_assign_Tuple (env := (cIn c scope cl C acc).env) (A := c.A) hh t (by rfl) (by rfl) fun h' e => ?_
  have k : Kp (acc :: c.U) s { s with heap := h' } := .of (n := s.toks) S.ok fun b o q => e b o (Nat.ne_of_lt (Heap.lt_size q)) q
  have S' := S.kp k (.head _)
  have rr1 := (g1 a).mono (I.kpS _ S'.base) r1
  have rr2 := (g2 a).mono (I.kpS _ S'.base) r2
  refine wpAny_assignInOrder_more (wpAny_assign_Name (S'.fs.stL S'.ok l rr1 fun s₃ f₃ k₃ => ?_))
  have S₃ := S'.stored f₃ k₃ (I.hown _ m) (fun w => I.nacc (w ▸ m))
  refine wpAny_assignInOrder_more (wpAny_assign_Name (S₃.fs.stL S₃.ok l' ((g2 a).mono k₃.seq rr2) fun s₄ f₄ k₄ => ?_))
  have S₄ := S₃.stored f₄ k₄ (I.hown _ m) (fun w => I.nacc (w ▸ m))
  refine wpAny_pure ⟨S₄, ⟨((Up.all fun b o _ q => e b o (Nat.ne_of_lt (Heap.lt_size q)) q : Up own s.heap h').trans (k₃.chg m).keep fun _ n => ⟨n, n⟩).trans (k₄.chg m).keep fun _ n => ⟨n, n⟩, ?_, ?_⟩⟩
  · exact k₄.gens.trans (k₃.gens.trans k.gens)
  · exact k₄.os.trans (k₃.os.trans k.os)
end
theorem EvT.is {c : Cx} {s : Shared} {e : Expr} {b b' : Bool} (h : b = b') (x : EvT c s e b) : EvT c s e b' := h ▸ x
end Mine
end
section
set_option genInjectivity false
set_option genSizeOf false
open PySem PySem.W PyProof.Rows PySem.Spec PySem.Calls
open PySem.SeqAt PySem.MeetsSeq
namespace Mine
variable [Inhabited Bnd]
section
variable {c : Cx} {a : Addr} {s₀ t s : Shared} {ρ : List (Str × D)} {α : Type} [DecidableEq α] {n m : Nat} {g : α → D} {y : α} {xs : List α} {x : Str} {l : Expr} {np pos : Pos}
/-- is a datum not in the frame's own list -/
theorem Ow.notIn (O : Ow c a s₀ t s ρ (xs.map g)) (h : Dat n g) (R : Room c.A m) (v : Ev c s l (g y)) (hx : ρ.lookup x = some (val (.ref a)) := by rfl) (lc : c.env.kindOf x = some .local := by rfl) (hn : n + 1 ≤ 800 := by decide) (hd : (x == ("__debug__" : Str)) = false := by decide)
    (hm : behindInMarks .NotIn (.Name x np) = false := by with_unfolding_all rfl) : EvT c s (.Compare l [.NotIn] [.Name x np] pos) (!decide (y ∈ xs)) := fun s₁ k => by
  refine wpAny_isTrue_Compare1 ((v s₁ k).mono fun u s₂ q => ((FS.loc O.cs.fs hx lc hd) s₂ (k.trans q.1)).mono fun w s₃ q' => ?_) hm
  obtain ⟨k₃, rfl⟩ := q'
  have O₃ := O.kp (k.trans (q.1.trans k₃))
  obtain ⟨vs, L, al⟩ := O₃.cs.acc
  have hu : c.A.in1.units + n < cLine := by have := units_ok R hn; show c.A.units + 1 + n < cLine; omega
  have r := (g y).at k₃ q.2
  refine notIn_listAt (isY g y (hp c.U s₃)) L.isList (fun v m => isY_at h hu al r (by simpa using m)) (wpAny_truthy_bool ⟨q.1.trans k₃, ?_⟩)
  rw [← isY_any h hu al, Array.any_toList]
end
theorem empty_same (vs : Array Value) (ds : List D) (h : vs.size = ds.length) : (!vs.isEmpty) = !ds.isEmpty := by
  congr 1
  rw [Bool.eq_iff_iff, Array.isEmpty_iff_size_eq_zero, List.isEmpty_iff_length_eq_zero, h]
theorem Tr.ls {c : Cx} {ds : List D} (hn : ds.length ≤ 1000000) : Tr c (Mine.ls ds) (!ds.isEmpty) := fun s v ok r => by
  obtain ⟨a, vs, rfl, l, _, _, hz⟩ := ls_at r
  refine wpAny_truthy_list l.isList (by omega) ⟨.tok ok, ?_⟩
  rw [empty_same vs ds hz]
end Mine
end
section
set_option genInjectivity false
set_option genSizeOf false
open PySem PySem.W PyProof.Rows PySem.Spec PySem.Calls
namespace Mine
variable [Inhabited Bnd]
section
variable {c : Cx} {s : Shared} {u v : Value} {l r : Expr} {es : List Expr} {pos : Pos} {b : Array UInt8} {bl : List UInt8} {T : String} {x : Value}
theorem Cmp.isV (h : plainIs u v = true) : Cmp c .Is (val u) (val v) (u == v) := fun s a b ok ha hb => by
  subst ha hb; exact wpAny_is_plain h ⟨.refl ok, rfl⟩
theorem Cmp.isNone {d : D} (h : ∀ h v, d.P h v → (v == .none) = false) : Cmp c .Is d non false := fun s a b ok ha hb => by
  subst hb; exact is_none (by rw [h _ _ ha]; exact ⟨.refl ok, rfl⟩)
theorem Cmp.isNotNone {d : D} (h : ∀ h v, d.P h v → (v == .none) = false) : Cmp c .IsNot d non true := fun s a b ok ha hb => by
  subst hb; exact isNot_none (by rw [h _ _ ha]; exact ⟨.refl ok, rfl⟩)
theorem Bi.typeB : Bi c (.type "type") [byt b] (val (.type "bytes")) := fun s vs ok a => by
  obtain ⟨_, rfl, t, rfl⟩ := a.one
  exact call_type_of (PySem.W.typeIs_bytes ..) (by decide) ⟨.refl ok, rfl⟩
theorem Bi.typeO {q : Bool} : Bi c (.type "type") [boo q] (val (.type "bool")) := fun s vs ok a => by
  obtain ⟨_, rfl, e⟩ := a.one
  cases e
  exact call_type_of (show s.TypeIs (.bool q) "bool" from rfl) (by decide) ⟨.refl ok, rfl⟩
theorem EvT.or2 (x : EvT c s l false) (y : EvT c s r true) : EvT c s (.BoolOp .Or (l :: r :: es) pos) true := fun s₁ k => wpAny_isTrue_BoolOp (wpAny_allTrue_Or_cons ((x s₁ k).mono fun q s₂ h => by
  obtain ⟨k₂, rfl⟩ := h
  exact wpAny_allTrue_Or_cons ((y s₂ (k.trans k₂)).mono fun q s₃ h => by
    obtain ⟨k₃, rfl⟩ := h
    exact ⟨k₂.trans k₃, rfl⟩)))
theorem Ev.weakB {e : Expr} {t : Tok} (x : Ev c s e (val (.bytes b t))) : Ev c s e (byt b) := fun s₁ k => (x s₁ k).mono fun v s₂ h => ⟨h.1, t, h.2⟩
theorem Idx.byt {i : Int} {n : Nat} {q : UInt8} (hi : i = (n : Nat)) (h : bl[n]? = some q) (hl : bl.length ≤ 1000000) : Idx c (Mine.byt bl.toArray) (int i) (int q.toNat) := fun s a b ok ⟨t, ha⟩ ⟨w, hb⟩ => by
  subst ha hb hi
  have hn : n < bl.length := (List.getElem?_eq_some_iff.mp h).1
  refine ⟨⟨_, _, PySem.W.typeIs_bytes .., FB.slot_bytes_getitem.lookup⟩, getItem_bytes (by omega) (by omega) (by omega) ?_⟩
  rw [Int.toNat_natCast, List.getD_eq_getElem?_getD, h]
  exact ⟨.tok ok, _, rfl⟩
end
end Mine
end
section
set_option genInjectivity false
set_option genSizeOf false
open PySem PySem.W PyProof.Rows PySem.Spec PySem.Calls
open PySem.SeqAt PySem.MeetsSeq
open AutoSeq1 (wpAny_loadPart')
namespace Mine
variable [Inhabited Bnd]
/-! list.remove over told items -/
theorem remove_loopAt (l : Addr) (items : Array Value) (n : Nat) (x : Value) (e : Value → Bool) (j : Nat) (hj : j < items.size) (hit : e items[j] = true) (k : Nat) (hs1 : items.size ≤ sizeLine) :
    ∀ i : Nat, j - i = k → i ≤ j → (∀ m (hm : m < items.size), i ≤ m → m < j → e items[m] = false) → Meets (Builtin.«list.remove.loop» ⟨[.ref l, x, rawInt i], []⟩)
      (fun A R s => s.heap.get? l = some { cls := .type "list", dict := none, data := .seq items n, slots := #[] } ∧ (∀ y, y ∈ items → EqAt A.in1 s y x (e y)) ∧ R (.ok (.ret .none)) { s with heap := s.heap.update l (Obj.mapSeq fun xs => xs.eraseIdxIfInBounds j) }) := by
  induction k with
  | zero =>
    intro i hk hij hno prog w A R s h
    obtain ⟨hp, g, d, tk, os⟩ := s; obtain ⟨hl, he, h⟩ := h
    have hij' : i = j := by omega
    subst hij'
    wp_walk using wpAny_loadPart' hl
    have hi : items[((i : Nat) : Int).toNat]? = some items[i] := by simp [hj]
    rw [hi]
    refine wpAny_bind (he _ (Array.getElem_mem hj) prog w _ _ ?_)
    rw [hit]
    have hz' : (items.eraseIdxIfInBounds i).size ≤ sizeLine + 1 := Nat.le_trans (size_erased items _) (Nat.le_succ_of_le hs1)
    wp_walk using (wpAny_updateSeq hl rfl (hz := hs1) (_hz' := hz')), wpAny_loadPart' hl
    simpa using h
  | succ k ih =>
    intro i hk hij hno prog w A R s h
    obtain ⟨hp, g, d, tk, os⟩ := s; obtain ⟨hl, he, h⟩ := h
    have hlt : i < items.size := by omega
    wp_walk using wpAny_loadPart' hl
    have hi : items[((i : Nat) : Int).toNat]? = some items[i] := by simp [hlt]
    have hc : ((i : Int) + 1) = ((i + 1 : Nat) : Int) := by push_cast; rfl
    rw [hi]
    refine wpAny_bind (he _ (Array.getElem_mem hlt) prog w _ _ ?_)
    rw [hno i hlt (Nat.le_refl _) (by omega)]
    wp_walk
    rw [hc]
    exact ⟨plainId_quiet plain_remove_loop _, codeAny_builtin entry_remove_loop (by
      rw [Around.under_plainId plain_remove_loop _]
      exact ih (i + 1) (by omega) (by omega) (fun m hm h1 h2 => hno m hm (by omega) h2) prog w A R _ ⟨hl, he, h⟩)⟩
theorem list_removeAt (l : Addr) (items : Array Value) (n : Nat) (x : Value) (e : Value → Bool) (j : Nat) (hj : j < items.size) (hit : e items[j] = true) (hno : ∀ m (hm : m < items.size), m < j → e items[m] = false) (hs1 : items.size ≤ sizeLine) :
    Meets (Builtin.«list.remove» ⟨[.ref l, x], []⟩)
      (fun A R s => s.heap.get? l = some { cls := .type "list", dict := none, data := .seq items n, slots := #[] } ∧ (∀ y, y ∈ items → EqAt A.in1 s y x (e y)) ∧ R (.ok (.ret .none)) { s with heap := s.heap.update l (Obj.mapSeq fun xs => xs.eraseIdxIfInBounds j) }) := by
  intro prog w A R s h
  obtain ⟨hp, g, d, tk, os⟩ := s; obtain ⟨hl, he, h⟩ := h
  wp_walk using wpAny_loadPart' hl
  exact ⟨plainId_quiet plain_remove_loop _, codeAny_builtin entry_remove_loop (by
    rw [Around.under_plainId plain_remove_loop _]
    exact remove_loopAt l items n x e j hj hit _ hs1 0 rfl (Nat.zero_le _) (fun m hm _ h2 => hno m hm h2) prog w A R _ ⟨hl, he, h⟩)⟩
theorem remove_loop_noneAt (l : Addr) (items : Array Value) (n : Nat) (x : Value) (e : Value → Bool) (hno : ∀ m (hm : m < items.size), e items[m] = false) (k : Nat) :
    ∀ i : Nat, items.size - i = k → Meets (Builtin.«list.remove.loop» ⟨[.ref l, x, rawInt i], []⟩)
      (fun A R s => s.heap.get? l = some { cls := .type "list", dict := none, data := .seq items n, slots := #[] } ∧ (∀ y, y ∈ items → EqAt A.in1 s y x (e y)) ∧ raisesNew "ValueError" A R s) := by
  induction k with
  | zero =>
    intro i hk prog w A R s h
    obtain ⟨hp, g, d, tk, os⟩ := s; obtain ⟨hl, he, h⟩ := h
    wp_walk using wpAny_loadPart' hl
    have hi : items[((i : Nat) : Int).toNat]? = none := by simp; omega
    rw [hi]
    wp_walk
    exact_raiseError plainExc_ValueError h.1 h.2
  | succ k ih =>
    intro i hk prog w A R s h
    obtain ⟨hp, g, d, tk, os⟩ := s; obtain ⟨hl, he, h⟩ := h
    have hlt : i < items.size := by omega
    wp_walk using wpAny_loadPart' hl
    have hi : items[((i : Nat) : Int).toNat]? = some items[i] := by simp [hlt]
    have hc : ((i : Int) + 1) = ((i + 1 : Nat) : Int) := by push_cast; rfl
    rw [hi]
    refine wpAny_bind (he _ (Array.getElem_mem hlt) prog w _ _ ?_)
    rw [hno i hlt]
    wp_walk
    rw [hc]
    exact ⟨plainId_quiet plain_remove_loop _, codeAny_builtin entry_remove_loop (by
      rw [Around.under_plainId plain_remove_loop _]
      exact ih (i + 1) (by omega) prog w A R _ ⟨hl, he, h⟩)⟩
theorem list_remove_noneAt (l : Addr) (items : Array Value) (n : Nat) (x : Value) (e : Value → Bool) (hno : ∀ m (hm : m < items.size), e items[m] = false) :
    Meets (Builtin.«list.remove» ⟨[.ref l, x], []⟩)
      (fun A R s => s.heap.get? l = some { cls := .type "list", dict := none, data := .seq items n, slots := #[] } ∧ (∀ y, y ∈ items → EqAt A.in1 s y x (e y)) ∧ raisesNew "ValueError" A R s) := by
  intro prog w A R s h
  obtain ⟨hp, g, d, tk, os⟩ := s; obtain ⟨hl, he, h⟩ := h
  wp_walk using wpAny_loadPart' hl
  exact ⟨plainId_quiet plain_remove_loop _, codeAny_builtin entry_remove_loop (by
    rw [Around.under_plainId plain_remove_loop _]
    exact remove_loop_noneAt l items n x e hno _ 0 rfl prog w A R _ ⟨hl, he, h⟩)⟩

/-! an exception under way: what is no dict keeps, dicts up to slots -/
def isDict (h : Heap) (a : Addr) : Bool := match h.get? a with
  | some ⟨_, _, .dict _ _, _⟩ => true
  | _ => false
def dicts (h : Heap) : List Addr := (List.range h.objs.size).filter fun a => isDict h a && decide (low ≤ a)
theorem dicts_not {h : Heap} {a : Addr} {o : Obj} (e : h.get? a = some o) (nd : ∀ es n, o.data ≠ .dict es n) : a ∉ dicts h := fun m => by
  have := (Bool.and_eq_true_iff.mp (List.mem_filter.mp m).2).1
  unfold isDict at this
  rw [e] at this
  obtain ⟨c, d, dt, sl⟩ := o
  cases dt with
  | dict es n => exact nd es n rfl
  | _ => cases this
theorem dicts_low {h : Heap} {a : Addr} (l : a < low) : a ∉ dicts h := fun m => by
  have := of_decide_eq_true (Bool.and_eq_true_iff.mp (List.mem_filter.mp m).2).2
  exact absurd l (Nat.not_lt.mpr this)
theorem dicts_in {h : Heap} {a : Addr} {o : Obj} {es n} (e : h.get? a = some o) (d : o.data = .dict es n) (l : low ≤ a) : a ∈ dicts h := by
  refine List.mem_filter.mpr ⟨List.mem_range.mpr (Heap.lt_size e), Bool.and_eq_true_iff.mpr ⟨?_, decide_eq_true l⟩⟩
  unfold isDict
  rw [e]
  obtain ⟨c, dd, dt, sl⟩ := o
  cases d; rfl
abbrev bsOf (h : Heap) : Heap := hideAll h (dicts h)
/-- the frames under way are frames of defs, whose names stand in dicts -/
def Frs (l : List Env) (h : Heap) : Prop := ∀ env ∈ l, env.scope.kind ≠ .module ∧ ∃ L o es n, low ≤ L ∧ env.frame = some L ∧ h.get? L = some o ∧ o.data = .dict es n
theorem Frs.up {l : List Env} {X : List Addr} {h h' : Heap} (F : Frs l h) (k : Up X h h') (off : ∀ b ∈ X, ∀ o es n, h.get? b = some o → o.data ≠ .dict es n) : Frs l h' := fun env m => by
  obtain ⟨q, L, o, es, n, lo, e, g, d⟩ := F env m
  obtain ⟨sl, g'⟩ := k.di L o es n (fun x => off L x o es n g d) g d
  exact ⟨q, L, _, es, n, lo, e, g', d⟩
theorem Frs.fun {l : List Env} {h h' : Heap} (F : Frs l h) (k : ∀ b o, h.get? b = some o → h'.get? b = some o) : h'.FunFrames (bsOf h) l := by
  induction l with
  | nil => trivial
  | cons env l ih =>
    obtain ⟨q, L, o, es, n, lo, e, g, d⟩ := F env (.head _)
    exact ⟨q, ⟨L, o, e, hideAll_none _ (dicts_in g d lo), k _ _ g, fun vs z => by rw [d] at z; cases z⟩, ih fun env m => F env (.tail _ m)⟩
/-- the exception e flies, born at h -/
structure Hd (h : Heap) (l : List Env) (e : Addr) (cls fl : Value) (h' : Heap) : Prop where
  st : (bsOf h).StaysIn h'
  ne : (bsOf h).get? e = none
  fr : h'.FunFrames (bsOf h) l
  tr : ∃ a0, h'.TracedAtW (bsOf h) e cls a0 fl
  up : h.UpToSlots h'
theorem Hd.Up {h h' : Heap} {l : List Env} {e : Addr} {cls fl : Value} (x : Hd h l e cls fl h') : Up [] h h' :=
  ⟨fun b o _ g nd => x.st b o (hideAll_get _ g (dicts_not g nd)), fun b o es n _ g d => x.up b o g (fun vs z => by rw [d] at z; cases z), fun b o _ l g => x.st b o (hideAll_get _ g (dicts_low l))⟩
section
variable {M : Model} {A : Around} {E : Value → Shared → Prop} {s : Shared} {env : Env} {outer : List Env} {L e : Addr}
theorem hd_new {h : Heap} {cls : String} {Q : Unit → Shared → Prop} (hfr : A.frames = some (env :: outer)) (hf : env.frame = some L) (F : Frs (env :: outer) h) (hx : Heap.NewExc h s.heap e cls)
    (hQ : ∀ h', Hd h (env :: outer) e (.type cls) (rawInt L) h' → Q () { s with heap := h' }) : wpAny M A (noteFrame (.ref e) env) Q E s := by
  obtain ⟨ob, tp, he, hcls, hd⟩ := hx.there
  have hen : (bsOf h).get? e = none := by
    cases q : (bsOf h).get? e with
    | none => rfl
    | some o => have := of_hideAll _ q; rw [hx.new] at this; cases this
  unfold noteFrame
  simp only [hf]
  refine wpAny_bind (wpAny_field he hd (x := .none) rfl ?_)
  rw [if_neg (by decide)]
  refine wpAny_entryW (a0 := tp) hfr (F.fun hx.keeps) hf he (fun b o g => hx.keeps b o (of_hideAll _ g)) hen hd (by show 1 < 6; decide) rfl fun h' N => ?_
  obtain ⟨n1, n2, n3, n4⟩ := N
  exact hQ h' ⟨n1, hen, n2, ⟨tp, hcls ▸ n3⟩, (Heap.UpToSlots.of_keeps hx.keeps).trans n4⟩
theorem hd_fly {h : Heap} {cls fl : Value} {o : Option Addr} {Q : Unit → Shared → Prop} (H : Hd h outer e cls fl s.heap)
    (hQ : ∀ h', Hd h outer e cls (o.elim .none fun f => rawInt f) h' → Q () { s with heap := h' }) : wpAny M A (setFlight (.ref e) o) Q E s := by
  obtain ⟨hkb, hen, hl, ⟨a0, oe, vs, T, oT, ts, he, hcls, hd, h1, hnT, hTe, hT, hdT, h3⟩, hup⟩ := H
  have hsz3 : 3 < ts.size := (Array.getElem?_eq_some_iff.mp h3).1
  have other : ∀ b, b ≠ T → (s.heap.update T (Obj.mapFields (·.setIfInBounds 3 (o.elim Value.none fun f => rawInt f)))).get? b = s.heap.get? b :=
    fun b hb => Heap.get?_update_other _ _ (Ne.symm hb)
  have noRecord : ∀ b o, s.heap.get? b = some o → (∀ vs, o.data ≠ .fields vs) → b ≠ T := fun b o hb hnf q => by
    rw [q, hT] at hb; injection hb with hb; subst hb; exact hnf ts hdT
  unfold setFlight
  refine wpAny_bind (wpAny_field he hd h1 ?_)
  rw [if_pos (show (Value.ref T != Value.none) = true from by simp)]
  refine wpAny_setField hT hdT hsz3 (hQ _ ⟨fun b o hbo => (other b fun q => by rw [q, hnT] at hbo; cases hbo).trans (hkb b o hbo), hen,
    hl.of_keeps fun b o hb hnf => ⟨o, (other b (noRecord b o hb hnf)).trans hb, rfl⟩, ⟨a0, ?_⟩, hup.trans fun b o hb hnf => ⟨o.slots, (other b (noRecord b o hb hnf)).trans hb⟩⟩)
  exact ⟨oe, vs, T, _, _, (other e (Ne.symm hTe)).trans he, hcls, hd, h1, hnT, hTe, Heap.get?_update_self _ hT (Obj.isFreed_of_fields (Obj.data_mapFields hdT _)), Obj.data_mapFields hdT _, by simp [hsz3]⟩
theorem hd_again {h : Heap} {cls : Value} {Q : Unit → Shared → Prop} (hf : env.frame = some L) (H : Hd h outer e cls (rawInt L) s.heap) (hQ : Q () s) : wpAny M A (noteFrame (.ref e) env) Q E s :=
  let ⟨_, t⟩ := H.tr; wpAny_noteFrame_againW hf t hQ
theorem hd_came {h : Heap} {cls fl : Value} (hf : env.frame = some L) (H : Hd h outer e cls fl s.heap) (hQ : ∀ h', Hd h outer e cls (rawInt L) h' → E (.ref e) { s with heap := h' }) : cameBackBy M A env E (.ref e) s := by
  obtain ⟨a0, oe, vs, T, oT, ts, he, hcls, hd, h1, r⟩ := id H.tr
  unfold cameBackBy
  refine wpAny_bind (wpAny_field he hd h1 ?_)
  rw [if_neg (show ¬ ((Value.ref T == Value.none) = true) from by simp), hf]
  exact hd_fly (o := some L) H fun h' H' => hQ h' H'
end
end Mine
end
section
set_option genInjectivity false
set_option genSizeOf false
open PySem PySem.W PyProof.Rows PySem.Spec PySem.Calls
namespace Mine
variable [Inhabited Bnd]
theorem alphabet {B : Md} (O : B.Ok) (Df : Dd B "_law_alphabet" 20) : Fun B "_law_alphabet" 1 [] (tx alpha) :=
  Fun.of0 O Df fun prog w A U T pm cd doc L a s₀ s I R OT F => F.ret (Ev.cTx (by decide +kernel)) fun v s' g => g
/-- the octets that a number tells -/
def oct (x : Int) : List Int := (List.range (x.fmod 6).toNat).map fun k => ((x.fdiv 6).fdiv (256 ^ k)).fmod 256
theorem fmod6 (x : Int) : (0 : Int) ≤ x.fmod 6 ∧ x.fmod 6 < 6 := ⟨Int.fmod_nonneg_of_pos _ (by decide), Int.fmod_lt_of_pos _ (by decide)⟩
theorem octets {B : Md} (O : B.Ok) (N : Nm B) (Df : Dd B "_law_octets" 19) (x : Int) : Fun B "_law_octets" 3 [int x] (byt (byteArr (oct x))) :=
  Fun.of1 O "x" Df (.inr ⟨rfl, fun _ => rfl⟩) fun prog w A U T pm cd doc L a s₀ s I R OT F => by
    have I' := O.at I F.kp
    have hn : ((x.fmod 6).toNat : Int) = x.fmod 6 := Int.toNat_of_nonneg (fmod6 x).1
    have hl := (fmod6 x).2
    refine F.ret (Ev.callB O I' F.fs N.bytes.1 N.bytes.2 rfl (EvL.cons (CompEv.ev (CompEv.map (xs := List.range (x.fmod 6).toNat) (P := Plain fun k => int (k : Nat)) (bnd := fun k => [("k", int (k : Nat))]) (ρ' := [("x", int x)]) (f := fun k => int (((x.fdiv 6).fdiv (256 ^ k)).fmod 256))
      F.fs (Clos.one rfl) ⟨⟨rfl, rfl, rfl, fun _ => rfl⟩, trivial⟩ ?it AsgX.loc (fun k hk C acc s H => ?el) ?hN (apart rfl))) EvL.nil) (Bi.bytes' (ns := oct x) (by rw [oct, List.map_map]; rfl) R.1 ?hr ?hz)) fun v s' g => g
    case it => exact EvIt.rangeL R.1 O N I' F.fs (by rw [hn]; exact Ev.bin F.fs.cell Ev.cInt (Op2.mod (by decide))) (by omega)
    case el =>
      have hp : ((256 : Int) ^ ((k : Nat) : Int).toNat) ≠ 0 := Int.pow_ne_zero (by decide)
      have := List.mem_range.mp hk
      exact Ev.bin (Ev.div O (H.in_ O I') OT R.less (Ev.div O (H.in_ O I') OT R.less H.fs.cell Ev.cInt (by decide)) (Ev.bin Ev.cInt H.fs.loc (Op2.pow (by omega) (by omega) (by decide))) hp) Ev.cInt (Op2.mod (by decide))
    case hN => rw [List.length_range, sizeLine_eq]; omega
    case hr =>
      intro n m
      obtain ⟨k, _, rfl⟩ := List.mem_map.mp m
      exact ⟨Int.fmod_nonneg_of_pos _ (by decide), Int.fmod_lt_of_pos _ (by decide)⟩
    case hz => rw [oct, List.length_map, List.length_range, sizeLine_eq]; omega
end Mine
end
section
set_option genInjectivity false
set_option genSizeOf false
set_option maxHeartbeats 2000000
open PySem PySem.W PyProof.Rows PySem.Spec PySem.Calls
namespace Mine
variable [Inhabited Bnd]
/-- the bits of octets -/
def bits8 (o : UInt8) : List Int := (List.range 8).map fun k => ((o.toNat : Int).fdiv (2 ^ (7 - k : Nat))).fmod 2
def bits (b : List UInt8) : List Int := b.flatMap bits8
def padded (b : List UInt8) : List Int := bits b ++ List.replicate ((-((bits b).length : Int)).fmod 6).toNat 0
def sixAt (l : List Int) (k : Nat) : Int := ((List.range 6).map fun j => l.getD (6 * k + j) 0 * 2 ^ (5 - j : Nat)).sum
def sixes (b : List UInt8) : List Int := (List.range ((padded b).length / 6)).map (sixAt (padded b))
def text (b : List UInt8) : List Nat := (sixes b).map (fun v => alpha.getD v.toNat 0) ++ List.replicate ((-((sixes b).length : Int)).fmod 4).toNat 61
/-- what is asked of the octets' sixes -/
structure Six (b : List UInt8) : Prop where
  few : b.length ≤ 100
  whole : (padded b).length = 6 * ((padded b).length / 6)
  low : ∀ v ∈ sixes b, 0 ≤ v ∧ v < 64
theorem bits_len (b : List UInt8) : (bits b).length = 8 * b.length := by
  induction b with
  | nil => rfl
  | cons o r ih => rw [bits, List.flatMap_cons, List.length_append, List.length_cons]; show (bits8 o).length + (bits r).length = _; rw [ih]; simp [bits8]; omega

theorem pad_len (b : List UInt8) : (padded b).length ≤ 8 * b.length + 6 := by
  have := Int.fmod_lt_of_pos (-((bits b).length : Int)) (show (0 : Int) < 6 by decide)
  rw [padded, List.length_append, List.length_replicate, bits_len] at *; omega
theorem law_text {B : Md} (O : B.Ok) (N : Nm B) (Df : Dd B "_law_text" 21) (fa : Fun B "_law_alphabet" 1 [] (tx alpha)) {b : List UInt8} (h6 : Six b) : Fun B "_law_text" 3 [byt b.toArray] (tx (text b)) :=
  Fun.of1 O "octets" Df (.inl rfl) fun prog w A U T pm cd doc L a s₀ s I R OT F => by
    have hb := bits_len b
    have hf := h6.few
    have f6 : (0 : Int) ≤ (-((bits b).length : Int)).fmod 6 ∧ (-((bits b).length : Int)).fmod 6 < 6 := ⟨Int.fmod_nonneg_of_pos _ (by decide), Int.fmod_lt_of_pos _ (by decide)⟩
    have hp := pad_len b
    refine F.asgC (d := lsI (bits b)) (Ev.is ?e1 (CompEv.ev (CompEv.of (xs := b.toArray.toList) (P := Plain fun y : UInt8 => int y.toNat) (bnd := fun y => [("octet", int y.toNat)]) (ρ' := []) (k := fun o => (List.range 8).map fun k => int (((o.toNat : Int).fdiv (2 ^ (7 - k : Nat))).fmod 2)) F.fs rfl Clos.nil trivial
      (EvIt.bytes R.1 F.fs.loc) AsgX.loc Eqn.two (fun o ho => EltOk.nest (ys := List.range 8) (num := fun k => (k : Nat)) ?it (fun k hk C acc s H => ?el) rfl) ?hN (apart rfl)))) fun s1 F1 => ?_
    case e1 => rw [lsI, bits, List.map_flatMap]; simp only [bits8, List.map_map]; rfl
    case it => exact fun C acc s H => EvIt.rangeL R.1 O N (H.in_ O (O.at I F.kp)) H.fs Ev.cInt (by decide)
    case hN =>
      have : ∀ l : List UInt8, (l.flatMap fun o => (List.range 8).map fun k => int (((o.toNat : Int).fdiv (2 ^ (7 - k : Nat))).fmod 2)).length = 8 * l.length := fun l => by
        induction l with
        | nil => rfl
        | cons o r ih => rw [List.flatMap_cons, List.length_append, ih, List.length_map, List.length_range, List.length_cons]; omega
      rw [this, sizeLine_eq]; simp; omega
    case el =>
      have hk := List.mem_range.mp hk
      have e : ((7 : Int) - (k : Nat)).toNat = 7 - k := by omega
      have q := pow2_small (7 - k) (by omega)
      exact Ev.is (by rw [e]) (Ev.bin (Ev.bin H.fs.loc (Ev.bin Ev.cInt (Ev.bin Ev.cInt H.fs.loc Op2.sub) (Op2.pow (by omega) (by omega) (by decide))) (Op2.divS (by rw [e]; exact q.2) (PyProof.noPylong_small (by rw [e]; exact q.1)))) Ev.cInt (Op2.mod (by decide)))
    have I1 := O.at I F1.kp
    refine F1.asgC (d := lsI (padded b)) (Ev.is ?e2 (Ev.bin F1.fs.cell (Ev.bin (Ev.list (EvL.cons Ev.cInt EvL.nil)) (Ev.bin (Ev.neg (Ev.callB O I1 F1.fs N.len.1 N.len.2 rfl (EvL.cons F1.fs.cell EvL.nil) (Bi.lenL ?h1))) Ev.cInt (Op2.mod (by decide)))
      (Op2.mulX ?h2 ?h3 (by decide))) (Op2.addL ?h4))) fun s2 F2 => ?_
    case e2 => simp [padded, lsI]
    case h1 => rw [List.length_map, hb]; omega
    case h2 => rw [List.length_map]; exact f6.1
    case h3 => rw [List.length_map]; omega
    case h4 => simp [sizeLine_eq]; omega
    have I2 := O.at I F2.kp
    have hw := h6.whole
    refine F2.comp (d := lsI (sixes b)) (CompEv.is ?e3 (CompEv.map (xs := List.range ((padded b).length / 6)) (P := Plain fun k => int (6 * (k : Nat))) (bnd := fun k => [("k", int (6 * (k : Nat)))]) (ρ' := [("bits", lsI (padded b))]) (f := fun k => int (sixAt (padded b) k))
      F2.fs (cl := [("bits", L + 1)]) (Clos.one rfl) ⟨⟨rfl, rfl, rfl, fun _ => rfl⟩, trivial⟩ (EvIt.range6 R.1 O N I2 F2.fs (Ev.callB O I2 F2.fs N.len.1 N.len.2 rfl (EvL.cons F2.fs.cell EvL.nil) (Bi.lenL ?h5)) ?h6 ?h7) AsgX.cell (fun k hk C acc s H => ?el3) ?h8 (apart rfl))) fun s3 F3 => ?_
    case e3 => rw [lsI, sixes, List.map_map]; rfl
    case h5 => rw [List.length_map]; omega
    case h6 => rw [List.length_map]; omega
    case h7 => omega
    case h8 => rw [List.length_range, sizeLine_eq]; omega
    case el3 =>
      have hk := List.mem_range.mp hk
      refine Ev.callB O (H.in_ O I2) H.fs N.sum.1 N.sum.2 rfl (EvL.cons (CompEv.ev (CompEv.map (xs := List.range 6) (P := Plain fun j => int (j : Nat)) (bnd := fun j => [("j", int (j : Nat))]) (ρ' := [("bits", lsI (padded b)), ("k", int (6 * (k : Nat)))]) (f := fun j => int ((padded b).getD (6 * k + j) 0 * 2 ^ (5 - j : Nat)))
        H.fs (Clos.two rfl rfl (by decide)) ⟨⟨rfl, rfl, rfl, fun _ => rfl⟩, ⟨rfl, rfl, rfl, fun _ => rfl⟩, trivial⟩ (EvIt.rangeL R.1 O N (H.in_ O I2) H.fs Ev.cInt (by decide)) AsgX.loc (fun j hj C' acc' s' H' => ?el4) (by decide) (apart rfl))) EvL.nil) (Bi.sum' ?e4 R.1)
      case e4 => rw [List.map_map]; rfl
      case el4 =>
        have hj := List.mem_range.mp hj
        have e : ((5 : Int) - (j : Nat)).toNat = 5 - j := by omega
        have hlt : 6 * k + j < (padded b).length := by omega
        exact Ev.is (by rw [e]) (Ev.bin (Ev.sub H'.fs.cell (Ev.bin H'.fs.cell H'.fs.loc Op2.add) (Idx.ints (n := 6 * k + j) (v := (padded b).getD (6 * k + j) 0) (by omega) (by rw [List.getD_eq_getElem?_getD, List.getElem?_eq_getElem hlt]; rfl) (by omega)))
          (Ev.bin Ev.cInt (Ev.bin Ev.cInt H'.fs.loc Op2.sub) (Op2.pow (by omega) (by omega) (by decide))) (Op2.mul (.of_right (by rw [e]; exact pow2_bits (5 - j) (by omega)))))
    have I3 := O.at I F3.kp
    have hsl : (sixes b).length = (padded b).length / 6 := by rw [sixes, List.length_map, List.length_range]
    have f4 : (0 : Int) ≤ (-((sixes b).length : Int)).fmod 4 ∧ (-((sixes b).length : Int)).fmod 4 < 4 := ⟨Int.fmod_nonneg_of_pos _ (by decide), Int.fmod_lt_of_pos _ (by decide)⟩
    have f4' : (((-((sixes b).length : Int)).fmod 4).toNat : Int) = (-((sixes b).length : Int)).fmod 4 := Int.toNat_of_nonneg f4.1
    refine F3.ret (Ev.bin (Ev.meth (Ev.cTx (x := [])) (EvL.cons (CompEv.ev (CompEv.is ?e5 (CompEv.map (xs := sixes b) (P := Plain int) (bnd := fun v => [("six", int v)]) (ρ' := []) (f := fun v => tx [alpha.getD v.toNat 0])
      F3.fs Clos.nil trivial (EvIt.list R.1 F3.fs.loc) AsgX.loc (fun v hv C acc s H => ?el5) ?h9 (apart rfl)))) EvL.nil) (Me.join (x := (sixes b).map fun v => alpha.getD v.toNat 0) ?h10))
      (Ev.bin (Ev.cTx (x := [61])) (Ev.bin (Ev.neg (Ev.callB O I3 F3.fs N.len.1 N.len.2 rfl (EvL.cons F3.fs.loc EvL.nil) (Bi.lenL ?h11))) Ev.cInt (Op2.mod (by decide))) (Op2.is ?h12 (Op2.mulS (n := ((-((sixes b).length : Int)).fmod 4).toNat) ?h13))) (Op2.addS ?h14)) fun v s' g => g
    case e5 => rw [List.map_map]; rfl
    case el5 =>
      have hv := h6.low v hv
      have hal : v.toNat < alpha.length := by have : alpha.length = 64 := by decide
                                              omega
      exact Ev.sub (Ev.call0 O (H.in_ O I3) H.fs fa R.less) H.fs.loc (Idx.txI (n := v.toNat) (by omega) (by rw [List.getD_eq_getElem?_getD, List.getElem?_eq_getElem hal]; rfl) (by omega))
    case h9 => rw [hsl, sizeLine_eq]; omega
    case h10 => rw [List.length_map, hsl, sizeLine_eq]; omega
    case h11 => rw [List.length_map, hsl]; omega
    case h12 => rw [List.length_map, f4']
    case h13 => omega
    case h14 => rw [List.length_map, List.length_replicate, sizeLine_eq]; omega
end Mine
end
section
set_option genInjectivity false
set_option genSizeOf false
set_option maxHeartbeats 2000000
open PySem PySem.W PyProof.Rows PySem.Spec PySem.Calls
namespace Mine
variable [Inhabited Bnd]
/-- a text spoilt -/
def spoilt (x : List Nat) : List Nat := cut x none (some (((x.findIdx (· == 61) : Nat) : Int) - 1)) ++ [alpha.getD (alpha.findIdx (· == x.getD (x.findIdx (· == 61) - 1) 0) + 1) 0] ++ cut x (some (((x.findIdx (· == 61) : Nat) : Int) - 1 + 1)) none
structure Sp (x : List Nat) : Prop where
  short : x.length ≤ 1000
  sign : x[x.findIdx (· == 61)]? = some 61
  first : 1 ≤ x.findIdx (· == 61)
  known : alpha[alpha.findIdx (· == x.getD (x.findIdx (· == 61) - 1) 0)]? = some (x.getD (x.findIdx (· == 61) - 1) 0)
  low : alpha.findIdx (· == x.getD (x.findIdx (· == 61) - 1) 0) + 1 < 64
theorem getD_some {l : List Nat} {i : Nat} (h : i < l.length) : l[i]? = some (l.getD i 0) := by rw [List.getD_eq_getElem?_getD, List.getElem?_eq_getElem h]; rfl
theorem law_spoilt {B : Md} (O : B.Ok) (Df : Dd B "_law_spoilt" 22) (fa : Fun B "_law_alphabet" 1 [] (tx alpha)) {x : List Nat} (h : Sp x) : Fun B "_law_spoilt" 3 [tx x] (tx (spoilt x)) :=
  Fun.of1 O "text" Df (.inl rfl) fun prog w A U T pm cd doc L a s₀ s I R OT F => by
    have hl := h.short
    have hf : x.findIdx (· == 61) < x.length := (List.getElem?_eq_some_iff.mp h.sign).1
    have h1 := h.first
    have h2 := h.low
    have al : alpha.length = 64 := by decide
    have hx : x[x.findIdx (· == 61) - 1]? = some (x.getD (x.findIdx (· == 61) - 1) 0) := by rw [List.getD_eq_getElem?_getD, List.getElem?_eq_getElem (show x.findIdx (· == 61) - 1 < x.length by omega)]; rfl
    have hs : ∀ lo hi, (cut x lo hi).length ≤ 1000 := fun lo hi => by
      unfold cut; rw [List.length_take, List.length_drop]; omega
    refine F.asg (Ev.bin (Ev.meth F.fs.loc (EvL.cons (Ev.cTx (x := [61])) EvL.nil) (Me.index h.sign)) Ev.cInt Op2.sub) fun s1 F1 => ?_
    have I1 := O.at I F1.kp
    refine F1.ret (Ev.bin (Ev.bin (Ev.slice F1.fs.loc EvP.no (EvP.yes F1.fs.loc) EvP.no (Slc.tx (by rw [sizeLine_eq]; omega)))
      (Ev.sub (Ev.call0 O I1 F1.fs fa R.less) (Ev.bin (Ev.meth (Ev.call0 O I1 F1.fs fa R.less) (EvL.cons (Ev.sub F1.fs.loc F1.fs.loc (Idx.txI (n := x.findIdx (· == 61) - 1) (by omega) hx (by omega))) EvL.nil) (Me.index h.known)) Ev.cInt Op2.add)
        (Idx.txI (n := alpha.findIdx (· == x.getD (x.findIdx (· == 61) - 1) 0) + 1) (a := alpha.getD (alpha.findIdx (· == x.getD (x.findIdx (· == 61) - 1) 0) + 1) 0) (by omega) (getD_some (by omega)) (by omega)))
      (Op2.addS ?_)) (Ev.slice F1.fs.loc (EvP.yes (Ev.bin F1.fs.loc Ev.cInt Op2.add)) EvP.no EvP.no (Slc.tx (by rw [sizeLine_eq]; omega))) (Op2.addS ?_)) fun v s' g => g
    · have := hs none (some (((x.findIdx (· == 61) : Nat) : Int) - 1))
      rw [sizeLine_eq, List.length_singleton]; omega
    · have := hs none (some (((x.findIdx (· == 61) : Nat) : Int) - 1))
      have := hs (some (((x.findIdx (· == 61) : Nat) : Int) - 1 + 1)) none
      rw [List.length_append, sizeLine_eq, List.length_singleton]; omega
/-- does a part take a sign -/
def one (part : List Nat) (a : Nat) : Bool :=
  if cut part none (some 2) = [91, 94] then !decide (a ∈ cut part (some 2) (some (-1)))
  else if cut part none (some 1) = [91] then decide (a ∈ cut part (some 1) (some (-1))) else decide (cut part (some (-1)) none = [a])
theorem Cmp.eqT {c : Cx} {x y : List Nat} : Cmp c .Eq (tx x) (tx y) (decide (x = y)) := by
  have := Cmp.eqS (c := c) (x := x) (y := y)
  rwa [show (x == y) = decide (x = y) by rw [Bool.eq_iff_iff]; simp] at this
theorem law_one {B : Md} (O : B.Ok) (Df : Dd B "_law_one" 23) {part : List Nat} {a : Nat} (h : part.length ≤ 1000) : Fun B "_law_one" 1 [tx part, tx [a]] (boo (one part a)) :=
  Fun.of2 O "part" "sign" Df (.inl rfl) (.inl rfl) fun prog w A U T pm cd doc L ad s₀ s I R OT F => by
    have hz : part.length ≤ sizeLine := by rw [sizeLine_eq]; omega
    refine F.iff (EvT.cmp (Ev.slice F.fs.loc EvP.no (EvP.yes Ev.cInt) EvP.no (Slc.tx hz)) (Ev.cTx (x := [91, 94])) Cmp.eqT) fun s1 F1 => ?_
    by_cases q : cut part none (some 2) = [91, 94]
    · rw [if_pos (decide_eq_true q)]
      have e : one part a = !decide (a ∈ cut part (some 2) (some (-1))) := if_pos q
      rw [e]
      exact F1.ret (Ev.cmp F1.fs.loc (Ev.slice F1.fs.loc (EvP.yes Ev.cInt) (EvP.yes (Ev.neg Ev.cInt)) EvP.no (Slc.tx hz)) Cmp.notInS) fun v s' g => g
    · rw [if_neg (by simpa using q)]
      have e : one part a = if cut part none (some 1) = [91] then decide (a ∈ cut part (some 1) (some (-1))) else decide (cut part (some (-1)) none = [a]) := if_neg q
      refine ex_nil ?_
      refine F1.ret (Ev.is (congrArg boo e.symm) (Ev.ite (EvT.cmp (Ev.slice F1.fs.loc EvP.no (EvP.yes Ev.cInt) EvP.no (Slc.tx hz)) (Ev.cTx (x := [91])) Cmp.eqT)
        (fun hb => Ev.is (congrArg boo ?_) (Ev.cmp F1.fs.loc (Ev.slice F1.fs.loc (EvP.yes Ev.cInt) (EvP.yes (Ev.neg Ev.cInt)) EvP.no (Slc.tx hz)) Cmp.inS))
        (fun hb => Ev.is (congrArg boo ?_) (Ev.cmp (Ev.slice F1.fs.loc (EvP.yes (Ev.neg Ev.cInt)) EvP.no EvP.no (Slc.tx hz)) F1.fs.loc Cmp.eqT)))) fun v s' g => g
      · rw [if_pos (of_decide_eq_true hb)]
      · rw [if_neg (of_decide_eq_false hb)]
end Mine
end
section
set_option genInjectivity false
set_option genSizeOf false
set_option maxHeartbeats 2000000
open PySem PySem.W PyProof.Rows PySem.Spec PySem.Calls
namespace Mine
variable [Inhabited Bnd]
theorem cut_from {α : Type} (l : List α) (k : Nat) : cut l (some (k : Int)) none = l.drop k := by
  unfold cut kms_lo kms_hi
  simp only
  rw [if_neg (by omega)]
  by_cases h : k ≤ l.length
  · rw [Int.toNat_natCast, Nat.min_eq_left h]; exact List.take_of_length_le (by simp)
  · rw [Int.toNat_natCast, Nat.min_eq_right (by omega), List.drop_of_length_le (Nat.le_refl _), List.drop_of_length_le (by omega)]; simp
theorem cut_to {α : Type} (l : List α) (k : Nat) : cut l none (some (k : Int)) = l.take k := by
  unfold cut kms_lo kms_hi
  simp only
  rw [if_neg (by omega), Int.toNat_natCast, List.drop_zero, Nat.sub_zero]
  by_cases h : k ≤ l.length
  · rw [Nat.min_eq_left h]
  · rw [Nat.min_eq_right (by omega), List.take_of_length_le (Nat.le_refl _), List.take_of_length_le (by omega)]
theorem Tr.boo {c : Cx} {b : Bool} : Tr c (Mine.boo b) b := fun s v ok e => by cases e; exact wpAny_truthy_bool ⟨.refl ok, rfl⟩
/-- do the parts take a text, from its end on -/
def takes (ps : List (List Nat)) (x : List Nat) : Bool := if x.length < ps.length then false else decide (((ps.zip (x.drop (x.length - ps.length))).filter fun p => !one p.1 p.2).map (·.1) = [])
theorem law_takes {B : Md} (O : B.Ok) (N : Nm B) (Df : Dd B "_law_takes" 24) {ps : List (List Nat)} {x : List Nat} (fo : ∀ p a, p.length ≤ 1000 → Fun B "_law_one" 1 [tx p, tx [a]] (boo (one p a))) (hx : x.length ≤ 1000) (hps : ps.length ≤ 1000) (hp' : ∀ p ∈ ps, p.length ≤ 1000) (hc : ∀ c ∈ x, c < 128) :
    Fun B "_law_takes" 3 [ls ((none :: ps.map some).map opt), tx x] (boo (takes ps x)) :=
  Fun.of2 O "parts" "text" Df (.inl rfl) (.inl rfl) fun prog w A U T pm cd doc L ad s₀ s I R OT F => by
    have hL : ((none :: ps.map some).map opt).length ≤ sizeLine := by simp [sizeLine_eq]; omega
    have hm : (ps.map some).map opt = ps.map tx := by rw [List.map_map]; rfl
    refine F.asg (d := ls (ps.map tx)) (Ev.is ?e1 (Ev.slice F.fs.loc (EvP.yes Ev.cInt) EvP.no EvP.no (Slc.list hL))) fun s1 F1 => ?_
    case e1 => rw [show (some (1 : Int)) = some ((1 : Nat) : Int) from rfl, cut_from]; show ls ((ps.map some).map opt) = _; rw [hm]
    have I1 := O.at I F1.kp
    refine F1.iff (EvT.or (b := false) (b' := decide (x.length < ps.length)) (EvT.is ?e2 (EvT.cmp (Ev.is ?e3 (Ev.slice F1.fs.loc EvP.no (EvP.yes Ev.cInt) EvP.no (Slc.list hL))) (Ev.list (ds := [none].map opt) (EvL.cons Ev.cNone EvL.nil)) (Cmp.neL (xs := [none]) (ys := [none]) Dat.opt R)))
      fun _ => EvT.is ?e4 (EvT.cmp (Ev.callB O I1 F1.fs N.len.1 N.len.2 rfl (EvL.cons F1.fs.loc EvL.nil) (Bi.lenL ?h1)) (Ev.callB O I1 F1.fs N.len.1 N.len.2 rfl (EvL.cons F1.fs.loc EvL.nil) (Bi.lenS ?h2)) Cmp.gtI)) fun s2 F2 => ?_
    case e2 => simp
    case e3 => rw [show (some (1 : Int)) = some ((1 : Nat) : Int) from rfl, cut_to]; rfl
    case e4 => rw [List.length_map]; exact decide_eq_decide.mpr (by omega)
    case h1 => rw [List.length_map]; omega
    case h2 => omega
    by_cases q : x.length < ps.length
    · rw [decide_eq_true q]
      have e : takes ps x = false := if_pos q
      rw [e]
      exact F2.ret Ev.cBool fun v s' g => g
    · rw [decide_eq_false q]
      refine ex_nil ?_
      have I2 := O.at I F2.kp
      have e : takes ps x = decide (((ps.zip (x.drop (x.length - ps.length))).filter fun p => !one p.1 p.2).map (·.1) = []) := if_neg q
      have lz : (x.drop (x.length - ps.length)).length = ps.length := by rw [List.length_drop]; omega
      have z1 : (ps.zip (x.drop (x.length - ps.length))).map (fun p => tx p.1) = ps.map tx := by
        have h := congrArg (List.map tx) (List.map_fst_zip (l₁ := ps) (l₂ := x.drop (x.length - ps.length)) (by omega))
        rwa [List.map_map] at h
      have z2 : (ps.zip (x.drop (x.length - ps.length))).map (fun p => p.2) = x.drop (x.length - ps.length) := List.map_snd_zip (by omega)
      refine F2.ret (Ev.is (congrArg boo e.symm) (Ev.cmp (CompEv.ev (CompEv.is ?e5 (CompEv.filter (xs := ps.zip (x.drop (x.length - ps.length))) (P := Pr (fun p => tx p.1) fun p => tx [p.2]) (bnd := fun p => [("sign", tx [p.2]), ("part", tx p.1)]) (ρ' := []) (f := fun p => tx p.1) (t := fun p => !one p.1 p.2)
        F2.fs Clos.nil trivial ?it (AsgX.pair R.1)
        (fun p hp C acc s H => ?el1) (fun p hp hb C acc s H => ?el2) ?h7 ?h8))) (Ev.list EvL.nil) (Cmp.eqD (x := ((ps.zip (x.drop (x.length - ps.length))).filter fun p => !one p.1 p.2).map (·.1)) (y := []) (Dat.ls Dat.tx) R))) fun v s' g => g
      case it =>

        refine EvIt.zipLS R.1 O N I2 F2.fs ?v1 ?v2 ?v3
        case v1 => rw [z1]; exact F2.fs.loc
        case v2 => rw [z2]
                   refine Ev.is ?q (Ev.slice F2.fs.loc (EvP.yes (Ev.bin (Ev.callB O I2 F2.fs N.len.1 N.len.2 rfl (EvL.cons F2.fs.loc EvL.nil) (Bi.lenS (by omega))) (Ev.callB O I2 F2.fs N.len.1 N.len.2 rfl (EvL.cons F2.fs.loc EvL.nil) (Bi.lenL (by simp; omega))) Op2.sub)) EvP.no EvP.no (Slc.tx (by rw [sizeLine_eq]; omega)))
                   rw [List.length_map, show (x.length : Int) - (ps.length : Int) = ((x.length - ps.length : Nat) : Int) by omega, cut_from]
        case v3 => exact fun p hp => hc _ (List.mem_of_mem_drop (List.of_mem_zip hp).2)
      case e5 => rw [List.map_map]; rfl
      case el1 => exact EvT.not (EvT.val (Ev.call O (H.in_ O I2) H.fs (fo p.1 p.2 (hp' _ (List.of_mem_zip hp).1)) R.less (EvL.cons H.fs.loc (EvL.cons H.fs.loc EvL.nil))) Tr.boo)
      case el2 => exact H.fs.loc
      case h7 => rw [List.length_zip, sizeLine_eq]; omega
      case h8 => exact fun _ _ e => by cases e
end Mine
end
section
set_option genInjectivity false
set_option genSizeOf false
set_option maxHeartbeats 2000000
open PySem PySem.W PyProof.Rows PySem.Spec PySem.Calls
namespace Mine
variable [Inhabited Bnd]
/-- each once, in the order of the first -/
def ddp {α : Type} [DecidableEq α] (xs : List α) : List α := xs.foldl (fun acc x => if x ∈ acc then acc else acc ++ [x]) []
theorem ddp_take {α : Type} [DecidableEq α] (xs : List α) (i : Nat) (y : α) (h : xs[i]? = some y) : ddp (xs.take (i + 1)) = if y ∈ ddp (xs.take i) then ddp (xs.take i) else ddp (xs.take i) ++ [y] := by
  rw [List.take_add_one, h]
  unfold ddp
  rw [Option.toList_some, List.foldl_append, List.foldl_cons, List.foldl_nil]
theorem ddp_len {α : Type} [DecidableEq α] (xs : List α) : (ddp xs).length ≤ xs.length := by
  have : ∀ (xs acc : List α), (xs.foldl (fun acc x => if x ∈ acc then acc else acc ++ [x]) acc).length ≤ acc.length + xs.length := fun xs => by
    induction xs with
    | nil => intro acc; simp
    | cons x xs ih =>
      intro acc
      rw [List.foldl_cons]
      refine Nat.le_trans (ih _) ?_
      split
      · simp
      · simp; omega
  simpa [ddp] using this xs []
theorem law_ddp {B : Md} (O : B.Ok) (Df : Dd B "_deduplicate_unhashable" 16) {α : Type} [DecidableEq α] {n : Nat} {g : α → D} (hg : Dat n g) (hn : n + 1 ≤ 800) {xs : List α} (hx : xs.length ≤ 1000) : Fun B "_deduplicate_unhashable" 1 [ls (xs.map g)] (ls ((ddp xs).map g)) :=
  Fun.of1 O "unhashable_params" Df (.inl rfl) fun prog w A U T pm cd doc L ad s₀ s I R OT F => by
    refine F.own EvNew.nil fun a s1 O1 => ?_
    refine O1.for (xs := xs) (g := g) (EvIt.list R.1 O1.cs.fs.loc) (fun _ => [("new_unhashable", val (.ref a))]) (fun done => (ddp done).map g) (tell_cons rfl tell_nil) rfl (fun i y s2 hy O2 => ?_) fun s3 O3 => ?_
    · have hl : (ddp (xs.take i)).length ≤ 1000 := Nat.le_trans (ddp_len _) (by rw [List.length_take]; omega)
      refine O2.iff (O2.notIn (y := y) hg R O2.cs.fs.loc (hn := hn)) fun s3 O3 => ?_
      rw [ddp_take xs i y hy]
      by_cases q : y ∈ ddp (xs.take i)
      · rw [decide_eq_true q, if_pos q]
        exact ex_nil (ex_nil ⟨rfl, O3.tell (tell_cons rfl tell_nil)⟩)
      · rw [decide_eq_false q, if_neg q]
        refine O3.app O3.cs.fs.loc (by rw [List.length_map, sizeLine_eq]; omega) (fun s4 O4 => ex_nil (ex_nil ⟨rfl, ?_⟩))
        rw [List.map_append]
        exact O4.tell (tell_cons rfl tell_nil)
    · have F3 := O3.release (x := "new_unhashable") F.kp.ok0
      exact Wp.un (a := a) (F3.ret F3.fs.loc fun v s' g => g)
end Mine
end
section
set_option genInjectivity false
set_option genSizeOf false
set_option maxHeartbeats 2000000
open PySem PySem.W PyProof.Rows PySem.Spec PySem.Calls
namespace Mine
variable [Inhabited Bnd]
theorem law_buffer {B : Md} (O : B.Ok) (N : Nm B) (Df : Dd B "_buffer" 9) {b : Array UInt8} : Fun B "_buffer" 1 [byt b] (byt b) :=
  Fun.of1 O "data" Df (.inl rfl) fun prog w A U T pm cd doc L a s₀ s I R OT F => by
    have I' := O.at I F.kp
    refine F.asg (Ev.callB O I' F.fs N.type.1 N.type.2 rfl (EvL.cons F.fs.loc EvL.nil) Bi.typeB) fun s1 F1 => ?_
    refine F1.iff (EvT.cmp F1.fs.loc (Ev.bi O (O.at I F1.kp) F1.fs N.bytes.1 N.bytes.2) (Cmp.isV rfl)) fun s2 F2 => ?_
    exact F2.ret F2.fs.loc fun v s' g => g
theorem law_truth {B : Md} (O : B.Ok) (N : Nm B) (Df : Dd B "_truth" 10) {q : Bool} : Fun B "_truth" 1 [boo q] (boo q) :=
  Fun.of1 O "x" Df (.inl rfl) fun prog w A U T pm cd doc L a s₀ s I R OT F => by
    have I' := O.at I F.kp
    refine F.asg (Ev.callB O I' F.fs N.type.1 N.type.2 rfl (EvL.cons F.fs.loc EvL.nil) Bi.typeO) fun s1 F1 => ?_
    refine F1.iff (EvT.or2 (EvT.cmp F1.fs.loc Ev.cNone (Cmp.isNone fun h v e => by cases e; rfl)) (EvT.cmp F1.fs.loc (Ev.bi O (O.at I F1.kp) F1.fs N.bool.1 N.bool.2) (Cmp.isV rfl))) fun s2 F2 => ?_
    refine F2.ret (Ev.is ?_ (Ev.ite (b := q) (d := boo q) (EvT.val F2.fs.loc Tr.boo) (fun h => ?_) (fun h => ?_))) fun v s' g => g
    · rfl
    · subst h; exact Ev.cBool
    · subst h; exact Ev.cBool
end Mine
end
section
set_option genInjectivity false
set_option genSizeOf false
set_option maxHeartbeats 4000000
open PySem PySem.W PyProof.Rows PySem.Spec PySem.Calls
namespace Mine
variable [Inhabited Bnd]
def b64s : List UInt8 := "ABCDEFGHIJKLMNOPQRSTUVWXYZabcdefghijklmnopqrstuvwxyz0123456789+/".toList.map fun c => c.toNat.toUInt8
def sig (i : Int) : Int := ((b64s.getD i.toNat 0).toNat : Int)
/-- how the characters under way are written out -/
def drain (lc : Int) : Nat → List Int → List Int
  | lb, out => if h : 6 ≤ lb then drain lc (lb - 6) (out ++ [sig (Builtin.bitAnd (lc.fdiv (2 ^ (lb - 6))) 63)]) else out
termination_by lb => lb
structure B2 where
  lb : Nat
  lc : Int
  out : List Int
def B2.step (t : B2) (b : UInt8) : B2 :=
  let lc := Builtin.bitAnd (Builtin.bitOr (t.lc * 2 ^ 8) b.toNat) 65535
  ⟨(t.lb + 8) % 6, lc, drain lc (t.lb + 8) t.out⟩
def b2 (bs : List UInt8) : B2 := bs.foldl B2.step ⟨0, 0, []⟩
def b64o (bs : List UInt8) : List Int :=
  (b2 bs).out ++ if (b2 bs).lb = 2 then [sig (Builtin.bitAnd (b2 bs).lc 3 * 2 ^ 4), 61, 61] else if (b2 bs).lb = 4 then [sig (Builtin.bitAnd (b2 bs).lc 15 * 2 ^ 2), 61] else []
/-- what is asked of the octets -/
structure Bs (bs : List UInt8) : Prop where
  few : bs.length ≤ 100
  lc : ∀ i, i ≤ bs.length → 0 ≤ (b2 (bs.take i)).lc ∧ (b2 (bs.take i)).lc < 65536
  lb : ∀ i, i ≤ bs.length → (b2 (bs.take i)).lb ≤ 4
  out : ∀ i, i ≤ bs.length → (b2 (bs.take i)).out.length ≤ 1000
  bytes : ∀ n ∈ b64o bs, 0 ≤ n ∧ n < 256
  len : (b64o bs).length ≤ 1010
theorem EvT.run {c : Cx} {s : Shared} {e : Expr} {b : Bool} (x : EvT c s e b) (ok : Ok c.U s.heap) : Wp c (isTrue e c.env (eval e c.env)) (Gets c.U b s) s := x s (.refl ok)
theorem mask {x : Int} (h : 0 ≤ x) (k : Nat) {m : Int} (hm : m = ((2 ^ k - 1 : Nat) : Int)) : Builtin.bitAnd x m = ((x.toNat % 2 ^ k : Nat) : Int) := by
  subst hm
  rw [bitAnd_pp h (Int.natCast_nonneg _), Int.toNat_natCast, Nat.and_two_pow_sub_one_eq_mod]
theorem and63 (x : Int) (h : 0 ≤ x) : 0 ≤ Builtin.bitAnd x 63 ∧ Builtin.bitAnd x 63 < 64 := by
  rw [mask (m := 63) h 6 (by decide)]
  exact ⟨Int.natCast_nonneg _, by have := Nat.mod_lt x.toNat (show 2 ^ 6 > 0 by decide); omega⟩
theorem and3 (x : Int) (h : 0 ≤ x) : 0 ≤ Builtin.bitAnd x 3 ∧ Builtin.bitAnd x 3 < 4 := by
  rw [mask (m := 3) h 2 (by decide)]
  exact ⟨Int.natCast_nonneg _, by have := Nat.mod_lt x.toNat (show 2 ^ 2 > 0 by decide); omega⟩
theorem and15 (x : Int) (h : 0 ≤ x) : 0 ≤ Builtin.bitAnd x 15 ∧ Builtin.bitAnd x 15 < 16 := by
  rw [mask (m := 15) h 4 (by decide)]
  exact ⟨Int.natCast_nonneg _, by have := Nat.mod_lt x.toNat (show 2 ^ 4 > 0 by decide); omega⟩
theorem b64_at {i : Int} (h : 0 ≤ i) (h' : i < 64) : b64s[i.toNat]? = some (b64s.getD i.toNat 0) := by
  have bl : b64s.length = 64 := by decide
  rw [List.getD_eq_getElem?_getD, List.getElem?_eq_getElem (show _ < b64s.length by omega)]; rfl
theorem sig_byte (i : Int) : 0 ≤ sig i ∧ sig i < 256 := ⟨Int.natCast_nonneg _, by unfold sig; have := (b64s.getD i.toNat 0).toNat_lt; omega⟩
theorem b2_take {bs : List UInt8} {i : Nat} {y : UInt8} (h : bs[i]? = some y) : b2 (bs.take (i + 1)) = (b2 (bs.take i)).step y := by
  rw [List.take_add_one, h]
  unfold b2
  rw [Option.toList_some, List.foldl_append, List.foldl_cons, List.foldl_nil]
/-- the def of b2a_base64, with its default -/
def DefK (B : Md) (name : Str) (i : Nat) : Prop := ∃ a pm cd doc kV o, B.mg name = some (.ref a) ∧ B.g.get? a = some o ∧ o.data = .func { docDef name (dParams (stm i)) (dBody (stm i)) (dScope (stm i)) pm cd doc with kwdefaults := kV } ∧ B.g.CodeRec cd name
abbrev kEnv (name : Str) (i : Nat) (pm cd doc kV : Value) (L a : Addr) : Env := callEnvC { docDef name (dParams (stm i)) (dBody (stm i)) (dScope (stm i)) pm cd doc with kwdefaults := kV } L a
theorem b2a {B : Md} (O : B.Ok) (N : Nm B) {t64 : Tok} (h64 : B.mg "_B64" = some (.bytes b64s.toArray t64)) (fb : ∀ b, Fun B "_buffer" 1 [byt b] (byt b)) (ft : ∀ q, Fun B "_truth" 1 [boo q] (boo q)) (Df : DefK B "b2a_base64" 12) {bs : List UInt8} (hb : Bs bs) :
    ∃ a, B.mg "b2a_base64" = some (.ref a) ∧ FnAt a B.g ∧ ∀ U prog w A s v, prog.given.tree = none → Room A 2 → B.In s → Ok U s.heap → (byt bs.toArray).P (hp U s) v → wpAny (model prog w) A (call (.ref a) [v] [("newline", .bool false)]) (Gives U (byt (byteArr (b64o bs))) s) (fun _ _ => False) s := by
  obtain ⟨a, pm, cd, doc, kV, o, hm, ho, hd, hc⟩ := Df
  have fa : FnAt a B.g := by
    obtain ⟨c1, d1, dt, sl⟩ := o
    cases (show dt = _ from hd)
    exact ⟨_, _, _, _, ho⟩
  refine ⟨a, hm, fa, fun U prog w A s v T R I ok r => ?_⟩
  have hbind : BindsTo s { docDef "b2a_base64" (dParams (stm 12)) (dBody (stm 12)) (dScope (stm 12)) pm cd doc with kwdefaults := kV } ⟨[v], [("newline", .bool false)]⟩ [("data", v), ("newline", .bool false)] := BindsTo.of_eq rfl
  refine call_def (T := T) R ok (I.obj ho (by rw [hd]; nofun)) hd (I.lim O.lim) (I.code hc) rfl hbind (ds := [byt bs.toArray, boo false]) (.cons r (.cons rfl .nil)) rfl rfl rfl (fun n x hx => ?_) rfl rfl rfl (fun n x d e h => ?_) fun L s₁ F => ?_
  · rcases List.mem_cons.mp hx with rfl | hx
    · exact .inl rfl
    · cases List.mem_singleton.mp hx; exact .inl rfl
  · have k1 : ∀ y : Str, (dScope (stm 12)).names.lookup y = some NameKind.cell → y ≠ "newline" ∧ y ≠ "data" := fun y h => ⟨(fun w => by subst w; cases h), (fun w => by subst w; cases h)⟩
    change List.lookup x [(("newline" : Str), boo false), (("data" : Str), byt bs.toArray)] = some d at e
    rw [lookup_cons_ne (k1 x h).1, lookup_cons_ne (k1 x h).2] at e; cases e
  · have R1 := R.deeper (env := callEnvC { docDef "b2a_base64" (dParams (stm 12)) (dBody (stm 12)) (dScope (stm 12)) pm cd doc with kwdefaults := kV } L a)
    have I1 := O.at I F.kp
    refine F.asg (Ev.call O I1 F.fs (fb bs.toArray) R1 (EvL.cons F.fs.loc EvL.nil)) fun s2 F2 => ?_
    refine F2.asg (Ev.call O (O.at I F2.kp) F2.fs (ft false) R1 (EvL.cons F2.fs.loc EvL.nil)) fun s3 F3 => ?_
    refine F3.own EvNew.nil fun al s4 O4 => ?_
    refine O4.asg Ev.cInt fun s5 O5 => ?_
    refine O5.asg Ev.cInt fun s6 O6 => ?_
    have I6 : B.In s6 := O.to I O6.cs.base.keep
    refine O6.for (xs := bs) (g := fun y : UInt8 => int y.toNat) (EvIt.bytes R1.1 O6.cs.fs.loc)
      (fun done => [("leftchar", int (b2 done).lc), ("leftbits", int (b2 done).lb), ("out", val (.ref al)), ("newline", boo false)]) (fun done => (b2 done).out.map int)
      (tell_cons rfl (tell_cons rfl (tell_cons rfl (tell_cons rfl tell_nil)))) rfl (fun i y s7 hy O7 => ?_) fun s7 O7 => ?_
    · have hi : i < bs.length := (List.getElem?_eq_some_iff.mp hy).1
      have c1 := hb.lc i (Nat.le_of_lt hi)
      have c2 := hb.lb i (Nat.le_of_lt hi)
      have c3 := hb.out i (Nat.le_of_lt hi)
      have c4 := hb.lc (i + 1) hi
      rw [b2_take hy] at c4 ⊢
      generalize b2 (bs.take i) = st at *
      have I7 : B.In s7 := O.to I O7.cs.base.keep
      refine O7.asg (Ev.bin (Ev.bin (Ev.bin O7.cs.fs.loc Ev.cInt (Op2.shl (by decide) (by decide) (by omega))) O7.cs.fs.loc Op2.or) Ev.cInt Op2.and) fun s8 O8 => ?_
      refine O8.asg (d := int ((st.lb + 8 : Nat) : Int)) (Ev.is ?q1 (Ev.bin O8.cs.fs.loc Ev.cInt Op2.add)) fun s9 O9 => ?_
      case q1 => rfl
      refine ex_while (J := fun k s' => ∃ lb out, k = lb ∧ Ow (Cx.own _ al) al s s7 s' [("leftbits", int (lb : Nat)), ("leftchar", int (st.step y).lc), ("out", val (.ref al)), ("newline", boo false)] (out.map int) ∧ drain (st.step y).lc lb out = (st.step y).out ∧ lb ≤ 12 ∧ lb % 6 = (st.step y).lb ∧ out.length + lb ≤ 1012)
        (K := fun s' => Ow (Cx.own _ al) al s s7 s' [("leftbits", int ((st.step y).lb : Nat)), ("leftchar", int (st.step y).lc), ("out", val (.ref al)), ("newline", boo false)] ((st.step y).out.map int)) (fun k s' J => ?_) (st.lb + 8)
        ⟨st.lb + 8, st.out, rfl, O9.tell (tell_cons rfl (tell_cons rfl (tell_cons rfl (tell_cons rfl tell_nil)))), rfl, by omega, rfl, by omega⟩ fun s' O' => ex_nil ⟨rfl, O'.tell (tell_cons rfl (tell_cons rfl (tell_cons rfl (tell_cons rfl tell_nil))))⟩
      obtain ⟨lb, out, hk, OJ, hdr, hlb, hmod, hout⟩ := J
      refine Wp.mono (EvT.run (EvT.cmp OJ.cs.fs.loc Ev.cInt Cmp.geI) OJ.cs.ok) fun q s2' h2 => ?_
      obtain ⟨k2, rfl⟩ := h2
      have O2 := OJ.kp k2
      by_cases h6 : 6 ≤ lb
      · rw [if_pos (decide_eq_true (by omega))]
        have I2 : B.In s2' := O.to I O2.cs.base.keep
        have h6' : ((lb : Int) - 6).toNat = lb - 6 := by omega
        have a63 := and63 ((st.step y).lc.fdiv (2 ^ (lb - 6))) (Int.fdiv_nonneg c4.1 (Int.le_of_lt (Int.pow_pos (by decide))))
        have bl : b64s.length = 64 := by decide
        have hg : b64s[(Builtin.bitAnd ((st.step y).lc.fdiv (2 ^ (lb - 6))) 63).toNat]? = some (b64s.getD (Builtin.bitAnd ((st.step y).lc.fdiv (2 ^ (lb - 6))) 63).toNat 0) := by
          rw [List.getD_eq_getElem?_getD, List.getElem?_eq_getElem (show _ < b64s.length by omega)]; rfl
        refine O2.app (d := int (sig (Builtin.bitAnd ((st.step y).lc.fdiv (2 ^ (lb - 6))) 63))) (Ev.sub (Ev.weakB (Ev.glob O I2 O2.cs.fs h64)) (Ev.is (d' := int (Builtin.bitAnd ((st.step y).lc.fdiv (2 ^ (lb - 6))) 63)) ?q2 (Ev.bin (Ev.bin O2.cs.fs.loc (Ev.bin O2.cs.fs.loc Ev.cInt Op2.sub) (Op2.shr (by omega))) Ev.cInt Op2.and)) (Idx.byt (n := (Builtin.bitAnd ((st.step y).lc.fdiv (2 ^ (lb - 6))) 63).toNat) (Int.toNat_of_nonneg a63.1).symm hg (by decide)))
          (by rw [List.length_map, sizeLine_eq]; omega) fun s3' O3 => ?_
        case q2 => rw [h6']
        refine O3.asg (d := int ((lb - 6 : Nat) : Int)) (Ev.is ?q3 (Ev.bin O3.cs.fs.loc Ev.cInt Op2.sub)) fun s4' O4' => ex_nil ⟨rfl, lb - 6, by omega, lb - 6, out ++ [sig (Builtin.bitAnd ((st.step y).lc.fdiv (2 ^ (lb - 6))) 63)], rfl, ?_, ?_, by omega, by omega, by rw [List.length_append, List.length_singleton]; omega⟩
        case q3 => congr 1; omega
        · rw [List.map_append]; exact O4'.tell (tell_cons rfl (tell_cons rfl (tell_cons rfl (tell_cons rfl tell_nil))))
        · rw [← hdr]; conv => rhs; unfold drain
          rw [dif_pos h6]
      · rw [if_neg (by simp; omega)]
        have e1 : lb = (st.step y).lb := by omega
        have e2 : out = (st.step y).out := by rw [← hdr]; unfold drain; rw [dif_neg h6]
        rw [← e1, ← e2]; exact O2
    · have hlen := hb.out bs.length (Nat.le_refl _)
      have hlc := hb.lc bs.length (Nat.le_refl _)
      have ho := hb.bytes
      rw [List.take_length] at hlen hlc
      -- what is left when the characters are out
      have fin : ∀ s' X, X = b64o bs → Ow (Cx.own ⟨prog, w, A.deeper (kEnv "b2a_base64" 12 pm cd doc kV L a), kEnv "b2a_base64" 12 pm cd doc kV L a, U, T⟩ al) al s s' s' [("leftchar", int (b2 bs).lc), ("leftbits", int ((b2 bs).lb : Nat)), ("out", val (.ref al)), ("newline", boo false)] (X.map int) →
          Wp (Cx.own ⟨prog, w, A.deeper (kEnv "b2a_base64" 12 pm cd doc kV L a), kEnv "b2a_base64" 12 pm cd doc kV L a, U, T⟩ al) (execs ((dBody (stm 12)).drop 7) (kEnv "b2a_base64" 12 pm cd doc kV L a)) (fun fl s' => Gives U (byt (byteArr (b64o bs))) s (retOf fl) s') s' := fun s' X hX O' => by
        subst hX
        refine O'.iff (EvT.val O'.cs.fs.loc Tr.boo) fun s8 O8 => ex_nil ?_
        have F8 := O8.release (x := "out") F.kp.ok0
        exact Wp.un (a := al) (F8.ret (Ev.callB O (O.at I F8.kp) F8.fs N.bytes.1 N.bytes.2 rfl (EvL.cons F8.fs.loc EvL.nil) (Bi.bytes R1.1 ho (by rw [sizeLine_eq]; have := hb.len; omega))) fun v s' g => g)
      have g64 : ∀ {s'} (t' : Shared) {ρ ds}, Ow (Cx.own ⟨prog, w, A.deeper (kEnv "b2a_base64" 12 pm cd doc kV L a), kEnv "b2a_base64" 12 pm cd doc kV L a, U, T⟩ al) al s t' s' ρ ds → B.In s' := fun t' _ _ O' => O.to I O'.cs.base.keep
      refine O7.iff (EvT.cmp O7.cs.fs.loc Ev.cInt Cmp.eqI) fun s8 O8 => ?_
      have a3 := and3 (b2 bs).lc hlc.1
      have a15 := and15 (b2 bs).lc hlc.1
      by_cases e2 : (b2 bs).lb = 2
      · rw [if_pos (by rw [e2]; rfl)]
        have hX : (b2 bs).out ++ [sig (Builtin.bitAnd (b2 bs).lc 3 * 2 ^ 4)] ++ [61] ++ [61] = b64o bs := by unfold b64o; rw [if_pos e2]; simp
        refine O8.app (d := int (sig (Builtin.bitAnd (b2 bs).lc 3 * 2 ^ 4))) (Ev.sub (Ev.weakB (Ev.glob O (g64 _ O8) O8.cs.fs h64)) (Ev.bin (Ev.bin O8.cs.fs.loc Ev.cInt Op2.and) Ev.cInt (Op2.shl (by decide) (by decide) (by omega))) (Idx.byt (n := (Builtin.bitAnd (b2 bs).lc 3 * 2 ^ 4).toNat) (Int.toNat_of_nonneg (a := Builtin.bitAnd (b2 bs).lc 3 * 2 ^ 4) (by omega)).symm (b64_at (by omega) (by omega)) (by decide)))
          (by rw [List.length_map, sizeLine_eq]; omega) fun s9 O9 => ?_
        refine O9.app (d := int 61) Ev.cInt (by rw [List.length_append, List.length_map, sizeLine_eq]; simp; omega) fun s10 O10 => ?_
        refine O10.app (d := int 61) Ev.cInt (by rw [List.length_append, List.length_append, List.length_map, sizeLine_eq]; simp; omega) fun s11 O11 => ex_nil ?_
        exact fin s11 _ hX (by have := O11.now; simpa only [List.map_append, List.map_cons, List.map_nil] using this)
      · rw [if_neg (by simpa using fun q => e2 (by omega))]
        refine O8.iff (EvT.cmp O8.cs.fs.loc Ev.cInt Cmp.eqI) fun s9 O9 => ?_
        by_cases e4 : (b2 bs).lb = 4
        · rw [if_pos (by rw [e4]; rfl)]
          have hX : (b2 bs).out ++ [sig (Builtin.bitAnd (b2 bs).lc 15 * 2 ^ 2)] ++ [61] = b64o bs := by unfold b64o; rw [if_neg e2, if_pos e4]; simp
          refine O9.app (d := int (sig (Builtin.bitAnd (b2 bs).lc 15 * 2 ^ 2))) (Ev.sub (Ev.weakB (Ev.glob O (g64 _ O9) O9.cs.fs h64)) (Ev.bin (Ev.bin O9.cs.fs.loc Ev.cInt Op2.and) Ev.cInt (Op2.shl (by decide) (by decide) (by omega))) (Idx.byt (n := (Builtin.bitAnd (b2 bs).lc 15 * 2 ^ 2).toNat) (Int.toNat_of_nonneg (a := Builtin.bitAnd (b2 bs).lc 15 * 2 ^ 2) (by omega)).symm (b64_at (by omega) (by omega)) (by decide)))
            (by rw [List.length_map, sizeLine_eq]; omega) fun s10 O10 => ?_
          refine O10.app (d := int 61) Ev.cInt (by rw [List.length_append, List.length_map, sizeLine_eq]; simp; omega) fun s11 O11 => ex_nil (ex_nil ?_)
          exact fin s11 _ hX (by have := O11.now; simpa only [List.map_append, List.map_cons, List.map_nil] using this)
        · rw [if_neg (by simpa using fun q => e4 (by omega))]
          have hX : (b2 bs).out = b64o bs := by unfold b64o; rw [if_neg e2, if_neg e4, List.append_nil]
          exact ex_nil (ex_nil (fin s9 _ hX O9.now))
end Mine
end
section
set_option genInjectivity false
set_option genSizeOf false
set_option maxHeartbeats 4000000
open PySem PySem.W PyProof.Rows PySem.Spec PySem.Calls
namespace Mine
variable [Inhabited Bnd]
/-- a call with one keyword -/
theorem Ev.callK {B : Md} {c : Cx} {s : Shared} {ρ : List (Str × D)} {x kn : Str} {np pos kp : Pos} {e ke : Expr} {d1 dk d : D} {a : Addr} (O : B.Ok) (i : B.In s) (F : FS c.U c.env s.heap ρ) (hm : B.mg x = some (.ref a)) (fa : FnAt a B.g) (v : Ev c s e d1) (vk : Ev c s ke dk)
    (hcall : ∀ s' u w, B.In s' → Ok c.U s'.heap → d1.P (hp c.U s') u → dk.P (hp c.U s') w → Wp c (PySem.call (.ref a) [u] [(kn, w)]) (Gives c.U d s') s') (k : c.env.kindOf x = some .globalImplicit := by rfl) (hd : (x == ("__debug__" : Str)) = false := by decide)
    (he : starEach [e] c.env = [(false, eval e c.env)] := by rfl) (hall : (backToKw pos (keywordEach [⟨some kn, ke, kp⟩] c.env)).all (·.1.isSome) = true := by rfl) (hn : (backToKw pos (keywordEach [⟨some kn, ke, kp⟩] c.env)).filterMap (·.1) = [kn] := by rfl) :
    Ev c s (.Call (.Name x np) [e] [⟨some kn, ke, kp⟩] pos) d := fun s₁ q => by
  refine wpAny_Call_ofName ((Ev.glob O i F hm k hd s₁ q).mono fun f s₂ h => ?_)
  obtain ⟨k₂, rfl⟩ := h
  obtain ⟨c1, d1', fd, sl, hf⟩ := fa
  refine callWith_def_kw (o := ⟨c1, d1', .func fd, sl⟩) rfl (evalArgs_kw2 hall (wpAny_items_cons ((v s₂ (q.trans k₂)).mono fun u s₃ h₃ => wpAny_items_nil ?_) he) he)
  refine kwAll_cons ((vk s₃ ((q.trans k₂).trans h₃.1)).mono fun w s₄ h₄ => kwAll_nil ?_)
  rw [hn]
  have i₄ := O.at (O.at (O.at (O.at i q) k₂) h₃.1) h₄.1
  exact ⟨i₄.obj hf nofun, (hcall s₄ u w i₄ h₄.1.ok (d1.at h₄.1 h₃.2) h₄.2).mono fun _ _ z => ⟨k₂.trans (h₃.1.trans (h₄.1.trans z.1)), z.2⟩⟩
def DefD (B : Md) (name : Str) (i : Nat) : Prop := ∃ a pm cd doc kV T oT d n o, B.mg name = some (.ref a) ∧ B.g.get? a = some o ∧ o.data = .func { docDef name (dParams (stm i)) (dBody (stm i)) (dScope (stm i)) pm cd doc with defaults := .ref T, kwdefaults := kV } ∧ B.g.CodeRec cd name ∧ B.g.get? T = some oT ∧ oT.data = .seq #[d] n
def b64w (bs : List UInt8) : List UInt8 := ((b64o bs).map fun n => n.toNat.toUInt8).map fun c => tbl.getD c.toNat c
abbrev dCxD (name : Str) (i : Nat) (prog : Program) (w : World) (A : Around) (U : List Addr) (T : prog.given.tree = none) (pm cd doc kV T' : Value) (L a : Addr) : Cx :=
  ⟨prog, w, A.deeper (callEnvC { docDef name (dParams (stm i)) (dBody (stm i)) (dScope (stm i)) pm cd doc with defaults := T', kwdefaults := kV } L a), callEnvC { docDef name (dParams (stm i)) (dBody (stm i)) (dScope (stm i)) pm cd doc with defaults := T', kwdefaults := kV } L a, U, T⟩
theorem b64e {B : Md} (O : B.Ok) (N : Nm B) {t64 : Tok} (h64 : B.mg "_B64" = some (.bytes b64s.toArray t64)) (fb : ∀ b, Fun B "_buffer" 1 [byt b] (byt b)) (ft : ∀ q, Fun B "_truth" 1 [boo q] (boo q)) (Df : DefK B "b2a_base64" 12) (De : DefD B "b64encode" 14) {bs : List UInt8} (hb : Bs bs) :
    Fun B "b64encode" 3 [byt bs.toArray, byt [45, 95].toArray] (byt (b64w bs).toArray) := by
  obtain ⟨a, pm, cd, doc, kV, T', oT, dv, nT, o, hm, ho, hd, hc, hT, hS⟩ := De
  obtain ⟨a2, hm2, fa2, call2⟩ := b2a O N h64 fb ft Df hb
  have fa : FnAt a B.g := by
    obtain ⟨c1, d1, dt, sl⟩ := o
    cases (show dt = _ from hd)
    exact ⟨_, _, _, _, ho⟩
  refine ⟨a, hm, fa, fun U prog w A s vs T R I ok al => ?_⟩
  cases al with
  | @cons v _ _ _ r al =>
  obtain ⟨u, rfl, r2⟩ := All.one al
  have hbind : BindsTo s { docDef "b64encode" (dParams (stm 14)) (dBody (stm 14)) (dScope (stm 14)) pm cd doc with defaults := .ref T', kwdefaults := kV } ⟨[v, u], []⟩ [("s", v), ("altchars", u)] := BindsTo.of_defaults rfl (I.obj hT (by rw [hS]; nofun)) hS rfl rfl
  refine call_def (T := T) R ok (I.obj ho (by rw [hd]; nofun)) hd (I.lim O.lim) (I.code hc) rfl hbind (ds := [byt bs.toArray, byt [45, 95].toArray]) (.cons r (.cons r2 .nil)) rfl rfl rfl (fun n x hx => ?_) rfl rfl rfl (fun n x d e h => ?_) fun L s₁ F => ?_
  · rcases List.mem_cons.mp hx with rfl | hx
    · exact .inl rfl
    · cases List.mem_singleton.mp hx; exact .inl rfl
  · have k1 : ∀ y : Str, (dScope (stm 14)).names.lookup y = some NameKind.cell → y ≠ "altchars" ∧ y ≠ "s" := fun y h => ⟨(fun w => by subst w; cases h), (fun w => by subst w; cases h)⟩
    change List.lookup x [(("altchars" : Str), byt [45, 95].toArray), (("s" : Str), byt bs.toArray)] = some d at e
    rw [lookup_cons_ne (k1 x h).1, lookup_cons_ne (k1 x h).2] at e; cases e
  · have R1 := R.deeper (env := (dCxD "b64encode" 14 prog w A U T pm cd doc kV (.ref T') L a).env)
    have I1 := O.at I F.kp
    refine F.asg (d := byt (byteArr (b64o bs))) (Ev.callK (kn := "newline") O I1 F.fs hm2 fa2 F.fs.loc Ev.cBool fun s' u w i' ok' ru rw => ?_) fun s2 F2 => ?_
    · cases rw
      exact call2 _ _ _ _ s' u T R1 i' ok' ru
    · have I2 := O.at I F2.kp
      refine F2.iff (EvT.cmp F2.fs.loc Ev.cNone (Cmp.isNotNone fun h v e => by obtain ⟨t, rfl⟩ := e; rfl)) fun s3 F3 => ?_
      have I3 := O.at I F3.kp
      refine ex_cons (wpAny_Assert_holds (Wp.mono (EvT.run (EvT.cmp (Ev.callB O I3 F3.fs N.len.1 N.len.2 rfl (EvL.cons F3.fs.loc EvL.nil) (Bi.lenB (by decide))) Ev.cInt Cmp.eqI) F3.kp.ok) fun q s4 h4 => ?_))
      obtain ⟨k4, rfl⟩ := h4
      refine ⟨rfl, ?_⟩
      have F4 := F3.at k4
      have I4 := O.at I F4.kp
      refine F4.ret (Ev.meth F4.fs.loc (EvL.cons (Ev.make O I4 F4.fs N.bytes.1 N.bytes.2 (EvL.cons Ev.cBytes (EvL.cons F4.fs.loc EvL.nil)) Bi.maketrans) EvL.nil) ?_) fun v s' g => g
      exact Me.translate (b := (b64o bs).map fun n => n.toNat.toUInt8) (by rw [List.length_map, sizeLine_eq]; have := hb.len; omega)
end Mine
end
section
set_option genInjectivity false
set_option genSizeOf false
set_option maxHeartbeats 2000000
open PySem PySem.W PyProof.Rows PySem.Spec PySem.Calls
open PySem.SeqAt PySem.MeetsSeq
namespace Mine
variable [Inhabited Bnd]
/-- a list taken out of another, one by one, while each is there -/
def rmv {α : Type} [DecidableEq α] (t xs : List α) : Option (List α) := xs.foldl (fun o x => o.bind fun t => if x ∈ t then some (t.erase x) else none) (some t)
section
variable {α : Type} [DecidableEq α] {t t' xs : List α} {y : α} {i : Nat}
theorem rmv_take (h : xs[i]? = some y) : rmv t (xs.take (i + 1)) = (rmv t (xs.take i)).bind fun t => if y ∈ t then some (t.erase y) else none := by
  rw [List.take_add_one, h]
  unfold rmv
  rw [Option.toList_some, List.foldl_append, List.foldl_cons, List.foldl_nil]
theorem rmv_none' (xs : List α) : xs.foldl (fun (o : Option (List α)) x => o.bind fun t => if x ∈ t then some (t.erase x) else none) none = none := by
  induction xs with
  | nil => rfl
  | cons x xs ih => exact ih
theorem rmv_none (h : rmv t (xs.take i) = none) : rmv t xs = none := by
  have : rmv t xs = rmv t (xs.take i ++ xs.drop i) := by rw [List.take_append_drop]
  rw [this]
  unfold rmv at h ⊢
  rw [List.foldl_append, h, rmv_none']
theorem rmv_len' : ∀ {xs : List α} {t t' : List α}, rmv t xs = some t' → t'.length ≤ t.length
  | [], t, t', h => by cases h; exact Nat.le_refl _
  | x :: xs, t, t', h => by
    unfold rmv at h
    rw [List.foldl_cons] at h
    by_cases q : x ∈ t
    · simp only [Option.bind_some, q, if_true] at h
      exact Nat.le_trans (rmv_len' (xs := xs) h) (List.length_erase_le)
    · simp only [Option.bind_some, q, if_false] at h
      rw [rmv_none'] at h; cases h
end
def never : D := ⟨fun _ _ => False, fun _ h => h⟩
def outR {α : Type} (g : α → D) (o : Option (List α)) : List D := match o with
  | some t => t.map g
  | none => [never]
theorem map_eraseIdx' {α β : Type} (f : α → β) : ∀ (l : List α) (j : Nat), (l.eraseIdx j).map f = (l.map f).eraseIdx j
  | [], _ => rfl
  | _ :: _, 0 => rfl
  | x :: l, j + 1 => congrArg (f x :: ·) (map_eraseIdx' f l j)
theorem All.eraseIdx {h : Heap} {vs : List Value} {ds : List D} (a : All h vs ds) : ∀ j, All h (vs.eraseIdx j) (ds.eraseIdx j) := by
  induction a with
  | nil => intro j; exact .nil
  | cons x a ih =>
    intro j
    cases j with
    | zero => exact a
    | succ j => exact .cons x (ih j)
theorem erase_idx {α : Type} [DecidableEq α] {y : α} : ∀ {t : List α}, y ∈ t → ∃ j, ∃ h : j < t.length, t[j] = y ∧ (∀ m (hm : m < t.length), m < j → t[m] ≠ y) ∧ t.erase y = t.eraseIdx j
  | [], h => by cases h
  | x :: t, h => by
    by_cases q : x = y
    · exact ⟨0, by simp, q, fun _ _ z => absurd z (Nat.not_lt_zero _), by rw [q, List.erase_cons_head]; rfl⟩
    · have h' : y ∈ t := by rcases List.mem_cons.mp h with z | z; exact absurd z.symm q; exact z
      obtain ⟨j, hj, e, n, er⟩ := erase_idx h'
      refine ⟨j + 1, by simp; omega, by simpa using e, fun m hm z => ?_, ?_⟩
      · cases m with
        | zero => simpa using q
        | succ m => simpa using n m (by simpa using hm) (by omega)
      · rw [List.erase_cons_tail (by simpa using q), er]; rfl
section
variable {c : Cx} {a : Addr} {s₀ t₀ s : Shared} {ρ : List (Str × D)} {α : Type} [DecidableEq α] {n m : Nat} {g : α → D} {y : α} {t : List α} {w : Value}
theorem isY_pt {vs : Array Value} (h : Dat n g) (hu : c.A.in1.units + n < cLine) (al : All (hp c.U s) vs.toList (t.map g)) (hz : vs.size = t.length) : ∀ i (h1 : i < vs.size) (h2 : i < t.length), isY g y (hp c.U s) vs[i] = decide (t[i] = y) := fun i h1 h2 => by
  have M := congrArg (fun l => l[i]?) (isY_map (A := c.A.in1) (y := y) h hu al)
  simp only [List.getElem?_map, List.getElem?_eq_getElem h2, Array.getElem?_toList, Array.getElem?_eq_getElem h1, Option.map_some] at M
  exact Option.some.inj M
theorem Ow.write {h' : Heap} {vs : Array Value} {ds ds' : List D} (O : Ow c a s₀ t₀ s ρ ds) (b' : Heap.SameBut a s.heap h') (l' : h'.PlainList a vs) (al : All (hp c.U s) vs.toList ds') : Ow c a s₀ t₀ { s with heap := h' } ρ ds' := by
  have ha := O.hU
  have sq : KpS (hp c.U s) (hideAll h' c.U) := fun b o e _ _ => by
    have hb : b ∉ c.U := fun m => by rw [hideAll_none _ m] at e; cases e
    exact hideAll_get _ (b'.extBut b o (fun w => hb (w ▸ ha)) (of_hideAll _ e)) hb
  refine ⟨⟨O.cs.fs.chg (L := [a]) (s' := { s with heap := h' }) ⟨.all fun b o m e => b'.extBut b o (fun w => m (w ▸ List.mem_singleton_self _)) e, rfl, rfl⟩ sq (fun m => O.ne (List.mem_singleton.mp m).symm) (fun x b e m => (O.nc x b e).2 (List.mem_singleton.mp m)), ?_, ?_, ?_⟩, ?_, O.hU, O.na, O.nl, O.ne, O.nc⟩
  · obtain ⟨ps, e, tt⟩ := O.cs.ok.tab
    obtain ⟨o, el⟩ := l'
    refine ⟨⟨ps, b'.extBut _ _ (O.cs.ok.at_ _ ha).1.symm e, tt⟩, fun z m => let ⟨n, o', e⟩ := O.cs.ok.at_ z m; ⟨n, if q : z = a then ⟨_, q ▸ el⟩ else ⟨o', b'.extBut _ _ q e⟩⟩⟩
  · exact ⟨O.cs.base.keep.over (fun b o n e => b'.extBut b o n e) O.na, O.cs.base.gens, O.cs.base.os⟩
  · exact ⟨vs, l', al.mono sq⟩
  · exact O.ch.then ⟨.all fun b o m e => b'.extBut b o (fun q => m (by rw [q]; simp)) e, rfl, rfl⟩
/-- one is taken out -/
theorem Ow.rem (O : Ow c a s₀ t₀ s ρ (t.map g)) (h : Dat n g) (R : Room c.A m) (r : (g y).P (hp c.U s) w) (i : y ∈ t) (hs : t.length ≤ sizeLine) {Q : Value → Shared → Prop} (hn : n + 1 ≤ 800)
    (k : ∀ s', Ow c a s₀ t₀ s' ρ ((t.erase y).map g) → Q .none s') : Wp c (call (.builtin "list.remove") [.ref a, w]) Q s := by
  obtain ⟨vs, ⟨n', e⟩, al⟩ := O.cs.acc
  have hu : c.A.in1.units + n < cLine := by have := units_ok R hn; show c.A.units + 1 + n < cLine; omega
  have hz : vs.size = t.length := by have := Paired.length al; rwa [Array.length_toList, List.length_map] at this
  obtain ⟨j, hj, ej, nj, er⟩ := erase_idx i
  have pt := isY_pt (y := y) h hu al hz
  have hj' : j < vs.size := by rw [hz]; exact hj
  refine call_meets PySem.F.slot_list_remove ⟨_, e, rfl⟩ PySem.F.entry_list_remove (PySem.F.args_list_remove_2 _ _)
    (list_removeAt a vs n' w (isY g y (hp c.U s)) j hj' (by rw [pt j hj' hj]; exact decide_eq_true ej) (fun m hm hlt => by rw [pt m hm (hz ▸ hm)]; exact decide_eq_false (nj m (hz ▸ hm) hlt)) (by rw [hz]; exact hs))
    ⟨e, fun v m => isY_at h hu al r (by simpa using m), k _ ?_⟩
  refine O.write (Heap.SameBut.update ..) (vs := vs.eraseIdxIfInBounds j) ⟨_, Heap.get?_update_self _ e rfl⟩ ?_
  rw [er, Array.toList_eraseIdxIfInBounds, map_eraseIdx']
  exact al.eraseIdx j
theorem Ow.remNone {E : Value → Shared → Prop} {Q : Value → Shared → Prop} (O : Ow c a s₀ t₀ s ρ (t.map g)) (h : Dat n g) (R : Room c.A m) (r : (g y).P (hp c.U s) w) (i : y ∉ t) (hn : n + 1 ≤ 800)
    (k : ∀ h' tk e, Heap.NewExc s.heap h' e "ValueError" → E (.ref e) { s with heap := h', toks := tk }) : wpAny (model c.prog c.w) c.A (call (.builtin "list.remove") [.ref a, w]) Q E s := by
  obtain ⟨vs, ⟨n', e⟩, al⟩ := O.cs.acc
  have hu : c.A.in1.units + n < cLine := by have := units_ok R hn; show c.A.units + 1 + n < cLine; omega
  have hz : vs.size = t.length := by have := Paired.length al; rwa [Array.length_toList, List.length_map] at this
  have pt := isY_pt (y := y) h hu al hz
  exact call_meets PySem.F.slot_list_remove ⟨_, e, rfl⟩ PySem.F.entry_list_remove (PySem.F.args_list_remove_2 _ _)
    (list_remove_noneAt a vs n' w (isY g y (hp c.U s)) (fun m hm => by rw [pt m hm (hz ▸ hm)]; exact decide_eq_false fun z => i (z ▸ List.getElem_mem _)))
    ⟨e, fun v m => isY_at h hu al r (by simpa using m), R.1, fun h' tk e' x => k h' tk e' x⟩
end
end Mine
end
section
set_option genInjectivity false
set_option genSizeOf false
set_option maxHeartbeats 2000000
open PySem PySem.W PyProof.Rows PySem.Spec PySem.Calls
namespace Mine
variable [Inhabited Bnd]
theorem Ev.not {c : Cx} {s : Shared} {e : Expr} {d : D} {b : Bool} {pos : Pos} (x : Ev c s e d) (t : Tr c d b) : Ev c s (.UnaryOp .Not e pos) (boo (!b)) := fun s₁ k => wpAny_UnaryOp ((x s₁ k).mono fun v s₂ h => by
  unfold unaryOp
  refine wpAny_holding ?_
  show wpAny _ _ (truthy v >>= fun b => pure (Value.bool (!b))) _ _ _
  refine wpAny_bind ((t s₂ v h.1.ok h.2).mono fun b' s₃ q => wpAny_pure ⟨h.1.trans q.1, ?_⟩)
  rw [q.2]; rfl)
theorem EvNew.list {B : Md} {c : Cx} {s : Shared} {ρ : List (Str × D)} {e : Expr} {ds : List D} {np pos : Pos} (O : B.Ok) (N : Nm B) (i : B.In s) (F : FS c.U c.env s.heap ρ) (v : Ev c s e (ls ds)) (hs : ds.length ≤ sizeLine) (k : c.env.kindOf "list" = some .globalImplicit := by rfl) (he : starEach [e] c.env = [(false, eval e c.env)] := by rfl)
    (hp' : (backTo pos (starEach [] c.env)).any (·.1) = false := by rfl) : EvNew c s (.Call (.Name "list" np) [e] [] pos) ds := fun s₁ q => by
  refine wpAny_Call_ofName ((Ev.bi O i F N.list.1 N.list.2 k (by decide) s₁ q).mono fun u s₂ h' => ?_)
  obtain ⟨k₂, rfl⟩ := h'
  refine callWith_type1 ((EvL.cons v EvL.nil he pos s₂ (q.trans k₂)).mono fun vs s₃ h' => ?_) he hp'
  obtain ⟨k₃, al⟩ := h'
  obtain ⟨w, rfl, r⟩ := All.one al
  obtain ⟨b, us, rfl, ⟨n, hb⟩, _, al', hz⟩ := ls_at r
  refine call_list_seq b (.inl rfl) hb rfl rfl (fun h' c' kp hS => ?_) (by rw [hz]; exact hs)
  exact ⟨s₃, k₂.trans k₃, .of k₃.ok kp, _, _, rfl, Heap.get?_none_of_le (Nat.le_refl _), ⟨_, hS⟩, al'⟩

/-- what a def gives back, where the frames under way are told -/
def FunF (B : Md) (f : Str) (n : Nat) (args : List D) (d : D) : Prop :=
  ∃ a, B.mg f = some (.ref a) ∧ FnAt a B.g ∧ ∀ U prog w A s vs l, A.frames = some l → Frs l s.heap → low ≤ s.heap.objs.size → prog.given.tree = none → Room A n → B.In s → Ok U s.heap → All (hp U s) vs args → wpAny (model prog w) A (call (.ref a) vs []) (Gives U d s) (fun _ _ => False) s
theorem Frs.kp {l : List Env} {U : List Addr} {s s' : Shared} (F : Frs l s.heap) (k : Kp U s s') : Frs l s'.heap := F.up k.keep fun b m o es n e d => by
  obtain ⟨ps, e', _⟩ := k.ok0.tab
  rw [List.mem_singleton.mp m, e'] at e; cases e; cases d
theorem Frs.size {l : List Env} {h : Heap} (F : Frs l h) (hne : l ≠ []) : low ≤ h.objs.size := by
  cases l with
  | nil => exact absurd rfl hne
  | cons env l =>
    obtain ⟨_, L, o, es, n, lo, _, g, _⟩ := F env (.head _)
    exact Nat.le_trans lo (Nat.le_of_lt (Heap.lt_size g))
theorem Ev.callF {B : Md} {c : Cx} {s : Shared} {ρ : List (Str × D)} {x : Str} {np pos : Pos} {d : D} {n : Nat} {e : Expr} {es : List Expr} {ds : List D} {l : List Env} (O : B.Ok) (i : B.In s) (F : FS c.U c.env s.heap ρ) (f : FunF B x n ds d) (R : Room c.A n) (hfr : c.A.frames = some l) (hF : Frs l s.heap) (hne : l ≠ []) (a : EvL c s (e :: es) ds) (k : c.env.kindOf x = some .globalImplicit := by rfl)
    (hd : (x == ("__debug__" : Str)) = false := by decide) (he : starEach (e :: es) c.env = (false, eval e c.env) :: starEach es c.env := by rfl) (hp : (backTo pos (starEach es c.env)).any (·.1) = false := by rfl) :
    Ev c s (.Call (.Name x np) (e :: es) [] pos) d := fun s₁ q => by
  obtain ⟨q', hm, hf, call⟩ := f
  refine wpAny_Call_ofName ((Ev.glob O i F hm k hd s₁ q).mono fun v s₂ h => ?_)
  obtain ⟨k₂, rfl⟩ := h
  have i₂ := O.at (O.at i q) k₂
  refine callWith_F (i₂.fn hf) ((a pos s₂ (q.trans k₂)).mono fun vs s₃ h₃ => ⟨(O.at i₂ h₃.1).fn hf, ?_⟩) he hp
  exact (wpAny_mono (call _ _ _ _ s₃ vs l hfr (hF.kp (q.trans (k₂.trans h₃.1))) ((hF.kp (q.trans (k₂.trans h₃.1))).size hne) c.tr R (O.at i₂ h₃.1) h₃.1.ok h₃.2) (fun _ _ y => ⟨k₂.trans (h₃.1.trans y.1), y.2⟩) fun _ _ y => y)
/-- do two hold the same -/
def cmpo {α : Type} [DecidableEq α] (xs ys : List α) : Bool := match rmv (ddp ys) (ddp xs) with
  | some t => t.isEmpty
  | none => false
theorem Hd.kp {U : List Addr} {s s' : Shared} {l : List Env} {e : Addr} {cls fl : Value} (ok : Mine.Ok U s.heap) (x : Hd s.heap l e cls fl s'.heap) (g : s'.gens = s.gens) (o : s'.os = s.os) : Kp U s s' :=
  ⟨x.Up.mem (fun _ _ => List.not_mem_nil), ok, ⟨let ⟨ps, e, t⟩ := ok.tab; ⟨ps, x.Up.ex _ _ (by simp) e nofun, t⟩, fun a m => let ⟨n, o, e⟩ := ok.at_ a m; ⟨n, x.Up.there (by simp) e⟩⟩, g, o⟩
theorem law_compare {B : Md} (O : B.Ok) (N : Nm B) (Df : Dd B "_compare_args_orderless" 17) {α : Type} [DecidableEq α] {n : Nat} {g : α → D} (hg : Dat n g) (hn : n + 1 ≤ 800) (fd : ∀ xs : List α, xs.length ≤ 1000 → Fun B "_deduplicate_unhashable" 1 [ls (xs.map g)] (ls ((ddp xs).map g)))
    {xs ys : List α} (hx : xs.length ≤ 1000) (hy : ys.length ≤ 1000) : FunF B "_compare_args_orderless" 2 [ls (xs.map g), ls (ys.map g)] (boo (cmpo xs ys)) := by
  obtain ⟨a0, pm, cd, doc, o, hm, ho, hd, hc⟩ := Df
  have fa : FnAt a0 B.g := by
    obtain ⟨c1, d1, dt, sl⟩ := o
    cases (show dt = _ from hd)
    exact ⟨_, _, _, _, ho⟩
  refine ⟨a0, hm, fa, fun U prog w A s vs l hfr hF hlo T R I ok al => ?_⟩
  cases al with
  | @cons v _ _ _ r al =>
  obtain ⟨u, rfl, r2⟩ := All.one al
  have hbind : BindsTo s (docDef "_compare_args_orderless" (dParams (stm 17)) (dBody (stm 17)) (dScope (stm 17)) pm cd doc) ⟨[v, u], []⟩ [("first_args", v), ("second_args", u)] := BindsTo.of_eq rfl
  refine call_defL (T := T) R ok (I.obj ho (by rw [hd]; nofun)) hd (I.lim O.lim) (I.code hc) rfl hbind (ds := [ls (xs.map g), ls (ys.map g)]) (.cons r (.cons r2 .nil)) rfl rfl rfl (fun n x hx => ?_) rfl rfl rfl (fun n x d e h => ?_) fun L s₁ hL F => ?_
  · rcases List.mem_cons.mp hx with rfl | hx
    · exact .inl rfl
    · cases List.mem_singleton.mp hx; exact .inl rfl
  · have k1 : ∀ y : Str, (dScope (stm 17)).names.lookup y = some NameKind.cell → y ≠ "second_args" ∧ y ≠ "first_args" := fun y h => ⟨(fun w => by subst w; cases h), (fun w => by subst w; cases h)⟩
    change List.lookup x [(("second_args" : Str), ls (ys.map g)), (("first_args" : Str), ls (xs.map g))] = some d at e
    rw [lookup_cons_ne (k1 x h).1, lookup_cons_ne (k1 x h).2] at e; cases e
  · have R1 := R.deeper (env := (dCx prog w A U T (dEnv "_compare_args_orderless" (dParams (stm 17)) (dBody (stm 17)) (dScope (stm 17)) pm cd doc L a0)).env)
    refine F.asg (d := ls ((ddp xs).map g)) (Ev.call O (O.at I F.kp) F.fs (fd xs hx) R1 (EvL.cons F.fs.loc EvL.nil)) fun s2 F2 => ?_
    refine F2.asg (d := ls ((ddp ys).map g)) (Ev.call O (O.at I F2.kp) F2.fs (fd ys hy) R1 (EvL.cons F2.fs.loc EvL.nil)) fun s3 F3 => ?_
    have hz : (ddp ys).length ≤ 1000 := Nat.le_trans (ddp_len _) hy
    refine F3.own (EvNew.list O N (O.at I F3.kp) F3.fs F3.fs.loc (by rw [List.length_map, sizeLine_eq]; omega)) fun al s4 O4 => ?_
    have hfr4 : (A.deeper (dCx prog w A U T (dEnv "_compare_args_orderless" (dParams (stm 17)) (dBody (stm 17)) (dScope (stm 17)) pm cd doc L a0)).env).frames = some ((dCx prog w A U T (dEnv "_compare_args_orderless" (dParams (stm 17)) (dBody (stm 17)) (dScope (stm 17)) pm cd doc L a0)).env :: l) := Around.frames_deeper hfr
    have fin : ∀ {s5 ds} , Ow (Cx.own (dCx prog w A U T (dEnv "_compare_args_orderless" (dParams (stm 17)) (dBody (stm 17)) (dScope (stm 17)) pm cd doc L a0)) al) al s s5 s5 [] ds → Frs ((dCx prog w A U T (dEnv "_compare_args_orderless" (dParams (stm 17)) (dBody (stm 17)) (dScope (stm 17)) pm cd doc L a0)).env :: l) s5.heap := fun {s5 ds} O5 env m => by
      rcases List.mem_cons.mp m with rfl | m
      · obtain ⟨mm, ⟨o, es, ep, e, d, _⟩, _⟩ := O5.cs.fs.ns
        exact ⟨nofun, L, o, es, ep, Nat.le_trans hlo hL, rfl, e, d⟩
      · exact (hF.up O5.cs.base.keep fun b m o es n e d => by
          obtain ⟨ps, e', _⟩ := ok.tab
          rw [List.mem_singleton.mp m, e'] at e; cases e; cases d) env m
    refine ex_cons (wpAny_Try_except ?_)
    refine wpAny_execs_cons ?_
    refine O4.forR (xs := ddp xs) (g := g) (EvIt.list R1.1 O4.cs.fs.loc) (fun _ => [("t", val (.ref al))]) (fun done => outR g (rmv (ddp ys) done)) (tell_cons rfl tell_nil) rfl
      (R := fun r s' => match r with
        | .ok .next => Ow (Cx.own (dCx prog w A U T (dEnv "_compare_args_orderless" (dParams (stm 17)) (dBody (stm 17)) (dScope (stm 17)) pm cd doc L a0)) al) al s s' s' [("t", val (.ref al))] (outR g (rmv (ddp ys) (ddp xs)))
        | .ok _ => False
        | .error v => ∃ e s5 ds, v = .ref e ∧ Ow (Cx.own (dCx prog w A U T (dEnv "_compare_args_orderless" (dParams (stm 17)) (dBody (stm 17)) (dScope (stm 17)) pm cd doc L a0)) al) al s s5 s5 [] ds ∧
          Hd s5.heap ((dCx prog w A U T (dEnv "_compare_args_orderless" (dParams (stm 17)) (dBody (stm 17)) (dScope (stm 17)) pm cd doc L a0)).env :: l) e (.type "ValueError") (rawInt L) s'.heap ∧ s'.gens = s5.gens ∧ s'.os = s5.os ∧ rmv (ddp ys) (ddp xs) = none)
      (fun i y s5 hy' O5 => ?turn) (fun s5 O5 => O5) rfl (fun _ => rfl) (fun r s5 h5 => ?after)
    case turn =>
      cases q : rmv (ddp ys) ((ddp xs).take i) with
      | none =>
        rw [q] at O5
        obtain ⟨vs, _, al'⟩ := O5.cs.acc
        generalize vs.toList = ws at al'
        cases al' with | cons p _ => exact p.elim
      | some t' =>
        rw [q] at O5
        have ht : t'.length ≤ 1000 := Nat.le_trans (rmv_len' q) hz
        rw [rmv_take hy', q]
        refine wpAny_execs_cons (wpAny_Expr_any (wpAny_Call_method (by rfl) (by rfl) (by rfl) PySem.F.plainAttrs_list PySem.F.slot_list_remove PySem.F.type_list_remove (Wp.up ((FS.loc (x := "t") O5.cs.fs rfl rfl (by decide)) s5 (.refl O5.cs.ok) |>.mono fun v' s6 q6 => ?_))) rfl rfl)
        obtain ⟨k6, rfl⟩ := q6
        have O6 := O5.kp k6
        obtain ⟨vs, ⟨n6, e6⟩, _⟩ := id O6.cs.acc
        refine ⟨⟨_, e6, rfl⟩, fun _ z => by cases z; exact ⟨_, e6, rfl⟩, callWith_method1 (wpAny_items_cons (Wp.up ((O5.cs.fs.loc (x := "elem") (d := g y)) s6 k6 |>.mono fun u7 s7 q7 => wpAny_items_nil ?_)) rfl) rfl⟩
        have O7 := O6.kp q7.1
        by_cases m : y ∈ t'
        · refine Wp.up (O7.rem hg R1 q7.2 m (by rw [sizeLine_eq]; omega) hn fun s8 O8 => ?_)
          refine wpAny_execs_nil ⟨rfl, ?_⟩
          simp only [Option.bind_some, m, if_true]
          exact O8.tell (tell_cons (x := "t") (d := val (.ref al)) rfl tell_nil)
        · refine O7.remNone hg R1 q7.2 m hn fun h' tk e hx => ?_
          refine hd_new hfr4 rfl (fin (O7.now.tell tell_nil)) hx fun h'' H => ?_
          refine ⟨e, s7, _, rfl, O7.now.tell tell_nil, H, rfl, rfl, ?_⟩
          refine rmv_none (i := i + 1) ?_
          rw [rmv_take hy', q]
          simp [m]
    case after =>
      match r, h5 with
      | .ok .next, O5 =>
        refine wpAny_execs_nil (wpAny_execs_nil ?_)
        cases q : rmv (ddp ys) (ddp xs) with
        | none =>
          rw [q] at O5
          obtain ⟨vs, _, al'⟩ := O5.cs.acc
          generalize vs.toList = ws at al'
          cases al' with | cons p _ => exact p.elim
        | some t' =>
          rw [q] at O5
          have ht : t'.length ≤ 1000 := Nat.le_trans (rmv_len' q) hz
          have F5 := O5.release (x := "t") F.kp.ok0
          have hans : cmpo xs ys = !!(t'.map g).isEmpty := by unfold cmpo; rw [q]; cases t' <;> rfl
          rw [hans]
          exact Wp.un (a := al) (F5.ret (Ev.not F5.fs.loc (Tr.ls (by rw [List.length_map]; omega))) fun v s' g => g)
      | .error v, ⟨e, s6, ds, hv, O6, H, g1, g2, hnone⟩ =>
        subst hv
        refine hd_came (L := L) rfl H fun h7 H7 => ?_
        refine hd_again (L := L) rfl H7 (hd_fly (o := none) H7 fun h8 H8 => ?_)
        have O8 := O6.kp (Hd.kp (s' := { s5 with heap := h8 }) O6.cs.ok H8 g1 g2)
        have I8 : B.In { s5 with heap := h8 } := O.to I O8.cs.base.keep
        refine wpAny_handleBy_builtin (X := "ValueError") (T := "ValueError") (b := true) ?k1 ?k2 ?k3 (Calls.Name_function_global rfl rfl (Calls.loadGlobal_builtin (I8.ns O.G) N.verr.1 (I8.ns O.U) N.verr.2 ⟨rfl, ?k4, ?k5⟩) (by decide))
        case k1 => rw [isSubtype_type]; kernel_rfl
        case k2 => rw [isSubtype_type]; kernel_rfl
        case k3 => rw [isSubtype_type]; kernel_rfl
        case k4 => obtain ⟨_, t⟩ := H8.tr; exact t.there
        case k5 =>
          refine hd_fly (o := none) H8 fun h9 H9 => ?_
          have O9 := O6.kp (Hd.kp (s' := { s5 with heap := h9 }) O6.cs.ok H9 g1 g2)
          have hans : cmpo xs ys = false := by unfold cmpo; rw [hnone]
          refine wpAny_execs_cons (wpAny_Return_some ?_)
          have kf : Kp U s { s5 with heap := h9 } := ⟨O9.cs.base.keep, ok, ⟨O9.cs.ok.tab, fun b m => O9.cs.ok.at_ b (.tail _ m)⟩, O9.cs.base.gens, O9.cs.base.os⟩
          refine wpAny_Constant_bool ?_
          exact ⟨kf, by rw [hans]; rfl⟩
end Mine
end
section
set_option genInjectivity false
set_option genSizeOf false
set_option maxHeartbeats 2000000
open PySem PySem.W PyProof.Rows PySem.Spec PySem.Calls
namespace Mine
variable [Inhabited Bnd]
/-- the method append of a list, bound -/
def bm (a : Addr) : Obj := { cls := .type "builtin_function_or_method", data := .fields #[.builtin "list.append", .ref a] }
theorem look_append : typeLookup (.type "list") "append" = pure (some (.builtin "list.append")) := by rw [typeLookup_type, builtinLookup_eq_fast]; kernel_rfl
theorem look_get : typeLookup (.type "method_descriptor") "__get__" = pure (some (.builtin "method_descriptor.__get__")) := by rw [typeLookup_type, builtinLookup_eq_fast]; kernel_rfl
theorem look_set : typeLookup (.type "method_descriptor") "__set__" = pure none := by rw [typeLookup_type, builtinLookup_eq_fast]; kernel_rfl
theorem look_del : typeLookup (.type "method_descriptor") "__delete__" = pure none := by rw [typeLookup_type, builtinLookup_eq_fast]; kernel_rfl
theorem kind_append : builtinKind "list.append" = some .method := by decide +kernel
theorem type_append : typeOf (.builtin "list.append") = pure (.type "method_descriptor") := by show builtinType _ = _; rw [builtinType_eq_fast]; kernel_rfl
theorem slot_mdget : Slot "method_descriptor" "__get__" "method_descriptor.__get__" :=
  .of (owner := "method_descriptor") (n := "__get__") (by rw [typeLookup_type, builtinLookup_eq_fast]; kernel_rfl) (by decide +kernel) (by decide +kernel) (by decide +kernel)
    (by first | exact .inl (by decide +kernel) | exact .inr (by decide +kernel)) (by rw [isSubtype_type]; kernel_rfl)
theorem entry_mdget : entryFor table "method_descriptor.__get__" = some Builtin.«method_descriptor.__get__» := entryFor_of_tree (by kernel_rfl)
theorem args_mdget (a b c : Value) : argsOk "method_descriptor.__get__" ⟨[a, b, c], []⟩ := by unfold argsOk; kernel_rfl
section
variable {prog : Program} {w : World} {M : Model} {A : Around} {E : Value → Shared → Prop} {s : Shared} {a : Addr} {vs : Array Value} {k : Nat}
theorem run_mdget {P : Fin → Shared → Prop} {sl : Array (Option Value)} (hx : s.heap.get? a = some { cls := .type "list", dict := none, data := .seq vs k, slots := sl }) (h : P (.done (.ret (.ref s.heap.objs.size))) { s with heap := s.heap.push (bm a) }) :
    wpAny M A (Builtin.«method_descriptor.__get__» ⟨[.builtin "list.append", .ref a, .type "list"], []⟩) P E s := by
  unfold Builtin.«method_descriptor.__get__»
  refine wpAny_bind (wpAny_of_eq (a := (.builtin "list.append", some (.ref a), some (.type "list"))) (by first | rfl | kernel_rfl) ?_)
  simp only
  refine KFB.if_not (by decide +kernel) ?_
  refine wpAny_bind ?_
  repeat (any_goals (first | assumption | ((with_reducible show wpAny _ _ (isSubtype _ _) _ _ _); refine wpAny_of_eq (a := true) ?_ ?_; focus (first | (rw [isSubtype_type]; kernel_rfl) | kernel_rfl)) | wp_step))


end
theorem meets_getattribute_append (a : Addr) (xs : Array Value) (k : Nat) (sl : Array (Option Value)) (u : Tok) :
    Meets (Builtin.«object.__getattribute__» ⟨[.ref a, .str (Str.ofString "append") u], []⟩) (fun A R s => s.heap.get? a = some { cls := .type "list", dict := none, data := .seq xs k, slots := sl } ∧ R (.ok (.ret (.ref s.heap.objs.size))) { s with heap := s.heap.push (bm a) }) :=
  Meets.of_wp fun prog w _A R s hs => by
    obtain ⟨hp, g, d, tk, os⟩ := s
    obtain ⟨hx, hs⟩ := hs
    have hT : (⟨hp, g, d, tk, os⟩ : Shared).TypeIs (.ref a) "list" := ⟨_, hx, rfl⟩
    have f1 := look_append
    have f2 := look_get
    have f3 := look_set
    have f4 := look_del
    unfold Builtin.«object.__getattribute__»
    repeat (any_goals (first | assumption | simp only [kind_append] | ((with_reducible show wpAny _ _ (call (Value.builtin "method_descriptor.__get__") _ _) _ _ _); refine wpAny_call_entry slot_mdget type_append entry_mdget (run_mdget hx ?_) (args_mdget ..)) | wp_step))
    exact ⟨_, rfl, wpAny_pure ⟨_, rfl, hs⟩⟩
section
variable {prog : Program} {w : World} {M : Model} {A : Around} {E : Value → Shared → Prop} {s : Shared} {a u : Addr} {vs : Array Value} {k : Nat} {v : Value}
theorem getAttr_append {Q : Value → Shared → Prop} (hl : s.heap.PlainList a vs) (h : ∀ tk, Q (.ref s.heap.objs.size) { s with heap := s.heap.push (bm a), toks := tk }) : wpAny (model prog w) A (getAttr (.ref a) "append" true) Q E s := by
  obtain ⟨k, hx⟩ := hl
  obtain ⟨hp, g, d, tk, os⟩ := s
  have hT : ∀ tk', (⟨hp, g, d, tk', os⟩ : Shared).TypeIs (.ref a) "list" := fun _ => ⟨_, hx, rfl⟩
  have f3 := F.slot_list_getattribute.lookup
  have f4 := F.slot_list_getattribute.bind (.ref a)
  have f5 := am_list_getattr_none
  unfold getAttr getAttrBy
  repeat (any_goals (first | assumption | exact hT _ | ((with_reducible show wpAny _ _ (call (Value.builtin "list.__getattribute__") _ _) _ _ _); refine call_meets F.slot_list_getattribute (hT _) am_entry_list_getattribute (F.args_list_getattribute_2 _ _) (meets_getattribute_append a vs k _ _) ⟨hx, ?_⟩) | wp_step))
  show wpAny _ _ (handedOut (.ref _)) _ _ _
  exact handed_on rfl (h _)
theorem check_append {Q : Unit → Shared → Prop} (hl : s.heap.PlainList a vs) (h : Q () s) : wpAny M A (checkBoundCall "list.append" ⟨[.ref a, v], []⟩) Q E s := by
  obtain ⟨k, hx⟩ := hl
  have hT : s.TypeIs (.ref a) "list" := ⟨_, hx, rfl⟩
  have f1 : isSubtype (.type "list") (.type "module") = pure false := by rw [isSubtype_type]; kernel_rfl
  have f2 : isSubtype (.type "list") (.type "type") = pure false := by rw [isSubtype_type]; kernel_rfl
  unfold checkBoundCall
  simp only [kind_append]
  repeat (any_goals (first | assumption | ((with_reducible show wpAny _ _ (Bind.checkArgs _ _ _) _ _ _); refine wpAny_of_eq (a := ()) (by kernel_rfl) ?_) | wp_step))
theorem call_bm {Q : Value → Shared → Prop} (hu : s.heap.get? u = some (bm a)) (hl : s.heap.PlainList a vs) (hsz : vs.size ≤ sizeLine) (h : ∀ h', h'.PlainList a (vs.push v) → Heap.SameBut a s.heap h' → Q .none { s with heap := h' }) :
    wpAny (model prog w) A (call (.ref u) [v]) Q E s := by
  refine wpAny_call (codeAny_of_tree ?_)
  show wpAny _ A.in1 (callAny (.ref u) ⟨[v], []⟩) _ _ s
  simp only [callAny]
  refine wpAny_bind (wpAny_load hu ?_)
  simp only [bm, show (Value.type "builtin_function_or_method" == Value.type "method" || Value.type "builtin_function_or_method" == Value.type "builtin_function_or_method" || Value.type "builtin_function_or_method" == Value.type "method-wrapper") = true by decide, if_true]
  refine KFB.if_so (by decide) ?_
  refine wpAny_bind (check_append hl ?_)
  refine wpAny_bind (wpAny_pure (wpAny_pure ?_))
  refine ⟨Code.quiet_builtin _ (by decide +kernel), codeAny_builtin F.entry_list_append ?_⟩
  obtain ⟨n, ho⟩ := hl
  show wpAny _ _ (updateSeq a (·.push v) >>= fun _ => ret .none) _ _ s
  refine wpAny_bind ?_
  refine wpAny_updateSeq ho rfl (wpAny_pure (h _ ⟨n + 1, ?_⟩ (Heap.SameBut.update ..)))
  rw [Heap.get?_update_self _ ho (by rw [Obj.mapSeq_push_plain]; rfl), Obj.mapSeq_push_plain]
theorem callWith_bm {pos : Pos} {env : Env} {e : Expr} {Q : Value → Shared → Prop}
    (h : wpAny M A (eval e env) (fun v s₁ => s₁.heap.get? u = some (bm a) ∧ wpAny M A (call (.ref u) [v]) Q E s₁) E s) (he : starEach [e] env = [(false, eval e env)] := by rfl) : wpAny M A (callWith pos (.ref u) [] (backTo pos (starEach [e] env)) []) Q E s := by
  have h' : wpAny M A (evalArgs (.ref u) true (backTo pos (starEach [e] env)) []) (fun x s₁ => s₁.heap.get? u = some (bm a) ∧ wpAny M A (call (.ref u) ([] ++ x.pos) x.kw) Q E s₁) E s := by
    have h2 : wpAny M A (spliced (backTo pos (starEach [e] env))) (fun vs s₁ => s₁.heap.get? u = some (bm a) ∧ wpAny M A (call (.ref u) ([] ++ vs)) Q E s₁) E s :=
      wpAny_items_cons (wpAny_mono h (fun v s₁ h₁ => wpAny_items_nil h₁) fun _ _ y => y) he
    rw [he] at h2 ⊢
    exact evalArgs_plain h2
  unfold callWith
  refine wpAny_bind (wpAny_holding (wpAny_mono h' (fun x s₁ h₁ => wpAny_bind (wpAny_standAt ?_)) fun _ _ x => x))
  obtain ⟨ho, hcall⟩ := h₁
  have hplain : (backTo pos (starEach [e] env)).any (·.1) = false := by rw [he]; rfl
  simp only [hplain, List.any_nil, Bool.or_false]
  refine wpAny_bind (m := keeperOf (.ref u)) ?_
  unfold keeperOf
  refine wpAny_bind (wpAny_load ho ?_)
  simp only [bm, show (Value.type "builtin_function_or_method" != Value.type "method") = true by decide, show (Value.type "builtin_function_or_method" == Value.type "builtin_function_or_method" || Value.type "builtin_function_or_method" == Value.type "method-wrapper") = true by decide, if_true]
  refine wpAny_pure ?_
  exact wpAny_bind (wpAny_mono hcall (fun r s₂ hr => wpAny_bind (wpAny_holding (wpAny_point (wpAny_pure hr)))) fun _ _ x => x)
end
/-- where the bound method stands -/
structure Bd (c : Cx) (a X : Addr) (t : Shared) : Prop where
  at_ : t.heap.get? X = some (bm a)
  off : X ∉ [tb, a, c.env.locals]
section
variable {c : Cx} {a X : Addr} {s₀ t s s' : Shared} {ρ ρ' : List (Str × D)} {ds : List D} {d : D} {x y : Str} {e : Expr} {rest : List Stmt} {pos p np apos spos : Pos} {Q : Flow → Shared → Prop}
theorem Bd.to (b : Bd c a X t) (O : Ow c a s₀ t s ρ ds) : s.heap.get? X = some (bm a) := O.ch.keep.ex X _ b.off b.at_ nofun
theorem Ow.bind (O : Ow c a s₀ t s ρ ds) (h : ∀ X s', Bd c a X s' → Ow c a s₀ s' s' ((y, val (.ref X)) :: ρ) ds → Wp c (execs rest c.env) Q s') (hx : ρ.lookup x = some (val (.ref a)) := by rfl) (l : c.env.kindOf x = some .local := by rfl) (l' : c.env.kindOf y = some .local := by rfl) (hd : (x == ("__debug__" : Str)) = false := by decide)
    (sw : swapsWith (.Attribute (.Name x np) "append" apos) (some (.Name y p)) pos.line c.env = pure false := by rfl) : Wp c (execs (.Assign [.Name y p] (.Attribute (.Name x np) "append" apos) pos :: rest) c.env) Q s := by
  refine ex_cons (wpAny_Assign_Name (Attribute_name (((FS.loc O.cs.fs hx l hd) s (.refl O.cs.ok)).mono fun v' s₂ q => ?_)) sw)
  obtain ⟨k, rfl⟩ := q
  have O₂ := O.kp k
  obtain ⟨vs, pl, _⟩ := id O₂.cs.acc
  refine getAttr_append pl fun tk => ?_
  have kp : Kp c.U s₂ { s₂ with heap := s₂.heap.push (bm a), toks := tk } := .push O₂.cs.ok
  have O₃ := O₂.kp kp
  have hX : (s₂.heap.push (bm a)).get? s₂.heap.objs.size = some (bm a) := Heap.get?_push_size _ rfl
  obtain ⟨ps, et, _⟩ := id O₂.cs.ok.tab
  obtain ⟨_, ⟨oL, es, ep, eL, _⟩, _⟩ := id O₂.cs.fs.ns
  obtain ⟨n, ea⟩ := id pl
  have n1 := Heap.lt_size et
  have n2 := Heap.lt_size ea
  have n3 := Heap.lt_size eL
  have off : s₂.heap.objs.size ∉ [tb, a, c.env.locals] := fun m => by
    rcases List.mem_cons.mp m with w | m
    · exact Nat.lt_irrefl _ (Nat.lt_of_lt_of_eq n1 w)
    rcases List.mem_cons.mp m with w | m
    · exact Nat.lt_irrefl _ (Nat.lt_of_lt_of_eq n2 w)
    · exact Nat.lt_irrefl _ (Nat.lt_of_lt_of_eq n3 (List.mem_singleton.mp m))
  refine O₃.cs.fs.stL O₃.cs.ok l' (d := val (.ref s₂.heap.objs.size)) rfl fun s₄ f k₄ => h s₂.heap.objs.size s₄ ⟨k₄.keep _ _ (fun w => off (w ▸ by simp)) hX, off⟩ ?_
  exact ⟨O₃.cs.stored f k₄ O.nl O.ne.symm, .refl, O.hU, O.na, O.nl, O.ne, O.nc⟩
theorem Ow.add (O : Ow c a s₀ t s ρ ds) (b : Bd c a X t) (v : Ev c s e d) (hs : ds.length ≤ sizeLine) (h : ∀ s', Ow c a s₀ t s' ρ (ds ++ [d]) → Wp c (execs rest c.env) Q s') (hx : ρ.lookup y = some (val (.ref X)) := by rfl) (l : c.env.kindOf y = some .local := by rfl)
    (hd : (y == ("__debug__" : Str)) = false := by decide) (he : starEach [e] c.env = [(false, eval e c.env)] := by rfl) (hi : interactive c.env = false := by rfl) (hsw : swapsWith (.Call (.Name y np) [e] [] pos) none spos.line c.env = pure false := by rfl) :
    Wp c (execs (.Expr (.Call (.Name y np) [e] [] pos) spos :: rest) c.env) Q s := by
  refine ex_cons (wpAny_Expr_any ?_ hi hsw)
  refine wpAny_Call_ofName (((FS.loc O.cs.fs hx l hd) s (.refl O.cs.ok)).mono fun v' s₂ q => ?_)
  obtain ⟨k, rfl⟩ := q
  refine callWith_bm (a := a) ((v s₂ k).mono fun u s₃ q => ?_) he
  have O₃ := (O.kp k).kp q.1
  refine ⟨b.to O₃, ?_⟩
  obtain ⟨vs, pl, al⟩ := id O₃.cs.acc
  refine call_bm (b.to O₃) pl (by rw [← Array.length_toList, Paired.length al]; exact hs) fun h' l' b' => ?_
  exact h _ (O₃.write b' l' (by rw [Array.toList_push]; exact al.snoc q.2))
end
end Mine
end
section
set_option genInjectivity false
set_option genSizeOf false
set_option maxHeartbeats 2000000
open PySem PySem.W PyProof.Rows PySem.Spec PySem.Calls
namespace Mine
variable [Inhabited Bnd]
section
variable {c : Cx} {a X : Addr} {s₀ t s s' : Shared} {ρ ρ' : List (Str × D)} {ds : List D} {d d1 d2 : D} {x y : Str} {e e1 e2 : Expr} {rest : List Stmt} {pos p px py np vp : Pos} {k k' : Nat} {Q : Flow → Shared → Prop}
theorem Ow.stN {v : Value} {Q : Unit → Shared → Prop} (O : Ow c a s₀ t s ρ ds) (r : d.P (hp c.U s) v) (h : ∀ s', Ow c a s₀ t s' ((x, d) :: ρ) ds → KpS (hp c.U s) (hp c.U s') → Q () s') (l : c.env.kindOf x = some .local := by rfl) : Wp c (storeName c.env x v) Q s :=
  O.cs.fs.stL O.cs.ok l r fun s₂ f k => h s₂ ⟨O.cs.stored f k O.nl O.ne.symm, O.ch.then (k.chg (by simp)), O.hU, O.na, O.nl, O.ne, O.nc⟩ k.seq
/-- two names from a display of two, the last first -/
theorem Ow.two (O : Ow c a s₀ t s ρ ds) (hh : c.A.handled = none) (v : EvL c s [e1, e2] [d1, d2]) (h : ∀ s', Ow c a s₀ t s' ((x, d1) :: (y, d2) :: ρ) ds → Wp c (execs rest c.env) Q s') (l : c.env.kindOf x = some .local := by rfl) (l' : c.env.kindOf y = some .local := by rfl)
    (hs : swapsWithSole [.Tuple [.Name x px, .Name y py] k p] (.Tuple [e1, e2] k' vp) pos.line c.env = pure false := by rfl) (hw : swappedStores [.Tuple [.Name x px, .Name y py] k p] (.Tuple [e1, e2] k' vp) c.env = pure (some [x, y]) := by rfl) :
    Wp c (execs (.Assign [.Tuple [.Name x px, .Name y py] k p] (.Tuple [e1, e2] k' vp) pos :: rest) c.env) Q s := by
  refine ex_cons (Assign_Tuple_swapped (names := [x, y]) (wpAny_Tuple ((v vp s (.refl O.cs.ok)).mono fun vs s₂ q => ?_)) hs hw)
  obtain ⟨k₂, al⟩ := q
  cases al with
  | @cons u _ _ _ r1 al =>
  obtain ⟨w, rfl, r2⟩ := All.one al
  refine ⟨by show 2 ≤ sizeLine; rw [sizeLine_eq]; omega, ?_⟩
  have k₃ : Kp c.U s₂ { s₂ with heap := s₂.heap.push { cls := .type "tuple", data := .seq #[u, w] } } := .push (n := s₂.toks) k₂.ok
  refine unpackItems_tuple (t := s₂.heap.objs.size) (items := #[u, w]) hh ⟨_, Heap.get?_push_size _ rfl, rfl, _, rfl⟩ fun h' e => ?_
  have k₄ : Kp c.U { s₂ with heap := s₂.heap.push { cls := .type "tuple", data := .seq #[u, w] } } { s₂ with heap := h' } := .of (n := s₂.toks) k₃.ok fun b o q => e b o (Nat.ne_of_lt (Heap.lt_size q)) q
  have O₄ := O.kp (k₂.trans (k₃.trans k₄))
  have kk := k₃.trans k₄
  show wpAny _ _ (assignInOrder [bindName c.env y, bindName c.env x] [w, u]) _ _ _
  refine wpAny_assignInOrder_more (bindName_ (O₄.stN (d2.at kk r2) (fun s₅ O₅ q₅ => wpAny_assignInOrder_more (bindName_ (O₅.stN (d1.mono q₅ (d1.at kk r1)) (fun s₆ O₆ _ => ?_) l))) l'))
  exact wpAny_pure (h s₆ O₆)
end
end Mine
end
section
set_option genInjectivity false
set_option genSizeOf false
set_option maxHeartbeats 2000000
open PySem PySem.W PyProof.Rows PySem.Spec PySem.Calls
namespace Mine
variable [Inhabited Bnd]
section
variable {c : Cx} {a : Addr} {s₀ t s : Shared} {ρ : List (Str × D)} {ds : List D} {x y z : List Nat} {n : Str} {np : Pos}
/-- is the frame's own list filled -/
theorem Ow.tr (O : Ow c a s₀ t s ρ ds) (hs : ds.length ≤ 1000000) (hx : ρ.lookup n = some (val (.ref a)) := by rfl) (l : c.env.kindOf n = some .local := by rfl) (hd : (n == ("__debug__" : Str)) = false := by decide) : EvT c s (.Name n np) (!ds.isEmpty) := fun s₁ k => by
  refine wpAny_isTrue_value ((FS.loc O.cs.fs hx l hd) s₁ k |>.mono fun v s₂ h => ?_) rfl
  obtain ⟨k₂, rfl⟩ := h
  have O₂ := O.kp (k.trans k₂)
  obtain ⟨vs, pl, al⟩ := O₂.cs.acc
  have hz : vs.size = ds.length := by rw [← Array.length_toList]; exact Paired.length al
  refine wpAny_truthy_list pl.isList (by omega) ⟨k₂.trans (.tok k₂.ok), ?_⟩
  rw [empty_same vs ds hz]
theorem Tr.tx (hx : x.length ≤ 1000000) : Tr c (Mine.tx x) (!x.isEmpty) := fun s v ok r => by
  obtain ⟨t, rfl⟩ := r
  refine P.truthy_str (by rw [S_len]; omega) ⟨.tok ok, ?_⟩
  rw [S_len]
  cases x <;> rfl
theorem meets_replaceNo {X Y Z : Str} {t u v : Tok} (h : (Builtin.Str.occurrences X Y 0 X.length (X.length + 1)).isEmpty = true) : Meets (Builtin.«str.replace» ⟨[.str X t, .str Y u, .str Z v], []⟩) (fun _ R s => R (.ok (.ret (.str X t))) s) :=
  .of_wp fun prog w A R s hs => by
    show wpAny _ _ (if ((Builtin.Str.occurrences X Y 0 X.length (X.length + 1)).isEmpty || (Y.length == 0 && Z.length == 0)) = true then (do rule "str.replace.nothing"; ret (.str X t)) else _) _ _ _
    rw [if_pos (by rw [h]; rfl)]
    exact wpAny_bind (wpAny_rule (wpAny_pure ⟨_, rfl, hs⟩))
theorem Me.replaceNo (h : (Builtin.Str.occurrences (S x) (S y) 0 (S x).length ((S x).length + 1)).isEmpty = true) : Me c "replace" (Mine.tx x) [Mine.tx y, Mine.tx z] (Mine.tx x) :=
  ⟨_, _, PySem.F.plainAttrs_str, PySem.F.slot_str_replace, PySem.F.type_str_replace, fun s v ok r => by
    obtain ⟨t, rfl⟩ := r
    refine ⟨typeIs_str _ _ _, nofun, fun vs al => ?_⟩
    cases al with | cons p al =>
    obtain ⟨w, rfl, q⟩ := All.one al
    obtain ⟨u, rfl⟩ := p
    obtain ⟨v, rfl⟩ := q
    exact call_meets PySem.F.slot_str_replace (typeIs_str _ _ _) PySem.F.entry_str_replace (PySem.F.args_str_replace_3 _ _ _) (meets_replaceNo h) ⟨.refl ok, _, rfl⟩⟩
theorem Bi.inst : Bi c (.builtin "isinstance") [Mine.tx x, val (.type "str")] (boo true) := fun s vs ok al => by
  cases al with | cons p al =>
  obtain ⟨w, rfl, q⟩ := All.one al
  obtain ⟨u, rfl⟩ := p
  cases q
  exact call_isinstance_yes (typeIs_str s _ _) (by first | rfl | kernel_rfl) (by rw [isSubtype_type]; kernel_rfl) ⟨.refl ok, rfl⟩
end
end Mine
end
section
set_option genInjectivity false
set_option genSizeOf false
set_option maxHeartbeats 2000000
open PySem PySem.W PyProof.Rows PySem.Spec PySem.Calls
namespace Mine
variable [Inhabited Bnd]
def keyOk (e : DictEntry) : Bool := match e.key with
  | .int k _ => e.hash == hashInt k && k != 61
  | _ => false
/-- the table of the special signs: '=' is none of them -/
structure Sc (B : Md) : Prop where
  at_ : ∃ m o es ep, B.mg "_special_chars_map" = some (.ref m) ∧ B.g.get? m = some o ∧ o.cls = .type "dict" ∧ o.data = .dict es ep ∧ es.toList.all keyOk = true ∧ (m == sysModules) = false
section
variable {prog : Program} {w : World} {A : Around} {E : Value → Shared → Prop} {s : Shared} {m : Addr} {o : Obj} {es : Array DictEntry} {ep : Nat} {t : Tok}
theorem getItem_none {Q : Value → Shared → Prop} (ho : s.heap.get? m = some o) (hc : o.cls = .type "dict") (hd : o.data = .dict es ep) (hk : es.toList.all keyOk = true) (hm : (m == sysModules) = false) (hh : A.handled = none)
    (h : ∀ h' e tk, Heap.NewExc s.heap h' e "KeyError" → E (.ref e) { s with heap := h', toks := tk }) : wpAny (model prog w) A (getItem (.ref m) (.int 61 t)) Q E s := by
  have hT : ∀ tk, ({ s with toks := tk } : Shared).TypeIs (.ref m) "dict" := fun _ => ⟨_, ho, hc⟩
  have key : ∀ e ∈ es, ∃ k u, e.key = .int k u ∧ e.hash = hashInt k ∧ k ≠ 61 := fun e he => by
    have := List.all_eq_true.mp hk e (by simpa using he)
    unfold keyOk at this
    split at this
    · rename_i k u q
      simp only [Bool.and_eq_true, beq_iff_eq, bne_iff_ne] at this
      exact ⟨k, u, q, this.1, this.2⟩
    · cases this
  have hko : KeysOf (intKind prog w) es := fun e he => by
    obtain ⟨k, u, q, hh, _⟩ := key e he
    exact ⟨k, by rw [q]; exact intKind_is prog w k u, hh⟩
  have hno : (es.findIdx? fun e => (intKind prog w).is 61 e.key) = none := by
    rw [Array.findIdx?_eq_none_iff]
    intro e he
    obtain ⟨k, u, q, _, n⟩ := key e he
    rw [q]
    have := KeyKind.is_eq_decide (knd := intKind prog w) (intKind_is prog w k u) 61
    rw [this]
    exact decide_eq_false fun z => n z.symm
  unfold getItem
  try with_reducible refine wpAny_holding ?_
  refine wpAny_bind (wpAny_sequenceKey (hT _) (by decide) ?_)
  refine wpAny_bind (wpAny_callSpecial?_slot (name := Str.ofString "__getitem__") (hT _) slot_dict_getitem
    (wpAny_call_entry slot_dict_getitem (hT _) entry_dict_getitem ?_ (args_dict_getitem _ _)))
  show wpAny _ _ (dictGet m (.int 61 t) >>= _) _ _ s
  refine wpAny_bind ?_
  · unfold dictGet
    try with_reducible refine wpAny_holding ?_
    refine wpAny_bind ((intKind prog w).pyHash (intKind_is prog w 61 t) (wpAny_bind (wpAny_dictFind_of (s := { s with toks := s.toks + 1 }) (intKind_is prog w 61 t) ho hd hko ?_)))
    rw [hno]
    refine wpAny_pure ?_
    show wpAny _ _ (Builtin.Dict.missed m (.int 61 t) >>= _) _ _ _
    refine wpAny_bind (wpAny_missed_other hm ?_)
    refine wpAny_bind (wpAny_typeOf (s := { s with toks := s.toks + 1 }) (hT _) ?_)
    show wpAny _ _ (if (Value.type "dict" != Value.type "dict") = true then _ else _) _ _ _
    rw [if_neg (by decide)]
    exact wpAny_bind (wpAny_rule (wpAny_raise_newExc (A := A.in1) plainExc_KeyError hh (fun h' e x => h h' e _ x)))
theorem lookup_keep {Q : Builtin.Str.Mapped → Shared → Prop} (ho : s.heap.get? m = some o) (hc : o.cls = .type "dict") (hd : o.data = .dict es ep) (hk : es.toList.all keyOk = true) (hm : (m == sysModules) = false) (hh : A.handled = none)
    (h : ∀ h' tk, (∀ b o, s.heap.get? b = some o → h'.get? b = some o) → Q .keep { s with heap := h', toks := tk }) : wpAny (model prog w) A (Builtin.Str.tableLookup (.ref m) 61) Q E s := by
  unfold Builtin.Str.tableLookup
  refine wpAny_bind (wpAny_attempt (wpAny_bind (wpAny_mkInt (getItem_none (s := { s with toks := s.toks + 1 }) ho hc hd hk hm hh fun h' e tk x => ?_))))
  obtain ⟨ob, u, he, hcl, _⟩ := x.there
  refine wpAny_bind (wpAny_isInstance (T := "KeyError") (U := "LookupError") (b := true) ⟨ob, he, hcl⟩ (by rw [isSubtype_type]; kernel_rfl) ?_)
  exact wpAny_bind (wpAny_rule (wpAny_pure (h _ _ x.keeps)))
theorem run_translate {P : PySem.Fin → Shared → Prop} (ho : s.heap.get? m = some o) (hc : o.cls = .type "dict") (hd : o.data = .dict es ep) (hk : es.toList.all keyOk = true) (hm : (m == sysModules) = false) (hh : A.handled = none)
    (h : ∀ h' tk t', (∀ b o, s.heap.get? b = some o → h'.get? b = some o) → P (.done (.ret (.str (S [61]) t'))) { s with heap := h', toks := tk }) :
    wpAny (model prog w) A (Builtin.«str.translate» ⟨[.str (S [61]) t, .ref m], []⟩) P E s := by
  unfold Builtin.«str.translate»
  refine wpAny_bind (wpAny_of_eq (a := (.str (S [61]) t, S [61], .ref m)) (by first | rfl | kernel_rfl) ?_)
  simp only
  refine KFB.if_not (by decide) ?_
  simp only [show (S [61]).cps = #[61] from rfl, ← Array.forIn_toList, List.forIn_cons, List.forIn_nil]
  repeat (any_goals (first | assumption | ((with_reducible show wpAny _ _ (Builtin.Str.tableLookup _ _) _ _ _); refine lookup_keep ho hc hd hk hm hh fun h' tk kp => ?_) | wp_step))
  exact h h' _ _ kp
end
/-- a method of the built-in world, that may look at the module's objects -/
def MeI (B : Md) (c : Cx) (name : Str) (d1 : D) (args : List D) (d : D) : Prop := ∃ T id, PlainAttrs T ∧ Slot T name id ∧ typeOf (.builtin id) = pure (.type "method_descriptor") ∧
  ∀ s v, B.In s → Ok c.U s.heap → d1.P (hp c.U s) v → s.TypeIs v T ∧ (∀ a, v = .ref a → ∃ o, s.heap.get? a = some o ∧ o.dict = none) ∧ ∀ vs, All (hp c.U s) vs args → Wp c (call (.builtin id) (v :: vs)) (Gives c.U d s) s
section
variable {B : Md} {c : Cx} {s : Shared} {o e : Expr} {es : List Expr} {d1 d : D} {ds : List D} {name : Str} {apos pos : Pos}
theorem Ev.methI (O : B.Ok) (I : B.In s) (x : Ev c s o d1) (a : EvL c s (e :: es) ds) (m : MeI B c name d1 ds d) (hbase : attributeBase o name c.env (eval o c.env) = eval o c.env := by rfl)
    (hfew : ((backTo pos (starEach (e :: es) c.env)).all (fun x => !x.1) && (backToKw pos (keywordEach [] c.env)).all (fun x => x.1.isSome) && decide ((e :: es).length + ([] : List Keyword).length + (if ([] : List Keyword).isEmpty then 0 else 1) < 30)) = true := by rfl)
    (hline : (apos.endLine == pos.line) = true := by rfl) (he : starEach (e :: es) c.env = (false, eval e c.env) :: starEach es c.env := by rfl) (hp : (backTo pos (starEach es c.env)).any (·.1) = false := by rfl) :
    Ev c s (.Call (.Attribute o name apos) (e :: es) [] pos) d := fun s₁ k => by
  obtain ⟨T, id, pa, sl, ty, q⟩ := m
  refine wpAny_Call_method hbase hfew hline pa sl ty ((x s₁ k).mono fun v s₂ h => ?_)
  have q₂ := q s₂ v (O.at I (k.trans h.1)) h.1.ok h.2
  refine ⟨q₂.1, q₂.2.1, callWith_method1 ((a pos s₂ (k.trans h.1)).mono fun vs s₃ h₃ => ?_) he hp⟩
  exact ((q s₃ v (O.at I (k.trans (h.1.trans h₃.1))) h₃.1.ok (d1.at h₃.1 h.2)).2.2 vs h₃.2).mono fun _ _ z => ⟨h.1.trans (h₃.1.trans z.1), z.2⟩
theorem MeI.translate {m : Addr} {o : Obj} {es : Array DictEntry} {ep : Nat} (ho : B.g.get? m = some o) (hc : o.cls = .type "dict") (hd : o.data = .dict es ep) (hk : es.toList.all keyOk = true) (hm : (m == sysModules) = false) (hh : c.A.handled = none) :
    MeI B c "translate" (tx [61]) [val (.ref m)] (tx [61]) := ⟨_, _, PySem.F.plainAttrs_str, PySem.F.slot_str_translate, PySem.F.type_str_translate, fun s v I ok r => by
  obtain ⟨t, rfl⟩ := r
  refine ⟨typeIs_str _ _ _, nofun, fun vs al => ?_⟩
  obtain ⟨w, rfl, q⟩ := All.one al
  cases q
  obtain ⟨sl, ho'⟩ := I.di m o es ep (by simp) ho hd
  exact wpAny_call_entry PySem.F.slot_str_translate (typeIs_str _ _ _) PySem.F.entry_str_translate (run_translate ho' hc hd hk hm hh fun h' tk t' kp => ⟨_, rfl, .of ok kp, _, rfl⟩) (PySem.F.args_str_translate_2 _ _)⟩
end
theorem law_escape {B : Md} (O : B.Ok) (N : Nm B) (Df : Dd B "escape" 5) (sc : Sc B) : Fun B "escape" 1 [tx [61]] (tx [61]) :=
  Fun.of1 O "pattern" Df (.inl rfl) fun prog w A U T pm cd doc L ad s₀ s I R OT F => by
    obtain ⟨m, o, es, ep, hmg, ho, hc, hd, hk, hm⟩ := sc.at_
    have I' := O.at I F.kp
    refine F.iff (EvT.val (Ev.callB O I' F.fs N.inst.1 N.inst.2 rfl (EvL.cons F.fs.loc (EvL.cons (Ev.bi O I' F.fs N.str.1 N.str.2) EvL.nil)) Bi.inst) Tr.boo) fun s1 F1 => ?_
    have I1 := O.at I F1.kp
    exact F1.ret (Ev.methI O I1 F1.fs.loc (EvL.cons (Ev.glob O I1 F1.fs hmg) EvL.nil) (MeI.translate ho hc hd hk hm R.1)) fun v s' g => g
end Mine
end
section
set_option genInjectivity false
set_option genSizeOf false
set_option maxHeartbeats 2000000
open PySem PySem.W PyProof.Rows PySem.Spec PySem.Calls
namespace Mine
variable [Inhabited Bnd]
/-! a search that finds nothing -/
def twin : Array Nat := #[14, 14, 4, 1, 1, 9, 0, 64, 0, 1342177280, 0, 0, 0, 0, 0, 17, 0, 13, 11, 9, 0, 64, 0, 1342177280, 0, 0, 0, 0, 0, 17, 1, 1]
def drv : Nat → Sre.M → Option Sre.M
  | 0, _ => none
  | n + 1, m => bif (m.runFor 4).outcome.isSome then some (m.runFor 4) else drv n (m.runFor 4)
def failed (m : Option Sre.M) : Bool := match m with
  | some m => match m.outcome with
    | some .failed => true
    | _ => false
  | none => false
def noHit (x : List Nat) : Bool := failed (drv 200 (Sre.forSearch twin x.toArray 1 0 x.length false))
section
variable {prog : Program} {w : World} {M : Model} {A : Around} {E : Value → Shared → Prop} {s : Shared}
theorem wp_drive {Q : Sre.M → Shared → Prop} : ∀ (n : Nat) (m m' : Sre.M), drv n m = some m' → Q m' s → ∀ k, n ≤ k → wpAny M A (Builtin.Re.reDrive k m) Q E s
  | 0, _, _, h, _, _, _ => by cases h
  | n + 1, m, m', h, q, 0, hk => absurd hk (by omega)
  | n + 1, m, m', h, q, k + 1, hk => by
    unfold drv at h
    show wpAny M A (if (m.runFor 4).outcome.isSome = true then pure (m.runFor 4) else do rule "sre.turn"; Builtin.Re.reDrive k (m.runFor 4)) Q E s
    cases o : (m.runFor 4).outcome.isSome with
    | true =>
      rw [o] at h; cases h
      rw [if_pos rfl]; exact wpAny_pure q
    | false =>
      rw [o] at h
      rw [if_neg (by decide)]
      exact wpAny_bind (wpAny_rule (wp_drive n _ m' h q k (by omega)))
theorem wp_rules {Q : PUnit → Shared → Prop} (c : Nat → Bool) (f : Nat → String) (h : Q ⟨⟩ s) : ∀ l : List Nat, wpAny M A (forIn l PUnit.unit fun i _ => if c i = true then (do rule (f i); pure (ForInStep.yield PUnit.unit)) else pure (ForInStep.yield PUnit.unit)) Q E s
  | [] => by rw [List.forIn_nil]; exact wpAny_pure h
  | i :: l => by
    rw [List.forIn_cons]
    refine wpAny_bind ?_
    cases c i with
    | true => exact wpAny_bind (wpAny_rule (wpAny_pure (wp_rules c f h l)))
    | false => exact wpAny_pure (wp_rules c f h l)
theorem wp_noHit {Q : Option Sre.M → Shared → Prop} {m : Sre.M} (hm : failed (drv 200 m) = true) (h : Q none s) : wpAny M A (Builtin.Re.reRunToEnd m) Q E s := by
  cases d : drv 200 m with
  | none => rw [d] at hm; cases hm
  | some m' =>
    rw [d] at hm
    unfold Builtin.Re.reRunToEnd
    refine wpAny_bind (wp_drive 200 m m' d ?_ (2 ^ 64) (by decide))
    refine wpAny_bind ?_
    refine wp_rules _ _ ?_ _
    unfold failed at hm
    simp only at hm ⊢
    split at hm
    · rename_i q; rw [q]; exact wpAny_pure h
    · cases hm
theorem slot_re_sub : Slot "re.Pattern" "sub" "re.Pattern.sub" :=
  .of (owner := "re.Pattern") (n := "sub") (by rw [typeLookup_type, builtinLookup_eq_fast]; kernel_rfl) (by decide +kernel) (by decide +kernel) (by decide +kernel)
    (by first | exact .inl (by decide +kernel) | exact .inr (by decide +kernel)) (by rw [isSubtype_type]; kernel_rfl)
theorem plainAttrs_re : PlainAttrs "re.Pattern" :=
  ⟨⟨"object.__getattribute__", by rw [typeLookup_type, builtinLookup_eq_fast]; kernel_rfl, by decide +kernel⟩, by rw [typeLookup_type, builtinLookup_eq_fast]; kernel_rfl⟩
theorem type_re_sub : typeOf (.builtin "re.Pattern.sub") = pure (.type "method_descriptor") := by show builtinType _ = _; rw [builtinType_eq_fast]; kernel_rfl
theorem entry_re_sub : entryFor table "re.Pattern.sub" = some Builtin.«re.Pattern.sub» := entryFor_of_tree (by kernel_rfl)
theorem entry_re_loop : entryFor table "re.Pattern.sub.loop" = some Builtin.«re.Pattern.sub.loop» := entryFor_of_tree (by kernel_rfl)
theorem args_re_sub (a b c : Value) : argsOk "re.Pattern.sub" ⟨[a, b, c], []⟩ := by unfold argsOk; kernel_rfl
theorem look_fcall : typeLookup (.type "function") "__call__" = pure (some (.builtin "function.__call__")) := by rw [typeLookup_type, builtinLookup_eq_fast]; kernel_rfl
theorem bytearray_no : isSubtype (.type "str") (.type "bytearray") = pure false := by rw [isSubtype_type]; kernel_rfl
end
theorem wp_if {α : Type} {M : Model} {A : Around} {E : Value → Shared → Prop} {s : Shared} {c : Prop} [Decidable c] {a b : Sem α} {Q : α → Shared → Prop} (hc : c) (h : wpAny M A a Q E s) : wpAny M A (if c then a else b) Q E s := by
  rw [if_pos hc]; exact h
/-- the compiled pattern: [&~|] -/
structure PtAt (h : Heap) (p : Addr) : Prop where
  at_ : ∃ o vs C oc items k, h.get? p = some o ∧ o.cls = .type "re.Pattern" ∧ o.dict = none ∧ o.data = .fields vs ∧ vs.getD 5 .none = .ref C ∧ h.get? C = some oc ∧ oc.data = .seq items k ∧
    (items.map Builtin.Re.reRawOf).map (·.toNat) = twin ∧ Builtin.Re.reRawNat (vs.getD 6 .none) = 0 ∧ Builtin.Re.reRawNat (vs.getD 2 .none) = 1
section
variable {prog : Program} {w : World} {M : Model} {A : Around} {E : Value → Shared → Prop} {s : Shared} {p f : Addr} {b : List Nat} {t : Tok} {of : Obj}
theorem wp_target {Q : Builtin.Re.ReTarget → Shared → Prop} (hp : PtAt s.heap p) (h : Q ⟨.ref p, .str (S b) t, twin, b.toArray, 0, 1, 0, b.length⟩ s) : wpAny M A (Builtin.Re.reWholeTarget (.ref p) (.str (S b) t)) Q E s := by
  obtain ⟨o, vs, C, oc, items, k, ho, hc, hd, hv, h5, hC, hi, ht, h6, h2⟩ := hp.at_
  unfold Builtin.Re.reWholeTarget
  refine wpAny_bind (wpAny_fieldsOf ho hv ?_)
  refine wpAny_bind (wpAny_of_eq (a := (b.toArray, 0)) rfl ?_)
  simp only [h6]
  refine KFB.if_not rfl ?_
  refine KFB.if_not rfl ?_
  refine wpAny_bind (wpAny_of_eq (a := ()) rfl ?_)
  rw [h5]
  refine wpAny_bind ?_
  · unfold Builtin.Re.reRawItems
    refine wpAny_bind (wpAny_seqItems hC hi ?_)
    refine wpAny_pure ?_
    rw [Option.getD_some, ht, h2, List.size_toArray]
    exact wpAny_pure h
theorem run_sub {A' : Around} {P : Result → Shared → Prop} (hp : PtAt s.heap p) (hf : s.heap.get? f = some of) (hc : of.cls = .type "function") (hb : noHit b = true) (hne : b ≠ []) (hz : b.length ≤ 1000)
    (h : ∀ h' tk t', (∀ a o, s.heap.get? a = some o → h'.get? a = some o) → P (.ok (.ret (.str (S b) t'))) { s with heap := h', toks := tk }) :
    wpAny (model prog w) A' (Builtin.«re.Pattern.sub» ⟨[.ref p, .ref f, .str (S b) t], []⟩) (fun fin s' => match fin with
      | .done r => P (.ok r) s'
      | .again c' => c'.quiet = true ∧ codeAny (model prog w) A c' P s') E s := by
  unfold Builtin.«re.Pattern.sub» Builtin.Re.reSubstitute
  refine wpAny_bind (wpAny_of_eq (a := [some (.ref f), some (.str (S b) t), none]) (by first | rfl | kernel_rfl) ?_)
  refine wpAny_bind (wpAny_of_eq (a := (0 : Int)) rfl ?_)
  refine wpAny_bind (wpAny_specialOf (T := "function") ⟨_, hf, hc⟩ look_fcall ?_)
  simp only [Option.isSome_some, if_true]
  refine wpAny_bind (wpAny_pure (wpAny_bind (wpAny_pure ?_)))
  refine wpAny_bind (wpAny_holding (wp_target hp ?_))
  refine KFB.if_so rfl ?_
  refine wpAny_bind ?_
  · unfold Builtin.Re.reNotHeld
    refine wpAny_bind (wpAny_isInstance (typeIs_str s _ _) bytearray_no ?_)
    refine KFB.if_not rfl ?_
    refine wpAny_pure ?_
    refine wpAny_bind (wpAny_newList ?_)
    refine wpAny_pure ⟨Code.quiet_builtin _ (by decide +kernel), codeAny_builtin entry_re_loop ?_⟩
    have hl : (s.heap.push { cls := .type "list", data := .seq #[] }).get? s.heap.objs.size = some { cls := .type "list", data := .seq #[] } := Heap.get?_push_size _ rfl
    have hp' : PtAt (s.heap.push { cls := .type "list", data := .seq #[] }) p := by
      obtain ⟨o, vs, C, oc, items, k, ho, r1, r2, r3, r4, hC, r⟩ := hp.at_
      exact ⟨o, vs, C, oc, items, k, Heap.get?_push_of_some _ ho, r1, r2, r3, r4, Heap.get?_push_of_some _ hC, r⟩
    unfold Builtin.«re.Pattern.sub.loop»
    refine wpAny_bind (wp_target hp' ?_)
    refine KFB.if_not rfl ?_
    refine wpAny_bind (KFB.if_not rfl (wp_noHit hb ?_))
    have hlen : 0 < b.length := List.length_pos_iff.mpr hne
    refine wp_if (show Int.toNat 0 < b.length from hlen) ?_
    have hS : (⟨b.toArray.extract 0 b.length⟩ : Str) = S b := by simp [S]
    have e0 : (⟨b.toArray.extract 0 0⟩ : Str) = S [] := by simp [S]
    refine wpAny_bind ?_
    · show wpAny _ _ (mkStr ⟨b.toArray.extract 0 b.length⟩) _ _ _
      rw [hS]
      refine wpAny_mkStr ?_ (by rw [S_len, sizeLine_eq]; omega)
      refine wpAny_bind (wpAny_updateSeq hl rfl ?_)
      refine wpAny_bind ?_
      show wpAny _ _ (mkStr ⟨b.toArray.extract 0 0⟩) _ _ _
      refine wpAny_mkStr ?_ (by simp [Str.length, sizeLine_eq])
      have hl' : ((s.heap.push { cls := .type "list", data := .seq #[] }).update s.heap.objs.size (Obj.mapSeq fun x => x.push (.str (S b) s.toks))).get? s.heap.objs.size = some { cls := .type "list", data := .seq #[.str (S b) s.toks] 1 } :=
        Heap.get?_update_self _ hl rfl
      refine wpAny_bind (wpAny_seqItems hl' rfl ?_)
      refine KFB.if_not rfl ?_
      refine wpAny_bind ?_
      show wpAny _ _ (call (.builtin "str.join") [.str ⟨b.toArray.extract 0 0⟩ _, .ref s.heap.objs.size]) _ _ _
      refine SC.join (l := [(S b, s.toks)]) (texts := [S b]) ⟨_, hl', rfl, 1, rfl⟩ rfl ?_ fun t' k => ?_
      · rw [e0]
        show (!Builtin.Str.tooLong _) = true
        have fo : [S b].toArray.foldl (fun m (z : Str) => m + z.length + (S []).length) 0 = b.length := by
          simp [S_len]
        rw [fo]
        simp [Builtin.Str.tooLong, sizeLine_eq]; omega
      · have ej : Txt.join ⟨b.toArray.extract 0 0⟩ [S b] = S b := by
          rw [e0]
          rfl
        rw [ej]
        refine KFB.if_not rfl (wpAny_pure ?_)
        exact h _ _ _ fun a o e => by
          refine Eq.trans (Heap.get?_update_other _ _ (Nat.ne_of_gt (Heap.lt_size e))) (Heap.get?_push_of_some _ e)
theorem meets_sub (p f : Addr) (b : List Nat) (t : Tok) (hb : noHit b = true) (hne : b ≠ []) (hz : b.length ≤ 1000) : Meets (Builtin.«re.Pattern.sub» ⟨[.ref p, .ref f, .str (S b) t], []⟩)
    (fun _ R s => PtAt s.heap p ∧ (∃ of, s.heap.get? f = some of ∧ of.cls = .type "function") ∧ ∀ h' tk t', (∀ a o, s.heap.get? a = some o → h'.get? a = some o) → R (.ok (.ret (.str (S b) t'))) { s with heap := h', toks := tk }) :=
  fun _ _ _ _ _ ⟨hp, ⟨_, hf, hc⟩, h⟩ => run_sub hp hf hc hb hne hz h
end
end Mine
end
section
set_option genInjectivity false
set_option genSizeOf false
set_option maxHeartbeats 2000000
open PySem PySem.W PyProof.Rows PySem.Spec PySem.Calls
namespace Mine
variable [Inhabited Bnd]
/-- what a lambda in a frame of code cd asks of the module's objects -/
structure Lam (B : Md) (cd : Value) : Prop where
  code : ∃ c, cd = .ref c ∧ CodeHd B.g c tb
  bm : ∃ bm o, B.mg "__builtins__" = some (.ref bm) ∧ bm ≠ builtinsNs ∧ bm ≠ mainGlobals ∧ B.g.get? bm = some o ∧ o.cls = .type "module" ∧ o.dict = some builtinsNs ∧ o.data = .plain
structure Pt (B : Md) : Prop where
  at_ : ∃ p, B.mg "_twin_re_1" = some (.ref p) ∧ PtAt B.g p
theorem PtAt.in_ {B : Md} {s : Shared} {p : Addr} (x : PtAt B.g p) (I : B.In s) : PtAt s.heap p := by
  obtain ⟨o, vs, C, oc, items, k, ho, r1, r2, r3, r4, hC, r5, r⟩ := x.at_
  exact ⟨o, vs, C, oc, items, k, I.obj ho (by rw [r3]; nofun), r1, r2, r3, r4, I.obj hC (by rw [r5]; nofun), r5, r⟩
section
variable {B : Md} {c : Cx} {s : Shared} {params : Arguments} {body : Expr} {scope : Scope} {pos : Pos} {clos : List (Str × Addr)} {M : Model} {A : Around} {E : Value → Shared → Prop} {env : Env} {U : List Addr}
def IsFn (h : Heap) (v : Value) : Prop := ∃ f o, v = .ref f ∧ h.get? f = some o ∧ o.cls = .type "function" ∧ (∀ es n, o.data ≠ .dict es n) ∧ f ≠ tb
theorem IsFn.at {s s' : Shared} {v : Value} (x : IsFn s.heap v) (k : Kp U s s') : IsFn s'.heap v :=
  let ⟨f, o, e, g, q, nd, n⟩ := x; ⟨f, o, e, k.keep.x f o n g nd, q, nd, n⟩
theorem ev_lambda (O : B.Ok) (I : B.In s) (ok : Ok U s.heap) (L : Lam B env.code) (hg : env.globals = mainGlobals) (hdef : defaultsOf params env = ([], [])) (hcl : closureFor scope env = pure clos) :
    wpAny M A (eval (.Lambda params body scope pos) env) (fun v s' => Kp U s s' ∧ IsFn s'.heap v) E s := by
  obtain ⟨⟨cc, hcode, C⟩, bm, ob, hbm, n1, n2, hbo, hc, hd, hdt⟩ := L
  obtain ⟨ps, ht, tri⟩ := id ok.tab
  have C' : CodeHd s.heap cc tb := by
    obtain ⟨o, vs, file, tf, flags, tg, inF, text, tt, e, r1, r2, r⟩ := C
    exact ⟨o, vs, file, tf, flags, tg, inF, text, tt, I.obj e (by rw [r2]; nofun), r1, r2, r⟩
  have hns : s.heap.Ns mainGlobals B.mg := I.ns O.G
  have nbm : bm ≠ tb := fun w => by rw [w, O.hid] at hbo; cases hbo
  have hb : s.heap.BuiltinsAt B.mg tb := ⟨bm, ob, hbm, n1, n2, nbm, I.obj hbo (by rw [hdt]; nofun), hc, hd, hdt⟩
  have gt : mainGlobals ≠ tb := fun w => by
    obtain ⟨o, es, ep, e, d, _⟩ := hns
    rw [w, ht] at e; cases e; cases d
  refine kla_eval hdef ?_
  cases hf : codeAmong pos ps.toList with
  | none =>
    refine kla_makeFunction hcl hg hns hcode C' ht tri hf gt hb fun c' ctv h' tk hx hge hlt hrec htb => ?_
    have keep : ∀ b o, b ∉ [tb] → s.heap.get? b = some o → (h'.push (kla_obj "<lambda>" (env.qual ++ "<lambda>") params body scope clos ((B.mg "__name__").getD .none) c' ctv)).get? b = some o := fun b o n e =>
      Heap.get?_push_of_some _ (hx b o (fun w => n (w ▸ List.mem_singleton_self _)) e)
    refine ⟨⟨.all keep, ok, ⟨⟨_, Heap.get?_push_of_some _ htb, ?_⟩, fun a m => ?_⟩, rfl, rfl⟩, _, _, rfl, Heap.get?_push_size _ rfl, rfl, nofun, fun w => ?_⟩
    · rw [Array.toList_append]; exact TriplesOk_snoc _ _ _ _ tri
    · obtain ⟨n, o, e⟩ := ok.at_ a m
      exact ⟨n, o, keep a o (ntb n) e⟩
    · exact Nat.lt_irrefl _ (Nat.lt_of_lt_of_eq (Heap.lt_size htb) w)
  | some cv =>
    refine kla_makeFunctionHit hcl hg hns hcode C' ht tri hf hb fun ctv h' tk hk hsz => ?_
    exact ⟨.of ok fun b o e => Heap.get?_push_of_some _ (hk b o e), _, _, rfl, Heap.get?_push_size _ rfl, rfl, nofun, fun w => Nat.lt_irrefl _ (Nat.lt_of_lt_of_eq (Nat.lt_of_lt_of_le (Heap.lt_size ht) hsz) w)⟩
theorem Ev.subNo {ρ : List (Str × D)} {b : List Nat} {e : Expr} {np apos lp : Pos} (O : B.Ok) (I : B.In s) (F : FS c.U c.env s.heap ρ) (pt : Pt B) (L : Lam B c.env.code) (v : Ev c s e (tx b)) (hb : noHit b = true) (hne : b ≠ []) (hz : b.length ≤ 1000)
    (hdef : defaultsOf params c.env = ([], []) := by rfl) (hcl : closureFor scope c.env = pure clos := by rfl) (k : c.env.kindOf "_twin_re_1" = some .globalImplicit := by rfl)
    (hbase : attributeBase (.Name "_twin_re_1" np) "sub" c.env (eval (.Name "_twin_re_1" np) c.env) = eval (.Name "_twin_re_1" np) c.env := by rfl)
    (hfew : ((backTo pos (starEach [.Lambda params body scope lp, e] c.env)).all (fun x => !x.1) && (backToKw pos (keywordEach [] c.env)).all (fun x => x.1.isSome) && decide ([PySem.Expr.Lambda params body scope lp, e].length + ([] : List Keyword).length + (if ([] : List Keyword).isEmpty then 0 else 1) < 30)) = true := by rfl)
    (hline : (apos.endLine == pos.line) = true := by rfl) (he : starEach [.Lambda params body scope lp, e] c.env = (false, eval (.Lambda params body scope lp) c.env) :: starEach [e] c.env := by rfl) (hp : (backTo pos (starEach [e] c.env)).any (·.1) = false := by rfl) (he2 : starEach [e] c.env = [(false, eval e c.env)] := by rfl) :
    Ev c s (.Call (.Attribute (.Name "_twin_re_1" np) "sub" apos) [.Lambda params body scope lp, e] [] pos) (tx b) := fun s₁ k₁ => by
  obtain ⟨p, hm, hpt⟩ := pt.at_
  refine wpAny_Call_method hbase hfew hline plainAttrs_re slot_re_sub type_re_sub ((Ev.glob O I F hm k (by decide) s₁ k₁).mono fun v' s₂ h => ?_)
  obtain ⟨k₂, rfl⟩ := h
  have I₂ := O.at I (k₁.trans k₂)
  have P₂ := hpt.in_ I₂
  obtain ⟨o, vs, C, oc, items, kk, ho, hc, hd, _⟩ := id P₂.at_
  refine ⟨⟨o, ho, hc⟩, fun a e => by cases e; exact ⟨o, ho, hd⟩, callWith_method1 (wpAny_items_cons (Wp.mono (c := c) (ev_lambda O I₂ k₂.ok L F.gl hdef hcl) fun u s₃ h => ?_) he) he hp⟩
  obtain ⟨k₃, fn⟩ := h
  refine wpAny_items_cons ((v s₃ (k₁.trans (k₂.trans k₃))).mono fun u' s₄ h => wpAny_items_nil ?_) he2
  obtain ⟨k₄, t, rfl⟩ := h
  obtain ⟨f, of, rfl, hf, hcf, _⟩ := fn.at k₄
  have I₄ := O.at I₂ (k₃.trans k₄)
  have P₄ := hpt.in_ I₄
  obtain ⟨o', vs', C', oc', items', kk', ho', hc', hd', _⟩ := id P₄.at_
  exact call_meets slot_re_sub ⟨o', ho', hc'⟩ entry_re_sub (args_re_sub _ _ _) (meets_sub p f b t hb hne hz) ⟨P₄, ⟨of, hf, hcf⟩, fun h' tk t' kp => ⟨k₂.trans (k₃.trans (k₄.trans (.of k₄.ok kp))), t', rfl⟩⟩
end
end Mine
end
section
set_option genInjectivity false
set_option genSizeOf false
set_option maxHeartbeats 2000000
open PySem PySem.W PyProof.Rows PySem.Spec PySem.Calls PySem.SeqAt
namespace Mine
variable [Inhabited Bnd]
section
variable {c : Cx} {s : Shared} {e l : Expr} {a b d x y : List Nat} {z1 z2 : Str} {k1 k2 k3 n : Nat} {p1 p2 p3 pos tp : Pos} {h : Nat}
theorem Ev.fstr3 (x : Ev c s e (tx b)) (hz : b.length ≤ 1000) (hz1 : z1.length = 1) (hz2 : z2.length = 1) : Ev c s (.JoinedStr [.Constant (.str z1) k1 p1, .FormattedValue e (-1) none p2, .Constant (.str z2) k2 p3] pos) (str (Str.empty ++ z1 ++ S b ++ z2)) := fun s₁ k => by
  have l1 : (Str.empty ++ z1).length = 1 := by rw [strLen_append, hz1]; rfl
  have l2 : (Str.empty ++ z1 ++ S b).length = 1 + b.length := by rw [strLen_append, l1, S_len]
  have l3 : (Str.empty ++ z1 ++ S b ++ z2).length = 1 + b.length + 1 := by rw [strLen_append, l2, hz2]
  refine JoinedStr_many (joinParts_cons ((Ev.cStr (x := z1) s₁ k).mono fun v s₂ q => ?_))
  obtain ⟨k₂, t, rfl⟩ := q
  refine ⟨by rw [l1, sizeLine_eq]; omega, joinParts_cons (FormattedValue_plain ((x s₂ (k.trans k₂)).mono fun v s₃ q => ?_))⟩
  obtain ⟨k₃, t, rfl⟩ := q
  refine formatField_str (fun t' tk => ?_) (by rw [S_len, sizeLine_eq]; omega)
  refine ⟨by rw [l2, sizeLine_eq]; omega, joinParts_cons ((Ev.cStr (x := z2) { s₃ with toks := tk } (k.trans (k₂.trans (k₃.trans (.tok k₃.ok))))).mono fun v s₄ q => ?_)⟩
  obtain ⟨k₄, t, rfl⟩ := q
  refine ⟨by rw [l3, sizeLine_eq]; omega, joinParts_nil ?_ (by rw [l3, sizeLine_eq]; omega)⟩
  exact ⟨k₂.trans (k₃.trans ((Kp.tok k₃.ok).trans (k₄.trans (.tok k₄.ok)))), _, rfl⟩
theorem EvT.in2 (R : Room c.A n) (x : Ev c s l (tx [h])) (hin : decide (Spec.countIn (.str (S [h])) [.str z1, .str z2] ≠ 0) = false) (hs : shaped (.tuple [.str z1, .str z2]) = true) (hd : shaped (.str (S [h])) = true) (hm : ∀ y ∈ [PyData.str z1, PyData.str z2], noMix y (.str (S [h])) = true)
    (he : starEach [.Constant (.str z1) k1 p1, .Constant (.str z2) k2 p2] c.env = [(false, eval (.Constant (.str z1) k1 p1) c.env), (false, eval (.Constant (.str z2) k2 p2) c.env)] := by rfl) (hb : behindInMarks .In (.Tuple [.Constant (.str z1) k1 p1, .Constant (.str z2) k2 p2] k3 tp) = false := by with_unfolding_all rfl) :
    EvT c s (.Compare l [.In] [.Tuple [.Constant (.str z1) k1 p1, .Constant (.str z2) k2 p2] k3 tp] pos) false := fun s₁ k => by
  refine wpAny_isTrue_Compare1 ((x s₁ k).mono fun u s₂ q => wpAny_Tuple ((EvL.cons (Ev.cStr (x := z1)) (EvL.cons (Ev.cStr (x := z2)) EvL.nil (by rfl)) he tp s₂ (k.trans q.1)).mono fun vs s₃ h₃ => ?_)) hb
  obtain ⟨k₃, al⟩ := h₃
  cases al with
  | @cons v1 _ _ _ r1 al =>
  obtain ⟨v2, rfl, r2⟩ := All.one al
  obtain ⟨t1, rfl⟩ := r1
  obtain ⟨t2, rfl⟩ := r2
  obtain ⟨t0, rfl⟩ := q.2
  refine ⟨by show 2 ≤ sizeLine; rw [sizeLine_eq]; omega, ?_⟩
  have rc : Reads (s₃.heap.push { cls := .type "tuple", data := .seq #[.str z1 t1, .str z2 t2] }) (.ref s₃.heap.objs.size) (.tuple [.str z1, .str z2]) _ := .tuple (Heap.get?_push_size _ rfl) rfl rfl (.cons (.str z1 t1) (.cons (.str z2 t2) .nil))
  refine in_tuple_dataH rc (.str _ t0) hs hd (by have := R.2.2.1; show c.A.units + 65 < cLine; show c.A.units + 65 < 9900; omega) hm ?_
  rw [hin]
  exact wpAny_truthy_bool ⟨q.1.trans (k₃.trans (.push k₃.ok)), rfl⟩
end
end Mine
end
section
set_option genInjectivity false
set_option genSizeOf false
set_option maxHeartbeats 4000000
open PySem PySem.W PyProof.Rows PySem.Spec PySem.Calls
namespace Mine
variable [Inhabited Bnd]
def wBody : Stmt → List Stmt
  | .While _ b _ _ => b
  | _ => []
def trLoop : Stmt := (dBody (stm 7)).getD 3 (.Pass ⟨0, 0, 0, 0⟩)
abbrev tE (pm cd doc : Value) (L ad : Addr) : Env := dEnv "_translate" (dParams (stm 7)) (dBody (stm 7)) (dScope (stm 7)) pm cd doc L ad
abbrev tC (prog : Program) (w : World) (A : Around) (U : List Addr) (T : prog.given.tree = none) (pm cd doc : Value) (L ad a : Addr) : Cx := (dCx prog w A U T (tE pm cd doc L ad)).own a
def rho (a X : Addr) (P : List Nat) (i : Nat) : List (Str × D) := [("i", int i), ("n", int P.length), ("add", val (.ref X)), ("res", val (.ref a)), ("STAR", non), ("pat", tx P)]
section
variable {B : Md} {prog : Program} {w : World} {A : Around} {U : List Addr} {T : prog.given.tree = none} {pm cd doc : Value} {L ad a X : Addr} {s₀ t s : Shared} {P : List Nat} {i : Nat} {ds : List D}
theorem turn_star (O : Ow (tC prog w A U T pm cd doc L ad a) a s₀ t s (rho a X P i) []) (bd : Bd (tC prog w A U T pm cd doc L ad a) a X t) (hP : P[i]? = some 42) (hz : P.length ≤ 1000) :
    Wp (tC prog w A U T pm cd doc L ad a) (execs (wBody trLoop) (tE pm cd doc L ad)) (fun f s₃ => f = .next ∧ Ow (tC prog w A U T pm cd doc L ad a) a s₀ t s₃ (rho a X P (i + 1)) [non]) s := by
  have hi : i < P.length := (List.getElem?_eq_some_iff.mp hP).1
  refine O.asg (Ev.sub O.cs.fs.loc O.cs.fs.loc (Idx.txI (n := i) rfl hP (by omega))) fun s1 O1 => ?_
  refine O1.asg (Ev.bin O1.cs.fs.loc Ev.cInt Op2.add) fun s2 O2 => ?_
  refine O2.iff (EvT.cmp O2.cs.fs.loc (Ev.cTx (x := [42])) Cmp.eqT) fun s3 O3 => ?_
  rw [if_pos (by decide)]
  refine O3.iff (EvT.or (b := true) (b' := false) (EvT.not (b := false) (O3.tr (by simp))) (fun h => by cases h)) fun s4 O4 => ?_
  refine O4.add bd O4.cs.fs.loc (by simp) fun s5 O5 => ?_
  exact ex_nil (ex_nil (ex_nil ⟨rfl, O5.tell (tell_cons rfl (tell_cons rfl (tell_cons rfl (tell_cons rfl (tell_cons rfl (tell_cons rfl tell_nil))))))⟩))
theorem turn_sign (OB : B.Ok) (I : B.In s₀) (R : Room (A.deeper (tE pm cd doc L ad)) 1) (fe : Fun B "escape" 1 [tx [61]] (tx [61])) (O : Ow (tC prog w A U T pm cd doc L ad a) a s₀ t s (rho a X P i) ds) (bd : Bd (tC prog w A U T pm cd doc L ad a) a X t) (hP : P[i]? = some 61) (hz : P.length ≤ 1000) (hd : ds.length ≤ 1000) :
    Wp (tC prog w A U T pm cd doc L ad a) (execs (wBody trLoop) (tE pm cd doc L ad)) (fun f s₃ => f = .next ∧ Ow (tC prog w A U T pm cd doc L ad a) a s₀ t s₃ (rho a X P (i + 1)) (ds ++ [tx [61]])) s := by
  have hi : i < P.length := (List.getElem?_eq_some_iff.mp hP).1
  refine O.asg (Ev.sub O.cs.fs.loc O.cs.fs.loc (Idx.txI (n := i) rfl hP (by omega))) fun s1 O1 => ?_
  refine O1.asg (Ev.bin O1.cs.fs.loc Ev.cInt Op2.add) fun s2 O2 => ?_
  refine O2.iff (EvT.cmp O2.cs.fs.loc (Ev.cTx (x := [42])) Cmp.eqT) fun s3 O3 => ?_
  rw [if_neg (by decide)]
  refine O3.iff (EvT.cmp O3.cs.fs.loc (Ev.cTx (x := [63])) Cmp.eqT) fun s4 O4 => ?_
  rw [if_neg (by decide)]
  refine O4.iff (EvT.cmp O4.cs.fs.loc (Ev.cTx (x := [91])) Cmp.eqT) fun s5 O5 => ?_
  rw [if_neg (by decide)]
  refine O5.add bd (Ev.call OB (OB.to I O5.cs.base.keep) O5.cs.fs fe R (EvL.cons O5.cs.fs.loc EvL.nil)) (by rw [sizeLine_eq]; omega) fun s6 O6 => ?_
  exact ex_nil (ex_nil (ex_nil (ex_nil ⟨rfl, O6.tell (tell_cons rfl (tell_cons rfl (tell_cons rfl (tell_cons rfl (tell_cons rfl (tell_cons rfl tell_nil))))))⟩)))
end
end Mine
end
section
set_option genInjectivity false
set_option genSizeOf false
set_option maxHeartbeats 4000000
open PySem PySem.W PyProof.Rows PySem.Spec PySem.Calls PySem.SeqAt
namespace Mine
variable [Inhabited Bnd]
def ifBody : Stmt → List Stmt
  | .If _ b _ _ => b
  | _ => []
def ifElse : Stmt → List Stmt
  | .If _ _ b _ => b
  | _ => []
def ps0 : Stmt := .Pass ⟨0, 0, 0, 0⟩
def brBody : List Stmt := ifBody ((ifElse ((ifElse ((wBody trLoop).getD 2 ps0)).getD 0 ps0)).getD 0 ps0)
/-- the else branch of 'if j >= n' -/
def brIn : List Stmt := ifElse (brBody.getD 4 ps0)
/-- what stands between brackets -/
structure Bo (h : Nat) (r : List Nat) : Prop where
  few : (h :: r).length ≤ 100
  no93 : 93 ∉ h :: r
  no45 : 45 ∉ h :: r
  occ : (Builtin.Str.occurrences (S (h :: r)) (S [92]) 0 (S (h :: r)).length ((S (h :: r)).length + 1)).isEmpty = true
  hit : noHit (h :: r) = true
  more : h = 33 → r ≠ []
  first : h ≠ 33 → decide (Spec.countIn (.str (S [h])) [.str "^", .str "["] ≠ 0) = false
  sh : shaped (.str (S [h])) = true
  mix : ∀ y ∈ [PyData.str "^", PyData.str "["], noMix y (.str (S [h])) = true
def brOut (h : Nat) (r : List Nat) : List Nat := 91 :: (if h = 33 then 94 :: r else h :: r) ++ [93]
theorem cut_mid {α : Type} (l : List α) (lo hi : Nat) (h : hi ≤ l.length) : cut l (some (lo : Int)) (some (hi : Int)) = (l.drop lo).take (hi - lo) := by
  unfold cut kms_lo kms_hi
  simp only
  rw [if_neg (by omega), if_neg (by omega), Int.toNat_natCast, Int.toNat_natCast, Nat.min_eq_left h]
  by_cases q : lo ≤ l.length
  · rw [Nat.min_eq_left q]
  · rw [Nat.min_eq_right (by omega), List.drop_of_length_le (Nat.le_refl _), List.drop_of_length_le (show l.length ≤ lo by omega)]; simp
theorem S_app (x y : List Nat) : S x ++ S y = S (x ++ y) := Str.ext' (by rw [Str.cps_append]; simp [S])
theorem fstr_eq (x : List Nat) : Str.empty ++ ("[" : Str) ++ S x ++ ("]" : Str) = S (91 :: x ++ [93]) := by
  show S [] ++ S [91] ++ S x ++ S [93] = _
  rw [S_app, S_app, S_app]; rfl
def rhoJ (a X : Addr) (P : List Nat) (i : Nat) (j : Int) : List (Str × D) := ("j", int j) :: rho a X P i
section
variable {B : Md} {prog : Program} {w : World} {A : Around} {U : List Addr} {T : prog.given.tree = none} {pm cd doc : Value} {L ad a X : Addr} {s₀ t s : Shared} {P : List Nat} {i : Nat} {ds : List D} {h : Nat} {r : List Nat}
theorem br_in (OB : B.Ok) (I : B.In s₀) (R : Room (A.deeper (tE pm cd doc L ad)) 1) (pt : Pt B) (Lm : Lam B cd) (b : Bo h r) (O : Ow (tC prog w A U T pm cd doc L ad a) a s₀ t s (rhoJ a X P i (i + (h :: r).length : Nat)) ds) (bd : Bd (tC prog w A U T pm cd doc L ad a) a X t)
    (hP : (P.drop i).take (h :: r).length = h :: r) (hl : i + (h :: r).length ≤ P.length) (hz : P.length ≤ 1000) (hd : ds.length ≤ 1000) :
    Wp (tC prog w A U T pm cd doc L ad a) (execs brIn (tE pm cd doc L ad)) (fun f s₃ => f = .next ∧ Ow (tC prog w A U T pm cd doc L ad a) a s₀ t s₃ (rho a X P (i + (h :: r).length + 1)) (ds ++ [tx (brOut h r)])) s := by
  have hf := b.few
  refine O.asg (d := tx (h :: r)) (Ev.is ?e1 (Ev.slice O.cs.fs.loc (EvP.yes O.cs.fs.loc) (EvP.yes O.cs.fs.loc) EvP.no (Slc.tx (by rw [sizeLine_eq]; omega)))) fun s1 O1 => ?_
  case e1 => rw [cut_mid P i (i + (h :: r).length) hl, show i + (h :: r).length - i = (h :: r).length by omega, hP]
  refine O1.iff (EvT.cmp (Ev.cTx (x := [45])) O1.cs.fs.loc Cmp.notInS) fun s2 O2 => ?_
  rw [if_pos (by rw [decide_eq_false b.no45]; rfl)]
  refine O2.asg (Ev.meth O2.cs.fs.loc (EvL.cons (Ev.cTx (x := [92])) (EvL.cons (Ev.cTx (x := [92, 92])) EvL.nil)) (Me.replaceNo b.occ)) fun s3 O3 => ex_nil ?_
  refine O3.asg (Ev.subNo OB (OB.to I O3.cs.base.keep) O3.cs.fs pt Lm O3.cs.fs.loc b.hit (List.cons_ne_nil _ _) (by omega)) fun s4 O4 => ?_
  refine O4.asg (Ev.bin O4.cs.fs.loc Ev.cInt Op2.add) fun s5 O5 => ?_
  refine O5.iff (b := false) (EvT.not (b := true) (EvT.val O5.cs.fs.loc (Tr.tx (x := h :: r) (by omega)))) fun s6 O6 => ?_
  refine O6.iff (EvT.cmp O6.cs.fs.loc (Ev.cTx (x := [33])) Cmp.eqT) fun s7 O7 => ?_
  rw [if_neg (by intro q; have := of_decide_eq_true q; rw [List.cons.injEq] at this; exact b.more this.1 this.2)]
  refine O7.iff (EvT.cmp (Ev.sub O7.cs.fs.loc Ev.cInt (Idx.txI (n := 0) (a := h) rfl rfl (by decide))) (Ev.cTx (x := [33])) Cmp.eqT) fun s8 O8 => ?_
  by_cases q : h = 33
  · rw [if_pos (by rw [q]; decide)]
    refine O8.asg (d := tx (94 :: r)) (Ev.is ?e2 (Ev.bin (Ev.cTx (x := [94])) (Ev.slice O8.cs.fs.loc (EvP.yes Ev.cInt) EvP.no EvP.no (Slc.tx (by rw [sizeLine_eq]; omega))) (Op2.addS ?e3))) fun s9 O9 => ex_nil ?_
    case e2 => rw [show (some (1 : Int)) = some ((1 : Nat) : Int) from rfl, cut_from]; rfl
    case e3 => rw [show (some (1 : Int)) = some ((1 : Nat) : Int) from rfl, cut_from, sizeLine_eq]; simp at hf ⊢; omega
    refine O9.add (d := tx (brOut h r)) bd (Ev.is ?e4 (Ev.fstr3 O9.cs.fs.loc (by simp at hf ⊢; omega) rfl rfl)) (by rw [sizeLine_eq]; omega) fun s10 O10 => ?_
    case e4 =>
      unfold brOut
      rw [if_pos q]
      exact congrArg str (fstr_eq (94 :: r))
    exact ex_nil (ex_nil (ex_nil ⟨rfl, O10.tell (tell_cons rfl (tell_cons rfl (tell_cons rfl (tell_cons rfl (tell_cons rfl (tell_cons rfl tell_nil))))))⟩))
  · rw [if_neg (by intro z; have := of_decide_eq_true z; rw [List.cons.injEq] at this; exact q this.1)]
    refine O8.iff (EvT.in2 R (Ev.sub O8.cs.fs.loc Ev.cInt (Idx.txI (n := 0) (a := h) rfl rfl (by decide))) (b.first q) (by decide +kernel) b.sh b.mix) fun s9 O9 => ex_nil (ex_nil ?_)
    refine O9.add (d := tx (brOut h r)) bd (Ev.is ?e5 (Ev.fstr3 O9.cs.fs.loc (by omega) rfl rfl)) (by rw [sizeLine_eq]; omega) fun s10 O10 => ?_
    case e5 =>
      unfold brOut
      rw [if_neg q]
      exact congrArg str (fstr_eq (h :: r))
    exact ex_nil (ex_nil (ex_nil ⟨rfl, O10.tell (tell_cons rfl (tell_cons rfl (tell_cons rfl (tell_cons rfl (tell_cons rfl (tell_cons rfl tell_nil))))))⟩))
end
end Mine
end
section
set_option genInjectivity false
set_option genSizeOf false
set_option maxHeartbeats 4000000
open PySem PySem.W PyProof.Rows PySem.Spec PySem.Calls PySem.SeqAt
namespace Mine
variable [Inhabited Bnd]
section
variable {B : Md} {prog : Program} {w : World} {A : Around} {U : List Addr} {T : prog.given.tree = none} {pm cd doc : Value} {L ad a X : Addr} {s₀ t s : Shared} {P : List Nat} {i : Nat} {ds : List D} {h : Nat} {r : List Nat}
/-- from the second test on -/
theorem br_tail (OB : B.Ok) (I : B.In s₀) (R : Room (A.deeper (tE pm cd doc L ad)) 1) (pt : Pt B) (Lm : Lam B cd) (b : Bo h r) {k0 : Nat} (hk : k0 < (h :: r).length) (O : Ow (tC prog w A U T pm cd doc L ad a) a s₀ t s (rhoJ a X P i (i + k0 : Nat)) ds) (bd : Bd (tC prog w A U T pm cd doc L ad a) a X t)
    (hP : ∀ k, k < (h :: r).length → P[i + k]? = (h :: r)[k]?) (h93 : P[i + (h :: r).length]? = some 93) (hz : P.length ≤ 1000) (hd : ds.length ≤ 1000) :
    Wp (tC prog w A U T pm cd doc L ad a) (execs (brBody.drop 2) (tE pm cd doc L ad)) (fun f s₃ => f = .next ∧ Ow (tC prog w A U T pm cd doc L ad a) a s₀ t s₃ (rho a X P (i + (h :: r).length + 1)) (ds ++ [tx (brOut h r)])) s := by
  have hf := b.few
  have hl : i + (h :: r).length < P.length := (List.getElem?_eq_some_iff.mp h93).1
  have hat : ∀ k, k < (h :: r).length → ∃ c, c ≠ 93 ∧ P[i + k]? = some c := fun k hk => by
    refine ⟨(h :: r)[k], fun e => b.no93 (e ▸ List.getElem_mem hk), ?_⟩
    rw [hP k hk, List.getElem?_eq_getElem hk]
  obtain ⟨c0, hc0, hp0⟩ := hat k0 hk
  refine O.iff (EvT.is (b' := false) ?e1 (EvT.and (b := true) (b' := decide ([c0] = [93])) (EvT.is ?e2 (EvT.cmp O.cs.fs.loc O.cs.fs.loc Cmp.ltI)) fun _ => EvT.cmp (Ev.sub O.cs.fs.loc O.cs.fs.loc (Idx.txI (n := i + k0) rfl hp0 (by omega))) (Ev.cTx (x := [93])) Cmp.eqT)) fun s1 O1 => ex_nil ?_
  case e1 => simpa using hc0
  case e2 => exact decide_eq_true (by omega)
  refine ex_while (J := fun m s => ∃ k, k0 ≤ k ∧ k ≤ (h :: r).length ∧ m = (h :: r).length - k ∧ Ow (tC prog w A U T pm cd doc L ad a) a s₀ t s (rhoJ a X P i (i + k : Nat)) ds)
    (K := fun s => Ow (tC prog w A U T pm cd doc L ad a) a s₀ t s (rhoJ a X P i (i + (h :: r).length : Nat)) ds) (fun m s2 hJ => ?turn) ((h :: r).length - k0) ⟨k0, Nat.le_refl _, Nat.le_of_lt hk, rfl, O1⟩ fun s2 O2 => ?_
  case turn =>
    obtain ⟨k, hk0, hkl, rfl, O2⟩ := hJ
    by_cases q : k < (h :: r).length
    · obtain ⟨c1, hc1, hp1⟩ := hat k q
      refine Wp.mono (EvT.is (b' := true) ?e3 (EvT.and (b := true) (b' := [c1] != [93]) (EvT.is ?e4 (EvT.cmp O2.cs.fs.loc O2.cs.fs.loc Cmp.ltI)) fun _ => EvT.cmp (Ev.sub O2.cs.fs.loc O2.cs.fs.loc (Idx.txI (n := i + k) rfl hp1 (by omega))) (Ev.cTx (x := [93])) Cmp.neS) s2 (.refl O2.cs.ok)) fun b' s3 q3 => ?_
      case e3 => simpa using hc1
      case e4 => exact decide_eq_true (by omega)
      obtain ⟨k3, rfl⟩ := q3
      have O3 := O2.kp k3
      rw [if_pos rfl]
      refine O3.asg (Ev.bin O3.cs.fs.loc Ev.cInt Op2.add) fun s4 O4 => ex_nil ⟨rfl, (h :: r).length - (k + 1), by omega, k + 1, by omega, by omega, rfl, ?_⟩
      exact O4.tell (tell_cons rfl (tell_cons rfl (tell_cons rfl (tell_cons rfl (tell_cons rfl (tell_cons rfl (tell_cons rfl tell_nil)))))))
    · obtain rfl : k = (h :: r).length := by omega
      refine Wp.mono (EvT.is (b' := false) ?e5 (EvT.and (b := true) (b' := [93] != [93]) (EvT.is ?e6 (EvT.cmp O2.cs.fs.loc O2.cs.fs.loc Cmp.ltI)) fun _ => EvT.cmp (Ev.sub O2.cs.fs.loc O2.cs.fs.loc (Idx.txI (n := i + (h :: r).length) rfl h93 (by omega))) (Ev.cTx (x := [93])) Cmp.neS) s2 (.refl O2.cs.ok)) fun b' s3 q3 => ?_
      case e5 => simp
      case e6 => exact decide_eq_true (by omega)
      obtain ⟨k3, rfl⟩ := q3
      rw [if_neg (by decide)]
      exact O2.kp k3
  refine O2.iff (EvT.is (b' := false) ?e7 (EvT.cmp O2.cs.fs.loc O2.cs.fs.loc Cmp.geI)) fun s3 O3 => ?_
  case e7 => exact decide_eq_false (by omega)
  refine (br_in OB I R pt Lm b O3 bd ?_ (Nat.le_of_lt hl) hz hd).mono fun f s4 q => ?_
  · refine List.ext_getElem? fun k => ?_
    rw [List.getElem?_take, List.getElem?_drop]
    by_cases q : k < (h :: r).length
    · rw [if_pos q, hP k q]
    · rw [if_neg q, List.getElem?_eq_none (Nat.le_of_not_lt q)]
  · obtain ⟨rfl, q⟩ := q
    exact ex_nil ⟨rfl, q⟩
theorem turn_br (OB : B.Ok) (I : B.In s₀) (R : Room (A.deeper (tE pm cd doc L ad)) 1) (pt : Pt B) (Lm : Lam B cd) (b : Bo h r) (O : Ow (tC prog w A U T pm cd doc L ad a) a s₀ t s (rho a X P i) ds) (bd : Bd (tC prog w A U T pm cd doc L ad a) a X t)
    (h91 : P[i]? = some 91) (hP : ∀ k, k < (h :: r).length → P[i + 1 + k]? = (h :: r)[k]?) (h93 : P[i + 1 + (h :: r).length]? = some 93) (hz : P.length ≤ 1000) (hd : ds.length ≤ 1000) :
    Wp (tC prog w A U T pm cd doc L ad a) (execs (wBody trLoop) (tE pm cd doc L ad)) (fun f s₃ => f = .next ∧ Ow (tC prog w A U T pm cd doc L ad a) a s₀ t s₃ (rho a X P (i + 1 + (h :: r).length + 1)) (ds ++ [tx (brOut h r)])) s := by
  have hi : i < P.length := (List.getElem?_eq_some_iff.mp h91).1
  have hl : i + 1 + (h :: r).length < P.length := (List.getElem?_eq_some_iff.mp h93).1
  refine O.asg (Ev.sub O.cs.fs.loc O.cs.fs.loc (Idx.txI (n := i) rfl h91 (by omega))) fun s1 O1 => ?_
  refine O1.asg (Ev.bin O1.cs.fs.loc Ev.cInt Op2.add) fun s2 O2 => ?_
  refine O2.iff (EvT.cmp O2.cs.fs.loc (Ev.cTx (x := [42])) Cmp.eqT) fun s3 O3 => ?_
  rw [if_neg (by decide)]
  refine O3.iff (EvT.cmp O3.cs.fs.loc (Ev.cTx (x := [63])) Cmp.eqT) fun s4 O4 => ?_
  rw [if_neg (by decide)]
  refine O4.iff (EvT.cmp O4.cs.fs.loc (Ev.cTx (x := [91])) Cmp.eqT) fun s5 O5 => ?_
  rw [if_pos (by decide)]
  refine O5.asg O5.cs.fs.loc fun s6 O6 => ?_
  have hp0 : P[i + 1]? = some h := hP 0 (by simp)
  refine O6.iff (EvT.is (b' := decide ([h] = [33])) ?e1 (EvT.and (b := true) (b' := decide ([h] = [33])) (EvT.is ?e2 (EvT.cmp O6.cs.fs.loc O6.cs.fs.loc Cmp.ltI)) fun _ => EvT.cmp (Ev.sub O6.cs.fs.loc O6.cs.fs.loc (Idx.txI (n := i + 1) rfl hp0 (by omega))) (Ev.cTx (x := [33])) Cmp.eqT)) fun s7 O7 => ?_
  case e1 => rw [Bool.true_and]
  case e2 => exact decide_eq_true (by omega)
  have fin : ∀ {s8 : Shared} {k0 : Nat}, k0 < (h :: r).length → Ow (tC prog w A U T pm cd doc L ad a) a s₀ t s8 (rhoJ a X P (i + 1) (i + 1 + k0 : Nat)) ds → Wp (tC prog w A U T pm cd doc L ad a) (execs (brBody.drop 2) (tE pm cd doc L ad)) (fun f s₃ => f = .next ∧ Ow (tC prog w A U T pm cd doc L ad a) a s₀ t s₃ (rho a X P (i + 1 + (h :: r).length + 1)) (ds ++ [tx (brOut h r)])) s8 :=
    fun hk O8 => br_tail OB I R pt Lm b hk O8 bd hP h93 hz hd
  by_cases q : h = 33
  · rw [if_pos (by rw [q]; decide)]
    refine O7.asg (Ev.bin O7.cs.fs.loc Ev.cInt Op2.add) fun s8 O8 => ex_nil ?_
    refine (fin (k0 := 1) (by have := b.more q; cases r with | nil => exact absurd rfl this | cons => simp) (O8.tell (tell_cons rfl (tell_cons rfl (tell_cons rfl (tell_cons rfl (tell_cons rfl (tell_cons rfl (tell_cons rfl tell_nil)))))))) ).mono fun f s9 z => ?_
    obtain ⟨rfl, z⟩ := z
    exact ex_nil (ex_nil (ex_nil ⟨rfl, z⟩))
  · rw [if_neg (by intro z; have := of_decide_eq_true z; rw [List.cons.injEq] at this; exact q this.1)]
    refine ex_nil ?_
    refine (fin (k0 := 0) (by simp) (O7.tell (tell_cons rfl (tell_cons rfl (tell_cons rfl (tell_cons rfl (tell_cons rfl (tell_cons rfl (tell_cons rfl tell_nil)))))))) ).mono fun f s9 z => ?_
    obtain ⟨rfl, z⟩ := z
    exact ex_nil (ex_nil (ex_nil ⟨rfl, z⟩))
end
end Mine
end
section
set_option genInjectivity false
set_option genSizeOf false
set_option maxHeartbeats 4000000
open PySem PySem.W PyProof.Rows PySem.Spec PySem.Calls PySem.SeqAt
namespace Mine
variable [Inhabited Bnd]
inductive Tk where
  | sign
  | br (h : Nat) (r : List Nat)
def Tk.text : Tk → List Nat
  | .sign => [61]
  | .br h r => 91 :: ((h :: r) ++ [93])
def Tk.out : Tk → List Nat
  | .sign => [61]
  | .br h r => brOut h r
def Tk.Ok : Tk → Prop
  | .sign => True
  | .br h r => Bo h r
/-- a def whose code bears the table of lambdas -/
def DdL (B : Md) (name : Str) (i : Nat) : Prop :=
  ∃ a pm cd doc o, B.mg name = some (.ref a) ∧ B.g.get? a = some o ∧ o.data = .func (docDef name (dParams (stm i)) (dBody (stm i)) (dScope (stm i)) pm cd doc) ∧ B.g.CodeRec cd name ∧ Lam B cd
def pat (ts : List Tk) : List Nat := 42 :: ts.flatMap Tk.text
def outs (ts : List Tk) : List D := (none :: (ts.map Tk.out).map some).map opt
theorem outs_snoc (ts : List Tk) (t : Tk) : outs (ts ++ [t]) = outs ts ++ [tx t.out] := by
  unfold outs; simp [opt]
theorem pat_app (ts us : List Tk) : pat (ts ++ us) = pat ts ++ us.flatMap Tk.text := by
  unfold pat; simp
theorem get_app {pre x : List Nat} (k : Nat) : (pre ++ x)[pre.length + k]? = x[k]? := by
  rw [List.getElem?_append_right (by omega)]; congr 1; omega
theorem law_translate {B : Md} (O : B.Ok) (N : Nm B) (Df : DdL B "_translate" 7) (fe : Fun B "escape" 1 [tx [61]] (tx [61])) (pt : Pt B) {ts : List Tk} (hts : ∀ t ∈ ts, t.Ok) (hz : (pat ts).length ≤ 500) {q : List Nat} :
    Fun B "_translate" 2 [tx (pat ts), non, tx q] (ls (outs ts)) := by
  obtain ⟨a0, pm, cd, doc, o, hm, ho, hd, hc, Lm⟩ := Df
  have fa : FnAt a0 B.g := by
    obtain ⟨c1, d1, dt, sl⟩ := o
    cases (show dt = _ from hd)
    exact ⟨_, _, _, _, ho⟩
  refine ⟨a0, hm, fa, fun U prog w A s vs T R I ok al => ?_⟩
  cases al with
  | @cons v1 _ _ _ r1 al =>
  cases al with
  | @cons v2 _ _ _ r2 al =>
  obtain ⟨v3, rfl, r3⟩ := All.one al
  have hbind : BindsTo s (docDef "_translate" (dParams (stm 7)) (dBody (stm 7)) (dScope (stm 7)) pm cd doc) ⟨[v1, v2, v3], []⟩ [("pat", v1), ("STAR", v2), ("QUESTION_MARK", v3)] := BindsTo.of_eq rfl
  refine call_def (T := T) R ok (I.obj ho (by rw [hd]; nofun)) hd (I.lim O.lim) (I.code hc) rfl hbind (ds := [tx (pat ts), non, tx q]) (.cons r1 (.cons r2 (.cons r3 .nil))) rfl rfl rfl (fun n x hx => ?_) rfl rfl rfl (fun n x d e h => ?_) fun L s₁ F => ?_
  · rcases List.mem_cons.mp hx with rfl | hx
    · exact .inl rfl
    · rcases List.mem_cons.mp hx with rfl | hx
      · exact .inl rfl
      · cases List.mem_singleton.mp hx; exact .inl rfl
  · have k1 : ∀ y : Str, (dScope (stm 7)).names.lookup y = some NameKind.cell → y ≠ "QUESTION_MARK" ∧ y ≠ "STAR" ∧ y ≠ "pat" := fun y h => ⟨(fun w => by subst w; cases h), (fun w => by subst w; cases h), (fun w => by subst w; cases h)⟩
    change List.lookup x [(("QUESTION_MARK" : Str), tx q), (("STAR" : Str), non), (("pat" : Str), tx (pat ts))] = some d at e
    rw [lookup_cons_ne (k1 x h).1, lookup_cons_ne (k1 x h).2.1, lookup_cons_ne (k1 x h).2.2] at e; cases e
  · have R1 := R.deeper (env := tE pm cd doc L a0)
    refine F.own EvNew.nil fun a s2 O2 => ?_
    refine O2.bind fun X s3 bd O3 => ?_
    refine O3.two R1.1 (EvL.cons Ev.cInt (EvL.cons (Ev.callB O (O.to I O3.cs.base.keep) O3.cs.fs N.len.1 N.len.2 rfl (EvL.cons O3.cs.fs.loc EvL.nil) (Bi.lenS (by omega))) EvL.nil)) fun s4 O4 => ?_
    have O5 : Ow (tC prog w A U T pm cd doc L a0 a) a s s3 s4 (rho a X (pat ts) 0) [] := O4.tell (tell_cons rfl (tell_cons rfl (tell_cons rfl (tell_cons rfl (tell_cons rfl (tell_cons rfl tell_nil))))))
    refine Wp.mono (Q := fun f s' => Gives U (ls (outs ts)) s (retOf f) s') ?_ fun _ _ z => z
    refine ex_while (c := tC prog w A U T pm cd doc L a0 a) (J := fun m s' => (m = ts.length + 1 ∧ Ow (tC prog w A U T pm cd doc L a0 a) a s s3 s' (rho a X (pat ts) 0) []) ∨ ∃ done todo, ts = done ++ todo ∧ m = todo.length ∧ Ow (tC prog w A U T pm cd doc L a0 a) a s s3 s' (rho a X (pat ts) (pat done).length) (outs done))
      (K := fun s' => Ow (tC prog w A U T pm cd doc L a0 a) a s s3 s' (rho a X (pat ts) (pat ts).length) (outs ts)) (fun m s5 hJ => ?turn) (ts.length + 1) (.inl ⟨rfl, O5⟩) fun s5 O6 => ?_
    case turn =>
      rcases hJ with ⟨rfl, O6⟩ | ⟨done, todo, e, rfl, O6⟩
      · refine Wp.mono (EvT.is (b' := true) ?e1 (EvT.cmp O6.cs.fs.loc O6.cs.fs.loc Cmp.ltI) s5 (.refl O6.cs.ok)) fun b' s6 q6 => ?_
        case e1 => exact decide_eq_true (by show ((0 : Nat) : Int) < _; rw [pat, List.length_cons]; omega)
        obtain ⟨k6, rfl⟩ := q6
        rw [if_pos rfl]
        refine (turn_star (O6.kp k6) bd rfl (by omega)).mono fun f s7 z => ⟨z.1, ts.length, by omega, .inr ⟨[], ts, rfl, rfl, z.2⟩⟩
      · cases todo with
        | nil =>
          rw [List.append_nil] at e
          subst e
          refine Wp.mono (EvT.is (b' := false) ?e2 (EvT.cmp O6.cs.fs.loc O6.cs.fs.loc Cmp.ltI) s5 (.refl O6.cs.ok)) fun b' s6 q6 => ?_
          case e2 => exact decide_eq_false (by omega)
          obtain ⟨k6, rfl⟩ := q6
          rw [if_neg (by decide)]
          exact O6.kp k6
        | cons t todo =>
          have hpt : pat ts = pat done ++ (t.text ++ todo.flatMap Tk.text) := by rw [e, pat_app]; rfl
          have hlen : (pat ts).length = (pat done).length + (t.text.length + (todo.flatMap Tk.text).length) := by rw [hpt]; simp
          have hne : 1 ≤ t.text.length := by cases t <;> simp [Tk.text]
          have hdl : (outs done).length ≤ 1000 := by
            have h1 : ∀ l : List Tk, l.length ≤ (l.flatMap Tk.text).length := fun l => by
              induction l with
              | nil => simp
              | cons x l ih => rw [List.flatMap_cons, List.length_append, List.length_cons]; have : 1 ≤ x.text.length := by cases x <;> simp [Tk.text]
                               omega
            have := h1 done
            have h2 : (pat done).length = (done.flatMap Tk.text).length + 1 := rfl
            simp [outs]; omega
          have hat : ∀ k, k < t.text.length → (pat ts)[(pat done).length + k]? = t.text[k]? := fun k hk => by
            rw [hpt, get_app, List.getElem?_append_left hk]
          have htk : t.Ok := hts t (by rw [e]; simp)
          refine Wp.mono (EvT.is (b' := true) ?e3 (EvT.cmp O6.cs.fs.loc O6.cs.fs.loc Cmp.ltI) s5 (.refl O6.cs.ok)) fun b' s6 q6 => ?_
          case e3 => exact decide_eq_true (by omega)
          obtain ⟨k6, rfl⟩ := q6
          rw [if_pos rfl]
          have fin : ∀ (s7 : Shared), Ow (tC prog w A U T pm cd doc L a0 a) a s s3 s7 (rho a X (pat ts) ((pat done).length + t.text.length)) (outs done ++ [tx t.out]) → ∃ m, m < (t :: todo).length ∧ ((m = ts.length + 1 ∧ Ow (tC prog w A U T pm cd doc L a0 a) a s s3 s7 (rho a X (pat ts) 0) []) ∨ ∃ done todo, ts = done ++ todo ∧ m = todo.length ∧ Ow (tC prog w A U T pm cd doc L a0 a) a s s3 s7 (rho a X (pat ts) (pat done).length) (outs done)) := fun s7 O7 =>
            ⟨todo.length, by simp, .inr ⟨done ++ [t], todo, by rw [e]; simp, rfl, by
              rw [outs_snoc, pat_app, List.length_append, List.flatMap_cons, List.flatMap_nil, List.append_nil]; exact O7⟩⟩
          cases t with
          | sign => exact (turn_sign O I R1 fe (O6.kp k6) bd (hat 0 (by simp [Tk.text])) (by omega) hdl).mono fun f s7 z => ⟨z.1, fin s7 z.2⟩
          | br h r =>
            have l1 : (Tk.br h r).text.length = 1 + (h :: r).length + 1 := by simp [Tk.text]; omega
            refine (turn_br O I R1 pt Lm htk (O6.kp k6) bd (hat 0 (by omega)) (fun k hk => ?_) ?_ (by omega) hdl).mono fun f s7 z => ⟨z.1, fin s7 ?_⟩
            · have := hat (1 + k) (by omega)
              rw [show (pat done).length + 1 + k = (pat done).length + (1 + k) by omega, this]
              show (91 :: ((h :: r) ++ [93]))[1 + k]? = _
              rw [Nat.add_comm 1 k, List.getElem?_cons_succ, List.getElem?_append_left hk]
            · have := hat (1 + (h :: r).length) (by omega)
              rw [show (pat done).length + 1 + (h :: r).length = (pat done).length + (1 + (h :: r).length) by omega, this]
              show (91 :: ((h :: r) ++ [93]))[1 + (h :: r).length]? = _
              rw [Nat.add_comm 1 _, List.getElem?_cons_succ, List.getElem?_append_right (Nat.le_refl _)]; simp
            · rw [l1, show (pat done).length + (1 + (h :: r).length + 1) = (pat done).length + 1 + (h :: r).length + 1 by omega]
              exact z.2
    refine ex_cons (wpAny_Assert_holds ((EvT.is (b' := true) ?e4 (EvT.cmp O6.cs.fs.loc O6.cs.fs.loc Cmp.eqI) s5 (.refl O6.cs.ok)).mono fun b' s6 q6 => ?_))
    case e4 => simp
    obtain ⟨k6, rfl⟩ := q6
    refine ⟨rfl, ?_⟩
    have F6 := (O6.kp k6).release (x := "res") F.kp.ok0
    exact Wp.un (a := a) (F6.ret F6.fs.loc fun v s' g => g)
end Mine
end
section
set_option genInjectivity false
set_option genSizeOf false
set_option maxHeartbeats 2000000
open PySem PySem.W PyProof.Rows PySem.Spec PySem.Calls PySem.SeqAt
namespace Mine
variable [Inhabited Bnd]
section
variable {c : Cx} {s₀ s s' : Shared} {ρ : List (Str × D)} {d d1 d2 : D} {x y : Str} {e e1 e2 l r : Expr} {rest : List Stmt} {pos p px py vp : Pos} {k k' : Nat} {Q : Flow → Shared → Prop} {b b' : Bool}
/-- a local name and a cell from a display of two -/
theorem Fm.twoLC (F : Fm c s₀ s ρ) (hh : c.A.handled = none) (v : EvL c s [e1, e2] [d1, d2]) (h : ∀ s', Fm c s₀ s' ((y, d2) :: (x, d1) :: ρ) → Wp c (execs rest c.env) Q s') (l : c.env.kindOf x = some .local := by rfl) (l' : c.env.kindOf y = some .cell := by rfl) (lc : (c.env.cells.lookup y).isSome = true := by rfl)
    (hs : swapsWithSole [.Tuple [.Name x px, .Name y py] k p] (.Tuple [e1, e2] k' vp) pos.line c.env = pure false := by rfl) (hw : swappedStores [.Tuple [.Name x px, .Name y py] k p] (.Tuple [e1, e2] k' vp) c.env = pure none := by rfl) :
    Wp c (execs (.Assign [.Tuple [.Name x px, .Name y py] k p] (.Tuple [e1, e2] k' vp) pos :: rest) c.env) Q s := by
  refine ex_cons (Assign_Tuple (wpAny_Tuple ((v vp s (.refl F.kp.ok)).mono fun vs s₂ q => ?_)) hs hw)
  obtain ⟨k₂, al⟩ := q
  cases al with
  | @cons u _ _ _ r1 al =>
  obtain ⟨w, rfl, r2⟩ := All.one al
  refine ⟨by show 2 ≤ sizeLine; rw [sizeLine_eq]; omega, ?_⟩
  have k₃ : Kp c.U s₂ { s₂ with heap := s₂.heap.push { cls := .type "tuple", data := .seq #[u, w] } } := .push (n := s₂.toks) k₂.ok
  refine wpAny_assign_Tuple (t := s₂.heap.objs.size) (items := #[u, w]) hh ⟨_, Heap.get?_push_size _ rfl, rfl, _, rfl⟩ (by rfl) (by rfl) fun h' e => ?_
  have k₄ : Kp c.U { s₂ with heap := s₂.heap.push { cls := .type "tuple", data := .seq #[u, w] } } { s₂ with heap := h' } := .of (n := s₂.toks) k₃.ok fun b o q => e b o (Nat.ne_of_lt (Heap.lt_size q)) q
  have kk := k₃.trans k₄
  have F₄ := F.at (k₂.trans kk)
  refine wpAny_assignInOrder_more (wpAny_assign_Name (F₄.fs.stL kk.ok l (d1.at kk r1) fun s₅ f₅ q₅ => ?_))
  have F₅ := F₄.stored f₅ q₅ F.nl
  refine wpAny_assignInOrder_more (wpAny_assign_Name (F₅.fs.stC F₅.kp.ok l' lc (d2.mono q₅.seq (d2.at kk r2)) fun a s₆ ea f₆ q₆ => ?_))
  exact wpAny_pure (h s₆ (F₅.stored f₆ q₆ (F.nc y a ea)))
/-- two local names from a list of two -/
theorem Fm.twoL (F : Fm c s₀ s ρ) (hh : c.A.handled = none) (v : Ev c s e (ls [d1, d2])) (h : ∀ s', Fm c s₀ s' ((y, d2) :: (x, d1) :: ρ) → Wp c (execs rest c.env) Q s') (l : c.env.kindOf x = some .local := by rfl) (l' : c.env.kindOf y = some .local := by rfl)
    (hs : swapsWithSole [.Tuple [.Name x px, .Name y py] k p] e pos.line c.env = pure false := by rfl) (hw : swappedStores [.Tuple [.Name x px, .Name y py] k p] e c.env = pure none := by rfl) :
    Wp c (execs (.Assign [.Tuple [.Name x px, .Name y py] k p] e pos :: rest) c.env) Q s := by
  refine ex_cons (Assign_Tuple ((v s (.refl F.kp.ok)).mono fun u s₂ q => ?_) hs hw)
  obtain ⟨k₂, rr⟩ := q
  obtain ⟨a, vs, rfl, pl, _, al, hz⟩ := ls_at rr
  rw [arm_assign_Tuple]
  refine wpAny_bind (wpAny_standAt ?_)
  unfold unpack
  rw [show (assignEach [Expr.Name x px, Expr.Name y py] c.env).length = vs.size from hz.symm, show (assignEach [Expr.Name x px, Expr.Name y py] c.env).findIdx? (·.1) = none from rfl]
  refine wpAny_bind (wpAny_holding (kun_itemsOf hh pl.isList fun h' e => ?_))
  have kk : Kp c.U s₂ { s₂ with heap := h' } := .of (n := s₂.toks) k₂.ok fun b o q => e b o (Nat.ne_of_lt (Heap.lt_size q)) q
  generalize vs.toList = ws at al
  cases al with
  | @cons u _ _ _ r1 al =>
  obtain ⟨w, rfl, r2⟩ := All.one al
  have F₄ := F.at (k₂.trans kk)
  refine wpAny_assignInOrder_more (wpAny_assign_Name (F₄.fs.stL kk.ok l (d1.at kk r1) fun s₅ f₅ q₅ => ?_))
  have F₅ := F₄.stored f₅ q₅ F.nl
  refine wpAny_assignInOrder_more (wpAny_assign_Name (F₅.fs.stL F₅.kp.ok l' (d2.mono q₅.seq (d2.at kk r2)) fun s₆ f₆ q₆ => ?_))
  exact wpAny_pure (h s₆ (F₅.stored f₆ q₆ F.nl))
end
end Mine
end
section
set_option genInjectivity false
set_option genSizeOf false
set_option maxHeartbeats 4000000
open PySem PySem.W PyProof.Rows PySem.Spec PySem.Calls PySem.SeqAt
namespace Mine
variable [Inhabited Bnd]
/-! what the law reckons -/
def five : List Int := [239, 190, 251, 255, 1]
def rowsOf (ns : List Int) : List (List UInt8) := (List.range 6).map (fun k => (byteArr (five.take k)).toList) ++ (ns.take 4).map (fun x => (byteArr (oct x)).toList)
def ends (x : List Nat) : Bool := decide (cut x (some (-1)) none = [61])
def plainOf (R : List (List UInt8)) : List (List Nat) := R.map Mine.text
def textsOf (R : List (List UInt8)) : List (List Nat) := plainOf R ++ ((plainOf R).filter ends).map spoilt
def tks : List (List Tk) := [[.br 65 [81, 103, 119], .sign, .sign], [.br 65 [69, 73, 77, 81, 85, 89, 99, 103, 107, 111, 115, 119, 48, 52, 56], .sign], [.br 33 [61]], []]
def placeOf (ns : List Int) (R : List (List UInt8)) : Nat := ((2 + (ns.take 4).sum).fmod R.length).toNat
def restOf (p : Nat) (T : List (List Nat)) : List (List Nat) := (T.take p ++ T.drop (p + 1)).reverse
def sel (ts : List Tk) (row : List (List Nat)) : List (List (List Nat)) := (row.filter (takes (ts.map Tk.out))).map fun t => [t]
def fits (R : List (List UInt8)) (z : Int) (k : Nat) : Bool := (((R.getD k []).length : Int).fmod 3 == z) && (((plainOf R).getD k []) != [])
def sizeOf (R : List (List UInt8)) (z : Int) : List (List Nat) := ((List.range R.length).filter (fits R z)).map fun k => (plainOf R).getD k []
def dueOf (R : List (List UInt8)) : List (List (List (List Nat))) := (([1, 2, 0].map (sizeOf R)) ++ [textsOf R]).map fun row => row.map fun t => [t]
def toldOf (T : List (List Nat)) : List (List (List (List Nat))) := tks.map fun ts => sel ts T
def lacks {α : Type} [DecidableEq α] (l : List α) (x : α) : Bool := !decide (x ∈ l)
def cnt {α : Type} [DecidableEq α] (l : List α) (x : α) : Nat := l.count x
def sameOf (R : List (List UInt8)) (p : Nat) : List Bool := (dueOf R).map fun one => lacks one [(plainOf R).getD p []] || decide (1 < (cnt one [(plainOf R).getD p []] : Int))
def bothOf (a b : List (List (List (List Nat)))) : List (List Bool) := (a.zip b).map fun q => [cmpo q.1 (q.2 ++ q.2), cmpo (q.2 ++ q.2) q.1]
def ansOf (ns : List Int) : Bool :=
  let R := rowsOf ns
  let p := placeOf ns R
  decide (toldOf (textsOf R) = dueOf R) && decide (bothOf (toldOf (textsOf R)) (toldOf (restOf p (textsOf R))) = (sameOf R p).map fun o => [o, o])
/-- what is asked of the rows -/
structure Rw (R : List (List UInt8)) : Prop where
  six : ∀ b ∈ R, Six b
  bs : ∀ b ∈ R, Bs b
  same : ∀ b ∈ R, b64w b = (Mine.text b).map Nat.toUInt8
  low : ∀ b ∈ R, ∀ c ∈ Mine.text b, c < 128
  few : ∀ b ∈ R, (Mine.text b).length ≤ 100
  sp : ∀ b ∈ R, ends (Mine.text b) = true → Sp (Mine.text b)
  sfew : ∀ b ∈ R, ends (Mine.text b) = true → (spoilt (Mine.text b)).length ≤ 100
  slow : ∀ b ∈ R, ends (Mine.text b) = true → ∀ c ∈ spoilt (Mine.text b), c < 128
  len : R.length ≤ 10
  one : 6 ≤ R.length
/-- the defs that the law calls -/
structure Fs (B : Md) : Prop where
  octets : ∀ x, Fun B "_law_octets" 3 [int x] (byt (byteArr (oct x)))
  enc : ∀ bs, Bs bs → Fun B "b64encode" 3 [byt bs.toArray, byt [45, 95].toArray] (byt (b64w bs).toArray)
  text : ∀ b, Six b → Fun B "_law_text" 3 [byt b.toArray] (tx (Mine.text b))
  spoilt : ∀ x, Sp x → Fun B "_law_spoilt" 3 [tx x] (tx (Mine.spoilt x))
  takes : ∀ (ps : List (List Nat)) (x : List Nat), x.length ≤ 1000 → ps.length ≤ 1000 → (∀ p ∈ ps, p.length ≤ 1000) → (∀ c ∈ x, c < 128) → Fun B "_law_takes" 3 [ls ((none :: ps.map some).map opt), tx x] (boo (Mine.takes ps x))
  trans : ∀ (ts : List Tk), (∀ t ∈ ts, t.Ok) → (pat ts).length ≤ 500 → ∀ q, Fun B "_translate" 2 [tx (pat ts), non, tx q] (ls (outs ts))
  cmp : ∀ (xs ys : List (List (List Nat))), xs.length ≤ 1000 → ys.length ≤ 1000 → FunF B "_compare_args_orderless" 2 [ls (xs.map fun t => ls (t.map tx)), ls (ys.map fun t => ls (t.map tx))] (boo (cmpo xs ys))
abbrev lE (pm cd doc : Value) (L ad : Addr) : Env := dEnv "law" (dParams (stm 25)) (dBody (stm 25)) (dScope (stm 25)) pm cd doc L ad
abbrev lC (prog : Program) (w : World) (A : Around) (U : List Addr) (T : prog.given.tree = none) (pm cd doc : Value) (L ad : Addr) : Cx := dCx prog w A U T (lE pm cd doc L ad)
abbrev gB (b : List UInt8) : D := byt b.toArray
theorem gB_arr (a : Array UInt8) : gB a.toList = byt a := by show byt a.toList.toArray = _; rw [Array.toArray_toList]
section
variable {B : Md} {prog : Program} {w : World} {A : Around} {U : List Addr} {T : prog.given.tree = none} {pm cd doc : Value} {L ad : Addr} {s₀ s : Shared} {ns : List Int}
theorem law1 (O : B.Ok) (N : Nm B) (fs : Fs B) (I : B.In s₀) (R : Room (A.deeper (lE pm cd doc L ad)) 3) (F : Fm (lC prog w A U T pm cd doc L ad) s₀ s [("script", lsI ns)]) (hn : ns.length ≤ 63) {Q : Flow → Shared → Prop}
    (h : ∀ s', Fm (lC prog w A U T pm cd doc L ad) s₀ s' [("rows", ls ((rowsOf ns).map gB)), ("script", lsI ns)] → Wp (lC prog w A U T pm cd doc L ad) (execs ((dBody (stm 25)).drop 1) (lE pm cd doc L ad)) Q s') :
    Wp (lC prog w A U T pm cd doc L ad) (execs (dBody (stm 25)) (lE pm cd doc L ad)) Q s := by
  have I' := O.at I F.kp
  refine F.asgC (d := ls ((rowsOf ns).map gB)) (Ev.is ?e1 (Ev.bin
    (CompEv.ev (CompEv.map (xs := List.range 6) (P := Plain fun k => int (k : Nat)) (bnd := fun k => [("k", int (k : Nat))]) (ρ' := []) (f := fun k => gB (byteArr (five.take k)).toList) F.fs Clos.nil trivial
      (EvIt.rangeL R.1 O N I' F.fs Ev.cInt (by decide)) AsgX.loc (fun k hk C acc s H => ?el1) (by decide) (apart rfl)))
    (CompEv.ev (CompEv.map (xs := ns.take 4) (P := Plain int) (bnd := fun x => [("x", int x)]) (ρ' := []) (f := fun x => gB (byteArr (oct x)).toList) F.fs Clos.nil trivial
      (EvIt.list R.1 (Ev.is ?e2 (Ev.slice F.fs.loc EvP.no (EvP.yes Ev.cInt) EvP.no (Slc.list ?h1)))) AsgX.loc (fun x hx C acc s H => ?el2) ?h2 (apart rfl))) (Op2.addL ?h3))) fun s1 F1 => h s1 F1
  case e1 => simp [rowsOf, Function.comp_def]
  case e2 => rw [show (some (4 : Int)) = some ((4 : Nat) : Int) from rfl, cut_to, List.map_take]
  case h1 => rw [List.length_map, sizeLine_eq]; omega
  case h2 => rw [List.length_take, sizeLine_eq]; omega
  case h3 => simp [sizeLine_eq]; omega
  case el1 =>
    have I2 := H.in_ O I'
    refine Ev.is ?e3 (Ev.callB O I2 H.fs N.bytes.1 N.bytes.2 rfl (EvL.cons (Ev.slice (Ev.list (ds := five.map int) (EvL.cons Ev.cInt (EvL.cons Ev.cInt (EvL.cons Ev.cInt (EvL.cons Ev.cInt (EvL.cons Ev.cInt EvL.nil)))))) EvP.no (EvP.yes H.fs.loc) EvP.no (Slc.list (by decide))) EvL.nil) (Bi.bytes' (ns := five.take k) ?h4 R.1 ?h5 ?h6))
    case e3 => exact (gB_arr _).symm
    case h4 => rw [cut_to, List.map_take]
    case h5 =>
      intro n m
      have : ∀ n ∈ five, 0 ≤ n ∧ n < 256 := by decide
      exact this n (List.mem_of_mem_take m)
    case h6 => rw [List.length_take, sizeLine_eq]; exact Nat.le_trans (Nat.min_le_right ..) (by decide)
  case el2 =>
    exact Ev.is (gB_arr _).symm (Ev.call O (H.in_ O I') H.fs (fs.octets x) R (EvL.cons H.fs.loc EvL.nil))
end
end Mine
end
section
set_option genInjectivity false
set_option genSizeOf false
set_option maxHeartbeats 4000000
open PySem PySem.W PyProof.Rows PySem.Spec PySem.Calls PySem.SeqAt
namespace Mine
variable [Inhabited Bnd]
section
variable {B : Md} {prog : Program} {w : World} {A : Around} {U : List Addr} {T : prog.given.tree = none} {pm cd doc : Value} {L ad : Addr} {s₀ s : Shared} {ns : List Int}
theorem u8_nat {c : Nat} (h : c < 128) : (Nat.toUInt8 c).toNat = c := by
  show (UInt8.ofNat c).toNat = c
  rw [UInt8.toNat_ofNat']
  omega
abbrev gT (row : List (List Nat)) : D := ls (row.map tx)
theorem law2 (O : B.Ok) (_N : Nm B) (fs : Fs B) (rw_ : Rw (rowsOf ns)) (I : B.In s₀) (R : Room (A.deeper (lE pm cd doc L ad)) 3) (F : Fm (lC prog w A U T pm cd doc L ad) s₀ s [("rows", ls ((rowsOf ns).map gB)), ("script", lsI ns)]) {Q : Flow → Shared → Prop}
    (h : ∀ s', Fm (lC prog w A U T pm cd doc L ad) s₀ s' [("texts", gT (textsOf (rowsOf ns))), ("plain", gT (plainOf (rowsOf ns))), ("written", ls ((rowsOf ns).map fun b => gB (b64w b))), ("rows", ls ((rowsOf ns).map gB)), ("script", lsI ns)] → Wp (lC prog w A U T pm cd doc L ad) (execs ((dBody (stm 25)).drop 4) (lE pm cd doc L ad)) Q s') :
    Wp (lC prog w A U T pm cd doc L ad) (execs ((dBody (stm 25)).drop 1) (lE pm cd doc L ad)) Q s := by
  have I' := O.at I F.kp
  have hR := rw_.len
  have hz : (rowsOf ns).length ≤ sizeLine := by rw [sizeLine_eq]; omega
  have hP : (plainOf (rowsOf ns)).length = (rowsOf ns).length := by rw [plainOf, List.length_map]
  have hmem : ∀ x ∈ plainOf (rowsOf ns), ∃ b ∈ rowsOf ns, Mine.text b = x := fun x m => by
    obtain ⟨b, mb, rfl⟩ := List.mem_map.mp m; exact ⟨b, mb, rfl⟩
  refine F.twoLC R.1 (d1 := ls ((rowsOf ns).map fun b => gB (b64w b))) (d2 := gT (plainOf (rowsOf ns))) (EvL.cons
    (CompEv.ev (CompEv.map (xs := rowsOf ns) (P := Plain gB) (bnd := fun b => [("row", gB b)]) (ρ' := []) (f := fun b => gB (b64w b)) F.fs Clos.nil trivial (EvIt.list R.1 F.fs.cell) AsgX.loc (fun b hb C acc s H => ?el1) hz (apart rfl))) (EvL.cons
    (Ev.is ?e1 (CompEv.ev (CompEv.map (xs := rowsOf ns) (P := Plain gB) (bnd := fun b => [("row", gB b)]) (ρ' := []) (f := fun b => tx (Mine.text b)) F.fs Clos.nil trivial (EvIt.list R.1 F.fs.cell) AsgX.loc (fun b hb C acc s H => ?el2) hz (apart rfl)))) EvL.nil)) fun s1 F1 => ?_
  case e1 => show _ = ls (((rowsOf ns).map Mine.text).map tx); rw [List.map_map]; rfl
  case el1 => exact Ev.call O (H.in_ O I') H.fs (fs.enc b (rw_.bs b hb)) R (EvL.cons H.fs.loc (EvL.cons Ev.cBytes EvL.nil))
  case el2 => exact Ev.call O (H.in_ O I') H.fs (fs.text b (rw_.six b hb)) R (EvL.cons H.fs.loc EvL.nil)
  have I1 := O.at I F1.kp
  refine F1.iff (b := false) (EvT.is ?e2 (EvT.cmp (Ev.is ?e3 F1.fs.loc) (Ev.is ?e4 (CompEv.ev (CompEv.map (xs := plainOf (rowsOf ns)) (P := Plain tx) (bnd := fun x => [("text", tx x)]) (ρ' := []) (f := fun x => gB (x.map Nat.toUInt8)) F1.fs Clos.nil trivial (EvIt.list R.1 F1.fs.cell) AsgX.loc (fun x hx C acc s H => ?el3) ?h1 (apart rfl))))
    (Cmp.neL (g := gB) (xs := (rowsOf ns).map b64w) (ys := (rowsOf ns).map fun b => (Mine.text b).map Nat.toUInt8) Dat.byt R))) fun s2 F2 => ex_nil ?_
  case e2 =>
    have : (rowsOf ns).map b64w = (rowsOf ns).map fun b => (Mine.text b).map Nat.toUInt8 := List.map_congr_left rw_.same
    rw [decide_eq_true this]; rfl
  case e3 => rw [List.map_map]; rfl
  case e4 => simp [plainOf, Function.comp_def]
  case el3 =>
    obtain ⟨b, hb, rfl⟩ := hmem x hx
    exact Ev.meth H.fs.loc (EvL.cons (Ev.cTx (x := asc)) EvL.nil) (Me.encode (rw_.low b hb) (by have := rw_.few b hb; rw [sizeLine_eq]; omega))
  case h1 => rw [hP]; exact hz
  have I2 := O.at I F2.kp
  refine F2.asg (d := gT (textsOf (rowsOf ns))) (Ev.is ?e5 (Ev.bin
    (CompEv.ev (CompEv.map (xs := rowsOf ns) (P := Plain fun b => gB (b64w b)) (bnd := fun b => [("text", gB (b64w b))]) (ρ' := []) (f := fun b => tx (Mine.text b)) F2.fs Clos.nil trivial (EvIt.list R.1 F2.fs.loc) AsgX.loc (fun b hb C acc s H => ?el4) hz (apart rfl)))
    (CompEv.ev (CompEv.filter (xs := plainOf (rowsOf ns)) (P := Plain tx) (bnd := fun x => [("text", tx x)]) (ρ' := []) (f := fun x => tx (spoilt x)) (t := ends) F2.fs Clos.nil trivial (EvIt.list R.1 F2.fs.cell) AsgX.loc (fun x hx C acc s H => ?te5) (fun x hx ht C acc s H => ?el5) ?h2 (apart rfl)))
    (Op2.addL ?h3))) fun s3 F3 => h s3 F3
  case e5 => show _ = ls ((plainOf (rowsOf ns) ++ _).map tx); rw [List.map_append, List.map_map, plainOf, List.map_map]; rfl
  case el4 =>
    have e : b64w b = (Mine.text b).map Nat.toUInt8 := rw_.same b hb
    have lo : ∀ c ∈ b64w b, c.toNat < 128 := fun c m => by
      rw [e] at m
      obtain ⟨n, m', rfl⟩ := List.mem_map.mp m
      have := rw_.low b hb n m'
      rw [u8_nat this]; exact this
    have e2 : (b64w b).map (·.toNat) = Mine.text b := by
      rw [e, List.map_map]
      have : ∀ l : List Nat, (∀ c ∈ l, c < 128) → l.map ((fun c : UInt8 => c.toNat) ∘ Nat.toUInt8) = l := fun l => by
        induction l with
        | nil => intro _; rfl
        | cons x l ih =>
          intro h
          rw [List.map_cons, ih fun c m => h c (.tail _ m)]
          exact congrArg (· :: l) (u8_nat (h x (.head _)))
      exact this _ (rw_.low b hb)
    refine Ev.is (congrArg tx e2) (Ev.meth H.fs.loc (EvL.cons (Ev.cTx (x := asc)) EvL.nil) (Me.decode lo ?_))
    have := rw_.few b hb
    rw [e, List.length_map, sizeLine_eq]; omega
  case te5 =>
    obtain ⟨b, hb, rfl⟩ := hmem x hx
    exact EvT.cmp (Ev.slice H.fs.loc (EvP.yes (Ev.neg Ev.cInt)) EvP.no EvP.no (Slc.tx (by have := rw_.few b hb; rw [sizeLine_eq]; omega))) (Ev.cTx (x := [61])) Cmp.eqT
  case el5 =>
    obtain ⟨b, hb, rfl⟩ := hmem x hx
    exact Ev.call O (H.in_ O I2) H.fs (fs.spoilt _ (rw_.sp b hb ht)) R (EvL.cons H.fs.loc EvL.nil)
  case h2 => rw [hP]; exact hz
  case h3 =>
    rw [List.length_map, List.length_map, sizeLine_eq]
    have := List.length_filter_le ends (plainOf (rowsOf ns))
    omega
end
end Mine
end
section
set_option genInjectivity false
set_option genSizeOf false
set_option maxHeartbeats 4000000
open PySem PySem.W PyProof.Rows PySem.Spec PySem.Calls PySem.SeqAt
namespace Mine
variable [Inhabited Bnd]
theorem tks_ok : ∀ ts ∈ tks, ∀ t ∈ ts, t.Ok := by
  have b1 : Bo 65 [81, 103, 119] := ⟨by decide, by decide, by decide, by decide +kernel, by decide +kernel, by decide, fun _ => by decide +kernel, by decide +kernel, by decide +kernel⟩
  have b2 : Bo 65 [69, 73, 77, 81, 85, 89, 99, 103, 107, 111, 115, 119, 48, 52, 56] := ⟨by decide, by decide, by decide, by decide +kernel, by decide +kernel, by decide, fun _ => by decide +kernel, by decide +kernel, by decide +kernel⟩
  have b3 : Bo 33 [61] := ⟨by decide, by decide, by decide, by decide +kernel, by decide +kernel, by decide, fun h => absurd rfl h, by decide +kernel, by decide +kernel⟩
  intro ts hts t ht
  simp only [tks, List.mem_cons, List.not_mem_nil, or_false] at hts
  rcases hts with rfl | rfl | rfl | rfl
  · simp only [List.mem_cons, List.not_mem_nil, or_false] at ht
    rcases ht with rfl | rfl | rfl
    · exact b1
    · trivial
    · trivial
  · simp only [List.mem_cons, List.not_mem_nil, or_false] at ht
    rcases ht with rfl | rfl
    · exact b2
    · trivial
  · simp only [List.mem_cons, List.not_mem_nil, or_false] at ht
    subst ht; exact b3
  · cases ht
theorem tks_len : ∀ ts ∈ tks, (pat ts).length ≤ 500 := by decide +kernel
theorem cut_le {α : Type} (l : List α) (lo hi : Option Int) : (cut l lo hi).length ≤ l.length := by
  unfold cut; rw [List.length_take, List.length_drop]; omega
section
variable {B : Md} {prog : Program} {w : World} {A : Around} {U : List Addr} {T : prog.given.tree = none} {pm cd doc : Value} {L ad : Addr} {s₀ s : Shared} {ns : List Int}
abbrev rho2 (ns : List Int) : List (Str × D) := [("texts", gT (textsOf (rowsOf ns))), ("plain", gT (plainOf (rowsOf ns))), ("written", ls ((rowsOf ns).map fun b => gB (b64w b))), ("rows", ls ((rowsOf ns).map gB)), ("script", lsI ns)]
abbrev rho3 (ns : List Int) : List (Str × D) := ("rest", gT (restOf (placeOf ns (rowsOf ns)) (textsOf (rowsOf ns)))) :: ("place", int (placeOf ns (rowsOf ns) : Nat)) :: ("parts", ls (tks.map fun ts => ls (outs ts))) :: rho2 ns
theorem texts_len {R : List (List UInt8)} (h : R.length ≤ 10) : (textsOf R).length ≤ 20 := by
  have h1 : (plainOf R).length = R.length := by rw [plainOf, List.length_map]
  have := List.length_filter_le ends (plainOf R)
  rw [textsOf, List.length_append, List.length_map]; omega
theorem law3 (O : B.Ok) (N : Nm B) (fs : Fs B) (rw_ : Rw (rowsOf ns)) (I : B.In s₀) (R : Room (A.deeper (lE pm cd doc L ad)) 3) (F : Fm (lC prog w A U T pm cd doc L ad) s₀ s (rho2 ns)) (hn : ns.length ≤ 63) {Q : Flow → Shared → Prop}
    (h : ∀ s', Fm (lC prog w A U T pm cd doc L ad) s₀ s' (rho3 ns) → Wp (lC prog w A U T pm cd doc L ad) (execs ((dBody (stm 25)).drop 7) (lE pm cd doc L ad)) Q s') :
    Wp (lC prog w A U T pm cd doc L ad) (execs ((dBody (stm 25)).drop 4) (lE pm cd doc L ad)) Q s := by
  have I' := O.at I F.kp
  have hR := rw_.len
  have h1R := rw_.one
  have hTl := texts_len hR
  refine F.asgC (d := ls (tks.map fun ts => ls (outs ts))) (CompEv.ev (CompEv.map (xs := tks) (P := Plain fun ts => tx (pat ts)) (bnd := fun ts => [("pattern", tx (pat ts))]) (ρ' := []) (f := fun ts => ls (outs ts)) F.fs Clos.nil trivial
    (EvIt.list R.1 (Ev.list (ds := tks.map fun ts => tx (pat ts)) (EvL.cons (Ev.cTx (by decide +kernel)) (EvL.cons (Ev.cTx (by decide +kernel)) (EvL.cons (Ev.cTx (by decide +kernel)) (EvL.cons (Ev.cTx (by decide +kernel)) EvL.nil)))))) AsgX.loc (fun ts hts C acc s H => ?el1) (by decide) (apart rfl))) fun s1 F1 => ?_
  case el1 => exact Ev.call O (H.in_ O I') H.fs (fs.trans ts (tks_ok ts hts) (tks_len ts hts) [97, 110, 121]) R.less (EvL.cons H.fs.loc (EvL.cons Ev.cNone (EvL.cons (Ev.cTx (x := [97, 110, 121])) EvL.nil)))
  have I1 := O.at I F1.kp
  have hpl : (placeOf ns (rowsOf ns) : Int) = (2 + (ns.take 4).sum).fmod ((rowsOf ns).length : Int) := Int.toNat_of_nonneg (Int.fmod_nonneg_of_pos _ (by omega))
  have hpb : placeOf ns (rowsOf ns) < (rowsOf ns).length := by
    have := Int.fmod_lt_of_pos (2 + (ns.take 4).sum) (show (0 : Int) < ((rowsOf ns).length : Int) by omega)
    omega
  refine F1.asgC (d := int (placeOf ns (rowsOf ns) : Nat)) (Ev.is ?e1 (Ev.bin (Ev.bin Ev.cInt (Ev.callB O I1 F1.fs N.sum.1 N.sum.2 rfl (EvL.cons (Ev.slice F1.fs.loc EvP.no (EvP.yes Ev.cInt) EvP.no (Slc.list ?h1)) EvL.nil) (Bi.sum' (ns := ns.take 4) ?h2 R.1)) Op2.add)
    (Ev.callB O I1 F1.fs N.len.1 N.len.2 rfl (EvL.cons F1.fs.cell EvL.nil) (Bi.lenL ?h3)) (Op2.mod ?h4))) fun s2 F2 => ?_
  case e1 => rw [List.length_map, hpl]
  case h1 => rw [List.length_map, sizeLine_eq]; omega
  case h2 => rw [show (some (4 : Int)) = some ((4 : Nat) : Int) from rfl, cut_to, List.map_take]
  case h3 => rw [List.length_map]; omega
  case h4 => rw [List.length_map]; omega
  refine F2.asg (d := gT (restOf (placeOf ns (rowsOf ns)) (textsOf (rowsOf ns)))) (Ev.is ?e2 (Ev.slice (Ev.bin (Ev.slice F2.fs.loc EvP.no (EvP.yes F2.fs.cell) EvP.no (Slc.list ?h5)) (Ev.slice F2.fs.loc (EvP.yes (Ev.bin F2.fs.cell Ev.cInt Op2.add)) EvP.no EvP.no (Slc.list ?h6)) (Op2.addL ?h7)) EvP.no EvP.no (EvP.yes (Ev.neg Ev.cInt)) (Slc.rev ?h8))) fun s3 F3 => h s3 F3
  case e2 =>
    rw [show (some ((placeOf ns (rowsOf ns) : Nat) + 1 : Int)) = some ((placeOf ns (rowsOf ns) + 1 : Nat) : Int) from rfl, cut_to, cut_from]
    show _ = ls ((restOf _ _).map tx)
    rw [restOf, List.map_reverse, List.map_append, List.map_take, List.map_drop]
  case h5 => rw [List.length_map, sizeLine_eq]; omega
  case h6 => rw [List.length_map, sizeLine_eq]; omega
  case h7 =>
    have a1 := cut_le ((textsOf (rowsOf ns)).map tx) none (some (placeOf ns (rowsOf ns) : Int))
    have a2 := cut_le ((textsOf (rowsOf ns)).map tx) (some ((placeOf ns (rowsOf ns) : Nat) + 1 : Int)) none
    rw [List.length_map] at a1 a2
    rw [sizeLine_eq]; omega
  case h8 =>
    have a1 := cut_le ((textsOf (rowsOf ns)).map tx) none (some (placeOf ns (rowsOf ns) : Int))
    have a2 := cut_le ((textsOf (rowsOf ns)).map tx) (some ((placeOf ns (rowsOf ns) : Nat) + 1 : Int)) none
    rw [List.length_map] at a1 a2
    rw [List.length_append, sizeLine_eq]; omega
end
end Mine
end
section
set_option genInjectivity false
set_option genSizeOf false
set_option maxHeartbeats 4000000
open PySem PySem.W PyProof.Rows PySem.Spec PySem.Calls PySem.SeqAt
namespace Mine
variable [Inhabited Bnd]
theorem texts_ok {R : List (List UInt8)} (r : Rw R) : ∀ x ∈ textsOf R, x.length ≤ 100 ∧ ∀ c ∈ x, c < 128 := fun x m => by
  rcases List.mem_append.mp m with m | m
  · obtain ⟨b, hb, rfl⟩ := List.mem_map.mp m
    exact ⟨r.few b hb, r.low b hb⟩
  · obtain ⟨y, m1, rfl⟩ := List.mem_map.mp m
    obtain ⟨m2, e⟩ := List.mem_filter.mp m1
    obtain ⟨b, hb, rfl⟩ := List.mem_map.mp m2
    exact ⟨r.sfew b hb e, r.slow b hb e⟩
theorem rest_sub {p : Nat} {T : List (List Nat)} : ∀ x ∈ restOf p T, x ∈ T := fun x m => by
  rcases List.mem_append.mp (List.mem_reverse.mp m) with m | m
  · exact List.mem_of_mem_take m
  · exact List.mem_of_mem_drop m
theorem rest_len {p : Nat} {T : List (List Nat)} : (restOf p T).length ≤ T.length := by
  rw [restOf, List.length_reverse, List.length_append, List.length_take, List.length_drop]; omega
theorem tks_outs : ∀ ts ∈ tks, (ts.map Tk.out).length ≤ 1000 ∧ ∀ p ∈ ts.map Tk.out, p.length ≤ 1000 := by decide +kernel
abbrev gS (xs : List (List (List Nat))) : D := ls (xs.map gT)
section
variable {B : Md} {prog : Program} {w : World} {A : Around} {U : List Addr} {T : prog.given.tree = none} {pm cd doc : Value} {L ad : Addr} {s₀ s : Shared} {ns : List Int}
abbrev rho4 (ns : List Int) : List (Str × D) := ("less", ls ((toldOf (restOf (placeOf ns (rowsOf ns)) (textsOf (rowsOf ns)))).map gS)) :: ("told", ls ((toldOf (textsOf (rowsOf ns))).map gS)) :: rho3 ns
theorem law4 (O : B.Ok) (fs : Fs B) (rw_ : Rw (rowsOf ns)) (I : B.In s₀) (R : Room (A.deeper (lE pm cd doc L ad)) 3) (F : Fm (lC prog w A U T pm cd doc L ad) s₀ s (rho3 ns)) {Q : Flow → Shared → Prop}
    (h : ∀ s', Fm (lC prog w A U T pm cd doc L ad) s₀ s' (rho4 ns) → Wp (lC prog w A U T pm cd doc L ad) (execs ((dBody (stm 25)).drop 8) (lE pm cd doc L ad)) Q s') :
    Wp (lC prog w A U T pm cd doc L ad) (execs ((dBody (stm 25)).drop 7) (lE pm cd doc L ad)) Q s := by
  have I' := O.at I F.kp
  have hTl := texts_len rw_.len
  have hrow : ∀ row ∈ [textsOf (rowsOf ns), restOf (placeOf ns (rowsOf ns)) (textsOf (rowsOf ns))], row.length ≤ 20 ∧ ∀ x ∈ row, x.length ≤ 100 ∧ ∀ c ∈ x, c < 128 := fun row m => by
    rcases List.mem_cons.mp m with rfl | m
    · exact ⟨hTl, texts_ok rw_⟩
    · obtain rfl := List.mem_singleton.mp m
      exact ⟨Nat.le_trans rest_len hTl, fun x m => texts_ok rw_ x (rest_sub x m)⟩
  refine F.twoL R.1 (Ev.is ?e1 (CompEv.ev (CompEv.map (xs := [textsOf (rowsOf ns), restOf (placeOf ns (rowsOf ns)) (textsOf (rowsOf ns))]) (P := Plain gT) (bnd := fun row => [("row", gT row)]) (ρ' := [("parts", ls (tks.map fun ts => ls (outs ts)))]) (f := fun row => ls (tks.map fun ts => gS (sel ts row)))
    F.fs (Clos.one rfl) ⟨⟨rfl, rfl, rfl, fun _ => rfl⟩, trivial⟩ (EvIt.list R.1 (Ev.list (EvL.cons F.fs.loc (EvL.cons F.fs.loc EvL.nil)) (by simp [sizeLine_eq]))) ?asg (fun row hr C acc s1 H => ?el1) (by simp [sizeLine_eq]) (apart rfl)))) fun s1 F1 => h s1 F1
  case asg => exact AsgX.cell
  case e1 => simp [toldOf]; rfl
  case el1 =>
    refine CompEv.ev (CompEv.map (xs := tks) (P := Plain fun ts => ls (outs ts)) (bnd := fun ts => [("one", ls (outs ts))]) (ρ' := [("row", gT row)]) (f := fun ts => gS (sel ts row))
      H.fs (Clos.one rfl) ⟨⟨rfl, rfl, rfl, fun _ => rfl⟩, trivial⟩ (EvIt.list R.1 H.fs.cell) ?asg2 (fun ts hts C' acc' s2 H2 => ?el2) (by decide) (apart rfl))
    case asg2 => exact AsgX.cell
    case el2 =>
      refine Ev.is ?e2 (CompEv.ev (CompEv.filter (xs := row) (P := Plain tx) (bnd := fun x => [("text", tx x)]) (ρ' := [("one", ls (outs ts))]) (f := fun x => gT [x]) (t := takes (ts.map Tk.out))
        H2.fs (Clos.one rfl) ⟨⟨rfl, rfl, rfl, fun _ => rfl⟩, trivial⟩ (EvIt.list R.1 H2.fs.cell) AsgX.loc (fun x hx C3 acc3 s3 H3 => ?te3) (fun x hx ht C3 acc3 s3 H3 => ?el3) ?h1 (apart rfl)))
      case e2 => show _ = ls ((sel ts row).map gT); rw [sel, List.map_map]; rfl
      case te3 =>
        obtain ⟨hx1, hx2⟩ := (hrow row hr).2 x hx
        obtain ⟨ht1, ht2⟩ := tks_outs ts hts
        exact EvT.val (Ev.call O (H3.in_ O (H2.in_ O (H.in_ O I'))) H3.fs (fs.takes (ts.map Tk.out) x (by omega) ht1 ht2 hx2) R (EvL.cons H3.fs.cell (EvL.cons H3.fs.loc EvL.nil))) Tr.boo
      case el3 => exact Ev.list (ds := [tx x]) (EvL.cons H3.fs.loc EvL.nil) (by simp [sizeLine_eq])
      case h1 => have := (hrow row hr).1; rw [sizeLine_eq]; omega
end
end Mine
end
section
set_option genInjectivity false
set_option genSizeOf false
set_option maxHeartbeats 4000000
open PySem PySem.W PyProof.Rows PySem.Spec PySem.Calls PySem.SeqAt
namespace Mine
variable [Inhabited Bnd]
theorem Idx.listI {c : Cx} {ds : List D} {d : D} {i : Int} {n : Nat} (hi : i = (n : Nat)) (h : ds[n]? = some d) (hn : (n : Int) < 2 ^ 63) : Idx c (Mine.ls ds) (int i) d := hi ▸ Idx.list h hn
theorem getD_map {α : Type} (g : α → D) {l : List α} {n : Nat} (z : α) (h : n < l.length) : (l.map g)[n]? = some (g (l.getD n z)) := by
  rw [List.getElem?_map, List.getElem?_eq_getElem h, List.getD_eq_getElem?_getD, List.getElem?_eq_getElem h]; rfl
theorem getD_mem {α : Type} {l : List α} {n : Nat} (z : α) (h : n < l.length) : l.getD n z ∈ l := by
  rw [List.getD_eq_getElem?_getD, List.getElem?_eq_getElem h]; exact List.getElem_mem h
section
variable {B : Md} {prog : Program} {w : World} {A : Around} {U : List Addr} {T : prog.given.tree = none} {pm cd doc : Value} {L ad : Addr} {s₀ s : Shared} {ns : List Int}
abbrev rho5 (ns : List Int) : List (Str × D) := ("due", ls ((dueOf (rowsOf ns)).map gS)) :: ("sizes", ls (([1, 2, 0].map (sizeOf (rowsOf ns))).map gT)) :: rho4 ns
theorem size_len {R : List (List UInt8)} {z : Int} : (sizeOf R z).length ≤ R.length := by
  rw [sizeOf, List.length_map]
  exact Nat.le_trans (List.length_filter_le ..) (by rw [List.length_range]; exact Nat.le_refl _)
theorem law5 (O : B.Ok) (N : Nm B) (rw_ : Rw (rowsOf ns)) (I : B.In s₀) (R : Room (A.deeper (lE pm cd doc L ad)) 3) (F : Fm (lC prog w A U T pm cd doc L ad) s₀ s (rho4 ns)) {Q : Flow → Shared → Prop}
    (h : ∀ s', Fm (lC prog w A U T pm cd doc L ad) s₀ s' (rho5 ns) → Wp (lC prog w A U T pm cd doc L ad) (execs ((dBody (stm 25)).drop 10) (lE pm cd doc L ad)) Q s') :
    Wp (lC prog w A U T pm cd doc L ad) (execs ((dBody (stm 25)).drop 8) (lE pm cd doc L ad)) Q s := by
  have I' := O.at I F.kp
  have hTl := texts_len rw_.len
  have hR := rw_.len
  have hPl : (plainOf (rowsOf ns)).length = (rowsOf ns).length := by rw [plainOf, List.length_map]
  refine F.comp (d := ls (([1, 2, 0].map (sizeOf (rowsOf ns))).map gT)) (CompEv.is ?e1 (CompEv.map (xs := [1, 2, 0]) (P := Plain int) (bnd := fun z => [("size", int z)]) (ρ' := [("plain", gT (plainOf (rowsOf ns))), ("rows", ls ((rowsOf ns).map gB))]) (f := fun z => gT (sizeOf (rowsOf ns) z))
    F.fs (Clos.two rfl rfl ?ne1) ⟨⟨rfl, rfl, rfl, fun _ => rfl⟩, ⟨rfl, rfl, rfl, fun _ => rfl⟩, trivial⟩ (EvIt.list R.1 (Ev.list (ds := [1, 2, 0].map int) (EvL.cons Ev.cInt (EvL.cons Ev.cInt (EvL.cons Ev.cInt EvL.nil))))) ?asg1 (fun z hz C acc s1 H => ?el1) (by decide) (apart rfl))) fun s1 F1 => ?_
  case asg1 => exact AsgX.cell
  case ne1 => decide
  case e1 => rw [List.map_map]; rfl
  case el1 =>
    have I1 := H.in_ O I'
    refine Ev.is ?e2 (CompEv.ev (CompEv.filter (xs := List.range (rowsOf ns).length) (P := Plain fun k => int (k : Nat)) (bnd := fun k => [("k", int (k : Nat))]) (ρ' := [("plain", gT (plainOf (rowsOf ns))), ("rows", ls ((rowsOf ns).map gB)), ("size", int z)]) (f := fun k => tx ((plainOf (rowsOf ns)).getD k [])) (t := fits (rowsOf ns) z)
      H.fs (Clos.three rfl rfl rfl ?ne2 ?ne3 ?ne4) ⟨⟨rfl, rfl, rfl, fun _ => rfl⟩, ⟨rfl, rfl, rfl, fun _ => rfl⟩, ⟨rfl, rfl, rfl, fun _ => rfl⟩, trivial⟩ (EvIt.rangeL R.1 O N I1 H.fs (Ev.is ?e3 (Ev.callB O I1 H.fs N.len.1 N.len.2 rfl (EvL.cons H.fs.cell EvL.nil) (Bi.lenL ?h1))) ?h2) AsgX.loc (fun k hk C2 acc2 s2 H2 => ?te2) (fun k hk ht C2 acc2 s2 H2 => ?el2) ?h3 (apart rfl)))
    case e2 => show _ = ls ((sizeOf (rowsOf ns) z).map tx); rw [sizeOf, List.map_map]; rfl
    case e3 => rw [List.length_map]
    case ne2 => decide
    case ne3 => decide
    case ne4 => decide
    case h1 => rw [List.length_map]; omega
    case h2 => omega
    case h3 => rw [List.length_range, sizeLine_eq]; omega
    case te2 =>
      have hk := List.mem_range.mp hk
      refine EvT.is ?e4 (EvT.and (EvT.cmp (Ev.bin (Ev.callB O (H2.in_ O I1) H2.fs N.len.1 N.len.2 rfl (EvL.cons (Ev.sub H2.fs.cell H2.fs.loc (Idx.listI rfl (getD_map gB [] hk) (by omega))) EvL.nil) (Bi.lenB ?h4)) Ev.cInt (Op2.mod (by decide))) H2.fs.cell Cmp.eqI) fun _ => EvT.cmp (Ev.sub H2.fs.cell H2.fs.loc (Idx.listI rfl (getD_map tx [] (by rw [hPl]; exact hk)) (by omega))) (Ev.cTx (x := [])) Cmp.neS)
      case e4 => rfl
      case h4 => have := (rw_.six _ (getD_mem [] hk)).few; rw [List.size_toArray]; omega
    case el2 =>
      have hk := List.mem_range.mp hk
      exact Ev.sub H2.fs.cell H2.fs.loc (Idx.listI rfl (getD_map tx [] (by rw [hPl]; exact hk)) (by omega))
  refine F1.comp (d := ls ((dueOf (rowsOf ns)).map gS)) (CompEv.is ?e5 (CompEv.map (xs := [1, 2, 0].map (sizeOf (rowsOf ns)) ++ [textsOf (rowsOf ns)]) (P := Plain gT) (bnd := fun row => [("row", gT row)]) (ρ' := []) (f := fun row => gS (row.map fun t => [t]))
    F1.fs Clos.nil trivial (EvIt.list R.1 (Ev.is ?e6 (Ev.bin F1.fs.loc (Ev.list (ds := [gT (textsOf (rowsOf ns))]) (EvL.cons F1.fs.loc EvL.nil) (by simp [sizeLine_eq])) (Op2.addL ?h5)))) AsgX.loc (fun row hr C acc s2 H => ?el3) ?h6 (apart rfl))) fun s2 F2 => h s2 F2
  case e5 => rw [dueOf, List.map_map]; rfl
  case e6 => rw [List.map_append]; rfl
  case h5 => simp [sizeLine_eq]
  case h6 => simp [sizeLine_eq]
  case el3 =>
    have hl : row.length ≤ 20 := by
      rcases List.mem_append.mp hr with m | m
      · obtain ⟨z, _, rfl⟩ := List.mem_map.mp m
        exact Nat.le_trans size_len (by omega)
      · obtain rfl := List.mem_singleton.mp m
        exact hTl
    refine Ev.is ?e7 (CompEv.ev (CompEv.map (xs := row) (P := Plain tx) (bnd := fun x => [("text", tx x)]) (ρ' := []) (f := fun x => gT [x]) H.fs Clos.nil trivial (EvIt.list R.1 H.fs.loc) AsgX.loc (fun x hx C2 acc2 s3 H2 => Ev.list (ds := [tx x]) (EvL.cons H2.fs.loc EvL.nil) (by simp [sizeLine_eq])) ?h7 (apart rfl)))
    case e7 => show _ = ls ((row.map fun t => [t]).map gT); rw [List.map_map]; rfl
    case h7 => rw [sizeLine_eq]; omega
end
end Mine
end
section
set_option genInjectivity false
set_option genSizeOf false
set_option maxHeartbeats 4000000
open PySem PySem.W PyProof.Rows PySem.Spec PySem.Calls PySem.SeqAt
namespace Mine
variable [Inhabited Bnd]
theorem Frs.kpH {l : List Env} {h h' : Heap} (F : Frs l h) (t : Tab h) (k : KpH h h') : Frs l h' := F.up k fun b m o es n e d => by
  obtain ⟨ps, e', _⟩ := t
  rw [List.mem_singleton.mp m, e'] at e; cases e; cases d
theorem zip_map {α β : Type} {xs : List α} {ys : List β} (h : xs.length = ys.length) {γ : Type} (f : α → γ) : (xs.zip ys).map (fun q => f q.1) = xs.map f := by
  have := congrArg (List.map f) (List.map_fst_zip (l₁ := xs) (l₂ := ys) (by omega))
  rwa [List.map_map] at this
theorem zip_map2 {α β : Type} {xs : List α} {ys : List β} (h : xs.length = ys.length) {γ : Type} (f : β → γ) : (xs.zip ys).map (fun q => f q.2) = ys.map f := by
  have := congrArg (List.map f) (List.map_snd_zip (l₁ := xs) (l₂ := ys) (by omega))
  rwa [List.map_map] at this
abbrev gO (l : List Bool) : D := ls (l.map boo)
section
variable {B : Md} {prog : Program} {w : World} {A : Around} {U : List Addr} {T : prog.given.tree = none} {pm cd doc : Value} {L ad : Addr} {s₀ s : Shared} {ns : List Int}
theorem told_len (T : List (List Nat)) : (toldOf T).length = 4 := by rw [toldOf, List.length_map]; rfl
theorem told_few {T : List (List Nat)} : ∀ one ∈ toldOf T, one.length ≤ T.length := fun one m => by
  obtain ⟨ts, _, rfl⟩ := List.mem_map.mp m
  rw [sel, List.length_map]; exact List.length_filter_le ..
theorem law6 (O : B.Ok) (N : Nm B) (fs : Fs B) (rw_ : Rw (rowsOf ns)) (I : B.In s₀) (R : Room (A.deeper (lE pm cd doc L ad)) 3) {l : List Env} (hfr : (A.deeper (lE pm cd doc L ad)).frames = some l) (hne : l ≠ []) (F : Fm (lC prog w A U T pm cd doc L ad) s₀ s (rho5 ns)) (hF : ∀ s' ρ, Fm (lC prog w A U T pm cd doc L ad) s₀ s' ρ → Frs l s'.heap)  {Q : Flow → Shared → Prop}
    (h : ∀ v s', Gives U (boo (ansOf ns)) s₀ v s' → Q (.ret v) s') :
    Wp (lC prog w A U T pm cd doc L ad) (execs ((dBody (stm 25)).drop 10) (lE pm cd doc L ad)) Q s := by
  have I' := O.at I F.kp
  have hTl := texts_len rw_.len
  have hR := rw_.len
  have h1R := rw_.one
  have hPl : (plainOf (rowsOf ns)).length = (rowsOf ns).length := by rw [plainOf, List.length_map]
  have hpb : placeOf ns (rowsOf ns) < (rowsOf ns).length := by
    have h1 := Int.fmod_nonneg_of_pos (2 + (ns.take 4).sum) (show (0 : Int) < ((rowsOf ns).length : Int) by omega)
    have h2 := Int.fmod_lt_of_pos (2 + (ns.take 4).sum) (show (0 : Int) < ((rowsOf ns).length : Int) by omega)
    rw [placeOf]; omega
  refine F.comp (d := ls ((sameOf (rowsOf ns) (placeOf ns (rowsOf ns))).map boo)) (CompEv.is ?e1 (CompEv.map (xs := dueOf (rowsOf ns)) (P := Plain gS) (bnd := fun one => [("one", gS one)]) (ρ' := [("place", int (placeOf ns (rowsOf ns) : Nat)), ("plain", gT (plainOf (rowsOf ns)))])
    (f := fun one => boo (lacks one [(plainOf (rowsOf ns)).getD (placeOf ns (rowsOf ns)) []] || decide (1 < (cnt one [(plainOf (rowsOf ns)).getD (placeOf ns (rowsOf ns)) []] : Int))))
    F.fs (Clos.two rfl rfl ?ne1) ⟨⟨rfl, rfl, rfl, fun _ => rfl⟩, ⟨rfl, rfl, rfl, fun _ => rfl⟩, trivial⟩ (EvIt.list R.1 F.fs.loc) AsgX.loc (fun one ho C acc s1 H => ?el1) ?h1 (apart rfl))) fun s1 F1 => ?_
  case ne1 => decide
  case e1 => rw [sameOf, List.map_map]; rfl
  case h1 => simp [dueOf, sizeLine_eq]
  case el1 =>
    exact Ev.or (Ev.cmp (Ev.list (EvL.cons (Ev.sub H.fs.cell H.fs.cell (Idx.listI rfl (getD_map tx [] (by rw [hPl]; exact hpb)) (by omega))) EvL.nil) (by simp [sizeLine_eq])) H.fs.loc (Cmp.notInL (g := gT) (y := [(plainOf (rowsOf ns)).getD (placeOf ns (rowsOf ns)) []]) (Dat.ls Dat.tx) R))
      fun _ => Ev.cmp (Ev.meth H.fs.loc (EvL.cons (Ev.list (EvL.cons (Ev.sub H.fs.cell H.fs.cell (Idx.listI rfl (getD_map tx [] (by rw [hPl]; exact hpb)) (by omega))) EvL.nil) (by simp [sizeLine_eq])) EvL.nil) (Me.count (g := gT) (y := [(plainOf (rowsOf ns)).getD (placeOf ns (rowsOf ns)) []]) (Dat.ls Dat.tx) R)) Ev.cInt Cmp.gtI
  have I1 := O.at I F1.kp
  have hFr := hF s1 _ F1
  let p := placeOf ns (rowsOf ns)
  let TT := textsOf (rowsOf ns)
  have hlz : (toldOf (textsOf (rowsOf ns))).length = (toldOf (restOf (placeOf ns (rowsOf ns)) (textsOf (rowsOf ns)))).length := by rw [told_len, told_len]
  refine F1.comp (d := ls ((bothOf (toldOf (textsOf (rowsOf ns))) (toldOf (restOf (placeOf ns (rowsOf ns)) (textsOf (rowsOf ns))))).map gO)) (CompEv.is ?e2 (CompEv.map (xs := (toldOf (textsOf (rowsOf ns))).zip (toldOf (restOf (placeOf ns (rowsOf ns)) (textsOf (rowsOf ns))))) (P := Pr (fun q => gS q.1) fun q => gS q.2) (bnd := fun q => [("other", gS q.2), ("one", gS q.1)]) (ρ' := [])
    (f := fun q => gO [cmpo q.1 (q.2 ++ q.2), cmpo (q.2 ++ q.2) q.1]) F1.fs Clos.nil trivial ?it (AsgX.pair R.1) (fun q hq C acc s2 H => ?el2) ?h2 ?h3)) fun s2 F2 => ?_
  case it =>
    refine EvIt.zipLL R.1 O N I1 F1.fs ?v1 ?v2
    case v1 => rw [zip_map hlz gS]; exact F1.fs.loc
    case v2 => rw [zip_map2 hlz gS]; exact F1.fs.loc
  case e2 => rw [bothOf, List.map_map]; rfl
  case h2 => rw [List.length_zip, told_len, told_len, sizeLine_eq]; decide
  case h3 => exact fun _ _ e => by cases e
  case el2 =>
    have I2 := H.in_ O I1
    have hFr2 := hFr.kpH F1.kp.ok.tab H.keep
    have hq1 := told_few _ (List.of_mem_zip hq).1
    have hq2 := Nat.le_trans (told_few _ (List.of_mem_zip hq).2) rest_len
    have l2 : (q.2 ++ q.2).length ≤ 1000 := by rw [List.length_append]; omega
    have hm : (q.2.map gT).length ≤ 1000 := by rw [List.length_map]; omega
    have hrep : ls (List.replicate 2 (q.2.map gT)).flatten = gS (q.2 ++ q.2) := by
      show ls (q.2.map gT ++ (q.2.map gT ++ [])) = ls ((q.2 ++ q.2).map gT)
      rw [List.append_nil, List.map_append]
    exact Ev.list (ds := [boo (cmpo q.1 (q.2 ++ q.2)), boo (cmpo (q.2 ++ q.2) q.1)]) (EvL.cons (Ev.callF O I2 H.fs (fs.cmp q.1 (q.2 ++ q.2) (by omega) l2) R.less hfr hFr2 hne (EvL.cons H.fs.loc (EvL.cons (Ev.is hrep (Ev.bin H.fs.loc Ev.cInt (Op2.mulL (n := 2) (by decide) hm))) EvL.nil)))
      (EvL.cons (Ev.callF O I2 H.fs (fs.cmp (q.2 ++ q.2) q.1 l2 (by omega)) R.less hfr hFr2 hne (EvL.cons (Ev.is hrep (Ev.bin H.fs.loc Ev.cInt (Op2.mulL (n := 2) (by decide) hm))) (EvL.cons H.fs.loc EvL.nil))) EvL.nil)) (by simp [sizeLine_eq])
  refine F2.ret (Ev.is ?e3 (Ev.and (Ev.cmp F2.fs.loc F2.fs.loc (Cmp.eqD (g := fun l => ls (l.map gS)) (x := toldOf (textsOf (rowsOf ns))) (y := dueOf (rowsOf ns)) (Dat.ls (Dat.ls (Dat.ls Dat.tx))) R))
    fun _ => Ev.cmp F2.fs.loc (Ev.is ?e4 (CompEv.ev (CompEv.map (xs := sameOf (rowsOf ns) (placeOf ns (rowsOf ns))) (P := Plain boo) (bnd := fun o => [("one", boo o)]) (ρ' := []) (f := fun o => gO [o, o]) F2.fs Clos.nil trivial (EvIt.list R.1 F2.fs.loc) AsgX.loc (fun o ho C acc s3 H => Ev.list (ds := [boo o, boo o]) (EvL.cons H.fs.loc (EvL.cons H.fs.loc EvL.nil)) (by simp [sizeLine_eq])) ?h4 (apart rfl))))
      (Cmp.eqD (g := fun l => ls (l.map gO)) (x := bothOf (toldOf (textsOf (rowsOf ns))) (toldOf (restOf (placeOf ns (rowsOf ns)) (textsOf (rowsOf ns))))) (y := (sameOf (rowsOf ns) (placeOf ns (rowsOf ns))).map fun o => [o, o]) (Dat.ls (Dat.ls Dat.boo)) R))) h
  case e3 => rfl
  case e4 => rw [List.map_map]; rfl
  case h4 => simp [sameOf, dueOf, sizeLine_eq]
end
end Mine
end
section
set_option genInjectivity false
set_option genSizeOf false
set_option maxHeartbeats 4000000
open PySem PySem.W PyProof.Rows PySem.Spec PySem.Calls PySem.SeqAt
namespace Mine
variable [Inhabited Bnd]
/-- what is asked of the module -/
structure Mo (B : Md) : Prop where
  ok : B.Ok
  nm : Nm B
  octets : Dd B "_law_octets" 19
  alphabet : Dd B "_law_alphabet" 20
  text : Dd B "_law_text" 21
  spoilt : Dd B "_law_spoilt" 22
  one : Dd B "_law_one" 23
  takes : Dd B "_law_takes" 24
  law : Dd B "law" 25
  dedup : Dd B "_deduplicate_unhashable" 16
  cmp : Dd B "_compare_args_orderless" 17
  escape : Dd B "escape" 5
  trans : DdL B "_translate" 7
  buffer : Dd B "_buffer" 9
  truth : Dd B "_truth" 10
  b2a : DefK B "b2a_base64" 12
  enc : DefD B "b64encode" 14
  b64 : ∃ t, B.mg "_B64" = some (.bytes b64s.toArray t)
  sc : Sc B
  pt : Pt B
theorem Mo.fs {B : Md} (M : Mo B) : Fs B := by
  have fa := Mine.alphabet M.ok M.alphabet
  obtain ⟨t64, h64⟩ := M.b64
  have fe := law_escape M.ok M.nm M.escape M.sc
  refine ⟨fun x => Mine.octets M.ok M.nm M.octets x, fun bs hb => b64e M.ok M.nm h64 (fun b => ?_) (fun q => ?_) M.b2a M.enc hb, fun b h6 => law_text M.ok M.nm M.text fa h6, fun x h => law_spoilt M.ok M.spoilt fa h, fun ps x h1 h2 h3 h4 => ?_, fun ts h1 h2 q => law_translate M.ok M.nm M.trans fe M.pt h1 h2, fun xs ys h1 h2 => ?_⟩
  · exact law_buffer M.ok M.nm M.buffer
  · exact law_truth M.ok M.nm M.truth
  · exact law_takes M.ok M.nm M.takes (fun p a hp => law_one M.ok M.one hp) h1 h2 h3 h4
  · exact law_compare M.ok M.nm M.cmp (Dat.ls Dat.tx) (by decide) (fun xs hx => law_ddp M.ok M.dedup (Dat.ls Dat.tx) (by decide) hx) h1 h2
theorem law_law {B : Md} (M : Mo B) {ns : List Int} (rw_ : Rw (rowsOf ns)) (hn : ns.length ≤ 63) : FunF B "law" 4 [lsI ns] (boo (ansOf ns)) := by
  have O := M.ok
  obtain ⟨a0, pm, cd, doc, o, hm, ho, hd, hc⟩ := M.law
  have fa : FnAt a0 B.g := by
    obtain ⟨c1, d1, dt, sl⟩ := o
    cases (show dt = _ from hd)
    exact ⟨_, _, _, _, ho⟩
  refine ⟨a0, hm, fa, fun U prog w A s vs l hfr hF hlo T R I ok al => ?_⟩
  obtain ⟨v, rfl, r⟩ := All.one al
  have hbind : BindsTo s (docDef "law" (dParams (stm 25)) (dBody (stm 25)) (dScope (stm 25)) pm cd doc) ⟨[v], []⟩ [("script", v)] := BindsTo.of_eq rfl
  refine call_defL (T := T) R ok (I.obj ho (by rw [hd]; nofun)) hd (I.lim O.lim) (I.code hc) rfl hbind (ds := [lsI ns]) (.cons r .nil) rfl rfl rfl (fun n x hx => ?_) rfl rfl rfl (fun n x d e h => ?_) fun L s₁ hL F => ?_
  · cases List.mem_singleton.mp hx; exact .inl rfl
  · have k1 : ∀ y : Str, (dScope (stm 25)).names.lookup y = some NameKind.cell → y ≠ "script" := fun y h => (fun w => by subst w; cases h)
    change List.lookup x [(("script" : Str), lsI ns)] = some d at e
    rw [lookup_cons_ne (k1 x h)] at e; cases e
  · have R1 := R.deeper (env := lE pm cd doc L a0)
    have hfr4 : (A.deeper (lE pm cd doc L a0)).frames = some (lE pm cd doc L a0 :: l) := Around.frames_deeper hfr
    have fin : ∀ s' ρ, Fm (lC prog w A U T pm cd doc L a0) s s' ρ → Frs (lE pm cd doc L a0 :: l) s'.heap := fun s' ρ F' env m => by
      rcases List.mem_cons.mp m with rfl | m
      · obtain ⟨mm, ⟨o, es, ep, e, d, _⟩, _⟩ := F'.fs.ns
        exact ⟨nofun, L, o, es, ep, Nat.le_trans hlo hL, rfl, e, d⟩
      · exact (hF.kpH F'.kp.ok0.tab F'.kp.keep) env m
    refine law1 O M.nm M.fs I R1 F hn fun s1 F1 => ?_
    refine law2 O M.nm M.fs rw_ I R1 F1 fun s2 F2 => ?_
    refine law3 O M.nm M.fs rw_ I R1 F2 hn fun s3 F3 => ?_
    refine law4 O M.fs rw_ I R1 F3 fun s4 F4 => ?_
    refine law5 O M.nm rw_ I R1 F4 fun s5 F5 => ?_
    exact law6 O M.nm M.fs rw_ I R1 hfr4 (List.cons_ne_nil _ _) F5 fin fun v s' g => g
end Mine
end
section
set_option genInjectivity false
set_option genSizeOf false
set_option maxHeartbeats 4000000
open PySem PySem.W PyProof.Rows PySem.Spec PySem.Calls PySem.SeqAt
namespace Mine
variable [Inhabited Bnd]
/-- the values of sixes of bytes, written out -/
def c1 (a : Nat) : List Nat := [a / 4, a % 4 * 16]
def c2 (a b : Nat) : List Nat := [a / 4, a % 4 * 16 + b / 16, b % 16 * 4]
def c3 (a b c : Nat) : List Nat := [a / 4, a % 4 * 16 + b / 16, b % 16 * 4 + c / 64, c % 64]
def canon : List UInt8 → List Nat
  | [] => []
  | [a] => c1 a.toNat
  | [a, b] => c2 a.toNat b.toNat
  | a :: b :: c :: r => c3 a.toNat b.toNat c.toNat ++ canon r
def bt (o : UInt8) (k : Nat) : Int := ((o.toNat : Int).fdiv (2 ^ (7 - k : Nat))).fmod 2
def q6 (x0 x1 x2 x3 x4 x5 : Int) : Int := x0 * 32 + (x1 * 16 + (x2 * 8 + (x3 * 4 + (x4 * 2 + (x5 * 1 + 0)))))
theorem sixes1 (a : UInt8) : sixes [a] = [q6 (bt a 0) (bt a 1) (bt a 2) (bt a 3) (bt a 4) (bt a 5), q6 (bt a 6) (bt a 7) 0 0 0 0] := by kernel_rfl
theorem sixes2 (a b : UInt8) : sixes [a, b] = [q6 (bt a 0) (bt a 1) (bt a 2) (bt a 3) (bt a 4) (bt a 5), q6 (bt a 6) (bt a 7) (bt b 0) (bt b 1) (bt b 2) (bt b 3), q6 (bt b 4) (bt b 5) (bt b 6) (bt b 7) 0 0] := by kernel_rfl
theorem sixes3 (a b c : UInt8) : sixes [a, b, c] = [q6 (bt a 0) (bt a 1) (bt a 2) (bt a 3) (bt a 4) (bt a 5), q6 (bt a 6) (bt a 7) (bt b 0) (bt b 1) (bt b 2) (bt b 3), q6 (bt b 4) (bt b 5) (bt b 6) (bt b 7) (bt c 0) (bt c 1), q6 (bt c 2) (bt c 3) (bt c 4) (bt c 5) (bt c 6) (bt c 7)] := by kernel_rfl
theorem sixes4 (a b c d : UInt8) : sixes [a, b, c, d] = [q6 (bt a 0) (bt a 1) (bt a 2) (bt a 3) (bt a 4) (bt a 5), q6 (bt a 6) (bt a 7) (bt b 0) (bt b 1) (bt b 2) (bt b 3), q6 (bt b 4) (bt b 5) (bt b 6) (bt b 7) (bt c 0) (bt c 1), q6 (bt c 2) (bt c 3) (bt c 4) (bt c 5) (bt c 6) (bt c 7),
    q6 (bt d 0) (bt d 1) (bt d 2) (bt d 3) (bt d 4) (bt d 5), q6 (bt d 6) (bt d 7) 0 0 0 0] := by kernel_rfl
theorem sixes5 (a b c d e : UInt8) : sixes [a, b, c, d, e] = [q6 (bt a 0) (bt a 1) (bt a 2) (bt a 3) (bt a 4) (bt a 5), q6 (bt a 6) (bt a 7) (bt b 0) (bt b 1) (bt b 2) (bt b 3), q6 (bt b 4) (bt b 5) (bt b 6) (bt b 7) (bt c 0) (bt c 1), q6 (bt c 2) (bt c 3) (bt c 4) (bt c 5) (bt c 6) (bt c 7),
    q6 (bt d 0) (bt d 1) (bt d 2) (bt d 3) (bt d 4) (bt d 5), q6 (bt d 6) (bt d 7) (bt e 0) (bt e 1) (bt e 2) (bt e 3), q6 (bt e 4) (bt e 5) (bt e 6) (bt e 7) 0 0] := by kernel_rfl
theorem bt_nat (o : UInt8) (k : Nat) : bt o k = ((o.toNat / 2 ^ (7 - k) % 2 : Nat) : Int) := by
  unfold bt
  rw [Int.fmod_eq_emod_of_nonneg _ (by decide), Int.fdiv_eq_ediv_of_nonneg _ (Int.pow_nonneg (by decide))]
  push_cast
  rfl
section
variable (a b c : UInt8)
theorem qa : q6 (bt a 0) (bt a 1) (bt a 2) (bt a 3) (bt a 4) (bt a 5) = ((a.toNat / 4 : Nat) : Int) := by
  have h := a.toNat_lt
  unfold q6
  simp only [bt_nat]
  generalize a.toNat = n at *
  simp only [Nat.reduceSub, Nat.reducePow] at *
  omega
theorem qb0 : q6 (bt a 6) (bt a 7) 0 0 0 0 = ((a.toNat % 4 * 16 : Nat) : Int) := by
  have h := a.toNat_lt
  unfold q6
  simp only [bt_nat]
  generalize a.toNat = n at *
  simp only [Nat.reduceSub, Nat.reducePow] at *
  omega
theorem qb : q6 (bt a 6) (bt a 7) (bt b 0) (bt b 1) (bt b 2) (bt b 3) = ((a.toNat % 4 * 16 + b.toNat / 16 : Nat) : Int) := by
  have h := a.toNat_lt
  have h2 := b.toNat_lt
  unfold q6
  simp only [bt_nat]
  generalize a.toNat = n at *
  generalize b.toNat = m at *
  simp only [Nat.reduceSub, Nat.reducePow] at *
  omega
theorem qc0 : q6 (bt b 4) (bt b 5) (bt b 6) (bt b 7) 0 0 = ((b.toNat % 16 * 4 : Nat) : Int) := by
  have h := b.toNat_lt
  unfold q6
  simp only [bt_nat]
  generalize b.toNat = n at *
  simp only [Nat.reduceSub, Nat.reducePow] at *
  omega
theorem qc : q6 (bt b 4) (bt b 5) (bt b 6) (bt b 7) (bt c 0) (bt c 1) = ((b.toNat % 16 * 4 + c.toNat / 64 : Nat) : Int) := by
  have h := b.toNat_lt
  have h2 := c.toNat_lt
  unfold q6
  simp only [bt_nat]
  generalize b.toNat = n at *
  generalize c.toNat = m at *
  simp only [Nat.reduceSub, Nat.reducePow] at *
  omega
theorem qd : q6 (bt c 2) (bt c 3) (bt c 4) (bt c 5) (bt c 6) (bt c 7) = ((c.toNat % 64 : Nat) : Int) := by
  have h := c.toNat_lt
  unfold q6
  simp only [bt_nat]
  generalize c.toNat = n at *
  simp only [Nat.reduceSub, Nat.reducePow] at *
  omega
end
theorem sixes_canon : ∀ l : List UInt8, l.length ≤ 5 → sixes l = (canon l).map Int.ofNat
  | [], _ => rfl
  | [a], _ => by rw [sixes1, qa, qb0]; rfl
  | [a, b], _ => by rw [sixes2, qa, qb, qc0]; rfl
  | [a, b, c], _ => by rw [sixes3, qa, qb, qc, qd]; rfl
  | [a, b, c, d], _ => by rw [sixes4, qa, qb, qc, qd, qa, qb0]; rfl
  | [a, b, c, d, e], _ => by rw [sixes5, qa, qb, qc, qd, qa, qb, qc0]; rfl
  | _ :: _ :: _ :: _ :: _ :: _ :: _, h => by simp at h
theorem canon_lt : ∀ l : List UInt8, ∀ v ∈ canon l, v < 64
  | [], _, m => by cases m
  | [a], v, m => by
    have h := a.toNat_lt
    simp only [canon, c1, List.mem_cons, List.not_mem_nil, or_false] at m
    omega
  | [a, b], v, m => by
    have h := a.toNat_lt
    have h2 := b.toNat_lt
    simp only [canon, c2, List.mem_cons, List.not_mem_nil, or_false] at m
    omega
  | a :: b :: c :: r, v, m => by
    have h := a.toNat_lt
    have h2 := b.toNat_lt
    have h3 := c.toNat_lt
    rcases List.mem_append.mp m with m | m
    · simp only [c3, List.mem_cons, List.not_mem_nil, or_false] at m
      omega
    · exact canon_lt r v m
/-- the = at the end -/
def pads : List UInt8 → Nat
  | [] => 0
  | [_] => 2
  | [_, _] => 1
  | _ :: _ :: _ :: r => pads r
def sg (v : Nat) : Nat := alpha.getD v 0
theorem text_canon (l : List UInt8) (h : l.length ≤ 5) : Mine.text l = (canon l).map sg ++ List.replicate (pads l) 61 := by
  unfold Mine.text
  rw [sixes_canon l h, List.map_map, List.length_map]
  congr 1
  match l, h with
  | [], _ => kernel_rfl
  | [a], _ => kernel_rfl
  | [a, b], _ => kernel_rfl
  | [a, b, c], _ => kernel_rfl
  | [a, b, c, d], _ => kernel_rfl
  | [a, b, c, d, e], _ => kernel_rfl
  | _ :: _ :: _ :: _ :: _ :: _ :: _, h => simp at h
theorem six_all (l : List UInt8) (h : l.length ≤ 5) : Six l := by
  refine ⟨by omega, ?_, fun v m => ?_⟩
  · match l, h with
    | [], _ => kernel_rfl
    | [a], _ => kernel_rfl
    | [a, b], _ => kernel_rfl
    | [a, b, c], _ => kernel_rfl
    | [a, b, c, d], _ => kernel_rfl
    | [a, b, c, d, e], _ => kernel_rfl
    | _ :: _ :: _ :: _ :: _ :: _ :: _, h => simp at h
  · rw [sixes_canon l h] at m
    obtain ⟨n, m', rfl⟩ := List.mem_map.mp m
    have := canon_lt l n m'
    show (0 : Int) ≤ (n : Int) ∧ (n : Int) < 64
    omega
end Mine
end
section
set_option genInjectivity false
set_option genSizeOf false
set_option maxHeartbeats 4000000
open PySem PySem.W PyProof.Rows PySem.Spec PySem.Calls PySem.SeqAt
namespace Mine
variable [Inhabited Bnd]
theorem bitOr_nat (x y : Nat) : Builtin.bitOr x y = ((x ||| y : Nat) : Int) := by
  have n1 : Builtin.bitNot (x : Int) = -(x : Int) - 1 := by unfold Builtin.bitNot; omega
  have n2 : Builtin.bitNot (y : Int) = -(y : Int) - 1 := by unfold Builtin.bitNot; omega
  unfold Builtin.bitOr Builtin.bitAnd
  rw [decide_eq_false (show ¬ 0 ≤ Builtin.bitNot (x : Int) by rw [n1]; omega), decide_eq_false (show ¬ 0 ≤ Builtin.bitNot (y : Int) by rw [n2]; omega)]
  simp only [n1, n2]
  have e1 : (Builtin.bitNot (-(x : Int) - 1)).toNat = x := by unfold Builtin.bitNot; omega
  have e2 : (Builtin.bitNot (-(y : Int) - 1)).toNat = y := by unfold Builtin.bitNot; omega
  rw [e1, e2]
  unfold Builtin.bitNot
  omega
theorem lc_nat (p : Nat) (b : UInt8) : Builtin.bitAnd (Builtin.bitOr ((p : Int) * 2 ^ 8) b.toNat) 65535 = (((p * 256 + b.toNat) % 65536 : Nat) : Int) := by
  have h := b.toNat_lt
  have e : ((p : Int) * 2 ^ 8) = ((p * 256 : Nat) : Int) := by push_cast; rfl
  have o : p * 256 ||| b.toNat = p * 256 + b.toNat := by
    have := Nat.shiftLeft_add_eq_or_of_lt (b := b.toNat) (i := 8) h p
    rw [Nat.shiftLeft_eq] at this
    exact this.symm
  rw [e, bitOr_nat, o, bitAnd_m16]
  generalize p * 256 + b.toNat = n
  omega
def sb (v : Nat) : Int := ((b64s.getD v 0).toNat : Int)
theorem sig63 (n k : Nat) : sig (Builtin.bitAnd ((n : Int).fdiv (2 ^ k)) 63) = sb (n / 2 ^ k % 64) := by
  have e : (n : Int).fdiv (2 ^ k) = ((n / 2 ^ k : Nat) : Int) := by
    rw [Int.fdiv_eq_ediv_of_nonneg _ (Int.pow_nonneg (by decide))]; push_cast; rfl
  rw [e, bitAnd_m6]
  unfold sig sb
  rw [show (((n / 2 ^ k : Nat) : Int) % 64).toNat = n / 2 ^ k % 64 by omega]
theorem drain_lt {lc : Int} {lb : Nat} {out : List Int} (h : lb < 6) : drain lc lb out = out := by
  rw [drain, dif_neg (by omega)]
theorem drain_ge {n lb : Nat} {out : List Int} (h : 6 ≤ lb) : drain (n : Int) lb out = drain (n : Int) (lb - 6) (out ++ [sb (n / 2 ^ (lb - 6) % 64)]) := by
  rw [drain, dif_pos h, sig63]
theorem step0 (p : Nat) (a : UInt8) (out : List Int) : B2.step ⟨0, p, out⟩ a = ⟨2, ((p * 256 + a.toNat) % 65536 : Nat), out ++ [sb (a.toNat / 4)]⟩ := by
  have h := a.toNat_lt
  unfold B2.step
  simp only [lc_nat]
  rw [drain_ge (by decide), drain_lt (by decide)]
  rw [show (p * 256 + a.toNat) % 65536 / 2 ^ (0 + 8 - 6) % 64 = a.toNat / 4 by simp only [Nat.reducePow, Nat.reduceSub, Nat.reduceAdd]; omega]
theorem step2 (p : Nat) (a : UInt8) (out : List Int) : B2.step ⟨2, p, out⟩ a = ⟨4, ((p * 256 + a.toNat) % 65536 : Nat), out ++ [sb (p % 4 * 16 + a.toNat / 16)]⟩ := by
  have h := a.toNat_lt
  unfold B2.step
  simp only [lc_nat]
  rw [drain_ge (by decide), drain_lt (by decide)]
  rw [show (p * 256 + a.toNat) % 65536 / 2 ^ (2 + 8 - 6) % 64 = p % 4 * 16 + a.toNat / 16 by simp only [Nat.reducePow, Nat.reduceSub, Nat.reduceAdd]; omega]
theorem step4 (p : Nat) (a : UInt8) (out : List Int) : B2.step ⟨4, p, out⟩ a = ⟨0, ((p * 256 + a.toNat) % 65536 : Nat), out ++ [sb (p % 16 * 4 + a.toNat / 64)] ++ [sb (a.toNat % 64)]⟩ := by
  have h := a.toNat_lt
  unfold B2.step
  simp only [lc_nat]
  rw [drain_ge (by decide), drain_ge (by decide), drain_lt (by decide)]
  rw [show (p * 256 + a.toNat) % 65536 / 2 ^ (4 + 8 - 6) % 64 = p % 16 * 4 + a.toNat / 64 by simp only [Nat.reducePow, Nat.reduceSub, Nat.reduceAdd]; omega]
  rw [show (p * 256 + a.toNat) % 65536 / 2 ^ (4 + 8 - 6 - 6) % 64 = a.toNat % 64 by simp only [Nat.reducePow, Nat.reduceSub, Nat.reduceAdd]; omega]
/-- where the reckoning stands behind octets -/
def at0 (p : Nat) : B2 := ⟨0, p, []⟩
theorem sig3 (n : Nat) : sig (Builtin.bitAnd (n : Int) 3 * 2 ^ 4) = sb (n % 4 * 16) := by
  rw [bitAnd_m2]
  unfold sig sb
  have e : Int.toNat ((n : Int) % 4 * 2 ^ 4) = n % 4 * 16 := by omega
  rw [e]
theorem sig15 (n : Nat) : sig (Builtin.bitAnd (n : Int) 15 * 2 ^ 2) = sb (n % 16 * 4) := by
  rw [bitAnd_m4]
  unfold sig sb
  have e : Int.toNat ((n : Int) % 16 * 2 ^ 2) = n % 16 * 4 := by omega
  rw [e]
end Mine
end
section
set_option genInjectivity false
set_option genSizeOf false
set_option maxHeartbeats 4000000
open PySem PySem.W PyProof.Rows PySem.Spec PySem.Calls PySem.SeqAt
namespace Mine
variable [Inhabited Bnd]
section
variable (a b c d e : UInt8)
theorem b2_1 : ∃ p : Nat, p < 65536 ∧ p % 256 = a.toNat ∧ b2 [a] = ⟨2, (p : Int), [sb (a.toNat / 4)]⟩ := by
  have h := a.toNat_lt
  exact ⟨_, Nat.mod_lt _ (by decide), by omega, step0 0 a []⟩
theorem b2_2 : ∃ p : Nat, p < 65536 ∧ p % 256 = b.toNat ∧ b2 [a, b] = ⟨4, (p : Int), [sb (a.toNat / 4), sb (a.toNat % 4 * 16 + b.toNat / 16)]⟩ := by
  have h := b.toNat_lt
  obtain ⟨p, hp, hm, e⟩ := b2_1 a
  refine ⟨(p * 256 + b.toNat) % 65536, Nat.mod_lt _ (by decide), by omega, ((congrArg (B2.step · b) e).trans (step2 p b _)).trans ?_⟩
  rw [show p % 4 = a.toNat % 4 by omega]
  rfl
theorem b2_3 : ∃ p : Nat, p < 65536 ∧ p % 256 = c.toNat ∧ b2 [a, b, c] = ⟨0, (p : Int), (c3 a.toNat b.toNat c.toNat).map sb⟩ := by
  have h := c.toNat_lt
  obtain ⟨p, hp, hm, e⟩ := b2_2 a b
  refine ⟨(p * 256 + c.toNat) % 65536, Nat.mod_lt _ (by decide), by omega, ((congrArg (B2.step · c) e).trans (step4 p c _)).trans ?_⟩
  rw [show p % 16 = b.toNat % 16 by omega]
  rfl
theorem b2_4 : ∃ p : Nat, p < 65536 ∧ p % 256 = d.toNat ∧ b2 [a, b, c, d] = ⟨2, (p : Int), (c3 a.toNat b.toNat c.toNat).map sb ++ [sb (d.toNat / 4)]⟩ := by
  have h := d.toNat_lt
  obtain ⟨p, hp, hm, e⟩ := b2_3 a b c
  exact ⟨_, Nat.mod_lt _ (by decide), by omega, (congrArg (B2.step · d) e).trans (step0 p d _)⟩
theorem b2_5 : ∃ p : Nat, p < 65536 ∧ p % 256 = e.toNat ∧ b2 [a, b, c, d, e] = ⟨4, (p : Int), (c3 a.toNat b.toNat c.toNat).map sb ++ [sb (d.toNat / 4), sb (d.toNat % 4 * 16 + e.toNat / 16)]⟩ := by
  have h := e.toNat_lt
  obtain ⟨p, hp, hm, q⟩ := b2_4 a b c d
  refine ⟨(p * 256 + e.toNat) % 65536, Nat.mod_lt _ (by decide), by omega, ((congrArg (B2.step · e) q).trans (step2 p e _)).trans ?_⟩
  rw [show p % 4 = d.toNat % 4 by omega]
  rfl
end
theorem b2_all : ∀ l : List UInt8, l.length ≤ 5 → (0 ≤ (b2 l).lc ∧ (b2 l).lc < 65536) ∧ (b2 l).lb ≤ 4 ∧ (b2 l).out.length ≤ 7
  | [], _ => ⟨⟨by decide, by decide⟩, by decide, by decide⟩
  | [a], _ => by obtain ⟨p, hp, _, e⟩ := b2_1 a; rw [e]; exact ⟨⟨Int.natCast_nonneg _, Int.ofNat_lt.mpr hp⟩, by simp, by simp⟩
  | [a, b], _ => by obtain ⟨p, hp, _, e⟩ := b2_2 a b; rw [e]; exact ⟨⟨Int.natCast_nonneg _, Int.ofNat_lt.mpr hp⟩, by simp, by simp⟩
  | [a, b, c], _ => by obtain ⟨p, hp, _, e⟩ := b2_3 a b c; rw [e]; exact ⟨⟨Int.natCast_nonneg _, Int.ofNat_lt.mpr hp⟩, by simp, by simp [c3]⟩
  | [a, b, c, d], _ => by obtain ⟨p, hp, _, e⟩ := b2_4 a b c d; rw [e]; exact ⟨⟨Int.natCast_nonneg _, Int.ofNat_lt.mpr hp⟩, by simp, by simp [c3]⟩
  | [a, b, c, d, f], _ => by obtain ⟨p, hp, _, e⟩ := b2_5 a b c d f; rw [e]; exact ⟨⟨Int.natCast_nonneg _, Int.ofNat_lt.mpr hp⟩, by simp, by simp [c3]⟩
  | _ :: _ :: _ :: _ :: _ :: _ :: _, h => by simp at h
theorem b64o_canon : ∀ l : List UInt8, l.length ≤ 5 → b64o l = (canon l).map sb ++ List.replicate (pads l) 61
  | [], _ => rfl
  | [a], _ => by
    obtain ⟨p, hp, hm, e⟩ := b2_1 a
    unfold b64o; rw [e]
    simp only [if_true]
    rw [sig3, show p % 4 = a.toNat % 4 by omega]; rfl
  | [a, b], _ => by
    obtain ⟨p, hp, hm, e⟩ := b2_2 a b
    unfold b64o; rw [e]
    simp only [show ¬ (4 = 2) by decide, if_false, if_true]
    rw [sig15, show p % 16 = b.toNat % 16 by omega]; rfl
  | [a, b, c], _ => by
    obtain ⟨p, hp, hm, e⟩ := b2_3 a b c
    unfold b64o; rw [e]
    rfl
  | [a, b, c, d], _ => by
    obtain ⟨p, hp, hm, e⟩ := b2_4 a b c d
    unfold b64o; rw [e]
    simp only [if_true]
    rw [sig3, show p % 4 = d.toNat % 4 by omega]; rfl
  | [a, b, c, d, f], _ => by
    obtain ⟨p, hp, hm, e⟩ := b2_5 a b c d f
    unfold b64o; rw [e]
    simp only [show ¬ (4 = 2) by decide, if_false, if_true]
    rw [sig15, show p % 16 = f.toNat % 16 by omega]; rfl
  | _ :: _ :: _ :: _ :: _ :: _ :: _, h => by simp at h
theorem canon_len : ∀ l : List UInt8, l.length ≤ 5 → (canon l).length ≤ 7 ∧ pads l ≤ 2
  | [], _ => by decide
  | [a], _ => ⟨by simp [canon, c1], by simp [pads]⟩
  | [a, b], _ => ⟨by simp [canon, c2], by simp [pads]⟩
  | [a, b, c], _ => ⟨by simp [canon, c3], by simp [pads]⟩
  | [a, b, c, d], _ => ⟨by simp [canon, c3, c1], by simp [pads]⟩
  | [a, b, c, d, f], _ => ⟨by simp [canon, c3, c2], by simp [pads]⟩
  | _ :: _ :: _ :: _ :: _ :: _ :: _, h => by simp at h
theorem sb_lt (v : Nat) : 0 ≤ sb v ∧ sb v < 256 := by
  have := (b64s.getD v 0).toNat_lt
  unfold sb
  omega
theorem bs_all (l : List UInt8) (h : l.length ≤ 5) : Bs l := by
  have ht : ∀ i, (l.take i).length ≤ 5 := fun i => by rw [List.length_take]; omega
  refine ⟨by omega, fun i _ => (b2_all _ (ht i)).1, fun i _ => (b2_all _ (ht i)).2.1, fun i _ => Nat.le_trans (b2_all _ (ht i)).2.2 (by decide), fun n m => ?_, ?_⟩
  · rw [b64o_canon l h] at m
    rcases List.mem_append.mp m with m | m
    · obtain ⟨v, _, rfl⟩ := List.mem_map.mp m
      exact sb_lt v
    · rw [List.eq_of_mem_replicate m]; decide
  · have := canon_len l h
    rw [b64o_canon l h, List.length_append, List.length_map, List.length_replicate]; omega
theorem sign_same : ∀ v, v < 64 → tbl.getD ((sb v).toNat.toUInt8).toNat ((sb v).toNat.toUInt8) = (sg v).toUInt8 := by decide +kernel
theorem pad_same : tbl.getD (((61 : Int).toNat.toUInt8).toNat) ((61 : Int).toNat.toUInt8) = Nat.toUInt8 61 := by decide +kernel
theorem same_all (l : List UInt8) (h : l.length ≤ 5) : b64w l = (Mine.text l).map Nat.toUInt8 := by
  unfold b64w
  rw [b64o_canon l h, text_canon l h, List.map_map, List.map_append, List.map_append, List.map_map, List.map_map, List.map_replicate, List.map_replicate]
  congr 1
  · exact List.map_congr_left fun v m => sign_same v (canon_lt l v m)
  · exact congrArg _ pad_same
theorem sg_low : ∀ v, v < 64 → sg v < 128 ∧ sg v ≠ 61 := by decide +kernel
theorem low_all (l : List UInt8) (h : l.length ≤ 5) : ∀ c ∈ Mine.text l, c < 128 := fun c m => by
  rw [text_canon l h] at m
  rcases List.mem_append.mp m with m | m
  · obtain ⟨v, m', rfl⟩ := List.mem_map.mp m
    exact (sg_low v (canon_lt l v m')).1
  · rw [List.eq_of_mem_replicate m]; decide
theorem few_all (l : List UInt8) (h : l.length ≤ 5) : (Mine.text l).length ≤ 9 := by
  have := canon_len l h
  rw [text_canon l h, List.length_append, List.length_map, List.length_replicate]; omega
end Mine
end
section
set_option genInjectivity false
set_option genSizeOf false
set_option maxHeartbeats 4000000
open PySem PySem.W PyProof.Rows PySem.Spec PySem.Calls PySem.SeqAt
namespace Mine
variable [Inhabited Bnd]
theorem takes_end {ps : List (List Nat)} {y z : List Nat} (h : ps.length = z.length) : takes ps (y ++ z) = (ps.zip z).all fun p => one p.1 p.2 := by
  unfold takes
  rw [if_neg (by rw [List.length_append]; omega), List.length_append, show y.length + z.length - ps.length = y.length by omega, List.drop_left]
  generalize ps.zip z = q
  rw [Bool.eq_iff_iff, decide_eq_true_eq, List.all_eq_true, List.map_eq_nil_iff, List.filter_eq_nil_iff]
  exact forall_congr' fun p => forall_congr' fun _ => by cases one p.1 p.2 <;> simp
theorem takes_short {ps : List (List Nat)} {x : List Nat} (h : x.length < ps.length) : takes ps x = false := if_pos h
theorem cut_last (x : List Nat) : cut x (some (-1)) none = x.drop (x.length - 1) := by
  unfold cut kms_lo kms_hi
  simp only
  rw [if_pos (by decide)]
  exact List.take_of_length_le (by rw [List.length_drop]; exact Nat.le_refl _)
def P0 : List Nat := brOut 65 [81, 103, 119]
def P1 : List Nat := brOut 65 [69, 73, 77, 81, 85, 89, 99, 103, 107, 111, 115, 119, 48, 52, 56]
def P2 : List Nat := brOut 33 [61]
theorem one61 (a : Nat) : one [61] a = decide (a = 61) := by
  have : one [61] a = decide ([61] = [a]) := rfl
  rw [this, Bool.eq_iff_iff, decide_eq_true_eq, decide_eq_true_eq, List.cons.injEq]
  exact ⟨fun h => h.1.symm, fun h => ⟨h.symm, rfl⟩⟩
theorem oneP2 (a : Nat) : one P2 a = !decide (a = 61) := by
  have : one P2 a = !decide (a ∈ [61]) := rfl
  rw [this]; simp
theorem sgP0 : ∀ v, v < 64 → v % 16 = 0 → one P0 (sg v) = true ∧ one P0 (sg (v + 1)) = false ∧ v + 1 < 64 := by decide +kernel
theorem sgP1 : ∀ v, v < 64 → v % 4 = 0 → one P1 (sg v) = true ∧ one P1 (sg (v + 1)) = false ∧ v + 1 < 64 := by decide +kernel
theorem oneP1_61 : one P1 61 = false := by decide +kernel
theorem sg_find : ∀ v, v < 64 → alpha.findIdx (· == sg v) = v ∧ alpha[v]? = some (sg v) := by decide +kernel
theorem sg_ne {v : Nat} (h : v < 64) : sg v ≠ 61 := (sg_low v h).2
/-- a text whose last sign ahead of its = is the v-th -/
structure Pd (x : List Nat) (u : List Nat) (v k : Nat) : Prop where
  eq : x = u ++ sg v :: List.replicate (k + 1) 61
  ne : ∀ c ∈ u, c ≠ 61
  lt : v + 1 < 64
  few : u.length + k ≤ 20
section
variable {x u : List Nat} {v k : Nat}
theorem Pd.idx (p : Pd x u v k) : x.findIdx (· == 61) = u.length + 1 := by
  rw [p.eq, List.findIdx_append, List.findIdx_eq_length_of_false (by intro c m; simpa using p.ne c m)]
  rw [if_neg (Nat.lt_irrefl _), List.findIdx_cons]
  have : (sg v == 61) = false := by simpa using sg_ne (show v < 64 from Nat.lt_of_succ_lt p.lt)
  rw [this, List.replicate_succ, List.findIdx_cons]
  simp
  omega
theorem Pd.at (p : Pd x u v k) : x.getD (x.findIdx (· == 61) - 1) 0 = sg v := by
  rw [p.idx, Nat.add_sub_cancel, p.eq, List.getD_eq_getElem?_getD, List.getElem?_append_right (Nat.le_refl _), Nat.sub_self]; rfl
theorem Pd.sp (p : Pd x u v k) : Sp x := by
  have hv := Nat.lt_of_succ_lt p.lt
  have := p.few
  refine ⟨?_, ?_, by rw [p.idx]; omega, ?_, ?_⟩
  · rw [p.eq]; simp; omega
  · rw [p.idx, p.eq, List.getElem?_append_right (by omega), show u.length + 1 - u.length = 1 by omega]; rfl
  · rw [p.at, (sg_find v hv).1]; exact (sg_find v hv).2
  · rw [p.at, (sg_find v hv).1]; exact p.lt
theorem Pd.spoilt (p : Pd x u v k) : Mine.spoilt x = u ++ sg (v + 1) :: List.replicate (k + 1) 61 := by
  have hv := Nat.lt_of_succ_lt p.lt
  unfold Mine.spoilt
  rw [p.at, (sg_find v hv).1, p.idx]
  rw [show (((u.length + 1 : Nat) : Int) - 1) = ((u.length : Nat) : Int) by omega, show ((u.length : Nat) : Int) + 1 = ((u.length + 1 : Nat) : Int) by omega, cut_to, cut_from, p.eq]
  rw [List.take_left, show u ++ sg v :: List.replicate (k + 1) 61 = (u ++ [sg v]) ++ List.replicate (k + 1) 61 by simp, show u.length + 1 = (u ++ [sg v]).length by simp, List.drop_left]
  simp [sg]
theorem ends_snoc (y : List Nat) (c : Nat) : Mine.ends (y ++ [c]) = decide (c = 61) := by
  unfold Mine.ends
  rw [cut_last, List.length_append, show y.length + [c].length - 1 = y.length by simp, List.drop_left, Bool.eq_iff_iff, decide_eq_true_eq, decide_eq_true_eq, List.cons.injEq]
  exact ⟨fun h => h.1, fun h => ⟨h, rfl⟩⟩
theorem Pd.ends (p : Pd x u v k) : Mine.ends x = true := by
  have e : x = (u ++ sg v :: List.replicate k 61) ++ [61] := by
    rw [p.eq, List.replicate_succ']; simp
  rw [e, ends_snoc]; rfl
end
/-- the plain law of one row -/
structure Row (l : List UInt8) : Prop where
  t0 : takes [P0, [61], [61]] (Mine.text l) = decide (l.length % 3 = 1)
  t1 : takes [P1, [61]] (Mine.text l) = decide (l.length % 3 = 2)
  t2 : takes [P2] (Mine.text l) = (decide (l.length % 3 = 0) && !decide (Mine.text l = []))
  nil : Mine.text l = [] ↔ l = []
  en : Mine.ends (Mine.text l) = true → ∃ u v k, Pd (Mine.text l) u v k
  sp : Mine.ends (Mine.text l) = true → takes [P0, [61], [61]] (spoilt (Mine.text l)) = false ∧ takes [P1, [61]] (spoilt (Mine.text l)) = false ∧ takes [P2] (spoilt (Mine.text l)) = false
theorem all3 (p q r : List Nat) (a b c : Nat) : (([p, q, r] : List (List Nat)).zip [a, b, c]).all (fun p => one p.1 p.2) = (one p a && (one q b && one r c)) := by
  simp [List.all]
theorem all2 (p q : List Nat) (a b : Nat) : (([p, q] : List (List Nat)).zip [a, b]).all (fun p => one p.1 p.2) = (one p a && one q b) := by
  simp [List.all]
theorem all1 (p : List Nat) (a : Nat) : (([p] : List (List Nat)).zip [a]).all (fun p => one p.1 p.2) = one p a := by
  simp [List.all]
theorem row2 {l : List UInt8} {u : List Nat} {v : Nat} (hl : l.length % 3 = 1) (p : Pd (Mine.text l) u v 1) (h16 : v % 16 = 0) (hn : l ≠ []) : Row l := by
  have hv := Nat.lt_of_succ_lt p.lt
  have e1 : Mine.text l = u ++ [sg v, 61, 61] := p.eq
  have s1 : spoilt (Mine.text l) = u ++ [sg (v + 1), 61, 61] := p.spoilt
  have f := sgP0 v hv h16
  refine ⟨?_, ?_, ?_, ⟨fun h => ?_, fun h => absurd h hn⟩, fun _ => ⟨u, v, 1, p⟩, fun _ => ⟨?_, ?_, ?_⟩⟩
  · rw [e1, takes_end rfl, all3, f.1, one61, hl]; rfl
  · rw [e1, show u ++ [sg v, 61, 61] = (u ++ [sg v]) ++ [61, 61] by simp, takes_end rfl, all2, oneP1_61, hl]; rfl
  · rw [e1, show u ++ [sg v, 61, 61] = (u ++ [sg v, 61]) ++ [61] by simp, takes_end rfl, all1, oneP2, hl]; rfl
  · rw [e1] at h; simp at h
  · rw [s1, takes_end rfl, all3, f.2.1]; rfl
  · rw [s1, show u ++ [sg (v + 1), 61, 61] = (u ++ [sg (v + 1)]) ++ [61, 61] by simp, takes_end rfl, all2, oneP1_61]; rfl
  · rw [s1, show u ++ [sg (v + 1), 61, 61] = (u ++ [sg (v + 1), 61]) ++ [61] by simp, takes_end rfl, all1, oneP2]; rfl
theorem row1 {l : List UInt8} {u : List Nat} {v w : Nat} (hl : l.length % 3 = 2) (p : Pd (Mine.text l) (u ++ [w]) v 0) (h4 : v % 4 = 0) (hn : l ≠ []) : Row l := by
  have hv := Nat.lt_of_succ_lt p.lt
  have e1 : Mine.text l = u ++ [w, sg v, 61] := by rw [p.eq]; simp
  have s1 : spoilt (Mine.text l) = u ++ [w, sg (v + 1), 61] := by rw [p.spoilt]; simp
  have f := sgP1 v hv h4
  refine ⟨?_, ?_, ?_, ⟨fun h => ?_, fun h => absurd h hn⟩, fun _ => ⟨u ++ [w], v, 0, p⟩, fun _ => ⟨?_, ?_, ?_⟩⟩
  · rw [e1, takes_end rfl, all3, one61, decide_eq_false (sg_ne hv), hl]; simp
  · rw [e1, show u ++ [w, sg v, 61] = (u ++ [w]) ++ [sg v, 61] by simp, takes_end rfl, all2, f.1, one61, hl]; rfl
  · rw [e1, show u ++ [w, sg v, 61] = (u ++ [w, sg v]) ++ [61] by simp, takes_end rfl, all1, oneP2, hl]; rfl
  · rw [e1] at h; simp at h
  · rw [s1, takes_end rfl, all3, one61, decide_eq_false (sg_ne p.lt)]; simp
  · rw [s1, show u ++ [w, sg (v + 1), 61] = (u ++ [w]) ++ [sg (v + 1), 61] by simp, takes_end rfl, all2, f.2.1]; rfl
  · rw [s1, show u ++ [w, sg (v + 1), 61] = (u ++ [w, sg (v + 1)]) ++ [61] by simp, takes_end rfl, all1, oneP2]; rfl
theorem row0 {l : List UInt8} {u : List Nat} {a b c : Nat} (hl : l.length % 3 = 0) (e1 : Mine.text l = u ++ [a, b, c]) (hc : c ≠ 61) (hn : l ≠ []) : Row l := by
  have en : Mine.ends (Mine.text l) = false := by
    rw [e1, show u ++ [a, b, c] = (u ++ [a, b]) ++ [c] by simp, ends_snoc]; exact decide_eq_false hc
  refine ⟨?_, ?_, ?_, ⟨fun h => ?_, fun h => absurd h hn⟩, fun h => ?_, fun h => ?_⟩
  · rw [e1, takes_end rfl, all3, one61, one61, decide_eq_false hc, hl]; simp
  · rw [e1, show u ++ [a, b, c] = (u ++ [a]) ++ [b, c] by simp, takes_end rfl, all2, one61, decide_eq_false hc, hl]; simp
  · have hne : ¬ (Mine.text l = []) := by rw [e1]; simp
    rw [decide_eq_false hne, e1, show u ++ [a, b, c] = (u ++ [a, b]) ++ [c] by simp, takes_end rfl, all1, oneP2, decide_eq_false hc, hl]; rfl
  · rw [e1] at h; simp at h
  · rw [en] at h; cases h
  · rw [en] at h; cases h
theorem rowN : Row [] := by
  have e : Mine.text [] = [] := rfl
  refine ⟨rfl, rfl, rfl, ⟨fun _ => rfl, fun _ => rfl⟩, fun h => ?_, fun h => ?_⟩
  · rw [e] at h; exact absurd h (by decide)
  · rw [e] at h; exact absurd h (by decide)
theorem row_all : ∀ l : List UInt8, l.length ≤ 5 → Row l
  | [], _ => rowN
  | [a], h => by
    have ha := a.toNat_lt
    exact row2 (u := [sg (a.toNat / 4)]) (v := a.toNat % 4 * 16) rfl ⟨text_canon [a] h, by intro c m; rw [List.mem_singleton.mp m]; exact sg_ne (by omega), by omega, by simp⟩ (by omega) (List.cons_ne_nil _ _)
  | [a, b], h => by
    have ha := a.toNat_lt
    have hb := b.toNat_lt
    exact row1 (u := [sg (a.toNat / 4)]) (w := sg (a.toNat % 4 * 16 + b.toNat / 16)) (v := b.toNat % 16 * 4) rfl ⟨text_canon [a, b] h, by
      intro c m
      simp only [List.cons_append, List.nil_append, List.mem_cons, List.not_mem_nil, or_false] at m
      rcases m with rfl | rfl <;> exact sg_ne (by omega), by omega, by simp⟩ (by omega) (List.cons_ne_nil _ _)
  | [a, b, c], h => row0 (u := [sg (a.toNat / 4)]) (by simp) (text_canon [a, b, c] h) (sg_ne (by have := c.toNat_lt; omega)) (List.cons_ne_nil _ _)
  | [a, b, c, d], h => by
    have ha := a.toNat_lt
    have hb := b.toNat_lt
    have hc := c.toNat_lt
    have hd := d.toNat_lt
    exact row2 (u := (c3 a.toNat b.toNat c.toNat).map sg ++ [sg (d.toNat / 4)]) (v := d.toNat % 4 * 16) (by simp) ⟨text_canon [a, b, c, d] h, by
      intro x m
      simp only [c3, List.map_cons, List.map_nil, List.cons_append, List.nil_append, List.mem_cons, List.not_mem_nil, or_false] at m
      rcases m with rfl | rfl | rfl | rfl | rfl <;> exact sg_ne (by omega), by omega, by simp [c3]⟩ (by omega) (List.cons_ne_nil _ _)
  | [a, b, c, d, e], h => by
    have ha := a.toNat_lt
    have hb := b.toNat_lt
    have hc := c.toNat_lt
    have hd := d.toNat_lt
    have he := e.toNat_lt
    exact row1 (u := (c3 a.toNat b.toNat c.toNat).map sg ++ [sg (d.toNat / 4)]) (w := sg (d.toNat % 4 * 16 + e.toNat / 16)) (v := e.toNat % 16 * 4) (by simp) ⟨text_canon [a, b, c, d, e] h, by
      intro x m
      simp only [c3, List.map_cons, List.map_nil, List.cons_append, List.nil_append, List.mem_cons, List.not_mem_nil, or_false] at m
      rcases m with rfl | rfl | rfl | rfl | rfl | rfl <;> exact sg_ne (by omega), by omega, by simp [c3]⟩ (by omega) (List.cons_ne_nil _ _)
  | _ :: _ :: _ :: _ :: _ :: _ :: _, h => by simp at h
end Mine
end
section
set_option genInjectivity false
set_option genSizeOf false
set_option maxHeartbeats 4000000
open PySem PySem.W PyProof.Rows PySem.Spec PySem.Calls PySem.SeqAt
namespace Mine
variable [Inhabited Bnd]
theorem byteArr_len (l : List Int) : (byteArr l).toList.length = l.length := by simp [byteArr]
theorem rows_short (ns : List Int) : ∀ b ∈ rowsOf ns, b.length ≤ 5 := fun b m => by
  rcases List.mem_append.mp m with m | m
  · obtain ⟨k, hk, rfl⟩ := List.mem_map.mp m
    rw [byteArr_len, List.length_take]
    exact Nat.le_trans (Nat.min_le_right ..) (by decide)
  · obtain ⟨x, _, rfl⟩ := List.mem_map.mp m
    rw [byteArr_len, oct, List.length_map, List.length_range]
    have := fmod6 x
    omega
theorem rows_many (ns : List Int) : 6 ≤ (rowsOf ns).length ∧ (rowsOf ns).length ≤ 10 := by
  rw [rowsOf, List.length_append, List.length_map, List.length_map, List.length_range, List.length_take]
  omega
theorem rw_all (ns : List Int) : Rw (rowsOf ns) := by
  have hs := rows_short ns
  have sp : ∀ b ∈ rowsOf ns, ends (Mine.text b) = true → ∃ u v k, Pd (Mine.text b) u v k := fun b m e => (row_all b (hs b m)).en e
  refine ⟨fun b m => six_all b (hs b m), fun b m => bs_all b (hs b m), fun b m => same_all b (hs b m), fun b m => low_all b (hs b m), fun b m => Nat.le_trans (few_all b (hs b m)) (by decide), fun b m e => ?_, fun b m e => ?_, fun b m e c mc => ?_, (rows_many ns).2, (rows_many ns).1⟩
  · obtain ⟨u, v, k, p⟩ := sp b m e; exact p.sp
  · obtain ⟨u, v, k, p⟩ := sp b m e
    have := p.few
    rw [p.spoilt]; simp; omega
  · obtain ⟨u, v, k, p⟩ := sp b m e
    rw [p.spoilt] at mc
    rcases List.mem_append.mp mc with mc | mc
    · exact low_all b (hs b m) c (by rw [p.eq]; exact List.mem_append_left _ mc)
    · rcases List.mem_cons.mp mc with rfl | mc
      · exact (sg_low _ p.lt).1
      · rw [List.eq_of_mem_replicate mc]; decide
theorem range_pick {α β : Type} (p : α → Bool) (f : α → β) (z : α) (z' : β) : ∀ l : List α, ((List.range l.length).filter fun k => p (l.getD k z)).map (fun k => (l.map f).getD k z') = (l.filter p).map f
  | [] => rfl
  | x :: l => by
    have ih := range_pick p f z z' l
    rw [List.length_cons, List.range_succ_eq_map, List.filter_cons, List.filter_map]
    have e1 : ((fun k => p ((x :: l).getD k z)) ∘ Nat.succ) = fun k => p (l.getD k z) := by funext k; simp
    have e2 : ((fun k => (List.map f (x :: l)).getD k z') ∘ Nat.succ) = fun k => (List.map f l).getD k z' := by funext k; simp
    rw [e1]
    cases h : p x with
    | true =>
      rw [if_pos (by simpa using h), List.filter_cons_of_pos h, List.map_cons, List.map_map, e2, ih]; rfl
    | false =>
      rw [if_neg (by simp [h]), List.filter_cons_of_neg (by simp [h]), List.map_map, e2, ih]
def pz (z : Int) (b : List UInt8) : Bool := ((b.length : Int).fmod 3 == z) && (Mine.text b != [])
theorem size_eq (R : List (List UInt8)) (z : Int) : sizeOf R z = (R.filter (pz z)).map Mine.text := by
  rw [← range_pick (pz z) Mine.text [] []]
  unfold sizeOf
  congr 1
  refine List.filter_congr fun k hk => ?_
  have hk := List.mem_range.mp hk
  unfold fits pz plainOf
  congr 2
  rw [List.getD_eq_getElem?_getD, List.getD_eq_getElem?_getD, List.getElem?_map, List.getElem?_eq_getElem hk]
  rfl
theorem pz_eq {b : List UInt8} (r : Row b) : pz 1 b = takes [P0, [61], [61]] (Mine.text b) ∧ pz 2 b = takes [P1, [61]] (Mine.text b) ∧ pz 0 b = takes [P2] (Mine.text b) := by
  have hm : (b.length : Int).fmod 3 = ((b.length % 3 : Nat) : Int) := by rw [Int.fmod_eq_emod_of_nonneg _ (by decide)]; omega
  have hn : ∀ k, b.length % 3 = k + 1 → Mine.text b ≠ [] := fun k h e => by rw [r.nil.mp e] at h; simp at h
  unfold pz
  rw [r.t0, r.t1, r.t2, hm]
  refine ⟨?_, ?_, ?_⟩
  · by_cases h : b.length % 3 = 1
    · rw [h]; simpa using hn 0 h
    · rw [decide_eq_false h]
      have : (((b.length % 3 : Nat) : Int) == 1) = false := by simp; omega
      rw [this]; rfl
  · by_cases h : b.length % 3 = 2
    · rw [h]; simpa using hn 1 h
    · rw [decide_eq_false h]
      have : (((b.length % 3 : Nat) : Int) == 2) = false := by simp; omega
      rw [this]; rfl
  · by_cases h : b.length % 3 = 0
    · rw [h]; generalize Mine.text b = t; cases t <;> rfl
    · rw [decide_eq_false h]
      have : (((b.length % 3 : Nat) : Int) == 0) = false := by simp; omega
      rw [this]; rfl
end Mine
end
section
set_option genInjectivity false
set_option genSizeOf false
set_option maxHeartbeats 4000000
open PySem PySem.W PyProof.Rows PySem.Spec PySem.Calls PySem.SeqAt
namespace Mine
variable [Inhabited Bnd]
theorem takes_nil (x : List Nat) : takes [] x = true := by
  unfold takes; rw [if_neg (by simp)]; rfl
theorem spoilt_no {R : List (List UInt8)} (hs : ∀ b ∈ R, b.length ≤ 5) : ∀ y ∈ ((plainOf R).filter ends).map spoilt, takes [P0, [61], [61]] y = false ∧ takes [P1, [61]] y = false ∧ takes [P2] y = false := fun y m => by
  obtain ⟨x, m1, rfl⟩ := List.mem_map.mp m
  obtain ⟨m2, e⟩ := List.mem_filter.mp m1
  obtain ⟨b, hb, rfl⟩ := List.mem_map.mp m2
  exact (row_all b (hs b hb)).sp e
theorem pick_eq {R : List (List UInt8)} {ps : List (List Nat)} {z : Int} (hs : ∀ b ∈ R, pz z b = takes ps (Mine.text b)) (hn : ∀ y ∈ ((plainOf R).filter ends).map spoilt, takes ps y = false) : (textsOf R).filter (takes ps) = sizeOf R z := by
  rw [textsOf, List.filter_append, size_eq]
  have e2 : (((plainOf R).filter ends).map spoilt).filter (takes ps) = [] := List.filter_eq_nil_iff.mpr fun y m => by rw [hn y m]; decide
  rw [e2, List.append_nil, plainOf, List.filter_map]
  congr 1
  exact List.filter_congr fun b m => (hs b m).symm
theorem told_due {R : List (List UInt8)} (hs : ∀ b ∈ R, b.length ≤ 5) : toldOf (textsOf R) = dueOf R := by
  have h0 : (textsOf R).filter (takes [P0, [61], [61]]) = sizeOf R 1 := pick_eq (fun b m => (pz_eq (row_all b (hs b m))).1) fun y m => (spoilt_no hs y m).1
  have h1 : (textsOf R).filter (takes [P1, [61]]) = sizeOf R 2 := pick_eq (fun b m => (pz_eq (row_all b (hs b m))).2.1) fun y m => (spoilt_no hs y m).2.1
  have h2 : (textsOf R).filter (takes [P2]) = sizeOf R 0 := pick_eq (fun b m => (pz_eq (row_all b (hs b m))).2.2) fun y m => (spoilt_no hs y m).2.2
  have h3 : (textsOf R).filter (takes []) = textsOf R := List.filter_eq_self.mpr fun x _ => takes_nil x
  show [((textsOf R).filter (takes [P0, [61], [61]])).map (fun t => [t]), ((textsOf R).filter (takes [P1, [61]])).map (fun t => [t]), ((textsOf R).filter (takes [P2])).map (fun t => [t]), ((textsOf R).filter (takes [])).map (fun t => [t])] = _
  rw [h0, h1, h2, h3]
  rfl
/-! do two lists hold the same -/
section
variable {α : Type} [DecidableEq α]
theorem ddp_mem' : ∀ (xs acc : List α) (z : α), z ∈ xs.foldl (fun acc x => if x ∈ acc then acc else acc ++ [x]) acc ↔ z ∈ acc ∨ z ∈ xs
  | [], acc, z => by simp
  | x :: xs, acc, z => by
    rw [List.foldl_cons, ddp_mem' xs]
    by_cases h : x ∈ acc
    · rw [if_pos h]
      constructor
      · rintro (q | q)
        · exact .inl q
        · exact .inr (.tail _ q)
      · rintro (q | q)
        · exact .inl q
        · rcases List.mem_cons.mp q with rfl | q
          · exact .inl h
          · exact .inr q
    · rw [if_neg h]
      simp only [List.mem_append, List.mem_cons, List.not_mem_nil, or_false]
      constructor
      · rintro ((q | q) | q)
        · exact .inl q
        · exact .inr (.inl q)
        · exact .inr (.inr q)
      · rintro (q | q | q)
        · exact .inl (.inl q)
        · exact .inl (.inr q)
        · exact .inr q
theorem ddp_mem (xs : List α) (z : α) : z ∈ ddp xs ↔ z ∈ xs := by
  unfold ddp; rw [ddp_mem']; simp
theorem ddp_nodup' : ∀ (xs acc : List α), acc.Nodup → (xs.foldl (fun acc x => if x ∈ acc then acc else acc ++ [x]) acc).Nodup
  | [], _, h => h
  | x :: xs, acc, h => by
    rw [List.foldl_cons]
    refine ddp_nodup' xs _ ?_
    by_cases q : x ∈ acc
    · rw [if_pos q]; exact h
    · rw [if_neg q]
      refine List.nodup_append.mpr ⟨h, List.nodup_cons.mpr ⟨List.not_mem_nil, List.nodup_nil⟩, fun a ha b hb e => ?_⟩
      rw [List.mem_singleton.mp hb] at e
      exact q (e ▸ ha)
theorem ddp_nodup (xs : List α) : (ddp xs).Nodup := ddp_nodup' xs [] List.nodup_nil
theorem rmv_spec : ∀ (xs t : List α), xs.Nodup → t.Nodup → (match rmv t xs with | some t' => (∀ x ∈ xs, x ∈ t) ∧ (∀ z, z ∈ t' ↔ z ∈ t ∧ z ∉ xs) | none => ¬ ∀ x ∈ xs, x ∈ t)
  | [], t, _, _ => by
    show (∀ x ∈ [], x ∈ t) ∧ _
    simp
  | x :: xs, t, hx, ht => by
    have hx' := List.nodup_cons.mp hx
    unfold rmv
    rw [List.foldl_cons]
    by_cases q : x ∈ t
    · simp only [Option.bind_some, q, if_true]
      have ih := rmv_spec xs (t.erase x) hx'.2 (ht.erase x)
      change match rmv (t.erase x) xs with | some t' => _ | none => _
      cases e : rmv (t.erase x) xs with
      | some t' =>
        rw [e] at ih
        refine ⟨fun y hy => ?_, fun z => ?_⟩
        · rcases List.mem_cons.mp hy with rfl | hy
          · exact q
          · exact List.mem_of_mem_erase (ih.1 y hy)
        · rw [ih.2 z, ht.mem_erase_iff]
          constructor
          · rintro ⟨⟨h1, h2⟩, h3⟩
            exact ⟨h2, fun m => by rcases List.mem_cons.mp m with m | m; exact h1 m; exact h3 m⟩
          · rintro ⟨h1, h2⟩
            exact ⟨⟨fun e => h2 (e ▸ .head _), h1⟩, fun m => h2 (.tail _ m)⟩
      | none =>
        rw [e] at ih
        refine fun h => ih fun y hy => (ht.mem_erase_iff).mpr ⟨fun e => hx'.1 (e ▸ hy), h y (.tail _ hy)⟩
    · simp only [Option.bind_some, q, if_false]
      rw [rmv_none']
      exact fun h => q (h x (.head _))
theorem cmpo_spec (xs ys : List α) : cmpo xs ys = true ↔ ∀ z, z ∈ xs ↔ z ∈ ys := by
  have h := rmv_spec (ddp xs) (ddp ys) (ddp_nodup _) (ddp_nodup _)
  unfold cmpo
  cases e : rmv (ddp ys) (ddp xs) with
  | some t =>
    rw [e] at h
    simp only [List.isEmpty_iff]
    constructor
    · rintro rfl z
      have := h.2 z
      constructor
      · intro m
        exact (ddp_mem ys z).mp (h.1 z ((ddp_mem xs z).mpr m))
      · intro m
        have m' := (ddp_mem ys z).mpr m
        refine (ddp_mem xs z).mp (Decidable.byContradiction fun n => ?_)
        exact absurd (this.mpr ⟨m', n⟩) List.not_mem_nil
    · intro q
      refine List.eq_nil_iff_forall_not_mem.mpr fun z m => ?_
      have := (h.2 z).mp m
      exact this.2 ((ddp_mem xs z).mpr ((q z).mpr ((ddp_mem ys z).mp this.1)))
  | none =>
    rw [e] at h
    constructor
    · intro q; cases q
    · intro q
      exact absurd (fun x hx => (ddp_mem ys x).mpr ((q x).mp ((ddp_mem xs x).mp hx))) h
theorem cmpo_comm (xs ys : List α) : cmpo xs ys = cmpo ys xs := by
  rw [Bool.eq_iff_iff, cmpo_spec, cmpo_spec]
  exact forall_congr' fun z => Iff.comm
end
end Mine
end
section
set_option genInjectivity false
set_option genSizeOf false
set_option maxHeartbeats 4000000
open PySem PySem.W PyProof.Rows PySem.Spec PySem.Calls PySem.SeqAt
namespace Mine
variable [Inhabited Bnd]
section
variable (F : List Nat → Bool) (A D : List (List Nat)) (pl : List Nat)
abbrev wr (l : List (List Nat)) : List (List (List Nat)) := (l.filter F).map fun t => [t]
theorem mem_wr {l : List (List Nat)} {z : List (List Nat)} : z ∈ wr F l ↔ ∃ x, x ∈ l ∧ F x = true ∧ z = [x] := by
  simp only [wr, List.mem_map, List.mem_filter]
  constructor
  · rintro ⟨x, ⟨h1, h2⟩, rfl⟩; exact ⟨x, h1, h2, rfl⟩
  · rintro ⟨x, h1, h2, rfl⟩; exact ⟨x, ⟨h1, h2⟩, rfl⟩
theorem cnt_wr (l : List (List Nat)) : cnt (wr F l) [pl] = l.countP fun x => decide (x = pl) && F x := by
  show List.countP (fun x => @BEq.beq _ instBEqOfDecidableEq x [pl]) ((l.filter F).map fun t => [t]) = _
  rw [List.countP_map, List.countP_filter]
  congr 1
  funext x
  congr 1
  rw [Bool.eq_iff_iff]
  simp
theorem one_left : cmpo (wr F (A ++ pl :: D)) (wr F (A ++ D).reverse ++ wr F (A ++ D).reverse) = (lacks (wr F (A ++ pl :: D)) [pl] || decide (1 < (cnt (wr F (A ++ pl :: D)) [pl] : Int))) := by
  have hl : lacks (wr F (A ++ pl :: D)) [pl] = !F pl := by
    unfold lacks
    rw [Bool.eq_iff_iff]
    simp only [Bool.not_eq_true', decide_eq_false_iff_not, mem_wr]
    constructor
    · intro h
      cases q : F pl with
      | false => rfl
      | true => exact absurd ⟨pl, by simp, q, rfl⟩ h
    · rintro h ⟨x, _, h2, e⟩
      cases e
      rw [h2] at h; cases h
  have hc : F pl = true → (1 < cnt (wr F (A ++ pl :: D)) [pl] ↔ pl ∈ A ++ D) := fun hF => by
    rw [cnt_wr, List.countP_append, List.countP_cons]
    have e : (decide (pl = pl) && F pl) = true := by rw [hF]; simp
    rw [if_pos e]
    have h1 : ∀ l : List (List Nat), 0 < l.countP (fun x => decide (x = pl) && F x) ↔ pl ∈ l := fun l => by
      rw [List.countP_pos_iff]
      constructor
      · rintro ⟨x, m, h⟩
        simp only [Bool.and_eq_true, decide_eq_true_eq] at h
        exact h.1 ▸ m
      · intro m
        exact ⟨pl, m, e⟩
    have hA := h1 A
    have hD := h1 D
    rw [List.mem_append, ← hA, ← hD]
    omega
  rw [hl, Bool.eq_iff_iff, cmpo_spec, Bool.or_eq_true, decide_eq_true_eq]
  have hcast : (1 : Int) < (cnt (wr F (A ++ pl :: D)) [pl] : Int) ↔ 1 < cnt (wr F (A ++ pl :: D)) [pl] := by omega
  rw [hcast]
  cases hF : F pl with
  | false =>
    refine ⟨fun _ => .inl rfl, fun _ z => ?_⟩
    rw [List.mem_append, or_self, mem_wr, mem_wr]
    refine exists_congr fun x => ?_
    constructor
    · rintro ⟨h1, h2, h3⟩
      refine ⟨List.mem_reverse.mpr ?_, h2, h3⟩
      rcases List.mem_append.mp h1 with m | m
      · exact List.mem_append_left _ m
      · rcases List.mem_cons.mp m with rfl | m
        · rw [hF] at h2; cases h2
        · exact List.mem_append_right _ m
    · rintro ⟨h1, h2, h3⟩
      refine ⟨?_, h2, h3⟩
      rcases List.mem_append.mp (List.mem_reverse.mp h1) with m | m
      · exact List.mem_append_left _ m
      · exact List.mem_append_right _ (.tail _ m)
  | true =>
    rw [hc hF]
    constructor
    · intro h
      refine .inr ?_
      have := (h [pl]).mp ((mem_wr F).mpr ⟨pl, by simp, hF, rfl⟩)
      rw [List.mem_append, or_self, mem_wr] at this
      obtain ⟨x, m, _, e⟩ := this
      cases e
      exact List.mem_reverse.mp m
    · rintro (h | h)
      · cases h
      · intro z
        rw [List.mem_append, or_self, mem_wr, mem_wr]
        refine exists_congr fun x => ?_
        constructor
        · rintro ⟨h1, h2, h3⟩
          refine ⟨List.mem_reverse.mpr ?_, h2, h3⟩
          rcases List.mem_append.mp h1 with m | m
          · exact List.mem_append_left _ m
          · rcases List.mem_cons.mp m with rfl | m
            · exact h
            · exact List.mem_append_right _ m
        · rintro ⟨h1, h2, h3⟩
          refine ⟨?_, h2, h3⟩
          rcases List.mem_append.mp (List.mem_reverse.mp h1) with m | m
          · exact List.mem_append_left _ m
          · exact List.mem_append_right _ (.tail _ m)
end
theorem both_same {R : List (List UInt8)} {p : Nat} (hs : ∀ b ∈ R, b.length ≤ 5) (hp : p < R.length) : bothOf (toldOf (textsOf R)) (toldOf (restOf p (textsOf R))) = (sameOf R p).map fun o => [o, o] := by
  have hpl : p < (plainOf R).length := by rw [plainOf, List.length_map]; exact hp
  have hT : p < (textsOf R).length := by rw [textsOf, List.length_append]; omega
  have hat' : (textsOf R)[p]? = some ((plainOf R).getD p []) := by
    rw [textsOf, List.getElem?_append_left hpl, List.getD_eq_getElem?_getD, List.getElem?_eq_getElem hpl]; rfl
  have hat : (textsOf R)[p] = (plainOf R).getD p [] := Option.some.inj ((List.getElem?_eq_getElem hT).symm.trans hat')
  have hsplit : textsOf R = (textsOf R).take p ++ (plainOf R).getD p [] :: (textsOf R).drop (p + 1) := by
    rw [← hat, ← List.drop_eq_getElem_cons hT, List.take_append_drop]
  unfold sameOf bothOf
  rw [← told_due hs]
  unfold toldOf
  rw [List.zip_map', List.map_map, List.map_map, List.map_map]
  refine List.map_congr_left fun ts _ => ?_
  have h := one_left (takes (ts.map Tk.out)) ((textsOf R).take p) ((textsOf R).drop (p + 1)) ((plainOf R).getD p [])
  rw [← hsplit] at h
  show [cmpo (sel ts (textsOf R)) (sel ts (restOf p (textsOf R)) ++ sel ts (restOf p (textsOf R))), cmpo (sel ts (restOf p (textsOf R)) ++ sel ts (restOf p (textsOf R))) (sel ts (textsOf R))] = _
  rw [cmpo_comm (sel ts (restOf p (textsOf R)) ++ sel ts (restOf p (textsOf R)))]
  have h' : cmpo (sel ts (textsOf R)) (sel ts (restOf p (textsOf R)) ++ sel ts (restOf p (textsOf R))) = _ := h
  rw [h']
  rfl
theorem ans_true (ns : List Int) : ansOf ns = true := by
  have hs := rows_short ns
  have hm := rows_many ns
  have hp : placeOf ns (rowsOf ns) < (rowsOf ns).length := by
    have h1 := Int.fmod_nonneg_of_pos (2 + (ns.take 4).sum) (show (0 : Int) < ((rowsOf ns).length : Int) by omega)
    have h2 := Int.fmod_lt_of_pos (2 + (ns.take 4).sum) (show (0 : Int) < ((rowsOf ns).length : Int) by omega)
    rw [placeOf]; omega
  show (decide (toldOf (textsOf (rowsOf ns)) = dueOf (rowsOf ns)) && decide (bothOf (toldOf (textsOf (rowsOf ns))) (toldOf (restOf (placeOf ns (rowsOf ns)) (textsOf (rowsOf ns)))) = (sameOf (rowsOf ns) (placeOf ns (rowsOf ns))).map fun o => [o, o])) = true
  rw [decide_eq_true (told_due hs), decide_eq_true (both_same hs hp)]; rfl
end Mine
end
section
set_option maxHeartbeats 8000000
open PySem PySem.W PySem.W.X PyProof.Rows PySem.Spec PySem.Calls
namespace Mine
def view : Program := { pw with main := { pw.main with body := [0,1,2,4,5,7,9,10,11,16,17,19,20,21,22,23,24,25].filterMap (pw.main.body[·]?) } }
abbrev lo : List PySem.Str := ["_twin_re_1", "_special_chars_map", "b2a_base64", "b64encode"]
abbrev row : OpenRow := PySem.Challenge.rw_ik0153_01.row
/-! what is looked at in the state behind the top -/
def fdAt (h : Heap) (m : Str → Option Value) (n : Str) : Option FuncData := match m n with
  | some (.ref a) => match h.get? a with
    | some o => match o.data with
      | .func fd => some fd
      | _ => none
    | none => none
  | _ => none
def nf (fd : FuncData) : FuncData := { fd with pyModule := .none, code := .none, doc := .none, defaults := .none, kwdefaults := .none }
def isNone : Value → Bool
  | .none => true
  | _ => false
def codeOk (h : Heap) (cd : Value) (q : Str) : Bool := match cd with
  | .ref c => match h.get? c with
    | some o => match o.data with
      | .fields vs => match vs.getD 1 .none with
        | .str x _ => decide (x = q)
        | _ => false
      | _ => false
    | none => false
  | _ => false
def dflt1 (h : Heap) (v : Value) : Bool := match v with
  | .ref T => match h.get? T with
    | some o => match o.data with
      | .seq vs _ => vs.size == 1
      | _ => false
    | none => false
  | _ => false
def tabIs (h : Heap) (cd : Value) : Bool := match cd with
  | .ref c => match h.get? c with
    | some o => match o.data with
      | .fields vs => match vs.getD 11 .none with
        | .ref p => p == 57
        | _ => false
      | _ => false
    | none => false
  | _ => false
def b64Ok (m : Str → Option Value) : Bool := match m "_B64" with
  | some (.bytes b _) => decide (b.toList = b64s)
  | _ => false
def scOk (h : Heap) (m : Str → Option Value) : Bool := match m "_special_chars_map" with
  | some (.ref a) => !(a == sysModules) && match h.get? a with
    | some o => (match o.cls with | .type c => c == "dict" | _ => false) && match o.data with
      | .dict es _ => es.toList.all keyOk
      | _ => false
    | none => false
  | _ => false
def ptOk (h : Heap) (m : Str → Option Value) : Bool := match m "_twin_re_1" with
  | some (.ref a) => match h.get? a with
    | some o => (match o.cls with | .type c => c == "re.Pattern" | _ => false) && o.dict.isNone && match o.data with
      | .fields vs => (Builtin.Re.reRawNat (vs.getD 6 .none) == 0) && (Builtin.Re.reRawNat (vs.getD 2 .none) == 1) && match vs.getD 5 .none with
        | .ref C => match h.get? C with
          | some oc => match oc.data with
            | .seq items _ => decide (((items.map Builtin.Re.reRawOf).map (·.toNat)).toList = twin.toList)
            | _ => false
          | none => false
        | _ => false
      | _ => false
    | none => false
  | _ => false
def chk (h : Heap) : Bool :=
  let m := h.nsMap mainGlobals
  h.isNs mainGlobals && (match fdAt h m "b2a_base64" with | some fd => isNone fd.defaults && codeOk h fd.code "b2a_base64" | none => false) &&
  (match fdAt h m "b64encode" with | some fd => dflt1 h fd.defaults && codeOk h fd.code "b64encode" | none => false) &&
  (match fdAt h m "_translate" with | some fd => tabIs h fd.code | none => false) && b64Ok m && scOk h m && ptOk h m
def obs (s : Shared) : Option FuncData × Option FuncData × Bool := ((fdAt s.heap (s.heap.nsMap mainGlobals) "b2a_base64").map nf, (fdAt s.heap (s.heap.nsMap mainGlobals) "b64encode").map nf, chk s.heap)
def want : Option FuncData × Option FuncData × Bool := (some (docDef "b2a_base64" (dParams (stm 12)) (dBody (stm 12)) (dScope (stm 12)) .none .none .none), some (docDef "b64encode" (dParams (stm 14)) (dBody (stm 14)) (dScope (stm 14)) .none .none .none), true)
end Mine
end
section
set_option maxHeartbeats 8000000
open PySem PySem.W PySem.W.X PyProof.Rows PySem.Spec PySem.Calls
namespace Mine
abbrev Xt : Shared → Bool := fun s => xlAt view [] s && recOk row.toRowW.records s
abbrev lookAt (s : Shared) := (openSeen view lo (importedModules row.toRowW.prog.main.body) Xt true s, obs s)
theorem leaf1 (w : World) : (openEnds treeTable row.toRowW.prog ((w.withFollow "comprehension-iter-twice" false).withFollow "special-get-raises" false) 3894).map lookAt = some (openGood view lo, want) := by kernel_rfl
theorem leaf2 (w : World) : (openEnds treeTable row.toRowW.prog ((w.withFollow "comprehension-iter-twice" true).withFollow "special-get-raises" false) 3894).map lookAt = some (openGood view lo, want) := by kernel_rfl
theorem leaf3 (w : World) : (openEnds treeTable row.toRowW.prog ((w.withFollow "comprehension-iter-twice" false).withFollow "special-get-raises" true) 3894).map lookAt = some (openGood view lo, want) := by kernel_rfl
theorem leaf4 (w : World) : (openEnds treeTable row.toRowW.prog ((w.withFollow "comprehension-iter-twice" true).withFollow "special-get-raises" true) 3894).map lookAt = some (openGood view lo, want) := by kernel_rfl
theorem left : LeftO row.toRowW.prog view lo Xt obs (fun _ => want) 3894 :=
  byRow2 "special-get-raises" (P := fun w => (openEnds treeTable row.toRowW.prog w 3894).map lookAt = some (openGood view lo, want))
    (byRow2 "comprehension-iter-twice" (P := fun w => (openEnds treeTable row.toRowW.prog (w.withFollow "special-get-raises" false) 3894).map lookAt = some (openGood view lo, want)) leaf1 leaf2)
    (byRow2 "comprehension-iter-twice" (P := fun w => (openEnds treeTable row.toRowW.prog (w.withFollow "special-get-raises" true) 3894).map lookAt = some (openGood view lo, want)) leaf3 leaf4)
end Mine
end
section
set_option maxHeartbeats 8000000
open PySem PySem.W PySem.W.X PyProof.Rows PySem.Spec PySem.Calls
namespace Mine
theorem Ns.one {h : Heap} {a : Addr} {m m' : Str → Option Value} (x : h.Ns a m) (y : h.Ns a m') : m = m' := by
  obtain ⟨o, es, ep, e, d, _, r⟩ := x
  obtain ⟨o', es', ep', e', d', _, r'⟩ := y
  rw [e] at e'; cases e'
  rw [d] at d'; cases d'
  funext n
  rw [← r n, ← r' n]
/-- the heap with the table hidden -/
structure Hi (h g : Heap) : Prop where
  tab : h.get? tb = some (tabObj #[])
  eq : g = hideAll h [tb]
section
variable {h g : Heap}
theorem Hi.up (x : Hi h g) {b : Addr} {o : Obj} (e : h.get? b = some o) (n : o ≠ tabObj #[]) : g.get? b = some o := by
  rw [x.eq]
  refine hideAll_get _ e fun m => ?_
  rw [List.mem_singleton.mp m, x.tab] at e
  cases e
  exact n rfl
theorem Hi.ns (x : Hi h g) {a : Addr} {m : Str → Option Value} (n : h.Ns a m) : g.Ns a m := by
  obtain ⟨o, es, ep, e, d, r⟩ := n
  exact ⟨o, es, ep, x.up e (fun z => by rw [z] at d; cases d), d, r⟩
theorem Hi.code (x : Hi h g) {cd : Value} {q : Str} (n : h.CodeRec cd q) : g.CodeRec cd q := by
  obtain ⟨c, o, vs, t, e, g', d, r⟩ := n
  exact ⟨c, o, vs, t, e, x.up g' (fun z => by rw [z] at d; cases d; simp at r), d, r⟩
theorem Hi.lim (x : Hi h g) (n : h.NoLimit) : g.NoLimit := let ⟨mc, n, e⟩ := n; ⟨mc, x.ns n, e⟩
theorem Hi.seer (x : Hi h g) (n : h.NoSeer) : g.NoSeer where
  statics := let ⟨mc, a, b⟩ := n.statics; ⟨mc, x.ns a, b⟩
  mods := let ⟨mc, a, b⟩ := n.mods; ⟨mc, x.ns a, b⟩
  imp := let ⟨mc, a, b⟩ := n.imp; ⟨mc, x.ns a, b⟩
  main := by
    obtain ⟨mg, bm, ob, a, b, c, d, e⟩ := n.main
    exact ⟨mg, bm, ob, x.ns a, b, x.up c (fun z => by rw [z] at d; cases d), d, e⟩
end
abbrev lw : List Str := looseW view lo
section
variable {mean : ExcName → Option Value} {mg mb : Str → Option Value} {h : Heap}
/-- the module, its table hidden -/
abbrev Bh (h : Heap) (mg mb : Str → Option Value) : Md := ⟨hideAll h [tb], mg, mb⟩
theorem dd_of (T : Top view lw mean mg mb h) (x : Hi h (hideAll h [tb])) {name : Str} {i : Nat} (d : DefRec) (hd : d ∈ recsOf view) (e : d.name = name ∧ d.params = dParams (stm i) ∧ d.body = dBody (stm i) ∧ d.scope = dScope (stm i)) : Dd (Bh h mg mb) name i := by
  obtain ⟨a, o, pm, code, doc, h1, h2, h3, h4⟩ := T.fn d hd
  obtain ⟨e1, e2, e3, e4⟩ := e
  rw [e1] at h1 h3 h4
  rw [e2, e3, e4] at h3
  exact ⟨a, pm, code, doc, o, h1, x.up h2 (fun z => by rw [z] at h3; cases h3), h3, x.code h4⟩
theorem nm_of (T : Top view lw mean mg mb h) (x : Str) (u : Value) (h1 : bootBuiltins x = some u) (h0 : x ≠ "__name__") (h2 : x ∉ startupNames) (h3 : x ∉ lw) (h4 : x ∉ (recsOf view).map (·.name)) (h5 : x ∉ (litsOf view).map (·.1)) (h6 : x ∉ (clssOf view lw).map (·.name)) : mg x = none ∧ mb x = some u :=
  ⟨T.free x h2 h3 h4 h5 h6, (T.builtins x h0).trans h1⟩
theorem nm_all (T : Top view lw mean mg mb h) : Nm (Bh h mg mb) where
  bytes := nm_of T _ _ (by kernel_rfl) (by decide +kernel) (by decide +kernel) (by decide +kernel) (by decide +kernel) (by decide +kernel) (by decide +kernel)
  range := nm_of T _ _ (by kernel_rfl) (by decide +kernel) (by decide +kernel) (by decide +kernel) (by decide +kernel) (by decide +kernel) (by decide +kernel)
  list := nm_of T _ _ (by kernel_rfl) (by decide +kernel) (by decide +kernel) (by decide +kernel) (by decide +kernel) (by decide +kernel) (by decide +kernel)
  str := nm_of T _ _ (by kernel_rfl) (by decide +kernel) (by decide +kernel) (by decide +kernel) (by decide +kernel) (by decide +kernel) (by decide +kernel)
  bool := nm_of T _ _ (by kernel_rfl) (by decide +kernel) (by decide +kernel) (by decide +kernel) (by decide +kernel) (by decide +kernel) (by decide +kernel)
  type := nm_of T _ _ (by kernel_rfl) (by decide +kernel) (by decide +kernel) (by decide +kernel) (by decide +kernel) (by decide +kernel) (by decide +kernel)
  zip := nm_of T _ _ (by kernel_rfl) (by decide +kernel) (by decide +kernel) (by decide +kernel) (by decide +kernel) (by decide +kernel) (by decide +kernel)
  len := nm_of T _ _ (by kernel_rfl) (by decide +kernel) (by decide +kernel) (by decide +kernel) (by decide +kernel) (by decide +kernel) (by decide +kernel)
  sum := nm_of T _ _ (by kernel_rfl) (by decide +kernel) (by decide +kernel) (by decide +kernel) (by decide +kernel) (by decide +kernel) (by decide +kernel)
  inst := nm_of T _ _ (by kernel_rfl) (by decide +kernel) (by decide +kernel) (by decide +kernel) (by decide +kernel) (by decide +kernel) (by decide +kernel)
  verr := nm_of T _ _ (by kernel_rfl) (by decide +kernel) (by decide +kernel) (by decide +kernel) (by decide +kernel) (by decide +kernel) (by decide +kernel)
end
end Mine
end
section
set_option maxHeartbeats 8000000
open PySem PySem.W PySem.W.X PyProof.Rows PySem.Spec PySem.Calls
namespace Mine
theorem fdAt_some {h : Heap} {m : Str → Option Value} {n : Str} {fd : FuncData} (e : fdAt h m n = some fd) : ∃ a o, m n = some (.ref a) ∧ h.get? a = some o ∧ o.data = .func fd := by
  unfold fdAt at e
  split at e
  · rename_i a q
    split at e
    · rename_i o q2
      split at e
      · rename_i f q3
        cases e
        exact ⟨a, o, q, q2, q3⟩
      · cases e
    · cases e
  · cases e
theorem codeOk_rec {h : Heap} {cd : Value} {q : Str} (e : codeOk h cd q = true) : h.CodeRec cd q := by
  unfold codeOk at e
  split at e
  · rename_i c
    split at e
    · rename_i o q2
      split at e
      · rename_i vs q3
        split at e
        · rename_i x t q4
          have := of_decide_eq_true e
          subst this
          refine ⟨c, o, vs, t, rfl, q2, q3, ?_⟩
          rw [Array.getD_eq_getD_getElem?] at q4
          cases w : vs[1]? with
          | none => rw [w] at q4; cases q4
          | some v => rw [w] at q4; exact congrArg some q4
        · cases e
      · cases e
    · cases e
  · cases e
theorem nf_eq {fd : FuncData} {name : Str} {p : Arguments} {b : List Stmt} {s : Scope} (h : nf fd = docDef name p b s .none .none .none) : fd = { docDef name p b s fd.pyModule fd.code fd.doc with defaults := fd.defaults, kwdefaults := fd.kwdefaults } := by
  cases fd
  simp only [nf, docDef, FuncData.mk.injEq] at h ⊢
  simp_all
theorem scOk_of {h : Heap} {m : Str → Option Value} (e : scOk h m = true) : ∃ a o es ep, m "_special_chars_map" = some (.ref a) ∧ h.get? a = some o ∧ o.cls = .type "dict" ∧ o.data = .dict es ep ∧ es.toList.all keyOk = true ∧ (a == sysModules) = false := by
  unfold scOk at e
  split at e
  · rename_i a q
    obtain ⟨e1, e2⟩ := Bool.and_eq_true_iff.mp e
    split at e2
    · rename_i o q2
      obtain ⟨e3, e4⟩ := Bool.and_eq_true_iff.mp e2
      split at e3
      · rename_i c q3
        split at e4
        · rename_i es ep q4
          exact ⟨a, o, es, ep, q, q2, by rw [q3, eq_of_beq e3], q4, e4, by simpa using e1⟩
        · cases e4
      · cases e3
    · cases e2
  · cases e
theorem ptOk_of {h : Heap} {m : Str → Option Value} (e : ptOk h m = true) : ∃ p, m "_twin_re_1" = some (.ref p) ∧ PtAt h p := by
  unfold ptOk at e
  split at e
  · rename_i a q
    split at e
    · rename_i o q2
      obtain ⟨e1, e2⟩ := Bool.and_eq_true_iff.mp e
      obtain ⟨e1, e5⟩ := Bool.and_eq_true_iff.mp e1
      split at e1
      · rename_i c q3
        split at e2
        · rename_i vs q4
          obtain ⟨e6, e7⟩ := Bool.and_eq_true_iff.mp e2
          obtain ⟨e6, e8⟩ := Bool.and_eq_true_iff.mp e6
          split at e7
          · rename_i C q5
            split at e7
            · rename_i oc q6
              split at e7
              · rename_i items k q7
                have q8 := of_decide_eq_true e7
                refine ⟨a, q, ⟨o, vs, C, oc, items, k, q2, by rw [q3, eq_of_beq e1], Option.isNone_iff_eq_none.mp e5, q4, q5, q6, q7, Array.ext' q8, eq_of_beq e6, eq_of_beq e8⟩⟩
              · cases e7
            · cases e7
          · cases e7
        · cases e2
      · cases e1
    · cases e
  · cases e
theorem b64Ok_of {m : Str → Option Value} (e : b64Ok m = true) : ∃ t, m "_B64" = some (.bytes b64s.toArray t) := by
  unfold b64Ok at e
  split at e
  · rename_i b t q
    have := of_decide_eq_true e
    refine ⟨t, ?_⟩
    rw [q, ← this, Array.toArray_toList]
  · cases e
theorem dflt1_of {h : Heap} {v : Value} (e : dflt1 h v = true) : ∃ T oT d n, v = .ref T ∧ h.get? T = some oT ∧ oT.data = .seq #[d] n := by
  unfold dflt1 at e
  split at e
  · rename_i T
    split at e
    · rename_i o q
      split at e
      · rename_i vs n q2
        have hs : vs.size = 1 := eq_of_beq e
        refine ⟨T, o, vs[0], n, rfl, q, ?_⟩
        rw [q2]
        congr 1
        refine Array.ext (by simpa using hs) fun i h1 h2 => ?_
        have : i = 0 := by omega
        subst this; rfl
      · cases e
    · cases e
  · cases e
theorem tabIs_of {h : Heap} {cd : Value} (e : tabIs h cd = true) : ∃ c o vs, cd = .ref c ∧ h.get? c = some o ∧ o.data = .fields vs ∧ vs.getD 11 .none = .ref 57 := by
  unfold tabIs at e
  split at e
  · rename_i c
    split at e
    · rename_i o q
      split at e
      · rename_i vs q2
        split at e
        · rename_i p q3
          exact ⟨c, o, vs, rfl, q, q2, by rw [q3, eq_of_beq e]⟩
        · cases e
      · cases e
    · cases e
  · cases e
theorem isNone_of {v : Value} (e : isNone v = true) : v = .none := by cases v <;> first | rfl | cases e
section
variable {mean : ExcName → Option Value} {mg mb : Str → Option Value} {h : Heap} {s₀ : Shared}
def trRec : DefRec := ((recsOf view)[2]?).getD ⟨"", dParams (stm 7), [], dScope (stm 7), ⟨0, 0, 0, 0⟩⟩
theorem trRec_in : trRec ∈ recsOf view ∧ trRec.name = "_translate" ∧ trRec.params = dParams (stm 7) ∧ trRec.body = dBody (stm 7) ∧ trRec.scope = dScope (stm 7) :=
  ⟨List.mem_of_getElem? (i := 2) (by kernel_rfl), by kernel_rfl, by kernel_rfl, by kernel_rfl, by kernel_rfl⟩
theorem rec_in (k : Nat) (i : Nat) (d : DefRec) (h : (recsOf view)[k]? = some d) : d ∈ recsOf view := List.mem_of_getElem? h
def rc (k : Nat) : DefRec := ((recsOf view)[k]?).getD ⟨"", dParams (stm 7), [], dScope (stm 7), ⟨0, 0, 0, 0⟩⟩
theorem dd_at (T : Top view lw mean mg mb h) (x : Hi h (hideAll h [tb])) (k : Nat) {name : Str} {i : Nat} (h0 : (recsOf view)[k]? = some (rc k)) (e1 : (rc k).name = name) (e2 : (rc k).params = dParams (stm i)) (e3 : (rc k).body = dBody (stm i)) (e4 : (rc k).scope = dScope (stm i)) : Dd (Bh h mg mb) name i :=
  dd_of T x (rc k) (List.mem_of_getElem? h0) ⟨e1, e2, e3, e4⟩
theorem mo_of (T : Top view lw mean mg mb h) (k : ∀ b o, s₀.heap.get? b = some o → h.get? b = some o) (e : obs s₀ = want) : Hi h (hideAll h [tb]) ∧ (∃ c, h.TableAt c tb #[]) ∧ Mo (Bh h mg mb) := by
  have hb2a : (fdAt s₀.heap (s₀.heap.nsMap mainGlobals) "b2a_base64").map nf = some (docDef "b2a_base64" (dParams (stm 12)) (dBody (stm 12)) (dScope (stm 12)) .none .none .none) := congrArg (fun z => z.1) e
  have henc : (fdAt s₀.heap (s₀.heap.nsMap mainGlobals) "b64encode").map nf = some (docDef "b64encode" (dParams (stm 14)) (dBody (stm 14)) (dScope (stm 14)) .none .none .none) := congrArg (fun z => z.2.1) e
  have hchk : chk s₀.heap = true := congrArg (fun z => z.2.2) e
  unfold chk at hchk
  simp only at hchk
  obtain ⟨hchk, hpt⟩ := Bool.and_eq_true_iff.mp hchk
  obtain ⟨hchk, hsc⟩ := Bool.and_eq_true_iff.mp hchk
  obtain ⟨hchk, hb64⟩ := Bool.and_eq_true_iff.mp hchk
  obtain ⟨hchk, htr⟩ := Bool.and_eq_true_iff.mp hchk
  obtain ⟨hchk, hen⟩ := Bool.and_eq_true_iff.mp hchk
  obtain ⟨hns, hb2⟩ := Bool.and_eq_true_iff.mp hchk
  have hmg : s₀.heap.nsMap mainGlobals = mg := Ns.one ((Heap.Ns.of_isNs hns).keeps k) T.g
  rw [hmg] at hb2a henc htr hb64 hsc hpt hen hb2
  obtain ⟨t1, t2, t3, t4, t5⟩ := trRec_in
  obtain ⟨a, o, fd, c, P, m1, m2, m3, m4, hIs, hTab⟩ := T.tab trRec t1
  rw [t2] at m1
  have hP : P = tb := by
    split at htr
    · rename_i fd' q
      obtain ⟨a', o', n1, n2, n3⟩ := fdAt_some q
      rw [m1] at n1; cases n1
      have n2' := k _ _ n2
      rw [m2] at n2'; cases n2'
      rw [m3] at n3; cases n3
      obtain ⟨c', oc, vs, p1, p2, p3, p4⟩ := tabIs_of htr
      rw [m4] at p1; cases p1
      obtain ⟨⟨oc', vs', r1, _, r3, r4⟩, _⟩ := hTab
      have p2' := k _ _ p2
      rw [r1] at p2'; cases p2'
      rw [r3] at p3; cases p3
      rw [Array.getD_eq_getD_getElem?, r4] at p4
      cases p4; rfl
    · cases htr
  subst hP
  have x : Hi h (hideAll h [tb]) := ⟨hTab.2, rfl⟩
  refine ⟨x, ⟨c, hTab⟩, ?_⟩
  have oneFn : ∀ (n : Str) (i : Nat), (fdAt s₀.heap mg n).map nf = some (docDef n (dParams (stm i)) (dBody (stm i)) (dScope (stm i)) .none .none .none) → ∃ fd a o, fdAt s₀.heap mg n = some fd ∧ mg n = some (.ref a) ∧ (hideAll h [tb]).get? a = some o ∧ o.data = .func fd ∧ fd = { docDef n (dParams (stm i)) (dBody (stm i)) (dScope (stm i)) fd.pyModule fd.code fd.doc with defaults := fd.defaults, kwdefaults := fd.kwdefaults } := fun n i q => by
    obtain ⟨fd, q1, q2⟩ := Option.map_eq_some_iff.mp q
    obtain ⟨a, o, n1, n2, n3⟩ := fdAt_some q1
    exact ⟨fd, a, o, q1, n1, x.up (k _ _ n2) (fun z => by rw [z] at n3; cases n3), n3, nf_eq q2⟩
  have codeIn : ∀ cd q, codeOk s₀.heap cd q = true → (hideAll h [tb]).CodeRec cd q := fun cd q z => x.code ((codeOk_rec z).keeps k)
  refine { ok := ⟨x.ns T.g, x.ns T.b, x.lim T.nolimit, hideAll_none _ (List.mem_singleton_self tb), x.seer (T.seer (by decide +kernel))⟩, nm := nm_all T, octets := ?f7, alphabet := ?f8, text := ?f9, spoilt := ?f10, one := ?f11, takes := ?f12, law := ?f13, dedup := ?f5, cmp := ?f6, escape := ?f1, trans := ?tr, buffer := ?f3, truth := ?f4, b2a := ?b2, enc := ?en, b64 := b64Ok_of hb64, sc := ?sc, pt := ?pt }
  case f1 => exact dd_at T x 1 (by kernel_rfl) (by kernel_rfl) (by kernel_rfl) (by kernel_rfl) (by kernel_rfl)
  case f3 => exact dd_at T x 3 (by kernel_rfl) (by kernel_rfl) (by kernel_rfl) (by kernel_rfl) (by kernel_rfl)
  case f4 => exact dd_at T x 4 (by kernel_rfl) (by kernel_rfl) (by kernel_rfl) (by kernel_rfl) (by kernel_rfl)
  case f5 => exact dd_at T x 5 (by kernel_rfl) (by kernel_rfl) (by kernel_rfl) (by kernel_rfl) (by kernel_rfl)
  case f6 => exact dd_at T x 6 (by kernel_rfl) (by kernel_rfl) (by kernel_rfl) (by kernel_rfl) (by kernel_rfl)
  case f7 => exact dd_at T x 7 (by kernel_rfl) (by kernel_rfl) (by kernel_rfl) (by kernel_rfl) (by kernel_rfl)
  case f8 => exact dd_at T x 8 (by kernel_rfl) (by kernel_rfl) (by kernel_rfl) (by kernel_rfl) (by kernel_rfl)
  case f9 => exact dd_at T x 9 (by kernel_rfl) (by kernel_rfl) (by kernel_rfl) (by kernel_rfl) (by kernel_rfl)
  case f10 => exact dd_at T x 10 (by kernel_rfl) (by kernel_rfl) (by kernel_rfl) (by kernel_rfl) (by kernel_rfl)
  case f11 => exact dd_at T x 11 (by kernel_rfl) (by kernel_rfl) (by kernel_rfl) (by kernel_rfl) (by kernel_rfl)
  case f12 => exact dd_at T x 12 (by kernel_rfl) (by kernel_rfl) (by kernel_rfl) (by kernel_rfl) (by kernel_rfl)
  case f13 => exact dd_at T x 13 (by kernel_rfl) (by kernel_rfl) (by kernel_rfl) (by kernel_rfl) (by kernel_rfl)
  case tr =>
    obtain ⟨a', o', pm, code, doc, h1, h2, h3, h4⟩ := T.fn trRec t1
    rw [t2] at h1 h3 h4
    rw [t3, t4, t5] at h3
    rw [m1] at h1; cases h1
    rw [m2] at h2; cases h2
    have hcd : fd.code = code := by rw [m3] at h3; cases h3; rfl
    refine ⟨a, pm, code, doc, o, m1, x.up m2 (fun z => by rw [z] at m3; cases m3), h3, x.code h4, ⟨c, by rw [← hcd, m4], ?_⟩, ?_⟩
    · obtain ⟨oc, vs, file, tf, flags, tg, inF, text, tt, e1, e2, r⟩ := CodeHd.of hIs hTab
      exact ⟨oc, vs, file, tf, flags, tg, inF, text, tt, x.up e1 (fun z => by rw [z] at e2; cases e2), e2, r⟩
    · obtain ⟨bm, ob, b1, b2, b3, b4, b5, b6⟩ := T.bmain
      refine ⟨bm, ob, b1, b2, fun w => ?_, x.up b3 (fun z => by rw [z] at b4; cases b4), b4, b5, b6⟩
      obtain ⟨og, es, ep, eg, dg, _⟩ := T.g
      rw [w, eg] at b3; cases b3; rw [dg] at b6; cases b6
  case b2 =>
    obtain ⟨fd, a, o, q1, n1, n2, n3, n4⟩ := oneFn _ 12 hb2a
    rw [q1] at hb2
    obtain ⟨z1, z2⟩ := Bool.and_eq_true_iff.mp hb2
    rw [isNone_of z1] at n4
    exact ⟨a, fd.pyModule, fd.code, fd.doc, fd.kwdefaults, o, n1, n2, n3.trans (congrArg Data.func n4), codeIn _ _ z2⟩
  case en =>
    obtain ⟨fd, a, o, q1, n1, n2, n3, n4⟩ := oneFn _ 14 henc
    rw [q1] at hen
    obtain ⟨z1, z2⟩ := Bool.and_eq_true_iff.mp hen
    obtain ⟨T', oT, d, n, y1, y2, y3⟩ := dflt1_of z1
    rw [y1] at n4
    exact ⟨a, fd.pyModule, fd.code, fd.doc, fd.kwdefaults, T', oT, d, n, o, n1, n2, n3.trans (congrArg Data.func n4), codeIn _ _ z2, x.up (k _ _ y2) (fun z => by rw [z] at y3; cases y3), y3⟩
  case sc =>
    obtain ⟨a, o, es, ep, y1, y2, y3, y4, y5, y6⟩ := scOk_of hsc
    exact ⟨a, o, es, ep, y1, x.up (k _ _ y2) (fun z => by rw [z] at y3; cases y3), y3, y4, y5, y6⟩
  case pt =>
    obtain ⟨p, y1, o, vs, C, oc, items, kk, y2, y3, y4, y5, y6, y7, y8, y9⟩ := ptOk_of hpt
    exact ⟨p, y1, o, vs, C, oc, items, kk, x.up (k _ _ y2) (fun z => by rw [z] at y3; cases y3), y3, y4, y5, y6, x.up (k _ _ y7) (fun z => by rw [z] at y8; cases y8), y8, y9⟩
end
end Mine
end
section
set_option maxHeartbeats 8000000
open PySem PySem.W PySem.W.X PyProof.Rows PySem.Spec PySem.Calls
namespace Mine
theorem all_ints {h : Heap} : ∀ {vs : List Value} {ns : List Int}, IntsAre vs ns → All h vs (ns.map int)
  | _, _, .nil => .nil
  | _, _, .cons _ t r => .cons ⟨t, rfl⟩ (all_ints r)
theorem room_caller : Room callerA 4 := ⟨rfl, by decide +kernel, by decide +kernel, [], rfl⟩
theorem old_of [Inhabited Bnd] {s s' : Shared} (hlow : low = s.heap.objs.size) (ht : s.heap.get? tb = some (tabObj #[])) (hc : ∃ c, s.heap.TableAt c tb #[]) (k : Kp [] s s') : OldK s.heap s'.heap := by
  obtain ⟨ps, hp, _⟩ := k.ok.tab
  refine ⟨fun b o e => ?_, fun b o e => ?_⟩
  · by_cases q : b = tb
    · subst q
      rw [ht] at e; cases e
      obtain ⟨c, hc⟩ := hc
      refine .inr (.inl ⟨hc.isCodeTable, rfl, #[], ps, rfl, ?_⟩)
      rw [hp, Array.empty_append]
    · exact .inl (k.keep.fr b o (ntb q) (by rw [hlow]; exact Heap.lt_size e) e)
  · by_cases q : b = tb
    · exact ⟨_, q ▸ hp⟩
    · exact ⟨o, k.keep.fr b o (ntb q) (by rw [hlow]; exact Heap.lt_size e) e⟩
theorem walk_law (d : DefRec) (hdn : d.name = "law") (kwd : List (Str × Expr)) : WalkX view lo (XL view []) obs (fun _ => want) row.toRowW d kwd (fun f vs => PySem.call f vs) := by
  intro w s₀ s₁ mg mb G y a o pm cd doc dV kV ho hd hcd hD hmg hg args vals as L hpre hlay hrd hwl hlo
  rw [hdn] at hmg
  clear hd hD hcd
  wrow_args hpre hlay hrd hwl hlo
  rename_i ns hs hl0 hLay hr1 hl2 as1 as2 A vs as3 hL ra w1 r0 hI hr hlen htrue
  have hobj := script_obj L hL
  obtain ⟨x, hc, M⟩ := mo_of G.T L.keeps y
  letI : Inhabited Bnd := ⟨⟨s₁.heap.objs.size⟩⟩
  have hn : ns.length ≤ 63 := by
    have : ¬ ((63 : Int) < (ns.length : Int)) := hlen
    omega
  obtain ⟨a0, hm0, _, run⟩ := law_law M (rw_all ns) hn
  have hm1 : mg "law" = some (.ref a0) := hm0
  rw [hmg] at hm1
  cases hm1
  have ok : Ok [] s₁.heap := ⟨⟨#[], x.tab, trivial⟩, fun a m => by cases m⟩
  have hin : (Bh s₁.heap mg mb).In s₁ := .all fun b o _ e => of_hideAll _ e
  have hall : All (hp [] s₁) [Value.ref A] [lsI ns] := .cons ⟨A, vs.toArray, rfl, ⟨_, hobj⟩, by rw [List.toList_toArray]; exact all_ints hI⟩ .nil
  refine wpAny_mono (run [] row.prog w callerA s₁ [.ref A] [] rfl (fun _ m => by cases m) (Nat.le_refl _) rfl room_caller hin ok hall) (fun v s' g => ?_) fun _ _ f => f.elim
  obtain ⟨k, hv⟩ := g
  have hv : v = .bool (ansOf ns) := hv
  rw [ans_true] at hv
  subst hv
  refine ⟨.inl ⟨_, .bool true, [], rfl, fun _ => rfl, ReadsW.bool true, ?_, fun _ => ⟨List.nodup_nil, fun _ hm => (nomatch hm)⟩⟩, old_of rfl x.tab hc k, k.os, ?_⟩
  · first | rfl | wrow_post
  · rw [k.gens, hg]
    exact AllBare.empty
end Mine
end
open PySem PySem.W PyProof.Rows
set_option maxRecDepth 100000 in
set_option maxHeartbeats 8000000 in
theorem PySem.Challenge.cw_ik0153_01_holds : PySem.Challenge.rw_ik0153_01.Holds := by
  w_on
  o_law
  refine holds_openX (q := Mine.view) (loose := Mine.lo) (Xt := Mine.Xt) (XP := XL Mine.view []) (Yf := Mine.obs) (Ya := fun _ => Mine.want) (N := 3894) Mine.left (fun s e => xl_of s (Bool.and_eq_true_iff.mp e).1) XL.keeps (by rfl) (by rfl) (by rfl) (fun s e => recFacts_of (Bool.and_eq_true_iff.mp e).2) (by rfl) (by assumption) (by decide +kernel) ⟨rfl, rfl, rfl, rfl, rfl, by decide +kernel⟩ ?hw (Mine.walk_law _ rfl _)
  case hw => w_witness2
#print axioms PySem.Challenge.cw_ik0153_01_holds
