import PyProof.Rows.All
import Wide.All
import OpenK.AllK
import Wide.FinOn
import PySem.Challenge.RW_oc0404_01
set_option Elab.async false
set_option maxRecDepth 100000
namespace Mine
open PySem PyProof.Rows

/-- plain values: what a value is, its token left out -/
inductive V where
  | none
  | bool (b : Bool)
  | int (i : Int)
  | ref (a : Addr)

def er : Value → Option V
  | .none => some .none
  | .bool b => some (.bool b)
  | .int i _ => some (.int i)
  | .ref a => some (.ref a)
  | _ => Option.none

theorem er_int {v : Value} {i : Int} (h : er v = some (.int i)) : ∃ t, v = .int i t := by
  cases v <;> simp [er] at h
  subst h; exact ⟨_, rfl⟩
theorem er_bool {v : Value} {b : Bool} (h : er v = some (.bool b)) : v = .bool b := by
  cases v <;> simp [er] at h
  subst h; rfl
theorem er_ref {v : Value} {a : Addr} (h : er v = some (.ref a)) : v = .ref a := by
  cases v <;> simp [er] at h
  subst h; rfl
theorem er_none {v : Value} (h : er v = some .none) : v = .none := by
  cases v <;> simp [er] at h
  rfl

def Ers (vs : List Value) (l : List V) : Prop := vs.map er = l.map some
theorem Ers.length {vs : List Value} {l : List V} (h : Ers vs l) : vs.length = l.length := by
  have := congrArg List.length h; simpa using this
theorem Ers.get {vs : List Value} {l : List V} (h : Ers vs l) {i : Nat} {v : V} (hv : l[i]? = some v) : ∃ x, vs[i]? = some x ∧ er x = some v := by
  have e : (vs.map er)[i]? = (l.map some)[i]? := by rw [h]
  rw [List.getElem?_map, List.getElem?_map, hv] at e
  cases hx : vs[i]? with
  | none => rw [hx] at e; cases e
  | some x => rw [hx] at e; exact ⟨x, rfl, by simpa using e⟩
theorem Ers.nil : Ers [] [] := rfl
theorem Ers.cons {v : Value} {x : V} {vs : List Value} {l : List V} (h : er v = some x) (r : Ers vs l) : Ers (v :: vs) (x :: l) := by
  unfold Ers at *; simp [h, r]
theorem Ers.append {vs ws : List Value} {l k : List V} (h : Ers vs l) (r : Ers ws k) : Ers (vs ++ ws) (l ++ k) := by
  unfold Ers at *; rw [List.map_append, List.map_append, h, r]
theorem Ers.take {vs : List Value} {l : List V} (h : Ers vs l) (n : Nat) : Ers (vs.take n) (l.take n) := by
  unfold Ers at *; rw [List.map_take, List.map_take, h]
theorem Ers.drop {vs : List Value} {l : List V} (h : Ers vs l) (n : Nat) : Ers (vs.drop n) (l.drop n) := by
  unfold Ers at *; rw [List.map_drop, List.map_drop, h]
theorem Ers.set {vs : List Value} {l : List V} (h : Ers vs l) (n : Nat) {v : Value} {x : V} (hv : er v = some x) : Ers (vs.set n v) (l.set n x) := by
  unfold Ers at *; rw [List.map_set, List.map_set, h, hv]
theorem Ers.ints : ∀ {vs : List Value} {ns : List Int}, Ers vs (ns.map .int) → IntsAre vs ns
  | [], [], _ => .nil
  | [], _ :: _, h => by simp [Ers] at h
  | _ :: _, [], h => by simp [Ers] at h
  | v :: vs, n :: ns, h => by
    unfold Ers at h
    simp only [List.map_cons, List.cons.injEq] at h
    obtain ⟨t, rfl⟩ := er_int h.1
    exact .cons n t (Ers.ints (vs := vs) (ns := ns) h.2)
theorem ersOfInts : ∀ {vs : List Value} {ns : List Int}, IntsAre vs ns → Ers vs (ns.map .int)
  | _, _, .nil => rfl
  | _, _, .cons _ _ h => Ers.cons rfl (ersOfInts h)

def LObj (o : Obj) (l : List V) : Prop := ∃ vs n, o = { cls := .type "list", data := .seq vs n } ∧ Ers vs.toList l

structure St where
  loc : Str → Option V
  hp : Addr → Option (List V)

def St.set (σ : St) (x : Str) (v : V) : St := { σ with loc := fun y => if y = x then some v else σ.loc y }
def St.put (σ : St) (a : Addr) (l : List V) : St := { σ with hp := fun b => if b = a then some l else σ.hp b }

structure Cx where
  prog : Program
  w : World
  A : Around
  ht : Heap
  ro : Addr → Option (List V)
  env : Env

def Cx.get (c : Cx) (σ : St) (a : Addr) : Option (List V) := match σ.hp a with
  | some l => some l
  | Option.none => c.ro a

def VarIs (env : Env) (m cm : Str → Option Value) (x : Str) (v : V) : Prop :=
  (env.kindOf x = some .local ∧ ∃ val, m x = some val ∧ er val = some v) ∨
  (env.kindOf x = some .cell ∧ ∃ a val, env.cells.lookup x = some a ∧ cm x = some val ∧ er val = some v)

structure Rel (c : Cx) (b₀ : Addr → Option Obj) (s₀ : Shared) (σ : St) (s : Shared) : Prop where
  same : ∃ h tk, s = { s₀ with heap := h, toks := tk }
  top : ∀ a o, c.ht.get? a = some o → b₀ a = some o
  keep : ∀ a o, b₀ a = some o → s.heap.get? a = some o
  ro : ∀ a l, c.ro a = some l → ∃ o, b₀ a = some o ∧ LObj o l
  hp : ∀ a l, σ.hp a = some l → b₀ a = Option.none ∧ ∃ o, s.heap.get? a = some o ∧ LObj o l
  frame : ∃ m cm, s.heap.Ns c.env.locals m ∧ (∀ n a, c.env.cells.lookup n = some a → s.heap.IsCell a (cm n)) ∧ ∀ x v, σ.loc x = some v → VarIs c.env m cm x v
  own : b₀ c.env.locals = Option.none
  cells : c.env.func.isSome = true → (∀ n a, c.env.cells.lookup n = some a → b₀ a = Option.none) ∧ c.env.cells.Pairwise fun x y => x.2 ≠ y.2

/-- facts about the context that never change -/
structure Cx.Ok (c : Cx) : Prop where
  fn : c.env.scope.kind = .function
  glob : c.env.globals = mainGlobals
  bi : c.env.builtins = builtinsNs
  hand : c.A.handled = Option.none
  units : c.A.units + 64 < cLine

section
variable {c : Cx} {b₀ : Addr → Option Obj} {s₀ s : Shared} {σ : St}

theorem Rel.plain (R : Rel c b₀ s₀ σ s) {a : Addr} {l : List V} (h : c.get σ a = some l) : ∃ (vs : Array Value) (n : Nat), s.heap.get? a = some { cls := .type "list", data := .seq vs n } ∧ Ers vs.toList l := by
  unfold Cx.get at h
  cases hh : σ.hp a with
  | some k =>
    rw [hh] at h; cases h
    obtain ⟨_, o, ho, vs, n, rfl, e⟩ := R.hp a _ hh
    exact ⟨vs, n, ho, e⟩
  | none =>
    rw [hh] at h
    obtain ⟨o, ho, vs, n, rfl, e⟩ := R.ro a l h
    exact ⟨vs, n, R.keep a _ ho, e⟩
theorem Rel.list (R : Rel c b₀ s₀ σ s) {a : Addr} {l : List V} (h : c.get σ a = some l) : ∃ vs : Array Value, s.heap.IsList a vs ∧ Ers vs.toList l := by
  obtain ⟨vs, n, ho, e⟩ := R.plain h
  exact ⟨vs, ⟨_, ho, rfl, n, rfl⟩, e⟩

theorem Rel.grow (R : Rel c b₀ s₀ σ s) {h' : Heap} {tk : Nat} (hk : ∀ b o, s.heap.get? b = some o → h'.get? b = some o) : Rel c b₀ s₀ σ { s with heap := h', toks := tk } where
  same := by obtain ⟨h, t, rfl⟩ := R.same; exact ⟨h', tk, rfl⟩
  top := R.top
  keep := fun a o e => hk a o (R.keep a o e)
  ro := R.ro
  hp := fun a l e => ⟨(R.hp a l e).1, let ⟨_, o, ho, x⟩ := R.hp a l e; ⟨o, hk a o ho, x⟩⟩
  frame := by
    obtain ⟨m, cm, h1, h2, h3⟩ := R.frame
    exact ⟨m, cm, h1.keeps hk, fun n a e => (h2 n a e).keeps hk, h3⟩
  own := R.own
  cells := R.cells

theorem Rel.toks (R : Rel c b₀ s₀ σ s) (tk : Nat) : Rel c b₀ s₀ σ { s with toks := tk } := R.grow (h' := s.heap) fun _ _ e => e

theorem Rel.pushed (R : Rel c b₀ s₀ σ s) (o : Obj) : Rel c b₀ s₀ σ { s with heap := s.heap.push o } := R.grow (tk := s.toks) fun _ _ e => Heap.get?_push_of_some _ e

theorem Rel.freshB (R : Rel c b₀ s₀ σ s) {a : Addr} (h : s.heap.objs.size ≤ a) : b₀ a = Option.none := by
  cases e : b₀ a with
  | none => rfl
  | some o => exact absurd (Heap.lt_size (R.keep a o e)) (Nat.not_lt.mpr h)
theorem Rel.freshH (R : Rel c b₀ s₀ σ s) {a : Addr} (h : s.heap.objs.size ≤ a) : σ.hp a = Option.none := by
  cases e : σ.hp a with
  | none => rfl
  | some l => obtain ⟨_, o, ho, _⟩ := R.hp a l e; exact absurd (Heap.lt_size ho) (Nat.not_lt.mpr h)
theorem Rel.freshR (R : Rel c b₀ s₀ σ s) {a : Addr} (h : s.heap.objs.size ≤ a) : c.ro a = Option.none := by
  cases e : c.ro a with
  | none => rfl
  | some l => obtain ⟨o, ho, _⟩ := R.ro a l e; rw [R.freshB h] at ho; cases ho
theorem Rel.freshG (R : Rel c b₀ s₀ σ s) {a : Addr} (h : s.heap.objs.size ≤ a) : c.get σ a = Option.none := by
  unfold Cx.get; rw [R.freshH h]; exact R.freshR h

/-- a new plain list is entered -/
theorem Rel.enter (R : Rel c b₀ s₀ σ s) {a : Addr} {o : Obj} {l : List V} (ho : s.heap.get? a = some o) (hl : LObj o l) (hb : b₀ a = Option.none) : Rel c b₀ s₀ (σ.put a l) s where
  same := R.same
  top := R.top
  keep := R.keep
  ro := R.ro
  hp := fun b k e => by
    by_cases h : b = a
    · subst h; simp only [St.put, if_true] at e; cases e; exact ⟨hb, o, ho, hl⟩
    · simp only [St.put, if_neg h] at e; exact R.hp b k e
  frame := R.frame
  own := R.own
  cells := R.cells

theorem Rel.alloc (R : Rel c b₀ s₀ σ s) {vs : Array Value} {n : Nat} {l : List V} (e : Ers vs.toList l) {h' : Heap} {tk : Nat} {a : Addr} (ha : s.heap.objs.size ≤ a)
    (hk : ∀ b o, s.heap.get? b = some o → h'.get? b = some o) (ho : h'.get? a = some { cls := .type "list", data := .seq vs n }) : Rel c b₀ s₀ (σ.put a l) { s with heap := h', toks := tk } :=
  (R.grow (tk := tk) hk).enter ho ⟨vs, n, rfl, e⟩ (R.freshB ha)

/-- a list of the call's own is turned -/
theorem Rel.turn (R : Rel c b₀ s₀ σ s) {a : Addr} {l₀ l : List V} (h0 : σ.hp a = some l₀) {h' : Heap} {tk : Nat} (hs : Heap.SameBut a s.heap h') {o : Obj} (ho : h'.get? a = some o) (hl : LObj o l) :
    Rel c b₀ s₀ (σ.put a l) { s with heap := h', toks := tk } := by
  obtain ⟨hb, o₀, ho₀, vs₀, n₀, rfl, _⟩ := R.hp a l₀ h0
  have ne : ∀ b o, b₀ b = some o → b ≠ a := fun b o e h => by rw [h, hb] at e; cases e
  refine { same := ?_, top := R.top, keep := ?_, ro := R.ro, hp := ?_, frame := ?_, own := R.own, cells := R.cells }
  · obtain ⟨h, t, rfl⟩ := R.same; exact ⟨h', tk, rfl⟩
  · intro b o e; exact (hs.2 b (ne b o e)).trans (R.keep b o e)
  · intro b k e
    by_cases h : b = a
    · subst h; simp only [St.put, if_true] at e; cases e; exact ⟨hb, o, ho, hl⟩
    · simp only [St.put, if_neg h] at e
      obtain ⟨h1, o', h2, h3⟩ := R.hp b k e
      exact ⟨h1, o', (hs.2 b h).trans h2, h3⟩
  · obtain ⟨m, cm, h1, h2, h3⟩ := R.frame
    refine ⟨m, cm, h1.sameBut hs ?_, fun n x e => (h2 n x e).sameBut hs ?_, h3⟩
    · rintro rfl
      obtain ⟨o', _, _, e1, e2, _⟩ := h1
      rw [ho₀] at e1; cases e1; cases e2
    · rintro rfl
      obtain ⟨o', e1, e2⟩ := h2 n _ e
      rw [ho₀] at e1; cases e1; cases e2
end

/-- the judgement -/
def Wp (c : Cx) {α β : Type} (t : Sem α) (K : α → β → Prop) (Q : β → St → Prop) (σ : St) : Prop :=
  ∀ b₀ s₀ s, Rel c b₀ s₀ σ s → wpAny (model c.prog c.w) c.A t (fun a s' => ∃ b σ', K a b ∧ Rel c b₀ s₀ σ' s' ∧ Q b σ') (fun _ _ => False) s

def VK (a : Value) (v : V) : Prop := er a = some v
inductive Fl where
  | next | brk | cont
  | ret (v : V)
def FK : Flow → Fl → Prop
  | .next, .next => True
  | .brk, .brk => True
  | .cont, .cont => True
  | .ret a, .ret v => er a = some v
  | _, _ => False

def W (c : Cx) (e : Expr) (Q : V → St → Prop) (σ : St) : Prop := Wp c (eval e c.env) VK Q σ
def Wb (c : Cx) (e : Expr) (Q : Bool → St → Prop) (σ : St) : Prop := Wp c (isTrue e c.env (eval e c.env)) Eq Q σ
def Ws (c : Cx) (st : Stmt) (Q : Fl → St → Prop) (σ : St) : Prop := Wp c (exec st c.env) FK Q σ
def Wss (c : Cx) (st : List Stmt) (Q : Fl → St → Prop) (σ : St) : Prop := Wp c (execs st c.env) FK Q σ

section
variable {c : Cx} {σ : St} {α β γ δ : Type}

theorem Wp.mono {t : Sem α} {K : α → β → Prop} {Q Q' : β → St → Prop} (h : Wp c t K Q σ) (hq : ∀ b σ', Q b σ' → Q' b σ') : Wp c t K Q' σ := fun b₀ s₀ s R =>
  wpAny_mono (h b₀ s₀ s R) (fun _ _ ⟨b, σ', k, r, q⟩ => ⟨b, σ', k, r, hq b σ' q⟩) fun _ _ x => x

theorem Wp.pure {a : α} {b : β} {K : α → β → Prop} {Q : β → St → Prop} (k : K a b) (h : Q b σ) : Wp c (Pure.pure a) K Q σ := fun _ _ _ R => wpAny_pure ⟨b, σ, k, R, h⟩

theorem Wp.bind {t : Sem α} {f : α → Sem γ} {K : α → β → Prop} {K' : γ → δ → Prop} {Q : δ → St → Prop} (h : Wp c t K (fun b σ' => ∀ a, K a b → Wp c (f a) K' Q σ') σ) : Wp c (t >>= f) K' Q σ := fun b₀ s₀ s R =>
  wpAny_bind (wpAny_mono (h b₀ s₀ s R) (fun a s' ⟨_, _, k, r, q⟩ => q a k b₀ s₀ s' r) fun _ _ x => x.elim)
end

end Mine

namespace Mine
open PySem PyProof.Rows

/-- every object of the heap but the frame, as a ledger -/
def allNews (h : Heap) (L : Addr) : List (Addr × Obj) := (List.range h.objs.size).filterMap fun a => if a = L then Option.none else (h.get? a).map fun o => (a, o)
theorem mem_allNews {h : Heap} {L a : Addr} {o : Obj} (e : h.get? a = some o) (ha : a ≠ L) : (a, o) ∈ allNews h L := by
  unfold allNews
  rw [List.mem_filterMap]
  exact ⟨a, List.mem_range.mpr (Heap.lt_size e), by rw [if_neg ha, e]; rfl⟩
theorem of_allNews {h : Heap} {L : Addr} {p : Addr × Obj} (hp : p ∈ allNews h L) : h.get? p.1 = some p.2 ∧ p.1 ≠ L := by
  unfold allNews at hp
  rw [List.mem_filterMap] at hp
  obtain ⟨a, _, e⟩ := hp
  by_cases ha : a = L
  · rw [if_pos ha] at e; cases e
  · rw [if_neg ha] at e
    cases h' : h.get? a with
    | none => rw [h'] at e; cases e
    | some o => rw [h'] at e; cases e; exact ⟨h', ha⟩
def noHeap : Heap := ⟨#[], {}⟩
theorem noHeap_get (a : Addr) : noHeap.get? a = Option.none := by
  cases e : noHeap.get? a with
  | none => rfl
  | some o => exact absurd (Heap.lt_size e) (Nat.not_lt_zero _)
theorem frAll {h : Heap} {L : Addr} {m : Str → Option Value} (hn : h.Ns L m) : Fr noHeap L h m := ⟨hn, (fun b o e => by rw [noHeap_get] at e; cases e), Nat.zero_le _⟩
theorem newsAll (h : Heap) (L : Addr) : News noHeap L h (allNews h L) := fun _ hp => ⟨(of_allNews hp).1, (of_allNews hp).2, noHeap_get _⟩

section
variable {c : Cx} {b₀ : Addr → Option Obj} {s₀ s : Shared} {σ : St}

/-- the frame's table as some map: what a library's rule asks -/
theorem Rel.ns (R : Rel c b₀ s₀ σ s) : ∃ m, s.heap.Ns c.env.locals m := by
  obtain ⟨m, _, h, _⟩ := R.frame; exact ⟨m, h⟩

theorem Rel.growL (R : Rel c b₀ s₀ σ s) {h' : Heap} {tk : Nat} (hn : ∀ m, s.heap.Ns c.env.locals m → h'.Ns c.env.locals m) (hk : ∀ b o, b ≠ c.env.locals → s.heap.get? b = some o → h'.get? b = some o) : Rel c b₀ s₀ σ { s with heap := h', toks := tk } := by
  obtain ⟨m, cm, h1, h2, h3⟩ := R.frame
  have ne : ∀ b o, b₀ b = some o → b ≠ c.env.locals := fun b o e h => by rw [h, R.own] at e; cases e
  refine { same := ?_, top := R.top, keep := ?_, ro := R.ro, hp := ?_, frame := ⟨m, cm, hn m h1, ?_, h3⟩, own := R.own, cells := R.cells }
  · obtain ⟨h, t, rfl⟩ := R.same; exact ⟨h', tk, rfl⟩
  · exact fun a o e => hk a o (ne a o e) (R.keep a o e)
  · intro a l e
    obtain ⟨p, o, ho, x⟩ := R.hp a l e
    refine ⟨p, o, hk a o ?_ ho, x⟩
    rintro rfl
    obtain ⟨o', _, _, e1, e2, _⟩ := h1
    obtain ⟨vs, n, rfl, _⟩ := x
    rw [ho] at e1; cases e1; cases e2
  · intro n a e
    obtain ⟨o, e1, e2⟩ := h2 n a e
    refine ⟨o, hk a o ?_ e1, e2⟩
    rintro rfl
    obtain ⟨o', _, _, e3, e4, _⟩ := h1
    rw [e1] at e3; cases e3; rw [e2] at e4; cases e4

/-- a rule of the library over a ledger: what it makes is entered -/
theorem Rel.ofNews (R : Rel c b₀ s₀ σ s) {m : Str → Option Value} (hm : s.heap.Ns c.env.locals m) {h' : Heap} {tk : Nat} {news : List (Addr × Obj)} (F : Fr noHeap c.env.locals h' m) (N : News noHeap c.env.locals h' news)
    (hs : ∀ p ∈ allNews s.heap c.env.locals, p ∈ news) : Rel c b₀ s₀ σ { s with heap := h', toks := tk } :=
  R.growL (fun m' hm' => by
    obtain ⟨o, es, ep, a, b, d, e⟩ := F.ns
    exact ⟨o, es, ep, a, b, d, fun x => (e x).trans (hm.agree hm' x)⟩) fun b o hb e => (N _ (hs _ (mem_allNews e hb))).1
end

section
variable {c : Cx} {σ : St} {Q : V → St → Prop}

def Op (c : Cx) (op : Operator) (a b : V) (Q : V → St → Prop) (σ : St) : Prop := ∀ x y, er x = some a → er y = some b → Wp c (binaryOp op x y) VK Q σ
def Cm (c : Cx) (op : CmpOp) (a b : V) (Q : Bool → St → Prop) (σ : St) : Prop := ∀ x y, er x = some a → er y = some b → Wp c (compareOp op x y) (fun v b => v = .bool b) Q σ

theorem W_int {i : Int} {k pos} (h : Q (.int i) σ) : W c (.Constant (.int i) k pos) Q σ := fun _ _ _ R => wpAny_Constant_int ⟨_, _, rfl, R.toks _, h⟩
theorem W_bool {b : Bool} {k pos} (h : Q (.bool b) σ) : W c (.Constant (.bool b) k pos) Q σ := fun _ _ _ R => wpAny_pure ⟨_, _, rfl, R, h⟩

theorem W_name (hc : c.Ok) {x : Str} {pos : Pos} {v : V} (hx : σ.loc x = some v) (h : Q v σ) (hd : (x == ("__debug__" : Str)) = false := by decide) : W c (.Name x pos) Q σ := fun _ _ s R => by
  obtain ⟨m, cm, h1, h2, h3⟩ := R.frame
  refine wpAny_Name ?_ hd
  rcases h3 x v hx with ⟨hk, val, hm, he⟩ | ⟨hk, a, val, hl, hm, he⟩
  · exact wpAny_loadName_local hc.fn hk h1 hm ⟨v, σ, he, R, h⟩
  · exact wpAny_loadName_cell hc.fn hk hl (hm ▸ h2 x a hl) ⟨v, σ, he, R, h⟩

theorem W_BinOp {l r : Expr} {op : Operator} {pos : Pos} (h : W c l (fun a σ₁ => W c r (fun b σ₂ => Op c op a b Q σ₂) σ₁) σ) : W c (.BinOp l op r pos) Q σ := fun b₀ s₀ s R =>
  wpAny_BinOp (wpAny_mono (h b₀ s₀ s R) (fun _ s₁ ⟨_, _, ka, R₁, h₁⟩ => wpAny_mono (h₁ b₀ s₀ s₁ R₁) (fun _ s₂ ⟨_, _, kb, R₂, h₂⟩ => h₂ _ _ ka kb b₀ s₀ s₂ R₂) fun _ _ x => x.elim) fun _ _ x => x.elim)

theorem Op_add {a b : Int} (h : Q (.int (a + b)) σ) : Op c .Add (.int a) (.int b) Q σ := fun x y hx hy b₀ s₀ s R => by
  obtain ⟨t, rfl⟩ := er_int hx; obtain ⟨u, rfl⟩ := er_int hy
  exact PySem.P.add_int ⟨_, _, rfl, R.toks _, h⟩
theorem Op_sub {a b : Int} (h : Q (.int (a - b)) σ) : Op c .Sub (.int a) (.int b) Q σ := fun x y hx hy b₀ s₀ s R => by
  obtain ⟨t, rfl⟩ := er_int hx; obtain ⟨u, rfl⟩ := er_int hy
  exact PyProof.Rows.sub_int ⟨_, _, rfl, R.toks _, h⟩
theorem Op_mul {a b : Int} (hm : IntMulOk a b) (h : Q (.int (a * b)) σ) : Op c .Mult (.int a) (.int b) Q σ := fun x y hx hy b₀ s₀ s R => by
  obtain ⟨t, rfl⟩ := er_int hx; obtain ⟨u, rfl⟩ := er_int hy
  exact PyProof.Rows.mul_int ⟨_, _, rfl, R.toks _, h⟩ hm
theorem Op_mod {a b : Int} (hb : b ≠ 0) (h : Q (.int (a.fmod b)) σ) : Op c .Mod (.int a) (.int b) Q σ := fun x y hx hy b₀ s₀ s R => by
  obtain ⟨t, rfl⟩ := er_int hx; obtain ⟨u, rfl⟩ := er_int hy
  exact PyProof.Rows.mod_int hb ⟨_, _, rfl, R.toks _, h⟩
theorem Op_floordiv {a b : Int} (hb : b ≠ 0) (hs : b.natAbs < 1073741824) (h : Q (.int (a.fdiv b)) σ) : Op c .FloorDiv (.int a) (.int b) Q σ := fun x y hx hy b₀ s₀ s R => by
  obtain ⟨t, rfl⟩ := er_int hx; obtain ⟨u, rfl⟩ := er_int hy
  exact PyProof.Rows.floordiv_int hb ⟨_, _, rfl, R.toks _, h⟩ (Or.inl (PyProof.noPylong_small hs))
theorem Op_pow {a n : Int} (hn : 0 ≤ n) (hs : (Builtin.Int.intBits a : Int) * n ≤ 2 ^ 27) (h : Q (.int (a ^ n.toNat)) σ) : Op c .Pow (.int a) (.int n) Q σ := fun x y hx hy b₀ s₀ s R => by
  obtain ⟨t, rfl⟩ := er_int hx; obtain ⟨u, rfl⟩ := er_int hy
  exact PyProof.Rows.pow_int hn hs ⟨_, _, rfl, R.toks _, h⟩

theorem Op_addL {a b : Addr} {l k : List V} (ha : c.get σ a = some l) (hb : c.get σ b = some k) (hs : l.length + k.length ≤ sizeLine)
    (h : ∀ d, c.get σ d = Option.none → Q (.ref d) (σ.put d (l ++ k))) : Op c .Add (.ref a) (.ref b) Q σ := fun x y hx hy b₀ s₀ s R => by
  have := er_ref hx; subst this
  have := er_ref hy; subst this
  obtain ⟨vs, hl, el⟩ := R.list ha
  obtain ⟨ws, hk, ek⟩ := R.list hb
  obtain ⟨m, hm⟩ := R.ns
  refine add_arrays (frAll hm) (newsAll s.heap c.env.locals) hl hk (fun h' F N => ⟨.ref s.heap.objs.size, σ.put s.heap.objs.size (l ++ k), rfl, ?_, h _ (R.freshG (Nat.le_refl _))⟩) ?_
  · have R' : Rel c b₀ s₀ σ { s with heap := h', toks := s.toks } := R.ofNews hm F N fun p hp => .tail _ hp
    exact R'.enter (N _ (.head _)).1 ⟨_, _, rfl, by simpa using el.append ek⟩ (R.freshB (Nat.le_refl _))
  · have e1 := el.length; have e2 := ek.length
    rw [Array.length_toList] at e1 e2
    omega

def repL (l : List V) (n : Nat) : List V := (List.replicate n l).flatten
theorem Op_mulL {a : Addr} {l : List V} {n : Int} (ha : σ.hp a = some l) (hn : n < 2 ^ 24) (h0 : 0 ≤ n) (hs : l.length * n.toNat ≤ 2 ^ 24)
    (h : ∀ d, c.get σ d = Option.none → Q (.ref d) (σ.put d (repL l n.toNat))) : Op c .Mult (.ref a) (.int n) Q σ := fun x y hx hy b₀ s₀ s R => by
  have := er_ref hx; subst this
  obtain ⟨t, rfl⟩ := er_int hy
  obtain ⟨_, o, ho, vs, k, rfl, el⟩ := R.hp a l ha
  obtain ⟨m, hm⟩ := R.ns
  have e1 := el.length
  rw [Array.length_toList] at e1
  refine mul_list (frAll hm) (newsAll s.heap c.env.locals) ho (by omega) (by omega) (by rw [e1]; exact hs) (fun h' F N => ⟨.ref s.heap.objs.size, σ.put s.heap.objs.size (repL l n.toNat), rfl, ?_, h _ (R.freshG (Nat.le_refl _))⟩)
  have R' : Rel c b₀ s₀ σ { s with heap := h', toks := s.toks } := R.ofNews hm F N fun p hp => .tail _ hp
  refine R'.enter (N _ (.head _)).1 ⟨_, _, rfl, ?_⟩ (R.freshB (Nat.le_refl _))
  have key : ∀ (k : Nat) (acc : Array Value) (al : List V), Ers acc.toList al → Ers (List.foldl (fun x1 x2 => x1 ++ x2) acc (List.replicate k vs)).toList (al ++ repL l k) := by
    intro k
    induction k with
    | zero => intro acc al h; simpa [repL] using h
    | succ k ih =>
      intro acc al h
      rw [List.replicate_succ, List.foldl_cons]
      have := ih (acc ++ vs) (al ++ l) (by simpa using h.append el)
      simpa [repL, List.replicate_succ] using this
  by_cases hv : vs.isEmpty = true
  · have hl0 : l = [] := by
      have : vs.size = 0 := by simpa using hv
      rw [e1] at this
      exact List.length_eq_zero_iff.mp this
    rw [if_pos hv]
    have e : repL l n.toNat = [] := by rw [hl0]; simp [repL]
    rw [e]; rfl
  · rw [if_neg hv]
    simpa using key n.toNat #[] [] rfl

theorem W_Compare {l r : Expr} {op : CmpOp} {pos : Pos} (h : W c l (fun a σ₁ => W c r (fun b σ₂ => Cm c op a b (fun b => Q (.bool b)) σ₂) σ₁) σ)
    (hm : behindInMarks op r = false := by with_unfolding_all rfl) : W c (.Compare l [op] [r] pos) Q σ := fun b₀ s₀ s R =>
  wpAny_Compare1 (wpAny_mono (h b₀ s₀ s R) (fun _ s₁ ⟨_, _, ka, R₁, h₁⟩ => wpAny_mono (h₁ b₀ s₀ s₁ R₁) (fun _ s₂ ⟨_, _, kb, R₂, h₂⟩ =>
    wpAny_mono (h₂ _ _ ka kb b₀ s₀ s₂ R₂) (fun _ s₃ ⟨b, σ', kv, R₃, h₃⟩ => ⟨.bool b, σ', by rw [kv]; rfl, R₃, h₃⟩) fun _ _ x => x) fun _ _ x => x.elim) fun _ _ x => x.elim) hm

theorem Wb_Compare {Q : Bool → St → Prop} {l r : Expr} {op : CmpOp} {pos : Pos} (h : W c l (fun a σ₁ => W c r (fun b σ₂ => Cm c op a b Q σ₂) σ₁) σ)
    (hm : behindInMarks op r = false := by with_unfolding_all rfl) : Wb c (.Compare l [op] [r] pos) Q σ := fun b₀ s₀ s R =>
  wpAny_isTrue_Compare1 (wpAny_mono (h b₀ s₀ s R) (fun _ s₁ ⟨_, _, ka, R₁, h₁⟩ => wpAny_mono (h₁ b₀ s₀ s₁ R₁) (fun _ s₂ ⟨_, _, kb, R₂, h₂⟩ =>
    wpAny_mono (h₂ _ _ ka kb b₀ s₀ s₂ R₂) (fun _ s₃ ⟨b, σ', kv, R₃, h₃⟩ => by rw [kv]; exact wpAny_truthy_bool ⟨b, σ', rfl, R₃, h₃⟩) fun _ _ x => x) fun _ _ x => x.elim) fun _ _ x => x.elim) hm

section
variable {Q : Bool → St → Prop} {a b : Int}
theorem Cm_eq (h : Q (decide (a = b)) σ) : Cm c .Eq (.int a) (.int b) Q σ := fun x y hx hy b₀ s₀ s R => by
  obtain ⟨t, rfl⟩ := er_int hx; obtain ⟨u, rfl⟩ := er_int hy
  exact PyProof.Rows.eq_int ⟨_, _, rfl, R, by rw [show (a == b) = decide (a = b) from rfl]; exact h⟩
theorem Cm_ne (h : Q (!decide (a = b)) σ) : Cm c .NotEq (.int a) (.int b) Q σ := fun x y hx hy b₀ s₀ s R => by
  obtain ⟨t, rfl⟩ := er_int hx; obtain ⟨u, rfl⟩ := er_int hy
  exact PyProof.Rows.ne_int ⟨_, _, rfl, R, h⟩
theorem Cm_lt (h : Q (decide (a < b)) σ) : Cm c .Lt (.int a) (.int b) Q σ := fun x y hx hy b₀ s₀ s R => by
  obtain ⟨t, rfl⟩ := er_int hx; obtain ⟨u, rfl⟩ := er_int hy
  exact PyProof.Rows.lt_int ⟨_, _, rfl, R, h⟩
theorem Cm_le (h : Q (decide (a ≤ b)) σ) : Cm c .LtE (.int a) (.int b) Q σ := fun x y hx hy b₀ s₀ s R => by
  obtain ⟨t, rfl⟩ := er_int hx; obtain ⟨u, rfl⟩ := er_int hy
  exact PyProof.Rows.le_int ⟨_, _, rfl, R, h⟩
theorem Cm_ge (h : Q (decide (b ≤ a)) σ) : Cm c .GtE (.int a) (.int b) Q σ := fun x y hx hy b₀ s₀ s R => by
  obtain ⟨t, rfl⟩ := er_int hx; obtain ⟨u, rfl⟩ := er_int hy
  exact PyProof.Rows.ge_int ⟨_, _, rfl, R, h⟩

theorem Wb_or {x y : Expr} {pos : Pos} (h : Wb c x (fun b σ₁ => (b = true → Q true σ₁) ∧ (b = false → Wb c y Q σ₁)) σ) : Wb c (.BoolOp .Or [x, y] pos) Q σ := fun b₀ s₀ s R => by
  refine isTrue_or (wpAny_mono (h b₀ s₀ s R) (fun v s₁ ⟨b, σ₁, k, R₁, h₁⟩ => ?_) fun _ _ x => x)
  subst k
  cases v with
  | true => exact ⟨true, σ₁, rfl, R₁, h₁.1 rfl⟩
  | false =>
    refine isTrue_or (wpAny_mono (h₁.2 rfl b₀ s₀ s₁ R₁) (fun v s₂ ⟨b, σ₂, k, R₂, h₂⟩ => ?_) fun _ _ x => x)
    subst k
    cases v with
    | true => exact ⟨true, σ₂, rfl, R₂, h₂⟩
    | false => exact isTrue_or_nil ⟨false, σ₂, rfl, R₂, h₂⟩
theorem Wb_and {x y : Expr} {pos : Pos} (h : Wb c x (fun b σ₁ => (b = false → Q false σ₁) ∧ (b = true → Wb c y Q σ₁)) σ) : Wb c (.BoolOp .And [x, y] pos) Q σ := fun b₀ s₀ s R => by
  refine isTrue_and (wpAny_mono (h b₀ s₀ s R) (fun v s₁ ⟨b, σ₁, k, R₁, h₁⟩ => ?_) fun _ _ x => x)
  subst k
  cases v with
  | false => exact ⟨false, σ₁, rfl, R₁, h₁.1 rfl⟩
  | true =>
    refine isTrue_and (wpAny_mono (h₁.2 rfl b₀ s₀ s₁ R₁) (fun v s₂ ⟨b, σ₂, k, R₂, h₂⟩ => ?_) fun _ _ x => x)
    subst k
    cases v with
    | false => exact ⟨false, σ₂, rfl, R₂, h₂⟩
    | true => exact isTrue_and_nil ⟨true, σ₂, rfl, R₂, h₂⟩
end

theorem W_IfExp {t x y : Expr} {pos : Pos} (h : Wb c t (fun b σ₁ => (b = true → W c x Q σ₁) ∧ (b = false → W c y Q σ₁)) σ) : W c (.IfExp t x y pos) Q σ := fun b₀ s₀ s R =>
  wpAny_IfExp (wpAny_mono (h b₀ s₀ s R) (fun v s₁ ⟨b, σ₁, k, R₁, h₁⟩ => by
    subst k
    cases v with
    | true => exact h₁.1 rfl b₀ s₀ s₁ R₁
    | false => exact h₁.2 rfl b₀ s₀ s₁ R₁) fun _ _ x => x)
end

/-- several expressions, one behind the other -/
def WL (c : Cx) : List Expr → (List V → St → Prop) → St → Prop
  | [], Q, σ => Q [] σ
  | e :: r, Q, σ => W c e (fun v σ₁ => WL c r (fun vs σ₂ => Q (v :: vs) σ₂) σ₁) σ

def noStar : List Expr → Bool
  | [] => true
  | .Starred .. :: _ => false
  | _ :: r => noStar r
theorem starEach_of {env : Env} : ∀ {e : Expr} {r : List Expr}, noStar (e :: r) = true → starEach (e :: r) env = (false, eval e env) :: starEach r env := by
  intro e r h
  cases e <;> first | rfl | (simp [noStar] at h)
theorem noStar_tail {e : Expr} {r : List Expr} (h : noStar (e :: r) = true) : noStar r = true := by
  cases e <;> first | exact h | (simp [noStar] at h)
theorem backTo_any {env : Env} {pos : Pos} : ∀ {es : List Expr}, noStar es = true → (backTo pos (starEach es env)).any (·.1) = false
  | [], _ => rfl
  | e :: r, h => by
    rw [starEach_of h]
    show (false || (backTo pos (starEach r env)).any (·.1)) = false
    rw [backTo_any (noStar_tail h)]; rfl

theorem WL.run {c : Cx} {pos : Pos} {b₀ : Addr → Option Obj} {s₀ : Shared} : ∀ {es : List Expr} {Q : List V → St → Prop} {σ : St} {s : Shared}, noStar es = true → WL c es Q σ → Rel c b₀ s₀ σ s →
    wpAny (model c.prog c.w) c.A (spliced (backTo pos (starEach es c.env))) (fun vs s' => ∃ l σ', Ers vs l ∧ Rel c b₀ s₀ σ' s' ∧ Q l σ') (fun _ _ => False) s
  | [], Q, σ, s, _, h, R => args_nil ⟨[], σ, rfl, R, h⟩
  | e :: r, Q, σ, s, hs, h, R => by
    refine args_cons (wpAny_mono (h b₀ s₀ s R) (fun v s₁ ⟨x, σ₁, k, R₁, h₁⟩ => ?_) fun _ _ x => x) (starEach_of hs)
    exact wpAny_mono (WL.run (noStar_tail hs) h₁ R₁) (fun vs s₂ ⟨l, σ₂, k₂, R₂, h₂⟩ => ⟨x :: l, σ₂, Ers.cons k k₂, R₂, h₂⟩) fun _ _ x => x

section
variable {c : Cx} {σ : St} {Q : V → St → Prop}
theorem W_List {es : List Expr} {pos : Pos} (hs : noStar es = true) (hz : es.length ≤ 1000) (h : WL c es (fun l σ₁ => l.length = es.length → ∀ d, c.get σ₁ d = Option.none → Q (.ref d) (σ₁.put d l)) σ) : W c (.List es pos) Q σ := fun b₀ s₀ s R => by
  have len : ∀ {es : List Expr} {Q : List V → St → Prop} {σ : St}, WL c es Q σ → WL c es (fun l σ' => l.length = es.length ∧ Q l σ') σ := by
    intro es
    induction es with
    | nil => intro Q σ h; exact ⟨rfl, h⟩
    | cons e r ih => intro Q σ h; exact Wp.mono h fun v σ₁ h₁ => by
                      have := ih h₁
                      refine (?_ : WL c r _ σ₁)
                      clear h h₁
                      revert this
                      generalize hk : (fun l σ' => l.length = r.length ∧ Q (v :: l) σ') = P
                      intro this
                      have mono : ∀ {es : List Expr} {P Q : List V → St → Prop} {σ : St}, (∀ l σ', P l σ' → Q l σ') → WL c es P σ → WL c es Q σ := by
                        intro es
                        induction es with
                        | nil => intro P Q σ hq h; exact hq _ _ h
                        | cons e r ih => intro P Q σ hq h; exact Wp.mono h fun v σ₁ h₁ => ih (fun l σ' h => hq _ _ h) h₁
                      exact mono (fun l σ' h => by subst hk; exact ⟨by simp [h.1], h.2⟩) this
  refine List_ (wpAny_mono (WL.run hs (len h) R) (fun vs s₁ ⟨l, σ₁, k, R₁, hl, h₁⟩ => ?_) fun _ _ x => x)
  refine wpAny_newObj_type ?_ (by
    show vs.toArray.size ≤ sizeLine
    have := k.length
    rw [List.size_toArray, this, hl]
    exact Nat.le_trans hz (by decide))
  exact ⟨.ref s₁.heap.objs.size, σ₁.put s₁.heap.objs.size l, rfl, R₁.alloc (tk := s₁.toks) (n := 0) (by simpa using k) (Nat.le_refl _) (fun b o e => Heap.get?_push_of_some _ e) (Heap.get?_push_size _ rfl), h₁ hl _ (R₁.freshG (Nat.le_refl _))⟩
end
end Mine

namespace Mine
open PySem PyProof.Rows

def biTable : List (Str × Value) := [("len", .builtin "len"), ("sum", .builtin "sum"), ("min", .builtin "min"), ("max", .builtin "max"), ("range", .type "range"), ("list", .type "list")]

/-- what stands at the top -/
structure TopOk (ht : Heap) (mg : Str → Option Value) : Prop where
  g : ht.Ns mainGlobals mg
  b : ∃ mb, ht.Ns builtinsNs mb ∧ ∀ p ∈ biTable, mg p.1 = Option.none ∧ mb p.1 = some p.2
  nolimit : ht.NoLimit

section
variable {c : Cx} {b₀ : Addr → Option Obj} {s₀ s : Shared} {σ : St}

theorem Rel.topKeep (R : Rel c b₀ s₀ σ s) : ∀ b o, c.ht.get? b = some o → s.heap.get? b = some o := fun b o e => R.keep b o (R.top b o e)

theorem evalBi (hc : c.Ok) {mg : Str → Option Value} (T : TopOk c.ht mg) (R : Rel c b₀ s₀ σ s) {x : Str} {pos : Pos} {v : Value} {Q : Value → Shared → Prop} {E : Value → Shared → Prop} (hx : (x, v) ∈ biTable) (hk : c.env.kindOf x = some .globalImplicit) (h : Q v s)
    (hd : (x == ("__debug__" : Str)) = false := by decide) : wpAny (model c.prog c.w) c.A (eval (.Name x pos) c.env) Q E s := by
  obtain ⟨mb, hb, ht⟩ := T.b
  exact Calls.Name_function_global hc.fn hk (Calls.loadGlobal_builtin (by rw [hc.glob]; exact T.g.keeps R.topKeep) (ht _ hx).1 (by rw [hc.bi]; exact hb.keeps R.topKeep) (ht _ hx).2 h) hd

theorem evalGl (hc : c.Ok) {mg : Str → Option Value} (T : TopOk c.ht mg) (R : Rel c b₀ s₀ σ s) {x : Str} {pos : Pos} {v : Value} {Q : Value → Shared → Prop} {E : Value → Shared → Prop} (hx : mg x = some v) (hk : c.env.kindOf x = some .globalImplicit) (h : Q v s)
    (hd : (x == ("__debug__" : Str)) = false := by decide) : wpAny (model c.prog c.w) c.A (eval (.Name x pos) c.env) Q E s :=
  Calls.Name_function_global hc.fn hk (Calls.loadGlobal_global (by rw [hc.glob]; exact T.g.keeps R.topKeep) hx h) hd
end

section
variable {c : Cx} {σ : St} {Q : V → St → Prop} {mg : Str → Option Value}

def Cb (c : Cx) (f : Value) (l : List V) (Q : V → St → Prop) (σ : St) : Prop := ∀ vs, Ers vs l → Wp c (call f vs) VK Q σ

theorem W_callB (hc : c.Ok) (T : TopOk c.ht mg) {x : Str} {id : String} {e : Expr} {r : List Expr} {p pos : Pos} (h : WL c (e :: r) (fun l σ₁ => Cb c (.builtin id) l Q σ₁) σ)
    (hx : (x, .builtin id) ∈ biTable) (hk : c.env.kindOf x = some .globalImplicit) (hs : noStar (e :: r) = true) (hd : (x == ("__debug__" : Str)) = false := by decide) : W c (.Call (.Name x p) (e :: r) [] pos) Q σ := fun b₀ s₀ s R => by
  refine Call_Name rfl (evalBi hc T R hx hk ?_ hd)
  refine callWith_builtin1 (wpAny_mono (WL.run hs h R) (fun vs s₁ ⟨l, σ₁, k, R₁, h₁⟩ => h₁ vs k b₀ s₀ s₁ R₁) fun _ _ x => x.elim) (starEach_of hs) (backTo_any (noStar_tail hs))
theorem W_callT (hc : c.Ok) (T : TopOk c.ht mg) {x : Str} {id : String} {e : Expr} {r : List Expr} {p pos : Pos} (h : WL c (e :: r) (fun l σ₁ => Cb c (.type id) l Q σ₁) σ)
    (hx : (x, .type id) ∈ biTable) (hk : c.env.kindOf x = some .globalImplicit) (hs : noStar (e :: r) = true) (hd : (x == ("__debug__" : Str)) = false := by decide) : W c (.Call (.Name x p) (e :: r) [] pos) Q σ := fun b₀ s₀ s R => by
  refine Call_Name rfl (evalBi hc T R hx hk ?_ hd)
  refine PyProof.Rows.callWith_type1 (wpAny_mono (WL.run hs h R) (fun vs s₁ ⟨l, σ₁, k, R₁, h₁⟩ => h₁ vs k b₀ s₀ s₁ R₁) fun _ _ x => x.elim) (starEach_of hs) (backTo_any (noStar_tail hs))

theorem ers1 {vs : List Value} {v : V} (h : Ers vs [v]) : ∃ x, vs = [x] ∧ er x = some v := by
  match vs, h with
  | [], h => simp [Ers] at h
  | [x], h => exact ⟨x, rfl, by simpa [Ers] using h⟩
  | _ :: _ :: _, h => simp [Ers] at h
theorem ers2 {vs : List Value} {v w : V} (h : Ers vs [v, w]) : ∃ x y, vs = [x, y] ∧ er x = some v ∧ er y = some w := by
  match vs, h with
  | [], h => simp [Ers] at h
  | [_], h => simp [Ers] at h
  | [x, y], h => exact ⟨x, y, rfl, by simpa [Ers] using h⟩
  | _ :: _ :: _ :: _, h => simp [Ers] at h

theorem Cb_len {a : Addr} {l : List V} (ha : c.get σ a = some l) (hz : l.length ≤ sizeLine) (h : Q (.int l.length) σ) : Cb c (.builtin "len") [.ref a] Q σ := fun vs hv b₀ s₀ s R => by
  obtain ⟨x, rfl, hx⟩ := ers1 hv
  have := er_ref hx; subst this
  obtain ⟨ws, hl, el⟩ := R.list ha
  have e := el.length
  rw [Array.length_toList] at e
  refine Calls.call_len_list hl ?_ ⟨.int l.length, σ, by rw [e]; rfl, R.toks _, h⟩
  rw [e]
  have : sizeLine = 2 ^ 24 := rfl
  omega

theorem intItems_of {vs : List Value} {ns : List Int} (h : IntsAre vs ns) : ∃ xs : Array (Int × Tok), vs.toArray = intItems xs ∧ xs.toList.map (·.1) = ns := by
  induction h with
  | nil => exact ⟨#[], by simp [intItems], rfl⟩
  | cons n t _ ih =>
    obtain ⟨xs, e1, e2⟩ := ih
    refine ⟨((n, t) :: xs.toList).toArray, ?_, by simp [e2]⟩
    have e3 := congrArg Array.toList e1
    simp only [intItems, Array.toList_map] at e3
    apply Array.toList_inj.mp
    simp [intItems, ← e3]

theorem Cb_sum (hc : c.Ok) {a : Addr} {ns : List Int} (ha : c.get σ a = some (ns.map .int)) (h : Q (.int ns.sum) σ) : Cb c (.builtin "sum") [.ref a] Q σ := fun vs hv b₀ s₀ s R => by
  obtain ⟨x, rfl, hx⟩ := ers1 hv
  have := er_ref hx; subst this
  obtain ⟨ws, hl, el⟩ := R.list ha
  obtain ⟨xs, e1, e2⟩ := intItems_of el.ints
  rw [show ws.toList.toArray = ws from rfl] at e1
  subst e1
  refine sum_intListG hc.hand hl fun h' tk t' hk => ⟨.int ns.sum, σ, ?_, R.grow hk, h⟩
  rw [preSum_eq, e2, List.take_of_length_le (by rw [← e2]; simp)]
  rfl

theorem Cb_max (hc : c.Ok) {a : Addr} {ns : List Int} (ha : c.get σ a = some (ns.map .int)) (hne : ns ≠ []) (h : ∀ m, m ∈ ns → (∀ k ∈ ns, k ≤ m) → Q (.int m) σ) : Cb c (.builtin "max") [.ref a] Q σ := fun vs hv b₀ s₀ s R => by
  obtain ⟨x, rfl, hx⟩ := ers1 hv
  have := er_ref hx; subst this
  obtain ⟨ws, hl, el⟩ := R.list ha
  obtain ⟨xs, e1, e2⟩ := intItems_of el.ints
  rw [show ws.toList.toArray = ws from rfl] at e1
  subst e1
  have hsz : 0 < xs.size := by
    have : ns.length ≠ 0 := fun e => hne (List.length_eq_zero_iff.mp e)
    rw [← e2] at this
    simp at this
    have : xs.size ≠ 0 := fun e => this (Array.eq_empty_of_size_eq_zero e)
    omega
  refine max_intList hc.hand hl hsz fun v h' tk hv hk => ?_
  obtain ⟨t, rfl⟩ := intItems_at hv
  obtain ⟨h1, h2⟩ := argBest_gt (numAt xs) (xs.size - 1)
  refine ⟨.int _, σ, rfl, R.grow hk, h _ ?_ fun k hk => ?_⟩
  · rw [numAt_eq, ← e2]; exact getD_mem (by rw [List.length_map, Array.length_toList]; omega)
  · rw [← e2] at hk
    obtain ⟨j, hj, rfl⟩ := mem_getD hk
    rw [List.length_map, Array.length_toList] at hj
    rw [← numAt_eq]; exact h2 j (by omega)
theorem Cb_min (hc : c.Ok) {a : Addr} {ns : List Int} (ha : c.get σ a = some (ns.map .int)) (hne : ns ≠ []) (h : ∀ m, m ∈ ns → (∀ k ∈ ns, m ≤ k) → Q (.int m) σ) : Cb c (.builtin "min") [.ref a] Q σ := fun vs hv b₀ s₀ s R => by
  obtain ⟨x, rfl, hx⟩ := ers1 hv
  have := er_ref hx; subst this
  obtain ⟨ws, hl, el⟩ := R.list ha
  obtain ⟨xs, e1, e2⟩ := intItems_of el.ints
  rw [show ws.toList.toArray = ws from rfl] at e1
  subst e1
  have hsz : 0 < xs.size := by
    have : ns.length ≠ 0 := fun e => hne (List.length_eq_zero_iff.mp e)
    rw [← e2] at this
    simp at this
    have : xs.size ≠ 0 := fun e => this (Array.eq_empty_of_size_eq_zero e)
    omega
  refine min_intList hc.hand hl hsz fun v h' tk hv hk => ?_
  obtain ⟨t, rfl⟩ := intItems_at hv
  obtain ⟨h1, h2⟩ := argBest_lt (numAt xs) (xs.size - 1)
  refine ⟨.int _, σ, rfl, R.grow hk, h _ ?_ fun k hk => ?_⟩
  · rw [numAt_eq, ← e2]; exact getD_mem (by rw [List.length_map, Array.length_toList]; omega)
  · rw [← e2] at hk
    obtain ⟨j, hj, rfl⟩ := mem_getD hk
    rw [List.length_map, Array.length_toList] at hj
    rw [← numAt_eq]; exact h2 j (by omega)
theorem Cb_min2 (hc : c.Ok) {a b : Int} (h : Q (.int (if b < a then b else a)) σ) : Cb c (.builtin "min") [.int a, .int b] Q σ := fun vs hv b₀ s₀ s R => by
  obtain ⟨x, y, rfl, hx, hy⟩ := ers2 hv
  obtain ⟨t, rfl⟩ := er_int hx; obtain ⟨u, rfl⟩ := er_int hy
  exact min_two_ints hc.hand fun h' tk hk => ⟨.int (if b < a then b else a), σ, by show er _ = _; split <;> rfl, R.grow hk, h⟩
theorem Cb_list {a : Addr} {l : List V} (ha : c.get σ a = some l) (hz : l.length ≤ sizeLine) (h : ∀ d, c.get σ d = Option.none → Q (.ref d) (σ.put d l)) : Cb c (.type "list") [.ref a] Q σ := fun vs hv b₀ s₀ s R => by
  obtain ⟨x, rfl, hx⟩ := ers1 hv
  have := er_ref hx; subst this
  obtain ⟨ws, n, ho, el⟩ := R.plain ha
  have e := el.length
  rw [Array.length_toList] at e
  exact call_list_seq (hsz := by rw [e]; exact hz) a (.inl rfl) ho rfl rfl fun h' c' hk hD => ⟨.ref _, σ.put _ l, rfl, R.alloc (tk := s.toks) el (Nat.le_refl _) hk hD, h _ (R.freshG (Nat.le_refl _))⟩

theorem W_item {value slice : Expr} {pos : Pos} (h : W c value (fun o σ₁ => W c slice (fun i σ₂ => ∃ a l k v, o = .ref a ∧ i = .int k ∧ c.get σ₂ a = some l ∧ 0 ≤ k ∧ k < 2 ^ 63 ∧ l[k.toNat]? = some v ∧ Q v σ₂) σ₁) σ)
    (hs : ∀ o i, subscripted slice false o i = operate [o, i] (getItem o i) := by intros; rfl) : W c (.Subscript value slice pos) Q σ := fun b₀ s₀ s R => by
  refine Subscript_ (wpAny_mono (h b₀ s₀ s R) (fun o s₁ ⟨_, σ₁, k₁, R₁, h₁⟩ => wpAny_mono (h₁ b₀ s₀ s₁ R₁) (fun i s₂ ⟨_, σ₂, k₂, R₂, a, l, k, v, ea, ei, hg, h0, h1, hv, hq⟩ => ?_) fun _ _ x => x.elim) fun _ _ x => x.elim)
  subst ea; subst ei
  have := er_ref k₁; subst this
  obtain ⟨t, rfl⟩ := er_int k₂
  obtain ⟨ws, hl, el⟩ := R₂.list hg
  obtain ⟨x, hx, ex⟩ := el.get hv
  exact tail_any hl.typeIs slot_list_getitem.lookup (wpAny_getItem_list hl h0 h1 (by simpa using hx) ⟨v, σ₂, ex, R₂, hq⟩) (hs _ _)

/-- a slice's part -/
def WP (c : Cx) : Option Expr → (Option Int → St → Prop) → St → Prop
  | Option.none, Q, σ => Q Option.none σ
  | some e, Q, σ => W c e (fun v σ₁ => ∃ i, v = .int i ∧ Q (some i) σ₁) σ
theorem WP.run {c : Cx} {e : Option Expr} {Q : Option Int → St → Prop} {σ : St} (h : WP c e Q σ) : Wp c (evalPart e c.env) (fun x k => IsPart x k) Q σ := fun b₀ s₀ s R => by
  cases e with
  | none => rw [evalPart_none]; exact wpAny_pure ⟨Option.none, σ, .none, R, h⟩
  | some e =>
    rw [evalPart_some]
    refine wpAny_mono (h b₀ s₀ s R) (fun x s₁ ⟨v, σ₁, k, R₁, i, e, hq⟩ => ?_) fun _ _ x => x
    subst e
    obtain ⟨t, rfl⟩ := er_int k
    exact ⟨some i, σ₁, .int i t, R₁, hq⟩

def pick (l : List V) (lo hi st : Option Int) : List V := (sliceRange (sliceBounds lo hi st l.length).1 (sliceBounds lo hi st l.length).2.1 (sliceBounds lo hi st l.length).2.2).filterMap (l[·]?)

theorem Ers.places {vs : List Value} {l : List V} (h : Ers vs l) : ∀ js : List Nat, Ers (js.filterMap (vs[·]?)) (js.filterMap (l[·]?))
  | [] => rfl
  | j :: js => by
    have ih := Ers.places h js
    cases hn : l[j]? with
    | some n =>
      obtain ⟨x, hv, e⟩ := h.get hn
      simp only [List.filterMap_cons, hn, hv]
      exact Ers.cons e ih
    | none =>
      have hv : vs[j]? = Option.none := by
        rw [List.getElem?_eq_none_iff] at hn ⊢
        rw [h.length]; exact hn
      simp only [List.filterMap_cons, hn, hv]
      exact ih
theorem Ers.pick {vs : Array Value} {l : List V} (h : Ers vs.toList l) (lo hi st : Option Int) : Ers (slicePick vs lo hi st).toList (Mine.pick l lo hi st) := by
  have e1 := h.length
  rw [Array.length_toList] at e1
  have e : (slicePick vs lo hi st).toList = (sliceRange (sliceBounds lo hi st l.length).1 (sliceBounds lo hi st l.length).2.1 (sliceBounds lo hi st l.length).2.2).filterMap (vs.toList[·]?) := by
    simp [slicePick, e1]
  rw [e]
  exact h.places _

theorem W_slice {value : Expr} {lo hi st : Option Expr} {p pos : Pos} (h : W c value (fun o σ₁ => WP c lo (fun kl σ₂ => WP c hi (fun kh σ₃ => WP c st (fun ks σ₄ =>
      ∃ a l, o = .ref a ∧ c.get σ₄ a = some l ∧ l.length ≤ sizeLine ∧ ks ≠ some 0 ∧ ∀ d, c.get σ₄ d = Option.none → Q (.ref d) (σ₄.put d (pick l kl kh ks))) σ₃) σ₂) σ₁) σ)
    (ops : Value → Value → List Value) (hs : ∀ o i, subscripted (.Slice lo hi st p) false o i = operate (ops o i) (getItem o i) := by intros; rfl) : W c (.Subscript value (.Slice lo hi st p) pos) Q σ := fun b₀ s₀ s R => by
  refine Subscript_ (wpAny_mono (h b₀ s₀ s R) (fun o s₁ ⟨_, σ₁, k₁, R₁, h₁⟩ => wpAny_Slice (wpAny_mono (WP.run h₁ b₀ s₀ s₁ R₁) (fun il s₂ ⟨kl, σ₂, k₂, R₂, h₂⟩ =>
    wpAny_mono (WP.run h₂ b₀ s₀ s₂ R₂) (fun ih s₃ ⟨kh, σ₃, k₃, R₃, h₃⟩ => wpAny_mono (WP.run h₃ b₀ s₀ s₃ R₃) (fun is s₄ ⟨ks, σ₄, k₄, R₄, a, l, ea, hg, hz, hks, hq⟩ => ?_) fun _ _ x => x.elim) fun _ _ x => x.elim) fun _ _ x => x.elim)) fun _ _ x => x.elim)
  subst ea
  have := er_ref k₁; subst this
  obtain ⟨ws, hl, el⟩ := R₄.list hg
  have e := el.length
  rw [Array.length_toList] at e
  have hl' := hl.push { cls := .type "slice", data := .fields #[il, ih, is] }
  refine tail_any (Heap.IsList.typeIs (s := { s₄ with heap := s₄.heap.push { cls := .type "slice", data := .fields #[il, ih, is] } }) hl') slot_list_getitem.lookup
    (wpAny_getItem_list_slice hl' (Heap.IsSliceOf.new ..) k₂ k₃ k₄ hks ?_ (by rw [e]; exact hz)) (hs _ _)
  have R₅ := R₄.pushed { cls := .type "slice", data := .fields #[il, ih, is] }
  exact ⟨.ref _, σ₄.put _ (pick l kl kh ks), rfl, R₅.alloc (tk := s₄.toks) (n := 0) (el.pick kl kh ks) (Nat.le_refl _) (fun b o e => Heap.get?_push_of_some _ e) (Heap.get?_push_size _ rfl), hq _ (R₅.freshG (Nat.le_refl _))⟩
end

/- the datum that a value is -/
mutual
inductive Has (G : Addr → Option (List V)) : V → PyData → Prop
  | int (i : Int) : Has G (.int i) (.int i)
  | list {a : Addr} {l : List V} {ds : List PyData} : G a = some l → HasAll G l ds → Has G (.ref a) (.list ds)
inductive HasAll (G : Addr → Option (List V)) : List V → List PyData → Prop
  | nil : HasAll G [] []
  | cons {v : V} {d : PyData} {l : List V} {ds : List PyData} : Has G v d → HasAll G l ds → HasAll G (v :: l) (d :: ds)
end
theorem HasAll.ints {G : Addr → Option (List V)} : ∀ ns : List Int, HasAll G (ns.map .int) (ns.map .int)
  | [] => .nil
  | n :: r => .cons (.int n) (HasAll.ints r)
theorem Has.ints {G : Addr → Option (List V)} {a : Addr} {ns : List Int} (h : G a = some (ns.map .int)) : Has G (.ref a) (.list (ns.map .int)) := .list h (.ints ns)

section
variable {c : Cx} {b₀ : Addr → Option Obj} {s₀ s : Shared} {σ : St}
mutual
theorem Has.reads (R : Rel c b₀ s₀ σ s) : ∀ {v : V} {d : PyData}, Has (c.get σ) v d → ∀ x, er x = some v → ∃ as, Reads s.heap x d as
  | _, _, .int i, x, hx => by obtain ⟨t, rfl⟩ := er_int hx; exact ⟨_, .int i t⟩
  | _, _, .list ha hl, x, hx => by
    have := er_ref hx; subst this
    obtain ⟨ws, n, ho, el⟩ := R.plain ha
    obtain ⟨as, r⟩ := HasAll.reads R hl ws.toList el
    exact ⟨_, .list ho rfl rfl r⟩
theorem HasAll.reads (R : Rel c b₀ s₀ σ s) : ∀ {l : List V} {ds : List PyData}, HasAll (c.get σ) l ds → ∀ vs, Ers vs l → ∃ as, ReadsAll s.heap vs ds as
  | _, _, .nil, vs, h => by
    have : vs = [] := by simpa [Ers] using h
    subst this; exact ⟨_, .nil⟩
  | _, _, .cons hd hr, vs, h => by
    cases vs with
    | nil => simp [Ers] at h
    | cons x vs =>
      simp only [Ers, List.map_cons, List.cons.injEq] at h
      obtain ⟨as, r⟩ := Has.reads R hd x h.1
      obtain ⟨bs, q⟩ := HasAll.reads R hr vs h.2
      exact ⟨_, .cons r q⟩
end
end

section
variable {c : Cx} {σ : St} {Q : Bool → St → Prop}
theorem Cm_eqD (hc : c.Ok) {a b : V} {da db : PyData} (ha : Has (c.get σ) a da) (hb : Has (c.get σ) b db) (sa : SeqAt.shaped da = true) (sb : SeqAt.shaped db = true) (h : Q (PyData.eqv da db) σ) : Cm c .Eq a b Q σ := fun x y hx hy b₀ s₀ s R => by
  obtain ⟨as, ra⟩ := ha.reads R x hx
  obtain ⟨bs, rb⟩ := hb.reads R y hy
  exact eq_dataH ra rb sa sb hc.units ⟨_, σ, rfl, R, h⟩
theorem Cm_neD (hc : c.Ok) {a b : V} {da db : PyData} (ha : Has (c.get σ) a da) (hb : Has (c.get σ) b db) (sa : SeqAt.shaped da = true) (sb : SeqAt.shaped db = true) (h : Q (!PyData.eqv da db) σ) : Cm c .NotEq a b Q σ := fun x y hx hy b₀ s₀ s R => by
  obtain ⟨as, ra⟩ := ha.reads R x hx
  obtain ⟨bs, rb⟩ := hb.reads R y hy
  exact ne_dataH ra rb sa sb hc.units ⟨_, σ, rfl, R, h⟩
theorem Cm_eqI (hc : c.Ok) {a b : Addr} {ns ms : List Int} (ha : c.get σ a = some (ns.map .int)) (hb : c.get σ b = some (ms.map .int)) (h : Q (decide (ns = ms)) σ) : Cm c .Eq (.ref a) (.ref b) Q σ := fun x y hx hy b₀ s₀ s R => by
  have := er_ref hx; subst this
  have := er_ref hy; subst this
  obtain ⟨vs, hl, el⟩ := R.list ha
  obtain ⟨ws, hk, ek⟩ := R.list hb
  exact PySem.W.ke_eq_ints (xs := vs.toList) (ys := ws.toList) hl hk el.ints ek.ints hc.units ⟨_, σ, rfl, R, h⟩
theorem Cm_neI (hc : c.Ok) {a b : Addr} {ns ms : List Int} (ha : c.get σ a = some (ns.map .int)) (hb : c.get σ b = some (ms.map .int)) (h : Q (!decide (ns = ms)) σ) : Cm c .NotEq (.ref a) (.ref b) Q σ := fun x y hx hy b₀ s₀ s R => by
  have := er_ref hx; subst this
  have := er_ref hy; subst this
  obtain ⟨vs, hl, el⟩ := R.list ha
  obtain ⟨ws, hk, ek⟩ := R.list hb
  exact PySem.W.ke_ne_ints (xs := vs.toList) (ys := ws.toList) hl hk el.ints ek.ints hc.units ⟨_, σ, rfl, R, h⟩
theorem Cm_inI {a : Addr} {k : Int} {ns : List Int} (ha : c.get σ a = some (ns.map .int)) (h : Q (ns.any (· == k)) σ) : Cm c .In (.int k) (.ref a) Q σ := fun x y hx hy b₀ s₀ s R => by
  obtain ⟨t, rfl⟩ := er_int hx
  have := er_ref hy; subst this
  obtain ⟨vs, hl, el⟩ := R.list ha
  exact in_list_ints (vs := vs.toList) hl el.ints ⟨_, σ, rfl, R, h⟩
theorem Cm_notInD (hc : c.Ok) {a b : V} {da : PyData} {ds : List PyData} (ha : Has (c.get σ) a da) (hb : Has (c.get σ) b (.list ds)) (sa : da.canLay0 = true) (sb : PyData.canLayAll0 ds = true) (hd : da.depth ≤ 60)
    (h : Q (!ds.any fun y => PyData.eqv y da) σ) : Cm c .NotIn a b Q σ := fun x y hx hy b₀ s₀ s R => by
  obtain ⟨as, ra⟩ := ha.reads R x hx
  obtain ⟨bs, rb⟩ := hb.reads R y hy
  have hu := hc.units
  have hm : min (PyData.depthAll ds) da.depth ≤ da.depth := Nat.min_le_right _ _
  exact SeqAt.notIn_list_reads rb ra sb sa (by omega) ⟨_, σ, rfl, R, h⟩
end

section
variable {c : Cx} {σ : St} {Q : Fl → St → Prop}
theorem interactive_of (hc : c.Ok) : interactive c.env = false := by unfold interactive; rw [hc.fn]; rfl

theorem Ws_append (hc : c.Ok) {o e : Expr} {apos pos' pos : Pos} {pl : Sem Bool}
    (h : W c o (fun ov σ₁ => ∃ a l, ov = .ref a ∧ σ₁.hp a = some l ∧ W c e (fun v σ₂ => ∃ l, σ₂.hp a = some l ∧ l.length ≤ 2 ^ 20 ∧ Q .next (σ₂.put a (l ++ [v]))) σ₁) σ)
    (he : eval (.Call (.Attribute o "append" apos) [e] [] pos') c.env = (do
      let ov ← eval o c.env
      standAt apos.atName
      let (f, first) ← holding [ov] (getMethod ov "append" pl)
      callWith pos' f first (backTo pos' (starEach [e] c.env)) []) := by rfl)
    (hs : noStar [e] = true := by rfl) : Ws c (.Expr (.Call (.Attribute o "append" apos) [e] [] pos') pos) Q σ := fun b₀ s₀ s R => by
  refine wpAny_Expr ?_ (interactive_of hc) rfl
  refine MethodCall_ (wpAny_mono (h b₀ s₀ s R) (fun ov s₁ ⟨_, σ₁, k₁, R₁, a, l, ea, hg, h₁⟩ => ?_) fun _ _ x => x.elim) he
  subst ea
  have := er_ref k₁; subst this
  obtain ⟨_, ob, ho, vs, n, rfl, el⟩ := R₁.hp a l hg
  refine Calls.getMethod_list_append ho rfl rfl ?_
  refine callWith_method1 (wpAny_mono (WL.run (es := [e]) (Q := fun l' σ₂ => ∃ v, l' = [v] ∧ ∃ l, σ₂.hp a = some l ∧ l.length ≤ 2 ^ 20 ∧ Q .next (σ₂.put a (l ++ [v]))) hs (Wp.mono h₁ fun v σ₂ h₂ => ⟨v, rfl, h₂⟩) R₁) (fun ws s₂ ⟨_, σ₂, k₂, R₂, v, e₂, l₂, hg₂, hz, hq⟩ => ?_) fun _ _ x => x.elim) (starEach_of hs) rfl
  subst e₂
  obtain ⟨x, rfl, hx⟩ := ers1 k₂
  obtain ⟨_, ob₂, ho₂, vs₂, n₂, rfl, el₂⟩ := R₂.hp a l₂ hg₂
  have e := el₂.length
  rw [Array.length_toList] at e
  refine append_at ho₂ (fun h' hsb hD => ?_) (by rw [e]; exact Nat.le_trans hz (by decide))
  refine ⟨.next, σ₂.put a (l₂ ++ [v]), trivial, R₂.turn (tk := s₂.toks) hg₂ hsb hD ⟨_, _, rfl, ?_⟩, hq⟩
  simpa using el₂.append (Ers.cons hx .nil)
end

section
variable {c : Cx} {σ : St} {Q : V → St → Prop}
theorem kf_at_ints {k : Int} : ∀ {vs : List Value} {ns : List Int}, IntsAre vs ns → k ∈ ns → PySem.W.kf_at k vs = some (ns.idxOf k)
  | _, _, .nil, h => by cases h
  | _, _, .cons n t r, h => by
    unfold PySem.W.kf_at
    have e : isInt k (.int n t) = (n == k) := by first | rfl | (simp [isInt])
    rw [e]
    by_cases hn : n = k
    · subst hn; simp
    · have hb : (n == k) = false := by simpa using hn
      have hk : k ∈ _ := (List.mem_cons.mp h).resolve_left (Ne.symm hn)
      rw [hb, kf_at_ints r hk]
      simp [List.idxOf_cons, hb]
theorem kf_ints_of : ∀ {vs : List Value} {ns : List Int}, IntsAre vs ns → PySem.W.kf_ints vs = true
  | _, _, .nil => by simp [PySem.W.kf_ints]
  | _, _, .cons n t r => by have := kf_ints_of r; simp_all [PySem.W.kf_ints]

theorem W_index {o e : Expr} {apos pos : Pos} {pl : Sem Bool}
    (h : W c o (fun ov σ₁ => ∃ a l, ov = .ref a ∧ c.get σ₁ a = some l ∧ W c e (fun v σ₂ => ∃ (ns : List Int) (k : Int), v = .int k ∧ c.get σ₂ a = some (ns.map .int) ∧ k ∈ ns ∧ ns.length ≤ 2 ^ 20 ∧ Q (.int (ns.idxOf k : Nat)) σ₂) σ₁) σ)
    (he : eval (.Call (.Attribute o "index" apos) [e] [] pos) c.env = (do
      let ov ← eval o c.env
      standAt apos.atName
      let (f, first) ← holding [ov] (getMethod ov "index" pl)
      callWith pos f first (backTo pos (starEach [e] c.env)) []) := by rfl)
    (hs : noStar [e] = true := by rfl) : W c (.Call (.Attribute o "index" apos) [e] [] pos) Q σ := fun b₀ s₀ s R => by
  refine MethodCall_ (wpAny_mono (h b₀ s₀ s R) (fun ov s₁ ⟨_, σ₁, k₁, R₁, a, l, ea, hg, h₁⟩ => ?_) fun _ _ x => x.elim) he
  subst ea
  have := er_ref k₁; subst this
  obtain ⟨vs, n, ho, el⟩ := R₁.plain hg
  refine getMethod_builtin ⟨_, ho, rfl⟩ PySem.F.plainAttrs_list PySem.F.slot_list_index (by rfl) (fun b e => by cases e; exact ⟨_, ho, rfl⟩) ?_
  refine callWith_method1 (wpAny_mono (WL.run (es := [e]) (Q := fun l' σ₂ => ∃ v, l' = [v] ∧ ∃ (ns : List Int) (k : Int), v = .int k ∧ c.get σ₂ a = some (ns.map .int) ∧ k ∈ ns ∧ ns.length ≤ 2 ^ 20 ∧ Q (.int (ns.idxOf k : Nat)) σ₂) hs (Wp.mono h₁ fun v σ₂ h₂ => ⟨v, rfl, h₂⟩) R₁) (fun ws s₂ ⟨_, σ₂, k₂, R₂, v, e₂, ns, k, ev, hg₂, hk, hz, hq⟩ => ?_) fun _ _ x => x.elim) (starEach_of hs) rfl
  subst e₂; subst ev
  obtain ⟨x, rfl, hx⟩ := ers1 k₂
  obtain ⟨t, rfl⟩ := er_int hx
  obtain ⟨vs₂, n₂, ho₂, el₂⟩ := R₂.plain hg₂
  obtain ⟨m, hm⟩ := R₂.ns
  have hne : a ≠ c.env.locals := by
    rintro rfl
    obtain ⟨o', _, _, e1, e2, _⟩ := hm
    rw [ho₂] at e1; cases e1; cases e2
  have e := el₂.length
  refine PySem.W.kf_index (newsAll s₂.heap c.env.locals) (mem_allNews ho₂ hne) (kf_ints_of el₂.ints) (kf_at_ints el₂.ints hk) rfl (by rw [e]; simp; exact Nat.le_trans hz (by decide)) ⟨_, σ₂, rfl, R₂.toks _, hq⟩
end
end Mine

namespace Mine
open PySem PyProof.Rows

/-- a name that the frame may store -/
def Tgt (c : Cx) (x : Str) : Prop := c.env.kindOf x = some .local ∨ (c.env.kindOf x = some .cell ∧ (c.env.cells.lookup x).isSome = true ∧ c.env.func.isSome = true)

section
variable {c : Cx} {b₀ : Addr → Option Obj} {s₀ s : Shared} {σ : St}

theorem Rel.store (hc : c.Ok) (R : Rel c b₀ s₀ σ s) {x : Str} {val : Value} {v : V} (hv : er val = some v) (ht : Tgt c x) {Q : Unit → Shared → Prop} {E : Value → Shared → Prop} (h : ∀ s', Rel c b₀ s₀ (σ.set x v) s' → Q () s') :
    wpAny (model c.prog c.w) c.A (storeName c.env x val) Q E s := by
  obtain ⟨m, cm, h1, h2, h3⟩ := R.frame
  have neL : ∀ a l, σ.hp a = some l → a ≠ c.env.locals := fun a l e => by
    rintro rfl
    obtain ⟨_, o, ho, vs, n, rfl, _⟩ := R.hp _ l e
    obtain ⟨o', _, _, e1, e2, _⟩ := h1
    rw [ho] at e1; cases e1; cases e2
  rcases ht with hk | ⟨hk, hl, hf⟩
  · refine wpAny_storeName_local hk h1 (fun h' hn hs => h _ ?_) (by rw [hc.fn]; rfl)
    refine { same := ?_, top := R.top, keep := ?_, ro := R.ro, hp := ?_, frame := ⟨_, cm, hn, ?_, ?_⟩, own := R.own, cells := R.cells }
    · obtain ⟨h0, t, rfl⟩ := R.same; exact ⟨h', _, rfl⟩
    · intro a o e
      exact (hs.2 a (fun q => by rw [q, R.own] at e; cases e)).trans (R.keep a o e)
    · intro a l e
      obtain ⟨p, o, ho, q⟩ := R.hp a l e
      exact ⟨p, o, (hs.2 a (neL a l e)).trans ho, q⟩
    · intro n a e
      refine (h2 n a e).sameBut hs ?_
      rintro rfl
      obtain ⟨o, e1, e2⟩ := h2 n _ e
      obtain ⟨o', _, _, e3, e4, _⟩ := h1
      rw [e1] at e3; cases e3; rw [e2] at e4; cases e4
    · intro y w hy
      by_cases hyx : y = x
      · subst hyx
        simp only [St.set, if_true] at hy
        cases hy
        exact .inl ⟨hk, val, by simp, hv⟩
      · simp only [St.set, if_neg hyx] at hy
        rcases h3 y w hy with ⟨a, val', b, d⟩ | z
        · exact .inl ⟨a, val', by simp only [if_neg hyx]; exact b, d⟩
        · exact .inr z
  · obtain ⟨a, ha⟩ := Option.isSome_iff_exists.mp hl
    obtain ⟨hb, hap⟩ := R.cells hf
    have hba := hb x a ha
    refine wpAny_storeName_cell hc.fn hk ha (h2 x a ha) fun h' hcell hs => h _ ?_
    have neC : ∀ b l, σ.hp b = some l → b ≠ a := fun b l e => by
      rintro rfl
      obtain ⟨_, o, ho, vs, n, rfl, _⟩ := R.hp _ l e
      obtain ⟨o', e1, e2⟩ := h2 x _ ha
      rw [ho] at e1; cases e1; cases e2
    refine { same := ?_, top := R.top, keep := ?_, ro := R.ro, hp := ?_, frame := ⟨m, fun y => if y = x then some val else cm y, h1.sameBut hs ?_, ?_, ?_⟩, own := R.own, cells := R.cells }
    · obtain ⟨h0, t, rfl⟩ := R.same; exact ⟨h', _, rfl⟩
    · intro b o e
      exact (hs.2 b (fun q => by rw [q, hba] at e; cases e)).trans (R.keep b o e)
    · intro b l e
      obtain ⟨p, o, ho, q⟩ := R.hp b l e
      exact ⟨p, o, (hs.2 b (neC b l e)).trans ho, q⟩
    · rintro rfl
      obtain ⟨o, e1, e2⟩ := h2 x _ ha
      obtain ⟨o', _, _, e3, e4, _⟩ := h1
      rw [e1] at e3; cases e3; rw [e2] at e4; cases e4
    · intro n b e
      by_cases hn : n = x
      · subst hn
        rw [ha] at e; cases e
        simpa using hcell
      · simp only [if_neg hn]
        exact (h2 n b e).sameBut hs fun q => hn (name_of_addr hap (mem_of_lookup e) (q ▸ mem_of_lookup ha))
    · intro y w hy
      by_cases hyx : y = x
      · subst hyx
        simp only [St.set, if_true] at hy
        cases hy
        exact .inr ⟨hk, a, val, ha, by simp, hv⟩
      · simp only [St.set, if_neg hyx] at hy
        rcases h3 y w hy with z | ⟨p, a', val', b, d, e⟩
        · exact .inl z
        · exact .inr ⟨p, a', val', b, by simp only [if_neg hyx]; exact d, e⟩
end

section
variable {c : Cx} {σ : St} {Q : Fl → St → Prop}

theorem Wss_nil (h : Q .next σ) : Wss c [] Q σ := fun _ _ _ R => wpAny_execs_nil ⟨.next, σ, trivial, R, h⟩
theorem Wss_cons {st : Stmt} {r : List Stmt} (h : Ws c st (fun f σ₁ => match f with | .next => Wss c r Q σ₁ | f => Q f σ₁) σ) : Wss c (st :: r) Q σ := fun b₀ s₀ s R => by
  refine wpAny_execs_cons (wpAny_mono (h b₀ s₀ s R) (fun f s₁ ⟨g, σ₁, k, R₁, h₁⟩ => ?_) fun _ _ x => x)
  cases f <;> cases g <;> first | exact k.elim | exact h₁ b₀ s₀ s₁ R₁ | exact ⟨_, σ₁, k, R₁, h₁⟩

theorem Ws_assign (hc : c.Ok) {x : Str} {p pos : Pos} {e : Expr} (ht : Tgt c x) (h : W c e (fun v σ₁ => Q .next (σ₁.set x v)) σ)
    (hs : swapsWith e (some (.Name x p)) pos.line c.env = pure false := by rfl) : Ws c (.Assign [.Name x p] e pos) Q σ := fun b₀ s₀ s R =>
  wpAny_Assign_Name (wpAny_mono (h b₀ s₀ s R) (fun _ s₁ ⟨v, σ₁, k, R₁, h₁⟩ => R₁.store hc k ht fun s' R' => ⟨.next, _, trivial, R', h₁⟩) fun _ _ x => x.elim) hs

theorem Ws_assignAt {o i e : Expr} {p pos : Pos} (h : W c e (fun v σ₁ => W c o (fun ov σ₂ => W c i (fun iv σ₃ => ∃ a l k, ov = .ref a ∧ iv = .int k ∧ σ₃.hp a = some l ∧ 0 ≤ k ∧ k < l.length ∧ l.length ≤ 2 ^ 24 ∧ Q .next (σ₃.put a (l.set k.toNat v))) σ₂) σ₁) σ)
    (hs : swapsWith e (some (.Subscript o i p)) pos.line c.env = pure false := by rfl) : Ws c (.Assign [.Subscript o i p] e pos) Q σ := fun b₀ s₀ s R => by
  refine wpAny_Assign_Subscript (wpAny_mono (h b₀ s₀ s R) (fun xv s₁ ⟨v, σ₁, k₁, R₁, h₁⟩ => wpAny_mono (h₁ b₀ s₀ s₁ R₁) (fun xo s₂ ⟨_, σ₂, k₂, R₂, h₂⟩ => wpAny_mono (h₂ b₀ s₀ s₂ R₂)
    (fun xi s₃ ⟨_, σ₃, k₃, R₃, a, l, k, eo, ei, hl, h0, h1, hz, hq⟩ => ?_) fun _ _ x => x.elim) fun _ _ x => x.elim) fun _ _ x => x.elim) hs
  subst eo; subst ei
  have := er_ref k₂; subst this
  obtain ⟨t, rfl⟩ := er_int k₃
  obtain ⟨_, o', ho, vs, n, rfl, el⟩ := R₃.hp a l hl
  have e := el.length
  rw [Array.length_toList] at e
  refine PySem.W.ki_setAt ho h0 (by omega) (by omega) ⟨.next, _, trivial, R₃.turn (tk := s₃.toks) hl (Heap.SameBut.update ..) (Heap.get?_update_self _ ho rfl) ⟨_, _, rfl, ?_⟩, hq⟩
  have := el.set k.toNat k₁
  simpa using this

theorem Ws_if {t : Expr} {b1 b2 : List Stmt} {pos : Pos} (h : Wb c t (fun b σ₁ => (b = true → Wss c b1 Q σ₁) ∧ (b = false → Wss c b2 Q σ₁)) σ) : Ws c (.If t b1 b2 pos) Q σ := fun b₀ s₀ s R =>
  wpAny_If (wpAny_mono (h b₀ s₀ s R) (fun v s₁ ⟨b, σ₁, k, R₁, h₁⟩ => by
    subst k
    cases v with
    | true => exact h₁.1 rfl b₀ s₀ s₁ R₁
    | false => exact h₁.2 rfl b₀ s₀ s₁ R₁) fun _ _ x => x)

theorem Ws_return {e : Expr} {pos : Pos} (h : W c e (fun v σ₁ => Q (.ret v) σ₁) σ) : Ws c (.Return (some e) pos) Q σ := fun b₀ s₀ s R =>
  wpAny_Return_some (wpAny_mono (h b₀ s₀ s R) (fun _ _ ⟨v, σ₁, k, R₁, h₁⟩ => ⟨.ret v, σ₁, k, R₁, h₁⟩) fun _ _ x => x)
theorem Ws_break {pos : Pos} (h : Q .brk σ) : Ws c (.Break pos) Q σ := fun _ _ _ R => wpAny_Break ⟨.brk, σ, trivial, R, h⟩

theorem Ws_while {t : Expr} {b1 b2 : List Stmt} {pos : Pos} (Inv : Nat → St → Prop) (n : Nat) (h0 : Inv n σ)
    (h : ∀ k σ', Inv k σ' → Wb c t (fun b σ₁ => (b = true → Wss c b1 (fun f σ₂ => match f with | .next => ∃ j, j < k ∧ Inv j σ₂ | .cont => ∃ j, j < k ∧ Inv j σ₂ | .brk => Q .next σ₂ | .ret v => Q (.ret v) σ₂) σ₁) ∧ (b = false → Wss c b2 Q σ₁)) σ') :
    Ws c (.While t b1 b2 pos) Q σ := fun b₀ s₀ s R => by
  refine wpAny_While (codeAny_whileLoop (fun k s' => ∃ σ', Rel c b₀ s₀ σ' s' ∧ Inv k σ') (fun k s' ⟨σ', R', hI⟩ => ?_) n ⟨σ, R, h0⟩)
  refine wpAny_mono (h k σ' hI b₀ s₀ s' R') (fun v s₁ ⟨b, σ₁, e, R₁, h₁⟩ => ?_) fun _ _ x => x.elim
  subst e
  cases v with
  | true =>
    refine wpAny_mono (h₁.1 rfl b₀ s₀ s₁ R₁) (fun f s₂ ⟨g, σ₂, k₂, R₂, h₂⟩ => ?_) fun _ _ x => x.elim
    cases f <;> cases g <;> first | exact k₂.elim | skip
    · obtain ⟨j, hj, hI'⟩ := h₂; exact ⟨j, hj, σ₂, R₂, hI'⟩
    · exact ⟨.next, σ₂, trivial, R₂, h₂⟩
    · obtain ⟨j, hj, hI'⟩ := h₂; exact ⟨j, hj, σ₂, R₂, hI'⟩
    · exact ⟨.ret _, σ₂, k₂, R₂, h₂⟩
  | false =>
    exact wpAny_mono (h₁.2 rfl b₀ s₀ s₁ R₁) (fun f s₂ x => x) fun _ _ x => x.elim
end

/-- where a loop's items come from -/
inductive Src where
  | list (a : Addr)
  | range (lo : Int) (n : Nat)
def Src.item (G : Addr → Option (List V)) : Src → Nat → Option V
  | .list a, i => (G a).bind (·[i]?)
  | .range lo n, i => if i < n then some (.int (lo + i)) else Option.none
def Src.ok (G : Addr → Option (List V)) : Src → Prop
  | .list a => (G a).isSome = true
  | .range _ _ => True
def IterIs : Src → Addr → Nat → Heap → Prop
  | .list a, I, i, h => h.IsListIter I a i
  | .range lo n, I, i, h => IsRangeIter h I (lo + i) ((n : Int) - i) 1
theorem IterIs.obj {src : Src} {I : Addr} {i : Nat} {h : Heap} (x : IterIs src I i h) : ∃ o vs, h.get? I = some o ∧ o.data = .fields vs := by
  cases src with
  | list a => obtain ⟨o, h1, _, h2⟩ := x; exact ⟨o, _, h1, h2⟩
  | range lo n => exact ⟨_, _, x, rfl⟩
theorem IterIs.at {src : Src} {I : Addr} {i : Nat} {h h' : Heap} (x : IterIs src I i h) (hk : ∀ o, h.get? I = some o → h'.get? I = some o) : IterIs src I i h' := by
  cases src with
  | list a => obtain ⟨o, h1, h2⟩ := x; exact ⟨o, hk o h1, h2⟩
  | range lo n => exact hk _ x

section
variable {c : Cx} {b₀ : Addr → Option Obj} {s₀ s : Shared} {σ : St} {src : Src} {I : Addr} {i : Nat}

theorem next_item (R : Rel c b₀ s₀ σ s) (hI : IterIs src I i s.heap) {v : V} (hv : src.item (c.get σ) i = some v) {Q : Option Value → Shared → Prop} {E : Value → Shared → Prop}
    (h : ∀ val h' tk, er val = some v → IterIs src I (i + 1) h' → Heap.SameBut I s.heap h' → Q (some val) { s with heap := h', toks := tk }) : wpAny (model c.prog c.w) c.A (pyNext (.ref I)) Q E s := by
  cases src with
  | list a =>
    simp only [Src.item] at hv
    cases hg : c.get σ a with
    | none => rw [hg] at hv; cases hv
    | some l =>
      rw [hg] at hv
      obtain ⟨vs, hl, el⟩ := R.list hg
      obtain ⟨x, hx, ex⟩ := el.get hv
      exact wpAny_pyNext_list_item hI hl (by simpa using hx) fun h' hit hs => h x h' s.toks ex hit hs
  | range lo n =>
    simp only [Src.item] at hv
    split at hv
    · rename_i hlt
      cases hv
      refine wpAny_pyNext_range_item hI (by omega) fun h' hit hs => h _ h' _ rfl ?_ hs
      show IsRangeIter h' I (lo + ((i + 1 : Nat) : Int)) ((n : Int) - ((i + 1 : Nat) : Int)) 1
      have e1 : lo + ((i + 1 : Nat) : Int) = lo + i + 1 := by push_cast; omega
      have e2 : (n : Int) - ((i + 1 : Nat) : Int) = (n : Int) - i - 1 := by push_cast; omega
      rw [e1, e2]; exact hit
    · cases hv

theorem next_end (hc : c.Ok) (R : Rel c b₀ s₀ σ s) (hI : IterIs src I i s.heap) (hok : src.ok (c.get σ)) (hv : src.item (c.get σ) i = Option.none) {Q : Option Value → Shared → Prop} {E : Value → Shared → Prop}
    (h : ∀ h', Heap.ExtBut I s.heap h' → Q Option.none { s with heap := h' }) : wpAny (model c.prog c.w) c.A (pyNext (.ref I)) Q E s := by
  cases src with
  | list a =>
    simp only [Src.item] at hv
    obtain ⟨l, hg⟩ := Option.isSome_iff_exists.mp hok
    rw [hg] at hv
    obtain ⟨vs, hl, el⟩ := R.list hg
    have e := el.length
    rw [Array.length_toList] at e
    have hv' : l.length ≤ i := List.getElem?_eq_none_iff.mp hv
    exact wpAny_pyNext_list_end hc.hand hI hl (by rw [Array.getElem?_eq_none_iff]; omega) h
  | range lo n =>
    simp only [Src.item] at hv
    split at hv
    · cases hv
    · exact wpAny_pyNext_range_end hc.hand hI (by omega) h

/-- the iterator is stepped: the state is as it was -/
theorem Rel.stepI (R : Rel c b₀ s₀ σ s) (hI : IterIs src I i s.heap) (hb : b₀ I = Option.none) {h' : Heap} {tk : Nat} (hs : Heap.ExtBut I s.heap h') : Rel c b₀ s₀ σ { s with heap := h', toks := tk } := by
  obtain ⟨oI, fs, hoI, hdI⟩ := hI.obj
  obtain ⟨m, cm, h1, h2, h3⟩ := R.frame
  refine { same := ?_, top := R.top, keep := ?_, ro := R.ro, hp := ?_, frame := ⟨m, cm, h1.extBut hs ?_, ?_, h3⟩, own := R.own, cells := R.cells }
  · obtain ⟨h0, t, rfl⟩ := R.same; exact ⟨h', _, rfl⟩
  · intro a o e
    exact hs a o (fun q => by rw [q, hb] at e; cases e) (R.keep a o e)
  · intro a l e
    obtain ⟨p, o, ho, vs, n, rfl, el⟩ := R.hp a l e
    refine ⟨p, _, hs a _ ?_ ho, vs, n, rfl, el⟩
    rintro rfl
    rw [hoI] at ho; cases ho; cases hdI
  · rintro rfl
    obtain ⟨o', _, _, e3, e4, _⟩ := h1
    rw [hoI] at e3; cases e3; rw [hdI] at e4; cases e4
  · intro n a e
    obtain ⟨o, e1, e2⟩ := h2 n a e
    refine ⟨o, hs a o ?_ e1, e2⟩
    rintro rfl
    rw [hoI] at e1; cases e1; rw [hdI] at e2; cases e2

/-- the iterator is put under the base's guard -/
theorem Rel.guard (R : Rel c b₀ s₀ σ s) {o : Obj} {vs : Array Value} (ho : s.heap.get? I = some o) (hd : o.data = .fields vs) (hb : b₀ I = Option.none) : Rel c (fun a => if a = I then some o else b₀ a) s₀ σ s := by
  obtain ⟨m, cm, h1, h2, h3⟩ := R.frame
  have ne : ∀ a o', b₀ a = some o' → a ≠ I := fun a o' e q => by rw [q, hb] at e; cases e
  refine { same := R.same, top := ?_, keep := ?_, ro := ?_, hp := ?_, frame := R.frame, own := ?_, cells := ?_ }
  · intro a o' e; rw [if_neg (ne a o' (R.top a o' e))]; exact R.top a o' e
  · intro a o' e
    by_cases h : a = I
    · rw [if_pos h] at e; cases e; rw [h]; exact ho
    · rw [if_neg h] at e; exact R.keep a o' e
  · intro a l e
    obtain ⟨o', p, q⟩ := R.ro a l e
    exact ⟨o', by rw [if_neg (ne a o' p)]; exact p, q⟩
  · intro a l e
    obtain ⟨p, o', ho', ws, n, rfl, el⟩ := R.hp a l e
    refine ⟨?_, _, ho', ws, n, rfl, el⟩
    rw [if_neg]; exact p
    rintro rfl
    rw [ho] at ho'; cases ho'; cases hd
  · show (if c.env.locals = I then some o else b₀ c.env.locals) = Option.none
    rw [if_neg]; exact R.own
    rintro rfl
    obtain ⟨o', _, _, e3, e4, _⟩ := h1
    rw [ho] at e3; cases e3; rw [hd] at e4; cases e4
  · intro hf
    refine ⟨fun n a hm => ?_, (R.cells hf).2⟩
    show (if a = I then some o else b₀ a) = Option.none
    rw [if_neg]; exact (R.cells hf).1 n a hm
    rintro rfl
    obtain ⟨o', e1, e2⟩ := h2 n _ hm
    rw [ho] at e1; cases e1; rw [hd] at e2; cases e2

theorem Rel.unguard {b₁ : Addr → Option Obj} {s₁ : Shared} {σ₁ : St} (R : Rel c b₀ s₀ σ s) (R₁ : Rel c b₁ s₀ σ₁ s₁) (hb : ∀ a o, b₀ a = some o → b₁ a = some o) : Rel c b₀ s₀ σ₁ s₁ := by
  have dn : ∀ a, b₁ a = Option.none → b₀ a = Option.none := fun a h => by
    cases e : b₀ a with
    | none => rfl
    | some o => rw [hb a o e] at h; cases h
  exact { same := R₁.same, top := R.top, keep := fun a o e => R₁.keep a o (hb a o e), ro := R.ro, hp := fun a l e => ⟨dn a (R₁.hp a l e).1, (R₁.hp a l e).2⟩, frame := R₁.frame, own := dn _ R₁.own, cells := fun hf => ⟨fun n a e => dn a ((R₁.cells hf).1 n a e), (R₁.cells hf).2⟩ }
end

/-- a loop's source is opened -/
def WIt (c : Cx) (iter : Expr) (Q : Src → St → Prop) (σ : St) : Prop := ∀ b₀ s₀ s, Rel c b₀ s₀ σ s → wpAny (model c.prog c.w) c.A (eval iter c.env) (fun x s₁ => wpAny (model c.prog c.w) c.A (pyIter x)
  (fun it s₂ => ∃ src I σ', it = .ref I ∧ IterIs src I 0 s₂.heap ∧ b₀ I = Option.none ∧ Rel c b₀ s₀ σ' s₂ ∧ Q src σ') (fun _ _ => False) s₁) (fun _ _ => False) s

section
variable {c : Cx} {σ : St} {mg : Str → Option Value}
theorem WIt_list {e : Expr} {Q : Src → St → Prop} (h : W c e (fun v σ₁ => ∃ a l, v = .ref a ∧ c.get σ₁ a = some l ∧ Q (.list a) σ₁) σ) : WIt c e Q σ := fun b₀ s₀ s R => by
  refine wpAny_mono (h b₀ s₀ s R) (fun x s₁ ⟨_, σ₁, k, R₁, a, l, e, hg, hq⟩ => ?_) fun _ _ x => x
  subst e
  have := er_ref k; subst this
  obtain ⟨vs, hl, el⟩ := R₁.list hg
  exact wpAny_pyIter_list hl ⟨.list a, _, σ₁, rfl, ⟨_, Heap.get?_push_size _ rfl, rfl, rfl⟩, R₁.freshB (Nat.le_refl _), R₁.pushed _, hq⟩

theorem WIt_range1 (hc : c.Ok) (T : TopOk c.ht mg) {e : Expr} {p pos : Pos} {Q : Src → St → Prop} (h : W c e (fun v σ₁ => ∃ n : Int, v = .int n ∧ -(2 ^ 62) ≤ n ∧ n < 2 ^ 62 ∧ Q (.range 0 n.toNat) σ₁) σ)
    (hk : c.env.kindOf "range" = some .globalImplicit) (hs : noStar [e] = true := by rfl) : WIt c (.Call (.Name "range" p) [e] [] pos) Q σ := fun b₀ s₀ s R => by
  refine Call_Name rfl (evalBi hc T R (x := "range") (v := .type "range") (by simp [biTable]) hk ?_ (by decide))
  refine PyProof.Rows.callWith_type1 (wpAny_mono (WL.run (es := [e]) (Q := fun l σ₁ => ∃ v, l = [v] ∧ ∃ n : Int, v = .int n ∧ -(2 ^ 62) ≤ n ∧ n < 2 ^ 62 ∧ Q (.range 0 n.toNat) σ₁) hs (Wp.mono h fun v σ₁ h₁ => ⟨v, rfl, h₁⟩) R)
    (fun vs s₁ ⟨_, σ₁, k, R₁, v, e, n, ev, h0, h1, hq⟩ => ?_) fun _ _ x => x.elim) (starEach_of hs) rfl
  subst e; subst ev
  obtain ⟨x, rfl, hx⟩ := ers1 k
  obtain ⟨t, rfl⟩ := er_int hx
  refine call_range_1 ?_
  have R₂ : Rel c b₀ s₀ σ₁ { s₁ with heap := s₁.heap.push { cls := .type "range", data := .fields #[.int 0 s₁.toks, .int n t, .int 1 (s₁.toks + 1)] }, toks := s₁.toks + 1 + 1 } := R₁.grow fun b o e => Heap.get?_push_of_some _ e
  refine wpAny_pyIter_range (a := 0) (b := n) (c := 1) (Heap.get?_push_size _ rfl) (small_one (by omega) (by omega) h0 h1) ⟨.range 0 n.toNat, _, σ₁, rfl, ?_, R₂.freshB (Nat.le_refl _), R₂.pushed _, hq⟩
  show IsRangeIter _ _ _ _ _
  have e1 : (0 : Int) + ((0 : Nat) : Int) = 0 := rfl
  have e2 : (n.toNat : Int) - ((0 : Nat) : Int) = Builtin.Range.rangeSize 0 n 1 := by rw [rangeSize_one]; split <;> omega
  rw [e1, e2]
  exact Heap.get?_push_size _ rfl

theorem WIt_range2 (hc : c.Ok) (T : TopOk c.ht mg) {e e' : Expr} {p pos : Pos} {Q : Src → St → Prop}
    (h : W c e (fun u σ₀ => W c e' (fun v σ₁ => ∃ a n : Int, u = .int a ∧ v = .int n ∧ -(2 ^ 62) ≤ a ∧ a < 2 ^ 62 ∧ -(2 ^ 62) ≤ n ∧ n < 2 ^ 62 ∧ Q (.range a (n - a).toNat) σ₁) σ₀) σ)
    (hk : c.env.kindOf "range" = some .globalImplicit) (hs : noStar [e, e'] = true := by rfl) : WIt c (.Call (.Name "range" p) [e, e'] [] pos) Q σ := fun b₀ s₀ s R => by
  refine Call_Name rfl (evalBi hc T R (x := "range") (v := .type "range") (by simp [biTable]) hk ?_ (by decide))
  refine PyProof.Rows.callWith_type1 (wpAny_mono (WL.run (es := [e, e']) (Q := fun l σ₁ => ∃ u v, l = [u, v] ∧ ∃ a n : Int, u = .int a ∧ v = .int n ∧ -(2 ^ 62) ≤ a ∧ a < 2 ^ 62 ∧ -(2 ^ 62) ≤ n ∧ n < 2 ^ 62 ∧ Q (.range a (n - a).toNat) σ₁) hs
    (Wp.mono h fun u σ₁ h₁ => Wp.mono h₁ fun v σ₂ h₂ => ⟨u, v, rfl, h₂⟩) R)
    (fun vs s₁ ⟨_, σ₁, k, R₁, u, v, e, a, n, eu, ev, a0, a1, h0, h1, hq⟩ => ?_) fun _ _ x => x.elim) (starEach_of hs) (backTo_any (noStar_tail hs))
  subst e; subst ev; subst eu
  obtain ⟨x, y, rfl, hx, hy⟩ := ers2 k
  obtain ⟨t, rfl⟩ := er_int hx
  obtain ⟨t', rfl⟩ := er_int hy
  refine call_range_2 ?_
  have R₂ : Rel c b₀ s₀ σ₁ { s₁ with heap := s₁.heap.push { cls := .type "range", data := .fields #[.int a t, .int n t', .int 1 s₁.toks] }, toks := s₁.toks + 1 } := R₁.grow fun b o e => Heap.get?_push_of_some _ e
  refine wpAny_pyIter_range (a := a) (b := n) (c := 1) (Heap.get?_push_size _ rfl) (small_one a0 a1 h0 h1) ⟨.range a (n - a).toNat, _, σ₁, rfl, ?_, R₂.freshB (Nat.le_refl _), R₂.pushed _, hq⟩
  show IsRangeIter _ _ _ _ _
  have e1 : a + ((0 : Nat) : Int) = a := by simp
  have e2 : ((n - a).toNat : Int) - ((0 : Nat) : Int) = Builtin.Range.rangeSize a n 1 := by rw [rangeSize_one]; split <;> omega
  rw [e1, e2]
  exact Heap.get?_push_size _ rfl

theorem Ws_for (hc : c.Ok) {x : Str} {px pos : Pos} {iter : Expr} {body : List Stmt} {Q : Fl → St → Prop} (ht : Tgt c x)
    (h : WIt c iter (fun src σ₁ => ∃ (Inv : Nat → St → Prop) (N : Nat), Inv 0 σ₁ ∧ ∀ i σ', Inv i σ' → i ≤ N ∧ src.ok (c.get σ') ∧
      (∀ v, src.item (c.get σ') i = some v → Wss c body (fun f σ'' => match f with | .next => Inv (i + 1) σ'' | .cont => Inv (i + 1) σ'' | .brk => Q .next σ'' | .ret v => Q (.ret v) σ'') (σ'.set x v)) ∧
      (src.item (c.get σ') i = Option.none → Q .next σ')) σ)
    (hs : ∀ x, foldedSetIterable iter c.env x = pure x := by intro _; rfl) : Ws c (.For (.Name x px) iter body [] pos) Q σ := fun b₀ s₀ s R => by
  refine wpAny_For (wpAny_mono (h b₀ s₀ s R) (fun xv s₁ h₁ => wpAny_mono h₁ (fun it s₂ ⟨src, I, σ₂, e, hI, hb, R₂, Inv, N, h0, hstep⟩ => ?_) fun _ _ x => x.elim) fun _ _ x => x.elim) hs
  subst e
  refine codeAny_forLoop (fun k s' => ∃ i σ', k = N + 1 - i ∧ IterIs src I i s'.heap ∧ Rel c b₀ s₀ σ' s' ∧ Inv i σ') ?_ (N + 1) ⟨0, σ₂, rfl, hI, R₂, h0⟩
  rintro k s' ⟨i, σ', rfl, hI', R', hInv⟩
  obtain ⟨hle, hok, hitem, hdone⟩ := hstep i σ' hInv
  cases hv : src.item (c.get σ') i with
  | none =>
    refine next_end hc R' hI' hok hv fun h' he => wpAny_execs_nil ⟨.next, σ', trivial, R'.stepI (tk := s'.toks) hI' hb he, hdone hv⟩
  | some v =>
    refine next_item R' hI' hv fun val h' tk hval hI₁ hsb => ?_
    have R₁ := R'.stepI (tk := tk) hI' hb hsb.extBut
    obtain ⟨oI, fs, hoI, hdI⟩ := hI₁.obj
    have Rg := Rel.guard R₁ hoI hdI hb
    refine wpAny_assign_Name (Rg.store hc hval ht fun s₄ R₄ => ?_)
    refine wpAny_mono (hitem v hv _ s₀ s₄ R₄) (fun f s₅ ⟨g, σ₅, k₅, R₅, h₅⟩ => ?_) fun _ _ x => x.elim
    have R₆ : Rel c b₀ s₀ σ₅ s₅ := Rel.unguard R₁ R₅ fun a o e => by
      show (if a = I then some oI else b₀ a) = some o
      rw [if_neg]; exact e
      rintro rfl; rw [hb] at e; cases e
    have hI₅ : IterIs src I (i + 1) s₅.heap := hI₁.at fun o e => by
      rw [hoI] at e; cases e
      exact R₅.keep I oI (by simp)
    cases f <;> cases g <;> first | exact k₅.elim | skip
    · exact ⟨N + 1 - (i + 1), by omega, i + 1, σ₅, rfl, hI₅, R₆, h₅⟩
    · exact ⟨.next, σ₅, trivial, R₆, h₅⟩
    · exact ⟨N + 1 - (i + 1), by omega, i + 1, σ₅, rfl, hI₅, R₆, h₅⟩
    · exact ⟨.ret _, σ₅, k₅, R₆, h₅⟩
end
end Mine

namespace Mine
open PySem PyProof.Rows

def clOf (cells : List (Str × Addr)) : List (Str × NameKind) → List (Str × Addr) → List (Str × Addr)
  | [], acc => acc
  | (n, k) :: r, acc => if k == .free then (match cells.lookup n with | some a => clOf cells r ((n, a) :: acc) | Option.none => clOf cells r acc) else clOf cells r acc

theorem closureFor_eq {scope : Scope} {env : Env} (h : (scope.names.all fun p => p.2 != .free || (env.cells.lookup p.1).isSome) = true) : closureFor scope env = pure (clOf env.cells scope.names []) := by
  have key : ∀ (names : List (Str × NameKind)) (acc : List (Str × Addr)), (names.all fun p => p.2 != .free || (env.cells.lookup p.1).isSome) = true →
      (forIn names acc (fun (x : Str × NameKind) cs => match x with | (name, kind) => (if kind == .free then (do let a ← cellOf env name; pure (ForInStep.yield ((name, a) :: cs))) else pure (ForInStep.yield cs))) : Sem (List (Str × Addr))) = pure (clOf env.cells names acc) := by
    intro names
    induction names with
    | nil => intro acc _; rfl
    | cons p r ih =>
      intro acc hall
      obtain ⟨n, k⟩ := p
      simp only [List.all_cons, Bool.and_eq_true] at hall
      rw [List.forIn_cons]
      unfold clOf
      by_cases hk : (k == NameKind.free) = true
      · simp only [hk, if_true]
        have hs : (env.cells.lookup n).isSome = true := by
          have := hall.1
          have hk' : k = .free := by simpa using hk
          subst hk'
          simpa using this
        obtain ⟨a, ha⟩ := Option.isSome_iff_exists.mp hs
        simp only [cellOf, ha, pure_bind]
        exact ih _ hall.2
      · simp only [hk]
        simp only [Bool.false_eq_true, if_false, pure_bind]
        exact ih _ hall.2
  have := key scope.names [] h
  unfold closureFor
  simp only [bind_pure]
  exact this

theorem mem_clOf {cells : List (Str × Addr)} : ∀ {names : List (Str × NameKind)} {acc : List (Str × Addr)} {p : Str × Addr}, p ∈ clOf cells names acc → p ∈ acc ∨ cells.lookup p.1 = some p.2
  | [], _, _, h => .inl h
  | (n, k) :: r, acc, p, h => by
    unfold clOf at h
    split at h
    · split at h
      · rename_i a ha
        rcases mem_clOf h with h | h
        · rcases List.mem_cons.mp h with rfl | h
          · exact .inr ha
          · exact .inl h
        · exact .inr h
      · exact mem_clOf h
    · exact mem_clOf h
theorem lookup_clOf {cells : List (Str × Addr)} {names : List (Str × NameKind)} {n : Str} {a : Addr} (h : (clOf cells names []).lookup n = some a) : cells.lookup n = some a := by
  rcases mem_clOf (mem_of_lookup h) with h | h
  · cases h
  · exact h

def innerEnv (c : Cx) (scope : Scope) (C : Addr) : Env := compEnvC scope (clOf c.env.cells scope.names []) C c.env
/-- the block of a comprehension: all that stands is to be read alone -/
def Cx.inner (c : Cx) (σ : St) (scope : Scope) (C : Addr) : Cx := { c with ro := c.get σ, env := innerEnv c scope C }
def innerLoc (c : Cx) (σ : St) (scope : Scope) : Str → Option V := fun x => if ((relabel scope c.env).names.lookup x == some .cell && ((clOf c.env.cells scope.names []).lookup x).isSome) = true then σ.loc x else Option.none
def St.join (σ : St) (hp : Addr → Option (List V)) : St := { σ with hp := fun a => match σ.hp a with | some l => some l | Option.none => hp a }

theorem Cx.Ok.inner {c : Cx} (hc : c.Ok) {σ : St} {scope : Scope} {C : Addr} (hk : scope.kind = .function) : (c.inner σ scope C).Ok :=
  ⟨hk, hc.glob, hc.bi, hc.hand, hc.units⟩

def WIfs (c : Cx) (ifs : List Expr) (Q : Bool → St → Prop) (σ : St) : Prop := match ifs with
  | [] => Q true σ
  | [t] => Wb c t Q σ
  | _ => False
theorem WIfs.run {c : Cx} {ifs : List Expr} {Q : Bool → St → Prop} {σ : St} (h : WIfs c ifs Q σ) :
    Wp c (forIn ifs true fun e r => if r = true then do let ok ← isTrue e c.env (eval e c.env); pure (ForInStep.yield ok) else pure (ForInStep.yield r)) Eq Q σ := fun b₀ s₀ s R => by
  match ifs, h with
  | [], h => rw [List.forIn_nil]; exact wpAny_pure ⟨true, σ, rfl, R, h⟩
  | [t], h =>
    rw [List.forIn_cons]
    simp only [if_true]
    refine wpAny_bind (wpAny_bind (wpAny_mono (h b₀ s₀ s R) (fun v s₁ ⟨b, σ₁, k, R₁, h₁⟩ => ?_) fun _ _ x => x))
    refine wpAny_pure ?_
    show wpAny _ _ (forIn [] v _) _ _ _
    rw [List.forIn_nil]
    exact wpAny_pure ⟨b, σ₁, k, R₁, h₁⟩
  | _ :: _ :: _, h => exact h.elim

section
variable {c : Cx} {b₀ : Addr → Option Obj} {s₀ s : Shared} {σ : St}
/-- an address that the state does not know is turned -/
theorem Rel.off (R : Rel c b₀ s₀ σ s) {C : Addr} (hb : b₀ C = Option.none) (hh : σ.hp C = Option.none) (hL : c.env.locals ≠ C) (hcl : ∀ n, c.env.cells.lookup n ≠ some C) {h' : Heap} {tk : Nat} (hs : Heap.ExtBut C s.heap h') :
    Rel c b₀ s₀ σ { s with heap := h', toks := tk } := by
  obtain ⟨m, cm, h1, h2, h3⟩ := R.frame
  refine { same := ?_, top := R.top, keep := ?_, ro := R.ro, hp := ?_, frame := ⟨m, cm, h1.extBut hs hL, ?_, h3⟩, own := R.own, cells := R.cells }
  · obtain ⟨h0, t, rfl⟩ := R.same; exact ⟨h', _, rfl⟩
  · exact fun a o e => hs a o (fun q => by rw [q, hb] at e; cases e) (R.keep a o e)
  · intro a l e
    obtain ⟨p, o, ho, q⟩ := R.hp a l e
    exact ⟨p, o, hs a o (fun q => by rw [q, hh] at e; cases e) ho, q⟩
  · intro n a e
    obtain ⟨o, e1, e2⟩ := h2 n a e
    exact ⟨o, hs a o (fun q => hcl n (by rw [e, q])) e1, e2⟩
end

section
variable {c : Cx} {σ : St} {elt iter : Expr} {x : Str} {px : Pos} {ifs : List Expr} {scope : Scope} {pos cpos : Pos}

/-- what a comprehension asks of its reader -/
def CompAsk (c : Cx) (x : Str) (ifs : List Expr) (elt : Expr) (scope : Scope) (P : V → St → Prop) (src : Src) (σ₁ : St) : Prop :=
  ∃ (J : Nat → List V → (Addr → Option (List V)) → Prop) (N : Nat), N ≤ 2 ^ 20 ∧ src.ok (c.get σ₁) ∧ J 0 [] (fun _ => Option.none) ∧
    ∀ i acc hp, J i acc hp → (∀ a l, hp a = some l → c.get σ₁ a = Option.none) → i ≤ N ∧
      (∀ v C, src.item (c.get σ₁) i = some v → WIfs (c.inner σ₁ scope C) ifs (fun b σ' => (b = false → J (i + 1) acc σ'.hp) ∧ (b = true → W (c.inner σ₁ scope C) elt (fun w σ'' => J (i + 1) (acc ++ [w]) σ''.hp) σ')) (St.set ⟨innerLoc c σ₁ scope, hp⟩ x v)) ∧
      (src.item (c.get σ₁) i = Option.none → ∀ D, c.get σ₁ D = Option.none → hp D = Option.none → P (.ref D) ((σ₁.join hp).put D acc))

structure CompShape (c : Cx) (scope : Scope) (x : Str) : Prop where
  kind : scope.kind = .function
  free : (scope.names.all fun p => p.2 != .free || (c.env.cells.lookup p.1).isSome) = true
  cell : (scope.names.all fun p => p.2 != .cell) = true
  names : (scope.names.all fun p => p.2 != .local || scope.names.lookup p.1 == some .local) = true
  x : scope.names.lookup x = some .local

theorem comp_core (hc : c.Ok) (hS : CompShape c scope x) {b₀ : Addr → Option Obj} {s₀ s₂ : Shared} {src : Src} {I : Addr} {σ₁ : St} (hI : IterIs src I 0 s₂.heap) (hbI : b₀ I = Option.none) (R : Rel c b₀ s₀ σ₁ s₂) {P : V → St → Prop}
    (h : CompAsk c x ifs elt scope P src σ₁) {RR : Value → Addr → Result → Shared → Prop}
    (hRR : ∀ D C acc hp s', Rel c b₀ s₀ ((σ₁.join hp).put D acc) s' → P (.ref D) ((σ₁.join hp).put D acc) → b₀ C = Option.none → ((σ₁.join hp).put D acc).hp C = Option.none → c.env.locals ≠ C → (∀ n, c.env.cells.lookup n ≠ some C) → (∃ m, s'.heap.Ns C m) → RR (.ref D) C (.ok .next) s') :
    wpAny (model c.prog c.w) c.A (newList []) (fun acc s₃ => wpAny (model c.prog c.w) c.A (newFunctionEnv scope c.env.globals (clOf c.env.cells scope.names []) [] c.env.qual Option.none .none (some c.env)) (fun cenv s₄ =>
      codeAny (model c.prog c.w) c.A (.compStart (.ListComp elt [⟨.Name x px, iter, ifs, 0⟩] scope pos) 0 (.ref I) acc { cenv with scope := relabel scope c.env }) (RR acc cenv.locals) s₄) (fun _ _ => False) s₃) (fun _ _ => False) s₂ := by
  obtain ⟨J, N, hN, hok, hJ0, hJ⟩ := h
  have hcell : ∀ y ∈ scope.names, y.2 ≠ .cell := fun y hy => by
    have := List.all_eq_true.mp hS.cell y hy
    simpa using this
  refine wpAny_newObj_type (wpAny_newFunctionEnv hcell (by intro y hy; simp at hy) (fun h₁ hns₁ hsb₁ => ?_) hS.kind) (by size_fits)
  dsimp only at hns₁ hsb₁ ⊢
  generalize hH2 : s₂.heap.push { cls := .type "list", dict := Option.none, data := .seq ([] : List Value).toArray } = H2 at hns₁ hsb₁ ⊢
  have hC : H2.objs.size = s₂.heap.objs.size + 1 := by rw [← hH2, Heap.size_push]
  generalize hD' : s₂.heap.objs.size = D at *
  generalize hC' : H2.objs.size = C at *
  have hDC : D ≠ C := by omega
  have lt : ∀ b o, s₂.heap.get? b = some o → b ≠ D ∧ b ≠ C := fun b o e => by
    have h : b < D := hD' ▸ Heap.lt_size e
    exact ⟨Nat.ne_of_lt h, Nat.ne_of_lt (by rw [hC]; exact Nat.lt_succ_of_lt h)⟩
  have old : ∀ b o, s₂.heap.get? b = some o → h₁.get? b = some o := fun b o e => hsb₁.extBut b o (lt b o e).2 (Heap.get?_push_of_some _ (hH2 ▸ Heap.get?_push_of_some _ e))
  have hacc : h₁.get? D = some { cls := .type "list", data := .seq #[] 0 } := hsb₁.extBut _ _ hDC (Heap.get?_push_of_some _ (hH2 ▸ hD' ▸ Heap.get?_push_size _ rfl))
  have freshD : s₂.heap.get? D = Option.none := by
    cases e : s₂.heap.get? D with
    | none => rfl
    | some o => exact absurd rfl (lt D o e).1
  have freshC : s₂.heap.get? C = Option.none := by
    cases e : s₂.heap.get? C with
    | none => rfl
    | some o => exact absurd rfl (lt C o e).2
  obtain ⟨oI, fs, hoI, hdI⟩ := hI.obj
  have hID := (lt I oI hoI).1
  have hIC := (lt I oI hoI).2
  obtain ⟨m₀, cm, hm₀, hcm, hvar⟩ := R.frame
  have hLne : ∀ o, s₂.heap.get? c.env.locals = some o → c.env.locals ≠ I := fun o e q => by
    obtain ⟨o', _, _, e1, e2, _⟩ := hm₀
    rw [q, hoI] at e1; cases e1; rw [hdI] at e2; cases e2
  have hoL : ∃ oL, s₂.heap.get? c.env.locals = some oL := by obtain ⟨o', _, _, e1, _⟩ := hm₀; exact ⟨o', e1⟩
  obtain ⟨oL, hoL⟩ := hoL
  have bne : ∀ a o, b₀ a = some o → a ≠ I := fun a o e q => by rw [q, hbI] at e; cases e
  have listne : ∀ a l, c.get σ₁ a = some l → a ≠ I := fun a l e q => by
    obtain ⟨vs, n, ho, _⟩ := R.plain e
    rw [q, hoI] at ho; cases ho; cases hdI
  -- the block's base: all but the iterator, and the list that is built
  let bD : Obj → Addr → Option Obj := fun o a => if a = D then some o else if a = I then Option.none else s₂.heap.get? a
  have cI : ∀ a l, c.get σ₁ a = some l → a ≠ D := fun a l e => by obtain ⟨vs, n, ho, _⟩ := R.plain e; exact (lt a _ ho).1
  let cx : Cx := c.inner σ₁ scope C
  have hcx : cx.Ok := hc.inner hS.kind
  -- the block's state again, whatever the turn left of its names
  have back : ∀ (o : Obj) (hp : Addr → Option (List V)) (σ' : St) (s' : Shared), σ'.hp = hp → Rel cx (bD o) s₀ σ' s' → Rel cx (bD o) s₀ ⟨innerLoc c σ₁ scope, hp⟩ s' := by
    intro o hp σ' s' e R'
    subst e
    obtain ⟨m, cm', h1, h2, h3⟩ := R'.frame
    refine { same := R'.same, top := R'.top, keep := R'.keep, ro := R'.ro, hp := R'.hp, frame := ⟨m, cm, h1, ?_, ?_⟩, own := R'.own, cells := R'.cells }
    · intro n a e
      have e' := lookup_clOf e
      obtain ⟨oc, ho, hd⟩ := hcm n a e'
      refine ⟨oc, R'.keep a oc ?_, hd⟩
      show (if a = D then some o else if a = I then Option.none else s₂.heap.get? a) = some oc
      rw [if_neg (lt a oc ho).1, if_neg]; exact ho
      rintro rfl
      rw [hoI] at ho; cases ho; rw [hdI] at hd; cases hd
    · intro y v hy
      have hy : innerLoc c σ₁ scope y = some v := hy
      unfold innerLoc at hy
      split at hy
      · rename_i hcond
        simp only [Bool.and_eq_true, beq_iff_eq] at hcond
        obtain ⟨a, ha⟩ := Option.isSome_iff_exists.mp hcond.2
        refine .inr ⟨hcond.1, a, ?_⟩
        rcases hvar y v hy with ⟨hk, _⟩ | ⟨hk, a', val, hl, hv, he⟩
        · -- the outer name is no cell: it can't have been relabelled, and no name of the block is a cell by itself
          exfalso
          have key : ∀ (names : List (Str × NameKind)), (∀ p ∈ names, p.2 ≠ .cell) → (names.map fun (n, k) => if (k == NameKind.free && c.env.scope.kind == .function && c.env.kindOf n == some .cell) then (n, NameKind.cell) else (n, k)).lookup y = some .cell → c.env.kindOf y = some .cell := by
            intro names
            induction names with
            | nil => intro _ h; cases h
            | cons p r ih =>
              intro hne h
              obtain ⟨n, k⟩ := p
              simp only [List.map_cons] at h
              by_cases hcnd : (k == NameKind.free && c.env.scope.kind == .function && c.env.kindOf n == some .cell) = true
              · rw [if_pos hcnd, List.lookup_cons] at h
                cases hyn : y == n with
                | true =>
                  simp only [Bool.and_eq_true, beq_iff_eq] at hcnd
                  rw [beq_iff_eq.mp hyn]; exact hcnd.2
                | false => rw [hyn] at h; exact ih (fun p hp => hne p (.tail _ hp)) h
              · rw [if_neg hcnd, List.lookup_cons] at h
                cases hyn : y == n with
                | true => rw [hyn] at h; cases h; exact absurd rfl (hne _ (.head _))
                | false => rw [hyn] at h; exact ih (fun p hp => hne p (.tail _ hp)) h
          have := key scope.names hcell hcond.1
          rw [hk] at this; cases this
        · exact ⟨val, ha, hv, he⟩
      · cases hy
  have inv0 : Rel cx (bD { cls := .type "list", data := .seq #[] 0 }) s₀ ⟨innerLoc c σ₁ scope, fun _ => Option.none⟩ { s₂ with heap := h₁, toks := s₂.toks + ([] : List (Str × Value)).length } := by
    refine back _ _ ⟨fun _ => Option.none, fun _ => Option.none⟩ _ rfl ?_
    refine { same := ?_, top := ?_, keep := ?_, ro := ?_, hp := (fun a l e => by cases e), frame := ⟨_, cm, hns₁, ?_, (fun y v e => by cases e)⟩, own := ?_, cells := (fun hf => by cases hf) }
    · obtain ⟨h0, t, rfl⟩ := R.same; exact ⟨h₁, _, rfl⟩
    · intro a o e
      have e1 := R.keep a o (R.top a o e)
      show (if a = D then _ else if a = I then Option.none else s₂.heap.get? a) = some o
      rw [if_neg (lt a o e1).1, if_neg (bne a o (R.top a o e))]; exact e1
    · intro a o e
      show h₁.get? a = some o
      simp only [bD] at e
      split at e
      · rename_i h; cases e; rw [h]; exact hacc
      · split at e
        · cases e
        · exact old a o e
    · intro a l e
      obtain ⟨vs, n, ho, el⟩ := R.plain e
      refine ⟨_, ?_, vs, n, rfl, el⟩
      show (if a = D then _ else if a = I then Option.none else s₂.heap.get? a) = some _
      rw [if_neg (cI a l e), if_neg (listne a l e)]; exact ho
    · intro n a e
      obtain ⟨oc, ho, hd⟩ := hcm n a (lookup_clOf e)
      exact ⟨oc, old a oc ho, hd⟩
    · show (if C = D then _ else if C = I then Option.none else s₂.heap.get? C) = Option.none
      rw [if_neg (Ne.symm hDC), if_neg (Ne.symm hIC)]; exact freshC
  have hgI : ∀ (o : Obj), bD o I = Option.none := fun o => by
    show (if I = D then _ else if I = I then Option.none else s₂.heap.get? I) = Option.none
    rw [if_neg hID, if_pos rfl]
  have getx : ∀ (o : Obj) (hp : Addr → Option (List V)) (loc : Str → Option V) (s' : Shared), Rel cx (bD o) s₀ ⟨loc, hp⟩ s' → ∀ a l, hp a = some l → c.get σ₁ a = Option.none := fun o hp loc s' R' a l e => by
    cases hg : c.get σ₁ a with
    | none => rfl
    | some k =>
      obtain ⟨vs, n, ho, _⟩ := R.plain hg
      have := (R'.hp a l e).1
      simp only [bD] at this
      rw [if_neg (cI a k hg), if_neg (listne a k hg), ho] at this
      cases this
  have geteq : ∀ (o : Obj) (hp : Addr → Option (List V)) (loc : Str → Option V) (s' : Shared), Rel cx (bD o) s₀ ⟨loc, hp⟩ s' → ∀ a l, c.get σ₁ a = some l → cx.get ⟨loc, hp⟩ a = some l := fun o hp loc s' R' a l e => by
    show (match hp a with | some l => some l | Option.none => c.get σ₁ a) = some l
    cases hh : hp a with
    | none => exact e
    | some k => rw [getx o hp loc s' R' a k hh] at e; cases e
  have okx : ∀ (o : Obj) (hp : Addr → Option (List V)) (loc : Str → Option V) (s' : Shared), Rel cx (bD o) s₀ ⟨loc, hp⟩ s' → src.ok (cx.get ⟨loc, hp⟩) ∧ ∀ i, src.item (cx.get ⟨loc, hp⟩) i = src.item (c.get σ₁) i := fun o hp loc s' R' => by
    cases src with
    | list a =>
      obtain ⟨l, hl⟩ := Option.isSome_iff_exists.mp hok
      have := geteq o hp loc s' R' a l hl
      exact ⟨by simp only [Src.ok]; rw [this]; rfl, fun i => by simp only [Src.item]; rw [this, hl]⟩
    | range lo n => exact ⟨trivial, fun i => rfl⟩
  have loop : ∀ s₃ : Shared, s₃ = { s₂ with heap := h₁, toks := s₂.toks + ([] : List (Str × Value)).length } →
      codeAny (model c.prog c.w) c.A (.compLoop (.ListComp elt [⟨.Name x px, iter, ifs, 0⟩] scope pos) 0 (.ref I) (.ref D) (innerEnv c scope C)) (RR (.ref D) C) s₃ := by
    rintro s₃ rfl
    refine codeAny_compLoop_tests (fun k s' => ∃ i acc hp vs n, k = N + 1 - i ∧ acc.length ≤ i ∧ IterIs src I i s'.heap ∧ Ers vs.toList acc ∧ Rel cx (bD { cls := .type "list", data := .seq vs n }) s₀ ⟨innerLoc c σ₁ scope, hp⟩ s' ∧ J i acc hp) ?_ (N + 1)
      ⟨0, [], _, #[], 0, rfl, Nat.le_refl _, hI.at fun o e => old I o e, rfl, inv0, hJ0⟩
    rintro k s' ⟨i, acc, hp, vs, n, rfl, hlen, hI', hvs, R', hJi⟩
    obtain ⟨hle, hitem, hdone⟩ := hJ i acc hp hJi (getx _ hp _ s' R')
    obtain ⟨okc, itc⟩ := okx _ hp _ s' R'
    cases hv : src.item (c.get σ₁) i with
    | none =>
      refine next_end (c := cx) hcx R' hI' okc ((itc i).trans hv) fun h' he => ?_
      have R₁ := R'.stepI (tk := s'.toks) hI' (hgI _) he
      obtain ⟨mC, _, hnC, _⟩ := R₁.frame
      have hpD : hp D = Option.none := by
        cases e : hp D with
        | none => rfl
        | some l =>
          have := (R₁.hp D l e).1
          simp only [bD, if_true] at this
          cases this
      have hoD : h'.get? D = some { cls := .type "list", data := .seq vs n } := R₁.keep D _ (by simp [bD])
      have kp : ∀ a o, a ≠ I → s₂.heap.get? a = some o → h'.get? a = some o := fun a o ha e => R₁.keep a o (by
        show (if a = D then _ else if a = I then Option.none else s₂.heap.get? a) = some o
        rw [if_neg (lt a o e).1, if_neg ha]; exact e)
      have kb : ∀ a, b₀ a = Option.none ∨ ∃ o, s₂.heap.get? a = some o ∧ b₀ a = some o := fun a => by
        cases e : b₀ a with
        | none => exact .inl rfl
        | some o => exact .inr ⟨o, R.keep a o e, rfl⟩
      have Rout : Rel c b₀ s₀ ((σ₁.join hp).put D acc) { s' with heap := h' } := by
        refine Rel.enter (o := { cls := .type "list", data := .seq vs n }) ?_ hoD ⟨vs, n, rfl, hvs⟩ ?_
        · refine { same := R₁.same, top := R.top, keep := (fun a o e => kp a o (bne a o e) (R.keep a o e)), ro := R.ro, hp := ?_, frame := ⟨m₀, cm, hm₀.at' (fun o e => kp _ o (hLne o e) e), ?_, hvar⟩, own := R.own, cells := R.cells }
          · intro a l e
            simp only [St.join] at e
            cases hh : σ₁.hp a with
            | some k =>
              rw [hh] at e; cases e
              obtain ⟨p, o, ho, q⟩ := R.hp a _ hh
              exact ⟨p, o, kp a o (listne a _ (by unfold Cx.get; rw [hh])) ho, q⟩
            | none =>
              rw [hh] at e
              obtain ⟨p, o, ho, q⟩ := R₁.hp a l e
              refine ⟨?_, o, ho, q⟩
              rcases kb a with h | ⟨o', e1, e2⟩
              · exact h
              · simp only [bD] at p
                rw [if_neg (lt a o' e1).1, if_neg (bne a o' e2), e1] at p
                cases p
          · intro nm a e
            obtain ⟨oc, ho, hd⟩ := hcm nm a e
            refine ⟨oc, kp a oc ?_ ho, hd⟩
            rintro rfl
            rw [hoI] at ho; cases ho; rw [hdI] at hd; cases hd
        · rcases kb D with h | ⟨o', e1, _⟩
          · exact h
          · rw [freshD] at e1; cases e1
      refine hRR D C acc hp _ Rout (hdone hv D ?_ hpD) ?_ ?_ ?_ ?_ ⟨mC, hnC⟩
      · cases hg : c.get σ₁ D with
        | none => rfl
        | some l => exact absurd rfl (cI D l hg)
      · rcases kb C with h | ⟨o', e1, _⟩
        · exact h
        · rw [freshC] at e1; cases e1
      · simp only [St.put, St.join]
        rw [if_neg (Ne.symm hDC)]
        cases hh : σ₁.hp C with
        | some l =>
          obtain ⟨_, o, ho, _⟩ := R.hp C l hh
          rw [freshC] at ho; cases ho
        | none =>
          cases e : hp C with
          | none => rfl
          | some l =>
            obtain ⟨_, o, ho, ws, k, rfl, _⟩ := R₁.hp C l e
            obtain ⟨o', _, _, e1, e2, _⟩ := hnC
            have ho' : h'.get? C = _ := ho
            have e1' : h'.get? C = some o' := e1
            rw [ho'] at e1'; cases e1'; cases e2
      · rintro rfl; rw [freshC] at hoL; cases hoL
      · intro nm e
        obtain ⟨oc, ho, _⟩ := hcm nm C e
        rw [freshC] at ho; cases ho
    | some v =>
      refine next_item (c := cx) R' hI' ((itc i).trans hv) fun val h' tk hval hI₁ hsb => ?_
      have R₁ := R'.stepI (tk := tk) hI' (hgI _) hsb.extBut
      obtain ⟨oI₁, fs₁, hoI₁, hdI₁⟩ := hI₁.obj
      have Rg := Rel.guard R₁ hoI₁ hdI₁ (hgI _)
      refine wpAny_assign_Name (Rel.store (c := cx) hcx Rg hval (.inl (lookup_relabel_local hS.x)) fun s₄ R₄ => ?_)
      have unI : ∀ {σ₅ : St} {s₅ : Shared}, Rel cx (fun a => if a = I then some oI₁ else bD { cls := .type "list", data := .seq vs n } a) s₀ σ₅ s₅ → Rel cx (bD { cls := .type "list", data := .seq vs n }) s₀ σ₅ s₅ ∧ IterIs src I (i + 1) s₅.heap := fun {σ₅ s₅} R₅ => by
        refine ⟨Rel.unguard R₁ R₅ fun a o e => ?_, hI₁.at fun o e => ?_⟩
        · show (if a = I then some oI₁ else _) = some o
          rw [if_neg]; exact e
          rintro rfl; rw [hgI] at e; cases e
        · rw [hoI₁] at e; cases e
          exact R₅.keep I oI₁ (by simp)
      refine wpAny_mono (WIfs.run (hitem v C hv) _ s₀ s₄ R₄) (fun ok s₅ ⟨b, σ₅, e, R₅, hf, ht⟩ => ?_) fun _ _ x => x.elim
      subst e
      cases ok with
      | false =>
        simp only [Bool.false_eq_true, if_false]
        obtain ⟨R₆, hI₆⟩ := unI R₅
        exact ⟨N + 1 - (i + 1), by omega, i + 1, acc, σ₅.hp, vs, n, rfl, Nat.le_succ_of_le hlen, hI₆, hvs, back _ _ σ₅ _ rfl R₆, hf rfl⟩
      | true =>
        simp only [if_true]
        refine wpAny_mono (ht rfl _ s₀ s₅ R₅) (fun y s₆ ⟨w, σ₆, kw, R₆, hJ'⟩ => ?_) fun _ _ x => x.elim
        obtain ⟨R₇, hI₇⟩ := unI R₆
        have hoD := R₇.keep D { cls := .type "list", data := .seq vs n } (by simp [bD])
        have el := hvs.length
        rw [Array.length_toList] at el
        refine append_at hoD (fun h₈ hsb₈ hD₈ => ?_) (by rw [el]; exact Nat.le_trans (Nat.le_trans hlen (Nat.le_trans hle hN)) (by decide))
        refine ⟨N + 1 - (i + 1), by omega, i + 1, acc ++ [w], σ₆.hp, vs.push y, n + 1, rfl, by simp; exact hlen, ?_, ?_, ?_, hJ'⟩
        · exact hI₇.at fun o e => (hsb₈.2 I hID).trans e
        · simpa using hvs.append (Ers.cons kw .nil)
        · refine back _ _ σ₆ _ rfl ?_
          obtain ⟨m₇, cm₇, a1, a2, a3⟩ := R₇.frame
          have Dne : ∀ a o', bD { cls := .type "list", data := .seq (vs.push y) (n + 1) } a = some o' → a ≠ D → bD { cls := .type "list", data := .seq vs n } a = some o' := fun a o' e h => by
            simp only [bD] at e ⊢; rw [if_neg h] at e ⊢; exact e
          refine { same := ?_, top := ?_, keep := ?_, ro := ?_, hp := ?_, frame := ⟨m₇, cm₇, a1.sameBut hsb₈ ?_, ?_, a3⟩, own := ?_, cells := (fun hf => by cases hf) }
          · obtain ⟨h0, t, e⟩ := R₇.same; exact ⟨h₈, s₆.toks, by rw [e]⟩
          · intro a o' e
            have e1 := R.keep a o' (R.top a o' e)
            show (if a = D then _ else if a = I then Option.none else s₂.heap.get? a) = some o'
            rw [if_neg (lt a o' e1).1, if_neg (bne a o' (R.top a o' e))]; exact e1
          · intro a o' e
            by_cases h : a = D
            · subst h
              simp only [bD, if_true] at e; cases e; exact hD₈
            · exact (hsb₈.2 a h).trans (R₇.keep a o' (Dne a o' e h))
          · intro a l e
            obtain ⟨ws, k, ho, el'⟩ := R.plain e
            refine ⟨_, ?_, ws, k, rfl, el'⟩
            show (if a = D then _ else if a = I then Option.none else s₂.heap.get? a) = some _
            rw [if_neg (cI a l e), if_neg (listne a l e)]; exact ho
          · intro a l e
            obtain ⟨p, o', ho, q⟩ := R₇.hp a l e
            have haD : a ≠ D := fun h => by
              rw [h] at p
              simp only [bD, if_true] at p
              cases p
            refine ⟨?_, o', (hsb₈.2 a haD).trans ho, q⟩
            simp only [bD] at p ⊢
            rw [if_neg haD] at p ⊢; exact p
          · show C ≠ D
            exact Ne.symm hDC
          · intro nm a e
            refine (a2 nm a e).sameBut hsb₈ ?_
            obtain ⟨oc, ho, _⟩ := hcm nm a (lookup_clOf e)
            exact (lt a oc ho).1
          · show (if C = D then _ else if C = I then Option.none else s₂.heap.get? C) = Option.none
            rw [if_neg (Ne.symm hDC), if_neg (Ne.symm hIC)]; exact freshC
  have self : ∀ s₃ : Shared, s₃ = { s₂ with heap := h₁, toks := s₂.toks + ([] : List (Str × Value)).length } → ∀ (Q : Value → Shared → Prop) (E : Value → Shared → Prop), Q (.ref I) s₃ → wpAny (model c.prog c.w) c.A (pyIter (.ref I)) Q E s₃ := by
    rintro s₃ rfl Q E hq
    have hI₁ : IterIs src I 0 h₁ := hI.at fun o e => old I o e
    cases src with
    | list a => exact wpAny_pyIter_listiter hI₁ hq
    | range lo n => exact wpAny_pyIter_rangeiter hI₁ hq
  exact codeAny_compStart_list (loop _ rfl) (self _ rfl _ _ (loop _ rfl))

theorem names_of (hS : CompShape c scope x) : ∀ y ∈ scope.names, y.2 = .local → scope.names.lookup y.1 = some .local := fun y hy hl => by
  have := List.all_eq_true.mp hS.names y hy
  simpa [hl] using this

theorem W_comp (hc : c.Ok) (hS : CompShape c scope x) {Q : V → St → Prop} (h : WIt c iter (CompAsk c x ifs elt scope Q) σ) (hs : ∀ x, foldedSetIterable iter c.env x = pure x := by intro _; rfl) :
    W c (.ListComp elt [⟨.Name x px, iter, ifs, 0⟩] scope pos) Q σ := fun b₀ s₀ s R => by
  rw [eval_ListComp]
  refine wpAny_comprehension_free (use := Option.none) rfl hs (closureFor_eq hS.free) hS.kind (names_of hS) (wpAny_mono (h b₀ s₀ s R) (fun xv s₁ h₁ => wpAny_mono h₁ (fun it s₂ ⟨src, I, σ₁, e, hI, hb, R₂, h₂⟩ => ?_) fun _ _ x => x) fun _ _ x => x)
  subst e
  refine comp_core (RR := fun acc C => compPost _ _ _ Option.none _ acc C) hc hS hI hb R₂ h₂ ?_
  intro D C acc hp s' R' hP hbC hhC hLC hcC hns
  obtain ⟨m, hm⟩ := hns
  exact ⟨m, hm, fun h' hs' => ⟨.ref D, _, rfl, R'.off (tk := s'.toks) hbC hhC hLC hcC hs'.extBut, hP⟩⟩

theorem Ws_assignComp (hc : c.Ok) (hS : CompShape c scope x) {Q : Fl → St → Prop} {y : Str} {py spos : Pos} (ht : Tgt c y) (h : WIt c iter (CompAsk c x ifs elt scope (fun v σ₁ => Q .next (σ₁.set y v))) σ)
    (hsw : swapsWith (.ListComp elt [⟨.Name x px, iter, ifs, 0⟩] scope pos) (some (.Name y py)) spos.line c.env = pure true := by rfl)
    (hs : ∀ x, foldedSetIterable iter c.env x = pure x := by intro _; rfl) : Ws c (.Assign [.Name y py] (.ListComp elt [⟨.Name x px, iter, ifs, 0⟩] scope pos) spos) Q σ := fun b₀ s₀ s R => by
  rw [exec_Assign_Name_used _ _ _ _ hsw]
  refine wpAny_bind (wpAny_standAt (wpAny_bind ?_))
  show wpAny _ _ (do let _ ← comprehension (.ListComp elt [⟨.Name x px, iter, ifs, 0⟩] scope pos) scope c.env _ (newList []) false (eval iter c.env) (some (assign (.Name y py) c.env))) _ _ s
  refine wpAny_bind (wpAny_mono (wpAny_comprehension_free (use := some (assign (.Name y py) c.env)) (Q := fun _ s' => ∃ b σ', FK .next b ∧ Rel c b₀ s₀ σ' s' ∧ Q b σ') rfl hs (closureFor_eq hS.free) hS.kind (names_of hS)
    (wpAny_mono (h b₀ s₀ s R) (fun xv s₁ h₁ => wpAny_mono h₁ (fun it s₂ ⟨src, I, σ₁, e, hI, hb, R₂, h₂⟩ => ?_) fun _ _ x => x) fun _ _ x => x)) (fun _ s' hq => wpAny_pure (wpAny_pure hq)) fun _ _ x => x)
  subst e
  refine comp_core (RR := fun acc C => compPost _ _ _ (some (assign (.Name y py) c.env)) _ acc C) hc hS hI hb R₂ h₂ ?_
  intro D C acc hp s' R' hP hbC hhC hLC hcC hns
  obtain ⟨m, hm⟩ := hns
  obtain ⟨oC, _, _, hoC, hdC, _⟩ := id hm
  show wpAny _ _ (assign (.Name y py) c.env (.ref D)) _ _ s'
  -- the block's own table is guarded while the name is stored
  have Rg : Rel c (fun a => if a = C then some oC else b₀ a) s₀ ((σ₁.join hp).put D acc) s' := by
    have ne : ∀ a o', b₀ a = some o' → a ≠ C := fun a o' e q => by rw [q, hbC] at e; cases e
    obtain ⟨m', cm', h1, h2, h3⟩ := R'.frame
    refine { same := R'.same, top := ?_, keep := ?_, ro := ?_, hp := ?_, frame := R'.frame, own := ?_, cells := ?_ }
    · intro a o' e; show (if a = C then _ else b₀ a) = _; rw [if_neg (ne a o' (R'.top a o' e))]; exact R'.top a o' e
    · intro a o' e
      by_cases h : a = C
      · simp only [if_pos h] at e; cases e; rw [h]; exact hoC
      · simp only [if_neg h] at e; exact R'.keep a o' e
    · intro a l e
      obtain ⟨o', p, q⟩ := R'.ro a l e
      exact ⟨o', by show (if a = C then _ else b₀ a) = _; rw [if_neg (ne a o' p)]; exact p, q⟩
    · intro a l e
      obtain ⟨p, q⟩ := R'.hp a l e
      refine ⟨?_, q⟩
      show (if a = C then _ else b₀ a) = _
      rw [if_neg]; exact p
      rintro rfl; rw [hhC] at e; cases e
    · show (if c.env.locals = C then _ else b₀ c.env.locals) = _
      rw [if_neg hLC]; exact R'.own
    · intro hf
      refine ⟨fun n a e => ?_, (R'.cells hf).2⟩
      show (if a = C then _ else b₀ a) = _
      rw [if_neg]; exact (R'.cells hf).1 n a e
      rintro rfl; exact hcC n e
  refine wpAny_assign_Name (Rg.store hc (v := .ref D) rfl ht fun s'' R'' => ?_)
  have hoC'' := R''.keep C oC (by simp)
  have R₃ : Rel c b₀ s₀ (((σ₁.join hp).put D acc).set y (.ref D)) s'' := Rel.unguard R' R'' fun a o e => by
    show (if a = C then _ else b₀ a) = _
    rw [if_neg]; exact e
    rintro rfl; rw [hbC] at e; cases e
  refine ⟨m, hm.at' (fun o e => by rw [hoC] at e; cases e; exact hoC''), fun h' hs' => ⟨.next, _, trivial, R₃.off (tk := s''.toks) hbC hhC hLC hcC hs'.extBut, hP⟩⟩
end
end Mine

namespace Mine
open PySem PyProof.Rows

/-- room for n calls within one another -/
def Lv (n : Nat) (A : Around) : Prop := A.handled = Option.none ∧ A.depth + n < recursionLimit ∧ A.units + 3 * n + 64 < cLine
theorem Lv.deeper {n : Nat} {A : Around} (h : Lv (n + 1) A) (env : Env) : Lv n (A.deeper env) :=
  ⟨h.1, by show A.depth + 1 + n < recursionLimit; have := h.2.1; omega, by show A.units + 3 + 3 * n + 64 < cLine; have := h.2.2; omega⟩
theorem Lv.less {n m : Nat} {A : Around} (h : Lv n A) (hm : m ≤ n) : Lv m A := ⟨h.1, by have := h.2.1; omega, by have := h.2.2; omega⟩

structure FnAt (ht : Heap) (f : Addr) (fd : FuncData) (body : List Stmt) (params : List Str) : Prop where
  obj : ∃ o, ht.get? f = some o ∧ o.data = .func fd
  code : ht.CodeRec fd.code fd.qualname
  body : fd.body = .stmts body
  clo : fd.closure = []
  glob : fd.globals = mainGlobals
  bi : fd.builtins = builtinsNs
  kind : fd.scope.kind = .function
  co : fd.scope.isCoroutine = false
  gen : fd.scope.isGenerator = false
  binds : ∀ vs : List Value, vs.length = params.length → bindArgs fd ⟨vs, []⟩ = pure (params.zip vs)
  nodup : params.Nodup
  kinds : ∀ x ∈ params, fd.scope.names.lookup x = some .local ∨ (fd.scope.names.lookup x = some .cell ∧ ∀ L, ((cellsFrom L fd.scope.names []).lookup x).isSome = true)

def callee (c : Cx) (σ : St) (fd : FuncData) (L f : Addr) : Cx := { c with A := c.A.deeper (callEnvC fd L f), ro := c.get σ, env := callEnvC fd L f }
def argLoc (params : List Str) (l : List V) : Str → Option V := fun x => (params.zip l).lookup x

theorem bindL_off {k : Str → Option NameKind} {x : Str} : ∀ {b : List (Str × Value)} {m : Str → Option Value}, (∀ p ∈ b, p.1 ≠ x) → bindL k b m x = m x
  | [], _, _ => rfl
  | (n, v) :: r, m, h => by
    unfold bindL
    rw [bindL_off (fun p hp => h p (.tail _ hp))]
    have : x ≠ n := Ne.symm (h (n, v) (.head _))
    split
    · simp only [if_neg this]
    · rfl
theorem bindC_off {k : Str → Option NameKind} {x : Str} : ∀ {b : List (Str × Value)} {m : Str → Option Value}, (∀ p ∈ b, p.1 ≠ x) → bindC k b m x = m x
  | [], _, _ => rfl
  | (n, v) :: r, m, h => by
    unfold bindC
    rw [bindC_off (fun p hp => h p (.tail _ hp))]
    have : x ≠ n := Ne.symm (h (n, v) (.head _))
    split
    · rfl
    · simp only [if_neg this]
theorem mem_zip_fst {α β : Type} : ∀ {l : List α} {k : List β} {p : α × β}, p ∈ l.zip k → p.1 ∈ l
  | [], _, _, h => by simp at h
  | _ :: _, [], _, h => by simp at h
  | a :: l, b :: k, p, h => by
    rw [List.zip_cons_cons] at h
    rcases List.mem_cons.mp h with rfl | h
    · exact .head _
    · exact .tail _ (mem_zip_fst h)
theorem binds_find {k : Str → Option NameKind} {x : Str} {v : V} : ∀ {params : List Str} {vs : List Value} {l : List V} {m cm : Str → Option Value}, params.Nodup → Ers vs l → (params.zip l).lookup x = some v →
    ∃ val, er val = some v ∧ (k x = some .local → bindL k (params.zip vs) m x = some val) ∧ (k x ≠ some .local → bindC k (params.zip vs) cm x = some val)
  | [], _, _, _, _, _, _, h => by simp at h
  | n :: ps, vs, l, m, cm, hn, he, h => by
    cases l with
    | nil => simp at h
    | cons w l =>
      cases vs with
      | nil => simp [Ers] at he
      | cons y vs =>
        simp only [Ers, List.map_cons, List.cons.injEq] at he
        rw [List.zip_cons_cons, List.lookup_cons] at h
        rw [List.zip_cons_cons]
        have hnd := List.nodup_cons.mp hn
        cases hx : x == n with
        | true =>
          rw [hx] at h; cases h
          have hx' : x = n := beq_iff_eq.mp hx
          subst hx'
          have off : ∀ p ∈ ps.zip vs, p.1 ≠ x := fun p hp e => hnd.1 (e ▸ mem_zip_fst hp)
          refine ⟨y, he.1, fun hk => ?_, fun hk => ?_⟩
          · unfold bindL; rw [bindL_off off, if_pos hk]; simp
          · unfold bindC; rw [bindC_off off, if_neg hk]; simp
        | false =>
          rw [hx] at h
          unfold bindL bindC
          exact binds_find hnd.2 he.2 h

section
variable {c : Cx} {σ : St} {f : Addr} {fd : FuncData} {body : List Stmt} {params : List Str} {mg : Str → Option Value}

theorem call_fn (hA : Lv 1 c.A) (T : TopOk c.ht mg) (F : FnAt c.ht f fd body params) {l : List V} (hl : l.length = params.length) {P : V → (Addr → Option (List V)) → Prop}
    (h : ∀ L, Wss (callee c σ fd L f) body (fun fl σ' => ∃ v, fl = .ret v ∧ P v σ'.hp) ⟨argLoc params l, fun _ => Option.none⟩) {b₀ : Addr → Option Obj} {s₀ s : Shared} (R : Rel c b₀ s₀ σ s) {vs : List Value} (hv : Ers vs l) :
    wpAny (model c.prog c.w) c.A (call (.ref f) vs) (fun x s' => ∃ v hp, er x = some v ∧ Rel c b₀ s₀ (σ.join hp) s' ∧ P v hp ∧ ∀ a k, hp a = some k → c.get σ a = Option.none) (fun _ _ => False) s := by
  obtain ⟨o, ho, hd⟩ := F.obj
  have hlen : vs.length = params.length := hv.length.trans hl
  refine wpAny_call (codeAny_call_cells (by have := hA.2.1; omega) (R.topKeep f o ho) hd (T.nolimit.keeps R.topKeep) (F.code.keeps R.topKeep) F.body (F.binds vs hlen) F.clo ?_ ?_ F.co F.gen F.kind)
  · intro p hp
    rcases F.kinds p.1 (mem_zip_fst hp) with h | ⟨h, h'⟩
    · exact .inl h
    · exact .inr ⟨h, h' _⟩
  · intro s₁ x
    generalize hL : s.heap.objs.size = L at *
    have keep := x.toInCall.keep
    have R₁ : Rel (callee c σ fd L f) (fun a => s.heap.get? a) s ⟨argLoc params l, fun _ => Option.none⟩ s₁ := by
      refine { same := x.toInCall.same, top := R.topKeep, keep := keep, ro := ?_, hp := (fun a k e => by cases e), frame := ⟨_, _, x.toInCall.ns, x.cell, ?_⟩, own := ?_, cells := fun _ => ⟨?_, x.apart⟩ }
      · intro a k e
        obtain ⟨ws, n, hw, el⟩ := R.plain e
        exact ⟨_, hw, ws, n, rfl, el⟩
      · intro y v hy
        have hy : (params.zip l).lookup y = some v := hy
        obtain ⟨val, hval, h1, h2⟩ := binds_find (k := (callEnvC fd L f).kindOf) (m := fun _ => Option.none) (cm := fun _ => Option.none) F.nodup hv hy
        have hm := mem_zip_fst (mem_of_lookup hy)
        rcases F.kinds y hm with hk | ⟨hk, hc⟩
        · exact .inl ⟨hk, val, h1 hk, hval⟩
        · obtain ⟨a, ha⟩ := Option.isSome_iff_exists.mp (hc (L + 1))
          have hk' : (callEnvC fd L f).kindOf y = some .cell := hk
          exact .inr ⟨hk', a, val, ha, h2 (by rw [hk']; intro e; cases e), hval⟩
      · show s.heap.get? L = Option.none
        cases e : s.heap.get? L with
        | none => rfl
        | some o' => exact absurd (Heap.lt_size e) (by rw [hL]; exact Nat.lt_irrefl _)
      · intro n a e
        have := x.above n a (mem_of_lookup e)
        have hlt : L < a := this
        show s.heap.get? a = Option.none
        cases e' : s.heap.get? a with
        | none => rfl
        | some o' => exact absurd (Nat.lt_trans hlt (hL ▸ Heap.lt_size e')) (Nat.lt_irrefl _)
    refine wpAny_mono (h L _ s s₁ R₁) (fun fl s' ⟨g, σ', k, R', v, e, hP⟩ => ?_) fun _ _ x => x.elim
    subst e
    cases fl with
    | ret y =>
      refine ⟨v, σ'.hp, k, ?_, hP, fun a k e => ?_⟩
      · have kp : ∀ b o, s.heap.get? b = some o → s'.heap.get? b = some o := fun b o e => R'.keep b o e
        have Rg : Rel c b₀ s₀ σ s' := by
          obtain ⟨h', tk, e⟩ := R'.same
          subst e
          exact R.grow (tk := tk) kp
        refine { same := Rg.same, top := Rg.top, keep := Rg.keep, ro := Rg.ro, hp := ?_, frame := Rg.frame, own := Rg.own, cells := Rg.cells }
        intro a k e
        simp only [St.join] at e
        cases hh : σ.hp a with
        | some k' => rw [hh] at e; cases e; exact Rg.hp a _ hh
        | none =>
          rw [hh] at e
          obtain ⟨p, q⟩ := R'.hp a k e
          refine ⟨?_, q⟩
          cases hb : b₀ a with
          | none => rfl
          | some o' => have := R.keep a o' hb; rw [this] at p; cases p
      · cases hg : c.get σ a with
        | none => rfl
        | some k' =>
          obtain ⟨ws, n, hw, _⟩ := R.plain hg
          have := (R'.hp a k e).1
          rw [hw] at this; cases this
    | next => exact k.elim
    | brk => exact k.elim
    | cont => exact k.elim

theorem W_call (hc : c.Ok) (hA : Lv 1 c.A) (T : TopOk c.ht mg) (F : FnAt c.ht f fd body params) {x : Str} {e : Expr} {r : List Expr} {p pos : Pos} {Q : V → St → Prop} (hx : mg x = some (.ref f)) (hk : c.env.kindOf x = some .globalImplicit) (hs : noStar (e :: r) = true)
    (h : WL c (e :: r) (fun l σ₁ => l.length = params.length ∧ ∃ P : V → (Addr → Option (List V)) → Prop,
      (∀ L, Wss (callee c σ₁ fd L f) body (fun fl σ' => ∃ v, fl = .ret v ∧ P v σ'.hp) ⟨argLoc params l, fun _ => Option.none⟩) ∧ ∀ v hp, P v hp → (∀ a k, hp a = some k → c.get σ₁ a = Option.none) → Q v (σ₁.join hp)) σ)
    (hd : (x == ("__debug__" : Str)) = false := by decide) : W c (.Call (.Name x p) (e :: r) [] pos) Q σ := fun b₀ s₀ s R => by
  refine Call_Name rfl (evalGl hc T R hx hk ?_ hd)
  obtain ⟨o, ho, hdat⟩ := F.obj
  refine callWith_def (o := o) hdat (wpAny_mono (WL.run hs h R) (fun vs s₁ ⟨l, σ₁, k, R₁, hl, P, hb, hq⟩ => ?_) fun _ _ x => x.elim) (starEach_of hs)
  refine ⟨R₁.topKeep f o ho, wpAny_mono (call_fn hA T F hl hb R₁ k) (fun y s' ⟨v, hp, hv, R', hP, hg⟩ => ⟨v, _, hv, R', hq v hp hP hg⟩) fun _ _ x => x⟩
end

/- what stood stands -/
theorem join_hp {σ : St} {hp : Addr → Option (List V)} {a : Addr} {l : List V} (e : σ.hp a = some l) : (σ.join hp).hp a = some l := by
  show (match σ.hp a with | some l => some l | Option.none => hp a) = some l
  rw [e]
theorem join_hp_none {σ : St} {hp : Addr → Option (List V)} {a : Addr} (e : σ.hp a = Option.none) : (σ.join hp).hp a = hp a := by
  show (match σ.hp a with | some l => some l | Option.none => hp a) = hp a
  rw [e]
theorem get_hp {c : Cx} {σ : St} {a : Addr} {l : List V} (e : σ.hp a = some l) : c.get σ a = some l := by
  unfold Cx.get; rw [e]
theorem get_ro {c : Cx} {σ : St} {a : Addr} (e : σ.hp a = Option.none) : c.get σ a = c.ro a := by
  unfold Cx.get; rw [e]
theorem hp_of_get_none {c : Cx} {σ : St} {a : Addr} (e : c.get σ a = Option.none) : σ.hp a = Option.none ∧ c.ro a = Option.none := by
  cases h : σ.hp a with
  | some k => rw [get_hp h] at e; cases e
  | none => rw [get_ro h] at e; exact ⟨rfl, e⟩
theorem join_get {c : Cx} {σ : St} {hp : Addr → Option (List V)} (h : ∀ a k, hp a = some k → c.get σ a = Option.none) {a : Addr} {l : List V} (e : c.get σ a = some l) : c.get (σ.join hp) a = some l := by
  cases hh : σ.hp a with
  | some k => rw [get_hp hh] at e; cases e; exact get_hp (join_hp hh)
  | none =>
    have hq : hp a = Option.none := by
      cases hq : hp a with
      | none => rfl
      | some k => rw [h a k hq] at e; cases e
    rw [get_ro (by rw [join_hp_none hh]; exact hq)]
    rw [get_ro hh] at e; exact e
theorem join_new {c : Cx} {σ : St} {hp : Addr → Option (List V)} (h : ∀ a k, hp a = some k → c.get σ a = Option.none) {a : Addr} {l : List V} (e : hp a = some l) : (σ.join hp).hp a = some l := by
  rw [join_hp_none (hp_of_get_none (h a l e)).1]; exact e
theorem put_same {σ : St} {a : Addr} {l : List V} : (σ.put a l).hp a = some l := by simp [St.put]
theorem put_other {σ : St} {a b : Addr} {l : List V} (h : b ≠ a) : (σ.put a l).hp b = σ.hp b := by simp [St.put, h]
theorem get_put_same {c : Cx} {σ : St} {a : Addr} {l : List V} : c.get (σ.put a l) a = some l := get_hp put_same
theorem get_put_other {c : Cx} {σ : St} {a b : Addr} {l : List V} (h : b ≠ a) : c.get (σ.put a l) b = c.get σ b := by
  unfold Cx.get; rw [put_other h]
theorem get_put_new {c : Cx} {σ : St} {a b : Addr} {l k : List V} (h : c.get σ a = Option.none) (e : c.get σ b = some k) : c.get (σ.put a l) b = some k := by
  rw [get_put_other]; exact e
  rintro rfl; rw [h] at e; cases e
theorem put_new_hp {c : Cx} {σ : St} {a b : Addr} {l k : List V} (h : c.get σ a = Option.none) (e : σ.hp b = some k) : (σ.put a l).hp b = some k := by
  rw [put_other]; exact e
  rintro rfl; rw [get_hp e] at h; cases h
end Mine

namespace Mine
/-- k is a proper border of the first n of p -/
def Bd (p : Nat → Int) (n k : Nat) : Prop := k < n ∧ ∀ j, j < k → p j = p (n - k + j)
def MaxB (p : Nat → Int) (n k : Nat) : Prop := Bd p n k ∧ ∀ k', Bd p n k' → k' ≤ k

theorem Bd.zero {p : Nat → Int} {n : Nat} (h : 0 < n) : Bd p n 0 := ⟨h, fun j hj => absurd hj (Nat.not_lt_zero _)⟩
theorem Bd.succ {p : Nat → Int} {n k : Nat} : Bd p (n + 1) (k + 1) ↔ Bd p n k ∧ p k = p n := by
  constructor
  · rintro ⟨h1, h2⟩
    refine ⟨⟨by omega, fun j hj => ?_⟩, ?_⟩
    · have := h2 j (by omega)
      rw [this]; congr 1; omega
    · have := h2 k (by omega)
      rw [this]; congr 1; omega
  · rintro ⟨⟨h1, h2⟩, h3⟩
    refine ⟨by omega, fun j hj => ?_⟩
    by_cases hk : j = k
    · subst hk; rw [h3]; congr 1; omega
    · have := h2 j (by omega)
      rw [this]; congr 1; omega
theorem Bd.trans {p : Nat → Int} {n k k' : Nat} (h : Bd p n k) (h' : Bd p k k') : Bd p n k' :=
  ⟨Nat.lt_trans h'.1 h.1, fun j hj => by
    have a := h'.2 j hj
    have b := h.2 (k - k' + j) (by have := h'.1; omega)
    rw [a, b]
    congr 1
    have := h'.1; have := h.1; omega⟩
theorem Bd.below {p : Nat → Int} {n k k' : Nat} (h : Bd p n k) (h' : Bd p n k') (hlt : k' < k) : Bd p k k' :=
  ⟨hlt, fun j hj => by
    have a := h'.2 j hj
    have b := h.2 (k - k' + j) (by omega)
    rw [a, b]
    congr 1
    have := h.1; omega⟩
theorem MaxB.unique {p : Nat → Int} {n k k' : Nat} (h : MaxB p n k) (h' : MaxB p n k') : k = k' := Nat.le_antisymm (h'.2 k h.1) (h.2 k' h'.1)

theorem exists_max {P : Nat → Prop} (n : Nat) (h0 : ∃ k, P k) (hb : ∀ k, P k → k ≤ n) : ∃ k, P k ∧ ∀ k', P k' → k' ≤ k := by
  induction n with
  | zero =>
    obtain ⟨k, hk⟩ := h0
    exact ⟨k, hk, fun k' h' => by have := hb k' h'; omega⟩
  | succ n ih =>
    by_cases h : P (n + 1)
    · exact ⟨n + 1, h, hb⟩
    · exact ih fun k hk => by
        have := hb k hk
        have : k ≠ n + 1 := fun e => h (e ▸ hk)
        omega
theorem exists_maxB (p : Nat → Int) {n : Nat} (h : 0 < n) : ∃ k, MaxB p n k :=
  exists_max n ⟨0, Bd.zero h⟩ fun _ hk => Nat.le_of_lt hk.1

/-- the greatest border, as a function -/
noncomputable def bord (p : Nat → Int) (n : Nat) : Nat := open Classical in if h : ∃ k, MaxB p n k then h.choose else 0
theorem bord_spec (p : Nat → Int) {n : Nat} (h : 0 < n) : MaxB p n (bord p n) := by
  unfold bord; rw [dif_pos (exists_maxB p h)]; exact (exists_maxB p h).choose_spec
theorem bord_eq {p : Nat → Int} {n k : Nat} (h : MaxB p n k) : bord p n = k :=
  MaxB.unique (bord_spec p (Nat.lt_of_le_of_lt (Nat.zero_le _) h.1.1)) h
theorem bord_lt (p : Nat → Int) {n : Nat} (h : 0 < n) : bord p n < n := (bord_spec p h).1.1
theorem bord_one (p : Nat → Int) : bord p 1 = 0 := by have := bord_lt p (n := 1) (by omega); omega

/-- what the inner loop of the table's maker knows of idx -/
def Cand (p : Nat → Int) (i k : Nat) : Prop := Bd p i k ∧ ∀ k', Bd p i k' → p k' = p i → k' ≤ k
theorem Cand.start (p : Nat → Int) {i : Nat} (h : 0 < i) : Cand p i (bord p i) := ⟨(bord_spec p h).1, fun k' hk _ => (bord_spec p h).2 k' hk⟩
theorem Cand.hit {p : Nat → Int} {i k : Nat} (h : Cand p i k) (e : p i = p k) : bord p (i + 1) = k + 1 :=
  bord_eq ⟨Bd.succ.mpr ⟨h.1, e.symm⟩, fun k' hk' => by
    cases k' with
    | zero => omega
    | succ k' =>
      obtain ⟨a, b⟩ := Bd.succ.mp hk'
      have := h.2 k' a b
      omega⟩
theorem Cand.none {p : Nat → Int} {i : Nat} (h : Cand p i 0) (e : p i ≠ p 0) : bord p (i + 1) = 0 :=
  bord_eq ⟨Bd.zero (by omega), fun k' hk' => by
    cases k' with
    | zero => omega
    | succ k' =>
      obtain ⟨a, b⟩ := Bd.succ.mp hk'
      have := h.2 k' a b
      have hk0 : k' = 0 := by omega
      subst hk0
      exact absurd b.symm e⟩
theorem Cand.next {p : Nat → Int} {i k : Nat} (h : Cand p i k) (hk : 0 < k) (e : p i ≠ p k) : Cand p i (bord p k) :=
  ⟨h.1.trans (bord_spec p hk).1, fun k' hb hm => by
    have hle := h.2 k' hb hm
    have hne : k' ≠ k := fun q => e (by rw [← q]; exact hm.symm)
    exact (bord_spec p hk).2 k' (h.1.below hb (by omega))⟩

noncomputable def tableOf (ps : List Int) : List Int := (List.range ps.length).map fun j => ((bord (fun i => ps.getD i 0) (j + 1) : Nat) : Int)
theorem tableOf_length (ps : List Int) : (tableOf ps).length = ps.length := by simp [tableOf]
theorem tableOf_get {ps : List Int} {j : Nat} (h : j < ps.length) : (tableOf ps)[j]? = some ((bord (fun i => ps.getD i 0) (j + 1) : Nat) : Int) := by
  simp [tableOf, h]
end Mine

namespace Mine
open PySem PyProof.Rows

def bodyOf (p : Program) (i : Nat) : List Stmt := match p.main.body[i]? with | some (.FunctionDef _ _ b _ _ _ _ _ _ _) => b | _ => []
def scopeOf (p : Program) (i : Nat) : Scope := match p.main.body[i]? with | some (.FunctionDef _ _ _ _ _ _ s _ _ _) => s | _ => { kind := .function, names := [], isGenerator := false, isCoroutine := false }
def parOf (p : Program) (i : Nat) : Arguments := match p.main.body[i]? with | some (.FunctionDef _ a _ _ _ _ _ _ _ _) => a | _ => ⟨[], [], Option.none, [], [], Option.none, []⟩
def nmOf (p : Program) (i : Nat) : Str := match p.main.body[i]? with | some (.FunctionDef n _ _ _ _ _ _ _ _ _) => n | _ => ""
def fdOf (p : Program) (i : Nat) (pm cd doc : Value) : FuncData := Calls.docDef (nmOf p i) (parOf p i) (bodyOf p i) (scopeOf p i) pm cd doc

theorem callee_ok {c : Cx} {σ : St} {fd : FuncData} {L f : Addr} (hA : Lv 1 c.A) (h1 : fd.scope.kind = .function) (h2 : fd.globals = mainGlobals) (h3 : fd.builtins = builtinsNs) : (callee c σ fd L f).Ok :=
  ⟨h1, h2, h3, hA.1, by show c.A.units + 3 + 64 < cLine; have := hA.2.2; omega⟩

theorem loc_same {σ : St} {x : Str} {v : V} : (σ.set x v).loc x = some v := by simp [St.set]
theorem loc_other {σ : St} {x y : Str} {v w : V} (h : y ≠ x) (e : σ.loc y = some w) : (σ.set x v).loc y = some w := by simp [St.set, h, e]
theorem loc_put {σ : St} {y : Str} {a : Addr} {l : List V} {w : V} (e : σ.loc y = some w) : (σ.put a l).loc y = some w := e
theorem loc_join {σ : St} {y : Str} {hp : Addr → Option (List V)} {w : V} (e : σ.loc y = some w) : (σ.join hp).loc y = some w := e
theorem get_set {c : Cx} {σ : St} {x : Str} {v : V} : c.get (σ.set x v) = c.get σ := rfl
theorem hp_set {σ : St} {x : Str} {v : V} : (σ.set x v).hp = σ.hp := rfl
theorem innerLoc_of {c : Cx} {σ : St} {scope : Scope} {x : Str} {v : V} (h1 : ((relabel scope c.env).names.lookup x == some .cell && ((clOf c.env.cells scope.names []).lookup x).isSome) = true) (h2 : σ.loc x = some v) :
    innerLoc c σ scope x = some v := by
  unfold innerLoc; rw [if_pos h1]; exact h2
theorem inner_get {c : Cx} {σ : St} {scope : Scope} {C : Addr} {loc : Str → Option V} {hp : Addr → Option (List V)} (h : ∀ a l, hp a = some l → c.get σ a = Option.none) {a : Addr} {l : List V} (e : c.get σ a = some l) : (c.inner σ scope C).get ⟨loc, hp⟩ a = some l := by
  show (match hp a with | some l => some l | Option.none => c.get σ a) = some l
  cases hh : hp a with
  | none => exact e
  | some k => rw [h a k hh] at e; cases e

theorem repL_zero (n : Nat) : repL [V.int 0] n = (List.replicate n (0 : Int)).map V.int := by
  unfold repL
  induction n with
  | zero => rfl
  | succ n ih => rw [List.replicate_succ, List.flatten_cons, ih]; rfl
theorem repL_one (n : Nat) : repL [V.int 1] n = (List.replicate n (1 : Int)).map V.int := by
  unfold repL
  induction n with
  | zero => rfl
  | succ n ih => rw [List.replicate_succ, List.flatten_cons, ih]; rfl
theorem getI {ns : List Int} {k : Nat} {v : Int} (h : ns[k]? = some v) : (ns.map V.int)[((k : Nat) : Int).toNat]? = some (V.int v) := by
  simp [h]
theorem getIz {ns : List Int} {z : Int} {k : Nat} {v : Int} (e : z = (k : Int)) (h : ns[k]? = some v) : (ns.map V.int)[z.toNat]? = some (V.int v) := by
  subst e; exact getI h

theorem pick_upto {l : List V} {k : Int} (h0 : 0 ≤ k) : pick l Option.none (some k) Option.none = l.take k.toNat := by
  have e : sliceBounds Option.none (some k) Option.none l.length = (((0 : Nat) : Int), ((min k.toNat l.length : Nat) : Int), 1) := by
    simp only [sliceBounds, Option.getD_none]
    have h1 : ¬ (k < 0) := by omega
    simp only [h1, if_false, show (1 : Int) > 0 by decide, if_true]
    congr 1
    congr 1
    omega
  unfold pick
  rw [e]
  simp only [sliceRange_one]
  have := pick_run l.toArray 0 (min k.toNat l.length - 0)
  simp only [List.getElem?_toArray] at this
  rw [this]
  simp only [Nat.sub_zero, List.drop_zero]
  by_cases h : k.toNat ≤ l.length
  · rw [Nat.min_eq_left h]
  · rw [Nat.min_eq_right (by omega), List.take_of_length_le (Nat.le_refl _), List.take_of_length_le (by omega)]
theorem pick_from {l : List V} {k : Int} (h0 : 0 ≤ k) (h1 : k ≤ l.length) : pick l (some k) Option.none Option.none = l.drop k.toNat := by
  have e : sliceBounds (some k) Option.none Option.none l.length = (((k.toNat : Nat) : Int), ((l.length : Nat) : Int), 1) := by
    simp only [sliceBounds, Option.getD_none]
    have h1 : ¬ (k < 0) := by omega
    simp only [h1, if_false, show (1 : Int) > 0 by decide, if_true]
    congr 1
    omega
  unfold pick
  rw [e]
  simp only [sliceRange_one]
  have := pick_run l.toArray k.toNat (l.length - k.toNat)
  simp only [List.getElem?_toArray] at this
  rw [this]
  rw [List.take_of_length_le (by simp)]
/-- some numbers of a row of numbers -/
theorem pick_ints (ns : List Int) (lo hi st : Option Int) : ∃ ms : List Int, pick (ns.map V.int) lo hi st = ms.map V.int := by
  unfold pick
  generalize sliceRange _ _ _ = js
  refine ⟨js.filterMap (ns[·]?), ?_⟩
  induction js with
  | nil => rfl
  | cons j js ih =>
    rw [List.filterMap_cons, List.filterMap_cons, List.getElem?_map]
    cases h : ns[j]? with
    | none => exact ih
    | some n => simp only [Option.map_some, List.map_cons]; rw [ih]

theorem WP_none {c : Cx} {Q : Option Int → St → Prop} {σ : St} (h : Q Option.none σ) : WP c Option.none Q σ := h
theorem WP_some {c : Cx} {e : Expr} {Q : Option Int → St → Prop} {σ : St} (h : W c e (fun v σ₁ => ∃ i, v = .int i ∧ Q (some i) σ₁) σ) : WP c (some e) Q σ := h
theorem WL_nil {c : Cx} {Q : List V → St → Prop} {σ : St} (h : Q [] σ) : WL c [] Q σ := h
theorem WL_cons {c : Cx} {e : Expr} {r : List Expr} {Q : List V → St → Prop} {σ : St} (h : W c e (fun v σ₁ => WL c r (fun vs σ₂ => Q (v :: vs) σ₂) σ₁) σ) : WL c (e :: r) Q σ := h

theorem join_none {c : Cx} {σ : St} {hp : Addr → Option (List V)} {a : Addr} (h : c.get σ a = Option.none) (h' : hp a = Option.none) : c.get (σ.join hp) a = Option.none := by
  obtain ⟨h1, h2⟩ := hp_of_get_none h
  rw [get_ro (by rw [join_hp_none h1]; exact h')]; exact h2
theorem WIfs_nil {c : Cx} {Q : Bool → St → Prop} {σ : St} (h : Q true σ) : WIfs c [] Q σ := h
theorem WIfs_one {c : Cx} {t : Expr} {Q : Bool → St → Prop} {σ : St} (h : Wb c t Q σ) : WIfs c [t] Q σ := h

/-- all but M stands as it stood -/
def Kp (c : Cx) (M : List Addr) (σ σ' : St) : Prop := (∀ b l, b ∉ M → c.get σ b = some l → c.get σ' b = some l) ∧ ∀ b l, b ∉ M → σ.hp b = some l → σ'.hp b = some l
section
variable {c : Cx} {M M' : List Addr} {σ σ' σ'' : St}
theorem Kp.refl : Kp c M σ σ := ⟨fun _ _ _ e => e, fun _ _ _ e => e⟩
theorem Kp.set (h : Kp c M σ σ') {x : Str} {v : V} : Kp c M σ (σ'.set x v) := h
theorem Kp.alloc (h : Kp c M σ σ') {d : Addr} {l : List V} (hd : c.get σ' d = Option.none) : Kp c M σ (σ'.put d l) :=
  ⟨fun b k hb e => get_put_new hd (h.1 b k hb e), fun b k hb e => put_new_hp hd (h.2 b k hb e)⟩
theorem Kp.turn (h : Kp c M σ σ') {d : Addr} {l : List V} (hd : d ∈ M) : Kp c M σ (σ'.put d l) :=
  ⟨fun b k hb e => (get_put_other (by rintro rfl; exact hb hd)).trans (h.1 b k hb e), fun b k hb e => (put_other (by rintro rfl; exact hb hd)).trans (h.2 b k hb e)⟩
theorem Kp.join (h : Kp c M σ σ') {hp : Addr → Option (List V)} (hq : ∀ a k, hp a = some k → c.get σ' a = Option.none) : Kp c M σ (σ'.join hp) :=
  ⟨fun b k hb e => join_get hq (h.1 b k hb e), fun b k hb e => join_hp (h.2 b k hb e)⟩
theorem Kp.under (h : Kp c M σ σ') (h' : Kp c M' σ' σ'') (hm : ∀ e ∈ M', e ∈ M ∨ c.get σ e = Option.none) : Kp c M σ σ'' :=
  ⟨fun b k hb e => h'.1 b k (fun q => (hm b q).elim hb fun z => by rw [z] at e; cases e) (h.1 b k hb e),
   fun b k hb e => h'.2 b k (fun q => (hm b q).elim hb fun z => by rw [get_hp e] at z; cases z) (h.2 b k hb e)⟩
end

/-- a list of lists of ints -/
def LL (G : Addr → Option (List V)) (d : Addr) (ls : List (List Int)) : Prop := ∃ as : List Addr, G d = some (as.map .ref) ∧ as.length = ls.length ∧ ∀ (j : Nat) (a : Addr) (l : List Int), as[j]? = some a → ls[j]? = some l → G a = some (l.map .int)
theorem LL.mono {G G' : Addr → Option (List V)} {d : Addr} {ls : List (List Int)} (h : LL G d ls) (hg : ∀ a l, G a = some l → G' a = some l) : LL G' d ls := by
  obtain ⟨as, h1, h2, h3⟩ := h
  exact ⟨as, hg _ _ h1, h2, fun j a l e1 e2 => hg _ _ (h3 j a l e1 e2)⟩
theorem LL.pair {G : Addr → Option (List V)} {d a b : Addr} {l k : List Int} (hd : G d = some [.ref a, .ref b]) (ha : G a = some (l.map .int)) (hb : G b = some (k.map .int)) : LL G d [l, k] := by
  refine ⟨[a, b], hd, rfl, fun j x y h1 h2 => ?_⟩
  rcases j with _ | _ | j
  · simp at h1 h2; subst h1; subst h2; exact ha
  · simp at h1 h2; subst h1; subst h2; exact hb
  · simp at h1
theorem Kp.back {c : Cx} {σ σ' : St} (h : Kp c [] σ σ') {a : Addr} (e : c.get σ' a = Option.none) : c.get σ a = Option.none := by
  cases q : c.get σ a with
  | none => rfl
  | some l => rw [h.1 a l (by simp) q] at e; cases e
theorem LL.kp {c : Cx} {M : List Addr} {σ σ' : St} {d : Addr} {ls : List (List Int)} (h : LL (c.get σ) d ls) (k : Kp c M σ σ') (hm : ∀ e ∈ M, c.get σ e = Option.none) : LL (c.get σ') d ls :=
  h.mono fun a l e => k.1 a l (fun q => by rw [hm a q] at e; cases e) e
theorem LL.row {G : Addr → Option (List V)} {d : Addr} {ls : List (List Int)} (h : LL G d ls) {j : Nat} {l : List Int} (hj : ls[j]? = some l) : ∃ (vs : List V) (a : Addr), G d = some vs ∧ vs.length = ls.length ∧ vs[j]? = some (.ref a) ∧ G a = some (l.map .int) := by
  obtain ⟨as, h1, h2, h3⟩ := h
  have hlt : j < as.length := by rw [h2]; exact (List.getElem?_eq_some_iff.mp hj).1
  exact ⟨_, as[j], h1, by simp [h2], by simp [hlt], h3 j _ l (by simp [hlt]) hj⟩
theorem LL.has {G : Addr → Option (List V)} {d : Addr} {ls : List (List Int)} (h : LL G d ls) : Has G (.ref d) (.list (ls.map fun l => .list (l.map .int))) := by
  obtain ⟨as, h1, h2, h3⟩ := h
  refine .list h1 ?_
  clear h1
  induction as generalizing ls with
  | nil =>
    have : ls = [] := by cases ls with | nil => rfl | cons _ _ => simp at h2
    subst this; exact .nil
  | cons a as ih =>
    cases ls with
    | nil => simp at h2
    | cons l ls => exact .cons (Has.ints (h3 0 a l rfl rfl)) (ih (by simpa using h2) fun j a' l' e1 e2 => h3 (j + 1) a' l' (by simpa using e1) (by simpa using e2))
end Mine

namespace Mine
open PySem PyProof.Rows

section
variable {c : Cx} {σ : St} {mg : Str → Option Value} {Q : V → St → Prop}
theorem W_listRange2 (hc : c.Ok) (T : TopOk c.ht mg) {e e' : Expr} {p p' pos pos' : Pos}
    (h : W c e (fun u σ₀ => W c e' (fun v σ₁ => ∃ a n : Int, u = .int a ∧ v = .int n ∧ -(2 ^ 62) ≤ a ∧ a < 2 ^ 62 ∧ -(2 ^ 62) ≤ n ∧ n < 2 ^ 62 ∧ (n - a).toNat ≤ 2 ^ 20 ∧
      ∀ d, c.get σ₁ d = Option.none → Q (.ref d) (σ₁.put d (((List.range (n - a).toNat).map fun (i : Nat) => a + (i : Int)).map .int))) σ₀) σ)
    (hk : c.env.kindOf "range" = some .globalImplicit) (hk' : c.env.kindOf "list" = some .globalImplicit) (hs : noStar [e, e'] = true := by rfl) : W c (.Call (.Name "list" p) [.Call (.Name "range" p') [e, e'] [] pos'] [] pos) Q σ := fun b₀ s₀ s R => by
  refine Call_Name rfl (evalBi hc T R (x := "list") (v := .type "list") (by simp [biTable]) hk' ?_ (by decide))
  refine PyProof.Rows.callWith_type1 (args_cons ?_ rfl) rfl rfl
  refine Call_Name rfl (evalBi hc T R (x := "range") (v := .type "range") (by simp [biTable]) hk ?_ (by decide))
  refine PyProof.Rows.callWith_type1 (wpAny_mono (WL.run (es := [e, e']) (Q := fun l σ₁ => ∃ u v, l = [u, v] ∧ ∃ a n : Int, u = .int a ∧ v = .int n ∧ -(2 ^ 62) ≤ a ∧ a < 2 ^ 62 ∧ -(2 ^ 62) ≤ n ∧ n < 2 ^ 62 ∧ (n - a).toNat ≤ 2 ^ 20 ∧
      ∀ d, c.get σ₁ d = Option.none → Q (.ref d) (σ₁.put d (((List.range (n - a).toNat).map fun (i : Nat) => a + (i : Int)).map .int))) hs
    (Wp.mono h fun u σ₁ h₁ => Wp.mono h₁ fun v σ₂ h₂ => ⟨u, v, rfl, h₂⟩) R)
    (fun vs s₁ ⟨_, σ₁, k, R₁, u, v, e, a, n, eu, ev, a0, a1, h0, h1, hz, hq⟩ => ?_) fun _ _ x => x.elim) (starEach_of hs) (backTo_any (noStar_tail hs))
  subst e; subst ev; subst eu
  obtain ⟨x, y, rfl, hx, hy⟩ := ers2 k
  obtain ⟨t, rfl⟩ := er_int hx
  obtain ⟨t', rfl⟩ := er_int hy
  refine call_range_2 (args_nil ?_)
  have R₂ : Rel c b₀ s₀ σ₁ { s₁ with heap := s₁.heap.push { cls := .type "range", data := .fields #[.int a t, .int n t', .int 1 s₁.toks] }, toks := s₁.toks + 1 } := R₁.grow fun b o e => Heap.get?_push_of_some _ e
  refine call_list_range (a := a) (b := n) (c := 1) (n := (n - a).toNat) hc.hand (Heap.get?_push_size _ rfl) (small_one a0 a1 h0 h1) (by rw [rangeSize_one]; split <;> omega) (Nat.le_trans hz (by decide)) ?_
  intro h' tk acc c' hkp hD hit
  refine ⟨.ref _, _, rfl, R₂.alloc (tk := tk) (l := ((List.range (n - a).toNat).map fun (i : Nat) => a + (i : Int)).map .int) ?_ (Nat.le_refl _) hkp hD, hq _ (R₂.freshG (Nat.le_refl _))⟩
  obtain ⟨hz', hit⟩ := hit
  show acc.toList.map er = _
  apply List.ext_getElem?
  intro j
  rw [List.getElem?_map]
  by_cases hj : j < acc.size
  · have e1 : acc.toList[j]? = some acc[j] := by simp [hj]
    obtain ⟨t, ht⟩ := hit j acc[j] (by simp [hj])
    rw [e1]
    simp only [List.map_map, List.getElem?_map, Option.map_some, ht, er]
    rw [List.getElem?_range (by omega)]
    simp
  · rw [List.getElem?_eq_none (by simp; omega), List.getElem?_eq_none (by simp; omega)]; rfl
end

theorem getD_some {m : List Int} {k : Nat} (h : k < m.length) : m[k]? = some (m.getD k 0) := by
  rw [List.getD_eq_getElem?_getD, List.getElem?_eq_getElem h]; rfl

/-- equal data of lists of ints, of lists of such -/
theorem eqv_ints (l : List Int) : PyData.eqv (.list (l.map .int)) (.list (l.map .int)) = true := by
  rw [PyData.eqv, PySem.W.ked_eqvAll]; simp
theorem eqv_LL (ls : List (List Int)) : PyData.eqv (.list (ls.map fun l => .list (l.map .int))) (.list (ls.map fun l => .list (l.map .int))) = true := by
  rw [PyData.eqv]
  induction ls with
  | nil => rfl
  | cons l ls ih => rw [List.map_cons, PyData.eqvAll, ih, eqv_ints]; rfl
theorem canLay_LL (ls : List (List Int)) : PyData.canLayAll0 (ls.map fun l => PyData.list (l.map .int)) = true ∧ PyData.depthAll (ls.map fun l => PyData.list (l.map .int)) ≤ 1 := by
  induction ls with
  | nil => exact ⟨rfl, by simp [PyData.depthAll]⟩
  | cons l ls ih => simp [PyData.canLayAll0, PyData.canLay0, PyData.depthAll, PyData.depth, PySem.W.ke_canLayAll0, PySem.W.ke_depthAll, ih]
theorem shaped_LL (ls : List (List Int)) : SeqAt.shaped (.list (ls.map fun l => .list (l.map .int))) = true := by
  obtain ⟨h1, h2⟩ := canLay_LL ls
  simp only [SeqAt.shaped, PyData.canLay0, PyData.depth, h1, Bool.true_and]
  exact decide_eq_true (by omega)
end Mine

namespace Mine
open PySem PyProof.Rows

-- a name's value is found
local macro_rules | `(tactic| walk_at "m_loc") => `(tactic| first | with_reducible exact loc_same | with_reducible assumption | (with_reducible apply loc_put; walk_at "m_loc") | (with_reducible apply loc_join; walk_at "m_loc") | (apply loc_other (by decide); walk_at "m_loc") | (apply innerLoc_of (by subst_vars; rfl); walk_at "m_loc"))
local macro_rules | `(tactic| walk_at "m_ok") => `(tactic| first | with_reducible assumption | exact Cx.Ok.inner (by assumption) rfl)
local macro_rules | `(tactic| walk_at "m_kind") => `(tactic| first | with_reducible assumption | (subst_vars; rfl))
local macro_rules | `(tactic| walk_at "m_shape") => `(tactic| exact ⟨rfl, by subst_vars; rfl, rfl, rfl, rfl⟩)
local macro_rules | `(tactic| walk_at "m_tgt") => `(tactic| first | with_reducible assumption | exact .inl (by assumption) | exact .inr (by assumption))
-- one step
local macro_rules | `(tactic| walk_at "m") => `(tactic| first
  | with_reducible refine WL_cons ?_
  | with_reducible refine WL_nil ?_
  | with_reducible refine WIfs_nil ?_
  | with_reducible refine WIfs_one ?_
  | with_reducible refine WP_none ?_
  | with_reducible refine WP_some ?_
  | with_reducible refine Wss_cons ?_
  | ((with_reducible show W _ (Expr.Name _ _) _ _); refine W_name (by walk_at "m_ok") (by walk_at "m_loc") ?_)
  | with_reducible refine W_int ?_
  | with_reducible refine W_bool ?_
  | with_reducible refine W_BinOp ?_
  | with_reducible refine Op_add ?_
  | with_reducible refine Op_sub ?_
  | with_reducible refine Cm_eq ?_
  | with_reducible refine Cm_ne ?_
  | with_reducible refine Cm_lt ?_
  | with_reducible refine Cm_ge ?_
  | with_reducible refine Cm_le ?_
  | ((with_reducible show Ws _ (Stmt.Assign [Expr.Name _ _] _ _) _ _); refine Ws_assign (by walk_at "m_ok") (by walk_at "m_tgt") ?_)
  | ((with_reducible show Ws _ (Stmt.Assign [Expr.Subscript _ _ _] _ _) _ _); refine Ws_assignAt ?_)
  | with_reducible refine Ws_return ?_
  | with_reducible refine Ws_break ?_
  | with_reducible refine Ws_if ?_
  | ((with_reducible show Ws _ (Stmt.Expr _ _) _ _); refine Ws_append (by walk_at "m_ok") ?_)
  | ((with_reducible show Wb _ (Expr.Compare _ _ _ _) _ _); refine Wb_Compare ?_)
  | ((with_reducible show Wb _ (Expr.BoolOp BoolOp.Or _ _) _ _); refine Wb_or ?_)
  | ((with_reducible show Wb _ (Expr.BoolOp BoolOp.And _ _) _ _); refine Wb_and ?_)
  | ((with_reducible show W _ (Expr.IfExp _ _ _ _) _ _); refine W_IfExp ?_)
  | ((with_reducible show W _ (Expr.List _ _) _ _); refine W_List rfl (by decide) ?_)
  | ((with_reducible show W _ (Expr.Call (Expr.Name (Str.ofString "len") _) _ _ _) _ _); refine W_callB (x := "len") (id := "len") (by walk_at "m_ok") (by assumption) ?_ (by simp [biTable]) (by walk_at "m_kind") rfl)
  | ((with_reducible show W _ (Expr.Call (Expr.Name (Str.ofString "max") _) _ _ _) _ _); refine W_callB (x := "max") (id := "max") (by walk_at "m_ok") (by assumption) ?_ (by simp [biTable]) (by walk_at "m_kind") rfl)
  | ((with_reducible show W _ (Expr.Call (Expr.Name (Str.ofString "min") _) _ _ _) _ _); refine W_callB (x := "min") (id := "min") (by walk_at "m_ok") (by assumption) ?_ (by simp [biTable]) (by walk_at "m_kind") rfl)
  | ((with_reducible show W _ (Expr.Call (Expr.Name (Str.ofString "sum") _) _ _ _) _ _); refine W_callB (x := "sum") (id := "sum") (by walk_at "m_ok") (by assumption) ?_ (by simp [biTable]) (by walk_at "m_kind") rfl)
  | ((with_reducible show W _ (Expr.Subscript _ (Expr.Slice _ _ none _) _) _ _); refine W_slice ?_ (fun o i => [i, o]))
  | ((with_reducible show W _ (Expr.Subscript _ (Expr.Slice _ _ _ _) _) _ _); refine W_slice ?_ (fun o i => [o, i]))
  | ((with_reducible show W _ (Expr.Subscript _ _ _) _ _); refine W_item ?_)
  | ((with_reducible show Wss _ [] _ _); refine Wss_nil ?_))
local macro_rules | `(tactic| walk_at "ms") => `(tactic| (walk_at "m"; repeat walk_at "m"))

set_option maxHeartbeats 8000000 in
theorem ovl_run {c₀ : Cx} {mg : Str → Option Value} (hA : Lv 1 c₀.A) (T : TopOk c₀.ht mg) {σ₁ : St} {pm cd doc : Value} {L f : Addr} {a : Addr} {ps : List Int} (ha : c₀.get σ₁ a = some (ps.map .int)) (hz : ps.length ≤ 1000) :
    Wss (callee c₀ σ₁ (fdOf PySem.Challenge.pw_oc0404_01 1 pm cd doc) L f) (bodyOf PySem.Challenge.pw_oc0404_01 1) (fun fl σ' => ∃ v, fl = .ret v ∧ ∃ d, v = .ref d ∧ σ'.hp d = some ((tableOf ps).map .int)) ⟨argLoc ["prefix"] [.ref a], fun _ => Option.none⟩ := by
  obtain ⟨c, hcd⟩ : ∃ c, c = callee c₀ σ₁ (fdOf PySem.Challenge.pw_oc0404_01 1 pm cd doc) L f := ⟨_, rfl⟩
  rw [← hcd]
  have hc : c.Ok := by rw [hcd]; exact callee_ok hA rfl rfl rfl
  have T' : TopOk c.ht mg := by rw [hcd]; exact T
  have t1 : Tgt c "i" := by rw [hcd]; exact .inl rfl
  have t2 : Tgt c "table" := by rw [hcd]; exact .inl rfl
  have t3 : Tgt c "idx" := by rw [hcd]; exact .inl rfl
  have k4 : c.env.kindOf "len" = some .globalImplicit := by rw [hcd]; rfl
  have k5 : c.env.kindOf "range" = some .globalImplicit := by rw [hcd]; rfl
  dsimp only [bodyOf, PySem.Challenge.pw_oc0404_01, List.getElem?_cons_succ, List.getElem?_cons_zero]
  have hpre : (⟨argLoc ["prefix"] [.ref a], fun _ => Option.none⟩ : St).loc "prefix" = some (.ref a) := rfl
  have hga : c.get ⟨argLoc ["prefix"] [.ref a], fun _ => Option.none⟩ a = some (ps.map .int) := by rw [get_ro rfl, hcd]; exact ha
  generalize (⟨argLoc ["prefix"] [.ref a], fun _ => Option.none⟩ : St) = σ at *
  have hsl : sizeLine = 2 ^ 24 := rfl
  -- table = [0] * len(prefix)
  walk_at "ms"
  intro _ d₀ hd₀
  walk_at "ms"
  refine Cb_len (get_put_new hd₀ hga) (by simp; omega) ?_
  refine Op_mulL put_same (by simp; omega) (by omega) (by simp; omega) ?_
  intro d hd
  have hga' := get_put_new (l := repL [V.int 0] ((ps.map V.int).length : Int).toNat) hd (get_put_new (l := [V.int 0]) hd₀ hga)
  have hda : a ≠ d := by rintro rfl; rw [get_put_new hd₀ hga] at hd; cases hd
  have htab : ((σ.put d₀ [V.int 0]).put d (repL [V.int 0] ((ps.map V.int).length : Int).toNat)).hp d = some ((List.replicate ps.length (0 : Int)).map .int) := by
    rw [put_same, repL_zero]; simp
  have hpre' := loc_put (a := d) (l := repL [V.int 0] ((ps.map V.int).length : Int).toNat) (loc_put (a := d₀) (l := [V.int 0]) hpre)
  generalize (σ.put d₀ [V.int 0]).put d (repL [V.int 0] ((ps.map V.int).length : Int).toNat) = σ₂ at *
  -- for i in range(1, len(prefix))
  let p : Nat → Int := fun j => ps.getD j 0
  walk_at "m"
  refine Ws_for hc t1 (WIt_range2 hc T' ?_ k5)
  walk_at "ms"
  refine Cb_len (by exact hga') (by simp; omega) ?_
  refine ⟨1, _, rfl, rfl, by omega, by omega, by omega, by simp; omega, ?_⟩
  refine ⟨fun i σ' => i ≤ ps.length - 1 ∧ σ'.loc "prefix" = some (.ref a) ∧ σ'.loc "table" = some (.ref d) ∧ c.get σ' a = some (ps.map .int) ∧
    ∃ tbl : List Int, σ'.hp d = some (tbl.map .int) ∧ tbl.length = ps.length ∧ ∀ j, j < i + 1 → j < ps.length → tbl[j]? = some ((bord p (j + 1) : Nat) : Int), ps.length, ⟨by omega, by walk_at "m_loc", by walk_at "m_loc", hga', _, htab, by simp, ?_⟩, ?_⟩
  · intro j hj hj'
    have : j = 0 := by omega
    subst this
    rw [bord_one, List.getElem?_replicate, if_pos hj']; rfl
  rintro i σ' ⟨hi, l1, l2, gp, tbl, ht, hlen, hval⟩
  refine ⟨by omega, trivial, ?_, ?_⟩
  · intro v hv
    simp only [Src.item] at hv
    split at hv
    · rename_i hlt
      cases hv
      have hlt' : i + 1 < ps.length := by simp at hlt; omega
      -- idx = table[i - 1]
      walk_at "ms"
      refine ⟨d, _, _, _, rfl, rfl, get_hp ht, by omega, by omega, getIz (k := i) (by omega) (hval i (by omega) (by omega)), ?_⟩
      walk_at "m"
      have hpi : ∀ j, j < ps.length → ps[j]? = some (p j) := fun j hj => by
        show ps[j]? = some (ps.getD j 0)
        rw [List.getD_eq_getElem?_getD, List.getElem?_eq_getElem hj]; rfl
      refine Ws_while (fun k σ'' => σ''.loc "prefix" = some (.ref a) ∧ σ''.loc "table" = some (.ref d) ∧ σ''.loc "i" = some (.int (1 + (i : Int))) ∧ c.get σ'' a = some (ps.map .int) ∧ σ''.hp d = some (tbl.map .int) ∧
        σ''.loc "idx" = some (.int ((k : Nat) : Int)) ∧ Cand p (i + 1) k) (bord p (i + 1)) ⟨by walk_at "m_loc", by walk_at "m_loc", by walk_at "m_loc", gp, ht, by walk_at "m_loc", Cand.start p (by omega)⟩ ?_
      rintro k σ'' ⟨m1, m2, m3, gp', mt, m4, hcand⟩
      have hki : k < i + 1 := hcand.1.1
      walk_at "ms"
      refine ⟨a, _, _, _, rfl, rfl, gp', by omega, by omega, getIz (k := i + 1) (by omega) (hpi (i + 1) hlt'), ?_⟩
      walk_at "ms"
      refine ⟨a, _, _, _, rfl, rfl, gp', by omega, by omega, getI (hpi k (by omega)), ?_⟩
      walk_at "ms"
      constructor
      · intro hne
        have hne' : p (i + 1) ≠ p k := by simpa using hne
        walk_at "ms"
        constructor
        · intro h0
          have hk0 : k = 0 := by have := of_decide_eq_true h0; omega
          subst hk0
          walk_at "ms"
          refine ⟨d, _, _, rfl, rfl, mt, by omega, by simp; omega, by simp; omega, ?_⟩
          walk_at "ms"
          refine ⟨by omega, by walk_at "m_loc", by walk_at "m_loc", by rw [get_put_other hda]; exact gp', tbl.set (i + 1) 0, ?_, by simp; exact hlen, ?_⟩
          · rw [put_same, List.map_set]
            have e : (1 + (i : Int)).toNat = i + 1 := by omega
            rw [e]
          · intro j hj hj'
            by_cases hji : j = i + 1
            · subst hji
              rw [hcand.none hne', List.getElem?_set_self (by omega)]; rfl
            · rw [List.getElem?_set_ne (by omega)]; exact hval j (by omega) hj'
        · intro h0
          have hk0 : 0 < k := by
            have := of_decide_eq_false h0
            omega
          walk_at "ms"
          have eb : bord p (k - 1 + 1) = bord p k := by congr 1; omega
          refine ⟨d, _, _, _, rfl, rfl, get_hp mt, by omega, by omega, getIz (k := k - 1) (by omega) (hval (k - 1) (by omega) (by omega)), ?_⟩
          walk_at "ms"
          rw [eb]
          exact ⟨bord p k, bord_lt p hk0, by walk_at "m_loc", by walk_at "m_loc", by walk_at "m_loc", gp', mt, by walk_at "m_loc", hcand.next hk0 hne'⟩
      · intro heq
        have heq' : p (i + 1) = p k := by simpa using heq
        walk_at "ms"
        refine ⟨d, _, _, rfl, rfl, mt, by omega, by simp; omega, by simp; omega, ?_⟩
        walk_at "ms"
        refine ⟨by omega, by walk_at "m_loc", by walk_at "m_loc", by rw [get_put_other hda]; exact gp', tbl.set (i + 1) ((k : Int) + 1), ?_, by simp; exact hlen, ?_⟩
        · rw [put_same, List.map_set]
          have e : (1 + (i : Int)).toNat = i + 1 := by omega
          rw [e]
        · intro j hj hj'
          by_cases hji : j = i + 1
          · subst hji
            rw [hcand.hit heq', List.getElem?_set_self (by omega)]; simp
          · rw [List.getElem?_set_ne (by omega)]; exact hval j (by omega) hj'
    · cases hv
  · intro hv
    simp only [Src.item] at hv
    split at hv
    · cases hv
    · rename_i hge
      walk_at "ms"
      refine ⟨_, rfl, d, rfl, ?_⟩
      rw [ht]
      have : tbl = tableOf ps := by
        apply List.ext_getElem?
        intro j
        by_cases hj : j < ps.length
        · rw [tableOf_get hj]; exact hval j (by simp at hge; omega) hj
        · rw [List.getElem?_eq_none (by omega), List.getElem?_eq_none (by rw [tableOf_length]; omega)]
      rw [this]
end Mine

namespace Mine
open PySem PyProof.Rows

/-- a text that is the row's first ones and a sign behind: how much of the row it ends with -/
def StP (rs : List Int) (n : Nat) (s : Int) (k : Nat) : Prop := k ≤ n + 1 ∧ (rs.take n ++ [s]).drop (n + 1 - k) = rs.take k
theorem stP_max (rs : List Int) {n : Nat} (s : Int) (h : n < rs.length) : ∃ k, StP rs n s k ∧ ∀ k', StP rs n s k' → k' ≤ k :=
  exists_max (n + 1) ⟨0, Nat.zero_le _, by rw [List.drop_of_length_le (by simp; omega)]; rfl⟩ fun k hk => hk.1
noncomputable def stepF (rs : List Int) (n : Nat) (s : Int) : Nat := open Classical in if h : ∃ k, StP rs n s k ∧ ∀ k', StP rs n s k' → k' ≤ k then h.choose else 0
theorem stepF_spec (rs : List Int) {n : Nat} (s : Int) (h : n < rs.length) : StP rs n s (stepF rs n s) ∧ ∀ k', StP rs n s k' → k' ≤ stepF rs n s := by
  unfold stepF; rw [dif_pos (stP_max rs s h)]; exact (stP_max rs s h).choose_spec
theorem stepF_eq {rs : List Int} {n : Nat} {s : Int} (h : n < rs.length) {k : Nat} (hk : StP rs n s k) (hm : ∀ k', StP rs n s k' → k' ≤ k) : stepF rs n s = k :=
  Nat.le_antisymm (hm _ (stepF_spec rs s h).1) ((stepF_spec rs s h).2 k hk)
noncomputable def stepsOf (rs ss : List Int) : List (List Int) := (List.range rs.length).map fun n => ss.map fun s => ((stepF rs n s : Nat) : Int)

-- a name's value is found
local macro_rules | `(tactic| walk_at "m_loc") => `(tactic| first | with_reducible exact loc_same | with_reducible assumption | (with_reducible apply loc_put; walk_at "m_loc") | (with_reducible apply loc_join; walk_at "m_loc") | (apply loc_other (by decide); walk_at "m_loc") | (apply innerLoc_of (by subst_vars; rfl); walk_at "m_loc"))
local macro_rules | `(tactic| walk_at "m_ok") => `(tactic| first | with_reducible assumption | exact Cx.Ok.inner (by assumption) rfl)
local macro_rules | `(tactic| walk_at "m_kind") => `(tactic| first | with_reducible assumption | (subst_vars; rfl))
local macro_rules | `(tactic| walk_at "m_shape") => `(tactic| exact ⟨rfl, by subst_vars; rfl, rfl, rfl, rfl⟩)
local macro_rules | `(tactic| walk_at "m_tgt") => `(tactic| first | with_reducible assumption | exact .inl (by assumption) | exact .inr (by assumption))
-- one step
local macro_rules | `(tactic| walk_at "m") => `(tactic| first
  | with_reducible refine WL_cons ?_
  | with_reducible refine WL_nil ?_
  | with_reducible refine WIfs_nil ?_
  | with_reducible refine WIfs_one ?_
  | with_reducible refine WP_none ?_
  | with_reducible refine WP_some ?_
  | with_reducible refine Wss_cons ?_
  | ((with_reducible show W _ (Expr.Name _ _) _ _); refine W_name (by walk_at "m_ok") (by walk_at "m_loc") ?_)
  | with_reducible refine W_int ?_
  | with_reducible refine W_bool ?_
  | with_reducible refine W_BinOp ?_
  | with_reducible refine Op_add ?_
  | with_reducible refine Op_sub ?_
  | with_reducible refine Cm_eq ?_
  | with_reducible refine Cm_ne ?_
  | with_reducible refine Cm_lt ?_
  | with_reducible refine Cm_ge ?_
  | with_reducible refine Cm_le ?_
  | ((with_reducible show Ws _ (Stmt.Assign [Expr.Name _ _] _ _) _ _); refine Ws_assign (by walk_at "m_ok") (by walk_at "m_tgt") ?_)
  | ((with_reducible show Ws _ (Stmt.Assign [Expr.Subscript _ _ _] _ _) _ _); refine Ws_assignAt ?_)
  | with_reducible refine Ws_return ?_
  | with_reducible refine Ws_break ?_
  | with_reducible refine Ws_if ?_
  | ((with_reducible show Ws _ (Stmt.Expr _ _) _ _); refine Ws_append (by walk_at "m_ok") ?_)
  | ((with_reducible show Wb _ (Expr.Compare _ _ _ _) _ _); refine Wb_Compare ?_)
  | ((with_reducible show Wb _ (Expr.BoolOp BoolOp.Or _ _) _ _); refine Wb_or ?_)
  | ((with_reducible show Wb _ (Expr.BoolOp BoolOp.And _ _) _ _); refine Wb_and ?_)
  | ((with_reducible show W _ (Expr.IfExp _ _ _ _) _ _); refine W_IfExp ?_)
  | ((with_reducible show W _ (Expr.List _ _) _ _); refine W_List rfl (by decide) ?_)
  | ((with_reducible show W _ (Expr.Call (Expr.Name (Str.ofString "len") _) _ _ _) _ _); refine W_callB (x := "len") (id := "len") (by walk_at "m_ok") (by assumption) ?_ (by simp [biTable]) (by walk_at "m_kind") rfl)
  | ((with_reducible show W _ (Expr.Call (Expr.Name (Str.ofString "max") _) _ _ _) _ _); refine W_callB (x := "max") (id := "max") (by walk_at "m_ok") (by assumption) ?_ (by simp [biTable]) (by walk_at "m_kind") rfl)
  | ((with_reducible show W _ (Expr.Call (Expr.Name (Str.ofString "min") _) _ _ _) _ _); refine W_callB (x := "min") (id := "min") (by walk_at "m_ok") (by assumption) ?_ (by simp [biTable]) (by walk_at "m_kind") rfl)
  | ((with_reducible show W _ (Expr.Call (Expr.Name (Str.ofString "sum") _) _ _ _) _ _); refine W_callB (x := "sum") (id := "sum") (by walk_at "m_ok") (by assumption) ?_ (by simp [biTable]) (by walk_at "m_kind") rfl)
  | ((with_reducible show W _ (Expr.Subscript _ (Expr.Slice _ _ none _) _) _ _); refine W_slice ?_ (fun o i => [i, o]))
  | ((with_reducible show W _ (Expr.Subscript _ (Expr.Slice _ _ _ _) _) _ _); refine W_slice ?_ (fun o i => [o, i]))
  | ((with_reducible show W _ (Expr.Subscript _ _ _) _ _); refine W_item ?_)
  | ((with_reducible show Wss _ [] _ _); refine Wss_nil ?_))
local macro_rules | `(tactic| walk_at "ms") => `(tactic| (walk_at "m"; repeat walk_at "m"))

set_option maxHeartbeats 8000000 in
theorem steps_run {c₀ : Cx} {mg : Str → Option Value} (hA : Lv 1 c₀.A) (T : TopOk c₀.ht mg) {σ₁ : St} {pm cd doc : Value} {L f : Addr} {ra sa : Addr} {rs ss : List Int} (hra : c₀.get σ₁ ra = some (rs.map .int)) (hsa : c₀.get σ₁ sa = some (ss.map .int)) (hz : rs.length ≤ 1000) (hz' : ss.length ≤ 1000) :
    Wss (callee c₀ σ₁ (fdOf PySem.Challenge.pw_oc0404_01 3 pm cd doc) L f) (bodyOf PySem.Challenge.pw_oc0404_01 3) (fun fl σ' => ∃ v, fl = .ret v ∧ ∃ d, v = .ref d ∧ LL σ'.hp d (stepsOf rs ss)) ⟨argLoc ["row", "signs"] [.ref ra, .ref sa], fun _ => Option.none⟩ := by
  obtain ⟨c, hcd⟩ : ∃ c, c = callee c₀ σ₁ (fdOf PySem.Challenge.pw_oc0404_01 3 pm cd doc) L f := ⟨_, rfl⟩
  rw [← hcd]
  have hc : c.Ok := by rw [hcd]; exact callee_ok hA rfl rfl rfl
  have T' : TopOk c.ht mg := by rw [hcd]; exact T
  have t1 : Tgt c "steps" := by rw [hcd]; exact .inl rfl
  have t2 : Tgt c "size" := by rw [hcd]; exact .inr ⟨rfl, rfl, rfl⟩
  have t3 : Tgt c "line" := by rw [hcd]; exact .inl rfl
  have t4 : Tgt c "sign" := by rw [hcd]; exact .inl rfl
  have t5 : Tgt c "text" := by rw [hcd]; exact .inr ⟨rfl, rfl, rfl⟩
  have k4 : c.env.kindOf "len" = some .globalImplicit := by rw [hcd]; rfl
  have k5 : c.env.kindOf "range" = some .globalImplicit := by rw [hcd]; rfl
  have k6 : c.env.kindOf "max" = some .globalImplicit := by rw [hcd]; rfl
  dsimp only [bodyOf, PySem.Challenge.pw_oc0404_01, List.getElem?_cons_succ, List.getElem?_cons_zero]
  have l1 : (⟨argLoc ["row", "signs"] [.ref ra, .ref sa], fun _ => Option.none⟩ : St).loc "row" = some (.ref ra) := rfl
  have l2 : (⟨argLoc ["row", "signs"] [.ref ra, .ref sa], fun _ => Option.none⟩ : St).loc "signs" = some (.ref sa) := rfl
  have g1 : c.get ⟨argLoc ["row", "signs"] [.ref ra, .ref sa], fun _ => Option.none⟩ ra = some (rs.map .int) := by rw [get_ro rfl, hcd]; exact hra
  have g2 : c.get ⟨argLoc ["row", "signs"] [.ref ra, .ref sa], fun _ => Option.none⟩ sa = some (ss.map .int) := by rw [get_ro rfl, hcd]; exact hsa
  generalize (⟨argLoc ["row", "signs"] [.ref ra, .ref sa], fun _ => Option.none⟩ : St) = σ at *
  have hsl : sizeLine = 2 ^ 24 := rfl
  -- steps = []
  walk_at "ms"
  intro _ d hd
  have hdr : ra ≠ d := by rintro rfl; rw [g1] at hd; cases hd
  have hds : sa ≠ d := by rintro rfl; rw [g2] at hd; cases hd
  -- for size in range(len(row))
  walk_at "m"
  refine Ws_for hc t2 (WIt_range1 hc T' ?_ k5)
  walk_at "ms"
  refine Cb_len (get_put_new hd g1) (by simp; omega) ?_
  refine ⟨_, rfl, by omega, by simp; omega, ?_⟩
  refine ⟨fun i σ' => i ≤ rs.length ∧ σ'.loc "row" = some (.ref ra) ∧ σ'.loc "signs" = some (.ref sa) ∧ σ'.loc "steps" = some (.ref d) ∧ c.get σ' ra = some (rs.map .int) ∧ c.get σ' sa = some (ss.map .int) ∧
    ∃ as : List Addr, σ'.hp d = some (as.map .ref) ∧ as.length = i ∧ ∀ (j : Nat) (a : Addr), as[j]? = some a → a ≠ d ∧ σ'.hp a = some ((ss.map fun s => ((stepF rs j s : Nat) : Int)).map .int), rs.length,
    ⟨by omega, by walk_at "m_loc", by walk_at "m_loc", by walk_at "m_loc", get_put_new hd g1, get_put_new hd g2, [], put_same, rfl, fun j a h => by simp at h⟩, ?_⟩
  rintro i σ' ⟨hi, m1, m2, m3, n1, n2, as, has, hlen, hval⟩
  refine ⟨hi, trivial, ?_, ?_⟩
  · intro v hv
    simp only [Src.item] at hv
    split at hv
    · rename_i hlt
      cases hv
      have hlt' : i < rs.length := by simpa using hlt
      have ei : (0 + (i : Int)) = (i : Int) := by omega
      rw [ei]
      -- line = []
      walk_at "ms"
      intro _ e he
      have hed : e ≠ d := by rintro rfl; rw [get_set, get_hp has] at he; cases he
      have her : ra ≠ e := by rintro rfl; rw [get_set, n1] at he; cases he
      have hes : sa ≠ e := by rintro rfl; rw [get_set, n2] at he; cases he
      -- for sign in signs
      walk_at "m"
      refine Ws_for hc t4 (WIt_list ?_)
      walk_at "ms"
      refine ⟨sa, _, rfl, get_put_new he n2, ?_⟩
      refine ⟨fun j σ'' => j ≤ ss.length ∧ σ''.loc "row" = some (.ref ra) ∧ σ''.loc "signs" = some (.ref sa) ∧ σ''.loc "steps" = some (.ref d) ∧ σ''.loc "size" = some (.int (i : Int)) ∧ σ''.loc "line" = some (.ref e) ∧ Kp c [e] σ' σ'' ∧
        σ''.hp e = some ((((ss.take j).map fun s => ((stepF rs i s : Nat) : Int))).map .int), ss.length,
        ⟨by omega, by walk_at "m_loc", by walk_at "m_loc", by walk_at "m_loc", by walk_at "m_loc", by walk_at "m_loc", (Kp.refl.set.alloc he).set, by rw [hp_set, put_same]; simp⟩, ?_⟩
      rintro j σ'' ⟨hj, q1, q2, q3, q4, q5, hK, hline⟩
      have r1 := hK.1 ra _ (by simpa using her) n1
      have r2 := hK.1 sa _ (by simpa using hes) n2
      refine ⟨hj, by simp only [Src.ok]; rw [r2]; rfl, ?_, ?_⟩
      · intro v hv
        simp only [Src.item] at hv
        rw [r2] at hv
        obtain ⟨s, hs, rfl⟩ : ∃ s, ss[j]? = some s ∧ v = V.int s := by
          simp only [Option.bind_some, List.getElem?_map] at hv
          cases h : ss[j]? with
          | none => rw [h] at hv; cases hv
          | some s => rw [h] at hv; cases hv; exact ⟨s, rfl, rfl⟩
        have hjlt : j < ss.length := (List.getElem?_eq_some_iff.mp hs).1
        -- text = row[:size] + [sign]
        walk_at "ms"
        refine ⟨_, rfl, ?_⟩
        walk_at "ms"
        refine ⟨ra, _, rfl, r1, by simp; omega, by simp, ?_⟩
        rw [pick_upto (by omega)]
        intro d₁ hd₁
        walk_at "ms"
        intro _ d₂ hd₂
        refine Op_addL (get_put_new hd₂ get_put_same) get_put_same (by simp; omega) ?_
        intro d₃ hd₃
        have r1' := get_put_new (l := List.take (i : Int).toNat (rs.map V.int) ++ [V.int s]) hd₃ (get_put_new (l := [V.int s]) hd₂ (get_put_new (l := List.take (i : Int).toNat (rs.map V.int)) hd₁ r1))
        have hK' := ((hK.alloc (l := List.take (i : Int).toNat (rs.map V.int)) hd₁).alloc (l := [V.int s]) hd₂).alloc (l := List.take (i : Int).toNat (rs.map V.int) ++ [V.int s]) hd₃
        have hline' := put_new_hp (l := List.take (i : Int).toNat (rs.map V.int) ++ [V.int s]) hd₃ (put_new_hp (l := [V.int s]) hd₂ (put_new_hp (l := List.take (i : Int).toNat (rs.map V.int)) hd₁ hline))
        -- line.append(max(..))
        walk_at "ms"
        refine ⟨e, _, rfl, hline', ?_⟩
        walk_at "ms"
        refine W_comp hc (by walk_at "m_shape") (WIt_range1 hc T' ?_ k5)
        walk_at "ms"
        refine ⟨_, rfl, by omega, by omega, ?_⟩
        refine ⟨fun t acc _ => t ≤ i + 2 ∧ acc = (((List.range t).filter fun k => decide ((rs.take i ++ [s]).drop (i + 1 - k) = rs.take k)).map fun k => V.int ((k : Nat) : Int)), i + 2, by omega, trivial, ⟨by omega, rfl⟩, ?_⟩
        rintro t acc hp ⟨ht, rfl⟩ hin
        refine ⟨ht, ?_, ?_⟩
        · intro v C hv
          simp only [Src.item] at hv
          split at hv
          · rename_i htl
            cases hv
            have htl' : t < i + 2 := by omega
            have et : (0 + (t : Int)) = (t : Int) := by omega
            rw [et]
            walk_at "ms"
            refine ⟨_, rfl, ?_⟩
            walk_at "ms"
            refine ⟨d₃, _, rfl, inner_get hin get_put_same, by simp; omega, by simp, ?_⟩
            rw [pick_from (by omega) (by simp; omega)]
            intro d₄ hd₄
            walk_at "ms"
            refine ⟨_, rfl, ?_⟩
            walk_at "ms"
            refine ⟨ra, _, rfl, get_put_new hd₄ (inner_get hin r1'), by simp; omega, by simp, ?_⟩
            rw [pick_upto (by omega)]
            intro d₅ hd₅
            have e4 : List.drop ((i : Int) + 1 - (t : Int)).toNat (List.take (i : Int).toNat (rs.map V.int) ++ [V.int s]) = ((rs.take i ++ [s]).drop (i + 1 - t)).map V.int := by
              have : ((i : Int) + 1 - (t : Int)).toNat = i + 1 - t := by omega
              rw [this]; simp
            have e5 : List.take (t : Int).toNat (rs.map V.int) = (rs.take t).map V.int := by simp
            refine Cm_eqI (hc.inner rfl) (by rw [get_put_new hd₅ get_put_same, e4]) (by rw [get_put_same, e5]) ?_
            constructor
            · intro hf
              refine ⟨by omega, ?_⟩
              rw [List.range_succ, List.filter_append]
              simp [hf]
            · intro htr
              walk_at "ms"
              refine ⟨by omega, ?_⟩
              rw [List.range_succ, List.filter_append]
              simp [htr]
          · cases hv
        · intro hv D hD hpD
          have htl : ¬ t < i + 2 := by
            simp only [Src.item] at hv
            split at hv
            · cases hv
            · omega
          have ht2 : t = i + 2 := by omega
          subst ht2
          walk_at "ms"
          refine Cb_max hc (ns := ((List.range (i + 2)).filter fun k => decide ((rs.take i ++ [s]).drop (i + 1 - k) = rs.take k)).map fun k => ((k : Nat) : Int)) (by rw [get_put_same]; simp) ?_ ?_
          · intro h
            have : (0 : Nat) ∈ (List.range (i + 2)).filter fun k => decide ((rs.take i ++ [s]).drop (i + 1 - k) = rs.take k) := by
              rw [List.mem_filter]
              refine ⟨List.mem_range.mpr (by omega), decide_eq_true ?_⟩
              rw [List.drop_of_length_le (by simp; omega)]; rfl
            rw [List.map_eq_nil_iff] at h
            rw [h] at this; cases this
          · intro m hm hmax
            obtain ⟨k, hk, rfl⟩ := List.mem_map.mp hm
            rw [List.mem_filter, List.mem_range] at hk
            have hstep : stepF rs i s = k := stepF_eq hlt' ⟨by omega, of_decide_eq_true hk.2⟩ fun k' hk' => by
              have := hmax (k' : Int) (List.mem_map.mpr ⟨k', by rw [List.mem_filter, List.mem_range]; exact ⟨by have := hk'.1; omega, decide_eq_true hk'.2⟩, rfl⟩)
              omega
            have hDe : c.get (((((σ''.set "sign" (V.int s)).put d₁ (List.take (i : Int).toNat (rs.map V.int))).put d₂ [V.int s]).put d₃ (List.take (i : Int).toNat (rs.map V.int) ++ [V.int s])).set "text" (V.ref d₃)) D = Option.none := hD
            refine ⟨_, by rw [put_other (by rintro rfl; rw [get_set, get_hp hline'] at hDe; cases hDe)]; exact join_hp hline', by simp; omega, ?_⟩
            refine Wss_nil ?_
            refine ⟨by omega, by walk_at "m_loc", by walk_at "m_loc", by walk_at "m_loc", by walk_at "m_loc", by walk_at "m_loc", Kp.turn (Kp.alloc (Kp.join hK' hin) (join_none hD hpD)) (by simp), ?_⟩
            rw [put_same, hstep.symm, List.take_add_one, hs]
            simp
      · intro hv
        simp only [Src.item] at hv
        rw [r2] at hv
        have hjn : j = ss.length := by
          have := List.getElem?_eq_none_iff.mp (show (ss.map V.int)[j]? = Option.none from hv)
          simp at this; omega
        subst hjn
        have hd' : σ''.hp d = some (as.map .ref) := hK.2 d _ (by simpa using Ne.symm hed) has
        walk_at "ms"
        refine ⟨d, _, rfl, hd', ?_⟩
        walk_at "ms"
        refine ⟨_, hd', by simp; omega, ?_⟩
        refine Wss_nil ?_
        refine ⟨by omega, by walk_at "m_loc", by walk_at "m_loc", by walk_at "m_loc", by rw [get_put_other hdr]; exact r1, by rw [get_put_other hds]; exact r2, as ++ [e], by rw [put_same]; simp, by simp; omega, ?_⟩
        intro q a hq
        by_cases hqi : q = as.length
        · subst hqi
          simp at hq
          subst hq
          refine ⟨hed, ?_⟩
          rw [put_other hed, hline, hlen]; simp
        · have hqlt : q < as.length := by
            have := (List.getElem?_eq_some_iff.mp hq).1
            simp at this; omega
          rw [List.getElem?_append_left hqlt] at hq
          obtain ⟨z1, z2⟩ := hval q a hq
          refine ⟨z1, ?_⟩
          rw [put_other z1]
          refine hK.2 a _ ?_ z2
          simp
          rintro rfl
          rw [get_set, get_hp z2] at he; cases he
    · cases hv
  · intro hv
    have hin : i = rs.length := by
      simp only [Src.item] at hv
      split at hv
      · cases hv
      · rename_i h; simp at h; omega
    walk_at "ms"
    refine ⟨_, rfl, d, rfl, as, has, by simp [stepsOf, hlen, hin], ?_⟩
    intro j a l h1 h2
    have := (hval j a h1).2
    simp only [stepsOf, List.getElem?_map] at h2
    have hjl : j < rs.length := by have := (List.getElem?_eq_some_iff.mp h1).1; omega
    rw [List.getElem?_range hjl] at h2
    cases h2
    exact this
end Mine

namespace Mine
open PySem PyProof.Rows

def addAt (m : List Int) (b : Nat) (x : Int) : List Int := m.set b (m.getD b 0 + x)
def moreRow (x : Int) (m : List Int) (row : List Nat) : List Int := row.foldl (fun m b => addAt m b x) m
def moreTo (st : List (List Nat)) (size : Nat) (ways : List Int) (k : Nat) : List Int := (List.range k).foldl (fun m k => moreRow (ways.getD k 0) m (st.getD k [])) (List.replicate (size + 1) 0)
def moreOf (st : List (List Nat)) (size : Nat) (ways : List Int) : List Int := moreTo st size ways size
def waysN (st : List (List Nat)) (size : Nat) : Nat → List Int
  | 0 => 1 :: List.replicate (size - 1) 0
  | n + 1 => (moreOf st size (waysN st size n)).take size
def freeL (st : List (List Nat)) (size n : Nat) : List Int := (List.range (n + 1)).map fun i => (waysN st size i).sum
def endedL (st : List (List Nat)) (size n : Nat) : List Int := 0 :: (List.range n).map fun i => (moreOf st size (waysN st size i)).getD size 0
theorem addAt_length (m : List Int) (b : Nat) (x : Int) : (addAt m b x).length = m.length := by simp [addAt]
theorem moreRow_length (x : Int) (m : List Int) (row : List Nat) : (moreRow x m row).length = m.length := by
  unfold moreRow
  induction row generalizing m with
  | nil => rfl
  | cons b r ih => rw [List.foldl_cons, ih, addAt_length]
theorem moreTo_length (st : List (List Nat)) (size : Nat) (ways : List Int) (k : Nat) : (moreTo st size ways k).length = size + 1 := by
  unfold moreTo
  induction k with
  | zero => simp
  | succ k ih => rw [List.range_succ, List.foldl_append, List.foldl_cons, List.foldl_nil, moreRow_length, ih]
theorem moreTo_succ (st : List (List Nat)) (size : Nat) (ways : List Int) (k : Nat) : moreTo st size ways (k + 1) = moreRow (ways.getD k 0) (moreTo st size ways k) (st.getD k []) := by
  unfold moreTo; rw [List.range_succ, List.foldl_append, List.foldl_cons, List.foldl_nil]
theorem waysN_length (st : List (List Nat)) {size : Nat} (h : 1 ≤ size) : ∀ n, (waysN st size n).length = size
  | 0 => by simp [waysN]; omega
  | n + 1 => by simp [waysN, moreOf, moreTo_length]
def upI (st : List (List Nat)) : List (List Int) := st.map fun r => r.map fun (b : Nat) => (b : Int)

-- a name's value is found
local macro_rules | `(tactic| walk_at "m_loc") => `(tactic| first | with_reducible exact loc_same | with_reducible assumption | (with_reducible apply loc_put; walk_at "m_loc") | (with_reducible apply loc_join; walk_at "m_loc") | (apply loc_other (by decide); walk_at "m_loc") | (apply innerLoc_of (by subst_vars; rfl); walk_at "m_loc"))
local macro_rules | `(tactic| walk_at "m_ok") => `(tactic| first | with_reducible assumption | exact Cx.Ok.inner (by assumption) rfl)
local macro_rules | `(tactic| walk_at "m_kind") => `(tactic| first | with_reducible assumption | (subst_vars; rfl))
local macro_rules | `(tactic| walk_at "m_shape") => `(tactic| exact ⟨rfl, by subst_vars; rfl, rfl, rfl, rfl⟩)
local macro_rules | `(tactic| walk_at "m_tgt") => `(tactic| first | with_reducible assumption | exact .inl (by assumption) | exact .inr (by assumption))
-- one step
local macro_rules | `(tactic| walk_at "m") => `(tactic| first
  | with_reducible refine WL_cons ?_
  | with_reducible refine WL_nil ?_
  | with_reducible refine WIfs_nil ?_
  | with_reducible refine WIfs_one ?_
  | with_reducible refine WP_none ?_
  | with_reducible refine WP_some ?_
  | with_reducible refine Wss_cons ?_
  | ((with_reducible show W _ (Expr.Name _ _) _ _); refine W_name (by walk_at "m_ok") (by walk_at "m_loc") ?_)
  | with_reducible refine W_int ?_
  | with_reducible refine W_bool ?_
  | with_reducible refine W_BinOp ?_
  | with_reducible refine Op_add ?_
  | with_reducible refine Op_sub ?_
  | with_reducible refine Cm_eq ?_
  | with_reducible refine Cm_ne ?_
  | with_reducible refine Cm_lt ?_
  | with_reducible refine Cm_ge ?_
  | with_reducible refine Cm_le ?_
  | ((with_reducible show Ws _ (Stmt.Assign [Expr.Name _ _] _ _) _ _); refine Ws_assign (by walk_at "m_ok") (by walk_at "m_tgt") ?_)
  | ((with_reducible show Ws _ (Stmt.Assign [Expr.Subscript _ _ _] _ _) _ _); refine Ws_assignAt ?_)
  | with_reducible refine Ws_return ?_
  | with_reducible refine Ws_break ?_
  | with_reducible refine Ws_if ?_
  | ((with_reducible show Ws _ (Stmt.Expr _ _) _ _); refine Ws_append (by walk_at "m_ok") ?_)
  | ((with_reducible show Wb _ (Expr.Compare _ _ _ _) _ _); refine Wb_Compare ?_)
  | ((with_reducible show Wb _ (Expr.BoolOp BoolOp.Or _ _) _ _); refine Wb_or ?_)
  | ((with_reducible show Wb _ (Expr.BoolOp BoolOp.And _ _) _ _); refine Wb_and ?_)
  | ((with_reducible show W _ (Expr.IfExp _ _ _ _) _ _); refine W_IfExp ?_)
  | ((with_reducible show W _ (Expr.List _ _) _ _); refine W_List rfl (by decide) ?_)
  | ((with_reducible show W _ (Expr.Call (Expr.Name (Str.ofString "len") _) _ _ _) _ _); refine W_callB (x := "len") (id := "len") (by walk_at "m_ok") (by assumption) ?_ (by simp [biTable]) (by walk_at "m_kind") rfl)
  | ((with_reducible show W _ (Expr.Call (Expr.Name (Str.ofString "max") _) _ _ _) _ _); refine W_callB (x := "max") (id := "max") (by walk_at "m_ok") (by assumption) ?_ (by simp [biTable]) (by walk_at "m_kind") rfl)
  | ((with_reducible show W _ (Expr.Call (Expr.Name (Str.ofString "min") _) _ _ _) _ _); refine W_callB (x := "min") (id := "min") (by walk_at "m_ok") (by assumption) ?_ (by simp [biTable]) (by walk_at "m_kind") rfl)
  | ((with_reducible show W _ (Expr.Call (Expr.Name (Str.ofString "sum") _) _ _ _) _ _); refine W_callB (x := "sum") (id := "sum") (by walk_at "m_ok") (by assumption) ?_ (by simp [biTable]) (by walk_at "m_kind") rfl)
  | ((with_reducible show W _ (Expr.Subscript _ (Expr.Slice _ _ none _) _) _ _); refine W_slice ?_ (fun o i => [i, o]))
  | ((with_reducible show W _ (Expr.Subscript _ (Expr.Slice _ _ _ _) _) _ _); refine W_slice ?_ (fun o i => [o, i]))
  | ((with_reducible show W _ (Expr.Subscript _ _ _) _ _); refine W_item ?_)
  | ((with_reducible show Wss _ [] _ _); refine Wss_nil ?_))
local macro_rules | `(tactic| walk_at "ms") => `(tactic| (walk_at "m"; repeat walk_at "m"))

set_option maxHeartbeats 8000000 in
theorem counted_run {c₀ : Cx} {mg : Str → Option Value} (hA : Lv 1 c₀.A) (T : TopOk c₀.ht mg) {σ₁ : St} {pm cd doc : Value} {L f : Addr} {sa : Addr} {st : List (List Nat)} {size : Nat} (hsa : LL (c₀.get σ₁) sa (upI st)) (h1 : 1 ≤ size) (h2 : size ≤ 100) (h3 : size ≤ st.length) (h4 : st.length ≤ 1000)
    (hb : ∀ k r, k < size → st[k]? = some r → r.length ≤ 1000 ∧ ∀ b ∈ r, b ≤ size) :
    Wss (callee c₀ σ₁ (fdOf PySem.Challenge.pw_oc0404_01 4 pm cd doc) L f) (bodyOf PySem.Challenge.pw_oc0404_01 4) (fun fl σ' => ∃ v, fl = .ret v ∧ ∃ d, v = .ref d ∧ LL σ'.hp d [freeL st size (2 * size), endedL st size (2 * size)]) ⟨argLoc ["steps", "size"] [.ref sa, .int (size : Int)], fun _ => Option.none⟩ := by
  obtain ⟨c, hcd⟩ : ∃ c, c = callee c₀ σ₁ (fdOf PySem.Challenge.pw_oc0404_01 4 pm cd doc) L f := ⟨_, rfl⟩
  rw [← hcd]
  have hc : c.Ok := by rw [hcd]; exact callee_ok hA rfl rfl rfl
  have T' : TopOk c.ht mg := by rw [hcd]; exact T
  have t1 : Tgt c "ways" := by rw [hcd]; exact .inl rfl
  have t2 : Tgt c "free" := by rw [hcd]; exact .inl rfl
  have t3 : Tgt c "ended" := by rw [hcd]; exact .inl rfl
  have t4 : Tgt c "n" := by rw [hcd]; exact .inl rfl
  have t5 : Tgt c "more" := by rw [hcd]; exact .inl rfl
  have t6 : Tgt c "k" := by rw [hcd]; exact .inl rfl
  have t7 : Tgt c "behind" := by rw [hcd]; exact .inl rfl
  have k5 : c.env.kindOf "range" = some .globalImplicit := by rw [hcd]; rfl
  have k6 : c.env.kindOf "sum" = some .globalImplicit := by rw [hcd]; rfl
  dsimp only [bodyOf, PySem.Challenge.pw_oc0404_01, List.getElem?_cons_succ, List.getElem?_cons_zero]
  have l1 : (⟨argLoc ["steps", "size"] [.ref sa, .int (size : Int)], fun _ => Option.none⟩ : St).loc "steps" = some (.ref sa) := rfl
  have l2 : (⟨argLoc ["steps", "size"] [.ref sa, .int (size : Int)], fun _ => Option.none⟩ : St).loc "size" = some (.int (size : Int)) := rfl
  have g1 : LL (c.get ⟨argLoc ["steps", "size"] [.ref sa, .int (size : Int)], fun _ => Option.none⟩) sa (upI st) := by
    refine hsa.mono fun a l e => ?_
    rw [get_ro rfl, hcd]; exact e
  generalize (⟨argLoc ["steps", "size"] [.ref sa, .int (size : Int)], fun _ => Option.none⟩ : St) = σ at *
  have hsl : sizeLine = 2 ^ 24 := rfl
  -- ways = [1] + [0] * (size - 1)
  walk_at "ms"
  intro _ d₁ hd₁
  walk_at "ms"
  intro _ d₂ hd₂
  walk_at "ms"
  refine Op_mulL put_same (by omega) (by omega) (by simp; omega) ?_
  intro d₃ hd₃
  refine Op_addL (get_put_new hd₃ (get_put_new hd₂ get_put_same)) get_put_same (by rw [repL_zero]; simp; omega) ?_
  intro w₀ hw₀
  have K1 := ((((Kp.refl (c := c) (M := []) (σ := σ)).alloc (l := [V.int 1]) hd₁).alloc (l := [V.int 0]) hd₂).alloc (l := repL [V.int 0] ((size : Int) - 1).toNat) hd₃).alloc (l := [V.int 1] ++ repL [V.int 0] ((size : Int) - 1).toNat) hw₀
  have hw : [V.int 1] ++ repL [V.int 0] ((size : Int) - 1).toNat = (waysN st size 0).map .int := by
    rw [repL_zero]
    have : ((size : Int) - 1).toNat = size - 1 := by omega
    rw [this]; simp [waysN]
  rw [hw] at K1
  rw [hw]
  -- free = [1]
  walk_at "ms"
  intro _ fa hfa
  have K2 := K1.set (x := "ways") (v := .ref w₀) |>.alloc (l := [V.int 1]) hfa
  -- ended = [0]
  walk_at "ms"
  intro _ ea hea
  have K3 := (K2.set (x := "free") (v := .ref fa)).alloc (l := [V.int 0]) hea
  have hfe : fa ≠ ea := by rintro rfl; rw [get_set, get_put_same] at hea; cases hea
  have hwf : w₀ ≠ fa := by rintro rfl; rw [get_set, get_put_same] at hfa; cases hfa
  have hwe : w₀ ≠ ea := by rintro rfl; rw [get_set, get_put_new hfa (by rw [get_set]; exact get_put_same)] at hea; cases hea
  have hwh := put_new_hp (l := [V.int 0]) hea (by rw [hp_set]; exact put_new_hp (l := [V.int 1]) hfa (by rw [hp_set]; exact put_same (a := w₀)))
  -- for n in range(2 * size)
  walk_at "m"
  refine Ws_for hc t4 (WIt_range1 hc T' ?_ k5)
  walk_at "ms"
  refine Op_mul (IntMulOk.of_left (by decide)) ?_
  refine ⟨_, rfl, by omega, by omega, ?_⟩
  have e2 : (2 * (size : Int)).toNat = 2 * size := by omega
  rw [e2]
  refine ⟨fun i σ' => i ≤ 2 * size ∧ σ'.loc "steps" = some (.ref sa) ∧ σ'.loc "size" = some (.int (size : Int)) ∧ σ'.loc "free" = some (.ref fa) ∧ σ'.loc "ended" = some (.ref ea) ∧ Kp c [fa, ea] σ σ' ∧
    σ'.hp fa = some ((freeL st size i).map .int) ∧ σ'.hp ea = some ((endedL st size i).map .int) ∧ ∃ w, σ'.loc "ways" = some (.ref w) ∧ w ≠ fa ∧ w ≠ ea ∧ c.get σ' w = some ((waysN st size i).map .int), 2 * size,
    ⟨by omega, by walk_at "m_loc", by walk_at "m_loc", by walk_at "m_loc", by walk_at "m_loc", ⟨fun a l _ e => K3.1 a l (by simp) e, fun a l _ e => K3.2 a l (by simp) e⟩, ?_, ?_, w₀, by walk_at "m_loc", hwf, hwe, get_hp hwh⟩, ?_⟩
  · rw [hp_set, put_other hfe, hp_set, put_same]
    simp [freeL, waysN]
  · rw [hp_set, put_same]; simp [endedL]
  have hfa0 : c.get σ fa = Option.none := K1.back hfa
  have hea0 : c.get σ ea = Option.none := K2.back hea
  have hM : ∀ e ∈ [fa, ea], c.get σ e = Option.none := by
    intro e he
    rcases List.mem_cons.mp he with rfl | he
    · exact hfa0
    · rw [List.mem_singleton.mp he]; exact hea0
  clear K1 K2 K3 hwh
  rintro i σ' ⟨hi, m1, m2, m3, m4, mK, mf, me, w, m5, nwf, nwe, mw⟩
  have mL : LL (c.get σ') sa (upI st) := g1.kp mK hM
  refine ⟨hi, trivial, ?_, ?_⟩
  · intro v hv
    simp only [Src.item] at hv
    split at hv
    · rename_i hlt
      cases hv
      -- more = [0] * (size + 1)
      walk_at "ms"
      intro _ d₄ hd₄
      walk_at "ms"
      refine Op_mulL put_same (by omega) (by omega) (by simp; omega) ?_
      intro m hm
      have K4 := ((Kp.refl (c := c) (M := []) (σ := σ')).alloc (l := [V.int 0]) hd₄).alloc (l := repL [V.int 0] ((size : Int) + 1).toNat) hm
      have hm0 : c.get σ' m = Option.none := by
        cases h : c.get σ' m with
        | none => rfl
        | some l => have := get_put_new (l := [V.int 0]) hd₄ h; rw [hm] at this; cases this
      have nmf : fa ≠ m := by rintro rfl; rw [get_hp mf] at hm0; cases hm0
      have nme : ea ≠ m := by rintro rfl; rw [get_hp me] at hm0; cases hm0
      have nmw : w ≠ m := by rintro rfl; rw [mw] at hm0; cases hm0
      -- for k in range(size)
      walk_at "m"
      refine Ws_for hc t6 (WIt_range1 hc T' ?_ k5)
      walk_at "ms"
      refine ⟨_, rfl, by omega, by omega, ?_⟩
      have e3 : ((size : Int)).toNat = size := by omega
      rw [e3]
      refine ⟨fun k σ'' => k ≤ size ∧ σ''.loc "steps" = some (.ref sa) ∧ σ''.loc "size" = some (.int (size : Int)) ∧ σ''.loc "free" = some (.ref fa) ∧ σ''.loc "ended" = some (.ref ea) ∧ σ''.loc "ways" = some (.ref w) ∧ σ''.loc "more" = some (.ref m) ∧
        Kp c [m] σ' σ'' ∧ σ''.hp m = some ((moreTo st size (waysN st size i) k).map .int), size,
        ⟨by omega, by walk_at "m_loc", by walk_at "m_loc", by walk_at "m_loc", by walk_at "m_loc", by walk_at "m_loc", by walk_at "m_loc", ?_, ?_⟩, ?_⟩
      · exact ⟨fun b l _ e => K4.1 b l (by simp) e, fun b l _ e => K4.2 b l (by simp) e⟩
      · rw [hp_set, put_same, repL_zero]
        have : ((size : Int) + 1).toNat = size + 1 := by omega
        rw [this]; rfl
      rintro k σ'' ⟨hk, q1, q2, q3, q4, q5, q6, hK, hmore⟩
      refine ⟨hk, trivial, ?_, ?_⟩
      · intro v hv
        simp only [Src.item] at hv
        split at hv
        · rename_i hlk
          cases hv
          have ek : (0 + (k : Int)) = (k : Int) := by omega
          rw [ek]
          have hkst : k < st.length := by omega
          have hrow : st[k]? = some (st.getD k []) := by rw [List.getD_eq_getElem?_getD, List.getElem?_eq_getElem hkst]; rfl
          obtain ⟨hr1, hr2⟩ := hb k _ hlk hrow
          have hupk : (upI st)[k]? = some ((st.getD k []).map fun (b : Nat) => (b : Int)) := by simp only [upI, List.getElem?_map]; rw [hrow]; rfl
          have hLL : LL (c.get σ'') sa (upI st) := mL.mono fun a l e => hK.1 a l (by
            simp; rintro rfl; rw [hm0] at e; cases e) e
          obtain ⟨vs, ra, z1, z2, z3, z4⟩ := hLL.row hupk
          have nram : ra ≠ m := by
            obtain ⟨vs', ra', y1, y2, y3, y4⟩ := mL.row hupk
            have : ra' = ra := by
              have e1 := hK.1 sa _ (by simp; rintro rfl; rw [hm0] at y1; cases y1) y1
              rw [z1] at e1; cases e1
              rw [z3] at y3; cases y3; rfl
            subst this
            rintro rfl; rw [hm0] at y4; cases y4
          -- for behind in steps[k]
          walk_at "m"
          refine Ws_for hc t7 (WIt_list ?_)
          walk_at "ms"
          refine ⟨sa, _, _, _, rfl, rfl, z1, by omega, by omega, (by simpa using z3), ?_⟩
          refine ⟨ra, _, rfl, z4, ?_⟩
          refine ⟨fun t σ₃ => t ≤ (st.getD k []).length ∧ σ₃.loc "steps" = some (.ref sa) ∧ σ₃.loc "size" = some (.int (size : Int)) ∧ σ₃.loc "free" = some (.ref fa) ∧ σ₃.loc "ended" = some (.ref ea) ∧ σ₃.loc "ways" = some (.ref w) ∧ σ₃.loc "more" = some (.ref m) ∧ σ₃.loc "k" = some (.int (k : Int)) ∧
            Kp c [m] σ'' σ₃ ∧ σ₃.hp m = some ((moreRow ((waysN st size i).getD k 0) (moreTo st size (waysN st size i) k) ((st.getD k []).take t)).map .int), (st.getD k []).length,
            ⟨by omega, by walk_at "m_loc", by walk_at "m_loc", by walk_at "m_loc", by walk_at "m_loc", by walk_at "m_loc", by walk_at "m_loc", by walk_at "m_loc", Kp.refl, by rw [hp_set, hmore]; rfl⟩, ?_⟩
          rintro t σ₃ ⟨ht, p1, p2, p3, p4, p5, p6, p7, hK3, hm3⟩
          have z5 := hK3.1 ra _ (by simpa using nram) z4
          refine ⟨ht, by simp only [Src.ok]; rw [z5]; rfl, ?_, ?_⟩
          · intro v hv
            simp only [Src.item] at hv
            rw [z5] at hv
            obtain ⟨b, hbt, rfl⟩ : ∃ b, (st.getD k [])[t]? = some b ∧ v = V.int (b : Int) := by
              simp only [Option.bind_some, List.getElem?_map] at hv
              cases h : (st.getD k [])[t]? with
              | none => rw [h] at hv; cases hv
              | some b => rw [h] at hv; cases hv; exact ⟨b, rfl, rfl⟩
            have hbs := hr2 b (List.mem_of_getElem? hbt)
            have htl : t < (st.getD k []).length := (List.getElem?_eq_some_iff.mp hbt).1
            have hml : (moreRow ((waysN st size i).getD k 0) (moreTo st size (waysN st size i) k) ((st.getD k []).take t)).length = size + 1 := by rw [moreRow_length, moreTo_length]
            have hww : c.get σ₃ w = some ((waysN st size i).map .int) := hK3.1 w _ (by simpa using nmw) (hK.1 w _ (by simpa using nmw) mw)
            -- more[behind] = more[behind] + ways[k]
            walk_at "ms"
            refine ⟨m, _, _, _, rfl, rfl, get_hp hm3, by omega, by omega, getI (getD_some (by omega)), ?_⟩
            walk_at "ms"
            refine ⟨w, _, _, _, rfl, rfl, hww, by omega, by omega, getI (getD_some (by rw [waysN_length st h1]; omega)), ?_⟩
            walk_at "ms"
            refine ⟨m, _, _, rfl, rfl, hm3, by omega, by rw [List.length_map, hml]; omega, by rw [List.length_map, hml]; omega, ?_⟩
            refine Wss_nil ?_
            refine ⟨by omega, by walk_at "m_loc", by walk_at "m_loc", by walk_at "m_loc", by walk_at "m_loc", by walk_at "m_loc", by walk_at "m_loc", by walk_at "m_loc", Kp.turn hK3 (by simp), ?_⟩
            rw [put_same, List.take_add_one, hbt]
            simp [moreRow, addAt, List.map_set]
          · intro hv
            simp only [Src.item] at hv
            rw [z5] at hv
            have htn : t = (st.getD k []).length := by
              have := List.getElem?_eq_none_iff.mp (show (((st.getD k []).map fun (b : Nat) => (b : Int)).map V.int)[t]? = Option.none from hv)
              simp only [List.length_map] at this; omega
            refine Wss_nil ?_
            refine ⟨by omega, by walk_at "m_loc", by walk_at "m_loc", by walk_at "m_loc", by walk_at "m_loc", by walk_at "m_loc", by walk_at "m_loc", Kp.under hK hK3 (by simp), ?_⟩
            rw [hm3, moreTo_succ, htn, List.take_length]
        · cases hv
      · intro hv
        have hkn : k = size := by
          simp only [Src.item] at hv
          split at hv
          · cases hv
          · omega
        subst hkn
        have hml : (moreTo st k (waysN st k i) k).length = k + 1 := moreTo_length ..
        have hf2 : σ''.hp fa = some ((freeL st k i).map .int) := hK.2 fa _ (by simpa using nmf) mf
        have he2 : σ''.hp ea = some ((endedL st k i).map .int) := hK.2 ea _ (by simpa using nme) me
        -- ways = more[:size]
        walk_at "ms"
        refine ⟨_, rfl, ?_⟩
        walk_at "ms"
        refine ⟨m, _, rfl, get_hp hmore, by simp; omega, by simp, ?_⟩
        rw [pick_upto (by omega)]
        intro w' hw'
        have ew : List.take (k : Int).toNat ((moreTo st k (waysN st k i) k).map V.int) = (waysN st k (i + 1)).map .int := by simp [waysN, moreOf]
        rw [ew]
        have nwf' : w' ≠ fa := by rintro rfl; rw [get_hp hf2] at hw'; cases hw'
        have nwe' : w' ≠ ea := by rintro rfl; rw [get_hp he2] at hw'; cases hw'
        have nwm' : w' ≠ m := by rintro rfl; rw [get_hp hmore] at hw'; cases hw'
        -- free.append(sum(ways))
        walk_at "ms"
        refine ⟨fa, _, rfl, put_new_hp hw' hf2, ?_⟩
        walk_at "ms"
        refine Cb_sum hc (ns := waysN st k (i + 1)) get_put_same ?_
        refine ⟨_, put_new_hp hw' hf2, by simp [freeL]; omega, ?_⟩
        -- ended.append(more[size])
        walk_at "ms"
        refine ⟨ea, _, rfl, by rw [put_other (Ne.symm hfe)]; exact put_new_hp hw' he2, ?_⟩
        walk_at "ms"
        refine ⟨m, _, _, _, rfl, rfl, by rw [get_put_other (Ne.symm nmf)]; exact get_put_new hw' (get_hp hmore), by omega, by omega, getI (getD_some (by omega)), ?_⟩
        refine ⟨_, by rw [put_other (Ne.symm hfe)]; exact put_new_hp hw' he2, by simp [endedL]; omega, ?_⟩
        refine Wss_nil ?_
        refine ⟨by omega, by walk_at "m_loc", by walk_at "m_loc", by walk_at "m_loc", by walk_at "m_loc", ?_, ?_, ?_, w', by walk_at "m_loc", nwf', nwe', ?_⟩
        · have hm00 : c.get σ m = Option.none := by
            cases h : c.get σ m with
            | none => rfl
            | some l =>
              have := mK.1 m l (by simp; exact ⟨Ne.symm nmf, Ne.symm nme⟩) h
              rw [hm0] at this; cases this
          exact Kp.turn (Kp.turn (Kp.alloc (Kp.under mK hK (by simp; exact .inr hm00)) hw') (by simp)) (by simp)
        · rw [put_other hfe, put_same]
          simp [freeL, List.range_succ]
        · rw [put_same]
          simp [endedL, List.range_succ, moreOf]
        · rw [get_put_other nwe', get_put_other nwf']
          exact get_put_same
    · cases hv
  · intro hv
    have hin : i = 2 * size := by
      simp only [Src.item] at hv
      split at hv
      · cases hv
      · omega
    subst hin
    walk_at "ms"
    intro _ d hd
    have ndf : fa ≠ d := by rintro rfl; rw [get_hp mf] at hd; cases hd
    have nde : ea ≠ d := by rintro rfl; rw [get_hp me] at hd; cases hd
    exact ⟨_, rfl, d, rfl, LL.pair put_same (by rw [put_other ndf]; exact mf) (by rw [put_other nde]; exact me)⟩
end Mine

namespace Mine
open PySem PyProof.Rows

noncomputable def chain (p : Nat → Int) (k : Nat) : List Nat := if h : k = 0 then [] else k :: chain p (bord p k)
termination_by k
decreasing_by exact bord_lt p (Nat.pos_of_ne_zero h)
theorem chain_zero (p : Nat → Int) : chain p 0 = [] := by rw [chain]; simp
theorem chain_pos (p : Nat → Int) {k : Nat} (h : k ≠ 0) : chain p k = k :: chain p (bord p k) := by rw [chain]; simp [h]
theorem chain_le (p : Nat → Int) (k : Nat) : ∀ x ∈ chain p k, 0 < x ∧ x ≤ k := by
  induction k using Nat.strongRecOn with
  | ind k ih =>
    intro x hx
    by_cases h : k = 0
    · subst h; rw [chain_zero] at hx; cases hx
    · rw [chain_pos p h] at hx
      have hlt := bord_lt p (Nat.pos_of_ne_zero h)
      rcases List.mem_cons.mp hx with rfl | hx
      · omega
      · have := ih _ hlt x hx; omega
theorem chain_len (p : Nat → Int) (k : Nat) : (chain p k).length ≤ k := by
  induction k using Nat.strongRecOn with
  | ind k ih =>
    by_cases h : k = 0
    · subst h; rw [chain_zero]; simp
    · rw [chain_pos p h]
      have hlt := bord_lt p (Nat.pos_of_ne_zero h)
      have := ih _ hlt
      simp; omega

def toldN (B : List Nat) (size : Nat) (many : Int) : Nat → List Int × List Int
  | 0 => ((List.range size).map (many ^ ·), List.replicate size 0)
  | n + 1 =>
    let e := (toldN B size many n).1.getD n 0 - (B.map fun lap => (toldN B size many n).2.getD (n + lap) 0).sum
    ((toldN B size many n).1 ++ [many * (toldN B size many n).1.getD (n + size - 1) 0 - e], (toldN B size many n).2 ++ [e])
theorem told_len (B : List Nat) (size : Nat) (many : Int) : ∀ n, (toldN B size many n).1.length = size + n ∧ (toldN B size many n).2.length = size + n
  | 0 => by simp [toldN]
  | n + 1 => by
    obtain ⟨h1, h2⟩ := told_len B size many n
    simp [toldN, h1, h2]; omega

-- a name's value is found
local macro_rules | `(tactic| walk_at "m_loc") => `(tactic| first | with_reducible exact loc_same | with_reducible assumption | (with_reducible apply loc_put; walk_at "m_loc") | (with_reducible apply loc_join; walk_at "m_loc") | (apply loc_other (by decide); walk_at "m_loc") | (apply innerLoc_of (by subst_vars; rfl); walk_at "m_loc"))
local macro_rules | `(tactic| walk_at "m_ok") => `(tactic| first | with_reducible assumption | exact Cx.Ok.inner (by assumption) rfl)
local macro_rules | `(tactic| walk_at "m_kind") => `(tactic| first | with_reducible assumption | (subst_vars; rfl))
local macro_rules | `(tactic| walk_at "m_shape") => `(tactic| exact ⟨rfl, by subst_vars; rfl, rfl, rfl, rfl⟩)
local macro_rules | `(tactic| walk_at "m_tgt") => `(tactic| first | with_reducible assumption | exact .inl (by assumption) | exact .inr (by assumption))
-- one step
local macro_rules | `(tactic| walk_at "m") => `(tactic| first
  | with_reducible refine WL_cons ?_
  | with_reducible refine WL_nil ?_
  | with_reducible refine WIfs_nil ?_
  | with_reducible refine WIfs_one ?_
  | with_reducible refine WP_none ?_
  | with_reducible refine WP_some ?_
  | with_reducible refine Wss_cons ?_
  | ((with_reducible show W _ (Expr.Name _ _) _ _); refine W_name (by walk_at "m_ok") (by walk_at "m_loc") ?_)
  | with_reducible refine W_int ?_
  | with_reducible refine W_bool ?_
  | with_reducible refine W_BinOp ?_
  | with_reducible refine Op_add ?_
  | with_reducible refine Op_sub ?_
  | with_reducible refine Cm_eq ?_
  | with_reducible refine Cm_ne ?_
  | with_reducible refine Cm_lt ?_
  | with_reducible refine Cm_ge ?_
  | with_reducible refine Cm_le ?_
  | ((with_reducible show Ws _ (Stmt.Assign [Expr.Name _ _] _ _) _ _); refine Ws_assign (by walk_at "m_ok") (by walk_at "m_tgt") ?_)
  | ((with_reducible show Ws _ (Stmt.Assign [Expr.Subscript _ _ _] _ _) _ _); refine Ws_assignAt ?_)
  | with_reducible refine Ws_return ?_
  | with_reducible refine Ws_break ?_
  | with_reducible refine Ws_if ?_
  | ((with_reducible show Ws _ (Stmt.Expr _ _) _ _); refine Ws_append (by walk_at "m_ok") ?_)
  | ((with_reducible show Wb _ (Expr.Compare _ _ _ _) _ _); refine Wb_Compare ?_)
  | ((with_reducible show Wb _ (Expr.BoolOp BoolOp.Or _ _) _ _); refine Wb_or ?_)
  | ((with_reducible show Wb _ (Expr.BoolOp BoolOp.And _ _) _ _); refine Wb_and ?_)
  | ((with_reducible show W _ (Expr.IfExp _ _ _ _) _ _); refine W_IfExp ?_)
  | ((with_reducible show W _ (Expr.List _ _) _ _); refine W_List rfl (by decide) ?_)
  | ((with_reducible show W _ (Expr.Call (Expr.Name (Str.ofString "len") _) _ _ _) _ _); refine W_callB (x := "len") (id := "len") (by walk_at "m_ok") (by assumption) ?_ (by simp [biTable]) (by walk_at "m_kind") rfl)
  | ((with_reducible show W _ (Expr.Call (Expr.Name (Str.ofString "max") _) _ _ _) _ _); refine W_callB (x := "max") (id := "max") (by walk_at "m_ok") (by assumption) ?_ (by simp [biTable]) (by walk_at "m_kind") rfl)
  | ((with_reducible show W _ (Expr.Call (Expr.Name (Str.ofString "min") _) _ _ _) _ _); refine W_callB (x := "min") (id := "min") (by walk_at "m_ok") (by assumption) ?_ (by simp [biTable]) (by walk_at "m_kind") rfl)
  | ((with_reducible show W _ (Expr.Call (Expr.Name (Str.ofString "sum") _) _ _ _) _ _); refine W_callB (x := "sum") (id := "sum") (by walk_at "m_ok") (by assumption) ?_ (by simp [biTable]) (by walk_at "m_kind") rfl)
  | ((with_reducible show W _ (Expr.Subscript _ (Expr.Slice _ _ none _) _) _ _); refine W_slice ?_ (fun o i => [i, o]))
  | ((with_reducible show W _ (Expr.Subscript _ (Expr.Slice _ _ _ _) _) _ _); refine W_slice ?_ (fun o i => [o, i]))
  | ((with_reducible show W _ (Expr.Subscript _ _ _) _ _); refine W_item ?_)
  | ((with_reducible show Wss _ [] _ _); refine Wss_nil ?_))
local macro_rules | `(tactic| walk_at "ms") => `(tactic| (walk_at "m"; repeat walk_at "m"))

set_option maxHeartbeats 8000000 in
theorem told_run {c₀ : Cx} {mg : Str → Option Value} (hA : Lv 1 c₀.A) (T : TopOk c₀.ht mg) {σ₁ : St} {pm cd doc : Value} {L f : Addr} {ta : Addr} {rs : List Int} {size : Nat} {many : Int} (hta : c₀.get σ₁ ta = some ((tableOf rs).map .int)) (h1 : 1 ≤ size) (h2 : size ≤ rs.length) (h3 : rs.length ≤ 100) (h4 : 0 ≤ many) (h5 : many ≤ 100) :
    Wss (callee c₀ σ₁ (fdOf PySem.Challenge.pw_oc0404_01 5 pm cd doc) L f) (bodyOf PySem.Challenge.pw_oc0404_01 5) (fun fl σ' => ∃ v, fl = .ret v ∧ ∃ d, v = .ref d ∧
      LL σ'.hp d [(toldN (chain (fun i => rs.getD i 0) (bord (fun i => rs.getD i 0) size)) size many (size + 1)).1, (toldN (chain (fun i => rs.getD i 0) (bord (fun i => rs.getD i 0) size)) size many (size + 1)).2])
      ⟨argLoc ["table", "size", "many"] [.ref ta, .int (size : Int), .int many], fun _ => Option.none⟩ := by
  obtain ⟨c, hcd⟩ : ∃ c, c = callee c₀ σ₁ (fdOf PySem.Challenge.pw_oc0404_01 5 pm cd doc) L f := ⟨_, rfl⟩
  rw [← hcd]
  have hc : c.Ok := by rw [hcd]; exact callee_ok hA rfl rfl rfl
  have T' : TopOk c.ht mg := by rw [hcd]; exact T
  have t1 : Tgt c "borders" := by rw [hcd]; exact .inl rfl
  have t2 : Tgt c "k" := by rw [hcd]; exact .inl rfl
  have t3 : Tgt c "free" := by rw [hcd]; exact .inl rfl
  have t4 : Tgt c "ended" := by rw [hcd]; exact .inr ⟨rfl, rfl, rfl⟩
  have t5 : Tgt c "n" := by rw [hcd]; exact .inr ⟨rfl, rfl, rfl⟩
  have k4 : c.env.kindOf "len" = some .globalImplicit := by rw [hcd]; rfl
  have k5 : c.env.kindOf "range" = some .globalImplicit := by rw [hcd]; rfl
  have k6 : c.env.kindOf "sum" = some .globalImplicit := by rw [hcd]; rfl
  dsimp only [bodyOf, PySem.Challenge.pw_oc0404_01, List.getElem?_cons_succ, List.getElem?_cons_zero]
  have l1 : (⟨argLoc ["table", "size", "many"] [.ref ta, .int (size : Int), .int many], fun _ => Option.none⟩ : St).loc "table" = some (.ref ta) := rfl
  have l2 : (⟨argLoc ["table", "size", "many"] [.ref ta, .int (size : Int), .int many], fun _ => Option.none⟩ : St).loc "size" = some (.int (size : Int)) := rfl
  have l3 : (⟨argLoc ["table", "size", "many"] [.ref ta, .int (size : Int), .int many], fun _ => Option.none⟩ : St).loc "many" = some (.int many) := rfl
  have g1 : c.get ⟨argLoc ["table", "size", "many"] [.ref ta, .int (size : Int), .int many], fun _ => Option.none⟩ ta = some ((tableOf rs).map .int) := by rw [get_ro rfl, hcd]; exact hta
  generalize (⟨argLoc ["table", "size", "many"] [.ref ta, .int (size : Int), .int many], fun _ => Option.none⟩ : St) = σ at *
  have hsl : sizeLine = 2 ^ 24 := rfl
  generalize hp : (fun i => rs.getD i 0) = p at *
  have hlenT := tableOf_length rs
  have htab : ∀ j, j < rs.length → (tableOf rs)[j]? = some ((bord p (j + 1) : Nat) : Int) := fun j hj => by rw [tableOf_get hj, hp]
  have hbs := bord_lt p (n := size) (by omega)
  -- borders = []
  walk_at "ms"
  intro _ ba hba
  have hbt : ta ≠ ba := by rintro rfl; rw [g1] at hba; cases hba
  -- k = table[size - 1]
  walk_at "ms"
  refine ⟨ta, _, _, _, rfl, rfl, get_put_new hba g1, by omega, by omega, getIz (k := size - 1) (by omega) (htab (size - 1) (by omega)), ?_⟩
  have es : size - 1 + 1 = size := by omega
  rw [es]
  -- while k != 0 and len(borders) < size
  walk_at "m"
  refine Ws_while (fun k σ' => σ'.loc "table" = some (.ref ta) ∧ σ'.loc "size" = some (.int (size : Int)) ∧ σ'.loc "many" = some (.int many) ∧ σ'.loc "borders" = some (.ref ba) ∧ σ'.loc "k" = some (.int ((k : Nat) : Int)) ∧ c.get σ' ta = some ((tableOf rs).map .int) ∧
    ∃ bs : List Nat, σ'.hp ba = some ((bs.map fun (b : Nat) => (b : Int)).map .int) ∧ bs ++ chain p k = chain p (bord p size) ∧ bs.length + k ≤ bord p size) (bord p size)
    ⟨by walk_at "m_loc", by walk_at "m_loc", by walk_at "m_loc", by walk_at "m_loc", by walk_at "m_loc", get_put_new hba g1, [], by rw [hp_set, hp_set, put_same]; rfl, rfl, by simp⟩ ?_
  rintro k σ' ⟨m1, m2, m3, m4, m5, mt, bs, mb, hch, hlen⟩
  walk_at "ms"
  constructor
  · intro hk0
    have hk : k = 0 := by simpa using hk0
    subst hk
    rw [chain_zero, List.append_nil] at hch
    refine ⟨fun h => (by cases h), fun _ => ?_⟩
    refine Wss_nil ?_
    have hB : ∀ b ∈ bs, b < size := fun b hb => by
      rw [hch] at hb
      have := chain_le p _ b hb
      omega
    -- free = [many ** n for n in range(size)]
    walk_at "m"
    refine Ws_assignComp hc (by walk_at "m_shape") t3 (WIt_range1 hc T' ?_ k5) (by subst_vars; rfl)
    walk_at "ms"
    refine ⟨_, rfl, by omega, by omega, ?_⟩
    have e3 : ((size : Int)).toNat = size := by omega
    rw [e3]
    refine ⟨fun t acc _ => t ≤ size ∧ acc = ((List.range t).map (many ^ ·)).map .int, size, by omega, trivial, ⟨by omega, rfl⟩, ?_⟩
    rintro t acc hq ⟨ht, rfl⟩ hin
    refine ⟨ht, ?_, ?_⟩
    · intro v C hv
      simp only [Src.item] at hv
      split at hv
      · cases hv
        walk_at "ms"
        refine ⟨fun h => (by cases h), fun _ => ?_⟩
        walk_at "ms"
        refine Op_pow (by omega) ?_ ?_
        · have hbits : Builtin.Int.intBits many ≤ 64 := intBits_le_64 (by omega) (by omega)
          have hb' : (Builtin.Int.intBits many : Int) ≤ 64 := by omega
          have h0 : (0 : Int) ≤ (Builtin.Int.intBits many : Int) := by omega
          have ht' : (0 + (t : Int)) ≤ 100 := by omega
          calc (Builtin.Int.intBits many : Int) * (0 + (t : Int)) ≤ 64 * (0 + (t : Int)) := Int.mul_le_mul_of_nonneg_right hb' (by omega)
            _ ≤ 2 ^ 27 := by omega
        · refine ⟨by omega, ?_⟩
          have : (0 + (t : Int)).toNat = t := by omega
          rw [this, List.range_succ]; simp
      · cases hv
    · intro hv fa hfa hqfa
      have htn : t = size := by
        simp only [Src.item] at hv
        split at hv
        · cases hv
        · omega
      subst htn
      have nfb : fa ≠ ba := by rintro rfl; rw [get_hp mb] at hfa; cases hfa
      have nft : fa ≠ ta := by rintro rfl; rw [mt] at hfa; cases hfa
      have K1 : Kp c [] σ' ((σ'.join hq).put fa (((List.range t).map (many ^ ·)).map .int)) := Kp.alloc (Kp.join Kp.refl hin) (join_none hfa hqfa)
      -- ended = [0] * size
      walk_at "ms"
      intro _ d₁ hd₁
      walk_at "ms"
      refine Op_mulL put_same (by omega) (by omega) (by simp; omega) ?_
      intro ea hea
      have K2 := ((K1.set (x := "free") (v := .ref fa)).alloc (l := [V.int 0]) hd₁).alloc (l := repL [V.int 0] ((t : Int)).toNat) hea
      have hfa2 := put_new_hp (l := repL [V.int 0] ((t : Int)).toNat) hea (put_new_hp (l := [V.int 0]) hd₁ (by rw [hp_set]; exact put_same (σ := σ'.join hq) (a := fa) (l := ((List.range t).map (many ^ ·)).map .int)))
      have nef : fa ≠ ea := by
        rintro rfl
        rw [get_put_new hd₁ (by rw [get_set]; exact get_put_same)] at hea; cases hea
      have hba2 := K2.2 ba _ (by simp) mb
      have neb : ba ≠ ea := by
        rintro rfl
        have := ((K1.set (x := "free") (v := .ref fa)).alloc (l := [V.int 0]) hd₁).2 ba _ (by simp) mb
        rw [get_hp this] at hea; cases hea
      -- for n in range(size + 1)
      walk_at "m"
      refine Ws_for hc t5 (WIt_range1 hc T' ?_ k5)
      walk_at "ms"
      refine ⟨_, rfl, by omega, by omega, ?_⟩
      have e4 : ((t : Int) + 1).toNat = t + 1 := by omega
      rw [e4]
      refine ⟨fun n σ₂ => n ≤ t + 1 ∧ σ₂.loc "size" = some (.int (t : Int)) ∧ σ₂.loc "many" = some (.int many) ∧ σ₂.loc "borders" = some (.ref ba) ∧ σ₂.loc "free" = some (.ref fa) ∧ σ₂.loc "ended" = some (.ref ea) ∧
        c.get σ₂ ba = some ((bs.map fun (b : Nat) => (b : Int)).map .int) ∧ σ₂.hp fa = some ((toldN bs t many n).1.map .int) ∧ σ₂.hp ea = some ((toldN bs t many n).2.map .int), t + 1,
        ⟨by omega, by walk_at "m_loc", by walk_at "m_loc", by walk_at "m_loc", by walk_at "m_loc", by walk_at "m_loc", get_hp hba2, hfa2, by rw [hp_set, put_same, repL_zero]; rfl⟩, ?_⟩
      rintro n σ₂ ⟨hn, q1, q2, q3, q4, q5, qb, qf, qe⟩
      obtain ⟨len1, len2⟩ := told_len bs t many n
      refine ⟨hn, trivial, ?_, ?_⟩
      · intro v hv
        simp only [Src.item] at hv
        split at hv
        · cases hv
          have en : (0 + (n : Int)) = (n : Int) := by omega
          rw [en]
          -- ended.append(free[n] - sum(..))
          walk_at "ms"
          refine ⟨ea, _, rfl, qe, ?_⟩
          walk_at "ms"
          refine ⟨fa, _, _, _, rfl, rfl, get_hp qf, by omega, by omega, getI (getD_some (by omega)), ?_⟩
          walk_at "ms"
          refine W_comp hc (by walk_at "m_shape") (WIt_list ?_)
          walk_at "ms"
          refine ⟨ba, _, rfl, qb, ?_⟩
          refine ⟨fun u acc _ => u ≤ bs.length ∧ acc = (((bs.take u).map fun lap => (toldN bs t many n).2.getD (n + lap) 0)).map .int, bs.length, by omega, by simp only [Src.ok]; rw [get_set, qb]; rfl, ⟨by omega, rfl⟩, ?_⟩
          rintro u acc hr ⟨hu, rfl⟩ hin2
          refine ⟨hu, ?_, ?_⟩
          · intro v C hv
            simp only [Src.item] at hv
            rw [get_set, qb] at hv
            obtain ⟨b, hbu, rfl⟩ : ∃ b, bs[u]? = some b ∧ v = V.int (b : Int) := by
              simp only [Option.bind_some, List.getElem?_map] at hv
              cases h : bs[u]? with
              | none => rw [h] at hv; cases hv
              | some b => rw [h] at hv; cases hv; exact ⟨b, rfl, rfl⟩
            have hbsz := hB b (List.mem_of_getElem? hbu)
            have hul : u < bs.length := (List.getElem?_eq_some_iff.mp hbu).1
            walk_at "ms"
            refine ⟨fun h => (by cases h), fun _ => ?_⟩
            walk_at "ms"
            refine ⟨ea, _, _, _, rfl, rfl, inner_get hin2 (by rw [get_set]; exact get_hp qe), by omega, by omega, getIz (k := n + b) (by omega) (getD_some (by omega)), ?_⟩
            refine ⟨by omega, ?_⟩
            rw [List.take_add_one, hbu]; simp
          · intro hv D hD hrD
            have hun : u = bs.length := by
              simp only [Src.item] at hv
              rw [get_set, qb] at hv
              have := List.getElem?_eq_none_iff.mp (show ((bs.map fun (b : Nat) => (b : Int)).map V.int)[u]? = Option.none from hv)
              simp only [List.length_map] at this; omega
            subst hun
            walk_at "ms"
            refine Cb_sum hc get_put_same ?_
            walk_at "ms"
            have hD' : c.get σ₂ D = Option.none := hD
            have K3 : Kp c [] σ₂ ((σ₂.join hr).put D ((((bs.take bs.length).map fun lap => (toldN bs t many n).2.getD (n + lap) 0)).map .int)) := Kp.alloc (Kp.join Kp.refl hin2) (join_none hD' hrD)
            have qe3 := K3.2 ea _ (by simp) qe
            have qf3 := K3.2 fa _ (by simp) qf
            have qb3 := K3.1 ba _ (by simp) qb
            refine ⟨_, qe3, by simp; omega, ?_⟩
            -- free.append(many * free[n + size - 1] - ended[n + size])
            walk_at "ms"
            refine ⟨fa, _, rfl, by rw [put_other nef]; exact qf3, ?_⟩
            walk_at "ms"
            refine ⟨fa, _, _, _, rfl, rfl, get_hp (by rw [put_other nef]; exact qf3), by omega, by omega, getIz (k := n + t - 1) (by omega) (getD_some (by omega)), ?_⟩
            refine Op_mul (IntMulOk.of_left (intBits_le_64 (by omega) (by omega))) ?_
            walk_at "ms"
            refine ⟨ea, _, _, _, rfl, rfl, get_put_same, by omega, by omega, (show _ = some (V.int ((toldN bs t many n).1.getD n 0 - (bs.map fun lap => (toldN bs t many n).2.getD (n + lap) 0).sum)) from by
              have e : ((n : Int) + (t : Int)).toNat = (((toldN bs t many n).2.map V.int)).length := by simp; omega
              rw [e, List.take_length, List.getElem?_append_right (Nat.le_refl _)]; simp), ?_⟩
            walk_at "ms"
            refine ⟨_, by rw [put_other nef]; exact qf3, by simp; omega, ?_⟩
            refine Wss_nil ?_
            refine ⟨by omega, by walk_at "m_loc", by walk_at "m_loc", by walk_at "m_loc", by walk_at "m_loc", by walk_at "m_loc", ?_, ?_, ?_⟩
            · rw [get_put_other (Ne.symm nfb), get_put_other neb]; exact qb3
            · rw [put_same]; simp [toldN]
            · rw [put_other (Ne.symm nef), put_same]; simp [toldN]
        · cases hv
      · intro hv
        have hnn : n = t + 1 := by
          simp only [Src.item] at hv
          split at hv
          · cases hv
          · omega
        subst hnn
        walk_at "ms"
        intro _ d hd
        have ndf : fa ≠ d := by rintro rfl; rw [get_hp qf] at hd; cases hd
        have nde : ea ≠ d := by rintro rfl; rw [get_hp qe] at hd; cases hd
        rw [hch] at qf qe
        exact ⟨_, rfl, d, rfl, LL.pair put_same (by rw [put_other ndf]; exact qf) (by rw [put_other nde]; exact qe)⟩
  · intro hk0
    have hk : k ≠ 0 := by simpa using hk0
    walk_at "ms"
    refine Cb_len (get_hp mb) (by simp; omega) ?_
    walk_at "ms"
    refine ⟨fun _ => ?_, fun h => (by
      have := of_decide_eq_false h
      simp at this; omega)⟩
    walk_at "ms"
    refine ⟨ba, _, rfl, mb, ?_⟩
    walk_at "ms"
    refine ⟨_, mb, by simp; omega, ?_⟩
    walk_at "ms"
    refine ⟨ta, _, _, _, rfl, rfl, by rw [get_put_other hbt]; exact mt, by omega, by omega, getIz (k := k - 1) (by omega) (htab (k - 1) (by omega)), ?_⟩
    have ek : k - 1 + 1 = k := by omega
    rw [ek]
    refine Wss_nil ?_
    have hlt := bord_lt p (Nat.pos_of_ne_zero hk)
    refine ⟨bord p k, hlt, by walk_at "m_loc", by walk_at "m_loc", by walk_at "m_loc", by walk_at "m_loc", by walk_at "m_loc", by rw [get_set, get_put_other hbt]; exact mt, bs ++ [k], by rw [hp_set, put_same]; simp, ?_, by simp; omega⟩
    rw [← hch, chain_pos p hk]; simp
end Mine

namespace Mine
open PySem PyProof.Rows

noncomputable def stepsN (rs ss : List Int) : List (List Nat) := (List.range rs.length).map fun k => ss.map fun s => stepF rs k s
theorem stepsOf_eq (rs ss : List Int) : stepsOf rs ss = upI (stepsN rs ss) := by
  simp [stepsOf, upI, stepsN, List.map_map, Function.comp_def]
/-- the plain law of statement 1 -/
def Main1 : Prop := ∀ (rs ss : List Int) (n : Nat), ss.Nodup → (∀ x ∈ rs, x ∈ ss) → 1 ≤ n → n ≤ rs.length →
  toldN (chain (fun i => rs.getD i 0) (bord (fun i => rs.getD i 0) n)) n (ss.length : Int) (n + 1) = (freeL (stepsN rs ss) n (2 * n), endedL (stepsN rs ss) n (2 * n))
def Alt1 : Prop := ∀ (t : Int) (m : Nat), 4 ≤ m → m ≤ 7 → tableOf ((List.replicate m [t, t + 1]).flatten ++ [t, t]) = [0, 0] ++ ((List.range (2 * m - 1)).map fun (i : Nat) => 1 + (i : Int)) ++ [1]

theorem repL_ints (l : List Int) (n : Nat) : repL (l.map V.int) n = ((List.replicate n l).flatten).map V.int := by
  unfold repL
  induction n with
  | zero => rfl
  | succ n ih => rw [List.replicate_succ, List.flatten_cons, ih, List.replicate_succ, List.flatten_cons]; simp
theorem fmod_nat (n m : Nat) (hm : 0 < m) : (n : Int).fmod (m : Int) = ((n % m : Nat) : Int) := by
  rw [Int.fmod_eq_emod_of_nonneg _ (by omega)]; rfl

-- a name's value is found
local macro_rules | `(tactic| walk_at "m_loc") => `(tactic| first | with_reducible exact loc_same | with_reducible assumption | (with_reducible apply loc_put; walk_at "m_loc") | (with_reducible apply loc_join; walk_at "m_loc") | (apply loc_other (by decide); walk_at "m_loc") | (apply innerLoc_of (by subst_vars; rfl); walk_at "m_loc"))
local macro_rules | `(tactic| walk_at "m_ok") => `(tactic| first | with_reducible assumption | exact Cx.Ok.inner (by assumption) rfl)
local macro_rules | `(tactic| walk_at "m_kind") => `(tactic| first | with_reducible assumption | (subst_vars; rfl))
local macro_rules | `(tactic| walk_at "m_shape") => `(tactic| exact ⟨rfl, by subst_vars; rfl, rfl, rfl, rfl⟩)
local macro_rules | `(tactic| walk_at "m_tgt") => `(tactic| first | with_reducible assumption | exact .inl (by assumption) | exact .inr (by assumption))
-- one step
local macro_rules | `(tactic| walk_at "m") => `(tactic| first
  | with_reducible refine WL_cons ?_
  | with_reducible refine WL_nil ?_
  | with_reducible refine WIfs_nil ?_
  | with_reducible refine WIfs_one ?_
  | with_reducible refine WP_none ?_
  | with_reducible refine WP_some ?_
  | with_reducible refine Wss_cons ?_
  | ((with_reducible show W _ (Expr.Name _ _) _ _); refine W_name (by walk_at "m_ok") (by walk_at "m_loc") ?_)
  | with_reducible refine W_int ?_
  | with_reducible refine W_bool ?_
  | with_reducible refine W_BinOp ?_
  | with_reducible refine Op_add ?_
  | with_reducible refine Op_sub ?_
  | with_reducible refine Cm_eq ?_
  | with_reducible refine Cm_ne ?_
  | with_reducible refine Cm_lt ?_
  | with_reducible refine Cm_ge ?_
  | with_reducible refine Cm_le ?_
  | ((with_reducible show Ws _ (Stmt.Assign [Expr.Name _ _] _ _) _ _); refine Ws_assign (by walk_at "m_ok") (by walk_at "m_tgt") ?_)
  | ((with_reducible show Ws _ (Stmt.Assign [Expr.Subscript _ _ _] _ _) _ _); refine Ws_assignAt ?_)
  | with_reducible refine Ws_return ?_
  | with_reducible refine Ws_break ?_
  | with_reducible refine Ws_if ?_
  | ((with_reducible show Ws _ (Stmt.Expr _ _) _ _); refine Ws_append (by walk_at "m_ok") ?_)
  | ((with_reducible show Wb _ (Expr.Compare _ _ _ _) _ _); refine Wb_Compare ?_)
  | ((with_reducible show Wb _ (Expr.BoolOp BoolOp.Or _ _) _ _); refine Wb_or ?_)
  | ((with_reducible show Wb _ (Expr.BoolOp BoolOp.And _ _) _ _); refine Wb_and ?_)
  | ((with_reducible show W _ (Expr.IfExp _ _ _ _) _ _); refine W_IfExp ?_)
  | ((with_reducible show W _ (Expr.List _ _) _ _); refine W_List rfl (by decide) ?_)
  | ((with_reducible show W _ (Expr.Call (Expr.Name (Str.ofString "len") _) _ _ _) _ _); refine W_callB (x := "len") (id := "len") (by walk_at "m_ok") (by assumption) ?_ (by simp [biTable]) (by walk_at "m_kind") rfl)
  | ((with_reducible show W _ (Expr.Call (Expr.Name (Str.ofString "max") _) _ _ _) _ _); refine W_callB (x := "max") (id := "max") (by walk_at "m_ok") (by assumption) ?_ (by simp [biTable]) (by walk_at "m_kind") rfl)
  | ((with_reducible show W _ (Expr.Call (Expr.Name (Str.ofString "min") _) _ _ _) _ _); refine W_callB (x := "min") (id := "min") (by walk_at "m_ok") (by assumption) ?_ (by simp [biTable]) (by walk_at "m_kind") rfl)
  | ((with_reducible show W _ (Expr.Call (Expr.Name (Str.ofString "sum") _) _ _ _) _ _); refine W_callB (x := "sum") (id := "sum") (by walk_at "m_ok") (by assumption) ?_ (by simp [biTable]) (by walk_at "m_kind") rfl)
  | ((with_reducible show W _ (Expr.Subscript _ (Expr.Slice _ _ none _) _) _ _); refine W_slice ?_ (fun o i => [i, o]))
  | ((with_reducible show W _ (Expr.Subscript _ (Expr.Slice _ _ _ _) _) _ _); refine W_slice ?_ (fun o i => [o, i]))
  | ((with_reducible show W _ (Expr.Subscript _ _ _) _ _); refine W_item ?_)
  | ((with_reducible show Wss _ [] _ _); refine Wss_nil ?_))
local macro_rules | `(tactic| walk_at "ms") => `(tactic| (walk_at "m"; repeat walk_at "m"))

set_option maxHeartbeats 8000000 in
theorem law1_run (hmain : Main1) (halt : Alt1) {c₀ : Cx} {mg : Str → Option Value} (hA : Lv 2 c₀.A) (T : TopOk c₀.ht mg) {σ₁ : St} {pm cd doc : Value} {L f : Addr}
    {f1 f3 f4 f5 : Addr} {pm1 cd1 doc1 pm3 cd3 doc3 pm4 cd4 doc4 pm5 cd5 doc5 : Value}
    (n1 : mg "_generate_overlap_table" = some (.ref f1)) (F1 : FnAt c₀.ht f1 (fdOf PySem.Challenge.pw_oc0404_01 1 pm1 cd1 doc1) (bodyOf PySem.Challenge.pw_oc0404_01 1) ["prefix"])
    (n3 : mg "_law_steps" = some (.ref f3)) (F3 : FnAt c₀.ht f3 (fdOf PySem.Challenge.pw_oc0404_01 3 pm3 cd3 doc3) (bodyOf PySem.Challenge.pw_oc0404_01 3) ["row", "signs"])
    (n4 : mg "_law_counted" = some (.ref f4)) (F4 : FnAt c₀.ht f4 (fdOf PySem.Challenge.pw_oc0404_01 4 pm4 cd4 doc4) (bodyOf PySem.Challenge.pw_oc0404_01 4) ["steps", "size"])
    (n5 : mg "_law_told" = some (.ref f5)) (F5 : FnAt c₀.ht f5 (fdOf PySem.Challenge.pw_oc0404_01 5 pm5 cd5 doc5) (bodyOf PySem.Challenge.pw_oc0404_01 5) ["table", "size", "many"])
    {a : Addr} {ns : List Int} (ha : c₀.get σ₁ a = some (ns.map .int)) (hz : ns.length ≤ 63) :
    Wss (callee c₀ σ₁ (fdOf PySem.Challenge.pw_oc0404_01 6 pm cd doc) L f) (bodyOf PySem.Challenge.pw_oc0404_01 6) (fun fl _ => ∃ v, fl = .ret v ∧ v = .bool true) ⟨argLoc ["script"] [.ref a], fun _ => Option.none⟩ := by
  obtain ⟨c, hcd⟩ : ∃ c, c = callee c₀ σ₁ (fdOf PySem.Challenge.pw_oc0404_01 6 pm cd doc) L f := ⟨_, rfl⟩
  rw [← hcd]
  have hc : c.Ok := by rw [hcd]; exact callee_ok (hA.less (by omega)) rfl rfl rfl
  have hA1 : Lv 1 c.A := by rw [hcd]; exact hA.deeper _
  have T' : TopOk c.ht mg := by rw [hcd]; exact T
  have F1 : FnAt c.ht f1 (fdOf PySem.Challenge.pw_oc0404_01 1 pm1 cd1 doc1) (bodyOf PySem.Challenge.pw_oc0404_01 1) ["prefix"] := by rw [hcd]; exact F1
  have F3 : FnAt c.ht f3 (fdOf PySem.Challenge.pw_oc0404_01 3 pm3 cd3 doc3) (bodyOf PySem.Challenge.pw_oc0404_01 3) ["row", "signs"] := by rw [hcd]; exact F3
  have F4 : FnAt c.ht f4 (fdOf PySem.Challenge.pw_oc0404_01 4 pm4 cd4 doc4) (bodyOf PySem.Challenge.pw_oc0404_01 4) ["steps", "size"] := by rw [hcd]; exact F4
  have F5 : FnAt c.ht f5 (fdOf PySem.Challenge.pw_oc0404_01 5 pm5 cd5 doc5) (bodyOf PySem.Challenge.pw_oc0404_01 5) ["table", "size", "many"] := by rw [hcd]; exact F5
  have t1 : Tgt c "total" := by rw [hcd]; exact .inr ⟨rfl, rfl, rfl⟩
  have t2 : Tgt c "base" := by rw [hcd]; exact .inr ⟨rfl, rfl, rfl⟩
  have t3 : Tgt c "size" := by rw [hcd]; exact .inl rfl
  have t4 : Tgt c "row" := by rw [hcd]; exact .inr ⟨rfl, rfl, rfl⟩
  have t5 : Tgt c "signs" := by rw [hcd]; exact .inl rfl
  have t6 : Tgt c "table" := by rw [hcd]; exact .inl rfl
  have t7 : Tgt c "turns" := by rw [hcd]; exact .inl rfl
  have t8 : Tgt c "steps" := by rw [hcd]; exact .inl rfl
  have t9 : Tgt c "n" := by rw [hcd]; exact .inl rfl
  have k1 : c.env.kindOf "sum" = some .globalImplicit := by rw [hcd]; rfl
  have k2 : c.env.kindOf "len" = some .globalImplicit := by rw [hcd]; rfl
  have k3 : c.env.kindOf "min" = some .globalImplicit := by rw [hcd]; rfl
  have k4 : c.env.kindOf "range" = some .globalImplicit := by rw [hcd]; rfl
  have k5 : c.env.kindOf "list" = some .globalImplicit := by rw [hcd]; rfl
  have k6 : c.env.kindOf "_generate_overlap_table" = some .globalImplicit := by rw [hcd]; rfl
  have k7 : c.env.kindOf "_law_steps" = some .globalImplicit := by rw [hcd]; rfl
  have k8 : c.env.kindOf "_law_told" = some .globalImplicit := by rw [hcd]; rfl
  have k9 : c.env.kindOf "_law_counted" = some .globalImplicit := by rw [hcd]; rfl
  dsimp only [bodyOf, PySem.Challenge.pw_oc0404_01, List.getElem?_cons_succ, List.getElem?_cons_zero]
  have l1 : (⟨argLoc ["script"] [.ref a], fun _ => Option.none⟩ : St).loc "script" = some (.ref a) := rfl
  have g1 : c.get ⟨argLoc ["script"] [.ref a], fun _ => Option.none⟩ a = some (ns.map .int) := by rw [get_ro rfl, hcd]; exact ha
  generalize (⟨argLoc ["script"] [.ref a], fun _ => Option.none⟩ : St) = σ at *
  have hsl : sizeLine = 2 ^ 24 := rfl
  -- total = sum(script)
  walk_at "ms"
  refine Cb_sum hc g1 ?_
  generalize ns.sum = total
  -- base = 2 + len(script) % 2
  walk_at "ms"
  refine Cb_len g1 (by simp; omega) ?_
  walk_at "ms"
  refine Op_mod (by decide) ?_
  walk_at "ms"
  have e1 : (2 + ((ns.map V.int).length : Int).fmod 2) = ((2 + ns.length % 2 : Nat) : Int) := by
    rw [List.length_map, show (2 : Int) = ((2 : Nat) : Int) from rfl, fmod_nat _ _ (by decide)]; omega
  rw [e1]
  have hnb : 2 + ns.length % 2 = 2 ∨ 2 + ns.length % 2 = 3 := by omega
  generalize 2 + ns.length % 2 = nb at *
  -- size = min(len(script), 6) + 2
  refine Cb_len g1 (by simp; omega) ?_
  walk_at "ms"
  refine Cb_min2 hc ?_
  walk_at "ms"
  obtain ⟨size, hsz, hs2, hs8⟩ : ∃ size : Nat, (if (6 : Int) < ((ns.map V.int).length : Int) then 6 else ((ns.map V.int).length : Int)) + 2 = (size : Int) ∧ 2 ≤ size ∧ size ≤ 8 := by
    rw [List.length_map]
    by_cases h : (6 : Int) < (ns.length : Int)
    · exact ⟨8, by rw [if_pos h]; rfl, by omega, by omega⟩
    · exact ⟨ns.length + 2, by rw [if_neg h]; omega, by omega, by omega⟩
  rw [hsz]
  -- row = [..]
  refine Ws_assign hc t4 (W_comp hc (by walk_at "m_shape") (WIt_range1 hc T' ?_ k4)) (by subst_vars; rfl)
  walk_at "ms"
  refine ⟨_, rfl, by omega, by omega, ?_⟩
  have e2 : ((size : Int)).toNat = size := by omega
  rw [e2]
  refine ⟨fun t acc _ => t ≤ size ∧ ∃ rl : List Nat, rl.length = t ∧ (∀ r ∈ rl, r < nb) ∧ acc = (rl.map fun (r : Nat) => total + (r : Int)).map .int, size, by omega, trivial, ⟨by omega, [], rfl, (fun r h => by cases h), rfl⟩, ?_⟩
  rintro t acc hq ⟨ht, rl, hrl, hrb, rfl⟩ hin
  refine ⟨ht, ?_, ?_⟩
  · intro v C hv
    simp only [Src.item] at hv
    split at hv
    · cases hv
      walk_at "ms"
      refine ⟨fun h => (by cases h), fun _ => ?_⟩
      walk_at "ms"
      refine ⟨_, rfl, ?_⟩
      walk_at "ms"
      refine ⟨_, rfl, ?_⟩
      refine ⟨a, _, rfl, inner_get hin g1, by simp; omega, by simp, ?_⟩
      obtain ⟨ms, hms⟩ := pick_ints ns (some (0 + (t : Int))) Option.none (some 8)
      rw [hms]
      intro d hd
      walk_at "ms"
      refine Cb_sum (hc.inner rfl) get_put_same ?_
      walk_at "ms"
      refine Op_mod (by omega) ?_
      walk_at "ms"
      have p0 := Int.fmod_nonneg_of_pos ms.sum (show (0 : Int) < (nb : Int) by omega)
      have p1 := Int.fmod_lt_of_pos ms.sum (show (0 : Int) < (nb : Int) by omega)
      refine ⟨by omega, rl ++ [(ms.sum.fmod (nb : Int)).toNat], by simp [hrl], ?_, ?_⟩
      · intro r hr
        rcases List.mem_append.mp hr with h | h
        · exact hrb r h
        · rw [List.mem_singleton.mp h]; omega
      · have : (((ms.sum.fmod (nb : Int)).toNat : Nat) : Int) = ms.sum.fmod (nb : Int) := by omega
        simp [this]
    · cases hv
  intro hv ra hra hqa
  have htn : t = size := by
    simp only [Src.item] at hv
    split at hv
    · cases hv
    · omega
  subst htn
  generalize hrs : (rl.map fun (r : Nat) => total + (r : Int)) = rs at *
  have hrlen : rs.length = t := by rw [← hrs]; simp [hrl]
  have hrin : ∀ x ∈ rs, ∃ r : Nat, r < nb ∧ x = total + (r : Int) := by
    intro x hx
    rw [← hrs] at hx
    obtain ⟨r, hr, rfl⟩ := List.mem_map.mp hx
    exact ⟨r, hrb r hr, rfl⟩
  have K1 : Kp c [] σ ((((((σ.set "total" (.int total)).set "base" (.int (nb : Int))).set "size" (.int (t : Int))).join hq).put ra (rs.map .int)).set "row" (.ref ra)) :=
    Kp.alloc (Kp.join (σ' := ((σ.set "total" (.int total)).set "base" (.int (nb : Int))).set "size" (.int (t : Int))) Kp.refl hin) (join_none hra hqa)
  have m1 : St.loc ((((((σ.set "total" (.int total)).set "base" (.int (nb : Int))).set "size" (.int (t : Int))).join hq).put ra (rs.map .int)).set "row" (.ref ra)) "script" = some (.ref a) := by walk_at "m_loc"
  have m2 : St.loc ((((((σ.set "total" (.int total)).set "base" (.int (nb : Int))).set "size" (.int (t : Int))).join hq).put ra (rs.map .int)).set "row" (.ref ra)) "total" = some (.int total) := by walk_at "m_loc"
  have m3 : St.loc ((((((σ.set "total" (.int total)).set "base" (.int (nb : Int))).set "size" (.int (t : Int))).join hq).put ra (rs.map .int)).set "row" (.ref ra)) "base" = some (.int (nb : Int)) := by walk_at "m_loc"
  have m4 : St.loc ((((((σ.set "total" (.int total)).set "base" (.int (nb : Int))).set "size" (.int (t : Int))).join hq).put ra (rs.map .int)).set "row" (.ref ra)) "size" = some (.int (t : Int)) := by walk_at "m_loc"
  have m5 : St.loc ((((((σ.set "total" (.int total)).set "base" (.int (nb : Int))).set "size" (.int (t : Int))).join hq).put ra (rs.map .int)).set "row" (.ref ra)) "row" = some (.ref ra) := by walk_at "m_loc"
  have gr : c.get ((((((σ.set "total" (.int total)).set "base" (.int (nb : Int))).set "size" (.int (t : Int))).join hq).put ra (rs.map .int)).set "row" (.ref ra)) ra = some (rs.map .int) := get_put_same
  have gs := K1.1 a _ (by simp) g1
  generalize (((((σ.set "total" (.int total)).set "base" (.int (nb : Int))).set "size" (.int (t : Int))).join hq).put ra (rs.map .int)).set "row" (.ref ra) = σ₂ at *
  clear K1 hin hra hqa hv l1 g1 hrb hrl hrs
  -- signs = [..]
  walk_at "m"
  refine Ws_assignComp hc (by walk_at "m_shape") t5 (WIt_range1 hc T' ?_ k4) (by subst_vars; rfl)
  walk_at "ms"
  refine Op_mod (by decide) ?_
  walk_at "ms"
  have p0 := Int.fmod_nonneg_of_pos total (show (0 : Int) < 2 by decide)
  have p1 := Int.fmod_lt_of_pos total (show (0 : Int) < 2 by decide)
  refine ⟨_, rfl, by omega, by omega, ?_⟩
  obtain ⟨mn, hmn, hmn1, hmn2⟩ : ∃ mn : Nat, ((nb : Int) + total.fmod 2).toNat = mn ∧ nb ≤ mn ∧ mn ≤ nb + 1 := ⟨_, rfl, by omega, by omega⟩
  rw [hmn]
  refine ⟨fun u acc _ => u ≤ mn ∧ acc = ((List.range u).map fun (k : Nat) => total + (k : Int)).map .int, mn, by omega, trivial, ⟨by omega, rfl⟩, ?_⟩
  rintro u acc hq2 ⟨hu, rfl⟩ hin2
  refine ⟨hu, ?_, ?_⟩
  · intro v C hv
    simp only [Src.item] at hv
    split at hv
    · cases hv
      walk_at "ms"
      refine ⟨fun h => (by cases h), fun _ => ?_⟩
      walk_at "ms"
      refine ⟨by omega, ?_⟩
      rw [List.range_succ]; simp
    · cases hv
  intro hv sa hsa hqsa
  have hun : u = mn := by
    simp only [Src.item] at hv
    split at hv
    · cases hv
    · omega
  subst hun
  have K2 : Kp c [] σ₂ (((σ₂.join hq2).put sa (((List.range u).map fun (k : Nat) => total + (k : Int)).map .int)).set "signs" (.ref sa)) := Kp.alloc (Kp.join Kp.refl hin2) (join_none hsa hqsa)
  generalize hss : ((List.range u).map fun (k : Nat) => total + (k : Int)) = ss at *
  have hsslen : ss.length = u := by rw [← hss]; simp
  have hnod : ss.Nodup := by
    rw [← hss]
    unfold List.Nodup
    rw [List.pairwise_map]
    exact List.Pairwise.imp (fun h e => h (by omega)) (List.nodup_range (n := u))
  have hsub : ∀ x ∈ rs, x ∈ ss := by
    intro x hx
    obtain ⟨r, hr, rfl⟩ := hrin x hx
    rw [← hss]
    exact List.mem_map.mpr ⟨r, List.mem_range.mpr (by omega), rfl⟩
  have o1 : St.loc (((σ₂.join hq2).put sa (ss.map .int)).set "signs" (.ref sa)) "script" = some (.ref a) := by walk_at "m_loc"
  have o2 : St.loc (((σ₂.join hq2).put sa (ss.map .int)).set "signs" (.ref sa)) "total" = some (.int total) := by walk_at "m_loc"
  have o4 : St.loc (((σ₂.join hq2).put sa (ss.map .int)).set "signs" (.ref sa)) "size" = some (.int (t : Int)) := by walk_at "m_loc"
  have o5 : St.loc (((σ₂.join hq2).put sa (ss.map .int)).set "signs" (.ref sa)) "row" = some (.ref ra) := by walk_at "m_loc"
  have o6 : St.loc (((σ₂.join hq2).put sa (ss.map .int)).set "signs" (.ref sa)) "signs" = some (.ref sa) := by walk_at "m_loc"
  have gss : c.get (((σ₂.join hq2).put sa (ss.map .int)).set "signs" (.ref sa)) sa = some (ss.map .int) := get_put_same
  have gs2 := K2.1 a _ (by simp) gs
  have gr2 := K2.1 ra _ (by simp) gr
  generalize ((σ₂.join hq2).put sa (ss.map .int)).set "signs" (.ref sa) = σ₃ at *
  clear K2 hin2 hsa hqsa hv m1 m2 m3 m4 m5 gr gs hss
  -- table = _generate_overlap_table(list(row))
  walk_at "ms"
  refine W_call hc hA1 T' F1 n1 k6 rfl ?_
  walk_at "m"
  refine W_callT (x := "list") (id := "list") hc T' ?_ (by simp [biTable]) k5 rfl
  walk_at "ms"
  refine Cb_list gr2 (by simp; omega) ?_
  intro d₁ hd₁
  walk_at "ms"
  refine ⟨rfl, fun v hp => ∃ d, v = .ref d ∧ hp d = some ((tableOf rs).map .int), fun L => ovl_run hA1 T' get_put_same (by omega), ?_⟩
  rintro v hp1 ⟨ta, rfl, hta⟩ hg1
  have K3 : Kp c [] σ₃ (((σ₃.put d₁ (rs.map .int)).join hp1).set "table" (.ref ta)) := Kp.join (Kp.alloc Kp.refl hd₁) hg1
  have gt : c.get (((σ₃.put d₁ (rs.map .int)).join hp1).set "table" (.ref ta)) ta = some ((tableOf rs).map .int) := get_hp (join_new hg1 hta)
  have q1 : St.loc (((σ₃.put d₁ (rs.map .int)).join hp1).set "table" (.ref ta)) "script" = some (.ref a) := by walk_at "m_loc"
  have q2 : St.loc (((σ₃.put d₁ (rs.map .int)).join hp1).set "table" (.ref ta)) "total" = some (.int total) := by walk_at "m_loc"
  have q4 : St.loc (((σ₃.put d₁ (rs.map .int)).join hp1).set "table" (.ref ta)) "size" = some (.int (t : Int)) := by walk_at "m_loc"
  have q5 : St.loc (((σ₃.put d₁ (rs.map .int)).join hp1).set "table" (.ref ta)) "row" = some (.ref ra) := by walk_at "m_loc"
  have q6 : St.loc (((σ₃.put d₁ (rs.map .int)).join hp1).set "table" (.ref ta)) "signs" = some (.ref sa) := by walk_at "m_loc"
  have q7 : St.loc (((σ₃.put d₁ (rs.map .int)).join hp1).set "table" (.ref ta)) "table" = some (.ref ta) := by walk_at "m_loc"
  have gs3 := K3.1 a _ (by simp) gs2
  have gr3 := K3.1 ra _ (by simp) gr2
  have gss3 := K3.1 sa _ (by simp) gss
  generalize ((σ₃.put d₁ (rs.map .int)).join hp1).set "table" (.ref ta) = σ₄ at *
  clear K3 hg1 hta hd₁ o1 o2 o4 o5 o6 gss gs2 gr2
  -- if len(table) != size or min(table) != 0
  walk_at "ms"
  refine Cb_len gt (by simp [tableOf_length]; omega) ?_
  walk_at "ms"
  have e3 : decide (((((tableOf rs).map V.int).length : Nat) : Int) = (t : Int)) = true := by simp [tableOf_length, hrlen]
  rw [e3]
  refine ⟨fun h => (by cases h), fun _ => ?_⟩
  walk_at "ms"
  have htab0 : (tableOf rs)[0]? = some 0 := by rw [tableOf_get (by omega), bord_one]; rfl
  refine Cb_min hc gt (fun h => by rw [h] at htab0; cases htab0) ?_
  intro m hm hmin
  have hm0 : m = 0 := by
    have h1 := hmin 0 (List.mem_of_getElem? htab0)
    have h2 : 0 ≤ m := by
      simp only [tableOf, List.mem_map] at hm
      obtain ⟨j, _, rfl⟩ := hm
      omega
    omega
  subst hm0
  walk_at "ms"
  refine ⟨fun h => (by cases h), fun _ => ?_⟩
  walk_at "ms"
  -- if [.. for k in range(2)] != [[], [0]]
  refine W_comp hc (by walk_at "m_shape") (WIt_range1 hc T' ?_ k4)
  walk_at "ms"
  refine ⟨_, rfl, by omega, by omega, ?_⟩
  refine ⟨fun u acc hp => u ≤ 2 ∧ ∃ as : List Addr, acc = as.map .ref ∧ as.length = u ∧ ∀ (j : Nat) (b : Addr), as[j]? = some b → hp b = some ((tableOf (rs.take j)).map .int), 2, by omega, trivial, ⟨by omega, [], rfl, rfl, fun j b h => by simp at h⟩, ?_⟩
  rintro v acc hq3 ⟨hv2, as, rfl, has, hval⟩ hin3
  refine ⟨hv2, ?_, ?_⟩
  · intro x C hx
    simp only [Src.item] at hx
    split at hx
    · rename_i hlt
      cases hx
      have hlt' : v < 2 := hlt
      walk_at "ms"
      refine ⟨fun h => (by cases h), fun _ => ?_⟩
      refine W_call (c := c.inner _ _ C) (hc.inner rfl) hA1 T' F1 n1 (by subst_vars; rfl) rfl ?_
      walk_at "ms"
      refine ⟨_, rfl, ?_⟩
      walk_at "ms"
      refine ⟨ra, _, rfl, inner_get hin3 gr3, by simp; omega, by simp, ?_⟩
      rw [pick_upto (by omega)]
      intro d hd
      have ev : List.take (0 + (v : Int)).toNat (rs.map V.int) = (rs.take v).map V.int := by
        have : (0 + (v : Int)).toNat = v := by omega
        rw [this]; simp
      rw [ev]
      walk_at "ms"
      refine ⟨rfl, fun v' hp => ∃ d, v' = .ref d ∧ hp d = some ((tableOf (rs.take v)).map .int), fun L => ovl_run (c₀ := c.inner _ _ C) hA1 T' get_put_same (by simp; omega), ?_⟩
      rintro v' hp' ⟨d', rfl, hd'⟩ hg'
      refine ⟨by omega, as ++ [d'], by simp, by simp; omega, ?_⟩
      intro j b hj
      by_cases hjn : j = as.length
      · subst hjn
        simp at hj; subst hj
        rw [has]
        exact join_new hg' hd'
      · have hjlt : j < as.length := by
          have := (List.getElem?_eq_some_iff.mp hj).1
          simp at this; omega
        rw [List.getElem?_append_left hjlt] at hj
        exact join_hp (put_new_hp hd (hval j b hj))
    · cases hx
  intro hx D hD hqD
  have hv2' : v = 2 := by
    simp only [Src.item] at hx
    split at hx
    · cases hx
    · rename_i h; have : ¬ v < 2 := h; omega
  subst hv2'
  have K4 : Kp c [] σ₄ ((σ₄.join hq3).put D (as.map .ref)) := Kp.alloc (Kp.join Kp.refl hin3) (join_none hD hqD)
  have hLL : LL (c.get ((σ₄.join hq3).put D (as.map .ref))) D [[], [0]] := by
    refine ⟨as, get_put_same, by simp [has], ?_⟩
    intro j b l h1 h2
    have hjl := (List.getElem?_eq_some_iff.mp h1).1
    have hb := hval j b h1
    have : c.get ((σ₄.join hq3).put D (as.map .ref)) b = some ((tableOf (rs.take j)).map .int) := get_put_new (join_none hD hqD) (get_hp (join_new hin3 hb))
    rw [this]
    have hj : j = 0 ∨ j = 1 := by omega
    rcases hj with rfl | rfl
    · simp at h2; subst h2
      simp [tableOf]
    · simp at h2; subst h2
      have : (rs.take 1).length = 1 := by simp; omega
      simp only [tableOf, this]
      simp [bord_one]
  walk_at "ms"
  intro _ e₁ he₁
  walk_at "ms"
  intro _ e₂ he₂
  walk_at "ms"
  intro _ e₃ he₃
  have hLL2 : LL (c.get ((((((σ₄.join hq3).put D (as.map .ref)).put e₁ []).put e₂ [V.int 0])).put e₃ [V.ref e₁, V.ref e₂])) e₃ [[], [0]] :=
    LL.pair get_put_same (get_put_new he₃ (get_put_new he₂ get_put_same)) (get_put_new he₃ get_put_same)
  have hLL1 : LL (c.get ((((((σ₄.join hq3).put D (as.map .ref)).put e₁ []).put e₂ [V.int 0])).put e₃ [V.ref e₁, V.ref e₂])) D [[], [0]] :=
    hLL.mono fun b l h => get_put_new he₃ (get_put_new he₂ (get_put_new he₁ h))
  have K5 := ((K4.alloc (l := []) he₁).alloc (l := [V.int 0]) he₂).alloc (l := [V.ref e₁, V.ref e₂]) he₃
  refine Cm_neD hc hLL1.has hLL2.has (shaped_LL _) (shaped_LL _) ?_
  rw [eqv_LL]
  refine ⟨fun h => (by cases h), fun _ => ?_⟩
  have r1 : St.loc ((((((σ₄.join hq3).put D (as.map .ref)).put e₁ []).put e₂ [V.int 0])).put e₃ [V.ref e₁, V.ref e₂]) "script" = some (.ref a) := by walk_at "m_loc"
  have r2 : St.loc ((((((σ₄.join hq3).put D (as.map .ref)).put e₁ []).put e₂ [V.int 0])).put e₃ [V.ref e₁, V.ref e₂]) "total" = some (.int total) := by walk_at "m_loc"
  have r4 : St.loc ((((((σ₄.join hq3).put D (as.map .ref)).put e₁ []).put e₂ [V.int 0])).put e₃ [V.ref e₁, V.ref e₂]) "size" = some (.int (t : Int)) := by walk_at "m_loc"
  have r5 : St.loc ((((((σ₄.join hq3).put D (as.map .ref)).put e₁ []).put e₂ [V.int 0])).put e₃ [V.ref e₁, V.ref e₂]) "row" = some (.ref ra) := by walk_at "m_loc"
  have r6 : St.loc ((((((σ₄.join hq3).put D (as.map .ref)).put e₁ []).put e₂ [V.int 0])).put e₃ [V.ref e₁, V.ref e₂]) "signs" = some (.ref sa) := by walk_at "m_loc"
  have r7 : St.loc ((((((σ₄.join hq3).put D (as.map .ref)).put e₁ []).put e₂ [V.int 0])).put e₃ [V.ref e₁, V.ref e₂]) "table" = some (.ref ta) := by walk_at "m_loc"
  have gs4 := K5.1 a _ (by simp) gs3
  have gr4 := K5.1 ra _ (by simp) gr3
  have gss4 := K5.1 sa _ (by simp) gss3
  have gt4 := K5.1 ta _ (by simp) gt
  generalize (((((σ₄.join hq3).put D (as.map .ref)).put e₁ []).put e₂ [V.int 0])).put e₃ [V.ref e₁, V.ref e₂] = σ₅ at *
  clear K4 K5 hLL hLL1 hLL2 he₁ he₂ he₃ hD hqD hx hin3 hval q1 q2 q4 q5 q6 q7 gt gs3 gr3 gss3
  -- turns = 4 + len(script) % 4
  walk_at "ms"
  refine Cb_len gs4 (by simp; omega) ?_
  walk_at "ms"
  refine Op_mod (by decide) ?_
  walk_at "ms"
  have e5 : (4 + ((ns.map V.int).length : Int).fmod 4) = ((4 + ns.length % 4 : Nat) : Int) := by
    rw [List.length_map, show (4 : Int) = ((4 : Nat) : Int) from rfl, fmod_nat _ _ (by decide)]; omega
  rw [e5]
  have htn4 : 4 ≤ 4 + ns.length % 4 ∧ 4 + ns.length % 4 ≤ 7 := by omega
  generalize 4 + ns.length % 4 = tn at *
  -- if _generate_overlap_table([total, total + 1] * turns + [total, total]) != ..
  refine W_call hc hA1 T' F1 n1 k6 rfl ?_
  walk_at "ms"
  intro _ d₁ hd₁
  walk_at "ms"
  refine Op_mulL put_same (by omega) (by omega) (by simp; omega) ?_
  intro d₂ hd₂
  walk_at "ms"
  intro _ d₃ hd₃
  have el : (repL [V.int total, V.int (total + 1)] ((tn : Int)).toNat) = ((List.replicate tn [total, total + 1]).flatten).map V.int := by
    have : ((tn : Int)).toNat = tn := by omega
    rw [this]
    exact repL_ints [total, total + 1] tn
  have ell : ((List.replicate tn [total, total + 1]).flatten).length = 2 * tn := by
    rw [List.length_flatten]; simp; omega
  rw [el] at hd₃
  rw [el]
  refine Op_addL (get_put_new hd₃ get_put_same) get_put_same (by rw [List.length_map, ell]; simp; omega) ?_
  intro d₄ hd₄
  walk_at "ms"
  refine ⟨rfl, fun v hp => ∃ d, v = .ref d ∧ hp d = some ((tableOf ((List.replicate tn [total, total + 1]).flatten ++ [total, total])).map .int), fun L => ovl_run hA1 T' (by rw [get_put_same]; simp) (by rw [List.length_append, ell]; simp; omega), ?_⟩
  rintro v hp1 ⟨tb, rfl, htb⟩ hg1
  rw [halt total tn htn4.1 htn4.2] at htb
  have K6 := Kp.join ((((Kp.alloc (l := [V.int total, V.int (total + 1)]) (Kp.refl (c := c) (M := []) (σ := σ₅.set "turns" (V.int (tn : Int)))) hd₁).alloc (l := ((List.replicate tn [total, total + 1]).flatten).map V.int) hd₂).alloc (l := [V.int total, V.int total]) hd₃).alloc (l := ((List.replicate tn [total, total + 1]).flatten).map V.int ++ [V.int total, V.int total]) hd₄) hg1
  have gtb := get_hp (c := c) (join_new hg1 htb)
  have x2 : St.loc ((((((σ₅.set "turns" (V.int (tn : Int))).put d₁ [V.int total, V.int (total + 1)]).put d₂ (((List.replicate tn [total, total + 1]).flatten).map V.int)).put d₃ [V.int total, V.int total]).put d₄ (((List.replicate tn [total, total + 1]).flatten).map V.int ++ [V.int total, V.int total])).join hp1) "turns" = some (V.int (tn : Int)) := by walk_at "m_loc"
  have x4 : St.loc ((((((σ₅.set "turns" (V.int (tn : Int))).put d₁ [V.int total, V.int (total + 1)]).put d₂ (((List.replicate tn [total, total + 1]).flatten).map V.int)).put d₃ [V.int total, V.int total]).put d₄ (((List.replicate tn [total, total + 1]).flatten).map V.int ++ [V.int total, V.int total])).join hp1) "size" = some (V.int (t : Int)) := by walk_at "m_loc"
  have x5 : St.loc ((((((σ₅.set "turns" (V.int (tn : Int))).put d₁ [V.int total, V.int (total + 1)]).put d₂ (((List.replicate tn [total, total + 1]).flatten).map V.int)).put d₃ [V.int total, V.int total]).put d₄ (((List.replicate tn [total, total + 1]).flatten).map V.int ++ [V.int total, V.int total])).join hp1) "row" = some (V.ref ra) := by walk_at "m_loc"
  have x6 : St.loc ((((((σ₅.set "turns" (V.int (tn : Int))).put d₁ [V.int total, V.int (total + 1)]).put d₂ (((List.replicate tn [total, total + 1]).flatten).map V.int)).put d₃ [V.int total, V.int total]).put d₄ (((List.replicate tn [total, total + 1]).flatten).map V.int ++ [V.int total, V.int total])).join hp1) "signs" = some (V.ref sa) := by walk_at "m_loc"
  have x7 : St.loc ((((((σ₅.set "turns" (V.int (tn : Int))).put d₁ [V.int total, V.int (total + 1)]).put d₂ (((List.replicate tn [total, total + 1]).flatten).map V.int)).put d₃ [V.int total, V.int total]).put d₄ (((List.replicate tn [total, total + 1]).flatten).map V.int ++ [V.int total, V.int total])).join hp1) "table" = some (V.ref ta) := by walk_at "m_loc"
  have gr5 := K6.1 ra _ (by simp) gr4
  have gss5 := K6.1 sa _ (by simp) gss4
  have gt5 := K6.1 ta _ (by simp) gt4
  generalize (((((σ₅.set "turns" (V.int (tn : Int))).put d₁ [V.int total, V.int (total + 1)]).put d₂ (((List.replicate tn [total, total + 1]).flatten).map V.int)).put d₃ [V.int total, V.int total]).put d₄ (((List.replicate tn [total, total + 1]).flatten).map V.int ++ [V.int total, V.int total])).join hp1 = σ₆ at *
  clear K6 hd₁ hd₂ hd₃ hd₄ hg1 htb r1 r2 r4 r5 r6 r7 gr4 gss4 gt4 gs4
  walk_at "ms"
  intro _ e₁ he₁
  refine W_listRange2 hc T' ?_ k4 k5
  walk_at "ms"
  refine Op_mul (IntMulOk.of_left (by decide)) ?_
  refine ⟨1, _, rfl, rfl, by omega, by omega, by omega, by omega, by omega, ?_⟩
  intro e₂ he₂
  refine Op_addL (get_put_new he₂ get_put_same) get_put_same (by simp; omega) ?_
  intro e₃ he₃
  walk_at "ms"
  intro _ e₄ he₄
  refine Op_addL (get_put_new he₄ get_put_same) get_put_same (by simp; omega) ?_
  intro e₅ he₅
  have etn : (2 * (tn : Int) - 1).toNat = 2 * tn - 1 := by omega
  refine Cm_neI hc (get_put_new he₅ (get_put_new he₄ (get_put_new he₃ (get_put_new he₂ (get_put_new he₁ gtb)))))
    (ms := [0, 0] ++ ((List.range (2 * tn - 1)).map fun (i : Nat) => 1 + (i : Int)) ++ [1]) (by rw [get_put_same, etn]; simp) ?_
  rw [decide_eq_true rfl]
  refine ⟨fun h => (by cases h), fun _ => ?_⟩
  -- steps = _law_steps(row, signs)
  walk_at "ms"
  refine W_call hc hA1 T' F3 n3 k7 rfl ?_
  walk_at "ms"
  refine ⟨rfl, fun v hp => ∃ d, v = .ref d ∧ LL hp d (stepsOf rs ss), fun L => steps_run hA1 T' (get_put_new he₅ (get_put_new he₄ (get_put_new he₃ (get_put_new he₂ (get_put_new he₁ gr5))))) (get_put_new he₅ (get_put_new he₄ (get_put_new he₃ (get_put_new he₂ (get_put_new he₁ gss5))))) (by omega) (by omega), ?_⟩
  rintro v hp3 ⟨st, rfl, hst⟩ hg3
  rw [stepsOf_eq] at hst
  -- for n in range(1, size + 1)
  walk_at "m"
  refine Ws_for hc t9 (WIt_range2 hc T' ?_ k4)
  walk_at "ms"
  refine ⟨1, _, rfl, rfl, by omega, by omega, by omega, by omega, ?_⟩
  refine ⟨fun i σ' => i ≤ t ∧ σ'.loc "table" = some (.ref ta) ∧ σ'.loc "signs" = some (.ref sa) ∧ σ'.loc "steps" = some (.ref st) ∧ c.get σ' ta = some ((tableOf rs).map .int) ∧ c.get σ' sa = some (ss.map .int) ∧ LL (c.get σ') st (upI (stepsN rs ss)), t,
    ⟨by omega, by walk_at "m_loc", by walk_at "m_loc", by walk_at "m_loc", join_get hg3 (get_put_new he₅ (get_put_new he₄ (get_put_new he₃ (get_put_new he₂ (get_put_new he₁ gt5))))),
      join_get hg3 (get_put_new he₅ (get_put_new he₄ (get_put_new he₃ (get_put_new he₂ (get_put_new he₁ gss5))))), hst.mono fun b l h => get_hp (join_new hg3 h)⟩, ?_⟩
  rintro i σ' ⟨hi, y1, y2, y3, gy1, gy2, gy3⟩
  refine ⟨hi, trivial, ?_, ?_⟩
  · intro v hv
    simp only [Src.item] at hv
    split at hv
    · rename_i hlt
      cases hv
      have hlt' : i < t := by omega
      have ei : (1 + (i : Int)) = ((i + 1 : Nat) : Int) := by omega
      rw [ei]
      walk_at "ms"
      refine W_call hc hA1 T' F5 n5 k8 rfl ?_
      walk_at "ms"
      refine Cb_len gy2 (by simp; omega) ?_
      walk_at "ms"
      refine ⟨rfl, fun v hp => ∃ d, v = .ref d ∧ LL hp d [freeL (stepsN rs ss) (i + 1) (2 * (i + 1)), endedL (stepsN rs ss) (i + 1) (2 * (i + 1))], fun L => ?_, ?_⟩
      · have h := told_run (pm := pm5) (cd := cd5) (doc := doc5) (L := L) (f := f5) (size := i + 1) (many := ((ss.map V.int).length : Int)) hA1 T' (show c.get (σ'.set "n" (V.int ((i + 1 : Nat) : Int))) ta = _ from gy1) (by omega) (by omega) (by omega) (by omega) (by simp; omega)
        have hm := hmain rs ss (i + 1) hnod hsub (by omega) (by omega)
        rw [List.length_map] at h ⊢
        rw [hm] at h
        exact h
      rintro v hpT ⟨dT, rfl, hdT⟩ hgT
      refine W_call hc hA1 T' F4 n4 k9 rfl ?_
      walk_at "ms"
      refine ⟨rfl, fun v hp => ∃ d, v = .ref d ∧ LL hp d [freeL (stepsN rs ss) (i + 1) (2 * (i + 1)), endedL (stepsN rs ss) (i + 1) (2 * (i + 1))], fun L => ?_, ?_⟩
      · refine counted_run hA1 T' (gy3.mono fun b l h => join_get hgT h) (by omega) (by omega) (by simp [stepsN]; omega) (by simp [stepsN]; omega) ?_
        intro k r hk hr
        simp only [stepsN, List.getElem?_map] at hr
        rw [List.getElem?_range (by omega)] at hr
        simp only [Option.map_some, Option.some.injEq] at hr
        subst hr
        refine ⟨by simp; omega, ?_⟩
        intro b hb
        obtain ⟨s, _, rfl⟩ := List.mem_map.mp hb
        have := (stepF_spec rs s (n := k) (by omega)).1.1
        omega
      rintro v hpC ⟨dC, rfl, hdC⟩ hgC
      refine Cm_neD hc (LL.has (hdT.mono fun b l h => join_get hgC (get_hp (join_new hgT h)))) (LL.has (hdC.mono fun b l h => get_hp (join_new hgC h))) (shaped_LL _) (shaped_LL _) ?_
      rw [eqv_LL]
      refine ⟨fun h => (by cases h), fun _ => ?_⟩
      walk_at "ms"
      refine ⟨by omega, by walk_at "m_loc", by walk_at "m_loc", by walk_at "m_loc", join_get hgC (join_get hgT gy1), join_get hgC (join_get hgT gy2), gy3.mono fun b l h => join_get hgC (join_get hgT h)⟩
    · cases hv
  · intro hv
    walk_at "ms"
    exact ⟨_, rfl, rfl⟩
end Mine

namespace Mine

/-- a sum over 0 .. n - 1 -/
def S : Nat → (Nat → Int) → Int
  | 0, _ => 0
  | n + 1, f => S n f + f n
theorem S_congr {n : Nat} {f g : Nat → Int} (h : ∀ k, k < n → f k = g k) : S n f = S n g := by
  induction n with
  | zero => rfl
  | succ n ih => rw [S, S, ih (fun k hk => h k (by omega)), h n (by omega)]
theorem S_add (n : Nat) (f g : Nat → Int) : S n (fun k => f k + g k) = S n f + S n g := by
  induction n with
  | zero => rfl
  | succ n ih => rw [S, S, S, ih]; omega
theorem S_mul (n : Nat) (c : Int) (f : Nat → Int) : S n (fun k => c * f k) = c * S n f := by
  induction n with
  | zero => simp [S]
  | succ n ih => rw [S, S, ih, Int.mul_add]
theorem S_zero (n : Nat) : S n (fun _ => 0) = 0 := by
  induction n with
  | zero => rfl
  | succ n ih => rw [S, ih]; rfl
theorem S_one {n j : Nat} (hj : j < n) (f : Nat → Int) (h : ∀ k, k < n → k ≠ j → f k = 0) : S n f = f j := by
  induction n with
  | zero => omega
  | succ n ih =>
    rw [S]
    by_cases hjn : j = n
    · subst hjn
      have : S j f = S j fun _ => 0 := S_congr fun k hk => h k (by omega) (by omega)
      rw [this, S_zero]; omega
    · rw [ih (by omega) fun k hk hne => h k (by omega) hne, h n (by omega) (by omega)]; omega
theorem S_list {l : List Int} : l.sum = S l.length (fun k => l.getD k 0) := by
  have key : ∀ (l : List Int) (n : Nat), n ≤ l.length → (l.take n).sum = S n (fun k => l.getD k 0) := by
    intro l n
    induction n with
    | zero => intro _; rfl
    | succ n ih =>
      intro hn
      rw [S, ← ih (by omega), List.take_add_one, List.getElem?_eq_getElem (by omega), List.sum_append, List.getD_eq_getElem?_getD, List.getElem?_eq_getElem (by omega)]
      simp
  have := key l l.length (Nat.le_refl _)
  rw [List.take_length] at this
  exact this
/-- a list against a weight -/
def dot (l : List Int) (f : Nat → Int) : Int := S l.length (fun k => l.getD k 0 * f k)

theorem dot_addAt {m : List Int} {b : Nat} (hb : b < m.length) (x : Int) (f : Nat → Int) : dot (addAt m b x) f = dot m f + x * f b := by
  unfold dot
  rw [addAt_length]
  have e : ∀ k, k < m.length → (addAt m b x).getD k 0 * f k = m.getD k 0 * f k + (if k = b then x * f b else 0) := by
    intro k hk
    by_cases h : k = b
    · subst h
      simp only [addAt, if_true, List.getD_eq_getElem?_getD]
      rw [List.getElem?_set_self hk]
      simp only [Option.getD_some, Int.add_mul]
    · simp only [addAt, if_neg h, List.getD_eq_getElem?_getD]
      rw [List.getElem?_set_ne (Ne.symm h)]; omega
  rw [S_congr e, S_add, S_one hb (fun k => if k = b then x * f b else 0) fun k _ hne => if_neg hne]
  simp
theorem dot_moreRow {x : Int} {row : List Nat} {m : List Int} (h : ∀ b ∈ row, b < m.length) (f : Nat → Int) : dot (moreRow x m row) f = dot m f + x * (row.map f).sum := by
  unfold moreRow
  induction row generalizing m with
  | nil => simp
  | cons b r ih =>
    rw [List.foldl_cons, ih (fun b' hb' => by rw [addAt_length]; exact h b' (.tail _ hb')), dot_addAt (h b (.head _)), List.map_cons, List.sum_cons, Int.mul_add]
    omega
theorem dot_zero (n : Nat) (f : Nat → Int) : dot (List.replicate n 0) f = 0 := by
  unfold dot
  rw [S_congr (g := fun _ => 0), S_zero]
  intro k hk
  simp at hk
  rw [List.getD_eq_getElem?_getD, List.getElem?_replicate, if_pos hk]; simp
theorem dot_moreTo {st : List (List Nat)} {n : Nat} {ways : List Int} (h : ∀ k, k < n → ∀ b ∈ st.getD k [], b ≤ n) (f : Nat → Int) : ∀ k, k ≤ n → dot (moreTo st n ways k) f = S k (fun k => ways.getD k 0 * ((st.getD k []).map f).sum)
  | 0, _ => by
    show dot (List.replicate (n + 1) 0) f = 0
    exact dot_zero _ _
  | k + 1, hk => by
    rw [moreTo_succ, dot_moreRow (fun b hb => by rw [moreTo_length]; have := h k (by omega) b hb; omega), dot_moreTo h f k (by omega), S]

theorem dot_take {l : List Int} {n : Nat} (hl : l.length = n + 1) (g : Nat → Int) : dot (l.take n) g = dot l (fun b => if b = n then 0 else g b) := by
  unfold dot
  have e : (l.take n).length = n := by simp; omega
  rw [e, hl, S]
  simp only [if_true, Int.mul_zero, Int.add_zero]
  refine S_congr fun k hk => ?_
  rw [if_neg (by omega), List.getD_eq_getElem?_getD, List.getD_eq_getElem?_getD, List.getElem?_take, if_pos hk]
theorem dot_pick {l : List Int} {n : Nat} (hl : l.length = n + 1) : dot l (fun b => if b = n then 1 else 0) = l.getD n 0 := by
  unfold dot
  rw [hl, S_one (show n < n + 1 by omega)]
  · simp
  · intro k _ hne
    simp [hne]
theorem dot_one (l : List Int) : dot l (fun _ => 1) = l.sum := by
  rw [S_list]
  unfold dot
  exact S_congr fun k _ => by simp

theorem sum_one {α : Type} {l : List α} (hn : l.Nodup) {a : α} (ha : a ∈ l) (f : α → Int) (h : ∀ s ∈ l, s ≠ a → f s = 0) : (l.map f).sum = f a := by
  induction l with
  | nil => cases ha
  | cons x r ih =>
    have hn' := List.nodup_cons.mp hn
    rw [List.map_cons, List.sum_cons]
    rcases List.mem_cons.mp ha with rfl | ha
    · have : (r.map f).sum = 0 := by
        have hz : ∀ s ∈ r, f s = 0 := fun s hs => h s (.tail _ hs) (fun e => hn'.1 (e ▸ hs))
        clear ih hn hn' ha h
        induction r with
        | nil => rfl
        | cons y r ih => rw [List.map_cons, List.sum_cons, hz y (.head _), ih fun s hs => hz s (.tail _ hs)]; rfl
      omega
    · rw [ih hn'.2 ha fun s hs => h s (.tail _ hs), h x (.head _) (fun e => hn'.1 (e ▸ ha))]; omega
theorem sum_none {α : Type} {l : List α} (f : α → Int) (h : ∀ s ∈ l, f s = 0) : (l.map f).sum = 0 := by
  induction l with
  | nil => rfl
  | cons y r ih => rw [List.map_cons, List.sum_cons, h y (.head _), ih fun s hs => h s (.tail _ hs)]; rfl

section
variable {rs : List Int} {n : Nat}
theorem stP_iff {k : Nat} (hk : k < rs.length) {s : Int} {j : Nat} : StP rs k s j ↔ j ≤ k + 1 ∧ rs.take j <:+ rs.take k ++ [s] := by
  have hl : (rs.take k ++ [s]).length = k + 1 := by simp; omega
  constructor
  · rintro ⟨h1, h2⟩
    exact ⟨h1, h2 ▸ List.drop_suffix _ _⟩
  · rintro ⟨h1, h2⟩
    refine ⟨h1, ?_⟩
    have := List.suffix_iff_eq_drop.mp h2
    have hj : (rs.take j).length = j := by simp; omega
    rw [hl, hj] at this
    exact this.symm
theorem step_le {k : Nat} (hk : k < rs.length) (s : Int) : stepF rs k s ≤ k + 1 := (stepF_spec rs s hk).1.1
theorem step_suf {k : Nat} (hk : k < rs.length) (s : Int) : rs.take (stepF rs k s) <:+ rs.take k ++ [s] := ((stP_iff hk).mp (stepF_spec rs s hk).1).2
theorem step_max {k : Nat} (hk : k < rs.length) {s : Int} {j : Nat} (hj : j ≤ k + 1) (h : rs.take j <:+ rs.take k ++ [s]) : j ≤ stepF rs k s := (stepF_spec rs s hk).2 j ((stP_iff hk).mpr ⟨hj, h⟩)

theorem suf_append {x y : List Int} (h : x <:+ y) (u : List Int) : x ++ u <:+ y ++ u := by
  obtain ⟨z, rfl⟩ := h
  exact ⟨z, by simp⟩
theorem suf_cancel {x y u : List Int} (h : x ++ u <:+ y ++ u) : x <:+ y := by
  obtain ⟨z, hz⟩ := h
  rw [← List.append_assoc] at hz
  exact ⟨z, List.append_cancel_right hz⟩

/-- a sign read: the row stands at the text's end as it stands at the end of what is remembered -/
theorem read_one (hn : n ≤ rs.length) {k : Nat} (hk : k < n) {s : Int} (hlt : stepF rs k s < n) (u : List Int) : rs.take n <:+ rs.take k ++ s :: u ↔ rs.take n <:+ rs.take (stepF rs k s) ++ u := by
  have hk' : k < rs.length := by omega
  have e : rs.take k ++ s :: u = (rs.take k ++ [s]) ++ u := by simp
  have hsub : rs.take (stepF rs k s) ++ u <:+ (rs.take k ++ [s]) ++ u := suf_append (step_suf hk' s) u
  have hwl : (rs.take n).length = n := by simp; omega
  have hsl : (rs.take (stepF rs k s)).length = stepF rs k s := by simp; omega
  rw [e]
  constructor
  · intro h
    by_cases hle : n ≤ stepF rs k s + u.length
    · exact List.suffix_of_suffix_length_le h hsub (by simp [hwl, hsl]; omega)
    · exfalso
      have hu : u <:+ rs.take n := (List.suffix_append _ _).trans (List.suffix_of_suffix_length_le hsub h (by simp [hwl, hsl]; omega))
      obtain ⟨y, hy⟩ := hu
      have hyl : y.length + u.length = n := by rw [← List.length_append, hy, hwl]
      have hyt : y = rs.take y.length := by
        have h1 : (y ++ u).take y.length = y := by simp
        rw [hy, List.take_take, Nat.min_eq_left (by omega)] at h1
        exact h1.symm
      have hys : y <:+ rs.take k ++ [s] := by
        rw [← hy] at h
        exact suf_cancel h
      have hyk : y.length ≤ k + 1 := by
        have := hys.length_le
        simp at this; omega
      rw [hyt] at hys
      have := step_max hk' hyk hys
      omega
  · intro h
    exact h.trans hsub

noncomputable def FE (rs : List Int) (n : Nat) : Nat → List Int → Bool
  | _, [] => false
  | k, s :: u => if stepF rs k s = n then u.isEmpty else FE rs n (stepF rs k s) u

theorem step_lt (hn : n ≤ rs.length) {k : Nat} (hk : k < n) {s : Int} (h : stepF rs k s ≠ n) : stepF rs k s < n := by
  have := step_le (rs := rs) (k := k) (by omega) s; omega
theorem FE.ends (hn : n ≤ rs.length) : ∀ {u : List Int} {k : Nat}, k < n → FE rs n k u = true → rs.take n <:+ rs.take k ++ u
  | [], _, _, h => by cases h
  | s :: u, k, hk, h => by
    unfold FE at h
    by_cases hs : stepF rs k s = n
    · rw [if_pos hs] at h
      have : u = [] := by simpa using h
      subst this
      have := step_suf (rs := rs) (k := k) (by omega) s
      rw [hs] at this; exact this
    · rw [if_neg hs] at h
      have hlt := step_lt hn hk hs
      exact (read_one hn hk hlt u).mpr (FE.ends hn hlt h)
theorem FE.is (hn : n ≤ rs.length) {u : List Int} {k : Nat} (hk : k < n) (h : FE rs n k u = true) (hl : u.length ≤ n) : u = (rs.take n).drop (n - u.length) := by
  have hwl : (rs.take n).length = n := by simp; omega
  have h1 := FE.ends hn hk h
  have h2 : u <:+ rs.take n := List.suffix_of_suffix_length_le (List.suffix_append _ _) h1 (by omega)
  have := List.suffix_iff_eq_drop.mp h2
  rw [hwl] at this; exact this
theorem FE.some (hn : n ≤ rs.length) : ∀ {u : List Int} {k : Nat}, k < n → rs.take n <:+ rs.take k ++ u → ∃ m, 1 ≤ m ∧ m ≤ u.length ∧ FE rs n k (u.take m) = true
  | [], k, hk, h => by
    have := h.length_le
    simp at this; omega
  | s :: u, k, hk, h => by
    by_cases hs : stepF rs k s = n
    · exact ⟨1, by omega, by simp, by simp [FE, hs]⟩
    · have hlt := step_lt hn hk hs
      obtain ⟨m, h1, h2, h3⟩ := FE.some hn hlt ((read_one hn hk hlt u).mp h)
      refine ⟨m + 1, by omega, by simp; omega, ?_⟩
      rw [List.take_succ_cons, FE, if_neg hs]; exact h3
theorem FE.once : ∀ {v x : List Int} {k : Nat}, FE rs n k v = true → FE rs n k (v ++ x) = true → x = []
  | [], _, _, h, _ => by cases h
  | s :: v, x, k, h1, h2 => by
    rw [List.cons_append] at h2
    unfold FE at h1 h2
    by_cases hs : stepF rs k s = n
    · rw [if_pos hs] at h1 h2
      have e1 : v = [] := by simpa using h1
      subst e1
      simpa using h2
    · rw [if_neg hs] at h1 h2
      exact FE.once h1 h2
theorem FE.unique {u : List Int} {k i j : Nat} (hi : i ≤ u.length) (hj : j ≤ u.length) (h1 : FE rs n k (u.take i) = true) (h2 : FE rs n k (u.take j) = true) : i = j := by
  have key : ∀ i j, i ≤ j → j ≤ u.length → FE rs n k (u.take i) = true → FE rs n k (u.take j) = true → i = j := by
    intro i j hij hj h1 h2
    have e : u.take j = u.take i ++ (u.drop i).take (j - i) := by
      have : j = i + (j - i) := by omega
      rw [this, List.take_add]; simp
    rw [e] at h2
    have := FE.once h1 h2
    have hl := congrArg List.length this
    simp at hl; omega
  rcases Nat.le_total i j with h | h
  · exact key i j h hj h1 h2
  · exact (key j i h hi h2 h1).symm

/-- how many texts of j signs end with the row, the first time, from a state on -/
noncomputable def Ec (rs ss : List Int) (n : Nat) : Nat → Nat → Int
  | _, 0 => 0
  | k, j + 1 => (ss.map fun s => if stepF rs k s = n then (if j = 0 then 1 else 0) else Ec rs ss n (stepF rs k s) j).sum

theorem Ec_is {ss : List Int} (hn : n ≤ rs.length) (hnod : ss.Nodup) (hsub : ∀ x ∈ rs, x ∈ ss) : ∀ {j k : Nat}, j ≤ n → k < n → Ec rs ss n k j = if FE rs n k ((rs.take n).drop (n - j)) = true then 1 else 0
  | 0, k, _, _ => by
    have : (rs.take n).drop (n - 0) = [] := List.drop_of_length_le (by simp; omega)
    rw [this]; rfl
  | j + 1, k, hj, hk => by
    have hwl : (rs.take n).length = n := by simp; omega
    have hterm : ∀ s, (if stepF rs k s = n then (if j = 0 then (1 : Int) else 0) else Ec rs ss n (stepF rs k s) j) = if FE rs n k (s :: (rs.take n).drop (n - j)) = true then 1 else 0 := by
      intro s
      rw [FE]
      by_cases hs : stepF rs k s = n
      · rw [if_pos hs, if_pos hs]
        have : ((rs.take n).drop (n - j)).isEmpty = decide (j = 0) := by
          have hl : ((rs.take n).drop (n - j)).length = j := by rw [List.length_drop, hwl]; omega
          cases h : (rs.take n).drop (n - j) with
          | nil => rw [h] at hl; simp at hl; simp [hl.symm]
          | cons a r => rw [h] at hl; simp at hl; simp; omega
        rw [this]
        by_cases h0 : j = 0 <;> simp [h0]
      · rw [if_neg hs, if_neg hs]
        exact Ec_is hn hnod hsub (by omega) (step_lt hn hk hs)
    rw [Ec]
    simp only [hterm]
    have hlt : n - (j + 1) < (rs.take n).length := by omega
    have hdr : (rs.take n).drop (n - (j + 1)) = (rs.take n)[n - (j + 1)] :: (rs.take n).drop (n - j) := by
      rw [List.drop_eq_getElem_cons hlt]
      congr 2; omega
    rw [hdr]
    refine sum_one hnod (hsub _ (List.mem_of_mem_take (List.getElem_mem hlt))) (fun s => if FE rs n k (s :: (rs.take n).drop (n - j)) = true then (1 : Int) else 0) ?_
    intro s _ hne
    rw [if_neg]
    intro hf
    have hl : (s :: (rs.take n).drop (n - j)).length = j + 1 := by rw [List.length_cons, List.length_drop, hwl]; omega
    have := FE.is hn hk hf (by omega)
    rw [hl, hdr] at this
    exact hne (List.cons.inj this).1

/-- from every state just one of the borders' ends comes -/
theorem Ec_all {ss : List Int} (hn : n ≤ rs.length) (hnod : ss.Nodup) (hsub : ∀ x ∈ rs, x ∈ ss) {B : List Nat} (hBn : B.Nodup) (hB : ∀ j, j ∈ B ↔ 0 < j ∧ j < n ∧ (rs.take n).take j = (rs.take n).drop (n - j)) {k : Nat} (hk : k < n) :
    Ec rs ss n k n + (B.map fun j => Ec rs ss n k j).sum = 1 := by
  have hwl : (rs.take n).length = n := by simp; omega
  obtain ⟨m, h1, h2, h3⟩ := FE.some hn hk (List.suffix_append (rs.take k) (rs.take n))
  rw [hwl] at h2
  have hml : ((rs.take n).take m).length = m := by rw [List.length_take, hwl]; omega
  have hm := FE.is hn hk h3 (by omega)
  rw [hml] at hm
  have hval : ∀ j, 0 < j → j ≤ n → (rs.take n).take j = (rs.take n).drop (n - j) → Ec rs ss n k j = if j = m then 1 else 0 := by
    intro j h0 hj e
    rw [Ec_is hn hnod hsub hj hk, ← e]
    by_cases hjm : j = m
    · subst hjm; rw [if_pos h3, if_pos rfl]
    · rw [if_neg hjm, if_neg]
      intro hf
      exact hjm (FE.unique (by omega) (by omega) hf h3)
  have hnn : (rs.take n).take n = (rs.take n).drop (n - n) := by rw [Nat.sub_self, List.drop_zero, List.take_take, Nat.min_self]
  rw [hval n (by omega) (Nat.le_refl _) hnn]
  by_cases hmn : n = m
  · rw [if_pos hmn, sum_none]
    · rfl
    · intro j hj
      obtain ⟨a, b, e⟩ := (hB j).mp hj
      rw [hval j a (by omega) e, if_neg (by omega)]
  · rw [if_neg hmn]
    have hmB : m ∈ B := (hB m).mpr ⟨by omega, by omega, hm⟩
    rw [sum_one hBn hmB, hval m (by omega) (by omega) hm, if_pos rfl]
    · rfl
    · intro j hj hne
      obtain ⟨a, b, e⟩ := (hB j).mp hj
      rw [hval j a (by omega) e, if_neg hne]
theorem Ec_start {ss : List Int} (hn : n ≤ rs.length) (hnod : ss.Nodup) (hsub : ∀ x ∈ rs, x ∈ ss) {j : Nat} (hj : j < n) : Ec rs ss n 0 j = 0 := by
  rw [Ec_is hn hnod hsub (by omega) (by omega), if_neg]
  intro hf
  have := (FE.ends hn (by omega) hf).length_le
  simp at this; omega
end

theorem mem_chain (p : Nat → Int) (k : Nat) : ∀ j, j ∈ chain p k ↔ 0 < j ∧ (j = k ∨ Bd p k j) := by
  induction k using Nat.strongRecOn with
  | ind k ih =>
    intro j
    by_cases h : k = 0
    · subst h
      rw [chain_zero]
      constructor
      · intro h; cases h
      · rintro ⟨h0, rfl | h1⟩
        · omega
        · exact absurd h1.1 (Nat.not_lt_zero _)
    · have hpos := Nat.pos_of_ne_zero h
      have hlt := bord_lt p hpos
      obtain ⟨hb, hmax⟩ := bord_spec p hpos
      rw [chain_pos p h, List.mem_cons, ih _ hlt]
      constructor
      · rintro (rfl | ⟨h0, rfl | h1⟩)
        · exact ⟨hpos, .inl rfl⟩
        · exact ⟨h0, .inr hb⟩
        · exact ⟨h0, .inr (hb.trans h1)⟩
      · rintro ⟨h0, rfl | h1⟩
        · exact .inl rfl
        · right
          refine ⟨h0, ?_⟩
          have := hmax j h1
          rcases Nat.lt_or_ge j (bord p k) with h2 | h2
          · exact .inr (hb.below h1 h2)
          · exact .inl (by omega)
theorem nodup_chain (p : Nat → Int) (k : Nat) : (chain p k).Nodup := by
  induction k using Nat.strongRecOn with
  | ind k ih =>
    by_cases h : k = 0
    · subst h; rw [chain_zero]; exact List.nodup_nil
    · have hlt := bord_lt p (Nat.pos_of_ne_zero h)
      rw [chain_pos p h]
      refine List.nodup_cons.mpr ⟨fun hm => ?_, ih _ hlt⟩
      have := chain_le p _ k hm
      omega
theorem mem_borders (p : Nat → Int) {n : Nat} (hn : 0 < n) (j : Nat) : j ∈ chain p (bord p n) ↔ 0 < j ∧ Bd p n j := by
  rw [mem_chain]
  obtain ⟨hb, hmax⟩ := bord_spec p hn
  constructor
  · rintro ⟨h0, rfl | h1⟩
    · exact ⟨h0, hb⟩
    · exact ⟨h0, hb.trans h1⟩
  · rintro ⟨h0, h1⟩
    refine ⟨h0, ?_⟩
    have := hmax j h1
    rcases Nat.lt_or_ge j (bord p n) with h2 | h2
    · exact .inr (hb.below h1 h2)
    · exact .inl (by omega)
theorem bd_iff {rs : List Int} {n j : Nat} (hn : n ≤ rs.length) (hj : j < n) : Bd (fun i => rs.getD i 0) n j ↔ (rs.take n).take j = (rs.take n).drop (n - j) := by
  have hwl : (rs.take n).length = n := by simp; omega
  have g1 : ∀ i, i < j → ((rs.take n).take j)[i]? = some (rs.getD i 0) := fun i hi => by
    rw [List.getElem?_take, if_pos hi, List.getElem?_take, if_pos (by omega)]; exact getD_some (by omega)
  have g2 : ∀ i, i < j → ((rs.take n).drop (n - j))[i]? = some (rs.getD (n - j + i) 0) := fun i hi => by
    rw [List.getElem?_drop, List.getElem?_take, if_pos (by omega)]; exact getD_some (by omega)
  constructor
  · rintro ⟨_, h⟩
    apply List.ext_getElem?
    intro i
    by_cases hi : i < j
    · rw [g1 i hi, g2 i hi]; exact congrArg some (h i hi)
    · rw [List.getElem?_eq_none (by rw [List.length_take, hwl]; omega), List.getElem?_eq_none (by rw [List.length_drop, hwl]; omega)]
  · intro h
    refine ⟨hj, fun i hi => ?_⟩
    have := g1 i hi
    rw [h, g2 i hi] at this
    exact (Option.some.inj this).symm

section
variable {rs ss : List Int} {n : Nat}
theorem stepsN_getD {k : Nat} (hk : k < rs.length) : (stepsN rs ss).getD k [] = ss.map fun s => stepF rs k s := by
  rw [List.getD_eq_getElem?_getD, stepsN, List.getElem?_map, List.getElem?_range hk]; rfl
theorem steps_ok (hn : n ≤ rs.length) : ∀ k, k < n → ∀ b ∈ (stepsN rs ss).getD k [], b ≤ n := by
  intro k hk b hb
  rw [stepsN_getD (by omega)] at hb
  obtain ⟨s, _, rfl⟩ := List.mem_map.mp hb
  have := step_le (rs := rs) (k := k) (by omega) s
  omega
/-- what one sign more makes of a weight -/
theorem dot_more (hn : n ≤ rs.length) (ways : List Int) (hw : ways.length = n) (f : Nat → Int) : dot (moreOf (stepsN rs ss) n ways) f = dot ways (fun k => (ss.map fun s => f (stepF rs k s)).sum) := by
  unfold moreOf
  rw [dot_moreTo (steps_ok hn) f n (Nat.le_refl _)]
  unfold dot
  rw [hw]
  refine S_congr fun k hk => ?_
  rw [stepsN_getD (by omega), List.map_map]; rfl
theorem dot_ways_succ (hn : n ≤ rs.length) (h1 : 1 ≤ n) (i : Nat) (g : Nat → Int) : dot (waysN (stepsN rs ss) n (i + 1)) g = dot (waysN (stepsN rs ss) n i) (fun k => (ss.map fun s => if stepF rs k s = n then 0 else g (stepF rs k s)).sum) := by
  rw [waysN, dot_take (by unfold moreOf; rw [moreTo_length]), dot_more hn _ (waysN_length _ h1 i)]
theorem dot_E (hn : n ≤ rs.length) (h1 : 1 ≤ n) : ∀ (i j : Nat), dot (waysN (stepsN rs ss) n i) (fun k => Ec rs ss n k (j + 1)) = Ec rs ss n 0 (i + j + 1)
  | 0, j => by
    unfold dot
    rw [waysN_length _ h1, S_one (show 0 < n by omega)]
    · simp [waysN]
    · intro k hk hne
      have : (waysN (stepsN rs ss) n 0).getD k 0 = 0 := by
        rw [List.getD_eq_getElem?_getD, waysN]
        cases k with
        | zero => exact absurd rfl hne
        | succ k =>
          rw [List.getElem?_cons_succ, List.getElem?_replicate]
          split <;> rfl
      rw [this]; simp
  | i + 1, j => by
    rw [dot_ways_succ hn h1]
    have e : ∀ k, (ss.map fun s => if stepF rs k s = n then (0 : Int) else Ec rs ss n (stepF rs k s) (j + 1)).sum = Ec rs ss n k (j + 1 + 1) := by
      intro k
      rw [Ec]
      refine congrArg List.sum (List.map_congr_left fun s _ => ?_)
      by_cases hs : stepF rs k s = n <;> simp [hs]
    simp only [e]
    rw [dot_E hn h1 i (j + 1)]
    rw [show i + (j + 1) + 1 = i + 1 + j + 1 by omega]
noncomputable def fr (rs ss : List Int) (n i : Nat) : Int := (waysN (stepsN rs ss) n i).sum
noncomputable def en (rs ss : List Int) (n i : Nat) : Int := Ec rs ss n 0 i

theorem ended_is (hn : n ≤ rs.length) (h1 : 1 ≤ n) (i : Nat) : (moreOf (stepsN rs ss) n (waysN (stepsN rs ss) n i)).getD n 0 = en rs ss n (i + 1) := by
  rw [← dot_pick (by unfold moreOf; rw [moreTo_length]), dot_more hn _ (waysN_length _ h1 i)]
  have := dot_E (rs := rs) (ss := ss) hn h1 i 0
  unfold en
  rw [← this]
  congr 1
theorem sum_const {α : Type} (l : List α) (x : Int) : (l.map fun _ => x).sum = (l.length : Int) * x := by
  induction l with
  | nil => simp
  | cons _ r ih => rw [List.map_cons, List.sum_cons, ih, List.length_cons, Int.natCast_succ, Int.add_mul]; omega
theorem sum_add {α : Type} (l : List α) (f g : α → Int) : (l.map fun x => f x + g x).sum = (l.map f).sum + (l.map g).sum := by
  induction l with
  | nil => rfl
  | cons a r ih => simp only [List.map_cons, List.sum_cons]; rw [ih]; omega
theorem dot_add (l : List Int) (f g : Nat → Int) : dot l (fun k => f k + g k) = dot l f + dot l g := by
  unfold dot
  rw [← S_add]
  exact S_congr fun k _ => by rw [Int.mul_add]
theorem dot_const (l : List Int) (x : Int) : dot l (fun _ => x) = x * l.sum := by
  rw [← dot_one]
  unfold dot
  rw [← S_mul]
  exact S_congr fun k _ => by rw [Int.mul_one, Int.mul_comm]
theorem dot_congr {l : List Int} {f g : Nat → Int} (h : ∀ k, k < l.length → f k = g k) : dot l f = dot l g := by
  unfold dot
  exact S_congr fun k hk => by rw [h k hk]
theorem dot_sum (l : List Int) (B : List Nat) (f : Nat → Nat → Int) : dot l (fun k => (B.map fun j => f k j).sum) = (B.map fun j => dot l (fun k => f k j)).sum := by
  induction B with
  | nil => simp [dot, S_zero]
  | cons b r ih =>
    simp only [List.map_cons, List.sum_cons]
    rw [dot_add, ih]

theorem free_more (hn : n ≤ rs.length) (h1 : 1 ≤ n) (i : Nat) : fr rs ss n (i + 1) + en rs ss n (i + 1) = (ss.length : Int) * fr rs ss n i := by
  unfold fr
  rw [← dot_one, dot_ways_succ hn h1, ← ended_is hn h1 i, ← dot_pick (by unfold moreOf; rw [moreTo_length]), dot_more hn _ (waysN_length _ h1 i), ← dot_add, ← dot_const]
  congr 1
  funext k
  rw [← sum_add, show (ss.length : Int) = (ss.length : Int) * 1 from (Int.mul_one _).symm, ← sum_const]
  congr 1
  refine List.map_congr_left fun s _ => ?_
  by_cases hs : stepF rs k s = n <;> simp [hs]
theorem free_is (hn : n ≤ rs.length) (h1 : 1 ≤ n) (hnod : ss.Nodup) (hsub : ∀ x ∈ rs, x ∈ ss) (i : Nat) :
    fr rs ss n i = en rs ss n (i + n) + ((chain (fun i => rs.getD i 0) (bord (fun i => rs.getD i 0) n)).map fun j => en rs ss n (i + j)).sum := by
  have hB : ∀ j, j ∈ chain (fun i => rs.getD i 0) (bord (fun i => rs.getD i 0) n) ↔ 0 < j ∧ j < n ∧ (rs.take n).take j = (rs.take n).drop (n - j) := by
    intro j
    rw [mem_borders _ (by omega)]
    constructor
    · rintro ⟨a, b⟩
      exact ⟨a, b.1, (bd_iff hn b.1).mp b⟩
    · rintro ⟨a, b, d⟩
      exact ⟨a, (bd_iff hn b).mpr d⟩
  have hBn := nodup_chain (fun i => rs.getD i 0) (bord (fun i => rs.getD i 0) n)
  generalize chain (fun i => rs.getD i 0) (bord (fun i => rs.getD i 0) n) = B at *
  have hE : ∀ j, 0 < j → dot (waysN (stepsN rs ss) n i) (fun k => Ec rs ss n k j) = en rs ss n (i + j) := by
    intro j hj
    obtain ⟨j, rfl⟩ : ∃ j', j = j' + 1 := ⟨j - 1, by omega⟩
    exact dot_E hn h1 i j
  unfold fr
  rw [← dot_one]
  have hall : dot (waysN (stepsN rs ss) n i) (fun _ => 1) = dot (waysN (stepsN rs ss) n i) (fun k => Ec rs ss n k n + (B.map fun j => Ec rs ss n k j).sum) :=
    dot_congr fun k hk => (Ec_all hn hnod hsub hBn hB (by rw [waysN_length _ h1] at hk; exact hk)).symm
  rw [hall, dot_add, hE n (by omega), dot_sum]
  congr 2
  refine List.map_congr_left fun j hj => hE j ((hB j).mp hj).1

theorem told_is (hn : n ≤ rs.length) (h1 : 1 ≤ n) (hnod : ss.Nodup) (hsub : ∀ x ∈ rs, x ∈ ss) : ∀ m, toldN (chain (fun i => rs.getD i 0) (bord (fun i => rs.getD i 0) n)) n (ss.length : Int) m = ((List.range (n + m)).map (fr rs ss n), (List.range (n + m)).map (en rs ss n))
  | 0 => by
    have hz : ∀ i, i < n → en rs ss n i = 0 := fun i hi => Ec_start hn hnod hsub hi
    have hf : ∀ i, i < n → fr rs ss n i = (ss.length : Int) ^ i := by
      intro i
      induction i with
      | zero => intro _; simp [fr, waysN]
      | succ i ih =>
        intro hi
        have := free_more (rs := rs) (ss := ss) hn h1 i
        rw [hz (i + 1) hi, ih (by omega)] at this
        rw [Int.pow_succ, Int.mul_comm]; omega
    rw [toldN, Nat.add_zero]
    refine Prod.ext ?_ ?_
    · exact List.map_congr_left fun i hi => (hf i (List.mem_range.mp hi)).symm
    · apply List.ext_getElem?
      intro i
      by_cases hi : i < n
      · rw [List.getElem?_replicate, if_pos hi, List.getElem?_map, List.getElem?_range hi]
        simp [hz i hi]
      · rw [List.getElem?_eq_none (by simp; omega), List.getElem?_eq_none (by simp; omega)]
  | m + 1 => by
    have ih := told_is hn h1 hnod hsub m
    have gf : ∀ i, i < n + m → ((List.range (n + m)).map (fr rs ss n)).getD i 0 = fr rs ss n i := fun i hi => by
      rw [List.getD_eq_getElem?_getD, List.getElem?_map, List.getElem?_range hi]; rfl
    have ge : ∀ i, i < n + m → ((List.range (n + m)).map (en rs ss n)).getD i 0 = en rs ss n i := fun i hi => by
      rw [List.getD_eq_getElem?_getD, List.getElem?_map, List.getElem?_range hi]; rfl
    rw [toldN, ih]
    simp only
    have hsum : ((chain (fun i => rs.getD i 0) (bord (fun i => rs.getD i 0) n)).map fun lap => ((List.range (n + m)).map (en rs ss n)).getD (m + lap) 0) = (chain (fun i => rs.getD i 0) (bord (fun i => rs.getD i 0) n)).map fun j => en rs ss n (m + j) := by
      refine List.map_congr_left fun j hj => ge _ ?_
      have := chain_le _ _ j hj
      have := bord_lt (fun i => rs.getD i 0) (n := n) (by omega)
      omega
    have hfi := free_is hn h1 hnod hsub m
    have hfm := free_more (rs := rs) (ss := ss) hn h1 (m + n - 1)
    rw [show m + n - 1 + 1 = m + n by omega] at hfm
    rw [hsum, gf m (by omega), gf (m + n - 1) (by omega)]
    have e1 : fr rs ss n m - ((chain (fun i => rs.getD i 0) (bord (fun i => rs.getD i 0) n)).map fun j => en rs ss n (m + j)).sum = en rs ss n (n + m) := by
      rw [Nat.add_comm n m]; omega
    rw [e1]
    have e2 : (ss.length : Int) * fr rs ss n (m + n - 1) - en rs ss n (n + m) = fr rs ss n (n + m) := by
      rw [Nat.add_comm n m]; omega
    rw [e2, show n + (m + 1) = (n + m) + 1 by omega, List.range_succ]
    simp
end

theorem main1 : Main1 := by
  intro rs ss n hnod hsub h1 hn
  rw [told_is hn h1 hnod hsub (n + 1)]
  refine Prod.ext ?_ ?_
  · show _ = (List.range (2 * n + 1)).map fun i => (waysN (stepsN rs ss) n i).sum
    rw [show n + (n + 1) = 2 * n + 1 by omega]; rfl
  · show (List.range (n + (n + 1))).map (en rs ss n) = 0 :: (List.range (2 * n)).map fun i => (moreOf (stepsN rs ss) n (waysN (stepsN rs ss) n i)).getD n 0
    rw [show n + (n + 1) = 2 * n + 1 by omega, List.range_succ_eq_map, List.map_cons, List.map_map]
    have e0 : en rs ss n 0 = 0 := rfl
    rw [e0]
    congr 1
    exact List.map_congr_left fun i _ => (ended_is hn h1 i).symm
end Mine

namespace Mine
theorem maxB_congr {p q : Nat → Int} {n k : Nat} (h : ∀ j, j < n → p j = q j) (hm : MaxB p n k) : MaxB q n k := by
  refine ⟨⟨hm.1.1, fun j hj => ?_⟩, fun k' hk' => hm.2 k' ⟨hk'.1, fun j hj => ?_⟩⟩
  · rw [← h j (by have := hm.1.1; omega), ← h _ (by have := hm.1.1; omega)]; exact hm.1.2 j hj
  · rw [h j (by have := hk'.1; omega), h _ (by have := hk'.1; omega)]; exact hk'.2 j hj
def altv (t : Int) (m i : Nat) : Int := if i = 2 * m + 1 then t else if i % 2 = 0 then t else t + 1
theorem alt_one (t : Int) (m : Nat) : MaxB (altv t m) 1 0 := ⟨Bd.zero (by omega), fun k hk => by have := hk.1; omega⟩
theorem alt_mid (t : Int) (m n : Nat) (h : 2 ≤ n) (h' : n ≤ 2 * m + 1) : MaxB (altv t m) n (n - 2) := by
  refine ⟨⟨by omega, fun j hj => ?_⟩, fun k hk => ?_⟩
  · unfold altv
    rw [if_neg (c := j = 2 * m + 1) (by omega), if_neg (c := n - (n - 2) + j = 2 * m + 1) (by omega)]
    have : (n - (n - 2) + j) % 2 = j % 2 := by omega
    rw [this]
  · have := hk.1
    by_cases e : k = n - 1
    · subst e
      have h2 := hk.2 0 (by omega)
      unfold altv at h2
      rw [if_neg (c := 0 = 2 * m + 1) (by omega), if_neg (c := n - (n - 1) + 0 = 2 * m + 1) (by omega), if_pos (c := 0 % 2 = 0) (by omega), if_neg (c := (n - (n - 1) + 0) % 2 = 0) (by omega)] at h2
      omega
    · omega
theorem alt_end (t : Int) (m : Nat) (h : 1 ≤ m) : MaxB (altv t m) (2 * m + 2) 1 := by
  refine ⟨⟨by omega, fun j hj => ?_⟩, fun k hk => ?_⟩
  · have : j = 0 := by omega
    subst this
    unfold altv
    rw [if_neg (by omega), if_pos (by omega), if_pos (by omega)]
  · apply Classical.byContradiction
    intro hlt
    have hk1 := hk.1
    have a := hk.2 (k - 1) (by omega)
    have b := hk.2 (k - 2) (by omega)
    unfold altv at a b
    rw [if_neg (c := k - 1 = 2 * m + 1) (by omega), if_pos (c := 2 * m + 2 - k + (k - 1) = 2 * m + 1) (by omega)] at a
    rw [if_neg (c := k - 2 = 2 * m + 1) (by omega), if_neg (c := 2 * m + 2 - k + (k - 2) = 2 * m + 1) (by omega),
      if_pos (c := (2 * m + 2 - k + (k - 2)) % 2 = 0) (by omega)] at b
    split at a
    · split at b
      · omega
      · omega
    · omega
theorem alt_row (t : Int) : ∀ (m : Nat), 4 ≤ m → m ≤ 7 → ∀ i, i < 2 * m + 2 → (((List.replicate m [t, t + 1]).flatten ++ [t, t]).getD i 0) = altv t m i := by
  intro m h h' i hi
  have : m = 4 ∨ m = 5 ∨ m = 6 ∨ m = 7 := by omega
  rcases this with rfl | rfl | rfl | rfl
  · have : i = 0 ∨ i = 1 ∨ i = 2 ∨ i = 3 ∨ i = 4 ∨ i = 5 ∨ i = 6 ∨ i = 7 ∨ i = 8 ∨ i = 9 := by omega
    rcases this with rfl | rfl | rfl | rfl | rfl | rfl | rfl | rfl | rfl | rfl <;> rfl
  · have : i = 0 ∨ i = 1 ∨ i = 2 ∨ i = 3 ∨ i = 4 ∨ i = 5 ∨ i = 6 ∨ i = 7 ∨ i = 8 ∨ i = 9 ∨ i = 10 ∨ i = 11 := by omega
    rcases this with rfl | rfl | rfl | rfl | rfl | rfl | rfl | rfl | rfl | rfl | rfl | rfl <;> rfl
  · have : i = 0 ∨ i = 1 ∨ i = 2 ∨ i = 3 ∨ i = 4 ∨ i = 5 ∨ i = 6 ∨ i = 7 ∨ i = 8 ∨ i = 9 ∨ i = 10 ∨ i = 11 ∨ i = 12 ∨ i = 13 := by omega
    rcases this with rfl | rfl | rfl | rfl | rfl | rfl | rfl | rfl | rfl | rfl | rfl | rfl | rfl | rfl <;> rfl
  · have : i = 0 ∨ i = 1 ∨ i = 2 ∨ i = 3 ∨ i = 4 ∨ i = 5 ∨ i = 6 ∨ i = 7 ∨ i = 8 ∨ i = 9 ∨ i = 10 ∨ i = 11 ∨ i = 12 ∨ i = 13 ∨ i = 14 ∨ i = 15 := by omega
    rcases this with rfl | rfl | rfl | rfl | rfl | rfl | rfl | rfl | rfl | rfl | rfl | rfl | rfl | rfl | rfl | rfl <;> rfl
theorem alt_len (t : Int) (m : Nat) : ((List.replicate m [t, t + 1]).flatten ++ [t, t]).length = 2 * m + 2 := by
  simp; omega
theorem alt1 : Alt1 := by
  intro t m h h'
  have hb : ∀ n, n ≤ 2 * m + 2 → ∀ k, MaxB (altv t m) n k → bord (fun i => ((List.replicate m [t, t + 1]).flatten ++ [t, t]).getD i 0) n = k := by
    intro n hn k hk
    exact bord_eq (maxB_congr (fun j hj => (alt_row t m h h' j (by omega)).symm) hk)
  apply List.ext_getElem?
  intro i
  by_cases hi : i < 2 * m + 2
  · rw [tableOf_get (by rw [alt_len]; exact hi)]
    by_cases h0 : i = 0
    · subst h0; rw [hb 1 (by omega) 0 (alt_one t m)]; rfl
    by_cases h1 : i = 2 * m + 1
    · subst h1
      rw [hb (2 * m + 2) (by omega) 1 (alt_end t m (by omega))]
      rw [List.getElem?_append_right (by simp; omega)]
      simp
      have : 2 * m - (2 * m - 1 + 1) = 0 := by omega
      rw [this]; rfl
    · rw [hb (i + 1) (by omega) (i + 1 - 2) (alt_mid t m _ (by omega) (by omega))]
      rw [List.getElem?_append_left (by simp; omega)]
      by_cases h2 : i = 1
      · subst h2; rfl
      · rw [List.getElem?_append_right (by simp; omega)]
        rw [List.getElem?_map, List.getElem?_range (by simp; omega)]
        simp
        omega
  · rw [List.getElem?_eq_none (by rw [tableOf_length, alt_len]; omega), List.getElem?_eq_none (by simp; omega)]
end Mine

namespace Mine
open PySem PyProof.Rows

/-- a call from the top: nothing is known but the heap -/
theorem call_top {c : Cx} {σ : St} {f : Addr} {fd : FuncData} {body : List Stmt} {params : List Str} {mg : Str → Option Value} {s : Shared} (hA : Lv 1 c.A) (T : TopOk c.ht mg) (F : FnAt c.ht f fd body params) (hht : c.ht = s.heap)
    (hro : ∀ a l, c.get σ a = some l → ∃ o, s.heap.get? a = some o ∧ LObj o l) {l : List V} (hl : l.length = params.length) {P : V → Prop}
    (h : ∀ L, Wss (callee c σ fd L f) body (fun fl _ => ∃ v, fl = .ret v ∧ P v) ⟨argLoc params l, fun _ => Option.none⟩) {vs : List Value} (hv : Ers vs l) :
    wpAny (model c.prog c.w) c.A (call (.ref f) vs) (fun x s' => ∃ v, er x = some v ∧ P v ∧ (∀ b o, s.heap.get? b = some o → s'.heap.get? b = some o) ∧ s'.os = s.os ∧ s'.gens = s.gens) (fun _ _ => False) s := by
  obtain ⟨o, ho, hd⟩ := F.obj
  have tk : ∀ b o, c.ht.get? b = some o → s.heap.get? b = some o := fun b o e => by rw [← hht]; exact e
  have hlen : vs.length = params.length := hv.length.trans hl
  refine wpAny_call (codeAny_call_cells (by have := hA.2.1; omega) (tk f o ho) hd (T.nolimit.keeps tk) (F.code.keeps tk) F.body (F.binds vs hlen) F.clo ?_ ?_ F.co F.gen F.kind)
  · intro p hp
    rcases F.kinds p.1 (mem_zip_fst hp) with h | ⟨h, h'⟩
    · exact .inl h
    · exact .inr ⟨h, h' _⟩
  · intro s₁ x
    generalize hL : s.heap.objs.size = L at *
    have R₁ : Rel (callee c σ fd L f) (fun a => s.heap.get? a) s ⟨argLoc params l, fun _ => Option.none⟩ s₁ := by
      refine { same := x.toInCall.same, top := tk, keep := x.toInCall.keep, ro := hro, hp := (fun a k e => by cases e), frame := ⟨_, _, x.toInCall.ns, x.cell, ?_⟩, own := ?_, cells := fun _ => ⟨?_, x.apart⟩ }
      · intro y v hy
        have hy : (params.zip l).lookup y = some v := hy
        obtain ⟨val, hval, h1, h2⟩ := binds_find (k := (callEnvC fd L f).kindOf) (m := fun _ => Option.none) (cm := fun _ => Option.none) F.nodup hv hy
        have hm := mem_zip_fst (mem_of_lookup hy)
        rcases F.kinds y hm with hk | ⟨hk, hc⟩
        · exact .inl ⟨hk, val, h1 hk, hval⟩
        · obtain ⟨a, ha⟩ := Option.isSome_iff_exists.mp (hc (L + 1))
          have hk' : (callEnvC fd L f).kindOf y = some .cell := hk
          exact .inr ⟨hk', a, val, ha, h2 (by rw [hk']; intro e; cases e), hval⟩
      · show s.heap.get? L = Option.none
        cases e : s.heap.get? L with
        | none => rfl
        | some o' => exact absurd (Heap.lt_size e) (by rw [hL]; exact Nat.lt_irrefl _)
      · intro n a e
        have hlt : L < a := x.above n a (mem_of_lookup e)
        show s.heap.get? a = Option.none
        cases e' : s.heap.get? a with
        | none => rfl
        | some o' => exact absurd (Nat.lt_trans hlt (hL ▸ Heap.lt_size e')) (Nat.lt_irrefl _)
    refine wpAny_mono (h L _ s s₁ R₁) (fun fl s' ⟨g, σ', k, R', v, e, hP⟩ => ?_) fun _ _ x => x.elim
    subst e
    cases fl with
    | ret y =>
      obtain ⟨h', t, es⟩ := R'.same
      exact ⟨v, k, hP, R'.keep, by rw [es], by rw [es]⟩
    | next => exact k.elim
    | brk => exact k.elim
    | cont => exact k.elim

theorem boots : ∀ p ∈ biTable, bootBuiltins p.1 = some p.2 := by
  intro p hp
  simp only [biTable, List.mem_cons, List.not_mem_nil, or_false] at hp
  rcases hp with rfl | rfl | rfl | rfl | rfl | rfl
  · exact boot_len
  · exact boot_sum
  · exact boot_min
  · exact boot_max
  · exact boot_range
  · exact boot_list

theorem topOk_of {vp : Program} {loose : List Str} {mean : ExcName → Option Value} {mg mb : Str → Option Value} {h : Heap} (T : Top vp loose mean mg mb h) (hfree : ∀ p ∈ biTable, mg p.1 = Option.none) : TopOk h mg :=
  ⟨T.g, ⟨mb, T.b, fun p hp => ⟨hfree p hp, by
    rw [T.builtins p.1 (by
      simp only [biTable, List.mem_cons, List.not_mem_nil, or_false] at hp
      rcases hp with rfl | rfl | rfl | rfl | rfl | rfl <;> decide)]
    exact boots p hp⟩⟩, T.nolimit⟩

theorem fnAt_of {vp : Program} {loose : List Str} {mean : ExcName → Option Value} {mg mb : Str → Option Value} {h : Heap} (T : Top vp loose mean mg mb h) {p : Program} {i : Nat} {pos : Pos} (hm : (⟨nmOf p i, parOf p i, bodyOf p i, scopeOf p i, pos⟩ : DefRec) ∈ recsOf vp) {params : List Str}
    (hk : (scopeOf p i).kind = .function) (hco : (scopeOf p i).isCoroutine = false) (hgen : (scopeOf p i).isGenerator = false)
    (hb : ∀ pm cd doc (vs : List Value), vs.length = params.length → bindArgs (fdOf p i pm cd doc) ⟨vs, []⟩ = pure (params.zip vs)) (hn : params.Nodup)
    (hkinds : ∀ x ∈ params, (scopeOf p i).names.lookup x = some .local ∨ ((scopeOf p i).names.lookup x = some .cell ∧ ∀ L, ((cellsFrom L (scopeOf p i).names []).lookup x).isSome = true)) :
    ∃ a pm cd doc, mg (nmOf p i) = some (.ref a) ∧ FnAt h a (fdOf p i pm cd doc) (bodyOf p i) params := by
  obtain ⟨a, o, pm, code, doc, h1, h2, h3, h4⟩ := T.fn _ hm
  exact ⟨a, pm, code, doc, h1, ⟨⟨o, h2, h3⟩, h4, rfl, rfl, rfl, rfl, hk, hco, hgen, hb pm code doc, hn, hkinds⟩⟩
end Mine

open PySem PySem.W PyProof.Rows
namespace Mine
theorem bind1 (pm cd doc : Value) (vs : List Value) (h : vs.length = 1) : bindArgs (fdOf PySem.Challenge.pw_oc0404_01 1 pm cd doc) ⟨vs, []⟩ = pure ((["prefix"] : List Str).zip vs) := by
  match vs, h with
  | [x], _ => rfl
theorem bind3 (pm cd doc : Value) (vs : List Value) (h : vs.length = 2) : bindArgs (fdOf PySem.Challenge.pw_oc0404_01 3 pm cd doc) ⟨vs, []⟩ = pure ((["row", "signs"] : List Str).zip vs) := by
  match vs, h with
  | [x, y], _ => rfl
theorem bind4 (pm cd doc : Value) (vs : List Value) (h : vs.length = 2) : bindArgs (fdOf PySem.Challenge.pw_oc0404_01 4 pm cd doc) ⟨vs, []⟩ = pure ((["steps", "size"] : List Str).zip vs) := by
  match vs, h with
  | [x, y], _ => rfl
theorem bind5 (pm cd doc : Value) (vs : List Value) (h : vs.length = 3) : bindArgs (fdOf PySem.Challenge.pw_oc0404_01 5 pm cd doc) ⟨vs, []⟩ = pure ((["table", "size", "many"] : List Str).zip vs) := by
  match vs, h with
  | [x, y, z], _ => rfl
theorem bind6 (pm cd doc : Value) (vs : List Value) (h : vs.length = 1) : bindArgs (fdOf PySem.Challenge.pw_oc0404_01 6 pm cd doc) ⟨vs, []⟩ = pure ((["script"] : List Str).zip vs) := by
  match vs, h with
  | [x], _ => rfl
theorem kinds_of {names : List (Str × NameKind)} {params : List Str} (h : (params.all fun x => names.lookup x == some .local || (names.lookup x == some .cell)) = true) :
    ∀ x ∈ params, names.lookup x = some .local ∨ (names.lookup x = some .cell ∧ ∀ L, ((cellsFrom L names []).lookup x).isSome = true) := by
  intro x hx
  have := List.all_eq_true.mp h x hx
  simp only [Bool.or_eq_true, beq_iff_eq] at this
  rcases this with h | h
  · exact .inl h
  · refine .inr ⟨h, fun L => ?_⟩
    have key : ∀ (names : List (Str × NameKind)) (L : Nat) (acc : List (Str × Addr)), (names.lookup x = some .cell ∨ (acc.lookup x).isSome = true) → ((cellsFrom L names acc).lookup x).isSome = true := by
      intro names
      induction names with
      | nil => intro L acc h; rcases h with h | h; cases h; exact h
      | cons p r ih =>
        intro L acc h
        obtain ⟨n, k⟩ := p
        unfold cellsFrom
        by_cases hk : (k == NameKind.cell) = true
        · rw [if_pos hk]
          refine ih _ _ ?_
          by_cases hn : x = n
          · right; subst hn; simp [List.lookup]
          · have hb : (x == n) = false := by simpa using hn
            rcases h with h | h
            · left; rw [List.lookup_cons, hb] at h; exact h
            · right; rw [List.lookup_cons, hb]; exact h
        · rw [if_neg hk]
          refine ih _ _ ?_
          rcases h with h | h
          · rw [List.lookup_cons] at h
            cases hb : x == n with
            | true => rw [hb] at h; simp only [Option.some.injEq] at h; subst h; exact absurd rfl hk
            | false => rw [hb] at h; exact .inl h
          · exact .inr h
    exact key names L [] (.inl h)

theorem law1_call (hmain : Main1) (halt : Alt1) {w : World} {s₁ : Shared} {vp : Program} {loose : List Str} {mean : ExcName → Option Value} {mg mb : Str → Option Value} (T : Top vp loose mean mg mb s₁.heap) (hfree : ∀ p ∈ biTable, mg p.1 = Option.none)
    {p1 p3 p4 p5 p6 : Pos}
    (r1 : (⟨nmOf PySem.Challenge.pw_oc0404_01 1, parOf PySem.Challenge.pw_oc0404_01 1, bodyOf PySem.Challenge.pw_oc0404_01 1, scopeOf PySem.Challenge.pw_oc0404_01 1, p1⟩ : DefRec) ∈ recsOf vp)
    (r3 : (⟨nmOf PySem.Challenge.pw_oc0404_01 3, parOf PySem.Challenge.pw_oc0404_01 3, bodyOf PySem.Challenge.pw_oc0404_01 3, scopeOf PySem.Challenge.pw_oc0404_01 3, p3⟩ : DefRec) ∈ recsOf vp)
    (r4 : (⟨nmOf PySem.Challenge.pw_oc0404_01 4, parOf PySem.Challenge.pw_oc0404_01 4, bodyOf PySem.Challenge.pw_oc0404_01 4, scopeOf PySem.Challenge.pw_oc0404_01 4, p4⟩ : DefRec) ∈ recsOf vp)
    (r5 : (⟨nmOf PySem.Challenge.pw_oc0404_01 5, parOf PySem.Challenge.pw_oc0404_01 5, bodyOf PySem.Challenge.pw_oc0404_01 5, scopeOf PySem.Challenge.pw_oc0404_01 5, p5⟩ : DefRec) ∈ recsOf vp)
    (r6 : (⟨nmOf PySem.Challenge.pw_oc0404_01 6, parOf PySem.Challenge.pw_oc0404_01 6, bodyOf PySem.Challenge.pw_oc0404_01 6, scopeOf PySem.Challenge.pw_oc0404_01 6, p6⟩ : DefRec) ∈ recsOf vp)
    {fa la : Addr} (hmg : mg (nmOf PySem.Challenge.pw_oc0404_01 6) = some (.ref fa)) {vs : List Value} {ns : List Int} (hobj : s₁.heap.get? la = some { cls := .type "list", data := .seq vs.toArray }) (hI : IntsAre vs ns) (hz : ns.length ≤ 63) :
    wpAny (model PySem.Challenge.pw_oc0404_01 w) callerA (call (.ref fa) [.ref la]) (fun v s' => v = .bool true ∧ (∀ b o, s₁.heap.get? b = some o → s'.heap.get? b = some o) ∧ s'.os = s₁.os ∧ s'.gens = s₁.gens) (fun _ _ => False) s₁ := by
  have TO := topOk_of T hfree
  obtain ⟨a1, pm1, cd1, doc1, n1, F1⟩ := fnAt_of T r1 (params := ["prefix"]) rfl rfl rfl bind1 (by decide) (kinds_of rfl)
  obtain ⟨a3, pm3, cd3, doc3, n3, F3⟩ := fnAt_of T r3 (params := ["row", "signs"]) rfl rfl rfl bind3 (by decide) (kinds_of rfl)
  obtain ⟨a4, pm4, cd4, doc4, n4, F4⟩ := fnAt_of T r4 (params := ["steps", "size"]) rfl rfl rfl bind4 (by decide) (kinds_of rfl)
  obtain ⟨a5, pm5, cd5, doc5, n5, F5⟩ := fnAt_of T r5 (params := ["table", "size", "many"]) rfl rfl rfl bind5 (by decide) (kinds_of rfl)
  obtain ⟨a6, pm6, cd6, doc6, n6, F6⟩ := fnAt_of T r6 (params := ["script"]) rfl rfl rfl bind6 (by decide) (kinds_of rfl)
  rw [hmg] at n6
  cases n6
  let c : Cx := { prog := PySem.Challenge.pw_oc0404_01, w := w, A := callerA, ht := s₁.heap, ro := fun b => if b = la then some (ns.map .int) else Option.none, env := default }
  have hLv : Lv 2 callerA := ⟨rfl, by decide, by decide⟩
  have hg : ∀ a l, c.get ⟨fun _ => Option.none, fun _ => Option.none⟩ a = some l → ∃ o, s₁.heap.get? a = some o ∧ LObj o l := by
    intro a l e
    have e : (if a = la then some (ns.map V.int) else Option.none) = some l := e
    by_cases h : a = la
    · rw [if_pos h] at e
      have e' := Option.some.inj e
      subst e'; subst h
      exact ⟨_, hobj, _, _, rfl, ersOfInts hI⟩
    · rw [if_neg h] at e; cases e
  have h := call_top (c := c) (σ := ⟨fun _ => Option.none, fun _ => Option.none⟩) (s := s₁) (P := fun v => v = .bool true) (l := [.ref la]) (vs := [.ref la]) (hLv.less (by decide)) TO F6 rfl hg rfl
    (fun L => law1_run hmain halt (c₀ := c) hLv TO n1 F1 n3 F3 n4 F4 n5 F5 (a := la) (ns := ns) (by show (if la = la then some (ns.map V.int) else Option.none) = _; rw [if_pos rfl]) hz) rfl
  exact wpAny_mono h (fun x s' ⟨v, hv, hP, k1, k2, k3⟩ => ⟨by subst hP; exact er_bool hv, k1, k2, k3⟩) fun _ _ x => x
end Mine

open PySem PySem.W PyProof.Rows
namespace Mine
theorem free_of {vp : Program} {loose : List Str} {mean : ExcName → Option Value} {mg mb : Str → Option Value} {h : Heap} (T : Top vp loose mean mg mb h)
    (hd : (biTable.all fun p => !startupNames.contains p.1 && !loose.contains p.1 && !((recsOf vp).map (·.name)).contains p.1 && !((litsOf vp).map (·.1)).contains p.1 && !((clssOf vp loose).map (·.name)).contains p.1) = true) : ∀ p ∈ biTable, mg p.1 = Option.none := by
  intro p hp
  have := List.all_eq_true.mp hd p hp
  simp only [Bool.and_eq_true, Bool.not_eq_true', List.contains_eq_mem, decide_eq_false_iff_not] at this
  exact T.free p.1 this.1.1.1.1 this.1.1.1.2 this.1.1.2 this.1.2 this.2
theorem plain_of {P : Params} {h : Heap} {a : Addr} {ns : List Int} {vs : List Value} (hW : Well P h (.ref a) (ofPy (.list (ns.map .int)))) (hL : h.IsList a vs.toArray) : h.get? a = some { cls := .type "list", data := .seq vs.toArray } := by
  have hW' : Well P h (.ref a) (.list (ofPys (ns.map .int))) := hW
  cases hW' with
  | list hobj _ =>
    obtain ⟨o', h1, _, n, h2⟩ := hL
    rw [hobj] at h1; cases h1
    simp at h2
    rw [hobj, h2.1]
end Mine
set_option maxRecDepth 100000 in
set_option maxHeartbeats 8000000 in
theorem PySem.Challenge.cw_oc0404_01_holds : PySem.Challenge.rw_oc0404_01.Holds := by
  w_on
  o_law
  k_head
  (case hw => w_witness2)
  intro w s₀ s₁ mg mb G Y fa o pm cd doc dV kV ho hd hcd hD hmg hg args vals as hpre hlay hrd hwl hlo
  refine Ground.open G ?_
  intro T B D TE TW
  clear B D TE TW G Y ho hd hcd hD
  wrow_args hpre hlay hrd hwl hlo
  rename_i ns _ _ _ _ _ _ _ la vs _ hL _ hW _ hI _ hz _
  have hn : ns.length ≤ 63 := by omega
  have hobj := Mine.plain_of hW hL
  have hf := Mine.free_of T (by decide +kernel)
  refine wpAny_mono (Mine.law1_call Mine.main1 Mine.alt1 T hf (List.mem_of_getElem? (i := 0) (by rfl)) (List.mem_of_getElem? (i := 1) (by rfl)) (List.mem_of_getElem? (i := 2) (by rfl)) (List.mem_of_getElem? (i := 3) (by rfl)) (List.mem_of_getElem? (i := 4) (by rfl)) hmg hobj hI hn) (fun v s' ⟨hv, k1, k2, k3⟩ => ?_) fun _ _ x => x.elim
  subst hv
  refine GoodW.toG ⟨.inl ⟨.bool true, .bool true, [], rfl, ?_, .bool true, ?_, ?_⟩, k1, k2, by rw [k3]; exact hg⟩
  · intro cls; rfl
  · show (WShape.has PySem.Challenge.rw_oc0404_01.row.records (WData.bool true) WShape.bool && WTm.holds PySem.Challenge.rw_oc0404_01.row.records (.eq .res (.lit (.bool true))) { args := [ofPy (PyData.list (List.map PyData.int ns))], res := some (.bool true), after := [ofPy (PyData.list (List.map PyData.int ns))] }) = true
    have h1 : WShape.has PySem.Challenge.rw_oc0404_01.row.records (WData.bool true) WShape.bool = true := by simp [WShape.has, WShape.arms]
    rw [h1, Bool.true_and]
    unfold WTm.holds
    rw [w_eq_bool (w_res rfl) w_lit]
    rfl
  · exact unshared_nil
