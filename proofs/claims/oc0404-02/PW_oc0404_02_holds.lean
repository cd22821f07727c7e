import PyProof.Rows.All
import Wide.All
import OpenK.AllK
import Wide.FinOn
import PySem.Challenge.RW_oc0404_02
set_option Elab.async false
set_option maxRecDepth 100000
namespace Mine
open PySem PyProof.Rows

/-- plain values: what a value is, its token left out -/
inductive V where
  | none
  | bool (b : Bool)
  | int (i : Int)
  | ref (a : Addr)

def er : Value → Option V
  | .none => some .none
  | .bool b => some (.bool b)
  | .int i _ => some (.int i)
  | .ref a => some (.ref a)
  | _ => Option.none

theorem er_int {v : Value} {i : Int} (h : er v = some (.int i)) : ∃ t, v = .int i t := by
  cases v <;> simp [er] at h
  subst h; exact ⟨_, rfl⟩
theorem er_bool {v : Value} {b : Bool} (h : er v = some (.bool b)) : v = .bool b := by
  cases v <;> simp [er] at h
  subst h; rfl
theorem er_ref {v : Value} {a : Addr} (h : er v = some (.ref a)) : v = .ref a := by
  cases v <;> simp [er] at h
  subst h; rfl
def Ers (vs : List Value) (l : List V) : Prop := vs.map er = l.map some
theorem Ers.length {vs : List Value} {l : List V} (h : Ers vs l) : vs.length = l.length := by
  have := congrArg List.length h; simpa using this
theorem Ers.get {vs : List Value} {l : List V} (h : Ers vs l) {i : Nat} {v : V} (hv : l[i]? = some v) : ∃ x, vs[i]? = some x ∧ er x = some v := by
  have e : (vs.map er)[i]? = (l.map some)[i]? := by rw [h]
  rw [List.getElem?_map, List.getElem?_map, hv] at e
  cases hx : vs[i]? with
  | none => rw [hx] at e; cases e
  | some x => rw [hx] at e; exact ⟨x, rfl, by simpa using e⟩
theorem Ers.nil : Ers [] [] := rfl
theorem Ers.cons {v : Value} {x : V} {vs : List Value} {l : List V} (h : er v = some x) (r : Ers vs l) : Ers (v :: vs) (x :: l) := by
  unfold Ers at *; simp [h, r]
theorem Ers.append {vs ws : List Value} {l k : List V} (h : Ers vs l) (r : Ers ws k) : Ers (vs ++ ws) (l ++ k) := by
  unfold Ers at *; rw [List.map_append, List.map_append, h, r]
theorem Ers.set {vs : List Value} {l : List V} (h : Ers vs l) (n : Nat) {v : Value} {x : V} (hv : er v = some x) : Ers (vs.set n v) (l.set n x) := by
  unfold Ers at *; rw [List.map_set, List.map_set, h, hv]
theorem Ers.ints : ∀ {vs : List Value} {ns : List Int}, Ers vs (ns.map .int) → IntsAre vs ns
  | [], [], _ => .nil
  | [], _ :: _, h => by simp [Ers] at h
  | _ :: _, [], h => by simp [Ers] at h
  | v :: vs, n :: ns, h => by
    unfold Ers at h
    simp only [List.map_cons, List.cons.injEq] at h
    obtain ⟨t, rfl⟩ := er_int h.1
    exact .cons n t (Ers.ints (vs := vs) (ns := ns) h.2)
theorem ersOfInts : ∀ {vs : List Value} {ns : List Int}, IntsAre vs ns → Ers vs (ns.map .int)
  | _, _, .nil => rfl
  | _, _, .cons _ _ h => Ers.cons rfl (ersOfInts h)

def LObj (o : Obj) (l : List V) : Prop := ∃ vs n, o = { cls := .type "list", data := .seq vs n } ∧ Ers vs.toList l

structure St where
  loc : Str → Option V
  hp : Addr → Option (List V)

def St.set (σ : St) (x : Str) (v : V) : St := { σ with loc := fun y => if y = x then some v else σ.loc y }
def St.put (σ : St) (a : Addr) (l : List V) : St := { σ with hp := fun b => if b = a then some l else σ.hp b }

structure Cx where
  prog : Program
  w : World
  A : Around
  ht : Heap
  ro : Addr → Option (List V)
  env : Env

def Cx.get (c : Cx) (σ : St) (a : Addr) : Option (List V) := match σ.hp a with
  | some l => some l
  | Option.none => c.ro a

def VarIs (env : Env) (m cm : Str → Option Value) (x : Str) (v : V) : Prop :=
  (env.kindOf x = some .local ∧ ∃ val, m x = some val ∧ er val = some v) ∨
  (env.kindOf x = some .cell ∧ ∃ a val, env.cells.lookup x = some a ∧ cm x = some val ∧ er val = some v)

structure Rel (c : Cx) (b₀ : Addr → Option Obj) (s₀ : Shared) (σ : St) (s : Shared) : Prop where
  same : ∃ h tk, s = { s₀ with heap := h, toks := tk }
  top : ∀ a o, c.ht.get? a = some o → b₀ a = some o
  keep : ∀ a o, b₀ a = some o → s.heap.get? a = some o
  ro : ∀ a l, c.ro a = some l → ∃ o, b₀ a = some o ∧ LObj o l
  hp : ∀ a l, σ.hp a = some l → b₀ a = Option.none ∧ ∃ o, s.heap.get? a = some o ∧ LObj o l
  frame : ∃ m cm, s.heap.Ns c.env.locals m ∧ (∀ n a, c.env.cells.lookup n = some a → s.heap.IsCell a (cm n)) ∧ ∀ x v, σ.loc x = some v → VarIs c.env m cm x v
  own : b₀ c.env.locals = Option.none
  cells : c.env.func.isSome = true → (∀ n a, c.env.cells.lookup n = some a → b₀ a = Option.none) ∧ c.env.cells.Pairwise fun x y => x.2 ≠ y.2

/-- facts about the context that never change -/
structure Cx.Ok (c : Cx) : Prop where
  fn : c.env.scope.kind = .function
  glob : c.env.globals = mainGlobals
  bi : c.env.builtins = builtinsNs
  hand : c.A.handled = Option.none
  units : c.A.units + 64 < cLine

section
variable {c : Cx} {b₀ : Addr → Option Obj} {s₀ s : Shared} {σ : St}

theorem Rel.plain (R : Rel c b₀ s₀ σ s) {a : Addr} {l : List V} (h : c.get σ a = some l) : ∃ (vs : Array Value) (n : Nat), s.heap.get? a = some { cls := .type "list", data := .seq vs n } ∧ Ers vs.toList l := by
  unfold Cx.get at h
  cases hh : σ.hp a with
  | some k =>
    rw [hh] at h; cases h
    obtain ⟨_, o, ho, vs, n, rfl, e⟩ := R.hp a _ hh
    exact ⟨vs, n, ho, e⟩
  | none =>
    rw [hh] at h
    obtain ⟨o, ho, vs, n, rfl, e⟩ := R.ro a l h
    exact ⟨vs, n, R.keep a _ ho, e⟩
theorem Rel.list (R : Rel c b₀ s₀ σ s) {a : Addr} {l : List V} (h : c.get σ a = some l) : ∃ vs : Array Value, s.heap.IsList a vs ∧ Ers vs.toList l := by
  obtain ⟨vs, n, ho, e⟩ := R.plain h
  exact ⟨vs, ⟨_, ho, rfl, n, rfl⟩, e⟩

theorem Rel.grow (R : Rel c b₀ s₀ σ s) {h' : Heap} {tk : Nat} (hk : ∀ b o, s.heap.get? b = some o → h'.get? b = some o) : Rel c b₀ s₀ σ { s with heap := h', toks := tk } where
  same := by obtain ⟨h, t, rfl⟩ := R.same; exact ⟨h', tk, rfl⟩
  top := R.top
  keep := fun a o e => hk a o (R.keep a o e)
  ro := R.ro
  hp := fun a l e => ⟨(R.hp a l e).1, let ⟨_, o, ho, x⟩ := R.hp a l e; ⟨o, hk a o ho, x⟩⟩
  frame := by
    obtain ⟨m, cm, h1, h2, h3⟩ := R.frame
    exact ⟨m, cm, h1.keeps hk, fun n a e => (h2 n a e).keeps hk, h3⟩
  own := R.own
  cells := R.cells

theorem Rel.toks (R : Rel c b₀ s₀ σ s) (tk : Nat) : Rel c b₀ s₀ σ { s with toks := tk } := R.grow (h' := s.heap) fun _ _ e => e

theorem Rel.pushed (R : Rel c b₀ s₀ σ s) (o : Obj) : Rel c b₀ s₀ σ { s with heap := s.heap.push o } := R.grow (tk := s.toks) fun _ _ e => Heap.get?_push_of_some _ e

theorem Rel.freshB (R : Rel c b₀ s₀ σ s) {a : Addr} (h : s.heap.objs.size ≤ a) : b₀ a = Option.none := by
  cases e : b₀ a with
  | none => rfl
  | some o => exact absurd (Heap.lt_size (R.keep a o e)) (Nat.not_lt.mpr h)
theorem Rel.freshH (R : Rel c b₀ s₀ σ s) {a : Addr} (h : s.heap.objs.size ≤ a) : σ.hp a = Option.none := by
  cases e : σ.hp a with
  | none => rfl
  | some l => obtain ⟨_, o, ho, _⟩ := R.hp a l e; exact absurd (Heap.lt_size ho) (Nat.not_lt.mpr h)
theorem Rel.freshR (R : Rel c b₀ s₀ σ s) {a : Addr} (h : s.heap.objs.size ≤ a) : c.ro a = Option.none := by
  cases e : c.ro a with
  | none => rfl
  | some l => obtain ⟨o, ho, _⟩ := R.ro a l e; rw [R.freshB h] at ho; cases ho
theorem Rel.freshG (R : Rel c b₀ s₀ σ s) {a : Addr} (h : s.heap.objs.size ≤ a) : c.get σ a = Option.none := by
  unfold Cx.get; rw [R.freshH h]; exact R.freshR h

/-- a new plain list is entered -/
theorem Rel.enter (R : Rel c b₀ s₀ σ s) {a : Addr} {o : Obj} {l : List V} (ho : s.heap.get? a = some o) (hl : LObj o l) (hb : b₀ a = Option.none) : Rel c b₀ s₀ (σ.put a l) s where
  same := R.same
  top := R.top
  keep := R.keep
  ro := R.ro
  hp := fun b k e => by
    by_cases h : b = a
    · subst h; simp only [St.put, if_true] at e; cases e; exact ⟨hb, o, ho, hl⟩
    · simp only [St.put, if_neg h] at e; exact R.hp b k e
  frame := R.frame
  own := R.own
  cells := R.cells

theorem Rel.alloc (R : Rel c b₀ s₀ σ s) {vs : Array Value} {n : Nat} {l : List V} (e : Ers vs.toList l) {h' : Heap} {tk : Nat} {a : Addr} (ha : s.heap.objs.size ≤ a)
    (hk : ∀ b o, s.heap.get? b = some o → h'.get? b = some o) (ho : h'.get? a = some { cls := .type "list", data := .seq vs n }) : Rel c b₀ s₀ (σ.put a l) { s with heap := h', toks := tk } :=
  (R.grow (tk := tk) hk).enter ho ⟨vs, n, rfl, e⟩ (R.freshB ha)

/-- a list of the call's own is turned -/
theorem Rel.turn (R : Rel c b₀ s₀ σ s) {a : Addr} {l₀ l : List V} (h0 : σ.hp a = some l₀) {h' : Heap} {tk : Nat} (hs : Heap.SameBut a s.heap h') {o : Obj} (ho : h'.get? a = some o) (hl : LObj o l) :
    Rel c b₀ s₀ (σ.put a l) { s with heap := h', toks := tk } := by
  obtain ⟨hb, o₀, ho₀, vs₀, n₀, rfl, _⟩ := R.hp a l₀ h0
  have ne : ∀ b o, b₀ b = some o → b ≠ a := fun b o e h => by rw [h, hb] at e; cases e
  refine { same := ?_, top := R.top, keep := ?_, ro := R.ro, hp := ?_, frame := ?_, own := R.own, cells := R.cells }
  · obtain ⟨h, t, rfl⟩ := R.same; exact ⟨h', tk, rfl⟩
  · intro b o e; exact (hs.2 b (ne b o e)).trans (R.keep b o e)
  · intro b k e
    by_cases h : b = a
    · subst h; simp only [St.put, if_true] at e; cases e; exact ⟨hb, o, ho, hl⟩
    · simp only [St.put, if_neg h] at e
      obtain ⟨h1, o', h2, h3⟩ := R.hp b k e
      exact ⟨h1, o', (hs.2 b h).trans h2, h3⟩
  · obtain ⟨m, cm, h1, h2, h3⟩ := R.frame
    refine ⟨m, cm, h1.sameBut hs ?_, fun n x e => (h2 n x e).sameBut hs ?_, h3⟩
    · rintro rfl
      obtain ⟨o', _, _, e1, e2, _⟩ := h1
      rw [ho₀] at e1; cases e1; cases e2
    · rintro rfl
      obtain ⟨o', e1, e2⟩ := h2 n _ e
      rw [ho₀] at e1; cases e1; cases e2
end

/-- the judgement -/
def Wp (c : Cx) {α β : Type} (t : Sem α) (K : α → β → Prop) (Q : β → St → Prop) (σ : St) : Prop :=
  ∀ b₀ s₀ s, Rel c b₀ s₀ σ s → wpAny (model c.prog c.w) c.A t (fun a s' => ∃ b σ', K a b ∧ Rel c b₀ s₀ σ' s' ∧ Q b σ') (fun _ _ => False) s

def VK (a : Value) (v : V) : Prop := er a = some v
inductive Fl where
  | next | brk | cont
  | ret (v : V)
def FK : Flow → Fl → Prop
  | .next, .next => True
  | .brk, .brk => True
  | .cont, .cont => True
  | .ret a, .ret v => er a = some v
  | _, _ => False

def W (c : Cx) (e : Expr) (Q : V → St → Prop) (σ : St) : Prop := Wp c (eval e c.env) VK Q σ
def Wb (c : Cx) (e : Expr) (Q : Bool → St → Prop) (σ : St) : Prop := Wp c (isTrue e c.env (eval e c.env)) Eq Q σ
def Ws (c : Cx) (st : Stmt) (Q : Fl → St → Prop) (σ : St) : Prop := Wp c (exec st c.env) FK Q σ
def Wss (c : Cx) (st : List Stmt) (Q : Fl → St → Prop) (σ : St) : Prop := Wp c (execs st c.env) FK Q σ

section
variable {c : Cx} {σ : St} {α β γ δ : Type}

theorem Wp.mono {t : Sem α} {K : α → β → Prop} {Q Q' : β → St → Prop} (h : Wp c t K Q σ) (hq : ∀ b σ', Q b σ' → Q' b σ') : Wp c t K Q' σ := fun b₀ s₀ s R =>
  wpAny_mono (h b₀ s₀ s R) (fun _ _ ⟨b, σ', k, r, q⟩ => ⟨b, σ', k, r, hq b σ' q⟩) fun _ _ x => x

end

end Mine

namespace Mine
open PySem PyProof.Rows

/-- every object of the heap but the frame, as a ledger -/
def allNews (h : Heap) (L : Addr) : List (Addr × Obj) := (List.range h.objs.size).filterMap fun a => if a = L then Option.none else (h.get? a).map fun o => (a, o)
theorem mem_allNews {h : Heap} {L a : Addr} {o : Obj} (e : h.get? a = some o) (ha : a ≠ L) : (a, o) ∈ allNews h L := by
  unfold allNews
  rw [List.mem_filterMap]
  exact ⟨a, List.mem_range.mpr (Heap.lt_size e), by rw [if_neg ha, e]; rfl⟩
theorem of_allNews {h : Heap} {L : Addr} {p : Addr × Obj} (hp : p ∈ allNews h L) : h.get? p.1 = some p.2 ∧ p.1 ≠ L := by
  unfold allNews at hp
  rw [List.mem_filterMap] at hp
  obtain ⟨a, _, e⟩ := hp
  by_cases ha : a = L
  · rw [if_pos ha] at e; cases e
  · rw [if_neg ha] at e
    cases h' : h.get? a with
    | none => rw [h'] at e; cases e
    | some o => rw [h'] at e; cases e; exact ⟨h', ha⟩
def noHeap : Heap := ⟨#[], {}⟩
theorem noHeap_get (a : Addr) : noHeap.get? a = Option.none := by
  cases e : noHeap.get? a with
  | none => rfl
  | some o => exact absurd (Heap.lt_size e) (Nat.not_lt_zero _)
theorem frAll {h : Heap} {L : Addr} {m : Str → Option Value} (hn : h.Ns L m) : Fr noHeap L h m := ⟨hn, (fun b o e => by rw [noHeap_get] at e; cases e), Nat.zero_le _⟩
theorem newsAll (h : Heap) (L : Addr) : News noHeap L h (allNews h L) := fun _ hp => ⟨(of_allNews hp).1, (of_allNews hp).2, noHeap_get _⟩

section
variable {c : Cx} {b₀ : Addr → Option Obj} {s₀ s : Shared} {σ : St}

/-- the frame's table as some map: what a library's rule asks -/
theorem Rel.ns (R : Rel c b₀ s₀ σ s) : ∃ m, s.heap.Ns c.env.locals m := by
  obtain ⟨m, _, h, _⟩ := R.frame; exact ⟨m, h⟩

theorem Rel.growL (R : Rel c b₀ s₀ σ s) {h' : Heap} {tk : Nat} (hn : ∀ m, s.heap.Ns c.env.locals m → h'.Ns c.env.locals m) (hk : ∀ b o, b ≠ c.env.locals → s.heap.get? b = some o → h'.get? b = some o) : Rel c b₀ s₀ σ { s with heap := h', toks := tk } := by
  obtain ⟨m, cm, h1, h2, h3⟩ := R.frame
  have ne : ∀ b o, b₀ b = some o → b ≠ c.env.locals := fun b o e h => by rw [h, R.own] at e; cases e
  refine { same := ?_, top := R.top, keep := ?_, ro := R.ro, hp := ?_, frame := ⟨m, cm, hn m h1, ?_, h3⟩, own := R.own, cells := R.cells }
  · obtain ⟨h, t, rfl⟩ := R.same; exact ⟨h', tk, rfl⟩
  · exact fun a o e => hk a o (ne a o e) (R.keep a o e)
  · intro a l e
    obtain ⟨p, o, ho, x⟩ := R.hp a l e
    refine ⟨p, o, hk a o ?_ ho, x⟩
    rintro rfl
    obtain ⟨o', _, _, e1, e2, _⟩ := h1
    obtain ⟨vs, n, rfl, _⟩ := x
    rw [ho] at e1; cases e1; cases e2
  · intro n a e
    obtain ⟨o, e1, e2⟩ := h2 n a e
    refine ⟨o, hk a o ?_ e1, e2⟩
    rintro rfl
    obtain ⟨o', _, _, e3, e4, _⟩ := h1
    rw [e1] at e3; cases e3; rw [e2] at e4; cases e4

/-- a rule of the library over a ledger: what it makes is entered -/
theorem Rel.ofNews (R : Rel c b₀ s₀ σ s) {m : Str → Option Value} (hm : s.heap.Ns c.env.locals m) {h' : Heap} {tk : Nat} {news : List (Addr × Obj)} (F : Fr noHeap c.env.locals h' m) (N : News noHeap c.env.locals h' news)
    (hs : ∀ p ∈ allNews s.heap c.env.locals, p ∈ news) : Rel c b₀ s₀ σ { s with heap := h', toks := tk } :=
  R.growL (fun m' hm' => by
    obtain ⟨o, es, ep, a, b, d, e⟩ := F.ns
    exact ⟨o, es, ep, a, b, d, fun x => (e x).trans (hm.agree hm' x)⟩) fun b o hb e => (N _ (hs _ (mem_allNews e hb))).1
end

section
variable {c : Cx} {σ : St} {Q : V → St → Prop}

def Op (c : Cx) (op : Operator) (a b : V) (Q : V → St → Prop) (σ : St) : Prop := ∀ x y, er x = some a → er y = some b → Wp c (binaryOp op x y) VK Q σ
def Cm (c : Cx) (op : CmpOp) (a b : V) (Q : Bool → St → Prop) (σ : St) : Prop := ∀ x y, er x = some a → er y = some b → Wp c (compareOp op x y) (fun v b => v = .bool b) Q σ

theorem W_int {i : Int} {k pos} (h : Q (.int i) σ) : W c (.Constant (.int i) k pos) Q σ := fun _ _ _ R => wpAny_Constant_int ⟨_, _, rfl, R.toks _, h⟩
theorem W_name (hc : c.Ok) {x : Str} {pos : Pos} {v : V} (hx : σ.loc x = some v) (h : Q v σ) (hd : (x == ("__debug__" : Str)) = false := by decide) : W c (.Name x pos) Q σ := fun _ _ s R => by
  obtain ⟨m, cm, h1, h2, h3⟩ := R.frame
  refine wpAny_Name ?_ hd
  rcases h3 x v hx with ⟨hk, val, hm, he⟩ | ⟨hk, a, val, hl, hm, he⟩
  · exact wpAny_loadName_local hc.fn hk h1 hm ⟨v, σ, he, R, h⟩
  · exact wpAny_loadName_cell hc.fn hk hl (hm ▸ h2 x a hl) ⟨v, σ, he, R, h⟩

theorem W_BinOp {l r : Expr} {op : Operator} {pos : Pos} (h : W c l (fun a σ₁ => W c r (fun b σ₂ => Op c op a b Q σ₂) σ₁) σ) : W c (.BinOp l op r pos) Q σ := fun b₀ s₀ s R =>
  wpAny_BinOp (wpAny_mono (h b₀ s₀ s R) (fun _ s₁ ⟨_, _, ka, R₁, h₁⟩ => wpAny_mono (h₁ b₀ s₀ s₁ R₁) (fun _ s₂ ⟨_, _, kb, R₂, h₂⟩ => h₂ _ _ ka kb b₀ s₀ s₂ R₂) fun _ _ x => x.elim) fun _ _ x => x.elim)

theorem Op_add {a b : Int} (h : Q (.int (a + b)) σ) : Op c .Add (.int a) (.int b) Q σ := fun x y hx hy b₀ s₀ s R => by
  obtain ⟨t, rfl⟩ := er_int hx; obtain ⟨u, rfl⟩ := er_int hy
  exact PySem.P.add_int ⟨_, _, rfl, R.toks _, h⟩
theorem Op_sub {a b : Int} (h : Q (.int (a - b)) σ) : Op c .Sub (.int a) (.int b) Q σ := fun x y hx hy b₀ s₀ s R => by
  obtain ⟨t, rfl⟩ := er_int hx; obtain ⟨u, rfl⟩ := er_int hy
  exact PyProof.Rows.sub_int ⟨_, _, rfl, R.toks _, h⟩
theorem Op_mul {a b : Int} (hm : IntMulOk a b) (h : Q (.int (a * b)) σ) : Op c .Mult (.int a) (.int b) Q σ := fun x y hx hy b₀ s₀ s R => by
  obtain ⟨t, rfl⟩ := er_int hx; obtain ⟨u, rfl⟩ := er_int hy
  exact PyProof.Rows.mul_int ⟨_, _, rfl, R.toks _, h⟩ hm
theorem Op_mod {a b : Int} (hb : b ≠ 0) (h : Q (.int (a.fmod b)) σ) : Op c .Mod (.int a) (.int b) Q σ := fun x y hx hy b₀ s₀ s R => by
  obtain ⟨t, rfl⟩ := er_int hx; obtain ⟨u, rfl⟩ := er_int hy
  exact PyProof.Rows.mod_int hb ⟨_, _, rfl, R.toks _, h⟩
theorem Op_floordiv {a b : Int} (hb : b ≠ 0) (hs : b.natAbs < 1073741824) (h : Q (.int (a.fdiv b)) σ) : Op c .FloorDiv (.int a) (.int b) Q σ := fun x y hx hy b₀ s₀ s R => by
  obtain ⟨t, rfl⟩ := er_int hx; obtain ⟨u, rfl⟩ := er_int hy
  exact PyProof.Rows.floordiv_int hb ⟨_, _, rfl, R.toks _, h⟩ (Or.inl (PyProof.noPylong_small hs))
theorem Op_pow {a n : Int} (hn : 0 ≤ n) (hs : (Builtin.Int.intBits a : Int) * n ≤ 2 ^ 27) (h : Q (.int (a ^ n.toNat)) σ) : Op c .Pow (.int a) (.int n) Q σ := fun x y hx hy b₀ s₀ s R => by
  obtain ⟨t, rfl⟩ := er_int hx; obtain ⟨u, rfl⟩ := er_int hy
  exact PyProof.Rows.pow_int hn hs ⟨_, _, rfl, R.toks _, h⟩

theorem Op_addL {a b : Addr} {l k : List V} (ha : c.get σ a = some l) (hb : c.get σ b = some k) (hs : l.length + k.length ≤ sizeLine)
    (h : ∀ d, c.get σ d = Option.none → Q (.ref d) (σ.put d (l ++ k))) : Op c .Add (.ref a) (.ref b) Q σ := fun x y hx hy b₀ s₀ s R => by
  have := er_ref hx; subst this
  have := er_ref hy; subst this
  obtain ⟨vs, hl, el⟩ := R.list ha
  obtain ⟨ws, hk, ek⟩ := R.list hb
  obtain ⟨m, hm⟩ := R.ns
  refine add_arrays (frAll hm) (newsAll s.heap c.env.locals) hl hk (fun h' F N => ⟨.ref s.heap.objs.size, σ.put s.heap.objs.size (l ++ k), rfl, ?_, h _ (R.freshG (Nat.le_refl _))⟩) ?_
  · have R' : Rel c b₀ s₀ σ { s with heap := h', toks := s.toks } := R.ofNews hm F N fun p hp => .tail _ hp
    exact R'.enter (N _ (.head _)).1 ⟨_, _, rfl, by simpa using el.append ek⟩ (R.freshB (Nat.le_refl _))
  · have e1 := el.length; have e2 := ek.length
    rw [Array.length_toList] at e1 e2
    omega

def repL (l : List V) (n : Nat) : List V := (List.replicate n l).flatten
theorem Op_mulL {a : Addr} {l : List V} {n : Int} (ha : σ.hp a = some l) (hn : n < 2 ^ 24) (h0 : 0 ≤ n) (hs : l.length * n.toNat ≤ 2 ^ 24)
    (h : ∀ d, c.get σ d = Option.none → Q (.ref d) (σ.put d (repL l n.toNat))) : Op c .Mult (.ref a) (.int n) Q σ := fun x y hx hy b₀ s₀ s R => by
  have := er_ref hx; subst this
  obtain ⟨t, rfl⟩ := er_int hy
  obtain ⟨_, o, ho, vs, k, rfl, el⟩ := R.hp a l ha
  obtain ⟨m, hm⟩ := R.ns
  have e1 := el.length
  rw [Array.length_toList] at e1
  refine mul_list (frAll hm) (newsAll s.heap c.env.locals) ho (by omega) (by omega) (by rw [e1]; exact hs) (fun h' F N => ⟨.ref s.heap.objs.size, σ.put s.heap.objs.size (repL l n.toNat), rfl, ?_, h _ (R.freshG (Nat.le_refl _))⟩)
  have R' : Rel c b₀ s₀ σ { s with heap := h', toks := s.toks } := R.ofNews hm F N fun p hp => .tail _ hp
  refine R'.enter (N _ (.head _)).1 ⟨_, _, rfl, ?_⟩ (R.freshB (Nat.le_refl _))
  have key : ∀ (k : Nat) (acc : Array Value) (al : List V), Ers acc.toList al → Ers (List.foldl (fun x1 x2 => x1 ++ x2) acc (List.replicate k vs)).toList (al ++ repL l k) := by
    intro k
    induction k with
    | zero => intro acc al h; simpa [repL] using h
    | succ k ih =>
      intro acc al h
      rw [List.replicate_succ, List.foldl_cons]
      have := ih (acc ++ vs) (al ++ l) (by simpa using h.append el)
      simpa [repL, List.replicate_succ] using this
  by_cases hv : vs.isEmpty = true
  · have hl0 : l = [] := by
      have : vs.size = 0 := by simpa using hv
      rw [e1] at this
      exact List.length_eq_zero_iff.mp this
    rw [if_pos hv]
    have e : repL l n.toNat = [] := by rw [hl0]; simp [repL]
    rw [e]; rfl
  · rw [if_neg hv]
    simpa using key n.toNat #[] [] rfl

theorem W_Compare {l r : Expr} {op : CmpOp} {pos : Pos} (h : W c l (fun a σ₁ => W c r (fun b σ₂ => Cm c op a b (fun b => Q (.bool b)) σ₂) σ₁) σ)
    (hm : behindInMarks op r = false := by with_unfolding_all rfl) : W c (.Compare l [op] [r] pos) Q σ := fun b₀ s₀ s R =>
  wpAny_Compare1 (wpAny_mono (h b₀ s₀ s R) (fun _ s₁ ⟨_, _, ka, R₁, h₁⟩ => wpAny_mono (h₁ b₀ s₀ s₁ R₁) (fun _ s₂ ⟨_, _, kb, R₂, h₂⟩ =>
    wpAny_mono (h₂ _ _ ka kb b₀ s₀ s₂ R₂) (fun _ s₃ ⟨b, σ', kv, R₃, h₃⟩ => ⟨.bool b, σ', by rw [kv]; rfl, R₃, h₃⟩) fun _ _ x => x) fun _ _ x => x.elim) fun _ _ x => x.elim) hm

theorem Wb_Compare {Q : Bool → St → Prop} {l r : Expr} {op : CmpOp} {pos : Pos} (h : W c l (fun a σ₁ => W c r (fun b σ₂ => Cm c op a b Q σ₂) σ₁) σ)
    (hm : behindInMarks op r = false := by with_unfolding_all rfl) : Wb c (.Compare l [op] [r] pos) Q σ := fun b₀ s₀ s R =>
  wpAny_isTrue_Compare1 (wpAny_mono (h b₀ s₀ s R) (fun _ s₁ ⟨_, _, ka, R₁, h₁⟩ => wpAny_mono (h₁ b₀ s₀ s₁ R₁) (fun _ s₂ ⟨_, _, kb, R₂, h₂⟩ =>
    wpAny_mono (h₂ _ _ ka kb b₀ s₀ s₂ R₂) (fun _ s₃ ⟨b, σ', kv, R₃, h₃⟩ => by rw [kv]; exact wpAny_truthy_bool ⟨b, σ', rfl, R₃, h₃⟩) fun _ _ x => x) fun _ _ x => x.elim) fun _ _ x => x.elim) hm

section
variable {Q : Bool → St → Prop} {a b : Int}
theorem Cm_eq (h : Q (decide (a = b)) σ) : Cm c .Eq (.int a) (.int b) Q σ := fun x y hx hy b₀ s₀ s R => by
  obtain ⟨t, rfl⟩ := er_int hx; obtain ⟨u, rfl⟩ := er_int hy
  exact PyProof.Rows.eq_int ⟨_, _, rfl, R, by rw [show (a == b) = decide (a = b) from rfl]; exact h⟩
theorem Cm_ne (h : Q (!decide (a = b)) σ) : Cm c .NotEq (.int a) (.int b) Q σ := fun x y hx hy b₀ s₀ s R => by
  obtain ⟨t, rfl⟩ := er_int hx; obtain ⟨u, rfl⟩ := er_int hy
  exact PyProof.Rows.ne_int ⟨_, _, rfl, R, h⟩
theorem Cm_lt (h : Q (decide (a < b)) σ) : Cm c .Lt (.int a) (.int b) Q σ := fun x y hx hy b₀ s₀ s R => by
  obtain ⟨t, rfl⟩ := er_int hx; obtain ⟨u, rfl⟩ := er_int hy
  exact PyProof.Rows.lt_int ⟨_, _, rfl, R, h⟩
theorem Cm_le (h : Q (decide (a ≤ b)) σ) : Cm c .LtE (.int a) (.int b) Q σ := fun x y hx hy b₀ s₀ s R => by
  obtain ⟨t, rfl⟩ := er_int hx; obtain ⟨u, rfl⟩ := er_int hy
  exact PyProof.Rows.le_int ⟨_, _, rfl, R, h⟩
theorem Cm_ge (h : Q (decide (b ≤ a)) σ) : Cm c .GtE (.int a) (.int b) Q σ := fun x y hx hy b₀ s₀ s R => by
  obtain ⟨t, rfl⟩ := er_int hx; obtain ⟨u, rfl⟩ := er_int hy
  exact PyProof.Rows.ge_int ⟨_, _, rfl, R, h⟩

theorem Wb_and {x y : Expr} {pos : Pos} (h : Wb c x (fun b σ₁ => (b = false → Q false σ₁) ∧ (b = true → Wb c y Q σ₁)) σ) : Wb c (.BoolOp .And [x, y] pos) Q σ := fun b₀ s₀ s R => by
  refine isTrue_and (wpAny_mono (h b₀ s₀ s R) (fun v s₁ ⟨b, σ₁, k, R₁, h₁⟩ => ?_) fun _ _ x => x)
  subst k
  cases v with
  | false => exact ⟨false, σ₁, rfl, R₁, h₁.1 rfl⟩
  | true =>
    refine isTrue_and (wpAny_mono (h₁.2 rfl b₀ s₀ s₁ R₁) (fun v s₂ ⟨b, σ₂, k, R₂, h₂⟩ => ?_) fun _ _ x => x)
    subst k
    cases v with
    | false => exact ⟨false, σ₂, rfl, R₂, h₂⟩
    | true => exact isTrue_and_nil ⟨true, σ₂, rfl, R₂, h₂⟩
end

theorem W_IfExp {t x y : Expr} {pos : Pos} (h : Wb c t (fun b σ₁ => (b = true → W c x Q σ₁) ∧ (b = false → W c y Q σ₁)) σ) : W c (.IfExp t x y pos) Q σ := fun b₀ s₀ s R =>
  wpAny_IfExp (wpAny_mono (h b₀ s₀ s R) (fun v s₁ ⟨b, σ₁, k, R₁, h₁⟩ => by
    subst k
    cases v with
    | true => exact h₁.1 rfl b₀ s₀ s₁ R₁
    | false => exact h₁.2 rfl b₀ s₀ s₁ R₁) fun _ _ x => x)
end

/-- several expressions, one behind the other -/
def WL (c : Cx) : List Expr → (List V → St → Prop) → St → Prop
  | [], Q, σ => Q [] σ
  | e :: r, Q, σ => W c e (fun v σ₁ => WL c r (fun vs σ₂ => Q (v :: vs) σ₂) σ₁) σ

def noStar : List Expr → Bool
  | [] => true
  | .Starred .. :: _ => false
  | _ :: r => noStar r
theorem starEach_of {env : Env} : ∀ {e : Expr} {r : List Expr}, noStar (e :: r) = true → starEach (e :: r) env = (false, eval e env) :: starEach r env := by
  intro e r h
  cases e <;> first | rfl | (simp [noStar] at h)
theorem noStar_tail {e : Expr} {r : List Expr} (h : noStar (e :: r) = true) : noStar r = true := by
  cases e <;> first | exact h | (simp [noStar] at h)
theorem backTo_any {env : Env} {pos : Pos} : ∀ {es : List Expr}, noStar es = true → (backTo pos (starEach es env)).any (·.1) = false
  | [], _ => rfl
  | e :: r, h => by
    rw [starEach_of h]
    show (false || (backTo pos (starEach r env)).any (·.1)) = false
    rw [backTo_any (noStar_tail h)]; rfl

theorem WL.run {c : Cx} {pos : Pos} {b₀ : Addr → Option Obj} {s₀ : Shared} : ∀ {es : List Expr} {Q : List V → St → Prop} {σ : St} {s : Shared}, noStar es = true → WL c es Q σ → Rel c b₀ s₀ σ s →
    wpAny (model c.prog c.w) c.A (spliced (backTo pos (starEach es c.env))) (fun vs s' => ∃ l σ', Ers vs l ∧ Rel c b₀ s₀ σ' s' ∧ Q l σ') (fun _ _ => False) s
  | [], Q, σ, s, _, h, R => args_nil ⟨[], σ, rfl, R, h⟩
  | e :: r, Q, σ, s, hs, h, R => by
    refine args_cons (wpAny_mono (h b₀ s₀ s R) (fun v s₁ ⟨x, σ₁, k, R₁, h₁⟩ => ?_) fun _ _ x => x) (starEach_of hs)
    exact wpAny_mono (WL.run (noStar_tail hs) h₁ R₁) (fun vs s₂ ⟨l, σ₂, k₂, R₂, h₂⟩ => ⟨x :: l, σ₂, Ers.cons k k₂, R₂, h₂⟩) fun _ _ x => x

section
variable {c : Cx} {σ : St} {Q : V → St → Prop}
theorem W_List {es : List Expr} {pos : Pos} (hs : noStar es = true) (hz : es.length ≤ 1000) (h : WL c es (fun l σ₁ => l.length = es.length → ∀ d, c.get σ₁ d = Option.none → Q (.ref d) (σ₁.put d l)) σ) : W c (.List es pos) Q σ := fun b₀ s₀ s R => by
  have len : ∀ {es : List Expr} {Q : List V → St → Prop} {σ : St}, WL c es Q σ → WL c es (fun l σ' => l.length = es.length ∧ Q l σ') σ := by
    intro es
    induction es with
    | nil => intro Q σ h; exact ⟨rfl, h⟩
    | cons e r ih => intro Q σ h; exact Wp.mono h fun v σ₁ h₁ => by
                      have := ih h₁
                      refine (?_ : WL c r _ σ₁)
                      clear h h₁
                      revert this
                      generalize hk : (fun l σ' => l.length = r.length ∧ Q (v :: l) σ') = P
                      intro this
                      have mono : ∀ {es : List Expr} {P Q : List V → St → Prop} {σ : St}, (∀ l σ', P l σ' → Q l σ') → WL c es P σ → WL c es Q σ := by
                        intro es
                        induction es with
                        | nil => intro P Q σ hq h; exact hq _ _ h
                        | cons e r ih => intro P Q σ hq h; exact Wp.mono h fun v σ₁ h₁ => ih (fun l σ' h => hq _ _ h) h₁
                      exact mono (fun l σ' h => by subst hk; exact ⟨by simp [h.1], h.2⟩) this
  refine List_ (wpAny_mono (WL.run hs (len h) R) (fun vs s₁ ⟨l, σ₁, k, R₁, hl, h₁⟩ => ?_) fun _ _ x => x)
  refine wpAny_newObj_type ?_ (by
    show vs.toArray.size ≤ sizeLine
    have := k.length
    rw [List.size_toArray, this, hl]
    exact Nat.le_trans hz (by decide))
  exact ⟨.ref s₁.heap.objs.size, σ₁.put s₁.heap.objs.size l, rfl, R₁.alloc (tk := s₁.toks) (n := 0) (by simpa using k) (Nat.le_refl _) (fun b o e => Heap.get?_push_of_some _ e) (Heap.get?_push_size _ rfl), h₁ hl _ (R₁.freshG (Nat.le_refl _))⟩
end
end Mine

namespace Mine
open PySem PyProof.Rows

def biTable : List (Str × Value) := [("len", .builtin "len"), ("sum", .builtin "sum"), ("min", .builtin "min"), ("max", .builtin "max"), ("range", .type "range"), ("list", .type "list")]

/-- what stands at the top -/
structure TopOk (ht : Heap) (mg : Str → Option Value) : Prop where
  g : ht.Ns mainGlobals mg
  b : ∃ mb, ht.Ns builtinsNs mb ∧ ∀ p ∈ biTable, mg p.1 = Option.none ∧ mb p.1 = some p.2
  nolimit : ht.NoLimit

section
variable {c : Cx} {b₀ : Addr → Option Obj} {s₀ s : Shared} {σ : St}

theorem Rel.topKeep (R : Rel c b₀ s₀ σ s) : ∀ b o, c.ht.get? b = some o → s.heap.get? b = some o := fun b o e => R.keep b o (R.top b o e)

theorem evalBi (hc : c.Ok) {mg : Str → Option Value} (T : TopOk c.ht mg) (R : Rel c b₀ s₀ σ s) {x : Str} {pos : Pos} {v : Value} {Q : Value → Shared → Prop} {E : Value → Shared → Prop} (hx : (x, v) ∈ biTable) (hk : c.env.kindOf x = some .globalImplicit) (h : Q v s)
    (hd : (x == ("__debug__" : Str)) = false := by decide) : wpAny (model c.prog c.w) c.A (eval (.Name x pos) c.env) Q E s := by
  obtain ⟨mb, hb, ht⟩ := T.b
  exact Calls.Name_function_global hc.fn hk (Calls.loadGlobal_builtin (by rw [hc.glob]; exact T.g.keeps R.topKeep) (ht _ hx).1 (by rw [hc.bi]; exact hb.keeps R.topKeep) (ht _ hx).2 h) hd

theorem evalGl (hc : c.Ok) {mg : Str → Option Value} (T : TopOk c.ht mg) (R : Rel c b₀ s₀ σ s) {x : Str} {pos : Pos} {v : Value} {Q : Value → Shared → Prop} {E : Value → Shared → Prop} (hx : mg x = some v) (hk : c.env.kindOf x = some .globalImplicit) (h : Q v s)
    (hd : (x == ("__debug__" : Str)) = false := by decide) : wpAny (model c.prog c.w) c.A (eval (.Name x pos) c.env) Q E s :=
  Calls.Name_function_global hc.fn hk (Calls.loadGlobal_global (by rw [hc.glob]; exact T.g.keeps R.topKeep) hx h) hd
end

section
variable {c : Cx} {σ : St} {Q : V → St → Prop} {mg : Str → Option Value}

def Cb (c : Cx) (f : Value) (l : List V) (Q : V → St → Prop) (σ : St) : Prop := ∀ vs, Ers vs l → Wp c (call f vs) VK Q σ

theorem W_callB (hc : c.Ok) (T : TopOk c.ht mg) {x : Str} {id : String} {e : Expr} {r : List Expr} {p pos : Pos} (h : WL c (e :: r) (fun l σ₁ => Cb c (.builtin id) l Q σ₁) σ)
    (hx : (x, .builtin id) ∈ biTable) (hk : c.env.kindOf x = some .globalImplicit) (hs : noStar (e :: r) = true) (hd : (x == ("__debug__" : Str)) = false := by decide) : W c (.Call (.Name x p) (e :: r) [] pos) Q σ := fun b₀ s₀ s R => by
  refine Call_Name rfl (evalBi hc T R hx hk ?_ hd)
  refine callWith_builtin1 (wpAny_mono (WL.run hs h R) (fun vs s₁ ⟨l, σ₁, k, R₁, h₁⟩ => h₁ vs k b₀ s₀ s₁ R₁) fun _ _ x => x.elim) (starEach_of hs) (backTo_any (noStar_tail hs))
theorem ers1 {vs : List Value} {v : V} (h : Ers vs [v]) : ∃ x, vs = [x] ∧ er x = some v := by
  match vs, h with
  | [], h => simp [Ers] at h
  | [x], h => exact ⟨x, rfl, by simpa [Ers] using h⟩
  | _ :: _ :: _, h => simp [Ers] at h
theorem ers2 {vs : List Value} {v w : V} (h : Ers vs [v, w]) : ∃ x y, vs = [x, y] ∧ er x = some v ∧ er y = some w := by
  match vs, h with
  | [], h => simp [Ers] at h
  | [_], h => simp [Ers] at h
  | [x, y], h => exact ⟨x, y, rfl, by simpa [Ers] using h⟩
  | _ :: _ :: _ :: _, h => simp [Ers] at h

theorem Cb_len {a : Addr} {l : List V} (ha : c.get σ a = some l) (hz : l.length ≤ sizeLine) (h : Q (.int l.length) σ) : Cb c (.builtin "len") [.ref a] Q σ := fun vs hv b₀ s₀ s R => by
  obtain ⟨x, rfl, hx⟩ := ers1 hv
  have := er_ref hx; subst this
  obtain ⟨ws, hl, el⟩ := R.list ha
  have e := el.length
  rw [Array.length_toList] at e
  refine Calls.call_len_list hl ?_ ⟨.int l.length, σ, by rw [e]; rfl, R.toks _, h⟩
  rw [e]
  have : sizeLine = 2 ^ 24 := rfl
  omega

theorem intItems_of {vs : List Value} {ns : List Int} (h : IntsAre vs ns) : ∃ xs : Array (Int × Tok), vs.toArray = intItems xs ∧ xs.toList.map (·.1) = ns := by
  induction h with
  | nil => exact ⟨#[], by simp [intItems], rfl⟩
  | cons n t _ ih =>
    obtain ⟨xs, e1, e2⟩ := ih
    refine ⟨((n, t) :: xs.toList).toArray, ?_, by simp [e2]⟩
    have e3 := congrArg Array.toList e1
    simp only [intItems, Array.toList_map] at e3
    apply Array.toList_inj.mp
    simp [intItems, ← e3]

theorem Cb_sum (hc : c.Ok) {a : Addr} {ns : List Int} (ha : c.get σ a = some (ns.map .int)) (h : Q (.int ns.sum) σ) : Cb c (.builtin "sum") [.ref a] Q σ := fun vs hv b₀ s₀ s R => by
  obtain ⟨x, rfl, hx⟩ := ers1 hv
  have := er_ref hx; subst this
  obtain ⟨ws, hl, el⟩ := R.list ha
  obtain ⟨xs, e1, e2⟩ := intItems_of el.ints
  rw [show ws.toList.toArray = ws from rfl] at e1
  subst e1
  refine sum_intListG hc.hand hl fun h' tk t' hk => ⟨.int ns.sum, σ, ?_, R.grow hk, h⟩
  rw [preSum_eq, e2, List.take_of_length_le (by rw [← e2]; simp)]
  rfl

theorem Cb_min2 (hc : c.Ok) {a b : Int} (h : Q (.int (if b < a then b else a)) σ) : Cb c (.builtin "min") [.int a, .int b] Q σ := fun vs hv b₀ s₀ s R => by
  obtain ⟨x, y, rfl, hx, hy⟩ := ers2 hv
  obtain ⟨t, rfl⟩ := er_int hx; obtain ⟨u, rfl⟩ := er_int hy
  exact min_two_ints hc.hand fun h' tk hk => ⟨.int (if b < a then b else a), σ, by show er _ = _; split <;> rfl, R.grow hk, h⟩
theorem W_item {value slice : Expr} {pos : Pos} (h : W c value (fun o σ₁ => W c slice (fun i σ₂ => ∃ a l k v, o = .ref a ∧ i = .int k ∧ c.get σ₂ a = some l ∧ 0 ≤ k ∧ k < 2 ^ 63 ∧ l[k.toNat]? = some v ∧ Q v σ₂) σ₁) σ)
    (hs : ∀ o i, subscripted slice false o i = operate [o, i] (getItem o i) := by intros; rfl) : W c (.Subscript value slice pos) Q σ := fun b₀ s₀ s R => by
  refine Subscript_ (wpAny_mono (h b₀ s₀ s R) (fun o s₁ ⟨_, σ₁, k₁, R₁, h₁⟩ => wpAny_mono (h₁ b₀ s₀ s₁ R₁) (fun i s₂ ⟨_, σ₂, k₂, R₂, a, l, k, v, ea, ei, hg, h0, h1, hv, hq⟩ => ?_) fun _ _ x => x.elim) fun _ _ x => x.elim)
  subst ea; subst ei
  have := er_ref k₁; subst this
  obtain ⟨t, rfl⟩ := er_int k₂
  obtain ⟨ws, hl, el⟩ := R₂.list hg
  obtain ⟨x, hx, ex⟩ := el.get hv
  exact tail_any hl.typeIs slot_list_getitem.lookup (wpAny_getItem_list hl h0 h1 (by simpa using hx) ⟨v, σ₂, ex, R₂, hq⟩) (hs _ _)

/-- a slice's part -/
def WP (c : Cx) : Option Expr → (Option Int → St → Prop) → St → Prop
  | Option.none, Q, σ => Q Option.none σ
  | some e, Q, σ => W c e (fun v σ₁ => ∃ i, v = .int i ∧ Q (some i) σ₁) σ
theorem WP.run {c : Cx} {e : Option Expr} {Q : Option Int → St → Prop} {σ : St} (h : WP c e Q σ) : Wp c (evalPart e c.env) (fun x k => IsPart x k) Q σ := fun b₀ s₀ s R => by
  cases e with
  | none => rw [evalPart_none]; exact wpAny_pure ⟨Option.none, σ, .none, R, h⟩
  | some e =>
    rw [evalPart_some]
    refine wpAny_mono (h b₀ s₀ s R) (fun x s₁ ⟨v, σ₁, k, R₁, i, e, hq⟩ => ?_) fun _ _ x => x
    subst e
    obtain ⟨t, rfl⟩ := er_int k
    exact ⟨some i, σ₁, .int i t, R₁, hq⟩

def pick (l : List V) (lo hi st : Option Int) : List V := (sliceRange (sliceBounds lo hi st l.length).1 (sliceBounds lo hi st l.length).2.1 (sliceBounds lo hi st l.length).2.2).filterMap (l[·]?)

theorem Ers.places {vs : List Value} {l : List V} (h : Ers vs l) : ∀ js : List Nat, Ers (js.filterMap (vs[·]?)) (js.filterMap (l[·]?))
  | [] => rfl
  | j :: js => by
    have ih := Ers.places h js
    cases hn : l[j]? with
    | some n =>
      obtain ⟨x, hv, e⟩ := h.get hn
      simp only [List.filterMap_cons, hn, hv]
      exact Ers.cons e ih
    | none =>
      have hv : vs[j]? = Option.none := by
        rw [List.getElem?_eq_none_iff] at hn ⊢
        rw [h.length]; exact hn
      simp only [List.filterMap_cons, hn, hv]
      exact ih
theorem Ers.pick {vs : Array Value} {l : List V} (h : Ers vs.toList l) (lo hi st : Option Int) : Ers (slicePick vs lo hi st).toList (Mine.pick l lo hi st) := by
  have e1 := h.length
  rw [Array.length_toList] at e1
  have e : (slicePick vs lo hi st).toList = (sliceRange (sliceBounds lo hi st l.length).1 (sliceBounds lo hi st l.length).2.1 (sliceBounds lo hi st l.length).2.2).filterMap (vs.toList[·]?) := by
    simp [slicePick, e1]
  rw [e]
  exact h.places _

theorem W_slice {value : Expr} {lo hi st : Option Expr} {p pos : Pos} (h : W c value (fun o σ₁ => WP c lo (fun kl σ₂ => WP c hi (fun kh σ₃ => WP c st (fun ks σ₄ =>
      ∃ a l, o = .ref a ∧ c.get σ₄ a = some l ∧ l.length ≤ sizeLine ∧ ks ≠ some 0 ∧ ∀ d, c.get σ₄ d = Option.none → Q (.ref d) (σ₄.put d (pick l kl kh ks))) σ₃) σ₂) σ₁) σ)
    (ops : Value → Value → List Value) (hs : ∀ o i, subscripted (.Slice lo hi st p) false o i = operate (ops o i) (getItem o i) := by intros; rfl) : W c (.Subscript value (.Slice lo hi st p) pos) Q σ := fun b₀ s₀ s R => by
  refine Subscript_ (wpAny_mono (h b₀ s₀ s R) (fun o s₁ ⟨_, σ₁, k₁, R₁, h₁⟩ => wpAny_Slice (wpAny_mono (WP.run h₁ b₀ s₀ s₁ R₁) (fun il s₂ ⟨kl, σ₂, k₂, R₂, h₂⟩ =>
    wpAny_mono (WP.run h₂ b₀ s₀ s₂ R₂) (fun ih s₃ ⟨kh, σ₃, k₃, R₃, h₃⟩ => wpAny_mono (WP.run h₃ b₀ s₀ s₃ R₃) (fun is s₄ ⟨ks, σ₄, k₄, R₄, a, l, ea, hg, hz, hks, hq⟩ => ?_) fun _ _ x => x.elim) fun _ _ x => x.elim) fun _ _ x => x.elim)) fun _ _ x => x.elim)
  subst ea
  have := er_ref k₁; subst this
  obtain ⟨ws, hl, el⟩ := R₄.list hg
  have e := el.length
  rw [Array.length_toList] at e
  have hl' := hl.push { cls := .type "slice", data := .fields #[il, ih, is] }
  refine tail_any (Heap.IsList.typeIs (s := { s₄ with heap := s₄.heap.push { cls := .type "slice", data := .fields #[il, ih, is] } }) hl') slot_list_getitem.lookup
    (wpAny_getItem_list_slice hl' (Heap.IsSliceOf.new ..) k₂ k₃ k₄ hks ?_ (by rw [e]; exact hz)) (hs _ _)
  have R₅ := R₄.pushed { cls := .type "slice", data := .fields #[il, ih, is] }
  exact ⟨.ref _, σ₄.put _ (pick l kl kh ks), rfl, R₅.alloc (tk := s₄.toks) (n := 0) (el.pick kl kh ks) (Nat.le_refl _) (fun b o e => Heap.get?_push_of_some _ e) (Heap.get?_push_size _ rfl), hq _ (R₅.freshG (Nat.le_refl _))⟩
end

/- the datum that a value is -/
mutual
inductive Has (G : Addr → Option (List V)) : V → PyData → Prop
  | int (i : Int) : Has G (.int i) (.int i)
  | list {a : Addr} {l : List V} {ds : List PyData} : G a = some l → HasAll G l ds → Has G (.ref a) (.list ds)
inductive HasAll (G : Addr → Option (List V)) : List V → List PyData → Prop
  | nil : HasAll G [] []
  | cons {v : V} {d : PyData} {l : List V} {ds : List PyData} : Has G v d → HasAll G l ds → HasAll G (v :: l) (d :: ds)
end
theorem HasAll.ints {G : Addr → Option (List V)} : ∀ ns : List Int, HasAll G (ns.map .int) (ns.map .int)
  | [] => .nil
  | n :: r => .cons (.int n) (HasAll.ints r)
theorem Has.ints {G : Addr → Option (List V)} {a : Addr} {ns : List Int} (h : G a = some (ns.map .int)) : Has G (.ref a) (.list (ns.map .int)) := .list h (.ints ns)

section
variable {c : Cx} {b₀ : Addr → Option Obj} {s₀ s : Shared} {σ : St}
mutual
theorem Has.reads (R : Rel c b₀ s₀ σ s) : ∀ {v : V} {d : PyData}, Has (c.get σ) v d → ∀ x, er x = some v → ∃ as, Reads s.heap x d as
  | _, _, .int i, x, hx => by obtain ⟨t, rfl⟩ := er_int hx; exact ⟨_, .int i t⟩
  | _, _, .list ha hl, x, hx => by
    have := er_ref hx; subst this
    obtain ⟨ws, n, ho, el⟩ := R.plain ha
    obtain ⟨as, r⟩ := HasAll.reads R hl ws.toList el
    exact ⟨_, .list ho rfl rfl r⟩
theorem HasAll.reads (R : Rel c b₀ s₀ σ s) : ∀ {l : List V} {ds : List PyData}, HasAll (c.get σ) l ds → ∀ vs, Ers vs l → ∃ as, ReadsAll s.heap vs ds as
  | _, _, .nil, vs, h => by
    have : vs = [] := by simpa [Ers] using h
    subst this; exact ⟨_, .nil⟩
  | _, _, .cons hd hr, vs, h => by
    cases vs with
    | nil => simp [Ers] at h
    | cons x vs =>
      simp only [Ers, List.map_cons, List.cons.injEq] at h
      obtain ⟨as, r⟩ := Has.reads R hd x h.1
      obtain ⟨bs, q⟩ := HasAll.reads R hr vs h.2
      exact ⟨_, .cons r q⟩
end
end

section
variable {c : Cx} {σ : St} {Q : Bool → St → Prop}
theorem Cm_eqD (hc : c.Ok) {a b : V} {da db : PyData} (ha : Has (c.get σ) a da) (hb : Has (c.get σ) b db) (sa : SeqAt.shaped da = true) (sb : SeqAt.shaped db = true) (h : Q (PyData.eqv da db) σ) : Cm c .Eq a b Q σ := fun x y hx hy b₀ s₀ s R => by
  obtain ⟨as, ra⟩ := ha.reads R x hx
  obtain ⟨bs, rb⟩ := hb.reads R y hy
  exact eq_dataH ra rb sa sb hc.units ⟨_, σ, rfl, R, h⟩
theorem Cm_neI (hc : c.Ok) {a b : Addr} {ns ms : List Int} (ha : c.get σ a = some (ns.map .int)) (hb : c.get σ b = some (ms.map .int)) (h : Q (!decide (ns = ms)) σ) : Cm c .NotEq (.ref a) (.ref b) Q σ := fun x y hx hy b₀ s₀ s R => by
  have := er_ref hx; subst this
  have := er_ref hy; subst this
  obtain ⟨vs, hl, el⟩ := R.list ha
  obtain ⟨ws, hk, ek⟩ := R.list hb
  exact PySem.W.ke_ne_ints (xs := vs.toList) (ys := ws.toList) hl hk el.ints ek.ints hc.units ⟨_, σ, rfl, R, h⟩
theorem Cm_inI {a : Addr} {k : Int} {ns : List Int} (ha : c.get σ a = some (ns.map .int)) (h : Q (ns.any (· == k)) σ) : Cm c .In (.int k) (.ref a) Q σ := fun x y hx hy b₀ s₀ s R => by
  obtain ⟨t, rfl⟩ := er_int hx
  have := er_ref hy; subst this
  obtain ⟨vs, hl, el⟩ := R.list ha
  exact in_list_ints (vs := vs.toList) hl el.ints ⟨_, σ, rfl, R, h⟩
theorem Cm_notInD (hc : c.Ok) {a b : V} {da : PyData} {ds : List PyData} (ha : Has (c.get σ) a da) (hb : Has (c.get σ) b (.list ds)) (sa : da.canLay0 = true) (sb : PyData.canLayAll0 ds = true) (hd : da.depth ≤ 60)
    (h : Q (!ds.any fun y => PyData.eqv y da) σ) : Cm c .NotIn a b Q σ := fun x y hx hy b₀ s₀ s R => by
  obtain ⟨as, ra⟩ := ha.reads R x hx
  obtain ⟨bs, rb⟩ := hb.reads R y hy
  have hu := hc.units
  have hm : min (PyData.depthAll ds) da.depth ≤ da.depth := Nat.min_le_right _ _
  exact SeqAt.notIn_list_reads rb ra sb sa (by omega) ⟨_, σ, rfl, R, h⟩
end

section
variable {c : Cx} {σ : St} {Q : Fl → St → Prop}
theorem interactive_of (hc : c.Ok) : interactive c.env = false := by unfold interactive; rw [hc.fn]; rfl

theorem Ws_append (hc : c.Ok) {o e : Expr} {apos pos' pos : Pos} {pl : Sem Bool}
    (h : W c o (fun ov σ₁ => ∃ a l, ov = .ref a ∧ σ₁.hp a = some l ∧ W c e (fun v σ₂ => ∃ l, σ₂.hp a = some l ∧ l.length ≤ 2 ^ 20 ∧ Q .next (σ₂.put a (l ++ [v]))) σ₁) σ)
    (he : eval (.Call (.Attribute o "append" apos) [e] [] pos') c.env = (do
      let ov ← eval o c.env
      standAt apos.atName
      let (f, first) ← holding [ov] (getMethod ov "append" pl)
      callWith pos' f first (backTo pos' (starEach [e] c.env)) []) := by rfl)
    (hs : noStar [e] = true := by rfl) : Ws c (.Expr (.Call (.Attribute o "append" apos) [e] [] pos') pos) Q σ := fun b₀ s₀ s R => by
  refine wpAny_Expr ?_ (interactive_of hc) rfl
  refine MethodCall_ (wpAny_mono (h b₀ s₀ s R) (fun ov s₁ ⟨_, σ₁, k₁, R₁, a, l, ea, hg, h₁⟩ => ?_) fun _ _ x => x.elim) he
  subst ea
  have := er_ref k₁; subst this
  obtain ⟨_, ob, ho, vs, n, rfl, el⟩ := R₁.hp a l hg
  refine Calls.getMethod_list_append ho rfl rfl ?_
  refine callWith_method1 (wpAny_mono (WL.run (es := [e]) (Q := fun l' σ₂ => ∃ v, l' = [v] ∧ ∃ l, σ₂.hp a = some l ∧ l.length ≤ 2 ^ 20 ∧ Q .next (σ₂.put a (l ++ [v]))) hs (Wp.mono h₁ fun v σ₂ h₂ => ⟨v, rfl, h₂⟩) R₁) (fun ws s₂ ⟨_, σ₂, k₂, R₂, v, e₂, l₂, hg₂, hz, hq⟩ => ?_) fun _ _ x => x.elim) (starEach_of hs) rfl
  subst e₂
  obtain ⟨x, rfl, hx⟩ := ers1 k₂
  obtain ⟨_, ob₂, ho₂, vs₂, n₂, rfl, el₂⟩ := R₂.hp a l₂ hg₂
  have e := el₂.length
  rw [Array.length_toList] at e
  refine append_at ho₂ (fun h' hsb hD => ?_) (by rw [e]; exact Nat.le_trans hz (by decide))
  refine ⟨.next, σ₂.put a (l₂ ++ [v]), trivial, R₂.turn (tk := s₂.toks) hg₂ hsb hD ⟨_, _, rfl, ?_⟩, hq⟩
  simpa using el₂.append (Ers.cons hx .nil)
end

section
variable {c : Cx} {σ : St} {Q : V → St → Prop}
theorem kf_at_ints {k : Int} : ∀ {vs : List Value} {ns : List Int}, IntsAre vs ns → k ∈ ns → PySem.W.kf_at k vs = some (ns.idxOf k)
  | _, _, .nil, h => by cases h
  | _, _, .cons n t r, h => by
    unfold PySem.W.kf_at
    have e : isInt k (.int n t) = (n == k) := by first | rfl | (simp [isInt])
    rw [e]
    by_cases hn : n = k
    · subst hn; simp
    · have hb : (n == k) = false := by simpa using hn
      have hk : k ∈ _ := (List.mem_cons.mp h).resolve_left (Ne.symm hn)
      rw [hb, kf_at_ints r hk]
      simp [List.idxOf_cons, hb]
theorem kf_ints_of : ∀ {vs : List Value} {ns : List Int}, IntsAre vs ns → PySem.W.kf_ints vs = true
  | _, _, .nil => by simp [PySem.W.kf_ints]
  | _, _, .cons n t r => by have := kf_ints_of r; simp_all [PySem.W.kf_ints]

theorem W_index {o e : Expr} {apos pos : Pos} {pl : Sem Bool}
    (h : W c o (fun ov σ₁ => ∃ a l, ov = .ref a ∧ c.get σ₁ a = some l ∧ W c e (fun v σ₂ => ∃ (ns : List Int) (k : Int), v = .int k ∧ c.get σ₂ a = some (ns.map .int) ∧ k ∈ ns ∧ ns.length ≤ 2 ^ 20 ∧ Q (.int (ns.idxOf k : Nat)) σ₂) σ₁) σ)
    (he : eval (.Call (.Attribute o "index" apos) [e] [] pos) c.env = (do
      let ov ← eval o c.env
      standAt apos.atName
      let (f, first) ← holding [ov] (getMethod ov "index" pl)
      callWith pos f first (backTo pos (starEach [e] c.env)) []) := by rfl)
    (hs : noStar [e] = true := by rfl) : W c (.Call (.Attribute o "index" apos) [e] [] pos) Q σ := fun b₀ s₀ s R => by
  refine MethodCall_ (wpAny_mono (h b₀ s₀ s R) (fun ov s₁ ⟨_, σ₁, k₁, R₁, a, l, ea, hg, h₁⟩ => ?_) fun _ _ x => x.elim) he
  subst ea
  have := er_ref k₁; subst this
  obtain ⟨vs, n, ho, el⟩ := R₁.plain hg
  refine getMethod_builtin ⟨_, ho, rfl⟩ PySem.F.plainAttrs_list PySem.F.slot_list_index (by rfl) (fun b e => by cases e; exact ⟨_, ho, rfl⟩) ?_
  refine callWith_method1 (wpAny_mono (WL.run (es := [e]) (Q := fun l' σ₂ => ∃ v, l' = [v] ∧ ∃ (ns : List Int) (k : Int), v = .int k ∧ c.get σ₂ a = some (ns.map .int) ∧ k ∈ ns ∧ ns.length ≤ 2 ^ 20 ∧ Q (.int (ns.idxOf k : Nat)) σ₂) hs (Wp.mono h₁ fun v σ₂ h₂ => ⟨v, rfl, h₂⟩) R₁) (fun ws s₂ ⟨_, σ₂, k₂, R₂, v, e₂, ns, k, ev, hg₂, hk, hz, hq⟩ => ?_) fun _ _ x => x.elim) (starEach_of hs) rfl
  subst e₂; subst ev
  obtain ⟨x, rfl, hx⟩ := ers1 k₂
  obtain ⟨t, rfl⟩ := er_int hx
  obtain ⟨vs₂, n₂, ho₂, el₂⟩ := R₂.plain hg₂
  obtain ⟨m, hm⟩ := R₂.ns
  have hne : a ≠ c.env.locals := by
    rintro rfl
    obtain ⟨o', _, _, e1, e2, _⟩ := hm
    rw [ho₂] at e1; cases e1; cases e2
  have e := el₂.length
  refine PySem.W.kf_index (newsAll s₂.heap c.env.locals) (mem_allNews ho₂ hne) (kf_ints_of el₂.ints) (kf_at_ints el₂.ints hk) rfl (by rw [e]; simp; exact Nat.le_trans hz (by decide)) ⟨_, σ₂, rfl, R₂.toks _, hq⟩
end
end Mine

namespace Mine
open PySem PyProof.Rows

/-- a name that the frame may store -/
def Tgt (c : Cx) (x : Str) : Prop := c.env.kindOf x = some .local ∨ (c.env.kindOf x = some .cell ∧ (c.env.cells.lookup x).isSome = true ∧ c.env.func.isSome = true)

section
variable {c : Cx} {b₀ : Addr → Option Obj} {s₀ s : Shared} {σ : St}

theorem Rel.store (hc : c.Ok) (R : Rel c b₀ s₀ σ s) {x : Str} {val : Value} {v : V} (hv : er val = some v) (ht : Tgt c x) {Q : Unit → Shared → Prop} {E : Value → Shared → Prop} (h : ∀ s', Rel c b₀ s₀ (σ.set x v) s' → Q () s') :
    wpAny (model c.prog c.w) c.A (storeName c.env x val) Q E s := by
  obtain ⟨m, cm, h1, h2, h3⟩ := R.frame
  have neL : ∀ a l, σ.hp a = some l → a ≠ c.env.locals := fun a l e => by
    rintro rfl
    obtain ⟨_, o, ho, vs, n, rfl, _⟩ := R.hp _ l e
    obtain ⟨o', _, _, e1, e2, _⟩ := h1
    rw [ho] at e1; cases e1; cases e2
  rcases ht with hk | ⟨hk, hl, hf⟩
  · refine wpAny_storeName_local hk h1 (fun h' hn hs => h _ ?_) (by rw [hc.fn]; rfl)
    refine { same := ?_, top := R.top, keep := ?_, ro := R.ro, hp := ?_, frame := ⟨_, cm, hn, ?_, ?_⟩, own := R.own, cells := R.cells }
    · obtain ⟨h0, t, rfl⟩ := R.same; exact ⟨h', _, rfl⟩
    · intro a o e
      exact (hs.2 a (fun q => by rw [q, R.own] at e; cases e)).trans (R.keep a o e)
    · intro a l e
      obtain ⟨p, o, ho, q⟩ := R.hp a l e
      exact ⟨p, o, (hs.2 a (neL a l e)).trans ho, q⟩
    · intro n a e
      refine (h2 n a e).sameBut hs ?_
      rintro rfl
      obtain ⟨o, e1, e2⟩ := h2 n _ e
      obtain ⟨o', _, _, e3, e4, _⟩ := h1
      rw [e1] at e3; cases e3; rw [e2] at e4; cases e4
    · intro y w hy
      by_cases hyx : y = x
      · subst hyx
        simp only [St.set, if_true] at hy
        cases hy
        exact .inl ⟨hk, val, by simp, hv⟩
      · simp only [St.set, if_neg hyx] at hy
        rcases h3 y w hy with ⟨a, val', b, d⟩ | z
        · exact .inl ⟨a, val', by simp only [if_neg hyx]; exact b, d⟩
        · exact .inr z
  · obtain ⟨a, ha⟩ := Option.isSome_iff_exists.mp hl
    obtain ⟨hb, hap⟩ := R.cells hf
    have hba := hb x a ha
    refine wpAny_storeName_cell hc.fn hk ha (h2 x a ha) fun h' hcell hs => h _ ?_
    have neC : ∀ b l, σ.hp b = some l → b ≠ a := fun b l e => by
      rintro rfl
      obtain ⟨_, o, ho, vs, n, rfl, _⟩ := R.hp _ l e
      obtain ⟨o', e1, e2⟩ := h2 x _ ha
      rw [ho] at e1; cases e1; cases e2
    refine { same := ?_, top := R.top, keep := ?_, ro := R.ro, hp := ?_, frame := ⟨m, fun y => if y = x then some val else cm y, h1.sameBut hs ?_, ?_, ?_⟩, own := R.own, cells := R.cells }
    · obtain ⟨h0, t, rfl⟩ := R.same; exact ⟨h', _, rfl⟩
    · intro b o e
      exact (hs.2 b (fun q => by rw [q, hba] at e; cases e)).trans (R.keep b o e)
    · intro b l e
      obtain ⟨p, o, ho, q⟩ := R.hp b l e
      exact ⟨p, o, (hs.2 b (neC b l e)).trans ho, q⟩
    · rintro rfl
      obtain ⟨o, e1, e2⟩ := h2 x _ ha
      obtain ⟨o', _, _, e3, e4, _⟩ := h1
      rw [e1] at e3; cases e3; rw [e2] at e4; cases e4
    · intro n b e
      by_cases hn : n = x
      · subst hn
        rw [ha] at e; cases e
        simpa using hcell
      · simp only [if_neg hn]
        exact (h2 n b e).sameBut hs fun q => hn (name_of_addr hap (mem_of_lookup e) (q ▸ mem_of_lookup ha))
    · intro y w hy
      by_cases hyx : y = x
      · subst hyx
        simp only [St.set, if_true] at hy
        cases hy
        exact .inr ⟨hk, a, val, ha, by simp, hv⟩
      · simp only [St.set, if_neg hyx] at hy
        rcases h3 y w hy with z | ⟨p, a', val', b, d, e⟩
        · exact .inl z
        · exact .inr ⟨p, a', val', b, by simp only [if_neg hyx]; exact d, e⟩
end

section
variable {c : Cx} {σ : St} {Q : Fl → St → Prop}

theorem Wss_nil (h : Q .next σ) : Wss c [] Q σ := fun _ _ _ R => wpAny_execs_nil ⟨.next, σ, trivial, R, h⟩
theorem Wss_cons {st : Stmt} {r : List Stmt} (h : Ws c st (fun f σ₁ => match f with | .next => Wss c r Q σ₁ | f => Q f σ₁) σ) : Wss c (st :: r) Q σ := fun b₀ s₀ s R => by
  refine wpAny_execs_cons (wpAny_mono (h b₀ s₀ s R) (fun f s₁ ⟨g, σ₁, k, R₁, h₁⟩ => ?_) fun _ _ x => x)
  cases f <;> cases g <;> first | exact k.elim | exact h₁ b₀ s₀ s₁ R₁ | exact ⟨_, σ₁, k, R₁, h₁⟩

theorem Ws_assign (hc : c.Ok) {x : Str} {p pos : Pos} {e : Expr} (ht : Tgt c x) (h : W c e (fun v σ₁ => Q .next (σ₁.set x v)) σ)
    (hs : swapsWith e (some (.Name x p)) pos.line c.env = pure false := by rfl) : Ws c (.Assign [.Name x p] e pos) Q σ := fun b₀ s₀ s R =>
  wpAny_Assign_Name (wpAny_mono (h b₀ s₀ s R) (fun _ s₁ ⟨v, σ₁, k, R₁, h₁⟩ => R₁.store hc k ht fun s' R' => ⟨.next, _, trivial, R', h₁⟩) fun _ _ x => x.elim) hs

theorem Ws_assignAt {o i e : Expr} {p pos : Pos} (h : W c e (fun v σ₁ => W c o (fun ov σ₂ => W c i (fun iv σ₃ => ∃ a l k, ov = .ref a ∧ iv = .int k ∧ σ₃.hp a = some l ∧ 0 ≤ k ∧ k < l.length ∧ l.length ≤ 2 ^ 24 ∧ Q .next (σ₃.put a (l.set k.toNat v))) σ₂) σ₁) σ)
    (hs : swapsWith e (some (.Subscript o i p)) pos.line c.env = pure false := by rfl) : Ws c (.Assign [.Subscript o i p] e pos) Q σ := fun b₀ s₀ s R => by
  refine wpAny_Assign_Subscript (wpAny_mono (h b₀ s₀ s R) (fun xv s₁ ⟨v, σ₁, k₁, R₁, h₁⟩ => wpAny_mono (h₁ b₀ s₀ s₁ R₁) (fun xo s₂ ⟨_, σ₂, k₂, R₂, h₂⟩ => wpAny_mono (h₂ b₀ s₀ s₂ R₂)
    (fun xi s₃ ⟨_, σ₃, k₃, R₃, a, l, k, eo, ei, hl, h0, h1, hz, hq⟩ => ?_) fun _ _ x => x.elim) fun _ _ x => x.elim) fun _ _ x => x.elim) hs
  subst eo; subst ei
  have := er_ref k₂; subst this
  obtain ⟨t, rfl⟩ := er_int k₃
  obtain ⟨_, o', ho, vs, n, rfl, el⟩ := R₃.hp a l hl
  have e := el.length
  rw [Array.length_toList] at e
  refine PySem.W.ki_setAt ho h0 (by omega) (by omega) ⟨.next, _, trivial, R₃.turn (tk := s₃.toks) hl (Heap.SameBut.update ..) (Heap.get?_update_self _ ho rfl) ⟨_, _, rfl, ?_⟩, hq⟩
  have := el.set k.toNat k₁
  simpa using this

theorem Ws_if {t : Expr} {b1 b2 : List Stmt} {pos : Pos} (h : Wb c t (fun b σ₁ => (b = true → Wss c b1 Q σ₁) ∧ (b = false → Wss c b2 Q σ₁)) σ) : Ws c (.If t b1 b2 pos) Q σ := fun b₀ s₀ s R =>
  wpAny_If (wpAny_mono (h b₀ s₀ s R) (fun v s₁ ⟨b, σ₁, k, R₁, h₁⟩ => by
    subst k
    cases v with
    | true => exact h₁.1 rfl b₀ s₀ s₁ R₁
    | false => exact h₁.2 rfl b₀ s₀ s₁ R₁) fun _ _ x => x)

theorem Ws_return {e : Expr} {pos : Pos} (h : W c e (fun v σ₁ => Q (.ret v) σ₁) σ) : Ws c (.Return (some e) pos) Q σ := fun b₀ s₀ s R =>
  wpAny_Return_some (wpAny_mono (h b₀ s₀ s R) (fun _ _ ⟨v, σ₁, k, R₁, h₁⟩ => ⟨.ret v, σ₁, k, R₁, h₁⟩) fun _ _ x => x)
theorem Ws_break {pos : Pos} (h : Q .brk σ) : Ws c (.Break pos) Q σ := fun _ _ _ R => wpAny_Break ⟨.brk, σ, trivial, R, h⟩

theorem Ws_while {t : Expr} {b1 b2 : List Stmt} {pos : Pos} (Inv : Nat → St → Prop) (n : Nat) (h0 : Inv n σ)
    (h : ∀ k σ', Inv k σ' → Wb c t (fun b σ₁ => (b = true → Wss c b1 (fun f σ₂ => match f with | .next => ∃ j, j < k ∧ Inv j σ₂ | .cont => ∃ j, j < k ∧ Inv j σ₂ | .brk => Q .next σ₂ | .ret v => Q (.ret v) σ₂) σ₁) ∧ (b = false → Wss c b2 Q σ₁)) σ') :
    Ws c (.While t b1 b2 pos) Q σ := fun b₀ s₀ s R => by
  refine wpAny_While (codeAny_whileLoop (fun k s' => ∃ σ', Rel c b₀ s₀ σ' s' ∧ Inv k σ') (fun k s' ⟨σ', R', hI⟩ => ?_) n ⟨σ, R, h0⟩)
  refine wpAny_mono (h k σ' hI b₀ s₀ s' R') (fun v s₁ ⟨b, σ₁, e, R₁, h₁⟩ => ?_) fun _ _ x => x.elim
  subst e
  cases v with
  | true =>
    refine wpAny_mono (h₁.1 rfl b₀ s₀ s₁ R₁) (fun f s₂ ⟨g, σ₂, k₂, R₂, h₂⟩ => ?_) fun _ _ x => x.elim
    cases f <;> cases g <;> first | exact k₂.elim | skip
    · obtain ⟨j, hj, hI'⟩ := h₂; exact ⟨j, hj, σ₂, R₂, hI'⟩
    · exact ⟨.next, σ₂, trivial, R₂, h₂⟩
    · obtain ⟨j, hj, hI'⟩ := h₂; exact ⟨j, hj, σ₂, R₂, hI'⟩
    · exact ⟨.ret _, σ₂, k₂, R₂, h₂⟩
  | false =>
    exact wpAny_mono (h₁.2 rfl b₀ s₀ s₁ R₁) (fun f s₂ x => x) fun _ _ x => x.elim
end

/-- where a loop's items come from -/
inductive Src where
  | list (a : Addr)
  | range (lo : Int) (n : Nat)
def Src.item (G : Addr → Option (List V)) : Src → Nat → Option V
  | .list a, i => (G a).bind (·[i]?)
  | .range lo n, i => if i < n then some (.int (lo + i)) else Option.none
def Src.ok (G : Addr → Option (List V)) : Src → Prop
  | .list a => (G a).isSome = true
  | .range _ _ => True
def IterIs : Src → Addr → Nat → Heap → Prop
  | .list a, I, i, h => h.IsListIter I a i
  | .range lo n, I, i, h => IsRangeIter h I (lo + i) ((n : Int) - i) 1
theorem IterIs.obj {src : Src} {I : Addr} {i : Nat} {h : Heap} (x : IterIs src I i h) : ∃ o vs, h.get? I = some o ∧ o.data = .fields vs := by
  cases src with
  | list a => obtain ⟨o, h1, _, h2⟩ := x; exact ⟨o, _, h1, h2⟩
  | range lo n => exact ⟨_, _, x, rfl⟩
theorem IterIs.at {src : Src} {I : Addr} {i : Nat} {h h' : Heap} (x : IterIs src I i h) (hk : ∀ o, h.get? I = some o → h'.get? I = some o) : IterIs src I i h' := by
  cases src with
  | list a => obtain ⟨o, h1, h2⟩ := x; exact ⟨o, hk o h1, h2⟩
  | range lo n => exact hk _ x

section
variable {c : Cx} {b₀ : Addr → Option Obj} {s₀ s : Shared} {σ : St} {src : Src} {I : Addr} {i : Nat}

theorem next_item (R : Rel c b₀ s₀ σ s) (hI : IterIs src I i s.heap) {v : V} (hv : src.item (c.get σ) i = some v) {Q : Option Value → Shared → Prop} {E : Value → Shared → Prop}
    (h : ∀ val h' tk, er val = some v → IterIs src I (i + 1) h' → Heap.SameBut I s.heap h' → Q (some val) { s with heap := h', toks := tk }) : wpAny (model c.prog c.w) c.A (pyNext (.ref I)) Q E s := by
  cases src with
  | list a =>
    simp only [Src.item] at hv
    cases hg : c.get σ a with
    | none => rw [hg] at hv; cases hv
    | some l =>
      rw [hg] at hv
      obtain ⟨vs, hl, el⟩ := R.list hg
      obtain ⟨x, hx, ex⟩ := el.get hv
      exact wpAny_pyNext_list_item hI hl (by simpa using hx) fun h' hit hs => h x h' s.toks ex hit hs
  | range lo n =>
    simp only [Src.item] at hv
    split at hv
    · rename_i hlt
      cases hv
      refine wpAny_pyNext_range_item hI (by omega) fun h' hit hs => h _ h' _ rfl ?_ hs
      show IsRangeIter h' I (lo + ((i + 1 : Nat) : Int)) ((n : Int) - ((i + 1 : Nat) : Int)) 1
      have e1 : lo + ((i + 1 : Nat) : Int) = lo + i + 1 := by push_cast; omega
      have e2 : (n : Int) - ((i + 1 : Nat) : Int) = (n : Int) - i - 1 := by push_cast; omega
      rw [e1, e2]; exact hit
    · cases hv

theorem next_end (hc : c.Ok) (R : Rel c b₀ s₀ σ s) (hI : IterIs src I i s.heap) (hok : src.ok (c.get σ)) (hv : src.item (c.get σ) i = Option.none) {Q : Option Value → Shared → Prop} {E : Value → Shared → Prop}
    (h : ∀ h', Heap.ExtBut I s.heap h' → Q Option.none { s with heap := h' }) : wpAny (model c.prog c.w) c.A (pyNext (.ref I)) Q E s := by
  cases src with
  | list a =>
    simp only [Src.item] at hv
    obtain ⟨l, hg⟩ := Option.isSome_iff_exists.mp hok
    rw [hg] at hv
    obtain ⟨vs, hl, el⟩ := R.list hg
    have e := el.length
    rw [Array.length_toList] at e
    have hv' : l.length ≤ i := List.getElem?_eq_none_iff.mp hv
    exact wpAny_pyNext_list_end hc.hand hI hl (by rw [Array.getElem?_eq_none_iff]; omega) h
  | range lo n =>
    simp only [Src.item] at hv
    split at hv
    · cases hv
    · exact wpAny_pyNext_range_end hc.hand hI (by omega) h

/-- the iterator is stepped: the state is as it was -/
theorem Rel.stepI (R : Rel c b₀ s₀ σ s) (hI : IterIs src I i s.heap) (hb : b₀ I = Option.none) {h' : Heap} {tk : Nat} (hs : Heap.ExtBut I s.heap h') : Rel c b₀ s₀ σ { s with heap := h', toks := tk } := by
  obtain ⟨oI, fs, hoI, hdI⟩ := hI.obj
  obtain ⟨m, cm, h1, h2, h3⟩ := R.frame
  refine { same := ?_, top := R.top, keep := ?_, ro := R.ro, hp := ?_, frame := ⟨m, cm, h1.extBut hs ?_, ?_, h3⟩, own := R.own, cells := R.cells }
  · obtain ⟨h0, t, rfl⟩ := R.same; exact ⟨h', _, rfl⟩
  · intro a o e
    exact hs a o (fun q => by rw [q, hb] at e; cases e) (R.keep a o e)
  · intro a l e
    obtain ⟨p, o, ho, vs, n, rfl, el⟩ := R.hp a l e
    refine ⟨p, _, hs a _ ?_ ho, vs, n, rfl, el⟩
    rintro rfl
    rw [hoI] at ho; cases ho; cases hdI
  · rintro rfl
    obtain ⟨o', _, _, e3, e4, _⟩ := h1
    rw [hoI] at e3; cases e3; rw [hdI] at e4; cases e4
  · intro n a e
    obtain ⟨o, e1, e2⟩ := h2 n a e
    refine ⟨o, hs a o ?_ e1, e2⟩
    rintro rfl
    rw [hoI] at e1; cases e1; rw [hdI] at e2; cases e2

/-- the iterator is put under the base's guard -/
theorem Rel.guard (R : Rel c b₀ s₀ σ s) {o : Obj} {vs : Array Value} (ho : s.heap.get? I = some o) (hd : o.data = .fields vs) (hb : b₀ I = Option.none) : Rel c (fun a => if a = I then some o else b₀ a) s₀ σ s := by
  obtain ⟨m, cm, h1, h2, h3⟩ := R.frame
  have ne : ∀ a o', b₀ a = some o' → a ≠ I := fun a o' e q => by rw [q, hb] at e; cases e
  refine { same := R.same, top := ?_, keep := ?_, ro := ?_, hp := ?_, frame := R.frame, own := ?_, cells := ?_ }
  · intro a o' e; rw [if_neg (ne a o' (R.top a o' e))]; exact R.top a o' e
  · intro a o' e
    by_cases h : a = I
    · rw [if_pos h] at e; cases e; rw [h]; exact ho
    · rw [if_neg h] at e; exact R.keep a o' e
  · intro a l e
    obtain ⟨o', p, q⟩ := R.ro a l e
    exact ⟨o', by rw [if_neg (ne a o' p)]; exact p, q⟩
  · intro a l e
    obtain ⟨p, o', ho', ws, n, rfl, el⟩ := R.hp a l e
    refine ⟨?_, _, ho', ws, n, rfl, el⟩
    rw [if_neg]; exact p
    rintro rfl
    rw [ho] at ho'; cases ho'; cases hd
  · show (if c.env.locals = I then some o else b₀ c.env.locals) = Option.none
    rw [if_neg]; exact R.own
    rintro rfl
    obtain ⟨o', _, _, e3, e4, _⟩ := h1
    rw [ho] at e3; cases e3; rw [hd] at e4; cases e4
  · intro hf
    refine ⟨fun n a hm => ?_, (R.cells hf).2⟩
    show (if a = I then some o else b₀ a) = Option.none
    rw [if_neg]; exact (R.cells hf).1 n a hm
    rintro rfl
    obtain ⟨o', e1, e2⟩ := h2 n _ hm
    rw [ho] at e1; cases e1; rw [hd] at e2; cases e2

theorem Rel.unguard {b₁ : Addr → Option Obj} {s₁ : Shared} {σ₁ : St} (R : Rel c b₀ s₀ σ s) (R₁ : Rel c b₁ s₀ σ₁ s₁) (hb : ∀ a o, b₀ a = some o → b₁ a = some o) : Rel c b₀ s₀ σ₁ s₁ := by
  have dn : ∀ a, b₁ a = Option.none → b₀ a = Option.none := fun a h => by
    cases e : b₀ a with
    | none => rfl
    | some o => rw [hb a o e] at h; cases h
  exact { same := R₁.same, top := R.top, keep := fun a o e => R₁.keep a o (hb a o e), ro := R.ro, hp := fun a l e => ⟨dn a (R₁.hp a l e).1, (R₁.hp a l e).2⟩, frame := R₁.frame, own := dn _ R₁.own, cells := fun hf => ⟨fun n a e => dn a ((R₁.cells hf).1 n a e), (R₁.cells hf).2⟩ }
end

/-- a loop's source is opened -/
def WIt (c : Cx) (iter : Expr) (Q : Src → St → Prop) (σ : St) : Prop := ∀ b₀ s₀ s, Rel c b₀ s₀ σ s → wpAny (model c.prog c.w) c.A (eval iter c.env) (fun x s₁ => wpAny (model c.prog c.w) c.A (pyIter x)
  (fun it s₂ => ∃ src I σ', it = .ref I ∧ IterIs src I 0 s₂.heap ∧ b₀ I = Option.none ∧ Rel c b₀ s₀ σ' s₂ ∧ Q src σ') (fun _ _ => False) s₁) (fun _ _ => False) s

section
variable {c : Cx} {σ : St} {mg : Str → Option Value}
theorem WIt_list {e : Expr} {Q : Src → St → Prop} (h : W c e (fun v σ₁ => ∃ a l, v = .ref a ∧ c.get σ₁ a = some l ∧ Q (.list a) σ₁) σ) : WIt c e Q σ := fun b₀ s₀ s R => by
  refine wpAny_mono (h b₀ s₀ s R) (fun x s₁ ⟨_, σ₁, k, R₁, a, l, e, hg, hq⟩ => ?_) fun _ _ x => x
  subst e
  have := er_ref k; subst this
  obtain ⟨vs, hl, el⟩ := R₁.list hg
  exact wpAny_pyIter_list hl ⟨.list a, _, σ₁, rfl, ⟨_, Heap.get?_push_size _ rfl, rfl, rfl⟩, R₁.freshB (Nat.le_refl _), R₁.pushed _, hq⟩

theorem WIt_range1 (hc : c.Ok) (T : TopOk c.ht mg) {e : Expr} {p pos : Pos} {Q : Src → St → Prop} (h : W c e (fun v σ₁ => ∃ n : Int, v = .int n ∧ -(2 ^ 62) ≤ n ∧ n < 2 ^ 62 ∧ Q (.range 0 n.toNat) σ₁) σ)
    (hk : c.env.kindOf "range" = some .globalImplicit) (hs : noStar [e] = true := by rfl) : WIt c (.Call (.Name "range" p) [e] [] pos) Q σ := fun b₀ s₀ s R => by
  refine Call_Name rfl (evalBi hc T R (x := "range") (v := .type "range") (by simp [biTable]) hk ?_ (by decide))
  refine PyProof.Rows.callWith_type1 (wpAny_mono (WL.run (es := [e]) (Q := fun l σ₁ => ∃ v, l = [v] ∧ ∃ n : Int, v = .int n ∧ -(2 ^ 62) ≤ n ∧ n < 2 ^ 62 ∧ Q (.range 0 n.toNat) σ₁) hs (Wp.mono h fun v σ₁ h₁ => ⟨v, rfl, h₁⟩) R)
    (fun vs s₁ ⟨_, σ₁, k, R₁, v, e, n, ev, h0, h1, hq⟩ => ?_) fun _ _ x => x.elim) (starEach_of hs) rfl
  subst e; subst ev
  obtain ⟨x, rfl, hx⟩ := ers1 k
  obtain ⟨t, rfl⟩ := er_int hx
  refine call_range_1 ?_
  have R₂ : Rel c b₀ s₀ σ₁ { s₁ with heap := s₁.heap.push { cls := .type "range", data := .fields #[.int 0 s₁.toks, .int n t, .int 1 (s₁.toks + 1)] }, toks := s₁.toks + 1 + 1 } := R₁.grow fun b o e => Heap.get?_push_of_some _ e
  refine wpAny_pyIter_range (a := 0) (b := n) (c := 1) (Heap.get?_push_size _ rfl) (small_one (by omega) (by omega) h0 h1) ⟨.range 0 n.toNat, _, σ₁, rfl, ?_, R₂.freshB (Nat.le_refl _), R₂.pushed _, hq⟩
  show IsRangeIter _ _ _ _ _
  have e1 : (0 : Int) + ((0 : Nat) : Int) = 0 := rfl
  have e2 : (n.toNat : Int) - ((0 : Nat) : Int) = Builtin.Range.rangeSize 0 n 1 := by rw [rangeSize_one]; split <;> omega
  rw [e1, e2]
  exact Heap.get?_push_size _ rfl

theorem WIt_range2 (hc : c.Ok) (T : TopOk c.ht mg) {e e' : Expr} {p pos : Pos} {Q : Src → St → Prop}
    (h : W c e (fun u σ₀ => W c e' (fun v σ₁ => ∃ a n : Int, u = .int a ∧ v = .int n ∧ -(2 ^ 62) ≤ a ∧ a < 2 ^ 62 ∧ -(2 ^ 62) ≤ n ∧ n < 2 ^ 62 ∧ Q (.range a (n - a).toNat) σ₁) σ₀) σ)
    (hk : c.env.kindOf "range" = some .globalImplicit) (hs : noStar [e, e'] = true := by rfl) : WIt c (.Call (.Name "range" p) [e, e'] [] pos) Q σ := fun b₀ s₀ s R => by
  refine Call_Name rfl (evalBi hc T R (x := "range") (v := .type "range") (by simp [biTable]) hk ?_ (by decide))
  refine PyProof.Rows.callWith_type1 (wpAny_mono (WL.run (es := [e, e']) (Q := fun l σ₁ => ∃ u v, l = [u, v] ∧ ∃ a n : Int, u = .int a ∧ v = .int n ∧ -(2 ^ 62) ≤ a ∧ a < 2 ^ 62 ∧ -(2 ^ 62) ≤ n ∧ n < 2 ^ 62 ∧ Q (.range a (n - a).toNat) σ₁) hs
    (Wp.mono h fun u σ₁ h₁ => Wp.mono h₁ fun v σ₂ h₂ => ⟨u, v, rfl, h₂⟩) R)
    (fun vs s₁ ⟨_, σ₁, k, R₁, u, v, e, a, n, eu, ev, a0, a1, h0, h1, hq⟩ => ?_) fun _ _ x => x.elim) (starEach_of hs) (backTo_any (noStar_tail hs))
  subst e; subst ev; subst eu
  obtain ⟨x, y, rfl, hx, hy⟩ := ers2 k
  obtain ⟨t, rfl⟩ := er_int hx
  obtain ⟨t', rfl⟩ := er_int hy
  refine call_range_2 ?_
  have R₂ : Rel c b₀ s₀ σ₁ { s₁ with heap := s₁.heap.push { cls := .type "range", data := .fields #[.int a t, .int n t', .int 1 s₁.toks] }, toks := s₁.toks + 1 } := R₁.grow fun b o e => Heap.get?_push_of_some _ e
  refine wpAny_pyIter_range (a := a) (b := n) (c := 1) (Heap.get?_push_size _ rfl) (small_one a0 a1 h0 h1) ⟨.range a (n - a).toNat, _, σ₁, rfl, ?_, R₂.freshB (Nat.le_refl _), R₂.pushed _, hq⟩
  show IsRangeIter _ _ _ _ _
  have e1 : a + ((0 : Nat) : Int) = a := by simp
  have e2 : ((n - a).toNat : Int) - ((0 : Nat) : Int) = Builtin.Range.rangeSize a n 1 := by rw [rangeSize_one]; split <;> omega
  rw [e1, e2]
  exact Heap.get?_push_size _ rfl

theorem Ws_for (hc : c.Ok) {x : Str} {px pos : Pos} {iter : Expr} {body : List Stmt} {Q : Fl → St → Prop} (ht : Tgt c x)
    (h : WIt c iter (fun src σ₁ => ∃ (Inv : Nat → St → Prop) (N : Nat), Inv 0 σ₁ ∧ ∀ i σ', Inv i σ' → i ≤ N ∧ src.ok (c.get σ') ∧
      (∀ v, src.item (c.get σ') i = some v → Wss c body (fun f σ'' => match f with | .next => Inv (i + 1) σ'' | .cont => Inv (i + 1) σ'' | .brk => Q .next σ'' | .ret v => Q (.ret v) σ'') (σ'.set x v)) ∧
      (src.item (c.get σ') i = Option.none → Q .next σ')) σ)
    (hs : ∀ x, foldedSetIterable iter c.env x = pure x := by intro _; rfl) : Ws c (.For (.Name x px) iter body [] pos) Q σ := fun b₀ s₀ s R => by
  refine wpAny_For (wpAny_mono (h b₀ s₀ s R) (fun xv s₁ h₁ => wpAny_mono h₁ (fun it s₂ ⟨src, I, σ₂, e, hI, hb, R₂, Inv, N, h0, hstep⟩ => ?_) fun _ _ x => x.elim) fun _ _ x => x.elim) hs
  subst e
  refine codeAny_forLoop (fun k s' => ∃ i σ', k = N + 1 - i ∧ IterIs src I i s'.heap ∧ Rel c b₀ s₀ σ' s' ∧ Inv i σ') ?_ (N + 1) ⟨0, σ₂, rfl, hI, R₂, h0⟩
  rintro k s' ⟨i, σ', rfl, hI', R', hInv⟩
  obtain ⟨hle, hok, hitem, hdone⟩ := hstep i σ' hInv
  cases hv : src.item (c.get σ') i with
  | none =>
    refine next_end hc R' hI' hok hv fun h' he => wpAny_execs_nil ⟨.next, σ', trivial, R'.stepI (tk := s'.toks) hI' hb he, hdone hv⟩
  | some v =>
    refine next_item R' hI' hv fun val h' tk hval hI₁ hsb => ?_
    have R₁ := R'.stepI (tk := tk) hI' hb hsb.extBut
    obtain ⟨oI, fs, hoI, hdI⟩ := hI₁.obj
    have Rg := Rel.guard R₁ hoI hdI hb
    refine wpAny_assign_Name (Rg.store hc hval ht fun s₄ R₄ => ?_)
    refine wpAny_mono (hitem v hv _ s₀ s₄ R₄) (fun f s₅ ⟨g, σ₅, k₅, R₅, h₅⟩ => ?_) fun _ _ x => x.elim
    have R₆ : Rel c b₀ s₀ σ₅ s₅ := Rel.unguard R₁ R₅ fun a o e => by
      show (if a = I then some oI else b₀ a) = some o
      rw [if_neg]; exact e
      rintro rfl; rw [hb] at e; cases e
    have hI₅ : IterIs src I (i + 1) s₅.heap := hI₁.at fun o e => by
      rw [hoI] at e; cases e
      exact R₅.keep I oI (by simp)
    cases f <;> cases g <;> first | exact k₅.elim | skip
    · exact ⟨N + 1 - (i + 1), by omega, i + 1, σ₅, rfl, hI₅, R₆, h₅⟩
    · exact ⟨.next, σ₅, trivial, R₆, h₅⟩
    · exact ⟨N + 1 - (i + 1), by omega, i + 1, σ₅, rfl, hI₅, R₆, h₅⟩
    · exact ⟨.ret _, σ₅, k₅, R₆, h₅⟩
end
end Mine

namespace Mine
open PySem PyProof.Rows

def clOf (cells : List (Str × Addr)) : List (Str × NameKind) → List (Str × Addr) → List (Str × Addr)
  | [], acc => acc
  | (n, k) :: r, acc => if k == .free then (match cells.lookup n with | some a => clOf cells r ((n, a) :: acc) | Option.none => clOf cells r acc) else clOf cells r acc

theorem closureFor_eq {scope : Scope} {env : Env} (h : (scope.names.all fun p => p.2 != .free || (env.cells.lookup p.1).isSome) = true) : closureFor scope env = pure (clOf env.cells scope.names []) := by
  have key : ∀ (names : List (Str × NameKind)) (acc : List (Str × Addr)), (names.all fun p => p.2 != .free || (env.cells.lookup p.1).isSome) = true →
      (forIn names acc (fun (x : Str × NameKind) cs => match x with | (name, kind) => (if kind == .free then (do let a ← cellOf env name; pure (ForInStep.yield ((name, a) :: cs))) else pure (ForInStep.yield cs))) : Sem (List (Str × Addr))) = pure (clOf env.cells names acc) := by
    intro names
    induction names with
    | nil => intro acc _; rfl
    | cons p r ih =>
      intro acc hall
      obtain ⟨n, k⟩ := p
      simp only [List.all_cons, Bool.and_eq_true] at hall
      rw [List.forIn_cons]
      unfold clOf
      by_cases hk : (k == NameKind.free) = true
      · simp only [hk, if_true]
        have hs : (env.cells.lookup n).isSome = true := by
          have := hall.1
          have hk' : k = .free := by simpa using hk
          subst hk'
          simpa using this
        obtain ⟨a, ha⟩ := Option.isSome_iff_exists.mp hs
        simp only [cellOf, ha, pure_bind]
        exact ih _ hall.2
      · simp only [hk]
        simp only [Bool.false_eq_true, if_false, pure_bind]
        exact ih _ hall.2
  have := key scope.names [] h
  unfold closureFor
  simp only [bind_pure]
  exact this

theorem mem_clOf {cells : List (Str × Addr)} : ∀ {names : List (Str × NameKind)} {acc : List (Str × Addr)} {p : Str × Addr}, p ∈ clOf cells names acc → p ∈ acc ∨ cells.lookup p.1 = some p.2
  | [], _, _, h => .inl h
  | (n, k) :: r, acc, p, h => by
    unfold clOf at h
    split at h
    · split at h
      · rename_i a ha
        rcases mem_clOf h with h | h
        · rcases List.mem_cons.mp h with rfl | h
          · exact .inr ha
          · exact .inl h
        · exact .inr h
      · exact mem_clOf h
    · exact mem_clOf h
theorem lookup_clOf {cells : List (Str × Addr)} {names : List (Str × NameKind)} {n : Str} {a : Addr} (h : (clOf cells names []).lookup n = some a) : cells.lookup n = some a := by
  rcases mem_clOf (mem_of_lookup h) with h | h
  · cases h
  · exact h

def innerEnv (c : Cx) (scope : Scope) (C : Addr) : Env := compEnvC scope (clOf c.env.cells scope.names []) C c.env
/-- the block of a comprehension: all that stands is to be read alone -/
def Cx.inner (c : Cx) (σ : St) (scope : Scope) (C : Addr) : Cx := { c with ro := c.get σ, env := innerEnv c scope C }
def innerLoc (c : Cx) (σ : St) (scope : Scope) : Str → Option V := fun x => if ((relabel scope c.env).names.lookup x == some .cell && ((clOf c.env.cells scope.names []).lookup x).isSome) = true then σ.loc x else Option.none
def St.join (σ : St) (hp : Addr → Option (List V)) : St := { σ with hp := fun a => match σ.hp a with | some l => some l | Option.none => hp a }

theorem Cx.Ok.inner {c : Cx} (hc : c.Ok) {σ : St} {scope : Scope} {C : Addr} (hk : scope.kind = .function) : (c.inner σ scope C).Ok :=
  ⟨hk, hc.glob, hc.bi, hc.hand, hc.units⟩

def WIfs (c : Cx) (ifs : List Expr) (Q : Bool → St → Prop) (σ : St) : Prop := match ifs with
  | [] => Q true σ
  | [t] => Wb c t Q σ
  | _ => False
theorem WIfs.run {c : Cx} {ifs : List Expr} {Q : Bool → St → Prop} {σ : St} (h : WIfs c ifs Q σ) :
    Wp c (forIn ifs true fun e r => if r = true then do let ok ← isTrue e c.env (eval e c.env); pure (ForInStep.yield ok) else pure (ForInStep.yield r)) Eq Q σ := fun b₀ s₀ s R => by
  match ifs, h with
  | [], h => rw [List.forIn_nil]; exact wpAny_pure ⟨true, σ, rfl, R, h⟩
  | [t], h =>
    rw [List.forIn_cons]
    simp only [if_true]
    refine wpAny_bind (wpAny_bind (wpAny_mono (h b₀ s₀ s R) (fun v s₁ ⟨b, σ₁, k, R₁, h₁⟩ => ?_) fun _ _ x => x))
    refine wpAny_pure ?_
    show wpAny _ _ (forIn [] v _) _ _ _
    rw [List.forIn_nil]
    exact wpAny_pure ⟨b, σ₁, k, R₁, h₁⟩
  | _ :: _ :: _, h => exact h.elim

section
variable {c : Cx} {b₀ : Addr → Option Obj} {s₀ s : Shared} {σ : St}
/-- an address that the state does not know is turned -/
theorem Rel.off (R : Rel c b₀ s₀ σ s) {C : Addr} (hb : b₀ C = Option.none) (hh : σ.hp C = Option.none) (hL : c.env.locals ≠ C) (hcl : ∀ n, c.env.cells.lookup n ≠ some C) {h' : Heap} {tk : Nat} (hs : Heap.ExtBut C s.heap h') :
    Rel c b₀ s₀ σ { s with heap := h', toks := tk } := by
  obtain ⟨m, cm, h1, h2, h3⟩ := R.frame
  refine { same := ?_, top := R.top, keep := ?_, ro := R.ro, hp := ?_, frame := ⟨m, cm, h1.extBut hs hL, ?_, h3⟩, own := R.own, cells := R.cells }
  · obtain ⟨h0, t, rfl⟩ := R.same; exact ⟨h', _, rfl⟩
  · exact fun a o e => hs a o (fun q => by rw [q, hb] at e; cases e) (R.keep a o e)
  · intro a l e
    obtain ⟨p, o, ho, q⟩ := R.hp a l e
    exact ⟨p, o, hs a o (fun q => by rw [q, hh] at e; cases e) ho, q⟩
  · intro n a e
    obtain ⟨o, e1, e2⟩ := h2 n a e
    exact ⟨o, hs a o (fun q => hcl n (by rw [e, q])) e1, e2⟩
end

section
variable {c : Cx} {σ : St} {elt iter : Expr} {x : Str} {px : Pos} {ifs : List Expr} {scope : Scope} {pos cpos : Pos}

/-- what a comprehension asks of its reader -/
def CompAsk (c : Cx) (x : Str) (ifs : List Expr) (elt : Expr) (scope : Scope) (P : V → St → Prop) (src : Src) (σ₁ : St) : Prop :=
  ∃ (J : Nat → List V → (Addr → Option (List V)) → Prop) (N : Nat), N ≤ 2 ^ 20 ∧ src.ok (c.get σ₁) ∧ J 0 [] (fun _ => Option.none) ∧
    ∀ i acc hp, J i acc hp → (∀ a l, hp a = some l → c.get σ₁ a = Option.none) → i ≤ N ∧
      (∀ v C, src.item (c.get σ₁) i = some v → WIfs (c.inner σ₁ scope C) ifs (fun b σ' => (b = false → J (i + 1) acc σ'.hp) ∧ (b = true → W (c.inner σ₁ scope C) elt (fun w σ'' => J (i + 1) (acc ++ [w]) σ''.hp) σ')) (St.set ⟨innerLoc c σ₁ scope, hp⟩ x v)) ∧
      (src.item (c.get σ₁) i = Option.none → ∀ D, c.get σ₁ D = Option.none → hp D = Option.none → P (.ref D) ((σ₁.join hp).put D acc))

structure CompShape (c : Cx) (scope : Scope) (x : Str) : Prop where
  kind : scope.kind = .function
  free : (scope.names.all fun p => p.2 != .free || (c.env.cells.lookup p.1).isSome) = true
  cell : (scope.names.all fun p => p.2 != .cell) = true
  names : (scope.names.all fun p => p.2 != .local || scope.names.lookup p.1 == some .local) = true
  x : scope.names.lookup x = some .local

theorem comp_core (hc : c.Ok) (hS : CompShape c scope x) {b₀ : Addr → Option Obj} {s₀ s₂ : Shared} {src : Src} {I : Addr} {σ₁ : St} (hI : IterIs src I 0 s₂.heap) (hbI : b₀ I = Option.none) (R : Rel c b₀ s₀ σ₁ s₂) {P : V → St → Prop}
    (h : CompAsk c x ifs elt scope P src σ₁) {RR : Value → Addr → Result → Shared → Prop}
    (hRR : ∀ D C acc hp s', Rel c b₀ s₀ ((σ₁.join hp).put D acc) s' → P (.ref D) ((σ₁.join hp).put D acc) → b₀ C = Option.none → ((σ₁.join hp).put D acc).hp C = Option.none → c.env.locals ≠ C → (∀ n, c.env.cells.lookup n ≠ some C) → (∃ m, s'.heap.Ns C m) → RR (.ref D) C (.ok .next) s') :
    wpAny (model c.prog c.w) c.A (newList []) (fun acc s₃ => wpAny (model c.prog c.w) c.A (newFunctionEnv scope c.env.globals (clOf c.env.cells scope.names []) [] c.env.qual Option.none .none (some c.env)) (fun cenv s₄ =>
      codeAny (model c.prog c.w) c.A (.compStart (.ListComp elt [⟨.Name x px, iter, ifs, 0⟩] scope pos) 0 (.ref I) acc { cenv with scope := relabel scope c.env }) (RR acc cenv.locals) s₄) (fun _ _ => False) s₃) (fun _ _ => False) s₂ := by
  obtain ⟨J, N, hN, hok, hJ0, hJ⟩ := h
  have hcell : ∀ y ∈ scope.names, y.2 ≠ .cell := fun y hy => by
    have := List.all_eq_true.mp hS.cell y hy
    simpa using this
  refine wpAny_newObj_type (wpAny_newFunctionEnv hcell (by intro y hy; simp at hy) (fun h₁ hns₁ hsb₁ => ?_) hS.kind) (by size_fits)
  dsimp only at hns₁ hsb₁ ⊢
  generalize hH2 : s₂.heap.push { cls := .type "list", dict := Option.none, data := .seq ([] : List Value).toArray } = H2 at hns₁ hsb₁ ⊢
  have hC : H2.objs.size = s₂.heap.objs.size + 1 := by rw [← hH2, Heap.size_push]
  generalize hD' : s₂.heap.objs.size = D at *
  generalize hC' : H2.objs.size = C at *
  have hDC : D ≠ C := by omega
  have lt : ∀ b o, s₂.heap.get? b = some o → b ≠ D ∧ b ≠ C := fun b o e => by
    have h : b < D := hD' ▸ Heap.lt_size e
    exact ⟨Nat.ne_of_lt h, Nat.ne_of_lt (by rw [hC]; exact Nat.lt_succ_of_lt h)⟩
  have old : ∀ b o, s₂.heap.get? b = some o → h₁.get? b = some o := fun b o e => hsb₁.extBut b o (lt b o e).2 (Heap.get?_push_of_some _ (hH2 ▸ Heap.get?_push_of_some _ e))
  have hacc : h₁.get? D = some { cls := .type "list", data := .seq #[] 0 } := hsb₁.extBut _ _ hDC (Heap.get?_push_of_some _ (hH2 ▸ hD' ▸ Heap.get?_push_size _ rfl))
  have freshD : s₂.heap.get? D = Option.none := by
    cases e : s₂.heap.get? D with
    | none => rfl
    | some o => exact absurd rfl (lt D o e).1
  have freshC : s₂.heap.get? C = Option.none := by
    cases e : s₂.heap.get? C with
    | none => rfl
    | some o => exact absurd rfl (lt C o e).2
  obtain ⟨oI, fs, hoI, hdI⟩ := hI.obj
  have hID := (lt I oI hoI).1
  have hIC := (lt I oI hoI).2
  obtain ⟨m₀, cm, hm₀, hcm, hvar⟩ := R.frame
  have hLne : ∀ o, s₂.heap.get? c.env.locals = some o → c.env.locals ≠ I := fun o e q => by
    obtain ⟨o', _, _, e1, e2, _⟩ := hm₀
    rw [q, hoI] at e1; cases e1; rw [hdI] at e2; cases e2
  have hoL : ∃ oL, s₂.heap.get? c.env.locals = some oL := by obtain ⟨o', _, _, e1, _⟩ := hm₀; exact ⟨o', e1⟩
  obtain ⟨oL, hoL⟩ := hoL
  have bne : ∀ a o, b₀ a = some o → a ≠ I := fun a o e q => by rw [q, hbI] at e; cases e
  have listne : ∀ a l, c.get σ₁ a = some l → a ≠ I := fun a l e q => by
    obtain ⟨vs, n, ho, _⟩ := R.plain e
    rw [q, hoI] at ho; cases ho; cases hdI
  -- the block's base: all but the iterator, and the list that is built
  let bD : Obj → Addr → Option Obj := fun o a => if a = D then some o else if a = I then Option.none else s₂.heap.get? a
  have cI : ∀ a l, c.get σ₁ a = some l → a ≠ D := fun a l e => by obtain ⟨vs, n, ho, _⟩ := R.plain e; exact (lt a _ ho).1
  let cx : Cx := c.inner σ₁ scope C
  have hcx : cx.Ok := hc.inner hS.kind
  -- the block's state again, whatever the turn left of its names
  have back : ∀ (o : Obj) (hp : Addr → Option (List V)) (σ' : St) (s' : Shared), σ'.hp = hp → Rel cx (bD o) s₀ σ' s' → Rel cx (bD o) s₀ ⟨innerLoc c σ₁ scope, hp⟩ s' := by
    intro o hp σ' s' e R'
    subst e
    obtain ⟨m, cm', h1, h2, h3⟩ := R'.frame
    refine { same := R'.same, top := R'.top, keep := R'.keep, ro := R'.ro, hp := R'.hp, frame := ⟨m, cm, h1, ?_, ?_⟩, own := R'.own, cells := R'.cells }
    · intro n a e
      have e' := lookup_clOf e
      obtain ⟨oc, ho, hd⟩ := hcm n a e'
      refine ⟨oc, R'.keep a oc ?_, hd⟩
      show (if a = D then some o else if a = I then Option.none else s₂.heap.get? a) = some oc
      rw [if_neg (lt a oc ho).1, if_neg]; exact ho
      rintro rfl
      rw [hoI] at ho; cases ho; rw [hdI] at hd; cases hd
    · intro y v hy
      have hy : innerLoc c σ₁ scope y = some v := hy
      unfold innerLoc at hy
      split at hy
      · rename_i hcond
        simp only [Bool.and_eq_true, beq_iff_eq] at hcond
        obtain ⟨a, ha⟩ := Option.isSome_iff_exists.mp hcond.2
        refine .inr ⟨hcond.1, a, ?_⟩
        rcases hvar y v hy with ⟨hk, _⟩ | ⟨hk, a', val, hl, hv, he⟩
        · -- the outer name is no cell: it can't have been relabelled, and no name of the block is a cell by itself
          exfalso
          have key : ∀ (names : List (Str × NameKind)), (∀ p ∈ names, p.2 ≠ .cell) → (names.map fun (n, k) => if (k == NameKind.free && c.env.scope.kind == .function && c.env.kindOf n == some .cell) then (n, NameKind.cell) else (n, k)).lookup y = some .cell → c.env.kindOf y = some .cell := by
            intro names
            induction names with
            | nil => intro _ h; cases h
            | cons p r ih =>
              intro hne h
              obtain ⟨n, k⟩ := p
              simp only [List.map_cons] at h
              by_cases hcnd : (k == NameKind.free && c.env.scope.kind == .function && c.env.kindOf n == some .cell) = true
              · rw [if_pos hcnd, List.lookup_cons] at h
                cases hyn : y == n with
                | true =>
                  simp only [Bool.and_eq_true, beq_iff_eq] at hcnd
                  rw [beq_iff_eq.mp hyn]; exact hcnd.2
                | false => rw [hyn] at h; exact ih (fun p hp => hne p (.tail _ hp)) h
              · rw [if_neg hcnd, List.lookup_cons] at h
                cases hyn : y == n with
                | true => rw [hyn] at h; cases h; exact absurd rfl (hne _ (.head _))
                | false => rw [hyn] at h; exact ih (fun p hp => hne p (.tail _ hp)) h
          have := key scope.names hcell hcond.1
          rw [hk] at this; cases this
        · exact ⟨val, ha, hv, he⟩
      · cases hy
  have inv0 : Rel cx (bD { cls := .type "list", data := .seq #[] 0 }) s₀ ⟨innerLoc c σ₁ scope, fun _ => Option.none⟩ { s₂ with heap := h₁, toks := s₂.toks + ([] : List (Str × Value)).length } := by
    refine back _ _ ⟨fun _ => Option.none, fun _ => Option.none⟩ _ rfl ?_
    refine { same := ?_, top := ?_, keep := ?_, ro := ?_, hp := (fun a l e => by cases e), frame := ⟨_, cm, hns₁, ?_, (fun y v e => by cases e)⟩, own := ?_, cells := (fun hf => by cases hf) }
    · obtain ⟨h0, t, rfl⟩ := R.same; exact ⟨h₁, _, rfl⟩
    · intro a o e
      have e1 := R.keep a o (R.top a o e)
      show (if a = D then _ else if a = I then Option.none else s₂.heap.get? a) = some o
      rw [if_neg (lt a o e1).1, if_neg (bne a o (R.top a o e))]; exact e1
    · intro a o e
      show h₁.get? a = some o
      simp only [bD] at e
      split at e
      · rename_i h; cases e; rw [h]; exact hacc
      · split at e
        · cases e
        · exact old a o e
    · intro a l e
      obtain ⟨vs, n, ho, el⟩ := R.plain e
      refine ⟨_, ?_, vs, n, rfl, el⟩
      show (if a = D then _ else if a = I then Option.none else s₂.heap.get? a) = some _
      rw [if_neg (cI a l e), if_neg (listne a l e)]; exact ho
    · intro n a e
      obtain ⟨oc, ho, hd⟩ := hcm n a (lookup_clOf e)
      exact ⟨oc, old a oc ho, hd⟩
    · show (if C = D then _ else if C = I then Option.none else s₂.heap.get? C) = Option.none
      rw [if_neg (Ne.symm hDC), if_neg (Ne.symm hIC)]; exact freshC
  have hgI : ∀ (o : Obj), bD o I = Option.none := fun o => by
    show (if I = D then _ else if I = I then Option.none else s₂.heap.get? I) = Option.none
    rw [if_neg hID, if_pos rfl]
  have getx : ∀ (o : Obj) (hp : Addr → Option (List V)) (loc : Str → Option V) (s' : Shared), Rel cx (bD o) s₀ ⟨loc, hp⟩ s' → ∀ a l, hp a = some l → c.get σ₁ a = Option.none := fun o hp loc s' R' a l e => by
    cases hg : c.get σ₁ a with
    | none => rfl
    | some k =>
      obtain ⟨vs, n, ho, _⟩ := R.plain hg
      have := (R'.hp a l e).1
      simp only [bD] at this
      rw [if_neg (cI a k hg), if_neg (listne a k hg), ho] at this
      cases this
  have geteq : ∀ (o : Obj) (hp : Addr → Option (List V)) (loc : Str → Option V) (s' : Shared), Rel cx (bD o) s₀ ⟨loc, hp⟩ s' → ∀ a l, c.get σ₁ a = some l → cx.get ⟨loc, hp⟩ a = some l := fun o hp loc s' R' a l e => by
    show (match hp a with | some l => some l | Option.none => c.get σ₁ a) = some l
    cases hh : hp a with
    | none => exact e
    | some k => rw [getx o hp loc s' R' a k hh] at e; cases e
  have okx : ∀ (o : Obj) (hp : Addr → Option (List V)) (loc : Str → Option V) (s' : Shared), Rel cx (bD o) s₀ ⟨loc, hp⟩ s' → src.ok (cx.get ⟨loc, hp⟩) ∧ ∀ i, src.item (cx.get ⟨loc, hp⟩) i = src.item (c.get σ₁) i := fun o hp loc s' R' => by
    cases src with
    | list a =>
      obtain ⟨l, hl⟩ := Option.isSome_iff_exists.mp hok
      have := geteq o hp loc s' R' a l hl
      exact ⟨by simp only [Src.ok]; rw [this]; rfl, fun i => by simp only [Src.item]; rw [this, hl]⟩
    | range lo n => exact ⟨trivial, fun i => rfl⟩
  have loop : ∀ s₃ : Shared, s₃ = { s₂ with heap := h₁, toks := s₂.toks + ([] : List (Str × Value)).length } →
      codeAny (model c.prog c.w) c.A (.compLoop (.ListComp elt [⟨.Name x px, iter, ifs, 0⟩] scope pos) 0 (.ref I) (.ref D) (innerEnv c scope C)) (RR (.ref D) C) s₃ := by
    rintro s₃ rfl
    refine codeAny_compLoop_tests (fun k s' => ∃ i acc hp vs n, k = N + 1 - i ∧ acc.length ≤ i ∧ IterIs src I i s'.heap ∧ Ers vs.toList acc ∧ Rel cx (bD { cls := .type "list", data := .seq vs n }) s₀ ⟨innerLoc c σ₁ scope, hp⟩ s' ∧ J i acc hp) ?_ (N + 1)
      ⟨0, [], _, #[], 0, rfl, Nat.le_refl _, hI.at fun o e => old I o e, rfl, inv0, hJ0⟩
    rintro k s' ⟨i, acc, hp, vs, n, rfl, hlen, hI', hvs, R', hJi⟩
    obtain ⟨hle, hitem, hdone⟩ := hJ i acc hp hJi (getx _ hp _ s' R')
    obtain ⟨okc, itc⟩ := okx _ hp _ s' R'
    cases hv : src.item (c.get σ₁) i with
    | none =>
      refine next_end (c := cx) hcx R' hI' okc ((itc i).trans hv) fun h' he => ?_
      have R₁ := R'.stepI (tk := s'.toks) hI' (hgI _) he
      obtain ⟨mC, _, hnC, _⟩ := R₁.frame
      have hpD : hp D = Option.none := by
        cases e : hp D with
        | none => rfl
        | some l =>
          have := (R₁.hp D l e).1
          simp only [bD, if_true] at this
          cases this
      have hoD : h'.get? D = some { cls := .type "list", data := .seq vs n } := R₁.keep D _ (by simp [bD])
      have kp : ∀ a o, a ≠ I → s₂.heap.get? a = some o → h'.get? a = some o := fun a o ha e => R₁.keep a o (by
        show (if a = D then _ else if a = I then Option.none else s₂.heap.get? a) = some o
        rw [if_neg (lt a o e).1, if_neg ha]; exact e)
      have kb : ∀ a, b₀ a = Option.none ∨ ∃ o, s₂.heap.get? a = some o ∧ b₀ a = some o := fun a => by
        cases e : b₀ a with
        | none => exact .inl rfl
        | some o => exact .inr ⟨o, R.keep a o e, rfl⟩
      have Rout : Rel c b₀ s₀ ((σ₁.join hp).put D acc) { s' with heap := h' } := by
        refine Rel.enter (o := { cls := .type "list", data := .seq vs n }) ?_ hoD ⟨vs, n, rfl, hvs⟩ ?_
        · refine { same := R₁.same, top := R.top, keep := (fun a o e => kp a o (bne a o e) (R.keep a o e)), ro := R.ro, hp := ?_, frame := ⟨m₀, cm, hm₀.at' (fun o e => kp _ o (hLne o e) e), ?_, hvar⟩, own := R.own, cells := R.cells }
          · intro a l e
            simp only [St.join] at e
            cases hh : σ₁.hp a with
            | some k =>
              rw [hh] at e; cases e
              obtain ⟨p, o, ho, q⟩ := R.hp a _ hh
              exact ⟨p, o, kp a o (listne a _ (by unfold Cx.get; rw [hh])) ho, q⟩
            | none =>
              rw [hh] at e
              obtain ⟨p, o, ho, q⟩ := R₁.hp a l e
              refine ⟨?_, o, ho, q⟩
              rcases kb a with h | ⟨o', e1, e2⟩
              · exact h
              · simp only [bD] at p
                rw [if_neg (lt a o' e1).1, if_neg (bne a o' e2), e1] at p
                cases p
          · intro nm a e
            obtain ⟨oc, ho, hd⟩ := hcm nm a e
            refine ⟨oc, kp a oc ?_ ho, hd⟩
            rintro rfl
            rw [hoI] at ho; cases ho; rw [hdI] at hd; cases hd
        · rcases kb D with h | ⟨o', e1, _⟩
          · exact h
          · rw [freshD] at e1; cases e1
      refine hRR D C acc hp _ Rout (hdone hv D ?_ hpD) ?_ ?_ ?_ ?_ ⟨mC, hnC⟩
      · cases hg : c.get σ₁ D with
        | none => rfl
        | some l => exact absurd rfl (cI D l hg)
      · rcases kb C with h | ⟨o', e1, _⟩
        · exact h
        · rw [freshC] at e1; cases e1
      · simp only [St.put, St.join]
        rw [if_neg (Ne.symm hDC)]
        cases hh : σ₁.hp C with
        | some l =>
          obtain ⟨_, o, ho, _⟩ := R.hp C l hh
          rw [freshC] at ho; cases ho
        | none =>
          cases e : hp C with
          | none => rfl
          | some l =>
            obtain ⟨_, o, ho, ws, k, rfl, _⟩ := R₁.hp C l e
            obtain ⟨o', _, _, e1, e2, _⟩ := hnC
            have ho' : h'.get? C = _ := ho
            have e1' : h'.get? C = some o' := e1
            rw [ho'] at e1'; cases e1'; cases e2
      · rintro rfl; rw [freshC] at hoL; cases hoL
      · intro nm e
        obtain ⟨oc, ho, _⟩ := hcm nm C e
        rw [freshC] at ho; cases ho
    | some v =>
      refine next_item (c := cx) R' hI' ((itc i).trans hv) fun val h' tk hval hI₁ hsb => ?_
      have R₁ := R'.stepI (tk := tk) hI' (hgI _) hsb.extBut
      obtain ⟨oI₁, fs₁, hoI₁, hdI₁⟩ := hI₁.obj
      have Rg := Rel.guard R₁ hoI₁ hdI₁ (hgI _)
      refine wpAny_assign_Name (Rel.store (c := cx) hcx Rg hval (.inl (lookup_relabel_local hS.x)) fun s₄ R₄ => ?_)
      have unI : ∀ {σ₅ : St} {s₅ : Shared}, Rel cx (fun a => if a = I then some oI₁ else bD { cls := .type "list", data := .seq vs n } a) s₀ σ₅ s₅ → Rel cx (bD { cls := .type "list", data := .seq vs n }) s₀ σ₅ s₅ ∧ IterIs src I (i + 1) s₅.heap := fun {σ₅ s₅} R₅ => by
        refine ⟨Rel.unguard R₁ R₅ fun a o e => ?_, hI₁.at fun o e => ?_⟩
        · show (if a = I then some oI₁ else _) = some o
          rw [if_neg]; exact e
          rintro rfl; rw [hgI] at e; cases e
        · rw [hoI₁] at e; cases e
          exact R₅.keep I oI₁ (by simp)
      refine wpAny_mono (WIfs.run (hitem v C hv) _ s₀ s₄ R₄) (fun ok s₅ ⟨b, σ₅, e, R₅, hf, ht⟩ => ?_) fun _ _ x => x.elim
      subst e
      cases ok with
      | false =>
        simp only [Bool.false_eq_true, if_false]
        obtain ⟨R₆, hI₆⟩ := unI R₅
        exact ⟨N + 1 - (i + 1), by omega, i + 1, acc, σ₅.hp, vs, n, rfl, Nat.le_succ_of_le hlen, hI₆, hvs, back _ _ σ₅ _ rfl R₆, hf rfl⟩
      | true =>
        simp only [if_true]
        refine wpAny_mono (ht rfl _ s₀ s₅ R₅) (fun y s₆ ⟨w, σ₆, kw, R₆, hJ'⟩ => ?_) fun _ _ x => x.elim
        obtain ⟨R₇, hI₇⟩ := unI R₆
        have hoD := R₇.keep D { cls := .type "list", data := .seq vs n } (by simp [bD])
        have el := hvs.length
        rw [Array.length_toList] at el
        refine append_at hoD (fun h₈ hsb₈ hD₈ => ?_) (by rw [el]; exact Nat.le_trans (Nat.le_trans hlen (Nat.le_trans hle hN)) (by decide))
        refine ⟨N + 1 - (i + 1), by omega, i + 1, acc ++ [w], σ₆.hp, vs.push y, n + 1, rfl, by simp; exact hlen, ?_, ?_, ?_, hJ'⟩
        · exact hI₇.at fun o e => (hsb₈.2 I hID).trans e
        · simpa using hvs.append (Ers.cons kw .nil)
        · refine back _ _ σ₆ _ rfl ?_
          obtain ⟨m₇, cm₇, a1, a2, a3⟩ := R₇.frame
          have Dne : ∀ a o', bD { cls := .type "list", data := .seq (vs.push y) (n + 1) } a = some o' → a ≠ D → bD { cls := .type "list", data := .seq vs n } a = some o' := fun a o' e h => by
            simp only [bD] at e ⊢; rw [if_neg h] at e ⊢; exact e
          refine { same := ?_, top := ?_, keep := ?_, ro := ?_, hp := ?_, frame := ⟨m₇, cm₇, a1.sameBut hsb₈ ?_, ?_, a3⟩, own := ?_, cells := (fun hf => by cases hf) }
          · obtain ⟨h0, t, e⟩ := R₇.same; exact ⟨h₈, s₆.toks, by rw [e]⟩
          · intro a o' e
            have e1 := R.keep a o' (R.top a o' e)
            show (if a = D then _ else if a = I then Option.none else s₂.heap.get? a) = some o'
            rw [if_neg (lt a o' e1).1, if_neg (bne a o' (R.top a o' e))]; exact e1
          · intro a o' e
            by_cases h : a = D
            · subst h
              simp only [bD, if_true] at e; cases e; exact hD₈
            · exact (hsb₈.2 a h).trans (R₇.keep a o' (Dne a o' e h))
          · intro a l e
            obtain ⟨ws, k, ho, el'⟩ := R.plain e
            refine ⟨_, ?_, ws, k, rfl, el'⟩
            show (if a = D then _ else if a = I then Option.none else s₂.heap.get? a) = some _
            rw [if_neg (cI a l e), if_neg (listne a l e)]; exact ho
          · intro a l e
            obtain ⟨p, o', ho, q⟩ := R₇.hp a l e
            have haD : a ≠ D := fun h => by
              rw [h] at p
              simp only [bD, if_true] at p
              cases p
            refine ⟨?_, o', (hsb₈.2 a haD).trans ho, q⟩
            simp only [bD] at p ⊢
            rw [if_neg haD] at p ⊢; exact p
          · show C ≠ D
            exact Ne.symm hDC
          · intro nm a e
            refine (a2 nm a e).sameBut hsb₈ ?_
            obtain ⟨oc, ho, _⟩ := hcm nm a (lookup_clOf e)
            exact (lt a oc ho).1
          · show (if C = D then _ else if C = I then Option.none else s₂.heap.get? C) = Option.none
            rw [if_neg (Ne.symm hDC), if_neg (Ne.symm hIC)]; exact freshC
  have self : ∀ s₃ : Shared, s₃ = { s₂ with heap := h₁, toks := s₂.toks + ([] : List (Str × Value)).length } → ∀ (Q : Value → Shared → Prop) (E : Value → Shared → Prop), Q (.ref I) s₃ → wpAny (model c.prog c.w) c.A (pyIter (.ref I)) Q E s₃ := by
    rintro s₃ rfl Q E hq
    have hI₁ : IterIs src I 0 h₁ := hI.at fun o e => old I o e
    cases src with
    | list a => exact wpAny_pyIter_listiter hI₁ hq
    | range lo n => exact wpAny_pyIter_rangeiter hI₁ hq
  exact codeAny_compStart_list (loop _ rfl) (self _ rfl _ _ (loop _ rfl))

theorem names_of (hS : CompShape c scope x) : ∀ y ∈ scope.names, y.2 = .local → scope.names.lookup y.1 = some .local := fun y hy hl => by
  have := List.all_eq_true.mp hS.names y hy
  simpa [hl] using this

theorem W_comp (hc : c.Ok) (hS : CompShape c scope x) {Q : V → St → Prop} (h : WIt c iter (CompAsk c x ifs elt scope Q) σ) (hs : ∀ x, foldedSetIterable iter c.env x = pure x := by intro _; rfl) :
    W c (.ListComp elt [⟨.Name x px, iter, ifs, 0⟩] scope pos) Q σ := fun b₀ s₀ s R => by
  rw [eval_ListComp]
  refine wpAny_comprehension_free (use := Option.none) rfl hs (closureFor_eq hS.free) hS.kind (names_of hS) (wpAny_mono (h b₀ s₀ s R) (fun xv s₁ h₁ => wpAny_mono h₁ (fun it s₂ ⟨src, I, σ₁, e, hI, hb, R₂, h₂⟩ => ?_) fun _ _ x => x) fun _ _ x => x)
  subst e
  refine comp_core (RR := fun acc C => compPost _ _ _ Option.none _ acc C) hc hS hI hb R₂ h₂ ?_
  intro D C acc hp s' R' hP hbC hhC hLC hcC hns
  obtain ⟨m, hm⟩ := hns
  exact ⟨m, hm, fun h' hs' => ⟨.ref D, _, rfl, R'.off (tk := s'.toks) hbC hhC hLC hcC hs'.extBut, hP⟩⟩

theorem Ws_assignComp (hc : c.Ok) (hS : CompShape c scope x) {Q : Fl → St → Prop} {y : Str} {py spos : Pos} (ht : Tgt c y) (h : WIt c iter (CompAsk c x ifs elt scope (fun v σ₁ => Q .next (σ₁.set y v))) σ)
    (hsw : swapsWith (.ListComp elt [⟨.Name x px, iter, ifs, 0⟩] scope pos) (some (.Name y py)) spos.line c.env = pure true := by rfl)
    (hs : ∀ x, foldedSetIterable iter c.env x = pure x := by intro _; rfl) : Ws c (.Assign [.Name y py] (.ListComp elt [⟨.Name x px, iter, ifs, 0⟩] scope pos) spos) Q σ := fun b₀ s₀ s R => by
  rw [exec_Assign_Name_used _ _ _ _ hsw]
  refine wpAny_bind (wpAny_standAt (wpAny_bind ?_))
  show wpAny _ _ (do let _ ← comprehension (.ListComp elt [⟨.Name x px, iter, ifs, 0⟩] scope pos) scope c.env _ (newList []) false (eval iter c.env) (some (assign (.Name y py) c.env))) _ _ s
  refine wpAny_bind (wpAny_mono (wpAny_comprehension_free (use := some (assign (.Name y py) c.env)) (Q := fun _ s' => ∃ b σ', FK .next b ∧ Rel c b₀ s₀ σ' s' ∧ Q b σ') rfl hs (closureFor_eq hS.free) hS.kind (names_of hS)
    (wpAny_mono (h b₀ s₀ s R) (fun xv s₁ h₁ => wpAny_mono h₁ (fun it s₂ ⟨src, I, σ₁, e, hI, hb, R₂, h₂⟩ => ?_) fun _ _ x => x) fun _ _ x => x)) (fun _ s' hq => wpAny_pure (wpAny_pure hq)) fun _ _ x => x)
  subst e
  refine comp_core (RR := fun acc C => compPost _ _ _ (some (assign (.Name y py) c.env)) _ acc C) hc hS hI hb R₂ h₂ ?_
  intro D C acc hp s' R' hP hbC hhC hLC hcC hns
  obtain ⟨m, hm⟩ := hns
  obtain ⟨oC, _, _, hoC, hdC, _⟩ := id hm
  show wpAny _ _ (assign (.Name y py) c.env (.ref D)) _ _ s'
  -- the block's own table is guarded while the name is stored
  have Rg : Rel c (fun a => if a = C then some oC else b₀ a) s₀ ((σ₁.join hp).put D acc) s' := by
    have ne : ∀ a o', b₀ a = some o' → a ≠ C := fun a o' e q => by rw [q, hbC] at e; cases e
    obtain ⟨m', cm', h1, h2, h3⟩ := R'.frame
    refine { same := R'.same, top := ?_, keep := ?_, ro := ?_, hp := ?_, frame := R'.frame, own := ?_, cells := ?_ }
    · intro a o' e; show (if a = C then _ else b₀ a) = _; rw [if_neg (ne a o' (R'.top a o' e))]; exact R'.top a o' e
    · intro a o' e
      by_cases h : a = C
      · simp only [if_pos h] at e; cases e; rw [h]; exact hoC
      · simp only [if_neg h] at e; exact R'.keep a o' e
    · intro a l e
      obtain ⟨o', p, q⟩ := R'.ro a l e
      exact ⟨o', by show (if a = C then _ else b₀ a) = _; rw [if_neg (ne a o' p)]; exact p, q⟩
    · intro a l e
      obtain ⟨p, q⟩ := R'.hp a l e
      refine ⟨?_, q⟩
      show (if a = C then _ else b₀ a) = _
      rw [if_neg]; exact p
      rintro rfl; rw [hhC] at e; cases e
    · show (if c.env.locals = C then _ else b₀ c.env.locals) = _
      rw [if_neg hLC]; exact R'.own
    · intro hf
      refine ⟨fun n a e => ?_, (R'.cells hf).2⟩
      show (if a = C then _ else b₀ a) = _
      rw [if_neg]; exact (R'.cells hf).1 n a e
      rintro rfl; exact hcC n e
  refine wpAny_assign_Name (Rg.store hc (v := .ref D) rfl ht fun s'' R'' => ?_)
  have hoC'' := R''.keep C oC (by simp)
  have R₃ : Rel c b₀ s₀ (((σ₁.join hp).put D acc).set y (.ref D)) s'' := Rel.unguard R' R'' fun a o e => by
    show (if a = C then _ else b₀ a) = _
    rw [if_neg]; exact e
    rintro rfl; rw [hbC] at e; cases e
  refine ⟨m, hm.at' (fun o e => by rw [hoC] at e; cases e; exact hoC''), fun h' hs' => ⟨.next, _, trivial, R₃.off (tk := s''.toks) hbC hhC hLC hcC hs'.extBut, hP⟩⟩
end
end Mine

namespace Mine
open PySem PyProof.Rows

/-- room for n calls within one another -/
def Lv (n : Nat) (A : Around) : Prop := A.handled = Option.none ∧ A.depth + n < recursionLimit ∧ A.units + 3 * n + 64 < cLine
theorem Lv.deeper {n : Nat} {A : Around} (h : Lv (n + 1) A) (env : Env) : Lv n (A.deeper env) :=
  ⟨h.1, by show A.depth + 1 + n < recursionLimit; have := h.2.1; omega, by show A.units + 3 + 3 * n + 64 < cLine; have := h.2.2; omega⟩
theorem Lv.less {n m : Nat} {A : Around} (h : Lv n A) (hm : m ≤ n) : Lv m A := ⟨h.1, by have := h.2.1; omega, by have := h.2.2; omega⟩

structure FnAt (ht : Heap) (f : Addr) (fd : FuncData) (body : List Stmt) (params : List Str) : Prop where
  obj : ∃ o, ht.get? f = some o ∧ o.data = .func fd
  code : ht.CodeRec fd.code fd.qualname
  body : fd.body = .stmts body
  clo : fd.closure = []
  glob : fd.globals = mainGlobals
  bi : fd.builtins = builtinsNs
  kind : fd.scope.kind = .function
  co : fd.scope.isCoroutine = false
  gen : fd.scope.isGenerator = false
  binds : ∀ vs : List Value, vs.length = params.length → bindArgs fd ⟨vs, []⟩ = pure (params.zip vs)
  nodup : params.Nodup
  kinds : ∀ x ∈ params, fd.scope.names.lookup x = some .local ∨ (fd.scope.names.lookup x = some .cell ∧ ∀ L, ((cellsFrom L fd.scope.names []).lookup x).isSome = true)

def callee (c : Cx) (σ : St) (fd : FuncData) (L f : Addr) : Cx := { c with A := c.A.deeper (callEnvC fd L f), ro := c.get σ, env := callEnvC fd L f }
def argLoc (params : List Str) (l : List V) : Str → Option V := fun x => (params.zip l).lookup x

theorem bindL_off {k : Str → Option NameKind} {x : Str} : ∀ {b : List (Str × Value)} {m : Str → Option Value}, (∀ p ∈ b, p.1 ≠ x) → bindL k b m x = m x
  | [], _, _ => rfl
  | (n, v) :: r, m, h => by
    unfold bindL
    rw [bindL_off (fun p hp => h p (.tail _ hp))]
    have : x ≠ n := Ne.symm (h (n, v) (.head _))
    split
    · simp only [if_neg this]
    · rfl
theorem bindC_off {k : Str → Option NameKind} {x : Str} : ∀ {b : List (Str × Value)} {m : Str → Option Value}, (∀ p ∈ b, p.1 ≠ x) → bindC k b m x = m x
  | [], _, _ => rfl
  | (n, v) :: r, m, h => by
    unfold bindC
    rw [bindC_off (fun p hp => h p (.tail _ hp))]
    have : x ≠ n := Ne.symm (h (n, v) (.head _))
    split
    · rfl
    · simp only [if_neg this]
theorem mem_zip_fst {α β : Type} : ∀ {l : List α} {k : List β} {p : α × β}, p ∈ l.zip k → p.1 ∈ l
  | [], _, _, h => by simp at h
  | _ :: _, [], _, h => by simp at h
  | a :: l, b :: k, p, h => by
    rw [List.zip_cons_cons] at h
    rcases List.mem_cons.mp h with rfl | h
    · exact .head _
    · exact .tail _ (mem_zip_fst h)
theorem binds_find {k : Str → Option NameKind} {x : Str} {v : V} : ∀ {params : List Str} {vs : List Value} {l : List V} {m cm : Str → Option Value}, params.Nodup → Ers vs l → (params.zip l).lookup x = some v →
    ∃ val, er val = some v ∧ (k x = some .local → bindL k (params.zip vs) m x = some val) ∧ (k x ≠ some .local → bindC k (params.zip vs) cm x = some val)
  | [], _, _, _, _, _, _, h => by simp at h
  | n :: ps, vs, l, m, cm, hn, he, h => by
    cases l with
    | nil => simp at h
    | cons w l =>
      cases vs with
      | nil => simp [Ers] at he
      | cons y vs =>
        simp only [Ers, List.map_cons, List.cons.injEq] at he
        rw [List.zip_cons_cons, List.lookup_cons] at h
        rw [List.zip_cons_cons]
        have hnd := List.nodup_cons.mp hn
        cases hx : x == n with
        | true =>
          rw [hx] at h; cases h
          have hx' : x = n := beq_iff_eq.mp hx
          subst hx'
          have off : ∀ p ∈ ps.zip vs, p.1 ≠ x := fun p hp e => hnd.1 (e ▸ mem_zip_fst hp)
          refine ⟨y, he.1, fun hk => ?_, fun hk => ?_⟩
          · unfold bindL; rw [bindL_off off, if_pos hk]; simp
          · unfold bindC; rw [bindC_off off, if_neg hk]; simp
        | false =>
          rw [hx] at h
          unfold bindL bindC
          exact binds_find hnd.2 he.2 h

section
variable {c : Cx} {σ : St} {f : Addr} {fd : FuncData} {body : List Stmt} {params : List Str} {mg : Str → Option Value}

theorem call_fn (hA : Lv 1 c.A) (T : TopOk c.ht mg) (F : FnAt c.ht f fd body params) {l : List V} (hl : l.length = params.length) {P : V → (Addr → Option (List V)) → Prop}
    (h : ∀ L, Wss (callee c σ fd L f) body (fun fl σ' => ∃ v, fl = .ret v ∧ P v σ'.hp) ⟨argLoc params l, fun _ => Option.none⟩) {b₀ : Addr → Option Obj} {s₀ s : Shared} (R : Rel c b₀ s₀ σ s) {vs : List Value} (hv : Ers vs l) :
    wpAny (model c.prog c.w) c.A (call (.ref f) vs) (fun x s' => ∃ v hp, er x = some v ∧ Rel c b₀ s₀ (σ.join hp) s' ∧ P v hp ∧ ∀ a k, hp a = some k → c.get σ a = Option.none) (fun _ _ => False) s := by
  obtain ⟨o, ho, hd⟩ := F.obj
  have hlen : vs.length = params.length := hv.length.trans hl
  refine wpAny_call (codeAny_call_cells (by have := hA.2.1; omega) (R.topKeep f o ho) hd (T.nolimit.keeps R.topKeep) (F.code.keeps R.topKeep) F.body (F.binds vs hlen) F.clo ?_ ?_ F.co F.gen F.kind)
  · intro p hp
    rcases F.kinds p.1 (mem_zip_fst hp) with h | ⟨h, h'⟩
    · exact .inl h
    · exact .inr ⟨h, h' _⟩
  · intro s₁ x
    generalize hL : s.heap.objs.size = L at *
    have keep := x.toInCall.keep
    have R₁ : Rel (callee c σ fd L f) (fun a => s.heap.get? a) s ⟨argLoc params l, fun _ => Option.none⟩ s₁ := by
      refine { same := x.toInCall.same, top := R.topKeep, keep := keep, ro := ?_, hp := (fun a k e => by cases e), frame := ⟨_, _, x.toInCall.ns, x.cell, ?_⟩, own := ?_, cells := fun _ => ⟨?_, x.apart⟩ }
      · intro a k e
        obtain ⟨ws, n, hw, el⟩ := R.plain e
        exact ⟨_, hw, ws, n, rfl, el⟩
      · intro y v hy
        have hy : (params.zip l).lookup y = some v := hy
        obtain ⟨val, hval, h1, h2⟩ := binds_find (k := (callEnvC fd L f).kindOf) (m := fun _ => Option.none) (cm := fun _ => Option.none) F.nodup hv hy
        have hm := mem_zip_fst (mem_of_lookup hy)
        rcases F.kinds y hm with hk | ⟨hk, hc⟩
        · exact .inl ⟨hk, val, h1 hk, hval⟩
        · obtain ⟨a, ha⟩ := Option.isSome_iff_exists.mp (hc (L + 1))
          have hk' : (callEnvC fd L f).kindOf y = some .cell := hk
          exact .inr ⟨hk', a, val, ha, h2 (by rw [hk']; intro e; cases e), hval⟩
      · show s.heap.get? L = Option.none
        cases e : s.heap.get? L with
        | none => rfl
        | some o' => exact absurd (Heap.lt_size e) (by rw [hL]; exact Nat.lt_irrefl _)
      · intro n a e
        have := x.above n a (mem_of_lookup e)
        have hlt : L < a := this
        show s.heap.get? a = Option.none
        cases e' : s.heap.get? a with
        | none => rfl
        | some o' => exact absurd (Nat.lt_trans hlt (hL ▸ Heap.lt_size e')) (Nat.lt_irrefl _)
    refine wpAny_mono (h L _ s s₁ R₁) (fun fl s' ⟨g, σ', k, R', v, e, hP⟩ => ?_) fun _ _ x => x.elim
    subst e
    cases fl with
    | ret y =>
      refine ⟨v, σ'.hp, k, ?_, hP, fun a k e => ?_⟩
      · have kp : ∀ b o, s.heap.get? b = some o → s'.heap.get? b = some o := fun b o e => R'.keep b o e
        have Rg : Rel c b₀ s₀ σ s' := by
          obtain ⟨h', tk, e⟩ := R'.same
          subst e
          exact R.grow (tk := tk) kp
        refine { same := Rg.same, top := Rg.top, keep := Rg.keep, ro := Rg.ro, hp := ?_, frame := Rg.frame, own := Rg.own, cells := Rg.cells }
        intro a k e
        simp only [St.join] at e
        cases hh : σ.hp a with
        | some k' => rw [hh] at e; cases e; exact Rg.hp a _ hh
        | none =>
          rw [hh] at e
          obtain ⟨p, q⟩ := R'.hp a k e
          refine ⟨?_, q⟩
          cases hb : b₀ a with
          | none => rfl
          | some o' => have := R.keep a o' hb; rw [this] at p; cases p
      · cases hg : c.get σ a with
        | none => rfl
        | some k' =>
          obtain ⟨ws, n, hw, _⟩ := R.plain hg
          have := (R'.hp a k e).1
          rw [hw] at this; cases this
    | next => exact k.elim
    | brk => exact k.elim
    | cont => exact k.elim

theorem W_call (hc : c.Ok) (hA : Lv 1 c.A) (T : TopOk c.ht mg) (F : FnAt c.ht f fd body params) {x : Str} {e : Expr} {r : List Expr} {p pos : Pos} {Q : V → St → Prop} (hx : mg x = some (.ref f)) (hk : c.env.kindOf x = some .globalImplicit) (hs : noStar (e :: r) = true)
    (h : WL c (e :: r) (fun l σ₁ => l.length = params.length ∧ ∃ P : V → (Addr → Option (List V)) → Prop,
      (∀ L, Wss (callee c σ₁ fd L f) body (fun fl σ' => ∃ v, fl = .ret v ∧ P v σ'.hp) ⟨argLoc params l, fun _ => Option.none⟩) ∧ ∀ v hp, P v hp → (∀ a k, hp a = some k → c.get σ₁ a = Option.none) → Q v (σ₁.join hp)) σ)
    (hd : (x == ("__debug__" : Str)) = false := by decide) : W c (.Call (.Name x p) (e :: r) [] pos) Q σ := fun b₀ s₀ s R => by
  refine Call_Name rfl (evalGl hc T R hx hk ?_ hd)
  obtain ⟨o, ho, hdat⟩ := F.obj
  refine callWith_def (o := o) hdat (wpAny_mono (WL.run hs h R) (fun vs s₁ ⟨l, σ₁, k, R₁, hl, P, hb, hq⟩ => ?_) fun _ _ x => x.elim) (starEach_of hs)
  refine ⟨R₁.topKeep f o ho, wpAny_mono (call_fn hA T F hl hb R₁ k) (fun y s' ⟨v, hp, hv, R', hP, hg⟩ => ⟨v, _, hv, R', hq v hp hP hg⟩) fun _ _ x => x⟩
end

/- what stood stands -/
theorem join_hp {σ : St} {hp : Addr → Option (List V)} {a : Addr} {l : List V} (e : σ.hp a = some l) : (σ.join hp).hp a = some l := by
  show (match σ.hp a with | some l => some l | Option.none => hp a) = some l
  rw [e]
theorem join_hp_none {σ : St} {hp : Addr → Option (List V)} {a : Addr} (e : σ.hp a = Option.none) : (σ.join hp).hp a = hp a := by
  show (match σ.hp a with | some l => some l | Option.none => hp a) = hp a
  rw [e]
theorem get_hp {c : Cx} {σ : St} {a : Addr} {l : List V} (e : σ.hp a = some l) : c.get σ a = some l := by
  unfold Cx.get; rw [e]
theorem get_ro {c : Cx} {σ : St} {a : Addr} (e : σ.hp a = Option.none) : c.get σ a = c.ro a := by
  unfold Cx.get; rw [e]
theorem hp_of_get_none {c : Cx} {σ : St} {a : Addr} (e : c.get σ a = Option.none) : σ.hp a = Option.none ∧ c.ro a = Option.none := by
  cases h : σ.hp a with
  | some k => rw [get_hp h] at e; cases e
  | none => rw [get_ro h] at e; exact ⟨rfl, e⟩
theorem join_get {c : Cx} {σ : St} {hp : Addr → Option (List V)} (h : ∀ a k, hp a = some k → c.get σ a = Option.none) {a : Addr} {l : List V} (e : c.get σ a = some l) : c.get (σ.join hp) a = some l := by
  cases hh : σ.hp a with
  | some k => rw [get_hp hh] at e; cases e; exact get_hp (join_hp hh)
  | none =>
    have hq : hp a = Option.none := by
      cases hq : hp a with
      | none => rfl
      | some k => rw [h a k hq] at e; cases e
    rw [get_ro (by rw [join_hp_none hh]; exact hq)]
    rw [get_ro hh] at e; exact e
theorem join_new {c : Cx} {σ : St} {hp : Addr → Option (List V)} (h : ∀ a k, hp a = some k → c.get σ a = Option.none) {a : Addr} {l : List V} (e : hp a = some l) : (σ.join hp).hp a = some l := by
  rw [join_hp_none (hp_of_get_none (h a l e)).1]; exact e
theorem put_same {σ : St} {a : Addr} {l : List V} : (σ.put a l).hp a = some l := by simp [St.put]
theorem put_other {σ : St} {a b : Addr} {l : List V} (h : b ≠ a) : (σ.put a l).hp b = σ.hp b := by simp [St.put, h]
theorem get_put_same {c : Cx} {σ : St} {a : Addr} {l : List V} : c.get (σ.put a l) a = some l := get_hp put_same
theorem get_put_other {c : Cx} {σ : St} {a b : Addr} {l : List V} (h : b ≠ a) : c.get (σ.put a l) b = c.get σ b := by
  unfold Cx.get; rw [put_other h]
theorem get_put_new {c : Cx} {σ : St} {a b : Addr} {l k : List V} (h : c.get σ a = Option.none) (e : c.get σ b = some k) : c.get (σ.put a l) b = some k := by
  rw [get_put_other]; exact e
  rintro rfl; rw [h] at e; cases e
theorem put_new_hp {c : Cx} {σ : St} {a b : Addr} {l k : List V} (h : c.get σ a = Option.none) (e : σ.hp b = some k) : (σ.put a l).hp b = some k := by
  rw [put_other]; exact e
  rintro rfl; rw [get_hp e] at h; cases h
end Mine

namespace Mine
/-- k is a proper border of the first n of p -/
def Bd (p : Nat → Int) (n k : Nat) : Prop := k < n ∧ ∀ j, j < k → p j = p (n - k + j)
def MaxB (p : Nat → Int) (n k : Nat) : Prop := Bd p n k ∧ ∀ k', Bd p n k' → k' ≤ k

theorem Bd.zero {p : Nat → Int} {n : Nat} (h : 0 < n) : Bd p n 0 := ⟨h, fun j hj => absurd hj (Nat.not_lt_zero _)⟩
theorem Bd.succ {p : Nat → Int} {n k : Nat} : Bd p (n + 1) (k + 1) ↔ Bd p n k ∧ p k = p n := by
  constructor
  · rintro ⟨h1, h2⟩
    refine ⟨⟨by omega, fun j hj => ?_⟩, ?_⟩
    · have := h2 j (by omega)
      rw [this]; congr 1; omega
    · have := h2 k (by omega)
      rw [this]; congr 1; omega
  · rintro ⟨⟨h1, h2⟩, h3⟩
    refine ⟨by omega, fun j hj => ?_⟩
    by_cases hk : j = k
    · subst hk; rw [h3]; congr 1; omega
    · have := h2 j (by omega)
      rw [this]; congr 1; omega
theorem Bd.trans {p : Nat → Int} {n k k' : Nat} (h : Bd p n k) (h' : Bd p k k') : Bd p n k' :=
  ⟨Nat.lt_trans h'.1 h.1, fun j hj => by
    have a := h'.2 j hj
    have b := h.2 (k - k' + j) (by have := h'.1; omega)
    rw [a, b]
    congr 1
    have := h'.1; have := h.1; omega⟩
theorem Bd.below {p : Nat → Int} {n k k' : Nat} (h : Bd p n k) (h' : Bd p n k') (hlt : k' < k) : Bd p k k' :=
  ⟨hlt, fun j hj => by
    have a := h'.2 j hj
    have b := h.2 (k - k' + j) (by omega)
    rw [a, b]
    congr 1
    have := h.1; omega⟩
theorem MaxB.unique {p : Nat → Int} {n k k' : Nat} (h : MaxB p n k) (h' : MaxB p n k') : k = k' := Nat.le_antisymm (h'.2 k h.1) (h.2 k' h'.1)

theorem exists_max {P : Nat → Prop} (n : Nat) (h0 : ∃ k, P k) (hb : ∀ k, P k → k ≤ n) : ∃ k, P k ∧ ∀ k', P k' → k' ≤ k := by
  induction n with
  | zero =>
    obtain ⟨k, hk⟩ := h0
    exact ⟨k, hk, fun k' h' => by have := hb k' h'; omega⟩
  | succ n ih =>
    by_cases h : P (n + 1)
    · exact ⟨n + 1, h, hb⟩
    · exact ih fun k hk => by
        have := hb k hk
        have : k ≠ n + 1 := fun e => h (e ▸ hk)
        omega
theorem exists_maxB (p : Nat → Int) {n : Nat} (h : 0 < n) : ∃ k, MaxB p n k :=
  exists_max n ⟨0, Bd.zero h⟩ fun _ hk => Nat.le_of_lt hk.1

/-- the greatest border, as a function -/
noncomputable def bord (p : Nat → Int) (n : Nat) : Nat := open Classical in if h : ∃ k, MaxB p n k then h.choose else 0
theorem bord_spec (p : Nat → Int) {n : Nat} (h : 0 < n) : MaxB p n (bord p n) := by
  unfold bord; rw [dif_pos (exists_maxB p h)]; exact (exists_maxB p h).choose_spec
theorem bord_eq {p : Nat → Int} {n k : Nat} (h : MaxB p n k) : bord p n = k :=
  MaxB.unique (bord_spec p (Nat.lt_of_le_of_lt (Nat.zero_le _) h.1.1)) h
theorem bord_lt (p : Nat → Int) {n : Nat} (h : 0 < n) : bord p n < n := (bord_spec p h).1.1
theorem bord_one (p : Nat → Int) : bord p 1 = 0 := by have := bord_lt p (n := 1) (by omega); omega

/-- what the inner loop of the table's maker knows of idx -/
def Cand (p : Nat → Int) (i k : Nat) : Prop := Bd p i k ∧ ∀ k', Bd p i k' → p k' = p i → k' ≤ k
theorem Cand.start (p : Nat → Int) {i : Nat} (h : 0 < i) : Cand p i (bord p i) := ⟨(bord_spec p h).1, fun k' hk _ => (bord_spec p h).2 k' hk⟩
theorem Cand.hit {p : Nat → Int} {i k : Nat} (h : Cand p i k) (e : p i = p k) : bord p (i + 1) = k + 1 :=
  bord_eq ⟨Bd.succ.mpr ⟨h.1, e.symm⟩, fun k' hk' => by
    cases k' with
    | zero => omega
    | succ k' =>
      obtain ⟨a, b⟩ := Bd.succ.mp hk'
      have := h.2 k' a b
      omega⟩
theorem Cand.none {p : Nat → Int} {i : Nat} (h : Cand p i 0) (e : p i ≠ p 0) : bord p (i + 1) = 0 :=
  bord_eq ⟨Bd.zero (by omega), fun k' hk' => by
    cases k' with
    | zero => omega
    | succ k' =>
      obtain ⟨a, b⟩ := Bd.succ.mp hk'
      have := h.2 k' a b
      have hk0 : k' = 0 := by omega
      subst hk0
      exact absurd b.symm e⟩
theorem Cand.next {p : Nat → Int} {i k : Nat} (h : Cand p i k) (hk : 0 < k) (e : p i ≠ p k) : Cand p i (bord p k) :=
  ⟨h.1.trans (bord_spec p hk).1, fun k' hb hm => by
    have hle := h.2 k' hb hm
    have hne : k' ≠ k := fun q => e (by rw [← q]; exact hm.symm)
    exact (bord_spec p hk).2 k' (h.1.below hb (by omega))⟩

noncomputable def tableOf (ps : List Int) : List Int := (List.range ps.length).map fun j => ((bord (fun i => ps.getD i 0) (j + 1) : Nat) : Int)
theorem tableOf_length (ps : List Int) : (tableOf ps).length = ps.length := by simp [tableOf]
theorem tableOf_get {ps : List Int} {j : Nat} (h : j < ps.length) : (tableOf ps)[j]? = some ((bord (fun i => ps.getD i 0) (j + 1) : Nat) : Int) := by
  simp [tableOf, h]
end Mine

namespace Mine
open PySem PyProof.Rows

def bodyOf (p : Program) (i : Nat) : List Stmt := match p.main.body[i]? with | some (.FunctionDef _ _ b _ _ _ _ _ _ _) => b | _ => []
def scopeOf (p : Program) (i : Nat) : Scope := match p.main.body[i]? with | some (.FunctionDef _ _ _ _ _ _ s _ _ _) => s | _ => { kind := .function, names := [], isGenerator := false, isCoroutine := false }
def parOf (p : Program) (i : Nat) : Arguments := match p.main.body[i]? with | some (.FunctionDef _ a _ _ _ _ _ _ _ _) => a | _ => ⟨[], [], Option.none, [], [], Option.none, []⟩
def nmOf (p : Program) (i : Nat) : Str := match p.main.body[i]? with | some (.FunctionDef n _ _ _ _ _ _ _ _ _) => n | _ => ""
def fdOf (p : Program) (i : Nat) (pm cd doc : Value) : FuncData := Calls.docDef (nmOf p i) (parOf p i) (bodyOf p i) (scopeOf p i) pm cd doc

theorem callee_ok {c : Cx} {σ : St} {fd : FuncData} {L f : Addr} (hA : Lv 1 c.A) (h1 : fd.scope.kind = .function) (h2 : fd.globals = mainGlobals) (h3 : fd.builtins = builtinsNs) : (callee c σ fd L f).Ok :=
  ⟨h1, h2, h3, hA.1, by show c.A.units + 3 + 64 < cLine; have := hA.2.2; omega⟩

theorem loc_same {σ : St} {x : Str} {v : V} : (σ.set x v).loc x = some v := by simp [St.set]
theorem loc_other {σ : St} {x y : Str} {v w : V} (h : y ≠ x) (e : σ.loc y = some w) : (σ.set x v).loc y = some w := by simp [St.set, h, e]
theorem loc_put {σ : St} {y : Str} {a : Addr} {l : List V} {w : V} (e : σ.loc y = some w) : (σ.put a l).loc y = some w := e
theorem loc_join {σ : St} {y : Str} {hp : Addr → Option (List V)} {w : V} (e : σ.loc y = some w) : (σ.join hp).loc y = some w := e
theorem get_set {c : Cx} {σ : St} {x : Str} {v : V} : c.get (σ.set x v) = c.get σ := rfl
theorem hp_set {σ : St} {x : Str} {v : V} : (σ.set x v).hp = σ.hp := rfl
theorem innerLoc_of {c : Cx} {σ : St} {scope : Scope} {x : Str} {v : V} (h1 : ((relabel scope c.env).names.lookup x == some .cell && ((clOf c.env.cells scope.names []).lookup x).isSome) = true) (h2 : σ.loc x = some v) :
    innerLoc c σ scope x = some v := by
  unfold innerLoc; rw [if_pos h1]; exact h2
theorem repL_zero (n : Nat) : repL [V.int 0] n = (List.replicate n (0 : Int)).map V.int := by
  unfold repL
  induction n with
  | zero => rfl
  | succ n ih => rw [List.replicate_succ, List.flatten_cons, ih]; rfl
theorem repL_one (n : Nat) : repL [V.int 1] n = (List.replicate n (1 : Int)).map V.int := by
  unfold repL
  induction n with
  | zero => rfl
  | succ n ih => rw [List.replicate_succ, List.flatten_cons, ih]; rfl
theorem neg62 (k : Nat) : -(2 ^ 62) ≤ (k : Int) := by omega
theorem getI {ns : List Int} {k : Nat} {v : Int} (h : ns[k]? = some v) : (ns.map V.int)[((k : Nat) : Int).toNat]? = some (V.int v) := by
  simp [h]
theorem getIz {ns : List Int} {z : Int} {k : Nat} {v : Int} (e : z = (k : Int)) (h : ns[k]? = some v) : (ns.map V.int)[z.toNat]? = some (V.int v) := by
  subst e; exact getI h

/-- some numbers of a row of numbers -/
theorem pick_ints (ns : List Int) (lo hi st : Option Int) : ∃ ms : List Int, pick (ns.map V.int) lo hi st = ms.map V.int := by
  unfold pick
  generalize sliceRange _ _ _ = js
  refine ⟨js.filterMap (ns[·]?), ?_⟩
  induction js with
  | nil => rfl
  | cons j js ih =>
    rw [List.filterMap_cons, List.filterMap_cons, List.getElem?_map]
    cases h : ns[j]? with
    | none => exact ih
    | some n => simp only [Option.map_some, List.map_cons]; rw [ih]

theorem WP_none {c : Cx} {Q : Option Int → St → Prop} {σ : St} (h : Q Option.none σ) : WP c Option.none Q σ := h
theorem WP_some {c : Cx} {e : Expr} {Q : Option Int → St → Prop} {σ : St} (h : W c e (fun v σ₁ => ∃ i, v = .int i ∧ Q (some i) σ₁) σ) : WP c (some e) Q σ := h
theorem WL_nil {c : Cx} {Q : List V → St → Prop} {σ : St} (h : Q [] σ) : WL c [] Q σ := h
theorem WL_cons {c : Cx} {e : Expr} {r : List Expr} {Q : List V → St → Prop} {σ : St} (h : W c e (fun v σ₁ => WL c r (fun vs σ₂ => Q (v :: vs) σ₂) σ₁) σ) : WL c (e :: r) Q σ := h

theorem join_none {c : Cx} {σ : St} {hp : Addr → Option (List V)} {a : Addr} (h : c.get σ a = Option.none) (h' : hp a = Option.none) : c.get (σ.join hp) a = Option.none := by
  obtain ⟨h1, h2⟩ := hp_of_get_none h
  rw [get_ro (by rw [join_hp_none h1]; exact h')]; exact h2
theorem WIfs_nil {c : Cx} {Q : Bool → St → Prop} {σ : St} (h : Q true σ) : WIfs c [] Q σ := h
theorem WIfs_one {c : Cx} {t : Expr} {Q : Bool → St → Prop} {σ : St} (h : Wb c t Q σ) : WIfs c [t] Q σ := h

/-- all but M stands as it stood -/
def Kp (c : Cx) (M : List Addr) (σ σ' : St) : Prop := (∀ b l, b ∉ M → c.get σ b = some l → c.get σ' b = some l) ∧ ∀ b l, b ∉ M → σ.hp b = some l → σ'.hp b = some l
section
variable {c : Cx} {M M' : List Addr} {σ σ' σ'' : St}
theorem Kp.refl : Kp c M σ σ := ⟨fun _ _ _ e => e, fun _ _ _ e => e⟩
theorem Kp.set (h : Kp c M σ σ') {x : Str} {v : V} : Kp c M σ (σ'.set x v) := h
theorem Kp.alloc (h : Kp c M σ σ') {d : Addr} {l : List V} (hd : c.get σ' d = Option.none) : Kp c M σ (σ'.put d l) :=
  ⟨fun b k hb e => get_put_new hd (h.1 b k hb e), fun b k hb e => put_new_hp hd (h.2 b k hb e)⟩
theorem Kp.turn (h : Kp c M σ σ') {d : Addr} {l : List V} (hd : d ∈ M) : Kp c M σ (σ'.put d l) :=
  ⟨fun b k hb e => (get_put_other (by rintro rfl; exact hb hd)).trans (h.1 b k hb e), fun b k hb e => (put_other (by rintro rfl; exact hb hd)).trans (h.2 b k hb e)⟩
theorem Kp.join (h : Kp c M σ σ') {hp : Addr → Option (List V)} (hq : ∀ a k, hp a = some k → c.get σ' a = Option.none) : Kp c M σ (σ'.join hp) :=
  ⟨fun b k hb e => join_get hq (h.1 b k hb e), fun b k hb e => join_hp (h.2 b k hb e)⟩
theorem Kp.under (h : Kp c M σ σ') (h' : Kp c M' σ' σ'') (hm : ∀ e ∈ M', e ∈ M ∨ c.get σ e = Option.none) : Kp c M σ σ'' :=
  ⟨fun b k hb e => h'.1 b k (fun q => (hm b q).elim hb fun z => by rw [z] at e; cases e) (h.1 b k hb e),
   fun b k hb e => h'.2 b k (fun q => (hm b q).elim hb fun z => by rw [get_hp e] at z; cases z) (h.2 b k hb e)⟩
end

/-- a list of lists of ints -/
def LL (G : Addr → Option (List V)) (d : Addr) (ls : List (List Int)) : Prop := ∃ as : List Addr, G d = some (as.map .ref) ∧ as.length = ls.length ∧ ∀ (j : Nat) (a : Addr) (l : List Int), as[j]? = some a → ls[j]? = some l → G a = some (l.map .int)
theorem LL.mono {G G' : Addr → Option (List V)} {d : Addr} {ls : List (List Int)} (h : LL G d ls) (hg : ∀ a l, G a = some l → G' a = some l) : LL G' d ls := by
  obtain ⟨as, h1, h2, h3⟩ := h
  exact ⟨as, hg _ _ h1, h2, fun j a l e1 e2 => hg _ _ (h3 j a l e1 e2)⟩
theorem Kp.back {c : Cx} {σ σ' : St} (h : Kp c [] σ σ') {a : Addr} (e : c.get σ' a = Option.none) : c.get σ a = Option.none := by
  cases q : c.get σ a with
  | none => rfl
  | some l => rw [h.1 a l (by simp) q] at e; cases e
theorem LL.kp {c : Cx} {M : List Addr} {σ σ' : St} {d : Addr} {ls : List (List Int)} (h : LL (c.get σ) d ls) (k : Kp c M σ σ') (hm : ∀ e ∈ M, c.get σ e = Option.none) : LL (c.get σ') d ls :=
  h.mono fun a l e => k.1 a l (fun q => by rw [hm a q] at e; cases e) e
theorem LL.row {G : Addr → Option (List V)} {d : Addr} {ls : List (List Int)} (h : LL G d ls) {j : Nat} {l : List Int} (hj : ls[j]? = some l) : ∃ (vs : List V) (a : Addr), G d = some vs ∧ vs.length = ls.length ∧ vs[j]? = some (.ref a) ∧ G a = some (l.map .int) := by
  obtain ⟨as, h1, h2, h3⟩ := h
  have hlt : j < as.length := by rw [h2]; exact (List.getElem?_eq_some_iff.mp hj).1
  exact ⟨_, as[j], h1, by simp [h2], by simp [hlt], h3 j _ l (by simp [hlt]) hj⟩
theorem LL.has {G : Addr → Option (List V)} {d : Addr} {ls : List (List Int)} (h : LL G d ls) : Has G (.ref d) (.list (ls.map fun l => .list (l.map .int))) := by
  obtain ⟨as, h1, h2, h3⟩ := h
  refine .list h1 ?_
  clear h1
  induction as generalizing ls with
  | nil =>
    have : ls = [] := by cases ls with | nil => rfl | cons _ _ => simp at h2
    subst this; exact .nil
  | cons a as ih =>
    cases ls with
    | nil => simp at h2
    | cons l ls => exact .cons (Has.ints (h3 0 a l rfl rfl)) (ih (by simpa using h2) fun j a' l' e1 e2 => h3 (j + 1) a' l' (by simpa using e1) (by simpa using e2))
end Mine

namespace Mine
open PySem PyProof.Rows

section
variable {c : Cx} {σ : St} {mg : Str → Option Value} {Q : V → St → Prop}
end

theorem getD_some {m : List Int} {k : Nat} (h : k < m.length) : m[k]? = some (m.getD k 0) := by
  rw [List.getD_eq_getElem?_getD, List.getElem?_eq_getElem h]; rfl

/-- equal data of lists of ints, of lists of such -/
theorem eqv_ints (l : List Int) : PyData.eqv (.list (l.map .int)) (.list (l.map .int)) = true := by
  rw [PyData.eqv, PySem.W.ked_eqvAll]; simp
theorem eqv_LL (ls : List (List Int)) : PyData.eqv (.list (ls.map fun l => .list (l.map .int))) (.list (ls.map fun l => .list (l.map .int))) = true := by
  rw [PyData.eqv]
  induction ls with
  | nil => rfl
  | cons l ls ih => rw [List.map_cons, PyData.eqvAll, ih, eqv_ints]; rfl
theorem canLay_LL (ls : List (List Int)) : PyData.canLayAll0 (ls.map fun l => PyData.list (l.map .int)) = true ∧ PyData.depthAll (ls.map fun l => PyData.list (l.map .int)) ≤ 1 := by
  induction ls with
  | nil => exact ⟨rfl, by simp [PyData.depthAll]⟩
  | cons l ls ih => simp [PyData.canLayAll0, PyData.canLay0, PyData.depthAll, PyData.depth, PySem.W.ke_canLayAll0, PySem.W.ke_depthAll, ih]
end Mine

namespace Mine
open PySem PyProof.Rows
section
variable {c : Cx} {σ : St}
theorem WIt_mono {iter : Expr} {Q Q' : Src → St → Prop} (h : WIt c iter Q σ) (hq : ∀ s σ', Q s σ' → Q' s σ') : WIt c iter Q' σ := fun b₀ s₀ s R =>
  wpAny_mono (h b₀ s₀ s R) (fun _ _ h₁ => wpAny_mono h₁ (fun _ _ ⟨src, I, σ₂, e, hI, hb, R₂, q⟩ => ⟨src, I, σ₂, e, hI, hb, R₂, hq _ _ q⟩) fun _ _ x => x) fun _ _ x => x
/-- a loop whose body ends as any reader asks -/
theorem Ws_forP (hc : c.Ok) {x : Str} {px pos : Pos} {iter : Expr} {body : List Stmt} {Q : Fl → St → Prop} (ht : Tgt c x)
    (h : WIt c iter (fun src σ₁ => ∃ (Inv : Nat → St → Prop) (N : Nat), Inv 0 σ₁ ∧ ∀ i σ', Inv i σ' → i ≤ N ∧ src.ok (c.get σ') ∧
      (∀ v, src.item (c.get σ') i = some v → ∀ P : Fl → St → Prop, (∀ σ'', Inv (i + 1) σ'' → P .next σ'') → Wss c body P (σ'.set x v)) ∧
      (src.item (c.get σ') i = Option.none → Q .next σ')) σ)
    (hs : ∀ x, foldedSetIterable iter c.env x = pure x := by intro _; rfl) : Ws c (.For (.Name x px) iter body [] pos) Q σ :=
  Ws_for hc ht (WIt_mono h fun _ _ ⟨Inv, N, h0, hst⟩ => ⟨Inv, N, h0, fun i σ' hI =>
    have ⟨a, b, d, e⟩ := hst i σ' hI
    ⟨a, b, fun v hv => d v hv _ fun _ h => h, e⟩⟩) hs
theorem abs_post {b : List Stmt} {P : Fl → St → Prop} (h : ∀ Q : Fl → St → Prop, (∀ f σ', P f σ' → Q f σ') → Wss c b Q σ) : Wss c b P σ := h P fun _ _ x => x
end
end Mine

namespace Mine
open PySem PyProof.Rows

-- a name's value is found
local macro_rules | `(tactic| walk_at "m_loc") => `(tactic| first | with_reducible exact loc_same | with_reducible assumption | (with_reducible apply loc_put; walk_at "m_loc") | (with_reducible apply loc_join; walk_at "m_loc") | (apply loc_other (by decide); walk_at "m_loc") | (apply innerLoc_of (by subst_vars; rfl); walk_at "m_loc"))
local macro_rules | `(tactic| walk_at "m_ok") => `(tactic| first | with_reducible assumption | exact Cx.Ok.inner (by assumption) rfl)
local macro_rules | `(tactic| walk_at "m_kind") => `(tactic| first | with_reducible assumption | (subst_vars; rfl))
local macro_rules | `(tactic| walk_at "m_shape") => `(tactic| exact ⟨rfl, by subst_vars; rfl, rfl, rfl, rfl⟩)
local macro_rules | `(tactic| walk_at "m_tgt") => `(tactic| first | with_reducible assumption | exact .inl (by assumption) | exact .inr (by assumption))
-- one step
local macro_rules | `(tactic| walk_at "m") => `(tactic| first
  | with_reducible refine WL_cons ?_
  | with_reducible refine WL_nil ?_
  | with_reducible refine WIfs_nil ?_
  | with_reducible refine WIfs_one ?_
  | with_reducible refine WP_none ?_
  | with_reducible refine WP_some ?_
  | with_reducible refine Wss_cons ?_
  | ((with_reducible show W _ (Expr.Name _ _) _ _); refine W_name (by walk_at "m_ok") (by walk_at "m_loc") ?_)
  | with_reducible refine W_int ?_
  | with_reducible refine W_bool ?_
  | with_reducible refine W_BinOp ?_
  | with_reducible refine Op_add ?_
  | with_reducible refine Op_sub ?_
  | with_reducible refine Cm_eq ?_
  | with_reducible refine Cm_ne ?_
  | with_reducible refine Cm_lt ?_
  | with_reducible refine Cm_ge ?_
  | with_reducible refine Cm_le ?_
  | ((with_reducible show Ws _ (Stmt.Assign [Expr.Name _ _] _ _) _ _); refine Ws_assign (by walk_at "m_ok") (by walk_at "m_tgt") ?_)
  | ((with_reducible show Ws _ (Stmt.Assign [Expr.Subscript _ _ _] _ _) _ _); refine Ws_assignAt ?_)
  | with_reducible refine Ws_return ?_
  | with_reducible refine Ws_break ?_
  | with_reducible refine Ws_if ?_
  | ((with_reducible show Ws _ (Stmt.Expr _ _) _ _); refine Ws_append (by walk_at "m_ok") ?_)
  | ((with_reducible show Wb _ (Expr.Compare _ _ _ _) _ _); refine Wb_Compare ?_)
  | ((with_reducible show Wb _ (Expr.BoolOp BoolOp.Or _ _) _ _); refine Wb_or ?_)
  | ((with_reducible show Wb _ (Expr.BoolOp BoolOp.And _ _) _ _); refine Wb_and ?_)
  | ((with_reducible show W _ (Expr.IfExp _ _ _ _) _ _); refine W_IfExp ?_)
  | ((with_reducible show W _ (Expr.List _ _) _ _); refine W_List rfl (by decide) ?_)
  | ((with_reducible show W _ (Expr.Call (Expr.Name (Str.ofString "len") _) _ _ _) _ _); refine W_callB (x := "len") (id := "len") (by walk_at "m_ok") (by assumption) ?_ (by simp [biTable]) (by walk_at "m_kind") rfl)
  | ((with_reducible show W _ (Expr.Call (Expr.Name (Str.ofString "max") _) _ _ _) _ _); refine W_callB (x := "max") (id := "max") (by walk_at "m_ok") (by assumption) ?_ (by simp [biTable]) (by walk_at "m_kind") rfl)
  | ((with_reducible show W _ (Expr.Call (Expr.Name (Str.ofString "min") _) _ _ _) _ _); refine W_callB (x := "min") (id := "min") (by walk_at "m_ok") (by assumption) ?_ (by simp [biTable]) (by walk_at "m_kind") rfl)
  | ((with_reducible show W _ (Expr.Call (Expr.Name (Str.ofString "sum") _) _ _ _) _ _); refine W_callB (x := "sum") (id := "sum") (by walk_at "m_ok") (by assumption) ?_ (by simp [biTable]) (by walk_at "m_kind") rfl)
  | ((with_reducible show W _ (Expr.Subscript _ (Expr.Slice _ _ none _) _) _ _); refine W_slice ?_ (fun o i => [i, o]))
  | ((with_reducible show W _ (Expr.Subscript _ (Expr.Slice _ _ _ _) _) _ _); refine W_slice ?_ (fun o i => [o, i]))
  | ((with_reducible show W _ (Expr.Subscript _ _ _) _ _); refine W_item ?_)
  | ((with_reducible show Wss _ [] _ _); refine Wss_nil ?_))
local macro_rules | `(tactic| walk_at "ms") => `(tactic| (walk_at "m"; repeat walk_at "m"))

set_option maxHeartbeats 8000000 in
theorem ovl_run {c₀ : Cx} {mg : Str → Option Value} (hA : Lv 1 c₀.A) (T : TopOk c₀.ht mg) {σ₁ : St} {pm cd doc : Value} {L f : Addr} {a : Addr} {ps : List Int} (ha : c₀.get σ₁ a = some (ps.map .int)) (hz : ps.length ≤ 1000) :
    Wss (callee c₀ σ₁ (fdOf PySem.Challenge.pw_oc0404_02 1 pm cd doc) L f) (bodyOf PySem.Challenge.pw_oc0404_02 1) (fun fl σ' => ∃ v, fl = .ret v ∧ ∃ d, v = .ref d ∧ σ'.hp d = some ((tableOf ps).map .int)) ⟨argLoc ["prefix"] [.ref a], fun _ => Option.none⟩ := by
  obtain ⟨c, hcd⟩ : ∃ c, c = callee c₀ σ₁ (fdOf PySem.Challenge.pw_oc0404_02 1 pm cd doc) L f := ⟨_, rfl⟩
  rw [← hcd]
  have hc : c.Ok := by rw [hcd]; exact callee_ok hA rfl rfl rfl
  have T' : TopOk c.ht mg := by rw [hcd]; exact T
  have t1 : Tgt c "i" := by rw [hcd]; exact .inl rfl
  have t2 : Tgt c "table" := by rw [hcd]; exact .inl rfl
  have t3 : Tgt c "idx" := by rw [hcd]; exact .inl rfl
  have k4 : c.env.kindOf "len" = some .globalImplicit := by rw [hcd]; rfl
  have k5 : c.env.kindOf "range" = some .globalImplicit := by rw [hcd]; rfl
  dsimp only [bodyOf, PySem.Challenge.pw_oc0404_02, List.getElem?_cons_succ, List.getElem?_cons_zero]
  have hpre : (⟨argLoc ["prefix"] [.ref a], fun _ => Option.none⟩ : St).loc "prefix" = some (.ref a) := rfl
  have hga : c.get ⟨argLoc ["prefix"] [.ref a], fun _ => Option.none⟩ a = some (ps.map .int) := by rw [get_ro rfl, hcd]; exact ha
  generalize (⟨argLoc ["prefix"] [.ref a], fun _ => Option.none⟩ : St) = σ at *
  have hsl : sizeLine = 2 ^ 24 := rfl
  -- table = [0] * len(prefix)
  walk_at "ms"
  intro _ d₀ hd₀
  walk_at "ms"
  refine Cb_len (get_put_new hd₀ hga) (by simp; omega) ?_
  refine Op_mulL put_same (by simp; omega) (by omega) (by simp; omega) ?_
  intro d hd
  have hga' := get_put_new (l := repL [V.int 0] ((ps.map V.int).length : Int).toNat) hd (get_put_new (l := [V.int 0]) hd₀ hga)
  have hda : a ≠ d := by rintro rfl; rw [get_put_new hd₀ hga] at hd; cases hd
  have htab : ((σ.put d₀ [V.int 0]).put d (repL [V.int 0] ((ps.map V.int).length : Int).toNat)).hp d = some ((List.replicate ps.length (0 : Int)).map .int) := by
    rw [put_same, repL_zero]; simp
  have hpre' := loc_put (a := d) (l := repL [V.int 0] ((ps.map V.int).length : Int).toNat) (loc_put (a := d₀) (l := [V.int 0]) hpre)
  generalize (σ.put d₀ [V.int 0]).put d (repL [V.int 0] ((ps.map V.int).length : Int).toNat) = σ₂ at *
  -- for i in range(1, len(prefix))
  let p : Nat → Int := fun j => ps.getD j 0
  walk_at "m"
  refine Ws_for hc t1 (WIt_range2 hc T' ?_ k5)
  walk_at "ms"
  refine Cb_len (by exact hga') (by simp; omega) ?_
  refine ⟨1, _, rfl, rfl, by omega, by omega, by omega, by simp; omega, ?_⟩
  refine ⟨fun i σ' => i ≤ ps.length - 1 ∧ σ'.loc "prefix" = some (.ref a) ∧ σ'.loc "table" = some (.ref d) ∧ c.get σ' a = some (ps.map .int) ∧
    ∃ tbl : List Int, σ'.hp d = some (tbl.map .int) ∧ tbl.length = ps.length ∧ ∀ j, j < i + 1 → j < ps.length → tbl[j]? = some ((bord p (j + 1) : Nat) : Int), ps.length, ⟨by omega, by walk_at "m_loc", by walk_at "m_loc", hga', _, htab, by simp, ?_⟩, ?_⟩
  · intro j hj hj'
    have : j = 0 := by omega
    subst this
    rw [bord_one, List.getElem?_replicate, if_pos hj']; rfl
  rintro i σ' ⟨hi, l1, l2, gp, tbl, ht, hlen, hval⟩
  refine ⟨by omega, trivial, ?_, ?_⟩
  · intro v hv
    simp only [Src.item] at hv
    split at hv
    · rename_i hlt
      cases hv
      have hlt' : i + 1 < ps.length := by simp at hlt; omega
      -- idx = table[i - 1]
      walk_at "ms"
      refine ⟨d, _, _, _, rfl, rfl, get_hp ht, by omega, by omega, getIz (k := i) (by omega) (hval i (by omega) (by omega)), ?_⟩
      walk_at "m"
      have hpi : ∀ j, j < ps.length → ps[j]? = some (p j) := fun j hj => by
        show ps[j]? = some (ps.getD j 0)
        rw [List.getD_eq_getElem?_getD, List.getElem?_eq_getElem hj]; rfl
      refine Ws_while (fun k σ'' => σ''.loc "prefix" = some (.ref a) ∧ σ''.loc "table" = some (.ref d) ∧ σ''.loc "i" = some (.int (1 + (i : Int))) ∧ c.get σ'' a = some (ps.map .int) ∧ σ''.hp d = some (tbl.map .int) ∧
        σ''.loc "idx" = some (.int ((k : Nat) : Int)) ∧ Cand p (i + 1) k) (bord p (i + 1)) ⟨by walk_at "m_loc", by walk_at "m_loc", by walk_at "m_loc", gp, ht, by walk_at "m_loc", Cand.start p (by omega)⟩ ?_
      rintro k σ'' ⟨m1, m2, m3, gp', mt, m4, hcand⟩
      have hki : k < i + 1 := hcand.1.1
      walk_at "ms"
      refine ⟨a, _, _, _, rfl, rfl, gp', by omega, by omega, getIz (k := i + 1) (by omega) (hpi (i + 1) hlt'), ?_⟩
      walk_at "ms"
      refine ⟨a, _, _, _, rfl, rfl, gp', by omega, by omega, getI (hpi k (by omega)), ?_⟩
      walk_at "ms"
      constructor
      · intro hne
        have hne' : p (i + 1) ≠ p k := by simpa using hne
        walk_at "ms"
        constructor
        · intro h0
          have hk0 : k = 0 := by have := of_decide_eq_true h0; omega
          subst hk0
          walk_at "ms"
          refine ⟨d, _, _, rfl, rfl, mt, by omega, by simp; omega, by simp; omega, ?_⟩
          walk_at "ms"
          refine ⟨by omega, by walk_at "m_loc", by walk_at "m_loc", by rw [get_put_other hda]; exact gp', tbl.set (i + 1) 0, ?_, by simp; exact hlen, ?_⟩
          · rw [put_same, List.map_set]
            have e : (1 + (i : Int)).toNat = i + 1 := by omega
            rw [e]
          · intro j hj hj'
            by_cases hji : j = i + 1
            · subst hji
              rw [hcand.none hne', List.getElem?_set_self (by omega)]; rfl
            · rw [List.getElem?_set_ne (by omega)]; exact hval j (by omega) hj'
        · intro h0
          have hk0 : 0 < k := by
            have := of_decide_eq_false h0
            omega
          walk_at "ms"
          have eb : bord p (k - 1 + 1) = bord p k := by congr 1; omega
          refine ⟨d, _, _, _, rfl, rfl, get_hp mt, by omega, by omega, getIz (k := k - 1) (by omega) (hval (k - 1) (by omega) (by omega)), ?_⟩
          walk_at "ms"
          rw [eb]
          exact ⟨bord p k, bord_lt p hk0, by walk_at "m_loc", by walk_at "m_loc", by walk_at "m_loc", gp', mt, by walk_at "m_loc", hcand.next hk0 hne'⟩
      · intro heq
        have heq' : p (i + 1) = p k := by simpa using heq
        walk_at "ms"
        refine ⟨d, _, _, rfl, rfl, mt, by omega, by simp; omega, by simp; omega, ?_⟩
        walk_at "ms"
        refine ⟨by omega, by walk_at "m_loc", by walk_at "m_loc", by rw [get_put_other hda]; exact gp', tbl.set (i + 1) ((k : Int) + 1), ?_, by simp; exact hlen, ?_⟩
        · rw [put_same, List.map_set]
          have e : (1 + (i : Int)).toNat = i + 1 := by omega
          rw [e]
        · intro j hj hj'
          by_cases hji : j = i + 1
          · subst hji
            rw [hcand.hit heq', List.getElem?_set_self (by omega)]; simp
          · rw [List.getElem?_set_ne (by omega)]; exact hval j (by omega) hj'
    · cases hv
  · intro hv
    simp only [Src.item] at hv
    split at hv
    · cases hv
    · rename_i hge
      walk_at "ms"
      refine ⟨_, rfl, d, rfl, ?_⟩
      rw [ht]
      have : tbl = tableOf ps := by
        apply List.ext_getElem?
        intro j
        by_cases hj : j < ps.length
        · rw [tableOf_get hj]; exact hval j (by simp at hge; omega) hj
        · rw [List.getElem?_eq_none (by omega), List.getElem?_eq_none (by rw [tableOf_length]; omega)]
      rw [this]
end Mine

namespace Mine
open PySem PyProof.Rows

noncomputable def chain (p : Nat → Int) (k : Nat) : List Nat := if h : k = 0 then [] else k :: chain p (bord p k)
termination_by k
decreasing_by exact bord_lt p (Nat.pos_of_ne_zero h)
theorem chain_zero (p : Nat → Int) : chain p 0 = [] := by rw [chain]; simp
theorem chain_pos (p : Nat → Int) {k : Nat} (h : k ≠ 0) : chain p k = k :: chain p (bord p k) := by rw [chain]; simp [h]
theorem chain_le (p : Nat → Int) (k : Nat) : ∀ x ∈ chain p k, 0 < x ∧ x ≤ k := by
  induction k using Nat.strongRecOn with
  | ind k ih =>
    intro x hx
    by_cases h : k = 0
    · subst h; rw [chain_zero] at hx; cases hx
    · rw [chain_pos p h] at hx
      have hlt := bord_lt p (Nat.pos_of_ne_zero h)
      rcases List.mem_cons.mp hx with rfl | hx
      · omega
      · have := ih _ hlt x hx; omega
/-- the laps' row -/
def lapRow (xs ys : List Int) (m : Int) : List Int := ys ++ [m] ++ xs
noncomputable def lapP (xs ys : List Int) (m : Int) : Nat → Int := fun i => (lapRow xs ys m).getD i 0
noncomputable def lapsN (xs ys : List Int) (m : Int) : List Nat := chain (lapP xs ys m) (bord (lapP xs ys m) (lapRow xs ys m).length)
def upN (l : List Nat) : List Int := l.map fun (b : Nat) => (b : Int)

-- a name's value is found
local macro_rules | `(tactic| walk_at "m_loc") => `(tactic| first | with_reducible exact loc_same | with_reducible assumption | (with_reducible apply loc_put; walk_at "m_loc") | (with_reducible apply loc_join; walk_at "m_loc") | (apply loc_other (by decide); walk_at "m_loc") | (apply innerLoc_of (by subst_vars; rfl); walk_at "m_loc"))
local macro_rules | `(tactic| walk_at "m_ok") => `(tactic| first | with_reducible assumption | exact Cx.Ok.inner (by assumption) rfl)
local macro_rules | `(tactic| walk_at "m_kind") => `(tactic| first | with_reducible assumption | (subst_vars; rfl))
local macro_rules | `(tactic| walk_at "m_shape") => `(tactic| exact ⟨rfl, by subst_vars; rfl, rfl, rfl, rfl⟩)
local macro_rules | `(tactic| walk_at "m_tgt") => `(tactic| first | with_reducible assumption | exact .inl (by assumption) | exact .inr (by assumption))
-- one step
local macro_rules | `(tactic| walk_at "m") => `(tactic| first
  | with_reducible refine WL_cons ?_
  | with_reducible refine WL_nil ?_
  | with_reducible refine WIfs_nil ?_
  | with_reducible refine WIfs_one ?_
  | with_reducible refine WP_none ?_
  | with_reducible refine WP_some ?_
  | with_reducible refine Wss_cons ?_
  | ((with_reducible show W _ (Expr.Name _ _) _ _); refine W_name (by walk_at "m_ok") (by walk_at "m_loc") ?_)
  | with_reducible refine W_int ?_
  | with_reducible refine W_bool ?_
  | with_reducible refine W_BinOp ?_
  | with_reducible refine Op_add ?_
  | with_reducible refine Op_sub ?_
  | with_reducible refine Cm_eq ?_
  | with_reducible refine Cm_ne ?_
  | with_reducible refine Cm_lt ?_
  | with_reducible refine Cm_ge ?_
  | with_reducible refine Cm_le ?_
  | ((with_reducible show Ws _ (Stmt.Assign [Expr.Name _ _] _ _) _ _); refine Ws_assign (by walk_at "m_ok") (by walk_at "m_tgt") ?_)
  | ((with_reducible show Ws _ (Stmt.Assign [Expr.Subscript _ _ _] _ _) _ _); refine Ws_assignAt ?_)
  | with_reducible refine Ws_return ?_
  | with_reducible refine Ws_break ?_
  | with_reducible refine Ws_if ?_
  | ((with_reducible show Ws _ (Stmt.Expr _ _) _ _); refine Ws_append (by walk_at "m_ok") ?_)
  | ((with_reducible show Wb _ (Expr.Compare _ _ _ _) _ _); refine Wb_Compare ?_)
  | ((with_reducible show Wb _ (Expr.BoolOp BoolOp.Or _ _) _ _); refine Wb_or ?_)
  | ((with_reducible show Wb _ (Expr.BoolOp BoolOp.And _ _) _ _); refine Wb_and ?_)
  | ((with_reducible show W _ (Expr.IfExp _ _ _ _) _ _); refine W_IfExp ?_)
  | ((with_reducible show W _ (Expr.List _ _) _ _); refine W_List rfl (by decide) ?_)
  | ((with_reducible show W _ (Expr.Call (Expr.Name (Str.ofString "len") _) _ _ _) _ _); refine W_callB (x := "len") (id := "len") (by walk_at "m_ok") (by assumption) ?_ (by simp [biTable]) (by walk_at "m_kind") rfl)
  | ((with_reducible show W _ (Expr.Call (Expr.Name (Str.ofString "max") _) _ _ _) _ _); refine W_callB (x := "max") (id := "max") (by walk_at "m_ok") (by assumption) ?_ (by simp [biTable]) (by walk_at "m_kind") rfl)
  | ((with_reducible show W _ (Expr.Call (Expr.Name (Str.ofString "min") _) _ _ _) _ _); refine W_callB (x := "min") (id := "min") (by walk_at "m_ok") (by assumption) ?_ (by simp [biTable]) (by walk_at "m_kind") rfl)
  | ((with_reducible show W _ (Expr.Call (Expr.Name (Str.ofString "sum") _) _ _ _) _ _); refine W_callB (x := "sum") (id := "sum") (by walk_at "m_ok") (by assumption) ?_ (by simp [biTable]) (by walk_at "m_kind") rfl)
  | ((with_reducible show W _ (Expr.Subscript _ (Expr.Slice _ _ none _) _) _ _); refine W_slice ?_ (fun o i => [i, o]))
  | ((with_reducible show W _ (Expr.Subscript _ (Expr.Slice _ _ _ _) _) _ _); refine W_slice ?_ (fun o i => [o, i]))
  | ((with_reducible show W _ (Expr.Subscript _ _ _) _ _); refine W_item ?_)
  | ((with_reducible show Wss _ [] _ _); refine Wss_nil ?_))
local macro_rules | `(tactic| walk_at "ms") => `(tactic| (walk_at "m"; repeat walk_at "m"))
-- small sums
local macro_rules | `(tactic| walk_at "o") => `(tactic| first | with_reducible exact Nat.zero_le _ | with_reducible exact Int.natCast_nonneg _ | with_reducible exact neg62 _ | with_reducible assumption | with_reducible exact Nat.lt_iff_add_one_le.mp (by with_reducible assumption) | omega)

set_option maxHeartbeats 8000000 in
theorem lap_run {c₀ : Cx} {mg : Str → Option Value} (hA : Lv 2 c₀.A) (T : TopOk c₀.ht mg) {σ₁ : St} {pm cd doc : Value} {L f : Addr}
    {f1 : Addr} {pm1 cd1 doc1 : Value} (n1 : mg "_generate_overlap_table" = some (.ref f1)) (F1 : FnAt c₀.ht f1 (fdOf PySem.Challenge.pw_oc0404_02 1 pm1 cd1 doc1) (bodyOf PySem.Challenge.pw_oc0404_02 1) ["prefix"])
    {xa ya : Addr} {xs ys : List Int} {m : Int} (hxa : c₀.get σ₁ xa = some (xs.map .int)) (hya : c₀.get σ₁ ya = some (ys.map .int)) (h1 : xs.length ≤ 100) (h2 : ys.length ≤ 100)
    (hb : bord (lapP xs ys m) (lapRow xs ys m).length ≤ ys.length) :
    Wss (callee c₀ σ₁ (fdOf PySem.Challenge.pw_oc0404_02 3 pm cd doc) L f) (bodyOf PySem.Challenge.pw_oc0404_02 3) (fun fl σ' => ∃ v, fl = .ret v ∧ ∃ d, v = .ref d ∧ σ'.hp d = some ((upN (lapsN xs ys m)).map .int))
      ⟨argLoc ["first", "second", "mark"] [.ref xa, .ref ya, .int m], fun _ => Option.none⟩ := by
  obtain ⟨c, hcd⟩ : ∃ c, c = callee c₀ σ₁ (fdOf PySem.Challenge.pw_oc0404_02 3 pm cd doc) L f := ⟨_, rfl⟩
  rw [← hcd]
  have hc : c.Ok := by rw [hcd]; exact callee_ok (hA.less (by omega)) rfl rfl rfl
  have hA1 : Lv 1 c.A := by rw [hcd]; exact hA.deeper _
  have T' : TopOk c.ht mg := by rw [hcd]; exact T
  have F1 : FnAt c.ht f1 (fdOf PySem.Challenge.pw_oc0404_02 1 pm1 cd1 doc1) (bodyOf PySem.Challenge.pw_oc0404_02 1) ["prefix"] := by rw [hcd]; exact F1
  have t1 : Tgt c "table" := by rw [hcd]; exact .inl rfl
  have t2 : Tgt c "k" := by rw [hcd]; exact .inl rfl
  have t3 : Tgt c "laps" := by rw [hcd]; exact .inl rfl
  have k4 : c.env.kindOf "len" = some .globalImplicit := by rw [hcd]; rfl
  have k6 : c.env.kindOf "_generate_overlap_table" = some .globalImplicit := by rw [hcd]; rfl
  dsimp only [bodyOf, PySem.Challenge.pw_oc0404_02, List.getElem?_cons_succ, List.getElem?_cons_zero]
  have l1 : (⟨argLoc ["first", "second", "mark"] [.ref xa, .ref ya, .int m], fun _ => Option.none⟩ : St).loc "first" = some (.ref xa) := rfl
  have l2 : (⟨argLoc ["first", "second", "mark"] [.ref xa, .ref ya, .int m], fun _ => Option.none⟩ : St).loc "second" = some (.ref ya) := rfl
  have l3 : (⟨argLoc ["first", "second", "mark"] [.ref xa, .ref ya, .int m], fun _ => Option.none⟩ : St).loc "mark" = some (.int m) := rfl
  have g1 : c.get ⟨argLoc ["first", "second", "mark"] [.ref xa, .ref ya, .int m], fun _ => Option.none⟩ xa = some (xs.map .int) := by rw [get_ro rfl, hcd]; exact hxa
  have g2 : c.get ⟨argLoc ["first", "second", "mark"] [.ref xa, .ref ya, .int m], fun _ => Option.none⟩ ya = some (ys.map .int) := by rw [get_ro rfl, hcd]; exact hya
  generalize (⟨argLoc ["first", "second", "mark"] [.ref xa, .ref ya, .int m], fun _ => Option.none⟩ : St) = σ at *
  have hsl : sizeLine = 2 ^ 24 := rfl
  have hrl : (lapRow xs ys m).length = ys.length + 1 + xs.length := by simp [lapRow]; omega
  have htab : ∀ j, j < (lapRow xs ys m).length → (tableOf (lapRow xs ys m))[j]? = some ((bord (lapP xs ys m) (j + 1) : Nat) : Int) := fun j hj => tableOf_get hj
  have htl := tableOf_length (lapRow xs ys m)
  -- table = _generate_overlap_table(second + [mark] + first)
  walk_at "ms"
  refine W_call hc hA1 T' F1 n1 k6 rfl ?_
  walk_at "ms"
  intro _ d₁ hd₁
  refine Op_addL (get_put_new hd₁ g2) get_put_same (by simp; omega) ?_
  intro d₂ hd₂
  walk_at "ms"
  refine Op_addL get_put_same (get_put_new hd₂ (get_put_new hd₁ g1)) (by simp; omega) ?_
  intro d₃ hd₃
  walk_at "ms"
  refine ⟨rfl, fun v hp => ∃ d, v = .ref d ∧ hp d = some ((tableOf (lapRow xs ys m)).map .int), fun L => ovl_run hA1 T' (by rw [get_put_same]; simp [lapRow]) (by omega), ?_⟩
  rintro v hp1 ⟨ta, rfl, hta⟩ hg1
  have K1 := Kp.join ((((Kp.refl (c := c) (M := []) (σ := σ)).alloc (l := [V.int m]) hd₁).alloc (l := ys.map V.int ++ [V.int m]) hd₂).alloc (l := ys.map V.int ++ [V.int m] ++ xs.map V.int) hd₃) hg1
  have g3 := K1.1 xa _ (by simp) g1
  have g4 := K1.1 ya _ (by simp) g2
  have g5 := get_hp (c := c) (join_new hg1 hta)
  have m1 : St.loc ((((σ.put d₁ [V.int m]).put d₂ (ys.map V.int ++ [V.int m])).put d₃ (ys.map V.int ++ [V.int m] ++ xs.map V.int)).join hp1) "first" = some (.ref xa) := by walk_at "m_loc"
  have m2 : St.loc ((((σ.put d₁ [V.int m]).put d₂ (ys.map V.int ++ [V.int m])).put d₃ (ys.map V.int ++ [V.int m] ++ xs.map V.int)).join hp1) "second" = some (.ref ya) := by walk_at "m_loc"
  generalize (((σ.put d₁ [V.int m]).put d₂ (ys.map V.int ++ [V.int m])).put d₃ (ys.map V.int ++ [V.int m] ++ xs.map V.int)).join hp1 = σ₂ at *
  clear K1 hg1 hd₁ hd₂ hd₃ hta
  -- if len(table) != len(second) + 1 + len(first)
  walk_at "ms"
  refine Cb_len (by rw [get_set]; exact g5) (by simp; omega) ?_
  walk_at "ms"
  refine Cb_len (by rw [get_set]; exact g4) (by simp; omega) ?_
  walk_at "ms"
  refine Cb_len (by rw [get_set]; exact g3) (by simp; omega) ?_
  walk_at "ms"
  have e1 : decide (((((tableOf (lapRow xs ys m)).map V.int).length : Nat) : Int) = (((ys.map V.int).length : Nat) : Int) + 1 + (((xs.map V.int).length : Nat) : Int)) = true := by
    simp only [List.length_map, htl, hrl]; exact decide_eq_true (by omega)
  rw [e1]
  refine ⟨fun h => (by cases h), fun _ => ?_⟩
  -- laps = []
  walk_at "ms"
  intro _ ba hba
  have hbt : ta ≠ ba := by rintro rfl; rw [get_set, g5] at hba; cases hba
  have hby : ya ≠ ba := by rintro rfl; rw [get_set, g4] at hba; cases hba
  -- k = table[len(table) - 1]
  walk_at "ms"
  refine Cb_len (by rw [get_set]; exact get_put_new hba g5) (by simp; omega) ?_
  walk_at "ms"
  refine ⟨ta, _, _, _, rfl, rfl, get_put_new hba g5, by simp; omega, by simp; omega, getIz (k := (lapRow xs ys m).length - 1) (by simp only [List.length_map, htl]; omega) (htab _ (by omega)), ?_⟩
  have es : (lapRow xs ys m).length - 1 + 1 = (lapRow xs ys m).length := by omega
  rw [es]
  have hbl := bord_lt (lapP xs ys m) (n := (lapRow xs ys m).length) (by omega)
  unfold lapsN
  generalize hp : lapP xs ys m = p at *
  generalize hB : bord p (lapRow xs ys m).length = B at *
  -- while k != 0 and len(laps) <= len(second)
  walk_at "m"
  refine Ws_while (fun k σ' => σ'.loc "table" = some (.ref ta) ∧ σ'.loc "second" = some (.ref ya) ∧ σ'.loc "laps" = some (.ref ba) ∧ σ'.loc "k" = some (.int ((k : Nat) : Int)) ∧ c.get σ' ta = some ((tableOf (lapRow xs ys m)).map .int) ∧ c.get σ' ya = some (ys.map .int) ∧
    ∃ bs : List Nat, σ'.hp ba = some ((upN bs).map .int) ∧ bs ++ chain p k = chain p B ∧ bs.length + k ≤ B) B
    ⟨by walk_at "m_loc", by walk_at "m_loc", by walk_at "m_loc", by walk_at "m_loc", get_put_new hba g5, get_put_new hba g4, [], by rw [hp_set, hp_set, put_same]; rfl, rfl, by simp⟩ ?_
  rintro k σ' ⟨q1, q2, q3, q4, gt, gy, bs, mb, hch, hlen⟩
  walk_at "ms"
  constructor
  · intro hk0
    have hk : k = 0 := by simpa using hk0
    subst hk
    rw [chain_zero, List.append_nil] at hch
    refine ⟨fun h => (by cases h), fun _ => ?_⟩
    refine Wss_nil ?_
    walk_at "ms"
    exact ⟨_, rfl, ba, rfl, by rw [mb, hch]⟩
  · intro hk0
    have hk : k ≠ 0 := by simpa using hk0
    have hul : (upN bs).length = bs.length := by simp [upN]
    walk_at "ms"
    refine Cb_len (get_hp mb) (by rw [List.length_map, hul]; omega) ?_
    walk_at "ms"
    refine Cb_len gy (by simp; omega) ?_
    walk_at "ms"
    refine ⟨fun _ => ?_, fun h => (by
      have := of_decide_eq_false h
      rw [List.length_map, List.length_map, hul] at this; omega)⟩
    walk_at "ms"
    refine ⟨ba, _, rfl, mb, ?_⟩
    walk_at "ms"
    refine ⟨_, mb, by rw [List.length_map, hul]; omega, ?_⟩
    walk_at "ms"
    refine ⟨ta, _, _, _, rfl, rfl, by rw [get_put_other hbt]; exact gt, by omega, by omega, getIz (k := k - 1) (by omega) (htab (k - 1) (by omega)), ?_⟩
    have ek : k - 1 + 1 = k := by omega
    rw [ek]
    refine Wss_nil ?_
    have hlt := bord_lt p (Nat.pos_of_ne_zero hk)
    refine ⟨bord p k, hlt, by walk_at "m_loc", by walk_at "m_loc", by walk_at "m_loc", by walk_at "m_loc", by rw [get_set, get_put_other hbt]; exact gt, by rw [get_set, get_put_other hby]; exact gy, bs ++ [k], by rw [hp_set, put_same]; simp [upN], ?_, by simp; omega⟩
    rw [← hch, chain_pos p hk]; simp
end Mine

namespace Mine
open PySem PyProof.Rows

/-- a list of lists of lists -/
def LLL (G : Addr → Option (List V)) (d : Addr) (lss : List (List (List Nat))) : Prop := ∃ as : List Addr, G d = some (as.map .ref) ∧ as.length = lss.length ∧ ∀ (j : Nat) (a : Addr) (ls : List (List Nat)), as[j]? = some a → lss[j]? = some ls → LL G a (ls.map upN)
theorem LLL.mono {G G' : Addr → Option (List V)} {d : Addr} {lss : List (List (List Nat))} (h : LLL G d lss) (hg : ∀ a l, G a = some l → G' a = some l) : LLL G' d lss := by
  obtain ⟨as, h1, h2, h3⟩ := h
  exact ⟨as, hg _ _ h1, h2, fun j a l e1 e2 => (h3 j a l e1 e2).mono hg⟩
theorem LLL.kp {c : Cx} {M : List Addr} {σ σ' : St} {d : Addr} {lss : List (List (List Nat))} (h : LLL (c.get σ) d lss) (k : Kp c M σ σ') (hm : ∀ e ∈ M, c.get σ e = Option.none) : LLL (c.get σ') d lss :=
  h.mono fun a l e => k.1 a l (fun q => by rw [hm a q] at e; cases e) e
theorem LLL.row {G : Addr → Option (List V)} {d : Addr} {lss : List (List (List Nat))} (h : LLL G d lss) {j : Nat} {l : List (List Nat)} (hj : lss[j]? = some l) : ∃ (vs : List V) (a : Addr), G d = some vs ∧ vs.length = lss.length ∧ vs[j]? = some (.ref a) ∧ LL G a (l.map upN) := by
  obtain ⟨as, h1, h2, h3⟩ := h
  have hlt : j < as.length := by rw [h2]; exact (List.getElem?_eq_some_iff.mp hj).1
  exact ⟨_, as[j], h1, by simp [h2], by simp [hlt], h3 j _ _ (List.getElem?_eq_getElem hlt) hj⟩
theorem LLL.len {G : Addr → Option (List V)} {d : Addr} {lss : List (List (List Nat))} (h : LLL G d lss) : ∃ vs : List V, G d = some vs ∧ vs.length = lss.length := by
  obtain ⟨as, h1, h2, _⟩ := h
  exact ⟨_, h1, by simp [h2]⟩
/-- rows that may be turned -/
def Rows (σ : St) (as : List Addr) (en : List (List Int)) : Prop := ∀ (j : Nat) (a : Addr) (l : List Int), as[j]? = some a → en[j]? = some l → σ.hp a = some (l.map .int)

def lapSum (size n : Nat) (e : List Int) (l : List Nat) : Int := (l.map fun k => if k < size then e.getD (n + k) 0 else 0).sum
def leftAt (lss : List (List (List Nat))) (size n : Nat) (f0 : Int) (en : List (List Int)) (y x : Nat) : Int := f0 - ((List.range x).map fun x => lapSum size n (en.getD x []) ((lss.getD x []).getD y [])).sum
def freshTo (lss : List (List (List Nat))) (size n : Nat) (f0 : Int) (en : List (List Int)) (y : Nat) : List Int := (List.range y).map fun y => leftAt lss size n f0 en y lss.length
def growTo (en : List (List Int)) (fresh : List Int) (y : Nat) : List (List Int) := (List.range en.length).map fun j => if j < y then en.getD j [] ++ [fresh.getD j 0] else en.getD j []
def toldM (lss : List (List (List Nat))) (size : Nat) (many : Int) : Nat → List Int × List (List Int)
  | 0 => ((List.range size).map (many ^ ·), lss.map fun _ => List.replicate size 0)
  | n + 1 =>
    ((toldM lss size many n).1 ++ [many * (toldM lss size many n).1.getD (n + size - 1) 0 - (freshTo lss size n ((toldM lss size many n).1.getD n 0) (toldM lss size many n).2 lss.length).sum],
      growTo (toldM lss size many n).2 (freshTo lss size n ((toldM lss size many n).1.getD n 0) (toldM lss size many n).2 lss.length) lss.length)
theorem growTo_length (en : List (List Int)) (fresh : List Int) (y : Nat) : (growTo en fresh y).length = en.length := by simp [growTo]
theorem growTo_get {en : List (List Int)} {fresh : List Int} {y j : Nat} (h : j < en.length) : (growTo en fresh y)[j]? = some (if j < y then en.getD j [] ++ [fresh.getD j 0] else en.getD j []) := by
  simp only [growTo, List.getElem?_map]; rw [List.getElem?_range h]; rfl
theorem getD_rows {en : List (List Int)} {j : Nat} (h : j < en.length) : en[j]? = some (en.getD j []) := by
  rw [List.getD_eq_getElem?_getD, List.getElem?_eq_getElem h]; rfl
theorem getD_laps {l : List (List Nat)} {j : Nat} (h : j < l.length) : l[j]? = some (l.getD j []) := by
  rw [List.getD_eq_getElem?_getD, List.getElem?_eq_getElem h]; rfl
theorem growTo_zero (en : List (List Int)) (fresh : List Int) : growTo en fresh 0 = en := by
  apply List.ext_getElem?
  intro j
  by_cases h : j < en.length
  · rw [growTo_get h, if_neg (by omega), getD_rows h]
  · rw [List.getElem?_eq_none (by rw [growTo_length]; omega), List.getElem?_eq_none (by omega)]
theorem toldM_len (lss : List (List (List Nat))) (size : Nat) (many : Int) : ∀ n, (toldM lss size many n).1.length = size + n ∧ (toldM lss size many n).2.length = lss.length ∧ ∀ (j : Nat) (l : List Int), (toldM lss size many n).2[j]? = some l → l.length = size + n
  | 0 => by
    refine ⟨by simp [toldM], by simp [toldM], fun j l h => ?_⟩
    simp only [toldM, List.getElem?_map] at h
    cases hj : lss[j]? with
    | none => rw [hj] at h; cases h
    | some x => rw [hj] at h; cases h; simp
  | n + 1 => by
    obtain ⟨h1, h2, h3⟩ := toldM_len lss size many n
    refine ⟨by simp [toldM, h1]; omega, by simp [toldM, growTo_length, h2], fun j l h => ?_⟩
    have hj : j < (toldM lss size many n).2.length := by
      have := (List.getElem?_eq_some_iff.mp h).1
      rw [toldM] at this
      simp only [growTo_length] at this; exact this
    rw [toldM] at h
    simp only at h
    rw [growTo_get hj, if_pos (by omega)] at h
    cases h
    have := h3 j _ (getD_rows hj)
    simp only [List.length_append, List.length_singleton, this]; omega
theorem nodup_at {as : List Addr} (h : as.Nodup) {i j : Nat} {a : Addr} (h1 : as[i]? = some a) (h2 : as[j]? = some a) : i = j :=
  (List.getElem?_inj (List.getElem?_eq_some_iff.mp h1).1 h).mp (h1.trans h2.symm)

-- a name's value is found
local macro_rules | `(tactic| walk_at "m_loc") => `(tactic| first | with_reducible exact loc_same | with_reducible assumption | (with_reducible apply loc_put; walk_at "m_loc") | (with_reducible apply loc_join; walk_at "m_loc") | (apply loc_other (by decide); walk_at "m_loc") | (apply innerLoc_of (by subst_vars; rfl); walk_at "m_loc"))
local macro_rules | `(tactic| walk_at "m_ok") => `(tactic| first | with_reducible assumption | exact Cx.Ok.inner (by assumption) rfl)
local macro_rules | `(tactic| walk_at "m_kind") => `(tactic| first | with_reducible assumption | (subst_vars; rfl))
local macro_rules | `(tactic| walk_at "m_shape") => `(tactic| exact ⟨rfl, by subst_vars; rfl, rfl, rfl, rfl⟩)
local macro_rules | `(tactic| walk_at "m_tgt") => `(tactic| first | with_reducible assumption | exact .inl (by assumption) | exact .inr (by assumption))
-- one step
local macro_rules | `(tactic| walk_at "m") => `(tactic| first
  | with_reducible refine WL_cons ?_
  | with_reducible refine WL_nil ?_
  | with_reducible refine WIfs_nil ?_
  | with_reducible refine WIfs_one ?_
  | with_reducible refine WP_none ?_
  | with_reducible refine WP_some ?_
  | with_reducible refine Wss_cons ?_
  | ((with_reducible show W _ (Expr.Name _ _) _ _); refine W_name (by walk_at "m_ok") (by walk_at "m_loc") ?_)
  | with_reducible refine W_int ?_
  | with_reducible refine W_bool ?_
  | with_reducible refine W_BinOp ?_
  | with_reducible refine Op_add ?_
  | with_reducible refine Op_sub ?_
  | with_reducible refine Cm_eq ?_
  | with_reducible refine Cm_ne ?_
  | with_reducible refine Cm_lt ?_
  | with_reducible refine Cm_ge ?_
  | with_reducible refine Cm_le ?_
  | ((with_reducible show Ws _ (Stmt.Assign [Expr.Name _ _] _ _) _ _); refine Ws_assign (by walk_at "m_ok") (by walk_at "m_tgt") ?_)
  | ((with_reducible show Ws _ (Stmt.Assign [Expr.Subscript _ _ _] _ _) _ _); refine Ws_assignAt ?_)
  | with_reducible refine Ws_return ?_
  | with_reducible refine Ws_break ?_
  | with_reducible refine Ws_if ?_
  | ((with_reducible show Ws _ (Stmt.Expr _ _) _ _); refine Ws_append (by walk_at "m_ok") ?_)
  | ((with_reducible show Wb _ (Expr.Compare _ _ _ _) _ _); refine Wb_Compare ?_)
  | ((with_reducible show Wb _ (Expr.BoolOp BoolOp.Or _ _) _ _); refine Wb_or ?_)
  | ((with_reducible show Wb _ (Expr.BoolOp BoolOp.And _ _) _ _); refine Wb_and ?_)
  | ((with_reducible show W _ (Expr.IfExp _ _ _ _) _ _); refine W_IfExp ?_)
  | ((with_reducible show W _ (Expr.List _ _) _ _); refine W_List rfl (by decide) ?_)
  | ((with_reducible show W _ (Expr.Call (Expr.Name (Str.ofString "len") _) _ _ _) _ _); refine W_callB (x := "len") (id := "len") (by walk_at "m_ok") (by assumption) ?_ (by simp [biTable]) (by walk_at "m_kind") rfl)
  | ((with_reducible show W _ (Expr.Call (Expr.Name (Str.ofString "max") _) _ _ _) _ _); refine W_callB (x := "max") (id := "max") (by walk_at "m_ok") (by assumption) ?_ (by simp [biTable]) (by walk_at "m_kind") rfl)
  | ((with_reducible show W _ (Expr.Call (Expr.Name (Str.ofString "min") _) _ _ _) _ _); refine W_callB (x := "min") (id := "min") (by walk_at "m_ok") (by assumption) ?_ (by simp [biTable]) (by walk_at "m_kind") rfl)
  | ((with_reducible show W _ (Expr.Call (Expr.Name (Str.ofString "sum") _) _ _ _) _ _); refine W_callB (x := "sum") (id := "sum") (by walk_at "m_ok") (by assumption) ?_ (by simp [biTable]) (by walk_at "m_kind") rfl)
  | ((with_reducible show W _ (Expr.Subscript _ (Expr.Slice _ _ none _) _) _ _); refine W_slice ?_ (fun o i => [i, o]))
  | ((with_reducible show W _ (Expr.Subscript _ (Expr.Slice _ _ _ _) _) _ _); refine W_slice ?_ (fun o i => [o, i]))
  | ((with_reducible show W _ (Expr.Subscript _ _ _) _ _); refine W_item ?_)
  | ((with_reducible show Wss _ [] _ _); refine Wss_nil ?_))
local macro_rules | `(tactic| walk_at "ms") => `(tactic| (walk_at "m"; repeat walk_at "m"))
-- small sums
local macro_rules | `(tactic| walk_at "o") => `(tactic| first | with_reducible exact Nat.zero_le _ | with_reducible exact Int.natCast_nonneg _ | with_reducible exact neg62 _ | with_reducible assumption | with_reducible exact Nat.lt_iff_add_one_le.mp (by with_reducible assumption) | omega)

set_option maxHeartbeats 8000000 in
theorem told_run {c₀ : Cx} {mg : Str → Option Value} (hA : Lv 1 c₀.A) (T : TopOk c₀.ht mg) {σ₁ : St} {pm cd doc : Value} {L f : Addr} {la : Addr} {lss : List (List (List Nat))} {size : Nat} {many : Int}
    (hla : LLL (c₀.get σ₁) la lss) (h1 : 1 ≤ size) (h2 : size ≤ 100) (h3 : lss.length ≤ 100) (h4 : 0 ≤ many) (h5 : many ≤ 100) (hsq : ∀ x, x < lss.length → (lss.getD x []).length = lss.length) (hsm : ∀ x y, ((lss.getD x []).getD y []).length ≤ 1000) :
    Wss (callee c₀ σ₁ (fdOf PySem.Challenge.pw_oc0404_02 4 pm cd doc) L f) (bodyOf PySem.Challenge.pw_oc0404_02 4) (fun fl σ' => ∃ v, fl = .ret v ∧ ∃ d fa ea, v = .ref d ∧ σ'.hp d = some [.ref fa, .ref ea] ∧ σ'.hp fa = some ((toldM lss size many (size + 2)).1.map .int) ∧ LL σ'.hp ea (toldM lss size many (size + 2)).2)
      ⟨argLoc ["laps", "size", "many"] [.ref la, .int (size : Int), .int many], fun _ => Option.none⟩ := by
  obtain ⟨c, hcd⟩ : ∃ c, c = callee c₀ σ₁ (fdOf PySem.Challenge.pw_oc0404_02 4 pm cd doc) L f := ⟨_, rfl⟩
  rw [← hcd]
  refine abs_post ?_
  intro Q₀ hQ₀
  have hc : c.Ok := by rw [hcd]; exact callee_ok hA rfl rfl rfl
  have T' : TopOk c.ht mg := by rw [hcd]; exact T
  have t1 : Tgt c "free" := by rw [hcd]; first | exact .inl rfl | exact .inr ⟨rfl, rfl, rfl⟩
  have t2 : Tgt c "ended" := by rw [hcd]; first | exact .inl rfl | exact .inr ⟨rfl, rfl, rfl⟩
  have t3 : Tgt c "n" := by rw [hcd]; first | exact .inl rfl | exact .inr ⟨rfl, rfl, rfl⟩
  have t4 : Tgt c "fresh" := by rw [hcd]; first | exact .inl rfl | exact .inr ⟨rfl, rfl, rfl⟩
  have t5 : Tgt c "y" := by rw [hcd]; first | exact .inl rfl | exact .inr ⟨rfl, rfl, rfl⟩
  have t6 : Tgt c "left" := by rw [hcd]; first | exact .inl rfl | exact .inr ⟨rfl, rfl, rfl⟩
  have t7 : Tgt c "x" := by rw [hcd]; first | exact .inl rfl | exact .inr ⟨rfl, rfl, rfl⟩
  have t8 : Tgt c "k" := by rw [hcd]; first | exact .inl rfl | exact .inr ⟨rfl, rfl, rfl⟩
  have k4 : c.env.kindOf "len" = some .globalImplicit := by rw [hcd]; rfl
  have k5 : c.env.kindOf "range" = some .globalImplicit := by rw [hcd]; rfl
  have k6 : c.env.kindOf "sum" = some .globalImplicit := by rw [hcd]; rfl
  dsimp only [bodyOf, PySem.Challenge.pw_oc0404_02, List.getElem?_cons_succ, List.getElem?_cons_zero]
  have l1 : (⟨argLoc ["laps", "size", "many"] [.ref la, .int (size : Int), .int many], fun _ => Option.none⟩ : St).loc "laps" = some (.ref la) := rfl
  have l2 : (⟨argLoc ["laps", "size", "many"] [.ref la, .int (size : Int), .int many], fun _ => Option.none⟩ : St).loc "size" = some (.int (size : Int)) := rfl
  have l3 : (⟨argLoc ["laps", "size", "many"] [.ref la, .int (size : Int), .int many], fun _ => Option.none⟩ : St).loc "many" = some (.int many) := rfl
  have g1 : LLL (c.get ⟨argLoc ["laps", "size", "many"] [.ref la, .int (size : Int), .int many], fun _ => Option.none⟩) la lss := by
    refine hla.mono fun a l e => ?_
    rw [get_ro rfl, hcd]; exact e
  generalize (⟨argLoc ["laps", "size", "many"] [.ref la, .int (size : Int), .int many], fun _ => Option.none⟩ : St) = σ at *
  have hsl : sizeLine = 2 ^ 24 := rfl
  have hR : ∃ R, lss.length = R := ⟨_, rfl⟩
  obtain ⟨R, hR⟩ := hR
  -- free = [many ** n for n in range(size)]
  walk_at "m"
  refine Ws_assignComp hc (by walk_at "m_shape") t1 (WIt_range1 hc T' ?_ k5) (by subst_vars; rfl)
  walk_at "ms"
  refine ⟨_, rfl, by walk_at "o", by walk_at "o", ?_⟩
  rw [Int.toNat_natCast]
  refine ⟨fun t acc _ => t ≤ size ∧ acc = ((List.range t).map (many ^ ·)).map .int, size, by walk_at "o", trivial, ⟨by walk_at "o", rfl⟩, ?_⟩
  rintro t acc hq ⟨ht, rfl⟩ hin
  refine ⟨ht, ?_, ?_⟩
  · intro v C hv
    simp only [Src.item] at hv
    split at hv
    · cases hv
      walk_at "ms"
      refine ⟨fun h => (by cases h), fun _ => ?_⟩
      walk_at "ms"
      refine Op_pow (by walk_at "o") ?_ ?_
      · have hbits : Builtin.Int.intBits many ≤ 64 := intBits_le_64 (by walk_at "o") (by walk_at "o")
        have hb' : (Builtin.Int.intBits many : Int) ≤ 64 := by walk_at "o"
        have h0 : (0 : Int) ≤ (Builtin.Int.intBits many : Int) := by walk_at "o"
        have ht' : (0 + (t : Int)) ≤ 100 := by walk_at "o"
        calc (Builtin.Int.intBits many : Int) * (0 + (t : Int)) ≤ 64 * (0 + (t : Int)) := Int.mul_le_mul_of_nonneg_right hb' (by walk_at "o")
          _ ≤ 2 ^ 27 := by walk_at "o"
      · refine ⟨by walk_at "o", ?_⟩
        have : (0 + (t : Int)).toNat = t := by walk_at "o"
        rw [this, List.range_succ]; simp
    · cases hv
  intro hv fa hfa hqfa
  have htn : t = size := by
    simp only [Src.item] at hv
    split at hv
    · cases hv
    · omega
  subst htn
  have K1 : Kp c [] σ (((σ.join hq).put fa (((List.range t).map (many ^ ·)).map .int)).set "free" (.ref fa)) := Kp.alloc (Kp.join Kp.refl hin) (join_none hfa hqfa)
  have m1 : St.loc (((σ.join hq).put fa (((List.range t).map (many ^ ·)).map .int)).set "free" (.ref fa)) "laps" = some (.ref la) := by walk_at "m_loc"
  have m2 : St.loc (((σ.join hq).put fa (((List.range t).map (many ^ ·)).map .int)).set "free" (.ref fa)) "size" = some (.int (t : Int)) := by walk_at "m_loc"
  have m3 : St.loc (((σ.join hq).put fa (((List.range t).map (many ^ ·)).map .int)).set "free" (.ref fa)) "many" = some (.int many) := by walk_at "m_loc"
  have m4 : St.loc (((σ.join hq).put fa (((List.range t).map (many ^ ·)).map .int)).set "free" (.ref fa)) "free" = some (.ref fa) := by walk_at "m_loc"
  have hf0 : St.hp (((σ.join hq).put fa (((List.range t).map (many ^ ·)).map .int)).set "free" (.ref fa)) fa = some (((List.range t).map (many ^ ·)).map .int) := put_same
  have hfa0 : c.get σ fa = Option.none := hfa
  generalize ((σ.join hq).put fa (((List.range t).map (many ^ ·)).map .int)).set "free" (.ref fa) = σ₂ at *
  have g2 : LLL (c.get σ₂) la lss := g1.kp K1 (by simp)
  obtain ⟨lv, glv, hlv⟩ := g2.len
  -- ended = [[0] * size for line in laps]
  walk_at "m"
  refine Ws_assignComp hc (by walk_at "m_shape") t2 (WIt_list ?_) (by subst_vars; rfl)
  walk_at "ms"
  refine ⟨la, _, rfl, glv, ?_⟩
  refine ⟨fun u acc hp => u ≤ R ∧ ∃ as : List Addr, acc = as.map .ref ∧ as.length = u ∧ as.Nodup ∧ ∀ b ∈ as, hp b = some ((List.replicate t (0 : Int)).map .int), R, by walk_at "o", by simp only [Src.ok]; rw [glv]; rfl, ⟨by walk_at "o", [], rfl, rfl, List.nodup_nil, fun b h => by cases h⟩, ?_⟩
  rintro u acc hq2 ⟨hu, as, rfl, has, hnd, hval⟩ hin2
  refine ⟨hu, ?_, ?_⟩
  · intro v C hv
    simp only [Src.item] at hv
    rw [glv] at hv
    have hul : u < lv.length := (List.getElem?_eq_some_iff.mp (show lv[u]? = some v from hv)).1
    walk_at "ms"
    refine ⟨fun h => (by cases h), fun _ => ?_⟩
    walk_at "ms"
    intro _ d₁ hd₁
    walk_at "ms"
    refine Op_mulL put_same (by walk_at "o") (by walk_at "o") (by simp; omega) ?_
    intro d₂ hd₂
    have hn2 : hq2 d₂ = Option.none := by
      have := (hp_of_get_none hd₂).1
      by_cases e : d₂ = d₁
      · subst e; rw [put_same] at this; cases this
      · rw [put_other e] at this; exact this
    refine ⟨by walk_at "o", as ++ [d₂], by simp, by simp; omega, ?_, ?_⟩
    · rw [List.nodup_append]
      refine ⟨hnd, List.nodup_cons.mpr ⟨by simp, List.nodup_nil⟩, ?_⟩
      intro a ha b hb
      rw [List.mem_singleton.mp hb]
      rintro rfl
      rw [hval a ha] at hn2; cases hn2
    · intro b hb
      rcases List.mem_append.mp hb with h | h
      · exact put_new_hp hd₂ (put_new_hp hd₁ (hval b h))
      · rw [List.mem_singleton.mp h, put_same, repL_zero, Int.toNat_natCast]
  intro hv ea hea hqea
  have hun : u = R := by
    simp only [Src.item] at hv
    rw [glv] at hv
    have := List.getElem?_eq_none_iff.mp (show lv[u]? = Option.none from hv)
    omega
  rw [hun] at has
  have K2 : Kp c [] σ (((σ₂.join hq2).put ea (as.map .ref)).set "ended" (.ref ea)) := Kp.alloc (Kp.join K1 hin2) (join_none hea hqea)
  have o1 : St.loc (((σ₂.join hq2).put ea (as.map .ref)).set "ended" (.ref ea)) "laps" = some (.ref la) := by walk_at "m_loc"
  have o2 : St.loc (((σ₂.join hq2).put ea (as.map .ref)).set "ended" (.ref ea)) "size" = some (.int (t : Int)) := by walk_at "m_loc"
  have o3 : St.loc (((σ₂.join hq2).put ea (as.map .ref)).set "ended" (.ref ea)) "many" = some (.int many) := by walk_at "m_loc"
  have o4 : St.loc (((σ₂.join hq2).put ea (as.map .ref)).set "ended" (.ref ea)) "free" = some (.ref fa) := by walk_at "m_loc"
  have o5 : St.loc (((σ₂.join hq2).put ea (as.map .ref)).set "ended" (.ref ea)) "ended" = some (.ref ea) := by walk_at "m_loc"
  have hae : ea ∉ as := fun h => by rw [hval ea h] at hqea; cases hqea
  have haf : fa ∉ as := fun h => by have := hin2 fa _ (hval fa h); rw [get_hp hf0] at this; cases this
  have hfe : fa ≠ ea := by rintro rfl; rw [get_hp hf0] at hea; cases hea
  have hf1 : St.hp (((σ₂.join hq2).put ea (as.map .ref)).set "ended" (.ref ea)) fa = some (((List.range t).map (many ^ ·)).map .int) := by
    rw [hp_set, put_other hfe]; exact join_hp hf0
  have he1 : St.hp (((σ₂.join hq2).put ea (as.map .ref)).set "ended" (.ref ea)) ea = some (as.map .ref) := put_same
  have hr1 : Rows (((σ₂.join hq2).put ea (as.map .ref)).set "ended" (.ref ea)) as (toldM lss t many 0).2 := by
    intro j a l h1 h2
    have ham := List.mem_of_getElem? h1
    rw [hp_set, put_other (by rintro rfl; exact hae ham), join_new hin2 (hval a ham)]
    simp only [toldM, List.getElem?_map] at h2
    cases hj : lss[j]? with
    | none => rw [hj] at h2; cases h2
    | some z => rw [hj] at h2; cases h2; rfl
  have hM : ∀ e ∈ fa :: ea :: as, c.get σ e = Option.none := by
    intro e he
    rcases List.mem_cons.mp he with rfl | he
    · exact hfa0
    rcases List.mem_cons.mp he with rfl | he
    · exact K1.back hea
    · exact K1.back (hin2 e _ (hval e he))
  generalize ((σ₂.join hq2).put ea (as.map .ref)).set "ended" (.ref ea) = σ₃ at *
  clear K1 m1 m2 m3 m4 hf0 hval hin2 hea hqea hv hqfa hfa hin glv hlv g2
  -- for n in range(size + 2)
  walk_at "m"
  refine Ws_forP hc t3 (WIt_range1 hc T' ?_ k5)
  walk_at "ms"
  refine ⟨_, rfl, by walk_at "o", by walk_at "o", ?_⟩
  have e4 : ((t : Int) + 2).toNat = t + 2 := by walk_at "o"
  rw [e4]
  clear e4
  refine ⟨fun n σ' => n ≤ t + 2 ∧ σ'.loc "laps" = some (.ref la) ∧ σ'.loc "size" = some (.int (t : Int)) ∧ σ'.loc "many" = some (.int many) ∧ σ'.loc "free" = some (.ref fa) ∧ σ'.loc "ended" = some (.ref ea) ∧
    Kp c (fa :: ea :: as) σ σ' ∧ σ'.hp fa = some ((toldM lss t many n).1.map .int) ∧ σ'.hp ea = some (as.map .ref) ∧ Rows σ' as (toldM lss t many n).2, t + 2,
    ⟨by walk_at "o", o1, o2, o3, o4, o5, ⟨fun a l _ e => K2.1 a l (by simp) e, fun a l _ e => K2.2 a l (by simp) e⟩, hf1, he1, hr1⟩, ?_⟩
  clear K2 o1 o2 o3 o4 o5 hf1 he1 hr1
  rintro n σ' ⟨hn, m1, m2, m3, m4, m5, mK, mf, me, mr⟩
  have mL : LLL (c.get σ') la lss := g1.kp mK hM
  obtain ⟨len1, len2, len3⟩ := toldM_len lss t many n
  refine ⟨hn, trivial, ?_, ?_⟩
  · intro v hv P hP
    simp only [Src.item] at hv
    split at hv
    · rename_i hlt
      cases hv
      rw [Int.zero_add]
      generalize hT1 : (toldM lss t many n).1 = T1 at *
      generalize hT2 : (toldM lss t many n).2 = T2 at *
      obtain ⟨lv, glv, hlv⟩ := mL.len
      -- fresh = []
      walk_at "ms"
      intro _ fr hfr
      rw [get_set] at hfr
      have nff : fa ≠ fr := by rintro rfl; rw [get_hp mf] at hfr; cases hfr
      have nfe : ea ≠ fr := by rintro rfl; rw [get_hp me] at hfr; cases hfr
      have nfa : fr ∉ as := by
        intro h
        obtain ⟨j, hj⟩ := List.getElem?_of_mem h
        have hjl := (List.getElem?_eq_some_iff.mp hj).1
        have := mr j fr _ hj (getD_rows (by walk_at "o"))
        rw [get_hp this] at hfr; cases hfr
      -- for y in range(len(laps))
      walk_at "m"
      refine Ws_forP hc t5 (WIt_range1 hc T' ?_ k5)
      walk_at "ms"
      refine Cb_len (get_put_new hfr glv) (by walk_at "o") ?_
      refine ⟨_, rfl, by walk_at "o", by walk_at "o", ?_⟩
      have eR : ((lv.length : Nat) : Int).toNat = R := by walk_at "o"
      rw [eR]
      clear eR
      refine ⟨fun y σ'' => y ≤ R ∧ σ''.loc "laps" = some (.ref la) ∧ σ''.loc "size" = some (.int (t : Int)) ∧ σ''.loc "many" = some (.int many) ∧ σ''.loc "free" = some (.ref fa) ∧ σ''.loc "ended" = some (.ref ea) ∧ σ''.loc "n" = some (.int (n : Int)) ∧ σ''.loc "fresh" = some (.ref fr) ∧
        Kp c [fr] σ' σ'' ∧ σ''.hp fr = some ((freshTo lss t n (T1.getD n 0) T2 y).map .int), R,
        ⟨by walk_at "o", by walk_at "m_loc", by walk_at "m_loc", by walk_at "m_loc", by walk_at "m_loc", by walk_at "m_loc", by walk_at "m_loc", by walk_at "m_loc", ⟨fun a l _ e => get_put_new hfr e, fun a l _ e => put_new_hp hfr e⟩, by rw [hp_set, put_same]; rfl⟩, ?_⟩
      rintro y σ'' ⟨hy, p1, p2, p3, p4, p5, p6, p7, pK, pf⟩
      have pfa : σ''.hp fa = some (T1.map .int) := pK.2 fa _ (by simpa using nff) mf
      have pea : σ''.hp ea = some (as.map .ref) := pK.2 ea _ (by simpa using nfe) me
      have pr : Rows σ'' as T2 := fun j a l h1 h2 => pK.2 a _ (by simp; rintro rfl; exact nfa (List.mem_of_getElem? h1)) (mr j a l h1 h2)
      have pL : LLL (c.get σ'') la lss := mL.kp pK (by simpa using hfr)
      obtain ⟨lv2, glv2, hlv2⟩ := pL.len
      refine ⟨hy, trivial, ?_, ?_⟩
      · intro v hv P hP
        simp only [Src.item] at hv
        split at hv
        · rename_i hlty
          cases hv
          rw [Int.zero_add]
          -- left = free[n]
          walk_at "ms"
          refine ⟨fa, _, _, _, rfl, rfl, get_hp pfa, by walk_at "o", by walk_at "o", getI (getD_some (by walk_at "o")), ?_⟩
          -- for x in range(len(laps))
          walk_at "m"
          refine Ws_forP hc t7 (WIt_range1 hc T' ?_ k5)
          walk_at "ms"
          refine Cb_len glv2 (by walk_at "o") ?_
          refine ⟨_, rfl, by walk_at "o", by walk_at "o", ?_⟩
          have eR2 : ((lv2.length : Nat) : Int).toNat = R := by walk_at "o"
          rw [eR2]
          clear eR2
          refine ⟨fun x σ₄ => x ≤ R ∧ σ₄.loc "laps" = some (.ref la) ∧ σ₄.loc "size" = some (.int (t : Int)) ∧ σ₄.loc "many" = some (.int many) ∧ σ₄.loc "free" = some (.ref fa) ∧ σ₄.loc "ended" = some (.ref ea) ∧ σ₄.loc "n" = some (.int (n : Int)) ∧ σ₄.loc "fresh" = some (.ref fr) ∧ σ₄.loc "y" = some (.int (y : Int)) ∧
            σ₄.loc "left" = some (.int (leftAt lss t n (T1.getD n 0) T2 y x)) ∧ σ₄.hp = σ''.hp, R,
            ⟨by walk_at "o", by walk_at "m_loc", by walk_at "m_loc", by walk_at "m_loc", by walk_at "m_loc", by walk_at "m_loc", by walk_at "m_loc", by walk_at "m_loc", by walk_at "m_loc", ?_, rfl⟩, ?_⟩
          · have : leftAt lss t n (T1.getD n 0) T2 y 0 = T1.getD n 0 := by simp [leftAt]
            rw [this]; walk_at "m_loc"
          rintro x σ₄ ⟨hx, q1, q2, q3, q4, q5, q6, q7, q8, q9, qh⟩
          have qg : c.get σ₄ = c.get σ'' := by funext a; unfold Cx.get; rw [qh]
          refine ⟨hx, trivial, ?_, ?_⟩
          · intro v hv P hP
            simp only [Src.item] at hv
            split at hv
            · rename_i hltx
              cases hv
              rw [Int.zero_add]
              have hxl : lss[x]? = some (lss.getD x []) := by rw [List.getD_eq_getElem?_getD, List.getElem?_eq_getElem (by walk_at "o")]; rfl
              obtain ⟨vs, ra, z1, z2, z3, z4⟩ := pL.row hxl
              have hyl : ((lss.getD x []).map upN)[y]? = some (upN ((lss.getD x []).getD y [])) := by
                have : y < (lss.getD x []).length := by rw [hsq x (by walk_at "o")]; omega
                rw [List.getElem?_map, getD_laps this]; rfl
              obtain ⟨vs2, rb, y1, y2, y3, y4⟩ := z4.row hyl
              have hlen := hsm x y
              generalize hl : (lss.getD x []).getD y [] = l at *
              -- for k in laps[x][y]
              walk_at "m"
              refine Ws_forP hc t8 (WIt_list ?_)
              walk_at "ms"
              refine ⟨la, _, _, _, rfl, rfl, by rw [get_set, qg]; exact z1, by walk_at "o", by walk_at "o", (by simpa using z3), ?_⟩
              walk_at "ms"
              refine ⟨ra, _, _, _, rfl, rfl, by rw [get_set, qg]; exact y1, by walk_at "o", by walk_at "o", (by simpa using y3), ?_⟩
              refine ⟨rb, _, rfl, by rw [get_set, qg]; exact y4, ?_⟩
              refine ⟨fun i σ₅ => i ≤ l.length ∧ σ₅.loc "laps" = some (.ref la) ∧ σ₅.loc "size" = some (.int (t : Int)) ∧ σ₅.loc "many" = some (.int many) ∧ σ₅.loc "free" = some (.ref fa) ∧ σ₅.loc "ended" = some (.ref ea) ∧ σ₅.loc "n" = some (.int (n : Int)) ∧ σ₅.loc "fresh" = some (.ref fr) ∧ σ₅.loc "y" = some (.int (y : Int)) ∧ σ₅.loc "x" = some (.int (x : Int)) ∧
                σ₅.loc "left" = some (.int (leftAt lss t n (T1.getD n 0) T2 y x - lapSum t n (T2.getD x []) (l.take i))) ∧ σ₅.hp = σ''.hp, l.length,
                ⟨by walk_at "o", by walk_at "m_loc", by walk_at "m_loc", by walk_at "m_loc", by walk_at "m_loc", by walk_at "m_loc", by walk_at "m_loc", by walk_at "m_loc", by walk_at "m_loc", by walk_at "m_loc", ?_, qh⟩, ?_⟩
              · have : lapSum t n (T2.getD x []) (l.take 0) = 0 := by simp [lapSum]
                rw [this, Int.sub_zero]; walk_at "m_loc"
              rintro i σ₅ ⟨hi, r1, r2, r3, r4, r5, r6, r7, r8, r9, r10, rh⟩
              have rg : c.get σ₅ = c.get σ'' := by funext a; unfold Cx.get; rw [rh]
              have z5 : c.get σ₅ rb = some ((upN l).map .int) := by rw [rg]; exact y4
              refine ⟨hi, by simp only [Src.ok]; rw [z5]; rfl, ?_, ?_⟩
              · intro v hv P hP
                simp only [Src.item] at hv
                rw [z5] at hv
                obtain ⟨b, hbi, rfl⟩ : ∃ b, l[i]? = some b ∧ v = V.int (b : Int) := by
                  simp only [upN, Option.bind_some, List.getElem?_map] at hv
                  cases h : l[i]? with
                  | none => rw [h] at hv; cases hv
                  | some b => rw [h] at hv; cases hv; exact ⟨b, rfl, rfl⟩
                have hil : i < l.length := (List.getElem?_eq_some_iff.mp hbi).1
                have hsum : lapSum t n (T2.getD x []) (l.take (i + 1)) = lapSum t n (T2.getD x []) (l.take i) + (if b < t then (T2.getD x []).getD (n + b) 0 else 0) := by
                  unfold lapSum
                  rw [List.take_add_one, hbi]; simp
                -- if k < size
                walk_at "ms"
                constructor
                · intro hb
                  have hbt : b < t := by have := of_decide_eq_true hb; omega
                  have hxa : x < as.length := by walk_at "o"
                  have hrow := pr x as[x] _ (List.getElem?_eq_getElem hxa) (getD_rows (by walk_at "o"))
                  have hrl := len3 x _ (getD_rows (by walk_at "o"))
                  walk_at "ms"
                  refine ⟨ea, _, _, _, rfl, rfl, by rw [get_set, rg]; exact get_hp pea, by walk_at "o", by walk_at "o", (show _ = some (V.ref as[x]) from by simp [hxa]), ?_⟩
                  walk_at "ms"
                  refine ⟨as[x], _, _, _, rfl, rfl, by rw [get_set, rg]; exact get_hp hrow, by walk_at "o", by walk_at "o", getIz (k := n + b) (by walk_at "o") (getD_some (by walk_at "o")), ?_⟩
                  walk_at "ms"
                  refine hP _ ?_
                  refine ⟨by walk_at "o", by walk_at "m_loc", by walk_at "m_loc", by walk_at "m_loc", by walk_at "m_loc", by walk_at "m_loc", by walk_at "m_loc", by walk_at "m_loc", by walk_at "m_loc", by walk_at "m_loc", ?_, rh⟩
                  rw [hsum, if_pos hbt, ← Int.sub_sub]; walk_at "m_loc"
                · intro hb
                  have hbt : ¬ b < t := by have := of_decide_eq_false hb; omega
                  walk_at "ms"
                  refine hP _ ?_
                  refine ⟨by walk_at "o", by walk_at "m_loc", by walk_at "m_loc", by walk_at "m_loc", by walk_at "m_loc", by walk_at "m_loc", by walk_at "m_loc", by walk_at "m_loc", by walk_at "m_loc", by walk_at "m_loc", ?_, rh⟩
                  rw [hsum, if_neg hbt, Int.add_zero]; walk_at "m_loc"
              · intro hv
                have hin : i = l.length := by
                  simp only [Src.item] at hv
                  rw [z5] at hv
                  have := List.getElem?_eq_none_iff.mp (show ((upN l).map V.int)[i]? = Option.none from hv)
                  simp only [upN, List.length_map] at this; omega
                refine Wss_nil ?_
                refine hP _ ?_
                refine ⟨by walk_at "o", by walk_at "m_loc", by walk_at "m_loc", by walk_at "m_loc", by walk_at "m_loc", by walk_at "m_loc", by walk_at "m_loc", by walk_at "m_loc", by walk_at "m_loc", ?_, rh⟩
                rw [r10, hin, List.take_length]
                congr 2
                simp only [leftAt, List.range_succ, List.map_append, List.sum_append, List.map_cons, List.map_nil, List.sum_cons, List.sum_nil]
                rw [hl]; omega
            · cases hv
          · intro hv
            have hxn : x = R := by
              simp only [Src.item] at hv
              split at hv
              · cases hv
              · omega
            -- fresh.append(left)
            walk_at "ms"
            refine ⟨fr, _, rfl, by rw [qh]; exact pf, ?_⟩
            walk_at "ms"
            refine ⟨_, by rw [qh]; exact pf, by simp [freshTo]; omega, ?_⟩
            refine Wss_nil ?_
            refine hP _ ?_
            refine ⟨by walk_at "o", by walk_at "m_loc", by walk_at "m_loc", by walk_at "m_loc", by walk_at "m_loc", by walk_at "m_loc", by walk_at "m_loc", by walk_at "m_loc", ?_, ?_⟩
            · have K : Kp c [fr] σ' σ₄ := ⟨fun a l h e => by rw [qg]; exact pK.1 a l h e, fun a l h e => by rw [qh]; exact pK.2 a l h e⟩
              exact K.turn (by simp)
            · rw [put_same, hxn]
              simp [freshTo, List.range_succ, hR]
        · cases hv
      · intro hv
        have hyn : y = R := by
          simp only [Src.item] at hv
          split at hv
          · cases hv
          · omega
        rw [hyn, ← hR] at pf
        generalize hfs : freshTo lss t n (T1.getD n 0) T2 lss.length = fs at *
        have hfl : fs.length = R := by rw [← hfs]; simp [freshTo, hR]
        -- for y in range(len(laps))
        walk_at "m"
        refine Ws_forP hc t5 (WIt_range1 hc T' ?_ k5)
        walk_at "ms"
        refine Cb_len glv2 (by walk_at "o") ?_
        refine ⟨_, rfl, by walk_at "o", by walk_at "o", ?_⟩
        have eR2 : ((lv2.length : Nat) : Int).toNat = R := by walk_at "o"
        rw [eR2]
        clear eR2
        refine ⟨fun y σ₄ => y ≤ R ∧ σ₄.loc "laps" = some (.ref la) ∧ σ₄.loc "size" = some (.int (t : Int)) ∧ σ₄.loc "many" = some (.int many) ∧ σ₄.loc "free" = some (.ref fa) ∧ σ₄.loc "ended" = some (.ref ea) ∧ σ₄.loc "n" = some (.int (n : Int)) ∧ σ₄.loc "fresh" = some (.ref fr) ∧
          Kp c as σ'' σ₄ ∧ Rows σ₄ as (growTo T2 fs y), R,
          ⟨by walk_at "o", p1, p2, p3, p4, p5, p6, p7, Kp.refl, by rw [growTo_zero]; exact pr⟩, ?_⟩
        rintro z σ₄ ⟨hz, q1, q2, q3, q4, q5, q6, q7, qK, qr⟩
        have qe : σ₄.hp ea = some (as.map .ref) := qK.2 ea _ hae pea
        have qfr : σ₄.hp fr = some (fs.map .int) := qK.2 fr _ nfa pf
        have qfa : σ₄.hp fa = some (T1.map .int) := qK.2 fa _ haf pfa
        refine ⟨hz, trivial, ?_, ?_⟩
        · intro v hv P hP
          simp only [Src.item] at hv
          split at hv
          · rename_i hltz
            cases hv
            rw [Int.zero_add]
            have hza : z < as.length := by walk_at "o"
            have hrow := qr z as[z] _ (List.getElem?_eq_getElem hza) (growTo_get (by walk_at "o"))
            rw [if_neg (by walk_at "o")] at hrow
            have hrl := len3 z _ (getD_rows (by walk_at "o"))
            have nzf : fr ≠ as[z] := fun e => nfa (e ▸ List.getElem_mem hza)
            walk_at "ms"
            refine ⟨ea, _, _, _, rfl, rfl, get_hp qe, by walk_at "o", by walk_at "o", (show _ = some (V.ref as[z]) from by simp [hza]), ?_⟩
            refine ⟨as[z], _, rfl, hrow, ?_⟩
            walk_at "ms"
            refine ⟨fr, _, _, _, rfl, rfl, get_hp qfr, by walk_at "o", by walk_at "o", getI (getD_some (by walk_at "o")), ?_⟩
            refine ⟨_, hrow, by simp only [List.length_map]; omega, ?_⟩
            refine Wss_nil ?_
            refine hP _ ?_
            refine ⟨by walk_at "o", by walk_at "m_loc", by walk_at "m_loc", by walk_at "m_loc", by walk_at "m_loc", by walk_at "m_loc", by walk_at "m_loc", by walk_at "m_loc", Kp.turn qK (List.getElem_mem hza), ?_⟩
            intro j a l h1 h2
            have hjl : j < T2.length := by
              have := (List.getElem?_eq_some_iff.mp h2).1
              rw [growTo_length] at this; exact this
            rw [growTo_get hjl] at h2
            by_cases hjz : j = z
            · subst hjz
              rw [List.getElem?_eq_getElem hza] at h1; cases h1
              rw [if_pos (by walk_at "o")] at h2; cases h2
              rw [put_same]; simp
            · have hne : a ≠ as[z] := by
                rintro rfl
                exact hjz (nodup_at hnd h1 (List.getElem?_eq_getElem hza))
              rw [put_other hne]
              refine qr j a l h1 ?_
              rw [growTo_get hjl, ← h2]
              congr 1
              by_cases hj : j < z
              · rw [if_pos hj, if_pos (by walk_at "o")]
              · rw [if_neg hj, if_neg (by walk_at "o")]
          · cases hv
        · intro hv
          have hzn : z = R := by
            simp only [Src.item] at hv
            split at hv
            · cases hv
            · omega
          -- free.append(many * free[n + size - 1] - sum(fresh))
          walk_at "ms"
          refine ⟨fa, _, rfl, qfa, ?_⟩
          walk_at "ms"
          refine ⟨fa, _, _, _, rfl, rfl, get_hp qfa, by walk_at "o", by walk_at "o", getIz (k := n + t - 1) (by walk_at "o") (getD_some (by walk_at "o")), ?_⟩
          refine Op_mul (IntMulOk.of_left (intBits_le_64 (by walk_at "o") (by walk_at "o"))) ?_
          walk_at "ms"
          refine Cb_sum hc (get_hp qfr) ?_
          walk_at "ms"
          refine ⟨_, qfa, by simp only [List.length_map]; omega, ?_⟩
          refine Wss_nil ?_
          refine hP _ ?_
          refine ⟨by walk_at "o", by walk_at "m_loc", by walk_at "m_loc", by walk_at "m_loc", by walk_at "m_loc", by walk_at "m_loc", ?_, ?_, ?_, ?_⟩
          · refine Kp.turn (Kp.under (Kp.under mK pK ?_) qK fun e he => .inl (by simp [he])) (by simp)
            intro e he
            rw [List.mem_singleton.mp he]
            right
            cases h : c.get σ fr with
            | none => rfl
            | some l =>
              have := mK.1 fr l (by simp; exact ⟨fun e => nff e.symm, fun e => nfe e.symm, nfa⟩) h
              rw [hfr] at this; cases this
          · rw [put_same, toldM, hT1, hT2, hfs]
            simp
          · rw [put_other (Ne.symm hfe)]; exact qe
          · intro j a l h1 h2
            have : a ≠ fa := by rintro rfl; exact haf (List.mem_of_getElem? h1)
            rw [put_other this]
            refine qr j a l h1 ?_
            rw [hzn, ← h2, toldM, hT1, hT2, hfs, hR]
    · cases hv
  · intro hv
    have hnn : n = t + 2 := by
      simp only [Src.item] at hv
      split at hv
      · cases hv
      · omega
    subst hnn
    walk_at "ms"
    intro _ d hd
    have nd : ∀ b l, σ'.hp b = some l → b ≠ d := by rintro b l e rfl; rw [get_hp e] at hd; cases hd
    refine hQ₀ _ _ ⟨_, rfl, d, fa, ea, rfl, put_same, by rw [put_other (nd _ _ mf)]; exact mf, as, by rw [put_other (nd _ _ me)]; exact me, by walk_at "o", ?_⟩
    intro j a l h1 h2
    rw [put_other (nd _ _ (mr j a l h1 h2))]; exact mr j a l h1 h2
end Mine

namespace Mine
open PySem PyProof.Rows

def addAt (m : List Int) (b : Nat) (x : Int) : List Int := m.set b (m.getD b 0 + x)
theorem addAt_length (m : List Int) (b : Nat) (x : Int) : (addAt m b x).length = m.length := by simp [addAt]
def cStep (codes : List Nat) (whole : Nat) (x : Int) (m : List Int × List Int) (code : Nat) : List Int × List Int :=
  if code ∈ codes then (m.1, addAt m.2 (codes.idxOf code) x) else (addAt m.1 (code % whole) x, m.2)
def cRow (codes : List Nat) (whole many : Nat) (x : Int) (m : List Int × List Int) (last s : Nat) : List Int × List Int := (List.range s).foldl (fun m s => cStep codes whole x m (last * many + s)) m
def cTo (codes : List Nat) (whole many : Nat) (ways : List Int) (k : Nat) : List Int × List Int := (List.range k).foldl (fun m last => cRow codes whole many (ways.getD last 0) m last many) (List.replicate whole 0, List.replicate codes.length 0)
def cWays (codes : List Nat) (whole many : Nat) : Nat → List Int
  | 0 => List.replicate whole 1
  | n + 1 => (cTo codes whole many (cWays codes whole many n) whole).1
def cHits (codes : List Nat) (whole many n : Nat) : List Int := (cTo codes whole many (cWays codes whole many n) whole).2
def cntM (codes : List Nat) (size many : Nat) : Nat → List Int × List (List Int)
  | 0 => ((List.range size).map ((many : Int) ^ ·), codes.map fun _ => List.replicate size 0)
  | n + 1 => ((cntM codes size many n).1 ++ [(cWays codes (many ^ (size - 1)) many (n + 1)).sum], growTo (cntM codes size many n).2 (cHits codes (many ^ (size - 1)) many n) codes.length)
theorem cStep_len {codes : List Nat} {whole : Nat} {x : Int} {m : List Int × List Int} {code : Nat} : (cStep codes whole x m code).1.length = m.1.length ∧ (cStep codes whole x m code).2.length = m.2.length := by
  unfold cStep
  split
  · exact ⟨rfl, addAt_length ..⟩
  · exact ⟨addAt_length .., rfl⟩
theorem cRow_len {codes : List Nat} {whole many : Nat} {x : Int} {m : List Int × List Int} {last : Nat} : ∀ s, (cRow codes whole many x m last s).1.length = m.1.length ∧ (cRow codes whole many x m last s).2.length = m.2.length
  | 0 => ⟨rfl, rfl⟩
  | s + 1 => by
    have ih := cRow_len (codes := codes) (whole := whole) (many := many) (x := x) (m := m) (last := last) s
    unfold cRow at *
    rw [List.range_succ, List.foldl_append, List.foldl_cons, List.foldl_nil]
    exact ⟨cStep_len.1.trans ih.1, cStep_len.2.trans ih.2⟩
theorem cRow_succ {codes : List Nat} {whole many : Nat} {x : Int} {m : List Int × List Int} {last s : Nat} : cRow codes whole many x m last (s + 1) = cStep codes whole x (cRow codes whole many x m last s) (last * many + s) := by
  unfold cRow
  rw [List.range_succ, List.foldl_append, List.foldl_cons, List.foldl_nil]
theorem cTo_succ {codes : List Nat} {whole many : Nat} {ways : List Int} {k : Nat} : cTo codes whole many ways (k + 1) = cRow codes whole many (ways.getD k 0) (cTo codes whole many ways k) k many := by
  unfold cTo
  rw [List.range_succ, List.foldl_append, List.foldl_cons, List.foldl_nil]
theorem cTo_len {codes : List Nat} {whole many : Nat} {ways : List Int} : ∀ k, (cTo codes whole many ways k).1.length = whole ∧ (cTo codes whole many ways k).2.length = codes.length
  | 0 => by simp [cTo]
  | k + 1 => by
    have ih := cTo_len (codes := codes) (whole := whole) (many := many) (ways := ways) k
    rw [cTo_succ]
    exact ⟨(cRow_len many).1.trans ih.1, (cRow_len many).2.trans ih.2⟩
theorem cWays_len {codes : List Nat} {whole many : Nat} : ∀ n, (cWays codes whole many n).length = whole
  | 0 => by simp [cWays]
  | n + 1 => (cTo_len _).1
theorem cHits_len {codes : List Nat} {whole many n : Nat} : (cHits codes whole many n).length = codes.length := (cTo_len _).2
theorem cntM_len (codes : List Nat) (size many : Nat) : ∀ n, (cntM codes size many n).1.length = size + n ∧ (cntM codes size many n).2.length = codes.length ∧ ∀ (j : Nat) (l : List Int), (cntM codes size many n).2[j]? = some l → l.length = size + n
  | 0 => by
    refine ⟨by simp [cntM], by simp [cntM], fun j l h => ?_⟩
    simp only [cntM, List.getElem?_map] at h
    cases hj : codes[j]? with
    | none => rw [hj] at h; cases h
    | some x => rw [hj] at h; cases h; simp
  | n + 1 => by
    obtain ⟨h1, h2, h3⟩ := cntM_len codes size many n
    refine ⟨by simp [cntM, h1]; omega, by simp [cntM, growTo_length, h2], fun j l h => ?_⟩
    have hj : j < (cntM codes size many n).2.length := by
      have := (List.getElem?_eq_some_iff.mp h).1
      rw [cntM] at this
      simp only [growTo_length] at this; exact this
    rw [cntM] at h
    simp only at h
    rw [growTo_get hj, if_pos (by omega)] at h
    cases h
    have := h3 j _ (getD_rows hj)
    simp only [List.length_append, List.length_singleton, this]; omega
theorem upN_any (codes : List Nat) (k : Nat) : (upN codes).any (· == (k : Int)) = decide (k ∈ codes) := by
  induction codes with
  | nil => rfl
  | cons a r ih =>
    have : upN (a :: r) = (a : Int) :: upN r := rfl
    rw [this, List.any_cons, ih]
    have e : (((a : Int) == (k : Int)) : Bool) = decide (k = a) := by
      by_cases h : k = a
      · subst h; simp
      · have h' : ¬ (a : Int) = (k : Int) := by omega
        simp [h, h']
    rw [e]
    by_cases h : k = a <;> simp [h]
theorem upN_idx (codes : List Nat) (k : Nat) : (upN codes).idxOf (k : Int) = codes.idxOf k := by
  induction codes with
  | nil => rfl
  | cons a r ih =>
    have : upN (a :: r) = (a : Int) :: upN r := rfl
    rw [this, List.idxOf_cons, List.idxOf_cons, ih]
    have e : (((a : Int) == (k : Int)) : Bool) = (a == k) := by
      by_cases h : a = k
      · subst h; simp
      · have h' : ¬ (a : Int) = (k : Int) := by omega
        exact (beq_eq_false_iff_ne.mpr h').trans (beq_eq_false_iff_ne.mpr h).symm
    rw [e]
theorem upN_mem {codes : List Nat} {k : Nat} (h : k ∈ codes) : (k : Int) ∈ upN codes := List.mem_map.mpr ⟨k, h, rfl⟩

-- a name's value is found
local macro_rules | `(tactic| walk_at "m_loc") => `(tactic| first | with_reducible exact loc_same | with_reducible assumption | (with_reducible apply loc_put; walk_at "m_loc") | (with_reducible apply loc_join; walk_at "m_loc") | (apply loc_other (by decide); walk_at "m_loc") | (apply innerLoc_of (by subst_vars; rfl); walk_at "m_loc"))
local macro_rules | `(tactic| walk_at "m_ok") => `(tactic| first | with_reducible assumption | exact Cx.Ok.inner (by assumption) rfl)
local macro_rules | `(tactic| walk_at "m_kind") => `(tactic| first | with_reducible assumption | (subst_vars; rfl))
local macro_rules | `(tactic| walk_at "m_shape") => `(tactic| exact ⟨rfl, by subst_vars; rfl, rfl, rfl, rfl⟩)
local macro_rules | `(tactic| walk_at "m_tgt") => `(tactic| first | with_reducible assumption | exact .inl (by assumption) | exact .inr (by assumption))
-- one step
local macro_rules | `(tactic| walk_at "m") => `(tactic| first
  | with_reducible refine WL_cons ?_
  | with_reducible refine WL_nil ?_
  | with_reducible refine WIfs_nil ?_
  | with_reducible refine WIfs_one ?_
  | with_reducible refine WP_none ?_
  | with_reducible refine WP_some ?_
  | with_reducible refine Wss_cons ?_
  | ((with_reducible show W _ (Expr.Name _ _) _ _); refine W_name (by walk_at "m_ok") (by walk_at "m_loc") ?_)
  | with_reducible refine W_int ?_
  | with_reducible refine W_bool ?_
  | with_reducible refine W_BinOp ?_
  | with_reducible refine Op_add ?_
  | with_reducible refine Op_sub ?_
  | with_reducible refine Cm_eq ?_
  | with_reducible refine Cm_ne ?_
  | with_reducible refine Cm_lt ?_
  | with_reducible refine Cm_ge ?_
  | with_reducible refine Cm_le ?_
  | ((with_reducible show Ws _ (Stmt.Assign [Expr.Name _ _] _ _) _ _); refine Ws_assign (by walk_at "m_ok") (by walk_at "m_tgt") ?_)
  | ((with_reducible show Ws _ (Stmt.Assign [Expr.Subscript _ _ _] _ _) _ _); refine Ws_assignAt ?_)
  | with_reducible refine Ws_return ?_
  | with_reducible refine Ws_break ?_
  | with_reducible refine Ws_if ?_
  | ((with_reducible show Ws _ (Stmt.Expr _ _) _ _); refine Ws_append (by walk_at "m_ok") ?_)
  | ((with_reducible show Wb _ (Expr.Compare _ _ _ _) _ _); refine Wb_Compare ?_)
  | ((with_reducible show Wb _ (Expr.BoolOp BoolOp.Or _ _) _ _); refine Wb_or ?_)
  | ((with_reducible show Wb _ (Expr.BoolOp BoolOp.And _ _) _ _); refine Wb_and ?_)
  | ((with_reducible show W _ (Expr.IfExp _ _ _ _) _ _); refine W_IfExp ?_)
  | ((with_reducible show W _ (Expr.List _ _) _ _); refine W_List rfl (by decide) ?_)
  | ((with_reducible show W _ (Expr.Call (Expr.Name (Str.ofString "len") _) _ _ _) _ _); refine W_callB (x := "len") (id := "len") (by walk_at "m_ok") (by assumption) ?_ (by simp [biTable]) (by walk_at "m_kind") rfl)
  | ((with_reducible show W _ (Expr.Call (Expr.Name (Str.ofString "max") _) _ _ _) _ _); refine W_callB (x := "max") (id := "max") (by walk_at "m_ok") (by assumption) ?_ (by simp [biTable]) (by walk_at "m_kind") rfl)
  | ((with_reducible show W _ (Expr.Call (Expr.Name (Str.ofString "min") _) _ _ _) _ _); refine W_callB (x := "min") (id := "min") (by walk_at "m_ok") (by assumption) ?_ (by simp [biTable]) (by walk_at "m_kind") rfl)
  | ((with_reducible show W _ (Expr.Call (Expr.Name (Str.ofString "sum") _) _ _ _) _ _); refine W_callB (x := "sum") (id := "sum") (by walk_at "m_ok") (by assumption) ?_ (by simp [biTable]) (by walk_at "m_kind") rfl)
  | ((with_reducible show W _ (Expr.Subscript _ (Expr.Slice _ _ none _) _) _ _); refine W_slice ?_ (fun o i => [i, o]))
  | ((with_reducible show W _ (Expr.Subscript _ (Expr.Slice _ _ _ _) _) _ _); refine W_slice ?_ (fun o i => [o, i]))
  | ((with_reducible show W _ (Expr.Subscript _ _ _) _ _); refine W_item ?_)
  | ((with_reducible show Wss _ [] _ _); refine Wss_nil ?_))
local macro_rules | `(tactic| walk_at "ms") => `(tactic| (walk_at "m"; repeat walk_at "m"))
-- small sums
local macro_rules | `(tactic| walk_at "o") => `(tactic| first | with_reducible exact Nat.zero_le _ | with_reducible exact Int.natCast_nonneg _ | with_reducible exact neg62 _ | with_reducible assumption | with_reducible exact Nat.lt_iff_add_one_le.mp (by with_reducible assumption) | omega)

set_option maxHeartbeats 8000000 in
theorem counted_run {c₀ : Cx} {mg : Str → Option Value} (hA : Lv 1 c₀.A) (T : TopOk c₀.ht mg) {σ₁ : St} {pm cd doc : Value} {L f : Addr} {ca : Addr} {codes : List Nat} {size many : Nat}
    (hca : c₀.get σ₁ ca = some ((upN codes).map .int)) (h1 : 1 ≤ size) (h2 : size ≤ 100) (h3 : codes.length ≤ 100) (h4 : 1 ≤ many) (h5 : many ≤ 100) (h6 : many ^ (size - 1) ≤ 1000) :
    Wss (callee c₀ σ₁ (fdOf PySem.Challenge.pw_oc0404_02 5 pm cd doc) L f) (bodyOf PySem.Challenge.pw_oc0404_02 5) (fun fl σ' => ∃ v, fl = .ret v ∧ ∃ d fa ea, v = .ref d ∧ σ'.hp d = some [.ref fa, .ref ea] ∧ σ'.hp fa = some ((cntM codes size many (size + 2)).1.map .int) ∧ LL σ'.hp ea (cntM codes size many (size + 2)).2)
      ⟨argLoc ["codes", "size", "many"] [.ref ca, .int (size : Int), .int (many : Int)], fun _ => Option.none⟩ := by
  obtain ⟨c, hcd⟩ : ∃ c, c = callee c₀ σ₁ (fdOf PySem.Challenge.pw_oc0404_02 5 pm cd doc) L f := ⟨_, rfl⟩
  rw [← hcd]
  refine abs_post ?_
  intro Q₀ hQ₀
  have hc : c.Ok := by rw [hcd]; exact callee_ok hA rfl rfl rfl
  have T' : TopOk c.ht mg := by rw [hcd]; exact T
  have t0 : Tgt c "whole" := by rw [hcd]; first | exact .inl rfl | exact .inr ⟨rfl, rfl, rfl⟩
  have t1 : Tgt c "free" := by rw [hcd]; first | exact .inl rfl | exact .inr ⟨rfl, rfl, rfl⟩
  have t2 : Tgt c "ended" := by rw [hcd]; first | exact .inl rfl | exact .inr ⟨rfl, rfl, rfl⟩
  have t3 : Tgt c "n" := by rw [hcd]; first | exact .inl rfl | exact .inr ⟨rfl, rfl, rfl⟩
  have t4 : Tgt c "fresh" := by rw [hcd]; first | exact .inl rfl | exact .inr ⟨rfl, rfl, rfl⟩
  have t5 : Tgt c "hits" := by rw [hcd]; first | exact .inl rfl | exact .inr ⟨rfl, rfl, rfl⟩
  have t6 : Tgt c "last" := by rw [hcd]; first | exact .inl rfl | exact .inr ⟨rfl, rfl, rfl⟩
  have t7 : Tgt c "sign" := by rw [hcd]; first | exact .inl rfl | exact .inr ⟨rfl, rfl, rfl⟩
  have t8 : Tgt c "code" := by rw [hcd]; first | exact .inl rfl | exact .inr ⟨rfl, rfl, rfl⟩
  have t9 : Tgt c "ways" := by rw [hcd]; first | exact .inl rfl | exact .inr ⟨rfl, rfl, rfl⟩
  have t10 : Tgt c "x" := by rw [hcd]; first | exact .inl rfl | exact .inr ⟨rfl, rfl, rfl⟩
  have k4 : c.env.kindOf "len" = some .globalImplicit := by rw [hcd]; rfl
  have k5 : c.env.kindOf "range" = some .globalImplicit := by rw [hcd]; rfl
  have k6 : c.env.kindOf "sum" = some .globalImplicit := by rw [hcd]; rfl
  dsimp only [bodyOf, PySem.Challenge.pw_oc0404_02, List.getElem?_cons_succ, List.getElem?_cons_zero]
  have l1 : (⟨argLoc ["codes", "size", "many"] [.ref ca, .int (size : Int), .int (many : Int)], fun _ => Option.none⟩ : St).loc "codes" = some (.ref ca) := rfl
  have l2 : (⟨argLoc ["codes", "size", "many"] [.ref ca, .int (size : Int), .int (many : Int)], fun _ => Option.none⟩ : St).loc "size" = some (.int (size : Int)) := rfl
  have l3 : (⟨argLoc ["codes", "size", "many"] [.ref ca, .int (size : Int), .int (many : Int)], fun _ => Option.none⟩ : St).loc "many" = some (.int (many : Int)) := rfl
  have g1 : c.get ⟨argLoc ["codes", "size", "many"] [.ref ca, .int (size : Int), .int (many : Int)], fun _ => Option.none⟩ ca = some ((upN codes).map .int) := by rw [get_ro rfl, hcd]; exact hca
  generalize (⟨argLoc ["codes", "size", "many"] [.ref ca, .int (size : Int), .int (many : Int)], fun _ => Option.none⟩ : St) = σ₀ at *
  have hsl : sizeLine = 2 ^ 24 := rfl
  have hul : (upN codes).length = codes.length := by simp [upN]
  have hR : ∃ R, codes.length = R := ⟨_, rfl⟩
  obtain ⟨R, hR⟩ := hR
  have hbits : Builtin.Int.intBits (many : Int) ≤ 64 := intBits_le_64 (by walk_at "o") (by walk_at "o")
  -- whole = many ** (size - 1)
  walk_at "ms"
  refine Op_pow (by walk_at "o") ?_ ?_
  · have hb' : (Builtin.Int.intBits (many : Int) : Int) ≤ 64 := by walk_at "o"
    calc (Builtin.Int.intBits (many : Int) : Int) * ((size : Int) - 1) ≤ 64 * ((size : Int) - 1) := Int.mul_le_mul_of_nonneg_right hb' (by walk_at "o")
      _ ≤ 2 ^ 27 := by walk_at "o"
  have ew : ((many : Int) ^ ((size : Int) - 1).toNat) = ((many ^ (size - 1) : Nat) : Int) := by
    have : ((size : Int) - 1).toNat = size - 1 := by walk_at "o"
    rw [this]; simp
  rw [ew]
  have hwp : 1 ≤ many ^ (size - 1) := Nat.pow_pos (by walk_at "o")
  generalize hW : many ^ (size - 1) = W at *
  -- ways = [1] * whole
  walk_at "ms"
  intro _ d₁ hd₁
  walk_at "ms"
  refine Op_mulL put_same (by walk_at "o") (by walk_at "o") (by simp; omega) ?_
  intro w₀ hw₀
  rw [repL_one, Int.toNat_natCast]
  have K0 : Kp c [] σ₀ (((σ₀.set "whole" (.int (W : Int))).put d₁ [V.int 1]).put w₀ ((List.replicate W (1 : Int)).map V.int) |>.set "ways" (.ref w₀)) := Kp.alloc (Kp.alloc (Kp.refl (σ := σ₀)) hd₁) hw₀
  have n1 : St.loc ((((σ₀.set "whole" (.int (W : Int))).put d₁ [V.int 1]).put w₀ ((List.replicate W (1 : Int)).map V.int)).set "ways" (.ref w₀)) "codes" = some (.ref ca) := by walk_at "m_loc"
  have n2 : St.loc ((((σ₀.set "whole" (.int (W : Int))).put d₁ [V.int 1]).put w₀ ((List.replicate W (1 : Int)).map V.int)).set "ways" (.ref w₀)) "size" = some (.int (size : Int)) := by walk_at "m_loc"
  have n3 : St.loc ((((σ₀.set "whole" (.int (W : Int))).put d₁ [V.int 1]).put w₀ ((List.replicate W (1 : Int)).map V.int)).set "ways" (.ref w₀)) "many" = some (.int (many : Int)) := by walk_at "m_loc"
  have n4 : St.loc ((((σ₀.set "whole" (.int (W : Int))).put d₁ [V.int 1]).put w₀ ((List.replicate W (1 : Int)).map V.int)).set "ways" (.ref w₀)) "whole" = some (.int (W : Int)) := by walk_at "m_loc"
  have n5 : St.loc ((((σ₀.set "whole" (.int (W : Int))).put d₁ [V.int 1]).put w₀ ((List.replicate W (1 : Int)).map V.int)).set "ways" (.ref w₀)) "ways" = some (.ref w₀) := by walk_at "m_loc"
  have gw : c.get ((((σ₀.set "whole" (.int (W : Int))).put d₁ [V.int 1]).put w₀ ((List.replicate W (1 : Int)).map V.int)).set "ways" (.ref w₀)) w₀ = some ((List.replicate W (1 : Int)).map V.int) := get_put_same
  have gc := K0.1 ca _ (by simp) g1
  generalize (((σ₀.set "whole" (.int (W : Int))).put d₁ [V.int 1]).put w₀ ((List.replicate W (1 : Int)).map V.int)).set "ways" (.ref w₀) = σ at *
  clear K0 g1 l1 l2 l3 hd₁ hw₀
  -- free = [many ** n for n in range(size)]
  walk_at "m"
  refine Ws_assignComp hc (by walk_at "m_shape") t1 (WIt_range1 hc T' ?_ k5) (by subst_vars; rfl)
  walk_at "ms"
  refine ⟨_, rfl, by walk_at "o", by walk_at "o", ?_⟩
  rw [Int.toNat_natCast]
  refine ⟨fun t acc _ => t ≤ size ∧ acc = ((List.range t).map ((many : Int) ^ ·)).map .int, size, by walk_at "o", trivial, ⟨by walk_at "o", rfl⟩, ?_⟩
  rintro t acc hq ⟨ht, rfl⟩ hin
  refine ⟨ht, ?_, ?_⟩
  · intro v C hv
    simp only [Src.item] at hv
    split at hv
    · cases hv
      walk_at "ms"
      refine ⟨fun h => (by cases h), fun _ => ?_⟩
      walk_at "ms"
      refine Op_pow (by walk_at "o") ?_ ?_
      · have hb' : (Builtin.Int.intBits (many : Int) : Int) ≤ 64 := by walk_at "o"
        calc (Builtin.Int.intBits (many : Int) : Int) * (0 + (t : Int)) ≤ 64 * (0 + (t : Int)) := Int.mul_le_mul_of_nonneg_right hb' (by walk_at "o")
          _ ≤ 2 ^ 27 := by walk_at "o"
      · refine ⟨by walk_at "o", ?_⟩
        have : (0 + (t : Int)).toNat = t := by walk_at "o"
        rw [this, List.range_succ]; simp
    · cases hv
  intro hv fa hfa hqfa
  have htn : t = size := by
    simp only [Src.item] at hv
    split at hv
    · cases hv
    · omega
  subst htn
  have K1 : Kp c [] σ (((σ.join hq).put fa (((List.range t).map ((many : Int) ^ ·)).map .int)).set "free" (.ref fa)) := Kp.alloc (Kp.join Kp.refl hin) (join_none hfa hqfa)
  have m1 : St.loc (((σ.join hq).put fa (((List.range t).map ((many : Int) ^ ·)).map .int)).set "free" (.ref fa)) "codes" = some (.ref ca) := by walk_at "m_loc"
  have m2 : St.loc (((σ.join hq).put fa (((List.range t).map ((many : Int) ^ ·)).map .int)).set "free" (.ref fa)) "size" = some (.int (t : Int)) := by walk_at "m_loc"
  have m3 : St.loc (((σ.join hq).put fa (((List.range t).map ((many : Int) ^ ·)).map .int)).set "free" (.ref fa)) "many" = some (.int (many : Int)) := by walk_at "m_loc"
  have m4 : St.loc (((σ.join hq).put fa (((List.range t).map ((many : Int) ^ ·)).map .int)).set "free" (.ref fa)) "free" = some (.ref fa) := by walk_at "m_loc"
  have m5 : St.loc (((σ.join hq).put fa (((List.range t).map ((many : Int) ^ ·)).map .int)).set "free" (.ref fa)) "whole" = some (.int (W : Int)) := by walk_at "m_loc"
  have m6 : St.loc (((σ.join hq).put fa (((List.range t).map ((many : Int) ^ ·)).map .int)).set "free" (.ref fa)) "ways" = some (.ref w₀) := by walk_at "m_loc"
  have hf0 : St.hp (((σ.join hq).put fa (((List.range t).map ((many : Int) ^ ·)).map .int)).set "free" (.ref fa)) fa = some (((List.range t).map ((many : Int) ^ ·)).map .int) := put_same
  have hfa0 : c.get σ fa = Option.none := hfa
  generalize ((σ.join hq).put fa (((List.range t).map ((many : Int) ^ ·)).map .int)).set "free" (.ref fa) = σ₂ at *
  have gc2 := K1.1 ca _ (by simp) gc
  -- ended = [[0] * size for code in codes]
  walk_at "m"
  refine Ws_assignComp hc (by walk_at "m_shape") t2 (WIt_list ?_) (by subst_vars; rfl)
  walk_at "ms"
  refine ⟨ca, _, rfl, gc2, ?_⟩
  refine ⟨fun u acc hp => u ≤ R ∧ ∃ as : List Addr, acc = as.map .ref ∧ as.length = u ∧ as.Nodup ∧ ∀ b ∈ as, hp b = some ((List.replicate t (0 : Int)).map .int), R, by walk_at "o", by simp only [Src.ok]; rw [gc2]; rfl, ⟨by walk_at "o", [], rfl, rfl, List.nodup_nil, fun b h => by cases h⟩, ?_⟩
  rintro u acc hq2 ⟨hu, as, rfl, has, hnd, hval⟩ hin2
  refine ⟨hu, ?_, ?_⟩
  · intro v C hv
    simp only [Src.item] at hv
    rw [gc2] at hv
    have hul' : u < ((upN codes).map V.int).length := (List.getElem?_eq_some_iff.mp (show ((upN codes).map V.int)[u]? = some v from hv)).1
    rw [List.length_map, hul] at hul'
    walk_at "ms"
    refine ⟨fun h => (by cases h), fun _ => ?_⟩
    walk_at "ms"
    intro _ d₁ hd₁
    walk_at "ms"
    refine Op_mulL put_same (by walk_at "o") (by walk_at "o") (by simp; omega) ?_
    intro d₂ hd₂
    have hn2 : hq2 d₂ = Option.none := by
      have := (hp_of_get_none hd₂).1
      by_cases e : d₂ = d₁
      · subst e; rw [put_same] at this; cases this
      · rw [put_other e] at this; exact this
    refine ⟨by walk_at "o", as ++ [d₂], by simp, by simp; omega, ?_, ?_⟩
    · rw [List.nodup_append]
      refine ⟨hnd, List.nodup_cons.mpr ⟨by simp, List.nodup_nil⟩, ?_⟩
      intro a ha b hb
      rw [List.mem_singleton.mp hb]
      rintro rfl
      rw [hval a ha] at hn2; cases hn2
    · intro b hb
      rcases List.mem_append.mp hb with h | h
      · exact put_new_hp hd₂ (put_new_hp hd₁ (hval b h))
      · rw [List.mem_singleton.mp h, put_same, repL_zero, Int.toNat_natCast]
  intro hv ea hea hqea
  have hun : u = R := by
    simp only [Src.item] at hv
    rw [gc2] at hv
    have := List.getElem?_eq_none_iff.mp (show ((upN codes).map V.int)[u]? = Option.none from hv)
    rw [List.length_map, hul] at this
    omega
  rw [hun] at has
  have K2 : Kp c [] σ (((σ₂.join hq2).put ea (as.map .ref)).set "ended" (.ref ea)) := Kp.alloc (Kp.join K1 hin2) (join_none hea hqea)
  have o1 : St.loc (((σ₂.join hq2).put ea (as.map .ref)).set "ended" (.ref ea)) "codes" = some (.ref ca) := by walk_at "m_loc"
  have o2 : St.loc (((σ₂.join hq2).put ea (as.map .ref)).set "ended" (.ref ea)) "size" = some (.int (t : Int)) := by walk_at "m_loc"
  have o3 : St.loc (((σ₂.join hq2).put ea (as.map .ref)).set "ended" (.ref ea)) "many" = some (.int (many : Int)) := by walk_at "m_loc"
  have o4 : St.loc (((σ₂.join hq2).put ea (as.map .ref)).set "ended" (.ref ea)) "free" = some (.ref fa) := by walk_at "m_loc"
  have o5 : St.loc (((σ₂.join hq2).put ea (as.map .ref)).set "ended" (.ref ea)) "ended" = some (.ref ea) := by walk_at "m_loc"
  have o6 : St.loc (((σ₂.join hq2).put ea (as.map .ref)).set "ended" (.ref ea)) "whole" = some (.int (W : Int)) := by walk_at "m_loc"
  have o7 : St.loc (((σ₂.join hq2).put ea (as.map .ref)).set "ended" (.ref ea)) "ways" = some (.ref w₀) := by walk_at "m_loc"
  have hae : ea ∉ as := fun h => by rw [hval ea h] at hqea; cases hqea
  have haf : fa ∉ as := fun h => by have := hin2 fa _ (hval fa h); rw [get_hp hf0] at this; cases this
  have hfe : fa ≠ ea := by rintro rfl; rw [get_hp hf0] at hea; cases hea
  have hf1 : St.hp (((σ₂.join hq2).put ea (as.map .ref)).set "ended" (.ref ea)) fa = some (((List.range t).map ((many : Int) ^ ·)).map .int) := by
    rw [hp_set, put_other hfe]; exact join_hp hf0
  have he1 : St.hp (((σ₂.join hq2).put ea (as.map .ref)).set "ended" (.ref ea)) ea = some (as.map .ref) := put_same
  have hr1 : Rows (((σ₂.join hq2).put ea (as.map .ref)).set "ended" (.ref ea)) as (cntM codes t many 0).2 := by
    intro j a l h1 h2
    have ham := List.mem_of_getElem? h1
    rw [hp_set, put_other (by rintro rfl; exact hae ham), join_new hin2 (hval a ham)]
    simp only [cntM, List.getElem?_map] at h2
    cases hj : codes[j]? with
    | none => rw [hj] at h2; cases h2
    | some z => rw [hj] at h2; cases h2; rfl
  have hM : ∀ e ∈ fa :: ea :: as, c.get σ e = Option.none := by
    intro e he
    rcases List.mem_cons.mp he with rfl | he
    · exact hfa0
    rcases List.mem_cons.mp he with rfl | he
    · exact K1.back hea
    · exact K1.back (hin2 e _ (hval e he))
  have hM' : ∀ e l, c.get σ e = some l → e ∉ fa :: ea :: as := fun e l h he => by rw [hM e he] at h; cases h
  have hw1 := K2.1 w₀ _ (by simp) gw
  generalize ((σ₂.join hq2).put ea (as.map .ref)).set "ended" (.ref ea) = σ₃ at *
  clear K1 m1 m2 m3 m4 m5 m6 hf0 hval hin2 hea hqea hv hqfa hfa hin gc2
  -- for n in range(size + 2)
  walk_at "m"
  refine Ws_forP hc t3 (WIt_range1 hc T' ?_ k5)
  walk_at "ms"
  refine ⟨_, rfl, by walk_at "o", by walk_at "o", ?_⟩
  have e4 : ((t : Int) + 2).toNat = t + 2 := by walk_at "o"
  rw [e4]
  clear e4
  refine ⟨fun n σ' => n ≤ t + 2 ∧ σ'.loc "codes" = some (.ref ca) ∧ σ'.loc "size" = some (.int (t : Int)) ∧ σ'.loc "many" = some (.int (many : Int)) ∧ σ'.loc "free" = some (.ref fa) ∧ σ'.loc "ended" = some (.ref ea) ∧ σ'.loc "whole" = some (.int (W : Int)) ∧
    Kp c (fa :: ea :: as) σ σ' ∧ σ'.hp fa = some ((cntM codes t many n).1.map .int) ∧ σ'.hp ea = some (as.map .ref) ∧ Rows σ' as (cntM codes t many n).2 ∧
    ∃ w, σ'.loc "ways" = some (.ref w) ∧ w ∉ fa :: ea :: as ∧ c.get σ' w = some ((cWays codes W many n).map .int), t + 2,
    ⟨by walk_at "o", o1, o2, o3, o4, o5, o6, ⟨fun a l _ e => K2.1 a l (by simp) e, fun a l _ e => K2.2 a l (by simp) e⟩, hf1, he1, hr1, w₀, o7, hM' w₀ _ gw, hw1⟩, ?_⟩
  clear K2 o1 o2 o3 o4 o5 o6 o7 hf1 he1 hr1 hw1
  rintro n σ' ⟨hn, m1, m2, m3, m4, m5, m6, mK, mf, me, mr, w, m7, nw, mw⟩
  have mc : c.get σ' ca = some ((upN codes).map .int) := mK.1 ca _ (hM' ca _ gc) gc
  obtain ⟨len1, len2, len3⟩ := cntM_len codes t many n
  refine ⟨hn, trivial, ?_, ?_⟩
  · intro v hv P hP
    simp only [Src.item] at hv
    split at hv
    · rename_i hlt
      cases hv
      generalize hT1 : (cntM codes t many n).1 = T1 at *
      generalize hT2 : (cntM codes t many n).2 = T2 at *
      have hwl : (cWays codes W many n).length = W := cWays_len n
      have hww : cTo codes W many (cWays codes W many n) W = (cWays codes W many (n + 1), cHits codes W many n) := rfl
      generalize hwv : cWays codes W many n = wv at *
      -- fresh = [0] * whole
      walk_at "ms"
      intro _ d₁ hd₁
      walk_at "ms"
      refine Op_mulL put_same (by walk_at "o") (by walk_at "o") (by simp; omega) ?_
      intro fr hfr
      rw [repL_zero, Int.toNat_natCast]
      -- hits = [0] * len(codes)
      walk_at "ms"
      intro _ d₂ hd₂
      walk_at "ms"
      refine Cb_len (get_put_new hd₂ (get_put_new hfr (get_put_new hd₁ mc))) (by rw [List.length_map, hul]; omega) ?_
      refine Op_mulL put_same (by rw [List.length_map, hul]; omega) (by walk_at "o") (by rw [List.length_map, hul]; simp; omega) ?_
      intro hi hhi
      have ehn' : (((((upN codes).map V.int).length : Nat) : Int)).toNat = R := by rw [List.length_map, hul]; omega
      have ehn : (((((upN codes).map V.int).length : Nat) : Int)).toNat = R := by rw [List.length_map, hul]; omega
      rw [repL_zero, ehn]
      have K3 : Kp c [] σ' ((((((σ'.set "n" (.int (0 + (n : Int)))).put d₁ [V.int 0]).put fr ((List.replicate W (0 : Int)).map V.int)).set "fresh" (.ref fr)).put d₂ [V.int 0]).put hi ((List.replicate R (0 : Int)).map V.int)) :=
        Kp.alloc (Kp.alloc (Kp.alloc (Kp.alloc (Kp.refl (σ := σ')) hd₁) hfr) hd₂) hhi
      have hfr0 : c.get σ' fr = Option.none := (Kp.alloc (l := [V.int 0]) (Kp.refl (c := c) (M := []) (σ := σ')) hd₁).back hfr
      have hhi0 : c.get σ' hi = Option.none := (Kp.alloc (l := [V.int 0]) (Kp.alloc (l := (List.replicate W (0 : Int)).map V.int) (Kp.alloc (l := [V.int 0]) (Kp.refl (c := c) (M := []) (σ := σ')) hd₁) hfr) hd₂).back hhi
      have nfh : fr ≠ hi := by
        rintro rfl
        rw [get_put_new hd₂ (by rw [get_set]; exact get_put_same)] at hhi; cases hhi
      have hin0 : ∀ e l, c.get σ' e = some l → e ≠ fr ∧ e ≠ hi := fun e l h => ⟨(by rintro rfl; rw [hfr0] at h; cases h), (by rintro rfl; rw [hhi0] at h; cases h)⟩
      have hasr : ∀ a ∈ as, ∃ l, σ'.hp a = some l := by
        intro a ha
        obtain ⟨j, hj⟩ := List.getElem?_of_mem ha
        have hjl := (List.getElem?_eq_some_iff.mp hj).1
        exact ⟨_, mr j a _ hj (getD_rows (by walk_at "o"))⟩
      have nfa : ∀ a ∈ as, a ≠ fr ∧ a ≠ hi := fun a ha => by obtain ⟨l, hl⟩ := hasr a ha; exact hin0 a l (get_hp hl)
      -- for last in range(whole)
      walk_at "m"
      refine Ws_forP hc t6 (WIt_range1 hc T' ?_ k5)
      walk_at "ms"
      refine ⟨_, rfl, by walk_at "o", by walk_at "o", ?_⟩
      rw [Int.toNat_natCast]
      refine ⟨fun k σ'' => k ≤ W ∧ σ''.loc "codes" = some (.ref ca) ∧ σ''.loc "size" = some (.int (t : Int)) ∧ σ''.loc "many" = some (.int (many : Int)) ∧ σ''.loc "free" = some (.ref fa) ∧ σ''.loc "ended" = some (.ref ea) ∧ σ''.loc "whole" = some (.int (W : Int)) ∧ σ''.loc "ways" = some (.ref w) ∧ σ''.loc "fresh" = some (.ref fr) ∧ σ''.loc "hits" = some (.ref hi) ∧
        Kp c [fr, hi] σ' σ'' ∧ σ''.hp fr = some ((cTo codes W many wv k).1.map .int) ∧ σ''.hp hi = some ((cTo codes W many wv k).2.map .int), W,
        ⟨by walk_at "o", by walk_at "m_loc", by walk_at "m_loc", by walk_at "m_loc", by walk_at "m_loc", by walk_at "m_loc", by walk_at "m_loc", by walk_at "m_loc", by walk_at "m_loc", by walk_at "m_loc", ⟨fun a l _ e => K3.1 a l (by simp) e, fun a l _ e => K3.2 a l (by simp) e⟩, ?_, ?_⟩, ?_⟩
      · rw [hp_set, put_other nfh]
        exact put_new_hp hd₂ (by rw [hp_set]; exact put_same)
      · rw [hp_set, put_same]
        show _ = some ((List.replicate codes.length (0 : Int)).map V.int)
        rw [hR]
      clear K3 hhi hfr hd₁ hd₂
      rintro k σ'' ⟨hk, p1, p2, p3, p4, p5, p6, p7, p8, p9, pK, pf, ph⟩
      refine ⟨hk, trivial, ?_, ?_⟩
      · intro v hv P hP
        simp only [Src.item] at hv
        split at hv
        · rename_i hltk
          cases hv
          rw [Int.zero_add]
          -- for sign in range(many)
          walk_at "m"
          refine Ws_forP hc t7 (WIt_range1 hc T' ?_ k5)
          walk_at "ms"
          refine ⟨_, rfl, by walk_at "o", by walk_at "o", ?_⟩
          rw [Int.toNat_natCast]
          refine ⟨fun s σ₄ => s ≤ many ∧ σ₄.loc "codes" = some (.ref ca) ∧ σ₄.loc "size" = some (.int (t : Int)) ∧ σ₄.loc "many" = some (.int (many : Int)) ∧ σ₄.loc "free" = some (.ref fa) ∧ σ₄.loc "ended" = some (.ref ea) ∧ σ₄.loc "whole" = some (.int (W : Int)) ∧ σ₄.loc "ways" = some (.ref w) ∧ σ₄.loc "fresh" = some (.ref fr) ∧ σ₄.loc "hits" = some (.ref hi) ∧ σ₄.loc "last" = some (.int (k : Int)) ∧
            Kp c [fr, hi] σ' σ₄ ∧ σ₄.hp fr = some ((cRow codes W many (wv.getD k 0) (cTo codes W many wv k) k s).1.map .int) ∧ σ₄.hp hi = some ((cRow codes W many (wv.getD k 0) (cTo codes W many wv k) k s).2.map .int), many,
            ⟨by walk_at "o", by walk_at "m_loc", by walk_at "m_loc", by walk_at "m_loc", by walk_at "m_loc", by walk_at "m_loc", by walk_at "m_loc", by walk_at "m_loc", by walk_at "m_loc", by walk_at "m_loc", by walk_at "m_loc", pK, pf, ph⟩, ?_⟩
          rintro s σ₄ ⟨hs, q1, q2, q3, q4, q5, q6, q7, q8, q9, q10, qK, qf, qh⟩
          refine ⟨hs, trivial, ?_, ?_⟩
          · intro v hv P hP
            simp only [Src.item] at hv
            split at hv
            · rename_i hlts
              cases hv
              rw [Int.zero_add]
              have qc : c.get σ₄ ca = some ((upN codes).map .int) := qK.1 ca _ (by have := hin0 ca _ mc; simp [this]) mc
              have qw : c.get σ₄ w = some (wv.map .int) := qK.1 w _ (by have := hin0 w _ mw; simp [this]) mw
              obtain ⟨ll1, ll2⟩ := cRow_len (codes := codes) (whole := W) (many := many) (x := wv.getD k 0) (m := cTo codes W many wv k) (last := k) s
              obtain ⟨ll3, ll4⟩ := cTo_len (codes := codes) (whole := W) (many := many) (ways := wv) k
              have hnx : cRow codes W many (wv.getD k 0) (cTo codes W many wv k) k (s + 1) = cStep codes W (wv.getD k 0) (cRow codes W many (wv.getD k 0) (cTo codes W many wv k) k s) (k * many + s) := cRow_succ
              generalize cRow codes W many (wv.getD k 0) (cTo codes W many wv k) k s = cr at *
              -- code = last * many + sign
              walk_at "ms"
              refine Op_mul (IntMulOk.of_left (intBits_le_64 (by walk_at "o") (by walk_at "o"))) ?_
              walk_at "ms"
              have ec : ((k : Int) * (many : Int) + (s : Int)) = ((k * many + s : Nat) : Int) := by simp
              rw [ec]
              generalize hcode : k * many + s = code at *
              -- if code in codes
              refine Cm_inI qc ?_
              rw [upN_any]
              constructor
              · intro hb
                have hmem : code ∈ codes := of_decide_eq_true hb
                have hix : codes.idxOf code < codes.length := List.idxOf_lt_length_iff.mpr hmem
                walk_at "ms"
                refine W_index ?_
                walk_at "ms"
                refine ⟨ca, _, rfl, qc, ?_⟩
                walk_at "ms"
                refine ⟨upN codes, _, rfl, qc, upN_mem hmem, by walk_at "o", ?_⟩
                rw [upN_idx]
                refine ⟨hi, _, _, _, rfl, rfl, get_hp qh, by walk_at "o", by walk_at "o", getI (getD_some (by walk_at "o")), ?_⟩
                walk_at "ms"
                refine ⟨w, _, _, _, rfl, rfl, qw, by walk_at "o", by walk_at "o", getI (getD_some (by walk_at "o")), ?_⟩
                walk_at "ms"
                refine W_index ?_
                walk_at "ms"
                refine ⟨ca, _, rfl, qc, ?_⟩
                walk_at "ms"
                refine ⟨upN codes, _, rfl, qc, upN_mem hmem, by walk_at "o", ?_⟩
                rw [upN_idx]
                refine ⟨hi, _, _, rfl, rfl, qh, by walk_at "o", by rw [List.length_map]; omega, by rw [List.length_map]; omega, ?_⟩
                walk_at "ms"
                refine hP _ ?_
                refine ⟨by walk_at "o", by walk_at "m_loc", by walk_at "m_loc", by walk_at "m_loc", by walk_at "m_loc", by walk_at "m_loc", by walk_at "m_loc", by walk_at "m_loc", by walk_at "m_loc", by walk_at "m_loc", by walk_at "m_loc", Kp.turn qK (by simp), ?_, ?_⟩
                · rw [put_other nfh, hnx, cStep, if_pos hmem]; exact qf
                · rw [put_same, hnx, cStep, if_pos hmem]
                  simp [addAt, List.map_set]
              · intro hb
                have hmem : code ∉ codes := of_decide_eq_false hb
                have hlw : code % W < W := Nat.mod_lt _ (by walk_at "o")
                have emod : ((code : Int)).fmod (W : Int) = ((code % W : Nat) : Int) := by
                  rw [Int.fmod_eq_emod_of_nonneg _ (by walk_at "o")]; rfl
                walk_at "ms"
                refine Op_mod (by walk_at "o") ?_
                rw [emod]
                refine ⟨fr, _, _, _, rfl, rfl, get_hp qf, by walk_at "o", by walk_at "o", getI (getD_some (by walk_at "o")), ?_⟩
                walk_at "ms"
                refine ⟨w, _, _, _, rfl, rfl, qw, by walk_at "o", by walk_at "o", getI (getD_some (by walk_at "o")), ?_⟩
                walk_at "ms"
                refine Op_mod (by walk_at "o") ?_
                rw [emod]
                refine ⟨fr, _, _, rfl, rfl, qf, by walk_at "o", by rw [List.length_map]; omega, by rw [List.length_map]; omega, ?_⟩
                walk_at "ms"
                refine hP _ ?_
                refine ⟨by walk_at "o", by walk_at "m_loc", by walk_at "m_loc", by walk_at "m_loc", by walk_at "m_loc", by walk_at "m_loc", by walk_at "m_loc", by walk_at "m_loc", by walk_at "m_loc", by walk_at "m_loc", by walk_at "m_loc", Kp.turn qK (by simp), ?_, ?_⟩
                · rw [put_same, hnx, cStep, if_neg hmem, addAt, List.map_set, Int.toNat_natCast]
                · rw [put_other (Ne.symm nfh), hnx, cStep, if_neg hmem]; exact qh
            · cases hv
          · intro hv
            have hsn : s = many := by
              simp only [Src.item] at hv
              split at hv
              · cases hv
              · omega
            rw [hsn] at qf qh
            refine Wss_nil ?_
            refine hP _ ?_
            exact ⟨by walk_at "o", q1, q2, q3, q4, q5, q6, q7, q8, q9, qK, by rw [cTo_succ]; exact qf, by rw [cTo_succ]; exact qh⟩
        · cases hv
      · intro hv
        have hkn : k = W := by
          simp only [Src.item] at hv
          split at hv
          · cases hv
          · omega
        rw [hkn, hww] at pf ph
        simp only at pf ph
        have hfl : (cHits codes W many n).length = R := by rw [cHits_len]; exact hR
        have hwl' : (cWays codes W many (n + 1)).length = W := cWays_len _
        generalize hfs : cHits codes W many n = fs at *
        generalize hnw : cWays codes W many (n + 1) = nwv at *
        have hkeep : ∀ a ∈ fa :: ea :: as, a ≠ fr ∧ a ≠ hi := by
          intro a ha
          rcases List.mem_cons.mp ha with rfl | ha
          · exact hin0 _ _ (get_hp mf)
          rcases List.mem_cons.mp ha with rfl | ha
          · exact hin0 _ _ (get_hp me)
          · exact nfa a ha
        have hkp : ∀ a ∈ fa :: ea :: as, a ∉ [fr, hi] := fun a ha => by have := hkeep a ha; simp [this]
        have pfa : σ''.hp fa = some (T1.map .int) := pK.2 fa _ (hkp fa (by simp)) mf
        have pea : σ''.hp ea = some (as.map .ref) := pK.2 ea _ (hkp ea (by simp)) me
        have pr : Rows σ'' as T2 := fun j a l h1 h2 => pK.2 a _ (hkp a (by simp [List.mem_of_getElem? h1])) (mr j a l h1 h2)
        have pc : c.get σ'' ca = some ((upN codes).map .int) := pK.1 ca _ (by have := hin0 ca _ mc; simp [this]) mc
        have nfrM : fr ∉ fa :: ea :: as := fun h => (hkeep fr h).1 rfl
        have nhiM : hi ∉ fa :: ea :: as := fun h => (hkeep hi h).2 rfl
        have ncaM : ca ∉ fa :: ea :: as := hM' ca _ gc
        have K5 : Kp c (fa :: ea :: as) σ σ'' := by
          refine Kp.under mK pK ?_
          intro e he
          right
          have he0 : c.get σ' e = Option.none := by
            rcases List.mem_cons.mp he with rfl | he
            · exact hfr0
            · rw [List.mem_singleton.mp he]; exact hhi0
          have heM : e ∉ fa :: ea :: as := by
            rcases List.mem_cons.mp he with rfl | he
            · exact nfrM
            · rw [List.mem_singleton.mp he]; exact nhiM
          cases h : c.get σ e with
          | none => rfl
          | some l => have := mK.1 e l heM h; rw [he0] at this; cases this
        -- ways = fresh; free.append(sum(ways))
        walk_at "ms"
        refine ⟨fa, _, rfl, pfa, ?_⟩
        walk_at "ms"
        refine Cb_sum hc (ns := nwv) (get_hp pf) ?_
        refine ⟨_, pfa, by rw [List.length_map]; omega, ?_⟩
        have nff : fr ≠ fa := fun h => nfrM (by simp [h])
        have nhf : hi ≠ fa := fun h => nhiM (by simp [h])
        have ncf : ca ≠ fa := fun h => ncaM (by simp [h])
        -- for x in range(len(codes))
        walk_at "m"
        refine Ws_forP hc t10 (WIt_range1 hc T' ?_ k5)
        walk_at "ms"
        refine Cb_len (by rw [get_put_other ncf]; exact pc) (by rw [List.length_map]; omega) ?_
        refine ⟨_, rfl, by walk_at "o", by rw [List.length_map]; omega, ?_⟩
        rw [ehn]
        refine ⟨fun y σ₄ => y ≤ R ∧ σ₄.loc "codes" = some (.ref ca) ∧ σ₄.loc "size" = some (.int (t : Int)) ∧ σ₄.loc "many" = some (.int (many : Int)) ∧ σ₄.loc "free" = some (.ref fa) ∧ σ₄.loc "ended" = some (.ref ea) ∧ σ₄.loc "whole" = some (.int (W : Int)) ∧ σ₄.loc "ways" = some (.ref fr) ∧ σ₄.loc "hits" = some (.ref hi) ∧
          Kp c as ((σ''.set "ways" (.ref fr)).put fa (T1.map V.int ++ [V.int nwv.sum])) σ₄ ∧ Rows σ₄ as (growTo T2 fs y), R,
          ⟨by walk_at "o", by walk_at "m_loc", by walk_at "m_loc", by walk_at "m_loc", by walk_at "m_loc", by walk_at "m_loc", by walk_at "m_loc", by walk_at "m_loc", by walk_at "m_loc", Kp.refl, ?_⟩, ?_⟩
        · rw [growTo_zero]
          intro j a l h1 h2
          rw [put_other (by rintro rfl; exact haf (List.mem_of_getElem? h1))]
          exact pr j a l h1 h2
        rintro z σ₄ ⟨hz, q1, q2, q3, q4, q5, q6, q7, q8, qK, qr⟩
        have qe : σ₄.hp ea = some (as.map .ref) := qK.2 ea _ hae (by rw [put_other (Ne.symm hfe)]; exact pea)
        have qhi : σ₄.hp hi = some (fs.map .int) := qK.2 hi _ (fun h => nhiM (by simp [h])) (by rw [put_other nhf]; exact ph)
        have qfa : σ₄.hp fa = some (T1.map .int ++ [V.int nwv.sum]) := qK.2 fa _ haf put_same
        refine ⟨hz, trivial, ?_, ?_⟩
        · intro v hv P hP
          simp only [Src.item] at hv
          split at hv
          · rename_i hltz
            cases hv
            rw [Int.zero_add]
            have hza : z < as.length := by walk_at "o"
            have hrow := qr z as[z] _ (List.getElem?_eq_getElem hza) (growTo_get (by walk_at "o"))
            rw [if_neg (by walk_at "o")] at hrow
            have hrl := len3 z _ (getD_rows (by walk_at "o"))
            walk_at "ms"
            refine ⟨ea, _, _, _, rfl, rfl, get_hp qe, by walk_at "o", by walk_at "o", (show _ = some (V.ref as[z]) from by simp [hza]), ?_⟩
            refine ⟨as[z], _, rfl, hrow, ?_⟩
            walk_at "ms"
            refine ⟨hi, _, _, _, rfl, rfl, get_hp qhi, by walk_at "o", by walk_at "o", getI (getD_some (by walk_at "o")), ?_⟩
            refine ⟨_, hrow, by simp only [List.length_map]; omega, ?_⟩
            refine Wss_nil ?_
            refine hP _ ?_
            refine ⟨by walk_at "o", by walk_at "m_loc", by walk_at "m_loc", by walk_at "m_loc", by walk_at "m_loc", by walk_at "m_loc", by walk_at "m_loc", by walk_at "m_loc", by walk_at "m_loc", Kp.turn qK (List.getElem_mem hza), ?_⟩
            intro j a l h1 h2
            have hjl : j < T2.length := by
              have := (List.getElem?_eq_some_iff.mp h2).1
              rw [growTo_length] at this; exact this
            rw [growTo_get hjl] at h2
            by_cases hjz : j = z
            · subst hjz
              rw [List.getElem?_eq_getElem hza] at h1; cases h1
              rw [if_pos (by walk_at "o")] at h2; cases h2
              rw [put_same]; simp
            · have hne : a ≠ as[z] := by
                rintro rfl
                exact hjz (nodup_at hnd h1 (List.getElem?_eq_getElem hza))
              rw [put_other hne]
              refine qr j a l h1 ?_
              rw [growTo_get hjl, ← h2]
              congr 1
              by_cases hj : j < z
              · rw [if_pos hj, if_pos (by walk_at "o")]
              · rw [if_neg hj, if_neg (by walk_at "o")]
          · cases hv
        · intro hv
          have hzn : z = R := by
            simp only [Src.item] at hv
            split at hv
            · cases hv
            · omega
          refine Wss_nil ?_
          refine hP _ ?_
          refine ⟨by walk_at "o", by walk_at "m_loc", by walk_at "m_loc", by walk_at "m_loc", by walk_at "m_loc", by walk_at "m_loc", by walk_at "m_loc", ?_, ?_, qe, ?_, fr, q7, nfrM, ?_⟩
          · exact Kp.under (Kp.turn K5.set (by simp)) qK fun e he => .inl (by simp [he])
          · rw [qfa, cntM, hT1, hW, hnw]; simp
          · intro j a l h1 h2
            refine qr j a l h1 ?_
            rw [hzn, ← h2, cntM, hT2, hW, hfs, hR]
          · refine qK.1 fr _ (fun h => nfrM (by simp [h])) ?_
            rw [get_put_other nff, hnw]
            exact get_hp pf
    · cases hv
  · intro hv
    have hnn : n = t + 2 := by
      simp only [Src.item] at hv
      split at hv
      · cases hv
      · omega
    subst hnn
    walk_at "ms"
    intro _ d hd
    have nd : ∀ b l, σ'.hp b = some l → b ≠ d := by rintro b l e rfl; rw [get_hp e] at hd; cases hd
    refine hQ₀ _ _ ⟨_, rfl, d, fa, ea, rfl, put_same, by rw [put_other (nd _ _ mf)]; exact mf, as, by rw [put_other (nd _ _ me)]; exact me, by walk_at "o", ?_⟩
    intro j a l h1 h2
    rw [put_other (nd _ _ (mr j a l h1 h2))]; exact mr j a l h1 h2
end Mine

namespace Mine
theorem mem_chain (p : Nat → Int) (k : Nat) : ∀ j, j ∈ chain p k ↔ 0 < j ∧ (j = k ∨ Bd p k j) := by
  induction k using Nat.strongRecOn with
  | ind k ih =>
    intro j
    by_cases h : k = 0
    · subst h
      rw [chain_zero]
      constructor
      · intro h; cases h
      · rintro ⟨h0, rfl | h1⟩
        · omega
        · exact absurd h1.1 (Nat.not_lt_zero _)
    · have hpos := Nat.pos_of_ne_zero h
      have hlt := bord_lt p hpos
      obtain ⟨hb, hmax⟩ := bord_spec p hpos
      rw [chain_pos p h, List.mem_cons, ih _ hlt]
      constructor
      · rintro (rfl | ⟨h0, rfl | h1⟩)
        · exact ⟨hpos, .inl rfl⟩
        · exact ⟨h0, .inr hb⟩
        · exact ⟨h0, .inr (hb.trans h1)⟩
      · rintro ⟨h0, rfl | h1⟩
        · exact .inl rfl
        · right
          refine ⟨h0, ?_⟩
          have := hmax j h1
          rcases Nat.lt_or_ge j (bord p k) with h2 | h2
          · exact .inr (hb.below h1 h2)
          · exact .inl (by omega)
theorem nodup_chain (p : Nat → Int) (k : Nat) : (chain p k).Nodup := by
  induction k using Nat.strongRecOn with
  | ind k ih =>
    by_cases h : k = 0
    · subst h; rw [chain_zero]; exact List.nodup_nil
    · have hlt := bord_lt p (Nat.pos_of_ne_zero h)
      rw [chain_pos p h]
      refine List.nodup_cons.mpr ⟨fun hm => ?_, ih _ hlt⟩
      have := chain_le p _ k hm
      omega
theorem mem_borders (p : Nat → Int) {n : Nat} (hn : 0 < n) (j : Nat) : j ∈ chain p (bord p n) ↔ 0 < j ∧ Bd p n j := by
  rw [mem_chain]
  obtain ⟨hb, hmax⟩ := bord_spec p hn
  constructor
  · rintro ⟨h0, rfl | h1⟩
    · exact ⟨h0, hb⟩
    · exact ⟨h0, hb.trans h1⟩
  · rintro ⟨h0, h1⟩
    refine ⟨h0, ?_⟩
    have := hmax j h1
    rcases Nat.lt_or_ge j (bord p n) with h2 | h2
    · exact .inr (hb.below h1 h2)
    · exact .inl (by omega)

theorem lapP_lo {xs ys : List Int} {m : Int} {j : Nat} (h : j < ys.length) : lapP xs ys m j = ys.getD j 0 := by
  unfold lapP lapRow
  rw [List.getD_eq_getElem?_getD, List.getD_eq_getElem?_getD, List.append_assoc, List.getElem?_append_left h]
theorem lapP_at {xs ys : List Int} {m : Int} : lapP xs ys m ys.length = m := by
  unfold lapP lapRow
  rw [List.getD_eq_getElem?_getD, List.append_assoc, List.getElem?_append_right (Nat.le_refl _)]; simp
theorem lapP_hi {xs ys : List Int} {m : Int} {j : Nat} : lapP xs ys m (ys.length + 1 + j) = xs.getD j 0 := by
  unfold lapP lapRow
  rw [List.getD_eq_getElem?_getD, List.getD_eq_getElem?_getD, List.getElem?_append_right (by simp)]
  congr 2
  simp
theorem lapRow_len (xs ys : List Int) (m : Int) : (lapRow xs ys m).length = ys.length + 1 + xs.length := by simp [lapRow]; omega
theorem lap_bd {xs ys : List Int} {m : Int} (hm : m ∉ xs) {k : Nat} (h : Bd (lapP xs ys m) (lapRow xs ys m).length k) : k ≤ ys.length := by
  apply Classical.byContradiction
  intro hlt
  have h1 := h.1
  rw [lapRow_len] at h1
  have h2 := h.2 ys.length (by omega)
  rw [lapP_at, lapRow_len, show ys.length + 1 + xs.length - k + ys.length = ys.length + 1 + (ys.length + xs.length - k) by omega, lapP_hi] at h2
  apply hm
  rw [h2, List.getD_eq_getElem?_getD, List.getElem?_eq_getElem (show ys.length + xs.length - k < xs.length by omega)]
  exact List.getElem_mem _
theorem lap_bound {xs ys : List Int} {m : Int} (hm : m ∉ xs) : bord (lapP xs ys m) (lapRow xs ys m).length ≤ ys.length :=
  lap_bd hm (bord_spec _ (by rw [lapRow_len]; omega)).1
theorem lap_mem {xs ys : List Int} {m : Int} {n : Nat} (hm : m ∉ xs) (hx : xs.length = n) (hy : ys.length = n) (k : Nat) : k ∈ lapsN xs ys m ↔ 0 < k ∧ k ≤ n ∧ ∀ j, j < k → ys.getD j 0 = xs.getD (n - k + j) 0 := by
  unfold lapsN
  rw [mem_borders _ (by rw [lapRow_len]; omega)]
  constructor
  · rintro ⟨h0, h1⟩
    have hk := lap_bd hm h1
    refine ⟨h0, by omega, fun j hj => ?_⟩
    have := h1.2 j hj
    rw [lapP_lo (by omega), lapRow_len, show ys.length + 1 + xs.length - k + j = ys.length + 1 + (n - k + j) by omega, lapP_hi] at this
    exact this
  · rintro ⟨h0, hk, h⟩
    refine ⟨h0, by rw [lapRow_len]; omega, fun j hj => ?_⟩
    rw [lapP_lo (by omega), lapRow_len, show ys.length + 1 + xs.length - k + j = ys.length + 1 + (n - k + j) by omega, lapP_hi]
    exact h j hj
theorem nodup_laps (xs ys : List Int) (m : Int) : (lapsN xs ys m).Nodup := nodup_chain _ _
theorem only_one {l : List Nat} {n : Nat} (hn : l.Nodup) (h : ∀ x ∈ l, x = n) : l = if n ∈ l then [n] else [] := by
  match l, hn, h with
  | [], _, _ => simp
  | [a], _, h =>
    have := h a (by simp)
    subst this; simp
  | a :: b :: r, hn, h =>
    have h1 := h a (by simp)
    have h2 := h b (by simp)
    subst h1
    subst h2
    simp at hn
theorem eq_of_getD {xs ys : List Int} {n : Nat} (hx : xs.length = n) (hy : ys.length = n) (h : ∀ j, j < n → ys.getD j 0 = xs.getD j 0) : xs = ys := by
  apply List.ext_getElem?
  intro j
  by_cases hj : j < n
  · rw [getD_some (by omega), getD_some (by omega), h j hj]
  · rw [List.getElem?_eq_none (by omega), List.getElem?_eq_none (by omega)]
theorem lap_filter {xs ys : List Int} {m : Int} {n : Nat} (h1 : 1 ≤ n) (hm : m ∉ xs) (hx : xs.length = n) (hy : ys.length = n) : (lapsN xs ys m).filter (fun k => decide (n ≤ k)) = if xs = ys then [n] else [] := by
  have hall : ∀ x ∈ (lapsN xs ys m).filter (fun k => decide (n ≤ k)), x = n := by
    intro x hx'
    obtain ⟨ha, hb⟩ := List.mem_filter.mp hx'
    have := ((lap_mem hm hx hy x).mp ha).2.1
    have := of_decide_eq_true hb
    omega
  rw [only_one ((nodup_laps xs ys m).filter _) hall]
  have : n ∈ (lapsN xs ys m).filter (fun k => decide (n ≤ k)) ↔ xs = ys := by
    rw [List.mem_filter, lap_mem hm hx hy]
    constructor
    · rintro ⟨⟨_, _, h⟩, _⟩
      exact eq_of_getD hx hy fun j hj => by have := h j hj; rw [Nat.sub_self, Nat.zero_add] at this; exact this
    · rintro rfl
      exact ⟨⟨h1, Nat.le_refl _, fun j _ => by rw [Nat.sub_self, Nat.zero_add]⟩, by simp⟩
  by_cases h : xs = ys
  · rw [if_pos h, if_pos (this.mpr h)]
  · rw [if_neg h, if_neg (fun q => h (this.mp q))]
end Mine

namespace Mine
open PySem PyProof.Rows

def shR (t : Int) (r : List Nat) : List Int := r.map fun (k : Nat) => t + (k : Int)
noncomputable def lineN (R : List (List Nat)) (t : Int) (X : List Nat) : List (List Nat) := R.map fun Y => lapsN (shR t X) (shR t Y) (t - 1)
noncomputable def lapsAll (R : List (List Nat)) (t : Int) : List (List (List Nat)) := R.map (lineN R t)
def codeOf (mn : Nat) (r : List Nat) : Nat := r.foldl (fun c d => c * mn + d) 0
/-- the plain law of statement 2 -/
def Main2 : Prop := ∀ (R : List (List Nat)) (mn sz : Nat) (t : Int), R.Nodup → (∀ r ∈ R, r.length = sz ∧ ∀ d ∈ r, d < mn) → 1 ≤ sz → 1 ≤ mn → toldM (lapsAll R t) sz (mn : Int) (sz + 2) = cntM (R.map (codeOf mn)) sz mn (sz + 2)
theorem shR_len (t : Int) (r : List Nat) : (shR t r).length = r.length := by simp [shR]
theorem shR_mark (t : Int) (r : List Nat) : t - 1 ∉ shR t r := by
  intro h
  obtain ⟨k, _, e⟩ := List.mem_map.mp h
  omega
theorem shR_inj {t : Int} {r s : List Nat} (h : shR t r = shR t s) : r = s := List.map_inj_right (fun a b e => by omega) |>.mp h
theorem upN_inj {r s : List Nat} (h : upN r = upN s) : r = s := List.map_inj_right (fun a b e => by omega) |>.mp h
theorem upN_len (r : List Nat) : (upN r).length = r.length := by simp [upN]
theorem chain_len (p : Nat → Int) (k : Nat) : (chain p k).length ≤ k := by
  induction k using Nat.strongRecOn with
  | ind k ih =>
    by_cases h : k = 0
    · subst h; rw [chain_zero]; simp
    · rw [chain_pos p h]
      have hlt := bord_lt p (Nat.pos_of_ne_zero h)
      have := ih _ hlt
      simp; omega
theorem lap_len {xs ys : List Int} {m : Int} (hm : m ∉ xs) : (lapsN xs ys m).length ≤ ys.length := Nat.le_trans (chain_len _ _) (lap_bound hm)
theorem any_rows (R : List (List Nat)) (rl : List Nat) : (((R.map upN).map fun l => PyData.list (l.map .int)).any fun y => PyData.eqv y (.list ((upN rl).map .int))) = decide (rl ∈ R) := by
  induction R with
  | nil => rfl
  | cons r R ih =>
    rw [List.map_cons, List.map_cons, List.any_cons, ih, PyData.eqv, PySem.W.ked_eqvAll]
    by_cases h : rl = r
    · subst h; simp
    · have h' : ¬ upN r = upN rl := fun e => h (upN_inj e).symm
      simp [h, h']
theorem fmod_nat (n m : Nat) : (n : Int).fmod (m : Int) = ((n % m : Nat) : Int) := by
  rw [Int.fmod_eq_emod_of_nonneg _ (by omega)]; rfl
theorem fdiv_nat (n m : Nat) : (n : Int).fdiv (m : Int) = ((n / m : Nat) : Int) := by
  rw [Int.fdiv_eq_ediv_of_nonneg _ (by omega)]; rfl
theorem W_IfAny {c : Cx} {σ : St} {Q : V → St → Prop} {t x y : Expr} {pos : Pos} (h : Wb c t (fun _ σ₁ => W c x (fun v σ₂ => σ₂ = σ₁ ∧ ∃ o, v = .int o) σ₁ ∧ W c y (fun v σ₂ => σ₂ = σ₁ ∧ ∃ o, v = .int o) σ₁ ∧ ∀ o : Int, Q (.int o) σ₁) σ) : W c (.IfExp t x y pos) Q σ :=
  W_IfExp (Wp.mono h fun _ _ ⟨h1, h2, h3⟩ => ⟨fun _ => Wp.mono h1 fun _ _ ⟨e, o, ev⟩ => by subst e; subst ev; exact h3 o, fun _ => Wp.mono h2 fun _ _ ⟨e, o, ev⟩ => by subst e; subst ev; exact h3 o⟩)
theorem has_pair {G : Addr → Option (List V)} {d a e : Addr} {l : List Int} {ls : List (List Int)} (hd : G d = some [.ref a, .ref e]) (ha : G a = some (l.map .int)) (he : LL G e ls) : Has G (.ref d) (.list [.list (l.map .int), .list (ls.map fun l => .list (l.map .int))]) :=
  .list hd (.cons (Has.ints ha) (.cons he.has .nil))
theorem eqv_pair (l : List Int) (ls : List (List Int)) : PyData.eqv (.list [.list (l.map .int), .list (ls.map fun l => .list (l.map .int))]) (.list [.list (l.map .int), .list (ls.map fun l => .list (l.map .int))]) = true := by
  rw [PyData.eqv, PyData.eqvAll, PyData.eqvAll, eqv_ints, eqv_LL]; rfl
theorem shaped_pair (l : List Int) (ls : List (List Int)) : SeqAt.shaped (.list [.list (l.map .int), .list (ls.map fun l => .list (l.map .int))]) = true := by
  obtain ⟨h1, h2⟩ := canLay_LL ls
  simp only [SeqAt.shaped, PyData.canLay0, PyData.canLayAll0, PyData.depth, PyData.depthAll, PySem.W.ke_canLayAll0, PySem.W.ke_depthAll, h1, Bool.true_and, Bool.and_true]
  exact decide_eq_true (by omega)
theorem codeOf_take {mn u d : Nat} {X : List Nat} (h : X[u]? = some d) : codeOf mn (X.take (u + 1)) = codeOf mn (X.take u) * mn + d := by
  unfold codeOf
  rw [List.take_add_one, h, List.foldl_append]; rfl

-- a name's value is found
local macro_rules | `(tactic| walk_at "m_loc") => `(tactic| first | with_reducible exact loc_same | with_reducible assumption | (with_reducible apply loc_put; walk_at "m_loc") | (with_reducible apply loc_join; walk_at "m_loc") | (apply loc_other (by decide); walk_at "m_loc") | (apply innerLoc_of (by subst_vars; rfl); walk_at "m_loc"))
local macro_rules | `(tactic| walk_at "m_ok") => `(tactic| first | with_reducible assumption | exact Cx.Ok.inner (by assumption) rfl)
local macro_rules | `(tactic| walk_at "m_kind") => `(tactic| first | with_reducible assumption | (subst_vars; rfl))
local macro_rules | `(tactic| walk_at "m_shape") => `(tactic| exact ⟨rfl, by subst_vars; rfl, rfl, rfl, rfl⟩)
local macro_rules | `(tactic| walk_at "m_tgt") => `(tactic| first | with_reducible assumption | exact .inl (by assumption) | exact .inr (by assumption))
-- one step
local macro_rules | `(tactic| walk_at "m") => `(tactic| first
  | with_reducible refine WL_cons ?_
  | with_reducible refine WL_nil ?_
  | with_reducible refine WIfs_nil ?_
  | with_reducible refine WIfs_one ?_
  | with_reducible refine WP_none ?_
  | with_reducible refine WP_some ?_
  | with_reducible refine Wss_cons ?_
  | ((with_reducible show W _ (Expr.Name _ _) _ _); refine W_name (by walk_at "m_ok") (by walk_at "m_loc") ?_)
  | with_reducible refine W_int ?_
  | with_reducible refine W_bool ?_
  | with_reducible refine W_BinOp ?_
  | with_reducible refine Op_add ?_
  | with_reducible refine Op_sub ?_
  | with_reducible refine Cm_eq ?_
  | with_reducible refine Cm_ne ?_
  | with_reducible refine Cm_lt ?_
  | with_reducible refine Cm_ge ?_
  | with_reducible refine Cm_le ?_
  | ((with_reducible show Ws _ (Stmt.Assign [Expr.Name _ _] _ _) _ _); refine Ws_assign (by walk_at "m_ok") (by walk_at "m_tgt") ?_)
  | ((with_reducible show Ws _ (Stmt.Assign [Expr.Subscript _ _ _] _ _) _ _); refine Ws_assignAt ?_)
  | with_reducible refine Ws_return ?_
  | with_reducible refine Ws_break ?_
  | with_reducible refine Ws_if ?_
  | ((with_reducible show Ws _ (Stmt.Expr _ _) _ _); refine Ws_append (by walk_at "m_ok") ?_)
  | ((with_reducible show Wb _ (Expr.Compare _ _ _ _) _ _); refine Wb_Compare ?_)
  | ((with_reducible show Wb _ (Expr.BoolOp BoolOp.Or _ _) _ _); refine Wb_or ?_)
  | ((with_reducible show Wb _ (Expr.BoolOp BoolOp.And _ _) _ _); refine Wb_and ?_)
  | ((with_reducible show W _ (Expr.IfExp _ _ _ _) _ _); refine W_IfExp ?_)
  | ((with_reducible show W _ (Expr.List _ _) _ _); refine W_List rfl (by decide) ?_)
  | ((with_reducible show W _ (Expr.Call (Expr.Name (Str.ofString "len") _) _ _ _) _ _); refine W_callB (x := "len") (id := "len") (by walk_at "m_ok") (by assumption) ?_ (by simp [biTable]) (by walk_at "m_kind") rfl)
  | ((with_reducible show W _ (Expr.Call (Expr.Name (Str.ofString "max") _) _ _ _) _ _); refine W_callB (x := "max") (id := "max") (by walk_at "m_ok") (by assumption) ?_ (by simp [biTable]) (by walk_at "m_kind") rfl)
  | ((with_reducible show W _ (Expr.Call (Expr.Name (Str.ofString "min") _) _ _ _) _ _); refine W_callB (x := "min") (id := "min") (by walk_at "m_ok") (by assumption) ?_ (by simp [biTable]) (by walk_at "m_kind") rfl)
  | ((with_reducible show W _ (Expr.Call (Expr.Name (Str.ofString "sum") _) _ _ _) _ _); refine W_callB (x := "sum") (id := "sum") (by walk_at "m_ok") (by assumption) ?_ (by simp [biTable]) (by walk_at "m_kind") rfl)
  | ((with_reducible show W _ (Expr.Subscript _ (Expr.Slice _ _ none _) _) _ _); refine W_slice ?_ (fun o i => [i, o]))
  | ((with_reducible show W _ (Expr.Subscript _ (Expr.Slice _ _ _ _) _) _ _); refine W_slice ?_ (fun o i => [o, i]))
  | ((with_reducible show W _ (Expr.Subscript _ _ _) _ _); refine W_item ?_)
  | ((with_reducible show Wss _ [] _ _); refine Wss_nil ?_))
local macro_rules | `(tactic| walk_at "ms") => `(tactic| (walk_at "m"; repeat walk_at "m"))
-- small sums
local macro_rules | `(tactic| walk_at "o") => `(tactic| first | with_reducible exact Nat.zero_le _ | with_reducible exact Int.natCast_nonneg _ | with_reducible exact neg62 _ | with_reducible assumption | with_reducible exact Nat.lt_iff_add_one_le.mp (by with_reducible assumption) | omega)

set_option maxHeartbeats 8000000 in
theorem law2_run (hmain : Main2) {c₀ : Cx} {mg : Str → Option Value} (hA : Lv 3 c₀.A) (T : TopOk c₀.ht mg) {σ₁ : St} {pm cd doc : Value} {L f : Addr}
    {f1 f3 f4 f5 : Addr} {pm1 cd1 doc1 pm3 cd3 doc3 pm4 cd4 doc4 pm5 cd5 doc5 : Value}
    (n1 : mg "_generate_overlap_table" = some (.ref f1)) (F1 : FnAt c₀.ht f1 (fdOf PySem.Challenge.pw_oc0404_02 1 pm1 cd1 doc1) (bodyOf PySem.Challenge.pw_oc0404_02 1) ["prefix"])
    (n3 : mg "_law_laps" = some (.ref f3)) (F3 : FnAt c₀.ht f3 (fdOf PySem.Challenge.pw_oc0404_02 3 pm3 cd3 doc3) (bodyOf PySem.Challenge.pw_oc0404_02 3) ["first", "second", "mark"])
    (n4 : mg "_law_told" = some (.ref f4)) (F4 : FnAt c₀.ht f4 (fdOf PySem.Challenge.pw_oc0404_02 4 pm4 cd4 doc4) (bodyOf PySem.Challenge.pw_oc0404_02 4) ["laps", "size", "many"])
    (n5 : mg "_law_counted" = some (.ref f5)) (F5 : FnAt c₀.ht f5 (fdOf PySem.Challenge.pw_oc0404_02 5 pm5 cd5 doc5) (bodyOf PySem.Challenge.pw_oc0404_02 5) ["codes", "size", "many"])
    {a : Addr} {ns : List Int} (ha : c₀.get σ₁ a = some (ns.map .int)) (hz : ns.length ≤ 1000) :
    Wss (callee c₀ σ₁ (fdOf PySem.Challenge.pw_oc0404_02 6 pm cd doc) L f) (bodyOf PySem.Challenge.pw_oc0404_02 6) (fun fl _ => ∃ v, fl = .ret v ∧ v = .bool true) ⟨argLoc ["script"] [.ref a], fun _ => Option.none⟩ := by
  obtain ⟨c, hcd⟩ : ∃ c, c = callee c₀ σ₁ (fdOf PySem.Challenge.pw_oc0404_02 6 pm cd doc) L f := ⟨_, rfl⟩
  rw [← hcd]
  refine abs_post ?_
  intro Q₀ hQ₀
  have hc : c.Ok := by rw [hcd]; exact callee_ok (hA.less (by walk_at "o")) rfl rfl rfl
  have hA2 : Lv 2 c.A := by rw [hcd]; exact hA.deeper _
  have hA1 : Lv 1 c.A := hA2.less (by walk_at "o")
  have T' : TopOk c.ht mg := by rw [hcd]; exact T
  have F1 : FnAt c.ht f1 (fdOf PySem.Challenge.pw_oc0404_02 1 pm1 cd1 doc1) (bodyOf PySem.Challenge.pw_oc0404_02 1) ["prefix"] := by rw [hcd]; exact F1
  have F3 : FnAt c.ht f3 (fdOf PySem.Challenge.pw_oc0404_02 3 pm3 cd3 doc3) (bodyOf PySem.Challenge.pw_oc0404_02 3) ["first", "second", "mark"] := by rw [hcd]; exact F3
  have F4 : FnAt c.ht f4 (fdOf PySem.Challenge.pw_oc0404_02 4 pm4 cd4 doc4) (bodyOf PySem.Challenge.pw_oc0404_02 4) ["laps", "size", "many"] := by rw [hcd]; exact F4
  have F5 : FnAt c.ht f5 (fdOf PySem.Challenge.pw_oc0404_02 5 pm5 cd5 doc5) (bodyOf PySem.Challenge.pw_oc0404_02 5) ["codes", "size", "many"] := by rw [hcd]; exact F5
  have t1 : Tgt c "total" := by rw [hcd]; first | exact .inl rfl | exact .inr ⟨rfl, rfl, rfl⟩
  have t2 : Tgt c "base" := by rw [hcd]; first | exact .inl rfl | exact .inr ⟨rfl, rfl, rfl⟩
  have t3 : Tgt c "many" := by rw [hcd]; first | exact .inl rfl | exact .inr ⟨rfl, rfl, rfl⟩
  have t4 : Tgt c "size" := by rw [hcd]; first | exact .inl rfl | exact .inr ⟨rfl, rfl, rfl⟩
  have t5 : Tgt c "count" := by rw [hcd]; first | exact .inl rfl | exact .inr ⟨rfl, rfl, rfl⟩
  have t6 : Tgt c "rows" := by rw [hcd]; first | exact .inl rfl | exact .inr ⟨rfl, rfl, rfl⟩
  have t7 : Tgt c "i" := by rw [hcd]; first | exact .inl rfl | exact .inr ⟨rfl, rfl, rfl⟩
  have t8 : Tgt c "row" := by rw [hcd]; first | exact .inl rfl | exact .inr ⟨rfl, rfl, rfl⟩
  have t9 : Tgt c "k" := by rw [hcd]; first | exact .inl rfl | exact .inr ⟨rfl, rfl, rfl⟩
  have t10 : Tgt c "one" := by rw [hcd]; first | exact .inl rfl | exact .inr ⟨rfl, rfl, rfl⟩
  have t11 : Tgt c "laps" := by rw [hcd]; first | exact .inl rfl | exact .inr ⟨rfl, rfl, rfl⟩
  have t12 : Tgt c "first" := by rw [hcd]; first | exact .inl rfl | exact .inr ⟨rfl, rfl, rfl⟩
  have t13 : Tgt c "line" := by rw [hcd]; first | exact .inl rfl | exact .inr ⟨rfl, rfl, rfl⟩
  have t14 : Tgt c "second" := by rw [hcd]; first | exact .inl rfl | exact .inr ⟨rfl, rfl, rfl⟩
  have t15 : Tgt c "x" := by rw [hcd]; first | exact .inl rfl | exact .inr ⟨rfl, rfl, rfl⟩
  have t16 : Tgt c "y" := by rw [hcd]; first | exact .inl rfl | exact .inr ⟨rfl, rfl, rfl⟩
  have t17 : Tgt c "codes" := by rw [hcd]; first | exact .inl rfl | exact .inr ⟨rfl, rfl, rfl⟩
  have t18 : Tgt c "code" := by rw [hcd]; first | exact .inl rfl | exact .inr ⟨rfl, rfl, rfl⟩
  have k1 : c.env.kindOf "sum" = some .globalImplicit := by rw [hcd]; rfl
  have k2 : c.env.kindOf "len" = some .globalImplicit := by rw [hcd]; rfl
  have k3 : c.env.kindOf "min" = some .globalImplicit := by rw [hcd]; rfl
  have k4 : c.env.kindOf "range" = some .globalImplicit := by rw [hcd]; rfl
  have k7 : c.env.kindOf "_law_laps" = some .globalImplicit := by rw [hcd]; rfl
  have k8 : c.env.kindOf "_law_told" = some .globalImplicit := by rw [hcd]; rfl
  have k9 : c.env.kindOf "_law_counted" = some .globalImplicit := by rw [hcd]; rfl
  dsimp only [bodyOf, PySem.Challenge.pw_oc0404_02, List.getElem?_cons_succ, List.getElem?_cons_zero]
  have l1 : (⟨argLoc ["script"] [.ref a], fun _ => Option.none⟩ : St).loc "script" = some (.ref a) := rfl
  have g1 : c.get ⟨argLoc ["script"] [.ref a], fun _ => Option.none⟩ a = some (ns.map .int) := by rw [get_ro rfl, hcd]; exact ha
  generalize (⟨argLoc ["script"] [.ref a], fun _ => Option.none⟩ : St) = σ at *
  have hsl : sizeLine = 2 ^ 24 := rfl
  -- total = sum(script)
  walk_at "ms"
  refine Cb_sum hc g1 ?_
  generalize ns.sum = total
  -- base = 2 + len(script) % 2
  walk_at "ms"
  refine Cb_len g1 (by simp; omega) ?_
  walk_at "ms"
  refine Op_mod (by decide) ?_
  walk_at "ms"
  have e1 : (2 + ((ns.map V.int).length : Int).fmod 2) = ((2 + ns.length % 2 : Nat) : Int) := by
    rw [List.length_map, show (2 : Int) = ((2 : Nat) : Int) from rfl, fmod_nat]; omega
  rw [e1]
  have hnb : 2 + ns.length % 2 = 2 ∨ 2 + ns.length % 2 = 3 := by walk_at "o"
  generalize 2 + ns.length % 2 = nb at *
  -- many = base + total // 2 % 2
  refine Op_floordiv (by decide) (by decide) ?_
  walk_at "ms"
  refine Op_mod (by decide) ?_
  walk_at "ms"
  obtain ⟨mn, hmn, hmn1, hmn2⟩ : ∃ mn : Nat, (nb : Int) + (total.fdiv 2).fmod 2 = (mn : Int) ∧ nb ≤ mn ∧ mn ≤ nb + 1 := by
    have p0 := Int.fmod_nonneg_of_pos (total.fdiv 2) (show (0 : Int) < 2 by decide)
    have p1 := Int.fmod_lt_of_pos (total.fdiv 2) (show (0 : Int) < 2 by decide)
    exact ⟨((nb : Int) + (total.fdiv 2).fmod 2).toNat, by walk_at "o", by walk_at "o", by walk_at "o"⟩
  rw [hmn]
  -- size = min(2 + len(script) // 4, 4)
  refine Cb_len g1 (by simp; omega) ?_
  walk_at "ms"
  refine Op_floordiv (by decide) (by decide) ?_
  walk_at "ms"
  refine Cb_min2 hc ?_
  walk_at "ms"
  obtain ⟨sz, hsz, hs2, hs4⟩ : ∃ sz : Nat, (if (4 : Int) < 2 + ((ns.map V.int).length : Int).fdiv 4 then 4 else 2 + ((ns.map V.int).length : Int).fdiv 4) = (sz : Int) ∧ 2 ≤ sz ∧ sz ≤ 4 := by
    rw [List.length_map, show ((ns.length : Int)).fdiv 4 = ((ns.length / 4 : Nat) : Int) from fdiv_nat ns.length 4]
    by_cases h : (4 : Int) < 2 + ((ns.length / 4 : Nat) : Int)
    · exact ⟨4, by rw [if_pos h]; rfl, by walk_at "o", by walk_at "o"⟩
    · exact ⟨2 + ns.length / 4, by rw [if_neg h]; omega, by walk_at "o", by walk_at "o"⟩
  rw [hsz]
  -- count = 2 + total % 2
  refine Op_mod (by decide) ?_
  walk_at "ms"
  obtain ⟨cnt, hcnt, hc2, hc3⟩ : ∃ cnt : Nat, 2 + total.fmod 2 = (cnt : Int) ∧ 2 ≤ cnt ∧ cnt ≤ 3 := by
    have p0 := Int.fmod_nonneg_of_pos total (show (0 : Int) < 2 by decide)
    have p1 := Int.fmod_lt_of_pos total (show (0 : Int) < 2 by decide)
    exact ⟨(2 + total.fmod 2).toNat, by walk_at "o", by walk_at "o", by walk_at "o"⟩
  rw [hcnt]
  -- rows = []
  intro _ ra hra
  have nra : a ≠ ra := by rintro rfl; simp only [get_set] at hra; rw [g1] at hra; cases hra
  -- for i in range(count)
  walk_at "m"
  refine Ws_forP hc t7 (WIt_range1 hc T' ?_ k4)
  walk_at "ms"
  refine ⟨_, rfl, by walk_at "o", by walk_at "o", ?_⟩
  rw [Int.toNat_natCast]
  refine ⟨fun i σ' => i ≤ cnt ∧ σ'.loc "script" = some (.ref a) ∧ σ'.loc "total" = some (.int total) ∧ σ'.loc "base" = some (.int (nb : Int)) ∧ σ'.loc "many" = some (.int (mn : Int)) ∧ σ'.loc "size" = some (.int (sz : Int)) ∧ σ'.loc "count" = some (.int (cnt : Int)) ∧ σ'.loc "rows" = some (.ref ra) ∧ c.get σ' a = some (ns.map .int) ∧
    ∃ (R : List (List Nat)) (as : List Addr), σ'.hp ra = some (as.map .ref) ∧ as.length = R.length ∧ (∀ (j : Nat) (b : Addr) (r : List Nat), as[j]? = some b → R[j]? = some r → b ≠ ra ∧ c.get σ' b = some ((upN r).map .int)) ∧ R.Nodup ∧ (∀ r ∈ R, r.length = sz ∧ ∀ d ∈ r, d < nb) ∧ R.length ≤ i, cnt,
    ⟨by walk_at "o", by walk_at "m_loc", by walk_at "m_loc", by walk_at "m_loc", by walk_at "m_loc", by walk_at "m_loc", by walk_at "m_loc", by walk_at "m_loc", get_put_new hra g1, [], [], put_same, rfl, (fun j b r h => by simp at h), List.nodup_nil, (fun r h => by cases h), by simp⟩, ?_⟩
  rintro i σ' ⟨hi, m1, m2, m3, m4, m5, m6, m7, gs, R, as, mr, hal, hrow, hnd, hgood, hRi⟩
  have hLL : LL (c.get σ') ra (R.map upN) := by
    refine ⟨as, get_hp mr, by simp [hal], ?_⟩
    intro j b l h1 h2
    rw [List.getElem?_map] at h2
    cases hj : R[j]? with
    | none => rw [hj] at h2; cases h2
    | some r => rw [hj] at h2; cases h2; exact (hrow j b r h1 hj).2
  refine ⟨hi, trivial, ?_, ?_⟩
  · intro v hv P hP
    simp only [Src.item] at hv
    split at hv
    · rename_i hlt
      cases hv
      rw [Int.zero_add]
      -- row = []
      walk_at "ms"
      intro _ rw' hrw
      rw [get_set] at hrw
      have nrr : ra ≠ rw' := by rintro rfl; rw [get_hp mr] at hrw; cases hrw
      -- for k in range(size)
      walk_at "m"
      refine Ws_forP hc t9 (WIt_range1 hc T' ?_ k4)
      walk_at "ms"
      refine ⟨_, rfl, by walk_at "o", by walk_at "o", ?_⟩
      rw [Int.toNat_natCast]
      refine ⟨fun k σ'' => k ≤ sz ∧ σ''.loc "script" = some (.ref a) ∧ σ''.loc "total" = some (.int total) ∧ σ''.loc "base" = some (.int (nb : Int)) ∧ σ''.loc "many" = some (.int (mn : Int)) ∧ σ''.loc "size" = some (.int (sz : Int)) ∧ σ''.loc "count" = some (.int (cnt : Int)) ∧ σ''.loc "rows" = some (.ref ra) ∧ σ''.loc "i" = some (.int (i : Int)) ∧ σ''.loc "row" = some (.ref rw') ∧
        Kp c [rw'] σ' σ'' ∧ ∃ rl : List Nat, σ''.hp rw' = some ((upN rl).map .int) ∧ rl.length = k ∧ ∀ d ∈ rl, d < nb, sz,
        ⟨by walk_at "o", by walk_at "m_loc", by walk_at "m_loc", by walk_at "m_loc", by walk_at "m_loc", by walk_at "m_loc", by walk_at "m_loc", by walk_at "m_loc", by walk_at "m_loc", by walk_at "m_loc", ⟨fun b l _ e => get_put_new hrw e, fun b l _ e => put_new_hp hrw e⟩, [], put_same, rfl, fun d h => by cases h⟩, ?_⟩
      rintro k σ'' ⟨hk, p1, p2, p3, p4, p5, p6, p7, p8, p9, pK, rl, prl, hrl, hrb⟩
      have pgs : c.get σ'' a = some (ns.map .int) := pK.1 a _ (by simp; rintro rfl; rw [gs] at hrw; cases hrw) gs
      refine ⟨hk, trivial, ?_, ?_⟩
      · intro v hv P hP
        simp only [Src.item] at hv
        split at hv
        · rename_i hltk
          cases hv
          rw [Int.zero_add]
          -- one = i if k == size - 1 else 0
          walk_at "m"
          refine Ws_assign hc t10 (W_IfAny ?_)
          walk_at "ms"
          refine ⟨?_, ?_, ?_⟩
          · walk_at "ms"; exact ⟨rfl, _, rfl⟩
          · walk_at "ms"; exact ⟨rfl, _, rfl⟩
          intro o
          -- row.append((sum(script[i * size + k::count * size]) + one) % base)
          walk_at "ms"
          refine ⟨rw', _, rfl, prl, ?_⟩
          walk_at "ms"
          refine Op_mul (IntMulOk.of_left (intBits_le_64 (by walk_at "o") (by walk_at "o"))) ?_
          walk_at "ms"
          refine ⟨_, rfl, ?_⟩
          walk_at "ms"
          refine Op_mul (IntMulOk.of_left (intBits_le_64 (by walk_at "o") (by walk_at "o"))) ?_
          refine ⟨_, rfl, ?_⟩
          have hcs : (cnt : Int) * (sz : Int) ≠ 0 := Int.mul_ne_zero (by walk_at "o") (by walk_at "o")
          refine ⟨a, _, rfl, pgs, by simp; omega, by simpa using hcs, ?_⟩
          obtain ⟨ms, hms⟩ := pick_ints ns (some ((i : Int) * (sz : Int) + (k : Int))) Option.none (some ((cnt : Int) * (sz : Int)))
          rw [hms]
          intro d hd
          walk_at "ms"
          refine Cb_sum hc get_put_same ?_
          walk_at "ms"
          refine Op_mod (by walk_at "o") ?_
          have q0 := Int.fmod_nonneg_of_pos (ms.sum + o) (show (0 : Int) < (nb : Int) by walk_at "o")
          have q1 := Int.fmod_lt_of_pos (ms.sum + o) (show (0 : Int) < (nb : Int) by walk_at "o")
          generalize (ms.sum + o).fmod (nb : Int) = val at *
          have K1 : Kp c [rw'] σ' (((σ''.set "k" (.int (k : Int))).set "one" (.int o)).put d (ms.map .int)) := Kp.alloc (pK.set.set) hd
          have hrw1 : (((σ''.set "k" (.int (k : Int))).set "one" (.int o)).put d (ms.map .int)).hp rw' = some ((upN rl).map .int) := put_new_hp hd prl
          refine ⟨_, hrw1, by simp [upN]; omega, ?_⟩
          refine Wss_nil ?_
          refine hP _ ?_
          refine ⟨by walk_at "o", by walk_at "m_loc", by walk_at "m_loc", by walk_at "m_loc", by walk_at "m_loc", by walk_at "m_loc", by walk_at "m_loc", by walk_at "m_loc", by walk_at "m_loc", by walk_at "m_loc", Kp.turn K1 (by simp), rl ++ [val.toNat], ?_, by simp [hrl], ?_⟩
          · rw [put_same]
            have : ((val.toNat : Nat) : Int) = val := by walk_at "o"
            simp [upN, this]
          · intro d hd
            rcases List.mem_append.mp hd with h | h
            · exact hrb d h
            · rw [List.mem_singleton.mp h]; omega
        · cases hv
      · intro hv
        have hkn : k = sz := by
          simp only [Src.item] at hv
          split at hv
          · cases hv
          · omega
        have hrl' : rl.length = sz := by walk_at "o"
        have pra : σ''.hp ra = some (as.map .ref) := pK.2 ra _ (by simpa using nrr) mr
        have hrow' : ∀ (j : Nat) (b : Addr) (r : List Nat), as[j]? = some b → R[j]? = some r → b ≠ ra ∧ c.get σ'' b = some ((upN r).map .int) := fun j b r h1 h2 =>
          ⟨(hrow j b r h1 h2).1, pK.1 b _ (by simp; rintro rfl; rw [(hrow j _ r h1 h2).2] at hrw; cases hrw) (hrow j b r h1 h2).2⟩
        have pLL : LL (c.get σ'') ra (R.map upN) := hLL.kp pK (by simpa using hrw)
        -- if row not in rows
        walk_at "ms"
        refine Cm_notInD hc (Has.ints (get_hp prl)) pLL.has (by simp [PyData.canLay0, PySem.W.ke_canLayAll0]) (canLay_LL _).1 (by simp [PyData.depth, PySem.W.ke_depthAll]) ?_
        rw [any_rows]
        constructor
        · intro hb
          have hnin : rl ∉ R := by simpa using hb
          walk_at "ms"
          refine ⟨ra, _, rfl, pra, ?_⟩
          walk_at "ms"
          refine ⟨_, pra, by rw [List.length_map]; omega, ?_⟩
          walk_at "ms"
          refine hP _ ?_
          refine ⟨by walk_at "o", by walk_at "m_loc", by walk_at "m_loc", by walk_at "m_loc", by walk_at "m_loc", by walk_at "m_loc", by walk_at "m_loc", by walk_at "m_loc", by rw [get_put_other nra]; exact pgs, R ++ [rl], as ++ [rw'], by rw [put_same]; simp, by simp [hal], ?_, ?_, ?_, by simp; omega⟩
          · intro j b r h1 h2
            by_cases hj : j < as.length
            · rw [List.getElem?_append_left hj] at h1
              rw [List.getElem?_append_left (by walk_at "o")] at h2
              have := hrow' j b r h1 h2
              exact ⟨this.1, by rw [get_put_other this.1]; exact this.2⟩
            · have hj2 := (List.getElem?_eq_some_iff.mp h1).1
              simp at hj2
              have hj3 : j = as.length := by walk_at "o"
              subst hj3
              rw [List.getElem?_append_right (Nat.le_refl _)] at h1
              rw [List.getElem?_append_right (by walk_at "o"), hal] at h2
              simp at h1 h2
              subst h1; subst h2
              exact ⟨Ne.symm nrr, by rw [get_put_other (Ne.symm nrr)]; exact get_hp prl⟩
          · rw [List.nodup_append]
            refine ⟨hnd, List.nodup_cons.mpr ⟨by simp, List.nodup_nil⟩, ?_⟩
            intro x hx y hy
            rw [List.mem_singleton.mp hy]
            rintro rfl
            exact hnin hx
          · intro r hr
            rcases List.mem_append.mp hr with h | h
            · exact hgood r h
            · rw [List.mem_singleton.mp h]; exact ⟨hrl', hrb⟩
        · intro hb
          walk_at "ms"
          refine hP _ ?_
          exact ⟨by walk_at "o", p1, p2, p3, p4, p5, p6, p7, pgs, R, as, pra, hal, hrow', hnd, hgood, by walk_at "o"⟩
    · cases hv
  intro hv
  have hRc : R.length ≤ 3 := by walk_at "o"
  clear hv hRi hi gs m1 m3 m6 g1 l1 hra nra
  have hXs : ∀ (j : Nat) (X : List Nat), R[j]? = some X → X.length = sz ∧ ∀ d ∈ X, d < nb := fun j X h => hgood X (List.mem_of_getElem? h)
  have gra : c.get σ' ra = some (as.map .ref) := get_hp mr
  have hitem : ∀ (j : Nat) (v : V), (as.map V.ref)[j]? = some v → ∃ b X, v = .ref b ∧ as[j]? = some b ∧ R[j]? = some X ∧ j < R.length := by
    intro j v h
    rw [List.getElem?_map] at h
    cases hj : as[j]? with
    | none => rw [hj] at h; cases h
    | some b =>
      rw [hj] at h; cases h
      have hjl := (List.getElem?_eq_some_iff.mp hj).1
      exact ⟨b, R[j]'(by walk_at "o"), rfl, rfl, List.getElem?_eq_getElem (by walk_at "o"), by walk_at "o"⟩
  have hend : ∀ j, (as.map V.ref)[j]? = Option.none → R.length ≤ j := by
    intro j h
    have := List.getElem?_eq_none_iff.mp h
    rw [List.length_map] at this; omega
  -- laps = []
  walk_at "ms"
  intro _ la hla
  have nlr : ra ≠ la := by rintro rfl; rw [gra] at hla; cases hla
  -- for first in rows
  walk_at "m"
  refine Ws_forP hc t12 (WIt_list ?_)
  walk_at "ms"
  refine ⟨ra, _, rfl, get_put_new hla gra, ?_⟩
  refine ⟨fun x σ₂ => x ≤ R.length ∧ σ₂.loc "total" = some (.int total) ∧ σ₂.loc "many" = some (.int (mn : Int)) ∧ σ₂.loc "size" = some (.int (sz : Int)) ∧ σ₂.loc "rows" = some (.ref ra) ∧ σ₂.loc "laps" = some (.ref la) ∧ Kp c [la] σ' σ₂ ∧
    ∃ bs : List Addr, σ₂.hp la = some (bs.map .ref) ∧ bs.length = x ∧ ∀ (j : Nat) (b : Addr) (X : List Nat), bs[j]? = some b → R[j]? = some X → LL (fun e => if e = la then Option.none else c.get σ₂ e) b ((lineN R total X).map upN), R.length,
    ⟨by walk_at "o", by walk_at "m_loc", by walk_at "m_loc", by walk_at "m_loc", by walk_at "m_loc", by walk_at "m_loc", ⟨fun b l _ e => get_put_new hla e, fun b l _ e => put_new_hp hla e⟩, [], put_same, rfl, fun j b X h => by simp at h⟩, ?_⟩
  rintro x σ₂ ⟨hx, q1, q2, q3, q4, q5, qK, bs, qla, hbl, hlines⟩
  have qra : c.get σ₂ ra = some (as.map .ref) := qK.1 ra _ (by simpa using nlr) gra
  have qrow : ∀ (j : Nat) (b : Addr) (r : List Nat), as[j]? = some b → R[j]? = some r → b ≠ la ∧ c.get σ₂ b = some ((upN r).map .int) := fun j b r h1 h2 =>
    have hne : b ≠ la := by rintro rfl; rw [(hrow j _ r h1 h2).2] at hla; cases hla
    ⟨hne, qK.1 b _ (by simpa using hne) (hrow j b r h1 h2).2⟩
  refine ⟨hx, by simp only [Src.ok]; rw [qra]; rfl, ?_, ?_⟩
  · intro v hv P hP
    simp only [Src.item] at hv
    rw [qra] at hv
    obtain ⟨xb, X, rfl, hxb, hX, hxl⟩ := hitem x v hv
    have gX := (qrow x xb X hxb hX).2
    obtain ⟨hXl, hXd⟩ := hXs x X hX
    -- line = []
    walk_at "ms"
    intro _ ln hln
    rw [get_set] at hln
    have nll : la ≠ ln := by rintro rfl; rw [get_hp qla] at hln; cases hln
    have nrl : ra ≠ ln := by rintro rfl; rw [qra] at hln; cases hln
    -- for second in rows
    walk_at "m"
    refine Ws_forP hc t14 (WIt_list ?_)
    walk_at "ms"
    refine ⟨ra, _, rfl, get_put_new hln qra, ?_⟩
    refine ⟨fun y σ₃ => y ≤ R.length ∧ σ₃.loc "total" = some (.int total) ∧ σ₃.loc "many" = some (.int (mn : Int)) ∧ σ₃.loc "size" = some (.int (sz : Int)) ∧ σ₃.loc "rows" = some (.ref ra) ∧ σ₃.loc "laps" = some (.ref la) ∧ σ₃.loc "first" = some (.ref xb) ∧ σ₃.loc "line" = some (.ref ln) ∧ Kp c [ln] σ₂ σ₃ ∧
      ∃ ds : List Addr, σ₃.hp ln = some (ds.map .ref) ∧ ds.length = y ∧ ∀ (j : Nat) (d : Addr) (Y : List Nat), ds[j]? = some d → R[j]? = some Y → d ≠ la ∧ d ≠ ln ∧ c.get σ₃ d = some ((upN (lapsN (shR total X) (shR total Y) (total - 1))).map .int), R.length,
      ⟨by walk_at "o", by walk_at "m_loc", by walk_at "m_loc", by walk_at "m_loc", by walk_at "m_loc", by walk_at "m_loc", by walk_at "m_loc", by walk_at "m_loc", ⟨fun b l _ e => get_put_new hln e, fun b l _ e => put_new_hp hln e⟩, [], put_same, rfl, fun j b X h => by simp at h⟩, ?_⟩
    rintro y σ₃ ⟨hy, r1, r2, r3, r4, r5, r6, r7, rK, ds, rln, hdl, hds⟩
    have rra : c.get σ₃ ra = some (as.map .ref) := rK.1 ra _ (by simpa using nrl) qra
    have rrow : ∀ (j : Nat) (b : Addr) (r : List Nat), as[j]? = some b → R[j]? = some r → c.get σ₃ b = some ((upN r).map .int) := fun j b r h1 h2 =>
      rK.1 b _ (by simp; rintro rfl; rw [(qrow j _ r h1 h2).2] at hln; cases hln) (qrow j b r h1 h2).2
    have rla : σ₃.hp la = some (bs.map .ref) := rK.2 la _ (by simpa using nll) qla
    refine ⟨hy, by simp only [Src.ok]; rw [rra]; rfl, ?_, ?_⟩
    · intro v hv P hP
      simp only [Src.item] at hv
      rw [rra] at hv
      obtain ⟨yb, Y, rfl, hyb, hY, hyl⟩ := hitem y v hv
      obtain ⟨hYl, hYd⟩ := hXs y Y hY
      have rX := rrow x xb X hxb hX
      have rY := rrow y yb Y hyb hY
      -- line.append(_law_laps(..))
      walk_at "ms"
      refine ⟨ln, _, rfl, rln, ?_⟩
      refine W_call hc hA1 T' F3 n3 k7 rfl ?_
      walk_at "m"
      refine W_comp hc (by walk_at "m_shape") (WIt_list ?_)
      walk_at "ms"
      refine ⟨xb, _, rfl, rX, ?_⟩
      refine ⟨fun u acc _ => u ≤ X.length ∧ acc = (shR total (X.take u)).map .int, X.length, by walk_at "o", by simp only [Src.ok]; rw [get_set, rX]; rfl, ⟨by walk_at "o", rfl⟩, ?_⟩
      rintro u acc hq ⟨hu, rfl⟩ hin
      refine ⟨hu, ?_, ?_⟩
      · intro v C hv
        simp only [Src.item] at hv
        rw [get_set, rX] at hv
        obtain ⟨d, hdu, rfl⟩ : ∃ d, X[u]? = some d ∧ v = V.int (d : Int) := by
          simp only [upN, Option.bind_some, List.getElem?_map] at hv
          cases h : X[u]? with
          | none => rw [h] at hv; cases hv
          | some d => rw [h] at hv; cases hv; exact ⟨d, rfl, rfl⟩
        have hul : u < X.length := (List.getElem?_eq_some_iff.mp hdu).1
        walk_at "ms"
        refine ⟨fun h => (by cases h), fun _ => ?_⟩
        walk_at "ms"
        refine ⟨by walk_at "o", ?_⟩
        rw [List.take_add_one, hdu]; simp [shR]
      intro hv D₁ hD₁ hqD₁
      have hun : X.take u = X := by
        simp only [Src.item] at hv
        rw [get_set, rX] at hv
        have := List.getElem?_eq_none_iff.mp (show ((upN X).map V.int)[u]? = Option.none from hv)
        rw [List.length_map, upN_len] at this
        exact List.take_of_length_le this
      rw [hun]
      have K1 : Kp c [] σ₃ (((σ₃.set "second" (.ref yb)).join hq).put D₁ ((shR total X).map .int)) := Kp.alloc (Kp.join (σ' := σ₃.set "second" (.ref yb)) Kp.refl hin) (join_none hD₁ hqD₁)
      have gD₁ : c.get (((σ₃.set "second" (.ref yb)).join hq).put D₁ ((shR total X).map .int)) D₁ = some ((shR total X).map .int) := get_put_same
      have s1 : St.loc (((σ₃.set "second" (.ref yb)).join hq).put D₁ ((shR total X).map .int)) "total" = some (.int total) := by walk_at "m_loc"
      have s2 : St.loc (((σ₃.set "second" (.ref yb)).join hq).put D₁ ((shR total X).map .int)) "many" = some (.int (mn : Int)) := by walk_at "m_loc"
      have s3 : St.loc (((σ₃.set "second" (.ref yb)).join hq).put D₁ ((shR total X).map .int)) "size" = some (.int (sz : Int)) := by walk_at "m_loc"
      have s4 : St.loc (((σ₃.set "second" (.ref yb)).join hq).put D₁ ((shR total X).map .int)) "rows" = some (.ref ra) := by walk_at "m_loc"
      have s5 : St.loc (((σ₃.set "second" (.ref yb)).join hq).put D₁ ((shR total X).map .int)) "laps" = some (.ref la) := by walk_at "m_loc"
      have s6 : St.loc (((σ₃.set "second" (.ref yb)).join hq).put D₁ ((shR total X).map .int)) "first" = some (.ref xb) := by walk_at "m_loc"
      have s7 : St.loc (((σ₃.set "second" (.ref yb)).join hq).put D₁ ((shR total X).map .int)) "line" = some (.ref ln) := by walk_at "m_loc"
      have s8 : St.loc (((σ₃.set "second" (.ref yb)).join hq).put D₁ ((shR total X).map .int)) "second" = some (.ref yb) := by walk_at "m_loc"
      generalize ((σ₃.set "second" (.ref yb)).join hq).put D₁ ((shR total X).map .int) = σ₄ at *
      clear hin hqD₁ hD₁ hv hun
      have sY := K1.1 yb _ (by simp) rY
      walk_at "m"
      refine W_comp hc (by walk_at "m_shape") (WIt_list ?_)
      walk_at "ms"
      refine ⟨yb, _, rfl, sY, ?_⟩
      refine ⟨fun u acc _ => u ≤ Y.length ∧ acc = (shR total (Y.take u)).map .int, Y.length, by walk_at "o", by simp only [Src.ok]; rw [sY]; rfl, ⟨by walk_at "o", rfl⟩, ?_⟩
      rintro u acc hq ⟨hu, rfl⟩ hin
      refine ⟨hu, ?_, ?_⟩
      · intro v C hv
        simp only [Src.item] at hv
        rw [sY] at hv
        obtain ⟨d, hdu, rfl⟩ : ∃ d, Y[u]? = some d ∧ v = V.int (d : Int) := by
          simp only [upN, Option.bind_some, List.getElem?_map] at hv
          cases h : Y[u]? with
          | none => rw [h] at hv; cases hv
          | some d => rw [h] at hv; cases hv; exact ⟨d, rfl, rfl⟩
        have hul : u < Y.length := (List.getElem?_eq_some_iff.mp hdu).1
        walk_at "ms"
        refine ⟨fun h => (by cases h), fun _ => ?_⟩
        walk_at "ms"
        refine ⟨by walk_at "o", ?_⟩
        rw [List.take_add_one, hdu]; simp [shR]
      intro hv D₂ hD₂ hqD₂
      have hun : Y.take u = Y := by
        simp only [Src.item] at hv
        rw [sY] at hv
        have := List.getElem?_eq_none_iff.mp (show ((upN Y).map V.int)[u]? = Option.none from hv)
        rw [List.length_map, upN_len] at this
        exact List.take_of_length_le this
      rw [hun]
      have K2 : Kp c [] σ₄ ((σ₄.join hq).put D₂ ((shR total Y).map .int)) := Kp.alloc (Kp.join Kp.refl hin) (join_none hD₂ hqD₂)
      have gD₂ : c.get ((σ₄.join hq).put D₂ ((shR total Y).map .int)) D₂ = some ((shR total Y).map .int) := get_put_same
      have gD₁' := K2.1 D₁ _ (by simp) gD₁
      walk_at "ms"
      refine ⟨rfl, fun v hp => ∃ d, v = .ref d ∧ hp d = some ((upN (lapsN (shR total X) (shR total Y) (total - 1))).map .int), fun L => lap_run hA2 T' n1 F1 gD₁' gD₂ (by rw [shR_len]; omega) (by rw [shR_len]; omega) (lap_bound (shR_mark total X)), ?_⟩
      rintro v hp1 ⟨d, rfl, hd⟩ hg1
      have K3 : Kp c [] σ₃ (((σ₄.join hq).put D₂ ((shR total Y).map .int)).join hp1) := Kp.join (Kp.under K1 K2 (by simp)) hg1
      have gd := get_hp (c := c) (join_new hg1 hd)
      have hdn := hg1 d _ hd
      have ndla : d ≠ la := by
        rintro rfl
        rw [get_hp ((Kp.under K1 K2 (by simp)).2 d _ (by simp) rla)] at hdn; cases hdn
      have ndln : d ≠ ln := by
        rintro rfl
        rw [get_hp ((Kp.under K1 K2 (by simp)).2 d _ (by simp) rln)] at hdn; cases hdn
      have sln := K3.2 ln _ (by simp) rln
      refine ⟨_, sln, by rw [List.length_map]; omega, ?_⟩
      refine Wss_nil ?_
      refine hP _ ?_
      refine ⟨by walk_at "o", by walk_at "m_loc", by walk_at "m_loc", by walk_at "m_loc", by walk_at "m_loc", by walk_at "m_loc", by walk_at "m_loc", by walk_at "m_loc", Kp.turn (Kp.under rK K3 (by simp)) (by simp), ds ++ [d], by rw [put_same]; simp, by simp [hdl], ?_⟩
      intro j b Z h1 h2
      by_cases hj : j < ds.length
      · rw [List.getElem?_append_left hj] at h1
        obtain ⟨z1, z2, z3⟩ := hds j b Z h1 h2
        exact ⟨z1, z2, by rw [get_put_other z2]; exact K3.1 b _ (by simp) z3⟩
      · have hj2 := (List.getElem?_eq_some_iff.mp h1).1
        simp at hj2
        have hj3 : j = ds.length := by walk_at "o"
        subst hj3
        rw [List.getElem?_append_right (Nat.le_refl _)] at h1
        simp at h1
        subst h1
        rw [hdl, hY] at h2
        cases h2
        exact ⟨ndla, ndln, by rw [get_put_other ndln]; exact gd⟩
    · intro hv
      have hyn : y = R.length := by
        simp only [Src.item] at hv
        rw [rra] at hv
        have := hend y hv
        omega
      -- laps.append(line)
      walk_at "ms"
      refine ⟨la, _, rfl, rla, ?_⟩
      walk_at "ms"
      refine ⟨_, rla, by rw [List.length_map]; omega, ?_⟩
      refine Wss_nil ?_
      refine hP _ ?_
      refine ⟨by walk_at "o", by walk_at "m_loc", by walk_at "m_loc", by walk_at "m_loc", by walk_at "m_loc", by walk_at "m_loc", ?_, bs ++ [ln], by rw [put_same]; simp, by simp [hbl], ?_⟩
      · refine Kp.turn (Kp.under qK rK ?_) (by simp)
        intro e he
        rw [List.mem_singleton.mp he]
        right
        cases h : c.get σ' ln with
        | none => rfl
        | some l =>
          have := qK.1 ln l (by simpa using Ne.symm nll) h
          rw [hln] at this; cases this
      · intro j b Z h1 h2
        by_cases hj : j < bs.length
        · rw [List.getElem?_append_left hj] at h1
          refine (hlines j b Z h1 h2).mono fun e l he => ?_
          by_cases hela : e = la
          · rw [if_pos hela] at he; cases he
          · rw [if_neg hela] at he
            show (if e = la then Option.none else _) = _
            rw [if_neg hela, get_put_other hela]
            exact rK.1 e _ (by simp; rintro rfl; rw [hln] at he; cases he) he
        · have hj2 := (List.getElem?_eq_some_iff.mp h1).1
          simp at hj2
          have hj3 : j = bs.length := by walk_at "o"
          subst hj3
          rw [List.getElem?_append_right (Nat.le_refl _)] at h1
          simp at h1
          subst h1
          rw [hbl, hX] at h2
          cases h2
          refine ⟨ds, ?_, by simp [lineN, hdl, hyn], ?_⟩
          · show (if ln = la then Option.none else _) = _
            rw [if_neg (Ne.symm nll), get_put_other (Ne.symm nll)]; exact get_hp rln
          · intro j d l h1 h2
            simp only [lineN, List.map_map, List.getElem?_map] at h2
            cases hj : R[j]? with
            | none => rw [hj] at h2; cases h2
            | some Y =>
              rw [hj] at h2; cases h2
              obtain ⟨z1, z2, z3⟩ := hds j d Y h1 hj
              show (if d = la then Option.none else _) = _
              rw [if_neg z1, get_put_other z1]; exact z3
  intro hv
  have hxn : x = R.length := by
    simp only [Src.item] at hv
    rw [qra] at hv
    have := hend x hv
    omega
  have qL : LLL (c.get σ₂) la (lapsAll R total) := by
    refine ⟨bs, get_hp qla, by simp [lapsAll, hbl, hxn], ?_⟩
    intro j b ls h1 h2
    simp only [lapsAll, List.getElem?_map] at h2
    cases hj : R[j]? with
    | none => rw [hj] at h2; cases h2
    | some X =>
      rw [hj] at h2; cases h2
      refine (hlines j b X h1 hj).mono fun e l he => ?_
      by_cases hela : e = la
      · rw [if_pos hela] at he; cases he
      · rw [if_neg hela] at he; exact he
  have qrow' : ∀ (j : Nat) (b : Addr) (r : List Nat), as[j]? = some b → R[j]? = some r → c.get σ₂ b = some ((upN r).map .int) := fun j b r h1 h2 => (qrow j b r h1 h2).2
  have hlapsg : ∀ (x : Nat) (X : List Nat), R[x]? = some X → (lapsAll R total)[x]? = some (lineN R total X) := by
    intro x X h
    simp only [lapsAll, List.getElem?_map]; rw [h]; rfl
  have hlineg : ∀ (y : Nat) (X Y : List Nat), R[y]? = some Y → ((lineN R total X).map upN)[y]? = some (upN (lapsN (shR total X) (shR total Y) (total - 1))) := by
    intro y X Y h
    simp only [lineN, List.map_map, List.getElem?_map]; rw [h]; rfl
  clear hv hlines qla qK hrow mr gra hla nlr m2 m4 m5 m7 hLL qrow
  -- for x in range(len(rows))
  walk_at "m"
  refine Ws_forP hc t15 (WIt_range1 hc T' ?_ k4)
  walk_at "ms"
  refine Cb_len qra (by rw [List.length_map]; omega) ?_
  refine ⟨_, rfl, by walk_at "o", by rw [List.length_map]; omega, ?_⟩
  have eRl : (((as.map V.ref).length : Nat) : Int).toNat = R.length := by rw [List.length_map]; omega
  rw [eRl]
  refine ⟨fun x σ₃ => x ≤ R.length ∧ σ₃.loc "many" = some (.int (mn : Int)) ∧ σ₃.loc "size" = some (.int (sz : Int)) ∧ σ₃.loc "rows" = some (.ref ra) ∧ σ₃.loc "laps" = some (.ref la) ∧ Kp c [] σ₂ σ₃, R.length,
    ⟨by walk_at "o", q2, q3, q4, q5, Kp.refl⟩, ?_⟩
  rintro x σ₃ ⟨hx, r2, r3, r4, r5, rK⟩
  have rra : c.get σ₃ ra = some (as.map .ref) := rK.1 ra _ (by simp) qra
  refine ⟨hx, trivial, ?_, ?_⟩
  · intro v hv P hP
    simp only [Src.item] at hv
    split at hv
    · rename_i hltx
      cases hv
      rw [Int.zero_add]
      have hX : R[x]? = some (R[x]'(by walk_at "o")) := List.getElem?_eq_getElem (by walk_at "o")
      generalize R[x]'(by walk_at "o") = X at hX
      obtain ⟨hXl, hXd⟩ := hXs x X hX
      -- for y in range(len(rows))
      walk_at "m"
      refine Ws_forP hc t16 (WIt_range1 hc T' ?_ k4)
      walk_at "ms"
      refine Cb_len rra (by rw [List.length_map]; omega) ?_
      refine ⟨_, rfl, by walk_at "o", by rw [List.length_map]; omega, ?_⟩
      rw [eRl]
      refine ⟨fun y σ₄ => y ≤ R.length ∧ σ₄.loc "many" = some (.int (mn : Int)) ∧ σ₄.loc "size" = some (.int (sz : Int)) ∧ σ₄.loc "rows" = some (.ref ra) ∧ σ₄.loc "laps" = some (.ref la) ∧ σ₄.loc "x" = some (.int (x : Int)) ∧ Kp c [] σ₂ σ₄, R.length,
        ⟨by walk_at "o", by walk_at "m_loc", by walk_at "m_loc", by walk_at "m_loc", by walk_at "m_loc", by walk_at "m_loc", rK⟩, ?_⟩
      rintro y σ₄ ⟨hy, s2, s3, s4, s5, s6, sK⟩
      have sL : LLL (c.get σ₄) la (lapsAll R total) := qL.kp sK (by simp)
      refine ⟨hy, trivial, ?_, ?_⟩
      · intro v hv P hP
        simp only [Src.item] at hv
        split at hv
        · rename_i hlty
          cases hv
          rw [Int.zero_add]
          have hY : R[y]? = some (R[y]'(by walk_at "o")) := List.getElem?_eq_getElem (by walk_at "o")
          generalize R[y]'(by walk_at "o") = Y at hY
          obtain ⟨hYl, hYd⟩ := hXs y Y hY
          obtain ⟨vs, va, z1, z2, z3, z4⟩ := sL.row (hlapsg x X hX)
          obtain ⟨vs2, vb, y1, y2, y3, y4⟩ := z4.row (hlineg y X Y hY)
          have hflt := lap_filter (xs := shR total X) (ys := shR total Y) (m := total - 1) (n := sz) (by walk_at "o") (shR_mark total X) (by rw [shR_len]; omega) (by rw [shR_len]; omega)
          have hll : (lapsN (shR total X) (shR total Y) (total - 1)).length ≤ 1000 := by
            have := lap_len (ys := shR total Y) (shR_mark total X)
            rw [shR_len] at this; omega
          generalize lapsN (shR total X) (shR total Y) (total - 1) = l at *
          -- if [k for k in laps[x][y] if k >= size] != ..
          walk_at "ms"
          refine W_comp hc (by walk_at "m_shape") (WIt_list ?_)
          walk_at "ms"
          refine ⟨la, _, _, _, rfl, rfl, z1, by walk_at "o", by walk_at "o", (by simpa using z3), ?_⟩
          walk_at "ms"
          refine ⟨va, _, _, _, rfl, rfl, y1, by walk_at "o", by walk_at "o", (by simpa using y3), ?_⟩
          refine ⟨vb, _, rfl, y4, ?_⟩
          refine ⟨fun u acc _ => u ≤ l.length ∧ acc = (upN ((l.take u).filter fun k => decide (sz ≤ k))).map .int, l.length, by walk_at "o", by simp only [Src.ok]; rw [get_set, y4]; rfl, ⟨by walk_at "o", rfl⟩, ?_⟩
          rintro u acc hq ⟨hu, rfl⟩ hin
          refine ⟨hu, ?_, ?_⟩
          · intro v C hv
            simp only [Src.item] at hv
            rw [get_set, y4] at hv
            obtain ⟨d, hdu, rfl⟩ : ∃ d, l[u]? = some d ∧ v = V.int (d : Int) := by
              simp only [upN, Option.bind_some, List.getElem?_map] at hv
              cases h : l[u]? with
              | none => rw [h] at hv; cases hv
              | some d => rw [h] at hv; cases hv; exact ⟨d, rfl, rfl⟩
            have hul : u < l.length := (List.getElem?_eq_some_iff.mp hdu).1
            walk_at "ms"
            constructor
            · intro hb
              have hb' : ¬ sz ≤ d := by have := of_decide_eq_false hb; omega
              refine ⟨by walk_at "o", ?_⟩
              rw [List.take_add_one, hdu]; simp [List.filter_append, hb']
            · intro hb
              have hb' : sz ≤ d := by have := of_decide_eq_true hb; omega
              walk_at "ms"
              refine ⟨by walk_at "o", ?_⟩
              rw [List.take_add_one, hdu]; simp [List.filter_append, hb', upN]
          intro hv D hD hqD
          have hun : l.take u = l := by
            simp only [Src.item] at hv
            rw [get_set, y4] at hv
            have := List.getElem?_eq_none_iff.mp (show ((upN l).map V.int)[u]? = Option.none from hv)
            rw [List.length_map, upN_len] at this
            exact List.take_of_length_le this
          rw [hun, hflt]
          have hxy : shR total X = shR total Y ↔ x = y := by
            constructor
            · intro e
              have := shR_inj e
              subst this
              exact (List.getElem?_inj (by walk_at "o") hnd).mp (hX.trans hY.symm)
            · rintro rfl
              rw [hX] at hY; cases hY; rfl
          have K1 : ∀ l', Kp c [] σ₂ (((σ₄.set "y" (.int (y : Int))).join hq).put D l') := fun l' => Kp.alloc (Kp.join (σ' := σ₄.set "y" (.int (y : Int))) sK hin) (join_none hD hqD)
          walk_at "ms"
          constructor
          · intro hb
            have hxy' : x = y := by have := of_decide_eq_true hb; omega
            rw [if_pos (hxy.mpr hxy')]
            walk_at "ms"
            intro _ e he
            refine Cm_neI hc (ns := upN [sz]) (ms := [(sz : Int)]) (get_put_new he get_put_same) get_put_same ?_
            rw [decide_eq_true (by rfl)]
            refine ⟨fun h => (by cases h), fun _ => ?_⟩
            walk_at "ms"
            refine hP _ ?_
            exact ⟨by walk_at "o", by walk_at "m_loc", by walk_at "m_loc", by walk_at "m_loc", by walk_at "m_loc", by walk_at "m_loc", Kp.alloc (K1 _) he⟩
          · intro hb
            have hxy' : ¬ x = y := by have := of_decide_eq_false hb; omega
            rw [if_neg (fun q => hxy' (hxy.mp q))]
            walk_at "ms"
            intro _ e he
            refine Cm_neI hc (ns := upN []) (ms := []) (get_put_new he get_put_same) get_put_same ?_
            rw [decide_eq_true (by rfl)]
            refine ⟨fun h => (by cases h), fun _ => ?_⟩
            walk_at "ms"
            refine hP _ ?_
            exact ⟨by walk_at "o", by walk_at "m_loc", by walk_at "m_loc", by walk_at "m_loc", by walk_at "m_loc", by walk_at "m_loc", Kp.alloc (K1 _) he⟩
        · cases hv
      · intro hv
        refine Wss_nil ?_
        refine hP _ ?_
        exact ⟨by walk_at "o", s2, s3, s4, s5, sK⟩
    · cases hv
  intro hv
  have rL : LLL (c.get σ₃) la (lapsAll R total) := qL.kp rK (by simp)
  have rrow : ∀ (j : Nat) (b : Addr) (r : List Nat), as[j]? = some b → R[j]? = some r → c.get σ₃ b = some ((upN r).map .int) := fun j b r h1 h2 => rK.1 b _ (by simp) (qrow' j b r h1 h2)
  clear hv rK qL qrow' q1 q2 q3 q4 q5 qra
  -- codes = []
  walk_at "ms"
  intro _ ca hca
  have ncr : ra ≠ ca := by rintro rfl; rw [rra] at hca; cases hca
  -- for row in rows
  walk_at "m"
  refine Ws_forP hc t8 (WIt_list ?_)
  walk_at "ms"
  refine ⟨ra, _, rfl, get_put_new hca rra, ?_⟩
  refine ⟨fun i σ₄ => i ≤ R.length ∧ σ₄.loc "many" = some (.int (mn : Int)) ∧ σ₄.loc "size" = some (.int (sz : Int)) ∧ σ₄.loc "rows" = some (.ref ra) ∧ σ₄.loc "laps" = some (.ref la) ∧ σ₄.loc "codes" = some (.ref ca) ∧ Kp c [ca] σ₃ σ₄ ∧ σ₄.hp ca = some ((upN ((R.take i).map (codeOf mn))).map .int), R.length,
    ⟨by walk_at "o", by walk_at "m_loc", by walk_at "m_loc", by walk_at "m_loc", by walk_at "m_loc", by walk_at "m_loc", ⟨fun b l _ e => get_put_new hca e, fun b l _ e => put_new_hp hca e⟩, put_same⟩, ?_⟩
  rintro i σ₄ ⟨hi, s2, s3, s4, s5, s6, sK, sca⟩
  have sra : c.get σ₄ ra = some (as.map .ref) := sK.1 ra _ (by simpa using ncr) rra
  refine ⟨hi, by simp only [Src.ok]; rw [sra]; rfl, ?_, ?_⟩
  · intro v hv P hP
    simp only [Src.item] at hv
    rw [sra] at hv
    obtain ⟨xb, X, rfl, hxb, hX, hxl⟩ := hitem i v hv
    have gX : c.get σ₄ xb = some ((upN X).map .int) := sK.1 xb _ (by simp; rintro rfl; rw [rrow i _ X hxb hX] at hca; cases hca) (rrow i xb X hxb hX)
    obtain ⟨hXl, hXd⟩ := hXs i X hX
    -- code = 0
    walk_at "ms"
    -- for k in row
    refine Ws_forP hc t9 (WIt_list ?_)
    walk_at "ms"
    refine ⟨xb, _, rfl, gX, ?_⟩
    refine ⟨fun u σ₅ => u ≤ X.length ∧ σ₅.loc "many" = some (.int (mn : Int)) ∧ σ₅.loc "size" = some (.int (sz : Int)) ∧ σ₅.loc "rows" = some (.ref ra) ∧ σ₅.loc "laps" = some (.ref la) ∧ σ₅.loc "codes" = some (.ref ca) ∧ σ₅.loc "code" = some (.int ((codeOf mn (X.take u) : Nat) : Int)) ∧ σ₅.hp = σ₄.hp, X.length,
      ⟨by walk_at "o", by walk_at "m_loc", by walk_at "m_loc", by walk_at "m_loc", by walk_at "m_loc", by walk_at "m_loc", loc_same, rfl⟩, ?_⟩
    rintro u σ₅ ⟨hu, v2, v3, v4, v5, v6, v7, vh⟩
    have vg : c.get σ₅ = c.get σ₄ := by funext e; unfold Cx.get; rw [vh]
    have vX : c.get σ₅ xb = some ((upN X).map .int) := by rw [vg]; exact gX
    refine ⟨hu, by simp only [Src.ok]; rw [vX]; rfl, ?_, ?_⟩
    · intro v hv P hP
      simp only [Src.item] at hv
      rw [vX] at hv
      obtain ⟨d, hdu, rfl⟩ : ∃ d, X[u]? = some d ∧ v = V.int (d : Int) := by
        simp only [upN, Option.bind_some, List.getElem?_map] at hv
        cases h : X[u]? with
        | none => rw [h] at hv; cases hv
        | some d => rw [h] at hv; cases hv; exact ⟨d, rfl, rfl⟩
      have hul : u < X.length := (List.getElem?_eq_some_iff.mp hdu).1
      walk_at "ms"
      refine Op_mul (IntMulOk.of_right (intBits_le_64 (by walk_at "o") (by walk_at "o"))) ?_
      walk_at "ms"
      refine hP _ ?_
      refine ⟨by walk_at "o", by walk_at "m_loc", by walk_at "m_loc", by walk_at "m_loc", by walk_at "m_loc", by walk_at "m_loc", ?_, vh⟩
      rw [codeOf_take hdu]
      have : ((codeOf mn (X.take u) : Nat) : Int) * (mn : Int) + (d : Int) = ((codeOf mn (X.take u) * mn + d : Nat) : Int) := by simp
      rw [← this]; walk_at "m_loc"
    · intro hv
      have hun : X.take u = X := by
        simp only [Src.item] at hv
        rw [vX] at hv
        have := List.getElem?_eq_none_iff.mp (show ((upN X).map V.int)[u]? = Option.none from hv)
        rw [List.length_map, upN_len] at this
        exact List.take_of_length_le this
      rw [hun] at v7
      -- codes.append(code)
      walk_at "ms"
      refine ⟨ca, _, rfl, by rw [vh]; exact sca, ?_⟩
      walk_at "ms"
      refine ⟨_, by rw [vh]; exact sca, by simp [upN]; omega, ?_⟩
      refine Wss_nil ?_
      refine hP _ ?_
      refine ⟨by walk_at "o", by walk_at "m_loc", by walk_at "m_loc", by walk_at "m_loc", by walk_at "m_loc", by walk_at "m_loc", ?_, ?_⟩
      · have K : Kp c [ca] σ₃ σ₅ := ⟨fun b l h e => by rw [vg]; exact sK.1 b l h e, fun b l h e => by rw [vh]; exact sK.2 b l h e⟩
        exact K.turn (by simp)
      · rw [put_same, List.take_add_one, hX]; simp [upN]
  intro hv
  have hin' : R.take i = R := by
    simp only [Src.item] at hv
    rw [sra] at hv
    have := hend i hv
    exact List.take_of_length_le this
  rw [hin'] at sca
  have sL : LLL (c.get σ₄) la (lapsAll R total) := rL.kp sK (by simpa using hca)
  have hlen : (lapsAll R total).length = R.length := by simp [lapsAll]
  have hlgetD : ∀ x (h : x < R.length), (lapsAll R total).getD x [] = lineN R total R[x] := by
    intro x h
    rw [List.getD_eq_getElem?_getD, hlapsg x _ (List.getElem?_eq_getElem h)]; rfl
  have hgood' : ∀ r ∈ R, r.length = sz ∧ ∀ d ∈ r, d < mn := fun r hr => ⟨(hgood r hr).1, fun d hd => by have := (hgood r hr).2 d hd; omega⟩
  have hM := hmain R mn sz total hnd hgood' (by walk_at "o") (by walk_at "o")
  -- return _law_told(laps, size, many) == _law_counted(codes, size, many)
  walk_at "m"
  walk_at "m"
  refine W_Compare ?_
  refine W_call hc hA1 T' F4 n4 k8 rfl ?_
  walk_at "ms"
  refine ⟨rfl, fun v hp => ∃ d fa ea, v = .ref d ∧ hp d = some [.ref fa, .ref ea] ∧ hp fa = some ((toldM (lapsAll R total) sz (mn : Int) (sz + 2)).1.map .int) ∧ LL hp ea (toldM (lapsAll R total) sz (mn : Int) (sz + 2)).2, fun L => told_run hA1 T' sL (by walk_at "o") (by walk_at "o") (by walk_at "o") (by walk_at "o") (by walk_at "o") ?_ ?_, ?_⟩
  · intro x hx
    rw [hlgetD x (by walk_at "o"), hlen]; simp [lineN]
  · intro x y
    by_cases hx : x < R.length
    · rw [hlgetD x hx]
      by_cases hy : y < R.length
      · have : (lineN R total R[x]).getD y [] = lapsN (shR total R[x]) (shR total R[y]) (total - 1) := by
          rw [List.getD_eq_getElem?_getD, lineN, List.getElem?_map, List.getElem?_eq_getElem hy]; rfl
        rw [this]
        have hYl := (hXs y _ (List.getElem?_eq_getElem hy)).1
        have := lap_len (ys := shR total R[y]) (shR_mark total R[x])
        rw [shR_len] at this; omega
      · rw [List.getD_eq_getElem?_getD, List.getElem?_eq_none (by simp [lineN]; omega)]; simp
    · rw [List.getD_eq_getElem?_getD (l := lapsAll R total), List.getElem?_eq_none (by walk_at "o")]; simp
  rintro v hpT ⟨dT, fT, eT, rfl, hT1, hT2, hT3⟩ hgT
  rw [hM] at hT2 hT3
  refine W_call hc hA1 T' F5 n5 k9 rfl ?_
  walk_at "ms"
  refine ⟨rfl, fun v hp => ∃ d fa ea, v = .ref d ∧ hp d = some [.ref fa, .ref ea] ∧ hp fa = some ((cntM (R.map (codeOf mn)) sz mn (sz + 2)).1.map .int) ∧ LL hp ea (cntM (R.map (codeOf mn)) sz mn (sz + 2)).2, fun L => counted_run hA1 T' (join_get hgT (get_hp sca)) (by walk_at "o") (by walk_at "o") (by simp; omega) (by walk_at "o") (by walk_at "o") ?_, ?_⟩
  · have h1 : mn ^ (sz - 1) ≤ 4 ^ (sz - 1) := Nat.pow_le_pow_left (by walk_at "o") _
    have h2 : 4 ^ (sz - 1) ≤ 4 ^ 3 := Nat.pow_le_pow_right (by walk_at "o") (by walk_at "o")
    omega
  rintro v hpC ⟨dC, fC, eC, rfl, hC1, hC2, hC3⟩ hgC
  have up1 : ∀ b l, hpT b = some l → c.get ((σ₄.join hpT).join hpC) b = some l := fun b l h => join_get hgC (get_hp (join_new hgT h))
  have up2 : ∀ b l, hpC b = some l → c.get ((σ₄.join hpT).join hpC) b = some l := fun b l h => get_hp (join_new hgC h)
  refine Cm_eqD hc (has_pair (up1 _ _ hT1) (up1 _ _ hT2) (hT3.mono up1)) (has_pair (up2 _ _ hC1) (up2 _ _ hC2) (hC3.mono up2)) (shaped_pair _ _) (shaped_pair _ _) ?_
  rw [eqv_pair]
  exact hQ₀ _ _ ⟨_, rfl, rfl⟩
end Mine

namespace Mine
def S : Nat → (Nat → Int) → Int
  | 0, _ => 0
  | n + 1, f => S n f + f n
theorem S_congr {n : Nat} {f g : Nat → Int} (h : ∀ k, k < n → f k = g k) : S n f = S n g := by
  induction n with
  | zero => rfl
  | succ n ih => rw [S, S, ih (fun k hk => h k (by omega)), h n (by omega)]
theorem S_add (n : Nat) (f g : Nat → Int) : S n (fun k => f k + g k) = S n f + S n g := by
  induction n with
  | zero => rfl
  | succ n ih => rw [S, S, S, ih]; omega
theorem S_mul (n : Nat) (c : Int) (f : Nat → Int) : S n (fun k => c * f k) = c * S n f := by
  induction n with
  | zero => simp [S]
  | succ n ih => rw [S, S, ih, Int.mul_add]
theorem S_zero (n : Nat) : S n (fun _ => 0) = 0 := by
  induction n with
  | zero => rfl
  | succ n ih => rw [S, ih]; rfl
theorem S_one {n j : Nat} (hj : j < n) (f : Nat → Int) (h : ∀ k, k < n → k ≠ j → f k = 0) : S n f = f j := by
  induction n with
  | zero => omega
  | succ n ih =>
    rw [S]
    by_cases hjn : j = n
    · subst hjn
      have : S j f = S j fun _ => 0 := S_congr fun k hk => h k (by omega) (by omega)
      rw [this, S_zero]; omega
    · rw [ih (by omega) fun k hk hne => h k (by omega) hne, h n (by omega) (by omega)]; omega
theorem S_list {l : List Int} : l.sum = S l.length (fun k => l.getD k 0) := by
  have key : ∀ (l : List Int) (n : Nat), n ≤ l.length → (l.take n).sum = S n (fun k => l.getD k 0) := by
    intro l n
    induction n with
    | zero => intro _; rfl
    | succ n ih =>
      intro hn
      rw [S, ← ih (by omega), List.take_add_one, List.getElem?_eq_getElem (by omega), List.sum_append, List.getD_eq_getElem?_getD, List.getElem?_eq_getElem (by omega)]
      simp
  have := key l l.length (Nat.le_refl _)
  rw [List.take_length] at this
  exact this
def dot (l : List Int) (f : Nat → Int) : Int := S l.length (fun k => l.getD k 0 * f k)
theorem dot_addAt {m : List Int} {b : Nat} (hb : b < m.length) (x : Int) (f : Nat → Int) : dot (addAt m b x) f = dot m f + x * f b := by
  unfold dot
  rw [addAt_length]
  have e : ∀ k, k < m.length → (addAt m b x).getD k 0 * f k = m.getD k 0 * f k + (if k = b then x * f b else 0) := by
    intro k hk
    by_cases h : k = b
    · subst h
      simp only [addAt, if_true, List.getD_eq_getElem?_getD]
      rw [List.getElem?_set_self hk]
      simp only [Option.getD_some, Int.add_mul]
    · simp only [addAt, if_neg h, List.getD_eq_getElem?_getD]
      rw [List.getElem?_set_ne (Ne.symm h)]; omega
  rw [S_congr e, S_add, S_one hb (fun k => if k = b then x * f b else 0) fun k _ hne => if_neg hne]
  simp
theorem dot_zero (n : Nat) (f : Nat → Int) : dot (List.replicate n 0) f = 0 := by
  unfold dot
  rw [S_congr (g := fun _ => 0), S_zero]
  intro k hk
  simp at hk
  rw [List.getD_eq_getElem?_getD, List.getElem?_replicate, if_pos hk]; simp
theorem dot_one (l : List Int) : dot l (fun _ => 1) = l.sum := by
  rw [S_list]
  unfold dot
  exact S_congr fun k _ => by simp
theorem sum_one {α : Type} {l : List α} (hn : l.Nodup) {a : α} (ha : a ∈ l) (f : α → Int) (h : ∀ s ∈ l, s ≠ a → f s = 0) : (l.map f).sum = f a := by
  induction l with
  | nil => cases ha
  | cons x r ih =>
    have hn' := List.nodup_cons.mp hn
    rw [List.map_cons, List.sum_cons]
    rcases List.mem_cons.mp ha with rfl | ha
    · have : (r.map f).sum = 0 := by
        have hz : ∀ s ∈ r, f s = 0 := fun s hs => h s (.tail _ hs) (fun e => hn'.1 (e ▸ hs))
        clear ih hn hn' ha h
        induction r with
        | nil => rfl
        | cons y r ih => rw [List.map_cons, List.sum_cons, hz y (.head _), ih fun s hs => hz s (.tail _ hs)]; rfl
      omega
    · rw [ih hn'.2 ha fun s hs => h s (.tail _ hs), h x (.head _) (fun e => hn'.1 (e ▸ ha))]; omega
theorem sum_none {α : Type} {l : List α} (f : α → Int) (h : ∀ s ∈ l, f s = 0) : (l.map f).sum = 0 := by
  induction l with
  | nil => rfl
  | cons y r ih => rw [List.map_cons, List.sum_cons, h y (.head _), ih fun s hs => h s (.tail _ hs)]; rfl
theorem dot_add (l : List Int) (f g : Nat → Int) : dot l (fun k => f k + g k) = dot l f + dot l g := by
  unfold dot
  rw [← S_add]
  exact S_congr fun k _ => by rw [Int.mul_add]
theorem dot_const (l : List Int) (x : Int) : dot l (fun _ => x) = x * l.sum := by
  rw [← dot_one]
  unfold dot
  rw [← S_mul]
  exact S_congr fun k _ => by rw [Int.mul_one, Int.mul_comm]
theorem dot_congr {l : List Int} {f g : Nat → Int} (h : ∀ k, k < l.length → f k = g k) : dot l f = dot l g := by
  unfold dot
  exact S_congr fun k hk => by rw [h k hk]
theorem dot_sum (l : List Int) (B : List Nat) (f : Nat → Nat → Int) : dot l (fun k => (B.map fun j => f k j).sum) = (B.map fun j => dot l (fun k => f k j)).sum := by
  induction B with
  | nil => simp [dot, S_zero]
  | cons b r ih =>
    simp only [List.map_cons, List.sum_cons]
    rw [dot_add, ih]
end Mine

namespace Mine

/-- a row's number -/
theorem code_from (M : Nat) (b : List Nat) : ∀ c, b.foldl (fun c d => c * M + d) c = c * M ^ b.length + codeOf M b := by
  induction b with
  | nil => intro c; simp [codeOf]
  | cons d b ih =>
    intro c
    have h : codeOf M (d :: b) = b.foldl (fun c d => c * M + d) (0 * M + d) := rfl
    rw [List.foldl_cons, ih, h, ih, List.length_cons, Nat.pow_succ, Nat.zero_mul, Nat.zero_add, Nat.add_mul, Nat.add_assoc]
    congr 1
    rw [Nat.mul_assoc, Nat.mul_comm M]
theorem code_append (M : Nat) (a b : List Nat) : codeOf M (a ++ b) = codeOf M a * M ^ b.length + codeOf M b := by
  have : codeOf M (a ++ b) = b.foldl (fun c d => c * M + d) (codeOf M a) := by unfold codeOf; rw [List.foldl_append]
  rw [this, code_from]
theorem code_cons (M s : Nat) (v : List Nat) : codeOf M (s :: v) = s * M ^ v.length + codeOf M v := by
  have := code_append M [s] v
  rw [List.singleton_append] at this
  rw [this]
  simp [codeOf]
theorem code_lt {M : Nat} (hM : 1 ≤ M) : ∀ {v : List Nat}, (∀ d ∈ v, d < M) → codeOf M v < M ^ v.length
  | [], _ => by simp [codeOf]
  | s :: v, h => by
    rw [code_cons, List.length_cons, Nat.pow_succ]
    have h1 := code_lt hM (v := v) fun d hd => h d (.tail _ hd)
    have h2 : s + 1 ≤ M := h s (.head _)
    have h3 : (s + 1) * M ^ v.length ≤ M * M ^ v.length := Nat.mul_le_mul_right _ h2
    rw [Nat.add_mul, Nat.one_mul] at h3
    rw [Nat.mul_comm (M ^ v.length)]
    omega
theorem mul_add_inj {B a b c d : Nat} (hc : c < B) (hd : d < B) (h : a * B + c = b * B + d) : a = b ∧ c = d := by
  have h1 : (a * B + c) / B = a := by rw [Nat.mul_comm, Nat.mul_add_div (by omega), Nat.div_eq_of_lt hc]; omega
  have h2 : (b * B + d) / B = b := by rw [Nat.mul_comm, Nat.mul_add_div (by omega), Nat.div_eq_of_lt hd]; omega
  rw [h] at h1
  have : a = b := h1.symm.trans h2
  subst this
  exact ⟨rfl, by omega⟩
theorem code_inj {M : Nat} (hM : 1 ≤ M) : ∀ {v w : List Nat}, v.length = w.length → (∀ d ∈ v, d < M) → (∀ d ∈ w, d < M) → codeOf M v = codeOf M w → v = w
  | [], [], _, _, _, _ => rfl
  | [], _ :: _, h, _, _, _ => by simp at h
  | _ :: _, [], h, _, _, _ => by simp at h
  | s :: v, s' :: w, h, h1, h2, e => by
    have hl : v.length = w.length := by simpa using h
    have hv := code_lt hM (v := v) fun d hd => h1 d (.tail _ hd)
    have hw := code_lt hM (v := w) fun d hd => h2 d (.tail _ hd)
    rw [code_cons, code_cons, hl] at e
    rw [hl] at hv
    obtain ⟨e1, e2⟩ := mul_add_inj hv hw e
    rw [e1, code_inj hM hl (fun d hd => h1 d (.tail _ hd)) (fun d hd => h2 d (.tail _ hd)) e2]
theorem mod_split {A B u c : Nat} (hc : c < B) (hA : 0 < A) : (u * B + c) % (A * B) = u % A * B + c := by
  have e : u * B + c = (u % A * B + c) + A * B * (u / A) := by
    have h := Nat.mod_add_div u A
    have h2 : u * B = (u % A + A * (u / A)) * B := by rw [h]
    rw [h2, Nat.add_mul, Nat.mul_assoc A (u / A) B, Nat.mul_comm (u / A) B, ← Nat.mul_assoc]
    omega
  rw [e, Nat.add_mul_mod_self_left, Nat.mod_eq_of_lt]
  have h1 : u % A + 1 ≤ A := Nat.mod_lt _ hA
  have h2 : (u % A + 1) * B ≤ A * B := Nat.mul_le_mul_right _ h1
  rw [Nat.add_mul, Nat.one_mul] at h2
  omega
theorem mod_low {B u c : Nat} (hc : c < B) : (u * B + c) % B = c := by
  rw [Nat.mul_comm, Nat.mul_add_mod, Nat.mod_eq_of_lt hc]

/-- the automaton of the last signs -/
def FX (cs : List Nat) (W M x : Nat) : Nat → List Nat → Bool
  | _, [] => false
  | u, s :: v => if u * M + s ∈ cs then (v.isEmpty && decide (cs.idxOf (u * M + s) = x)) else FX cs W M x ((u * M + s) % W) v
def EX (cs : List Nat) (W M x : Nat) : Nat → Nat → Int
  | _, 0 => 0
  | u, j + 1 => S M fun s => if u * M + s ∈ cs then (if j = 0 ∧ cs.idxOf (u * M + s) = x then 1 else 0) else EX cs W M x ((u * M + s) % W) j
/-- the number of the last signs after a text -/
def cod (W M u : Nat) (v : List Nat) : Nat := (u * M ^ v.length + codeOf M v) % (W * M)

section
variable {cs : List Nat} {W M n : Nat}
theorem cod_cons {u s : Nat} {v : List Nat} (hv : v ≠ []) : cod W M u (s :: v) = cod W M ((u * M + s) % W) v := by
  unfold cod
  obtain ⟨l, hl⟩ : ∃ l, v.length = l + 1 := ⟨v.length - 1, by have := List.length_pos_iff.mpr hv; omega⟩
  rw [code_cons, List.length_cons, hl]
  generalize codeOf M v = c
  have e1 : u * M ^ (l + 1 + 1) + (s * M ^ (l + 1) + c) = (u * M + s) * M ^ (l + 1) + c := by
    rw [Nat.add_mul, Nat.pow_succ M (l + 1), ← Nat.mul_assoc, Nat.mul_right_comm u M]; omega
  rw [e1]
  generalize u * M + s = a
  have h := Nat.mod_add_div a W
  have e2 : a * M ^ (l + 1) + c = (a % W * M ^ (l + 1) + c) + W * M * (M ^ l * (a / W)) := by
    have h2 : a * M ^ (l + 1) = (a % W + W * (a / W)) * M ^ (l + 1) := by rw [h]
    have h3 : W * (a / W) * M ^ (l + 1) = W * M * (M ^ l * (a / W)) := by
      rw [Nat.pow_succ]
      simp only [Nat.mul_assoc, Nat.mul_left_comm, Nat.mul_comm]
    rw [h2, Nat.add_mul, h3]; omega
  rw [e2, Nat.add_mul_mod_self_left]
theorem cod_one {u s : Nat} (hu : u < W) (hs : s < M) : cod W M u [s] = u * M + s := by
  unfold cod
  have : codeOf M [s] = s := by simp [codeOf]
  rw [this, List.length_singleton, Nat.pow_one, Nat.mod_eq_of_lt]
  have h2 : (u + 1) * M ≤ W * M := Nat.mul_le_mul_right _ hu
  rw [Nat.add_mul, Nat.one_mul] at h2
  omega
theorem FX.ends (hW : 0 < W) {x : Nat} : ∀ {v : List Nat} {u : Nat}, u < W → (∀ d ∈ v, d < M) → FX cs W M x u v = true → cod W M u v ∈ cs ∧ cs.idxOf (cod W M u v) = x
  | [], _, _, _, h => by cases h
  | s :: v, u, hu, hd, h => by
    unfold FX at h
    by_cases hs : u * M + s ∈ cs
    · rw [if_pos hs] at h
      simp only [Bool.and_eq_true, List.isEmpty_iff, decide_eq_true_eq] at h
      obtain ⟨rfl, h2⟩ := h
      rw [cod_one hu (hd s (.head _))]
      exact ⟨hs, h2⟩
    · rw [if_neg hs] at h
      have hv : v ≠ [] := by rintro rfl; cases h
      rw [cod_cons hv]
      exact FX.ends hW (Nat.mod_lt _ hW) (fun d hd' => hd d (.tail _ hd')) h
theorem FX.some (hW : 0 < W) : ∀ {v : List Nat} {u : Nat}, u < W → (∀ d ∈ v, d < M) → v ≠ [] → cod W M u v ∈ cs → ∃ m x, 1 ≤ m ∧ m ≤ v.length ∧ x < cs.length ∧ FX cs W M x u (v.take m) = true
  | [], _, _, _, h, _ => absurd rfl h
  | s :: v, u, hu, hd, _, h => by
    by_cases hs : u * M + s ∈ cs
    · exact ⟨1, cs.idxOf (u * M + s), by omega, by simp, List.idxOf_lt_length_iff.mpr hs, by simp [FX, hs]⟩
    · have hv : v ≠ [] := by
        rintro rfl
        rw [cod_one hu (hd s (.head _))] at h
        exact hs h
      rw [cod_cons hv] at h
      obtain ⟨m, x, h1, h2, h3, h4⟩ := FX.some hW (Nat.mod_lt _ hW) (fun d hd' => hd d (.tail _ hd')) hv h
      refine ⟨m + 1, x, by omega, by simp; omega, h3, ?_⟩
      rw [List.take_succ_cons, FX, if_neg hs]; exact h4
theorem FX.once {x x' : Nat} : ∀ {v w : List Nat} {u : Nat}, FX cs W M x u v = true → FX cs W M x' u (v ++ w) = true → w = [] ∧ x = x'
  | [], _, _, h, _ => by cases h
  | s :: v, w, u, h1, h2 => by
    rw [List.cons_append] at h2
    unfold FX at h1 h2
    by_cases hs : u * M + s ∈ cs
    · rw [if_pos hs] at h1 h2
      simp only [Bool.and_eq_true, List.isEmpty_iff, decide_eq_true_eq] at h1 h2
      obtain ⟨rfl, h3⟩ := h1
      exact ⟨by simpa using h2.1, h3.symm.trans h2.2⟩
    · rw [if_neg hs] at h1 h2
      exact FX.once h1 h2
theorem FX.unique {v : List Nat} {u x x' i j : Nat} (hi : i ≤ v.length) (hj : j ≤ v.length) (h1 : FX cs W M x u (v.take i) = true) (h2 : FX cs W M x' u (v.take j) = true) : i = j ∧ x = x' := by
  have key : ∀ i j x x', i ≤ j → j ≤ v.length → FX cs W M x u (v.take i) = true → FX cs W M x' u (v.take j) = true → i = j ∧ x = x' := by
    intro i j x x' hij hj h1 h2
    have e : v.take j = v.take i ++ (v.drop i).take (j - i) := by
      have : j = i + (j - i) := by omega
      rw [this, List.take_add]; simp
    rw [e] at h2
    obtain ⟨h3, h4⟩ := FX.once h1 h2
    have hl := congrArg List.length h3
    simp at hl
    exact ⟨by omega, h4⟩
  rcases Nat.le_total i j with h | h
  · exact key i j x x' h hj h1 h2
  · obtain ⟨a, b⟩ := key j i x' x h hi h2 h1
    exact ⟨a.symm, b.symm⟩
theorem cod_mod (hWM : W * M = M ^ n) (hM : 1 ≤ M) {u : Nat} {v : List Nat} (hd : ∀ d ∈ v, d < M) (hl : v.length ≤ n) : cod W M u v % M ^ v.length = codeOf M v := by
  unfold cod
  rw [hWM, Nat.mod_mod_of_dvd _ (Nat.pow_dvd_pow M hl), mod_low (code_lt hM hd)]
theorem at_idx {c x cx : Nat} (h : c ∈ cs) (hx : cs.idxOf c = x) (hc : cs[x]? = Option.some cx) : c = cx := by
  have h1 : cs.idxOf c < cs.length := List.idxOf_lt_length_iff.mpr h
  have h2 : cs[cs.idxOf c]? = Option.some c := by rw [List.getElem?_eq_getElem h1, List.getElem_idxOf]
  rw [hx, hc] at h2
  exact (Option.some.inj h2).symm

theorem EX_is (hWM : W * M = M ^ n) (hM : 1 ≤ M) (hW : 0 < W) {x cx : Nat} (hcx : cs[x]? = Option.some cx) : ∀ {z : List Nat} {u : Nat}, u < W → z.length ≤ n → (∀ d ∈ z, d < M) → cx % M ^ z.length = codeOf M z →
    EX cs W M x u z.length = if FX cs W M x u z = true then 1 else 0
  | [], _, _, _, _, _ => rfl
  | s :: z, u, hu, hl, hd, hz => by
    have hz' : cx % M ^ z.length = codeOf M z := by
      have : cx % M ^ z.length = (cx % M ^ (s :: z).length) % M ^ z.length := by
        rw [Nat.mod_mod_of_dvd _ (Nat.pow_dvd_pow M (by simp))]
      rw [this, hz, code_cons, mod_low (code_lt hM fun d hd' => hd d (.tail _ hd'))]
    have hterm : ∀ s', s' < M → (if u * M + s' ∈ cs then (if z.length = 0 ∧ cs.idxOf (u * M + s') = x then (1 : Int) else 0) else EX cs W M x ((u * M + s') % W) z.length) = if FX cs W M x u (s' :: z) = true then 1 else 0 := by
      intro s' _
      rw [FX]
      by_cases hs : u * M + s' ∈ cs
      · rw [if_pos hs, if_pos hs]
        by_cases h0 : z = []
        · subst h0; simp
        · have : ¬ z.length = 0 := by have := List.length_pos_iff.mpr h0; omega
          simp [h0]
      · rw [if_neg hs, if_neg hs]
        exact EX_is hWM hM hW hcx (Nat.mod_lt _ hW) (by simp at hl; omega) (fun d hd' => hd d (.tail _ hd')) hz'
    rw [List.length_cons, EX, S_congr hterm]
    refine S_one (hd s (.head _)) (fun s' => if FX cs W M x u (s' :: z) = true then (1 : Int) else 0) ?_
    intro s' hs' hne
    rw [if_neg]
    intro hf
    have hd' : ∀ d ∈ s' :: z, d < M := by
      intro d hdd
      rcases List.mem_cons.mp hdd with rfl | h
      · exact hs'
      · exact hd d (.tail _ h)
    obtain ⟨h1, h2⟩ := FX.ends hW hu hd' hf
    have h3 := at_idx h1 h2 hcx
    have h4 := cod_mod (u := u) hWM hM hd' (by simpa using hl)
    rw [h3, List.length_cons] at h4
    rw [List.length_cons] at hz
    rw [hz, code_cons, code_cons] at h4
    have hpos := Nat.pow_pos (n := z.length) (show 0 < M by omega)
    have := Nat.eq_of_mul_eq_mul_right hpos (Nat.add_right_cancel h4)
    exact hne this.symm
end
theorem S_all {n : Nat} {f : Nat → Int} (h : ∀ k, k < n → f k = 0) : S n f = 0 := by
  rw [S_congr (g := fun _ => 0) h, S_zero]

/-- what a state's readings of the row Y come to -/
theorem EX_all {cs : List Nat} {W M n : Nat} (hWM : W * M = M ^ n) (hM : 1 ≤ M) (hW : 0 < W) {Y : List Nat} (hYl : Y.length = n) (hYd : ∀ d ∈ Y, d < M) (hYc : codeOf M Y ∈ cs)
    {B : Nat → List Nat} (hBn : ∀ x, (B x).Nodup) (hB : ∀ x cx, cs[x]? = Option.some cx → ∀ k, k ∈ B x ↔ 0 < k ∧ k ≤ n ∧ cx % M ^ k = codeOf M (Y.take k))
    {p u : Nat} (hp : p < n) (hu : u < W) :
    S cs.length (fun x => ((B x).map fun k => if p < k then EX cs W M x u (k - p) else 0).sum) = if u % M ^ p = codeOf M (Y.take p) then 1 else 0 := by
  have hMp : ∀ k, 0 < M ^ k := fun k => Nat.pow_pos (by omega)
  have hdrop : ∀ k, ∀ d ∈ (Y.drop p).take k, d < M := fun k d hd => hYd d (List.mem_of_mem_drop (List.mem_of_mem_take hd))
  have htk : ∀ k, ∀ d ∈ Y.take k, d < M := fun k d hd => hYd d (List.mem_of_mem_take hd)
  have hsp : ∀ k, p ≤ k → Y.take k = Y.take p ++ (Y.drop p).take (k - p) := fun k hk => by
    have : k = p + (k - p) := by omega
    rw [this, List.take_add]; simp
  have hval : ∀ x cx, cs[x]? = Option.some cx → ∀ k, k ∈ B x → p < k → EX cs W M x u (k - p) = if FX cs W M x u ((Y.drop p).take (k - p)) = true then 1 else 0 := by
    intro x cx hcx k hk hpk
    obtain ⟨_, hkn, e⟩ := (hB x cx hcx k).mp hk
    have hl : ((Y.drop p).take (k - p)).length = k - p := by rw [List.length_take, List.length_drop, hYl]; omega
    have h := EX_is (cs := cs) hWM hM hW hcx (z := (Y.drop p).take (k - p)) hu (by omega) (hdrop _) (by
      rw [hl]
      have h1 : cx % M ^ (k - p) = (cx % M ^ k) % M ^ (k - p) := by rw [Nat.mod_mod_of_dvd _ (Nat.pow_dvd_pow M (by omega))]
      rw [h1, e, hsp k (by omega), code_append, hl, mod_low]
      have := code_lt hM (hdrop (k - p))
      rw [hl] at this; exact this)
    rw [hl] at h
    exact h
  have hcmod : ∀ x cx, cs[x]? = Option.some cx → ∀ m, m ≤ n - p → FX cs W M x u ((Y.drop p).take m) = true → cx % M ^ (p + m) = u % M ^ p * M ^ m + codeOf M ((Y.drop p).take m) := by
    intro x cx hcx m hm hf
    obtain ⟨h1, h2⟩ := FX.ends hW hu (hdrop m) hf
    have h3 := at_idx h1 h2 hcx
    have hl : ((Y.drop p).take m).length = m := by rw [List.length_take, List.length_drop, hYl]; omega
    rw [← h3, cod, hWM, hl, Nat.mod_mod_of_dvd _ (Nat.pow_dvd_pow M (by omega)), Nat.pow_add, mod_split _ (hMp p)]
    have := code_lt hM (hdrop m)
    rw [hl] at this; exact this
  by_cases hr : u % M ^ p = codeOf M (Y.take p)
  · rw [if_pos hr]
    have hcodY : cod W M u (Y.drop p) = codeOf M Y := by
      have hl : (Y.drop p).length = n - p := by rw [List.length_drop, hYl]
      have hdd : ∀ d ∈ Y.drop p, d < M := fun d hd => hYd d (List.mem_of_mem_drop hd)
      have hlt := code_lt hM hdd
      rw [hl] at hlt
      have hn : M ^ n = M ^ p * M ^ (n - p) := by rw [← Nat.pow_add]; congr 1; omega
      rw [cod, hWM, hl, hn, mod_split hlt (hMp p), hr]
      have := code_append M (Y.take p) (Y.drop p)
      rw [List.take_append_drop, hl] at this
      exact this.symm
    obtain ⟨m, x0, h1, h2, h3, h4⟩ := FX.some hW hu (v := Y.drop p) (fun d hd => hYd d (List.mem_of_mem_drop hd)) (by
      intro h; have := congrArg List.length h; rw [List.length_drop, hYl] at this; simp at this; omega) (by rw [hcodY]; exact hYc)
    have hl : (Y.drop p).length = n - p := by rw [List.length_drop, hYl]
    rw [hl] at h2
    have hcx0 : cs[x0]? = Option.some cs[x0] := List.getElem?_eq_getElem h3
    have hk0 : p + m ∈ B x0 := by
      refine (hB x0 _ hcx0 _).mpr ⟨by omega, by omega, ?_⟩
      rw [hcmod x0 _ hcx0 m h2 h4, hr, hsp (p + m) (by omega), code_append, Nat.add_sub_cancel_left]
      congr 2
      rw [List.length_take, hl]; congr 1; omega
    have huniq : ∀ x cx, cs[x]? = Option.some cx → ∀ k, k ∈ B x → p < k → (x = x0 ∧ k = p + m) ∨ EX cs W M x u (k - p) = 0 := by
      intro x cx hcx k hk hpk
      rw [hval x cx hcx k hk hpk]
      by_cases hf : FX cs W M x u ((Y.drop p).take (k - p)) = true
      · left
        have hkn := ((hB x cx hcx k).mp hk).2.1
        obtain ⟨a, b⟩ := FX.unique (v := Y.drop p) (by omega) (by omega) hf h4
        exact ⟨b, by omega⟩
      · right; rw [if_neg hf]
    rw [S_one h3]
    · rw [sum_one (hBn x0) hk0]
      · rw [if_pos (by omega), hval x0 _ hcx0 _ hk0 (by omega), Nat.add_sub_cancel_left, if_pos h4]
      · intro k hk hne
        by_cases hpk : p < k
        · rw [if_pos hpk]
          rcases huniq x0 _ hcx0 k hk hpk with ⟨_, h⟩ | h
          · exact absurd h hne
          · exact h
        · rw [if_neg hpk]
    · intro x hx hne
      refine sum_none _ fun k hk => ?_
      by_cases hpk : p < k
      · rw [if_pos hpk]
        rcases huniq x _ (List.getElem?_eq_getElem hx) k hk hpk with ⟨h, _⟩ | h
        · exact absurd h hne
        · exact h
      · rw [if_neg hpk]
  · rw [if_neg hr]
    refine S_all fun x hx => sum_none _ fun k hk => ?_
    by_cases hpk : p < k
    · have hcx : cs[x]? = Option.some cs[x] := List.getElem?_eq_getElem hx
      rw [if_pos hpk, hval x _ hcx k hk hpk, if_neg]
      intro hf
      obtain ⟨_, hkn, e⟩ := (hB x _ hcx k).mp hk
      have h1 := hcmod x _ hcx (k - p) (by omega) hf
      rw [show p + (k - p) = k by omega, e, hsp k (by omega), code_append] at h1
      have hl : ((Y.drop p).take (k - p)).length = k - p := by rw [List.length_take, List.length_drop, hYl]; omega
      rw [hl] at h1
      have h2 := Nat.eq_of_mul_eq_mul_right (hMp (k - p)) (Nat.add_right_cancel h1)
      exact hr h2.symm
    · rw [if_neg hpk]
end Mine

namespace Mine

theorem S_split (a b : Nat) (f : Nat → Int) : S (a + b) f = S a f + S b fun i => f (a + i) := by
  induction b with
  | zero => simp [S]
  | succ b ih => rw [← Nat.add_assoc, S, S, ih]; omega
/-- every A-th of A * B -/
theorem S_mod {A r : Nat} (hr : r < A) : ∀ B : Nat, S (A * B) (fun u => if u % A = r then (1 : Int) else 0) = (B : Int)
  | 0 => by simp [S]
  | B + 1 => by
    rw [Nat.mul_succ, S_split, S_mod hr B, S_one hr]
    · rw [Nat.mul_add_mod, Nat.mod_eq_of_lt hr, if_pos rfl]; omega
    · intro k hk hne
      rw [Nat.mul_add_mod, Nat.mod_eq_of_lt hk, if_neg hne]
theorem sum_range (m : Nat) (f : Nat → Int) : ((List.range m).map f).sum = S m f := by
  induction m with
  | zero => rfl
  | succ m ih => rw [List.range_succ, List.map_append, List.sum_append, ih, S]; simp
theorem dot_S (l : List Int) (m : Nat) (f : Nat → Nat → Int) : dot l (fun u => S m fun x => f u x) = S m fun x => dot l fun u => f u x := by
  induction m with
  | zero => show dot l (fun _ => 0) = 0; unfold dot; rw [S_congr (g := fun _ => 0) (fun k _ => Int.mul_zero _), S_zero]
  | succ m ih =>
    simp only [S]
    rw [dot_add, ih]
theorem dot_no (l : List Int) : dot l (fun _ => 0) = 0 := by
  unfold dot; rw [S_congr (g := fun _ => 0) (fun k _ => Int.mul_zero _), S_zero]
theorem dot_at {l : List Int} {x : Nat} (hx : x < l.length) : dot l (fun b => if b = x then 1 else 0) = l.getD x 0 := by
  unfold dot
  rw [S_one hx]
  · simp
  · intro k _ hne
    simp [hne]

section
variable {cs : List Nat} {W M : Nat}
theorem dot_step1 {x : Int} {m : List Int × List Int} {code : Nat} (hm : m.1.length = W) (hW : 0 < W) (f : Nat → Int) : dot (cStep cs W x m code).1 f = dot m.1 f + x * (if code ∈ cs then 0 else f (code % W)) := by
  unfold cStep
  by_cases h : code ∈ cs
  · rw [if_pos h, if_pos h, Int.mul_zero, Int.add_zero]
  · rw [if_neg h, if_neg h, dot_addAt (by rw [hm]; exact Nat.mod_lt _ hW)]
theorem dot_step2 {x : Int} {m : List Int × List Int} {code : Nat} (hm : m.2.length = cs.length) (f : Nat → Int) : dot (cStep cs W x m code).2 f = dot m.2 f + x * (if code ∈ cs then f (cs.idxOf code) else 0) := by
  unfold cStep
  by_cases h : code ∈ cs
  · rw [if_pos h, if_pos h, dot_addAt (by rw [hm]; exact List.idxOf_lt_length_iff.mpr h)]
  · rw [if_neg h, if_neg h, Int.mul_zero, Int.add_zero]
theorem dot_row1 {x : Int} {m : List Int × List Int} {last : Nat} (hm : m.1.length = W) (hW : 0 < W) (f : Nat → Int) : ∀ s, dot (cRow cs W M x m last s).1 f = dot m.1 f + x * S s fun s => if last * M + s ∈ cs then 0 else f ((last * M + s) % W)
  | 0 => by show dot m.1 f = dot m.1 f + x * 0; omega
  | s + 1 => by rw [cRow_succ, dot_step1 (by rw [(cRow_len s).1, hm]) hW, dot_row1 hm hW f s, S, Int.mul_add]; omega
theorem dot_row2 {x : Int} {m : List Int × List Int} {last : Nat} (hm : m.2.length = cs.length) (f : Nat → Int) : ∀ s, dot (cRow cs W M x m last s).2 f = dot m.2 f + x * S s fun s => if last * M + s ∈ cs then f (cs.idxOf (last * M + s)) else 0
  | 0 => by show dot m.2 f = dot m.2 f + x * 0; omega
  | s + 1 => by rw [cRow_succ, dot_step2 (by rw [(cRow_len s).2, hm]), dot_row2 hm f s, S, Int.mul_add]; omega
theorem dot_to1 {ways : List Int} (hW : 0 < W) (f : Nat → Int) : ∀ k, dot (cTo cs W M ways k).1 f = S k fun u => ways.getD u 0 * S M fun s => if u * M + s ∈ cs then 0 else f ((u * M + s) % W)
  | 0 => by
    show dot (List.replicate W 0) f = 0
    exact dot_zero _ _
  | k + 1 => by rw [cTo_succ, dot_row1 (cTo_len k).1 hW, dot_to1 hW f k, S]
theorem dot_to2 {ways : List Int} (f : Nat → Int) : ∀ k, dot (cTo cs W M ways k).2 f = S k fun u => ways.getD u 0 * S M fun s => if u * M + s ∈ cs then f (cs.idxOf (u * M + s)) else 0
  | 0 => by
    show dot (List.replicate cs.length 0) f = 0
    exact dot_zero _ _
  | k + 1 => by rw [cTo_succ, dot_row2 (cTo_len k).2, dot_to2 f k, S]
theorem dot_next (hW : 0 < W) (N : Nat) (f : Nat → Int) : dot (cWays cs W M (N + 1)) f = dot (cWays cs W M N) fun u => S M fun s => if u * M + s ∈ cs then 0 else f ((u * M + s) % W) := by
  rw [cWays, dot_to1 hW]
  unfold dot
  rw [cWays_len]
theorem dot_hits (N : Nat) (f : Nat → Int) : dot (cHits cs W M N) f = dot (cWays cs W M N) fun u => S M fun s => if u * M + s ∈ cs then f (cs.idxOf (u * M + s)) else 0 := by
  rw [cHits, dot_to2]
  unfold dot
  rw [cWays_len]
theorem dot_EX (hW : 0 < W) (x : Nat) : ∀ N j, dot (cWays cs W M N) (fun u => EX cs W M x u (j + 1)) = dot (cWays cs W M 0) fun u => EX cs W M x u (N + j + 1)
  | 0, j => by rw [Nat.zero_add]
  | N + 1, j => by
    rw [dot_next hW]
    have e : ∀ u, (S M fun s => if u * M + s ∈ cs then (0 : Int) else EX cs W M x ((u * M + s) % W) (j + 1)) = EX cs W M x u (j + 1 + 1) := by
      intro u
      rw [EX]
      refine S_congr fun s _ => ?_
      by_cases hs : u * M + s ∈ cs <;> simp [hs]
    simp only [e]
    rw [dot_EX hW x N (j + 1)]
    rw [show N + (j + 1) + 1 = N + 1 + j + 1 by omega]
theorem hits_is (hW : 0 < W) {x : Nat} (hx : x < cs.length) (N : Nat) : (cHits cs W M N).getD x 0 = dot (cWays cs W M 0) fun u => EX cs W M x u (N + 1) := by
  rw [← dot_at (by rw [cHits_len]; exact hx), dot_hits]
  have := dot_EX (cs := cs) (M := M) hW x N 0
  rw [Nat.add_zero] at this
  rw [← this]
  refine dot_congr fun u _ => ?_
  rw [EX]
  refine S_congr fun s _ => ?_
  by_cases hs : u * M + s ∈ cs <;> simp [hs, EX]
theorem S_const (n : Nat) (x : Int) : S n (fun _ => x) = (n : Int) * x := by
  induction n with
  | zero => simp [S]
  | succ n ih => rw [S, ih, Int.natCast_succ, Int.add_mul]; omega
theorem free_more (hW : 0 < W) (N : Nat) : (cWays cs W M (N + 1)).sum + (cHits cs W M N).sum = (M : Int) * (cWays cs W M N).sum := by
  rw [← dot_one, ← dot_one (cHits cs W M N), dot_next hW, dot_hits, ← dot_add, ← dot_const]
  refine dot_congr fun u _ => ?_
  rw [← S_add, show (M : Int) = (M : Int) * 1 from (Int.mul_one _).symm, ← S_const]
  refine S_congr fun s _ => ?_
  by_cases hs : u * M + s ∈ cs <;> simp [hs]
end

def frN (cs : List Nat) (n M i : Nat) : Int := if i < n then (M : Int) ^ i else (cWays cs (M ^ (n - 1)) M (i + 1 - n)).sum
def enN (cs : List Nat) (n M x i : Nat) : Int := if i < n then 0 else (cHits cs (M ^ (n - 1)) M (i - n)).getD x 0
theorem cntM_is (cs : List Nat) (n M : Nat) : ∀ N, cntM cs n M N = ((List.range (n + N)).map (frN cs n M), (List.range cs.length).map fun x => (List.range (n + N)).map (enN cs n M x))
  | 0 => by
    rw [cntM, Nat.add_zero]
    refine Prod.ext ?_ ?_
    · exact List.map_congr_left fun i hi => by rw [frN, if_pos (List.mem_range.mp hi)]
    · show (cs.map fun _ => List.replicate n 0) = _
      have h1 : ∀ x, (List.range n).map (enN cs n M x) = List.replicate n 0 := by
        intro x
        rw [List.eq_replicate_iff]
        refine ⟨by simp, fun b hb => ?_⟩
        obtain ⟨i, hi, rfl⟩ := List.mem_map.mp hb
        rw [enN, if_pos (List.mem_range.mp hi)]
      simp only [h1]
      apply List.ext_getElem?
      intro j
      rw [List.getElem?_map, List.getElem?_map]
      by_cases hj : j < cs.length
      · rw [List.getElem?_eq_getElem hj, List.getElem?_range hj]; rfl
      · rw [List.getElem?_eq_none (by omega), List.getElem?_eq_none (by simp; omega)]
  | N + 1 => by
    rw [cntM, cntM_is cs n M N]
    refine Prod.ext ?_ ?_
    · show (List.range (n + N)).map (frN cs n M) ++ _ = _
      rw [← Nat.add_assoc, List.range_succ, List.map_append]
      congr 1
      simp only [List.map_cons, List.map_nil, frN]
      rw [if_neg (by omega), show n + N + 1 - n = N + 1 by omega]
    · show growTo _ _ _ = _
      apply List.ext_getElem?
      intro j
      by_cases hj : j < cs.length
      · rw [growTo_get (by simpa using hj), if_pos hj, List.getElem?_map, List.getElem?_range hj]
        simp only [Option.map_some]
        rw [← Nat.add_assoc, List.range_succ, List.map_append]
        congr 2
        · rw [List.getD_eq_getElem?_getD, List.getElem?_map, List.getElem?_range hj]; rfl
        · simp only [List.map_cons, List.map_nil, enN]
          rw [if_neg (by omega), show n + N - n = N by omega]
      · rw [List.getElem?_eq_none (by rw [growTo_length]; simp; omega), List.getElem?_eq_none (by simp; omega)]
end Mine

namespace Mine

theorem shR_get {t : Int} {r : List Nat} {j : Nat} (h : j < r.length) : (shR t r).getD j 0 = t + ((r.getD j 0 : Nat) : Int) := by
  unfold shR
  rw [List.getD_eq_getElem?_getD, List.getD_eq_getElem?_getD, List.getElem?_map, List.getElem?_eq_getElem h]; rfl
theorem nat_get {r : List Nat} {j : Nat} (h : j < r.length) : r[j]? = some (r.getD j 0) := by
  rw [List.getD_eq_getElem?_getD, List.getElem?_eq_getElem h]; rfl
theorem lap_num {M n : Nat} (hM : 1 ≤ M) {t : Int} {X Y : List Nat} (hX : X.length = n) (hY : Y.length = n) (hXd : ∀ d ∈ X, d < M) (hYd : ∀ d ∈ Y, d < M) (k : Nat) :
    k ∈ lapsN (shR t X) (shR t Y) (t - 1) ↔ 0 < k ∧ k ≤ n ∧ codeOf M X % M ^ k = codeOf M (Y.take k) := by
  rw [lap_mem (n := n) (shR_mark t X) (by rw [shR_len, hX]) (by rw [shR_len, hY])]
  have hxd : ∀ d ∈ X.drop (n - k), d < M := fun d hd => hXd d (List.mem_of_mem_drop hd)
  have hyd : ∀ d ∈ Y.take k, d < M := fun d hd => hYd d (List.mem_of_mem_take hd)
  constructor
  · rintro ⟨h0, hk, h⟩
    have hl : (X.drop (n - k)).length = k := by rw [List.length_drop, hX]; omega
    have e : Y.take k = X.drop (n - k) := by
      apply List.ext_getElem?
      intro j
      by_cases hj : j < k
      · rw [List.getElem?_take, if_pos hj, List.getElem?_drop, nat_get (by omega), nat_get (by omega)]
        have := h j hj
        rw [shR_get (by omega), shR_get (by omega)] at this
        congr 1; omega
      · rw [List.getElem?_eq_none (by simp; omega), List.getElem?_eq_none (by omega)]
    refine ⟨h0, hk, ?_⟩
    rw [e]
    have := code_append M (X.take (n - k)) (X.drop (n - k))
    rw [List.take_append_drop, hl] at this
    rw [this, mod_low]
    have := code_lt hM hxd
    rw [hl] at this; exact this
  · rintro ⟨h0, hk, h⟩
    have hl : (X.drop (n - k)).length = k := by rw [List.length_drop, hX]; omega
    refine ⟨h0, hk, ?_⟩
    have h1 : codeOf M X % M ^ k = codeOf M (X.drop (n - k)) := by
      have := code_append M (X.take (n - k)) (X.drop (n - k))
      rw [List.take_append_drop, hl] at this
      rw [this, mod_low]
      have := code_lt hM hxd
      rw [hl] at this; exact this
    rw [h1] at h
    have e := code_inj hM (by rw [hl, List.length_take]; omega) hxd hyd h
    intro j hj
    have e2 : (X.drop (n - k))[j]? = (Y.take k)[j]? := by rw [e]
    rw [List.getElem?_take, if_pos hj, List.getElem?_drop, nat_get (by omega), nat_get (by omega)] at e2
    rw [shR_get (by omega), shR_get (by omega), Option.some.inj e2]

section
variable {R : List (List Nat)} {M n : Nat} {t : Int}
theorem cs_get (x : Nat) : (R.map (codeOf M))[x]? = (R[x]?).map (codeOf M) := by rw [List.getElem?_map]
theorem nodup_codes (hM : 1 ≤ M) (hnd : R.Nodup) (hgood : ∀ r ∈ R, r.length = n ∧ ∀ d ∈ r, d < M) : (R.map (codeOf M)).Nodup := by
  unfold List.Nodup at *
  rw [List.pairwise_map]
  refine List.Pairwise.imp_of_mem (fun {a b} ha hb hne e => hne ?_) hnd
  exact code_inj hM ((hgood a ha).1.trans (hgood b hb).1.symm) (hgood a ha).2 (hgood b hb).2 e
theorem laps_get {x y : Nat} (hx : x < R.length) (hy : y < R.length) : ((lapsAll R t).getD x []).getD y [] = lapsN (shR t R[x]) (shR t R[y]) (t - 1) := by
  have h1 : (lapsAll R t).getD x [] = lineN R t R[x] := by
    rw [List.getD_eq_getElem?_getD, lapsAll, List.getElem?_map, List.getElem?_eq_getElem hx]; rfl
  rw [h1, List.getD_eq_getElem?_getD, lineN, List.getElem?_map, List.getElem?_eq_getElem hy]; rfl

theorem free_ident (hM : 1 ≤ M) (h1 : 1 ≤ n) (hgood : ∀ r ∈ R, r.length = n ∧ ∀ d ∈ r, d < M) {y : Nat} (hy : y < R.length) (N : Nat) :
    frN (R.map (codeOf M)) n M N = S R.length fun x => ((((lapsAll R t).getD x []).getD y []).map fun k => enN (R.map (codeOf M)) n M x (N + k)).sum := by
  generalize hcs : R.map (codeOf M) = cs
  have hcl : cs.length = R.length := by rw [← hcs]; simp
  have hWpos : 0 < M ^ (n - 1) := Nat.pow_pos (by omega)
  have hWM : M ^ (n - 1) * M = M ^ n := by rw [← Nat.pow_succ]; congr 1; omega
  obtain ⟨hYl, hYd⟩ := hgood R[y] (List.getElem_mem hy)
  have hYc : codeOf M R[y] ∈ cs := by rw [← hcs]; exact List.mem_map.mpr ⟨_, List.getElem_mem hy, rfl⟩
  have hBx : ∀ x, x < R.length → ((lapsAll R t).getD x []).getD y [] = lapsN (shR t (R.getD x [])) (shR t R[y]) (t - 1) := by
    intro x hx
    rw [laps_get hx hy, List.getD_eq_getElem?_getD, List.getElem?_eq_getElem hx]; rfl
  have hB : ∀ x cx, cs[x]? = some cx → ∀ k, k ∈ lapsN (shR t (R.getD x [])) (shR t R[y]) (t - 1) ↔ 0 < k ∧ k ≤ n ∧ cx % M ^ k = codeOf M (R[y].take k) := by
    intro x cx hcx k
    rw [← hcs, cs_get] at hcx
    cases hRx : R[x]? with
    | none => rw [hRx] at hcx; cases hcx
    | some X =>
      rw [hRx] at hcx; cases hcx
      have : R.getD x [] = X := by rw [List.getD_eq_getElem?_getD, hRx]; rfl
      rw [this]
      obtain ⟨a, b⟩ := hgood X (List.mem_of_getElem? hRx)
      exact lap_num hM a hYl b hYd k
  have hBn : ∀ x, (lapsN (shR t (R.getD x [])) (shR t R[y]) (t - 1)).Nodup := fun x => nodup_laps _ _ _
  generalize hp : n - 1 - N = p
  generalize hN' : N - (n - 1) = N'
  generalize hW : M ^ (n - 1) = W at *
  have hen : ∀ x, x < cs.length → ∀ k, 0 < k → enN cs n M x (N + k) = dot (cWays cs W M N') (fun u => if p < k then EX cs W M x u (k - p) else 0) := by
    intro x hx k hk
    rw [enN, hW]
    by_cases hlt : N + k < n
    · rw [if_pos hlt]
      have : ¬ p < k := by omega
      simp only [if_neg this]
      rw [dot_no]
    · rw [if_neg hlt]
      have : p < k := by omega
      simp only [if_pos this]
      rw [hits_is hWpos hx]
      obtain ⟨j, hj⟩ : ∃ j, k - p = j + 1 := ⟨k - p - 1, by omega⟩
      rw [hj, dot_EX hWpos x N' j]
      rw [show N + k - n + 1 = N' + j + 1 by omega]
  have hsum : (S R.length fun x => ((((lapsAll R t).getD x []).getD y []).map fun k => enN cs n M x (N + k)).sum)
      = dot (cWays cs W M N') fun u => S cs.length fun x => ((lapsN (shR t (R.getD x [])) (shR t R[y]) (t - 1)).map fun k => if p < k then EX cs W M x u (k - p) else 0).sum := by
    rw [dot_S, hcl]
    refine S_congr fun x hx => ?_
    rw [dot_sum, hBx x hx]
    refine congrArg List.sum (List.map_congr_left fun k hk => ?_)
    have hx' : x < cs.length := by omega
    exact hen x hx' k ((hB x _ (List.getElem?_eq_getElem hx') k).mp hk).1
  rw [hsum, dot_congr (g := fun u => if u % M ^ p = codeOf M (R[y].take p) then 1 else 0) fun u hu => EX_all hWM hM hWpos hYl hYd hYc hBn hB (by omega) (by rw [cWays_len] at hu; exact hu)]
  by_cases hc : N < n - 1
  · have hN0 : N' = 0 := by omega
    subst hN0
    rw [frN, if_pos (by omega)]
    have hlt := code_lt hM (v := R[y].take p) fun d hd => hYd d (List.mem_of_mem_take hd)
    have hl : (R[y].take p).length = p := by rw [List.length_take]; omega
    rw [hl] at hlt
    have hS := S_mod hlt (M ^ N)
    have hWN : M ^ p * M ^ N = W := by rw [← hW, ← Nat.pow_add]; congr 1; omega
    rw [hWN] at hS
    rw [cWays]
    unfold dot
    rw [List.length_replicate, S_congr (g := fun u => if u % M ^ p = codeOf M (R[y].take p) then 1 else 0), hS]
    · simp
    · intro u hu
      rw [List.getD_eq_getElem?_getD, List.getElem?_replicate, if_pos hu]; simp
  · have hp0 : p = 0 := by omega
    subst hp0
    have hone : ∀ u, (if u % M ^ 0 = codeOf M (R[y].take 0) then (1 : Int) else 0) = 1 := by
      intro u
      rw [if_pos]
      simp [codeOf, Nat.mod_one]
    simp only [hone]
    rw [dot_one, frN]
    by_cases hlt : N < n
    · rw [if_pos hlt]
      have : N' = 0 := by omega
      subst this
      have : N = n - 1 := by omega
      rw [cWays, List.sum_replicate_int, this, ← hW]; simp
    · rw [if_neg hlt, show N + 1 - n = N' by omega, hW]

theorem fresh_is (hM : 1 ≤ M) (h1 : 1 ≤ n) (hnd : R.Nodup) (hgood : ∀ r ∈ R, r.length = n ∧ ∀ d ∈ r, d < M) (N : Nat) {en : List (List Int)} (hen : en = (List.range R.length).map fun x => (List.range (n + N)).map (enN (R.map (codeOf M)) n M x)) :
    freshTo (lapsAll R t) n N (frN (R.map (codeOf M)) n M N) en (lapsAll R t).length = cHits (R.map (codeOf M)) (M ^ (n - 1)) M N := by
  have hll : (lapsAll R t).length = R.length := by simp [lapsAll]
  have hcn := nodup_codes hM hnd hgood
  apply List.ext_getElem?
  intro y
  by_cases hy : y < R.length
  · have hycs : y < (cHits (R.map (codeOf M)) (M ^ (n - 1)) M N).length := by rw [cHits_len]; simpa using hy
    rw [getD_some hycs, freshTo, List.getElem?_map, hll, List.getElem?_range hy]
    simp only [Option.map_some]
    congr 1
    rw [leftAt, sum_range, free_ident (t := t) hM h1 hgood hy N]
    have hfull : ∀ x, x < R.length → ((((lapsAll R t).getD x []).getD y []).map fun k => enN (R.map (codeOf M)) n M x (N + k)).sum
        = lapSum n N (en.getD x []) (((lapsAll R t).getD x []).getD y []) + (if x = y then enN (R.map (codeOf M)) n M y (N + n) else 0) := by
      intro x hx
      obtain ⟨hXl, hXd⟩ := hgood R[x] (List.getElem_mem hx)
      obtain ⟨hYl, hYd⟩ := hgood R[y] (List.getElem_mem hy)
      have hmem := fun k => lap_num hM (t := t) hXl hYl hXd hYd k
      rw [laps_get hx hy]
      have hnd' := nodup_laps (shR t R[x]) (shR t R[y]) (t - 1)
      generalize lapsN (shR t R[x]) (shR t R[y]) (t - 1) = l at *
      have hexd : en.getD x [] = (List.range (n + N)).map (enN (R.map (codeOf M)) n M x) := by
        rw [hen, List.getD_eq_getElem?_getD, List.getElem?_map, List.getElem?_range hx]; rfl
      have hlap : lapSum n N (en.getD x []) l = (l.map fun k => if k < n then enN (R.map (codeOf M)) n M x (N + k) else 0).sum := by
        unfold lapSum
        refine congrArg List.sum (List.map_congr_left fun k _ => ?_)
        by_cases hk : k < n
        · rw [if_pos hk, if_pos hk, hexd, List.getD_eq_getElem?_getD, List.getElem?_map, List.getElem?_range (by omega)]; rfl
        · rw [if_neg hk, if_neg hk]
      have hxy : n ∈ l ↔ x = y := by
        rw [hmem n]
        have hXlt := code_lt hM hXd
        rw [hXl] at hXlt
        rw [Nat.mod_eq_of_lt hXlt, List.take_of_length_le (by omega)]
        constructor
        · rintro ⟨_, _, e⟩
          have := code_inj hM (hXl.trans hYl.symm) hXd hYd e
          exact (List.getElem_inj hnd).mp this
        · rintro rfl
          exact ⟨by omega, Nat.le_refl _, rfl⟩
      have hadd : (l.map fun k => enN (R.map (codeOf M)) n M x (N + k)).sum = (l.map fun k => (if k < n then enN (R.map (codeOf M)) n M x (N + k) else 0) + (if k = n then enN (R.map (codeOf M)) n M x (N + n) else 0)).sum := by
        refine congrArg List.sum (List.map_congr_left fun k hk => ?_)
        have hkn := ((hmem k).mp hk).2.1
        by_cases hlt : k < n
        · rw [if_pos hlt, if_neg (by omega), Int.add_zero]
        · have : k = n := by omega
          rw [if_neg hlt, if_pos this, this, Int.zero_add]
      have hsa : ∀ (l : List Nat) (f g : Nat → Int), (l.map fun x => f x + g x).sum = (l.map f).sum + (l.map g).sum := by
        intro l f g
        induction l with
        | nil => rfl
        | cons a r ih => simp only [List.map_cons, List.sum_cons]; rw [ih]; omega
      rw [hadd, hsa, hlap]
      congr 1
      by_cases hxy' : x = y
      · rw [if_pos hxy', sum_one hnd' (hxy.mpr hxy')]
        · rw [if_pos rfl, hxy']
        · intro s _ hne; rw [if_neg hne]
      · rw [if_neg hxy']
        refine sum_none _ fun s hs => ?_
        rw [if_neg]
        rintro rfl
        exact hxy' (hxy.mp hs)
    rw [S_congr hfull, S_add, S_one hy (fun x => if x = y then enN (R.map (codeOf M)) n M y (N + n) else 0) fun k _ hne => if_neg hne, if_pos rfl]
    rw [enN, if_neg (by omega), Nat.add_sub_cancel]
    omega
  · rw [List.getElem?_eq_none (by rw [freshTo, List.length_map, List.length_range, hll]; omega), List.getElem?_eq_none (by rw [cHits_len]; simpa using hy)]

theorem told_is (hM : 1 ≤ M) (h1 : 1 ≤ n) (hnd : R.Nodup) (hgood : ∀ r ∈ R, r.length = n ∧ ∀ d ∈ r, d < M) : ∀ N, toldM (lapsAll R t) n (M : Int) N = cntM (R.map (codeOf M)) n M N
  | 0 => by
    rw [toldM, cntM]
    congr 1
    rw [lapsAll, List.map_map, List.map_map]; rfl
  | N + 1 => by
    have ih := told_is hM h1 hnd hgood N
    have hll : (lapsAll R t).length = R.length := by simp [lapsAll]
    have hWpos : 0 < M ^ (n - 1) := Nat.pow_pos (by omega)
    have hgf : ∀ i, i < n + N → (cntM (R.map (codeOf M)) n M N).1.getD i 0 = frN (R.map (codeOf M)) n M i := by
      intro i hi
      rw [cntM_is, List.getD_eq_getElem?_getD, List.getElem?_map, List.getElem?_range hi]; rfl
    have hf := fresh_is (t := t) hM h1 hnd hgood N (en := (cntM (R.map (codeOf M)) n M N).2) (by rw [cntM_is]; simp)
    rw [toldM, ih, hgf N (by omega), hf, hgf (N + n - 1) (by omega), cntM, hll]
    have hfm := free_more (cs := R.map (codeOf M)) (M := M) hWpos N
    have hfr : frN (R.map (codeOf M)) n M (N + n - 1) = (cWays (R.map (codeOf M)) (M ^ (n - 1)) M N).sum := by
      rw [frN]
      by_cases h0 : N + n - 1 < n
      · have : N = 0 := by omega
        subst this
        rw [if_pos h0, cWays, List.sum_replicate_int]; simp
      · rw [if_neg h0, show N + n - 1 + 1 - n = N by omega]
    rw [hfr]
    have e : (M : Int) * (cWays (R.map (codeOf M)) (M ^ (n - 1)) M N).sum - (cHits (R.map (codeOf M)) (M ^ (n - 1)) M N).sum = (cWays (R.map (codeOf M)) (M ^ (n - 1)) M (N + 1)).sum := by omega
    rw [e, List.length_map]
end
theorem main2 : Main2 := fun _ _ sz _ hnd hgood h1 hM => told_is hM h1 hnd hgood (sz + 2)
end Mine

namespace Mine
open PySem PyProof.Rows

/-- a call from the top: nothing is known but the heap -/
theorem call_top {c : Cx} {σ : St} {f : Addr} {fd : FuncData} {body : List Stmt} {params : List Str} {mg : Str → Option Value} {s : Shared} (hA : Lv 1 c.A) (T : TopOk c.ht mg) (F : FnAt c.ht f fd body params) (hht : c.ht = s.heap)
    (hro : ∀ a l, c.get σ a = some l → ∃ o, s.heap.get? a = some o ∧ LObj o l) {l : List V} (hl : l.length = params.length) {P : V → Prop}
    (h : ∀ L, Wss (callee c σ fd L f) body (fun fl _ => ∃ v, fl = .ret v ∧ P v) ⟨argLoc params l, fun _ => Option.none⟩) {vs : List Value} (hv : Ers vs l) :
    wpAny (model c.prog c.w) c.A (call (.ref f) vs) (fun x s' => ∃ v, er x = some v ∧ P v ∧ (∀ b o, s.heap.get? b = some o → s'.heap.get? b = some o) ∧ s'.os = s.os ∧ s'.gens = s.gens) (fun _ _ => False) s := by
  obtain ⟨o, ho, hd⟩ := F.obj
  have tk : ∀ b o, c.ht.get? b = some o → s.heap.get? b = some o := fun b o e => by rw [← hht]; exact e
  have hlen : vs.length = params.length := hv.length.trans hl
  refine wpAny_call (codeAny_call_cells (by have := hA.2.1; omega) (tk f o ho) hd (T.nolimit.keeps tk) (F.code.keeps tk) F.body (F.binds vs hlen) F.clo ?_ ?_ F.co F.gen F.kind)
  · intro p hp
    rcases F.kinds p.1 (mem_zip_fst hp) with h | ⟨h, h'⟩
    · exact .inl h
    · exact .inr ⟨h, h' _⟩
  · intro s₁ x
    generalize hL : s.heap.objs.size = L at *
    have R₁ : Rel (callee c σ fd L f) (fun a => s.heap.get? a) s ⟨argLoc params l, fun _ => Option.none⟩ s₁ := by
      refine { same := x.toInCall.same, top := tk, keep := x.toInCall.keep, ro := hro, hp := (fun a k e => by cases e), frame := ⟨_, _, x.toInCall.ns, x.cell, ?_⟩, own := ?_, cells := fun _ => ⟨?_, x.apart⟩ }
      · intro y v hy
        have hy : (params.zip l).lookup y = some v := hy
        obtain ⟨val, hval, h1, h2⟩ := binds_find (k := (callEnvC fd L f).kindOf) (m := fun _ => Option.none) (cm := fun _ => Option.none) F.nodup hv hy
        have hm := mem_zip_fst (mem_of_lookup hy)
        rcases F.kinds y hm with hk | ⟨hk, hc⟩
        · exact .inl ⟨hk, val, h1 hk, hval⟩
        · obtain ⟨a, ha⟩ := Option.isSome_iff_exists.mp (hc (L + 1))
          have hk' : (callEnvC fd L f).kindOf y = some .cell := hk
          exact .inr ⟨hk', a, val, ha, h2 (by rw [hk']; intro e; cases e), hval⟩
      · show s.heap.get? L = Option.none
        cases e : s.heap.get? L with
        | none => rfl
        | some o' => exact absurd (Heap.lt_size e) (by rw [hL]; exact Nat.lt_irrefl _)
      · intro n a e
        have hlt : L < a := x.above n a (mem_of_lookup e)
        show s.heap.get? a = Option.none
        cases e' : s.heap.get? a with
        | none => rfl
        | some o' => exact absurd (Nat.lt_trans hlt (hL ▸ Heap.lt_size e')) (Nat.lt_irrefl _)
    refine wpAny_mono (h L _ s s₁ R₁) (fun fl s' ⟨g, σ', k, R', v, e, hP⟩ => ?_) fun _ _ x => x.elim
    subst e
    cases fl with
    | ret y =>
      obtain ⟨h', t, es⟩ := R'.same
      exact ⟨v, k, hP, R'.keep, by rw [es], by rw [es]⟩
    | next => exact k.elim
    | brk => exact k.elim
    | cont => exact k.elim

theorem boots : ∀ p ∈ biTable, bootBuiltins p.1 = some p.2 := by
  intro p hp
  simp only [biTable, List.mem_cons, List.not_mem_nil, or_false] at hp
  rcases hp with rfl | rfl | rfl | rfl | rfl | rfl
  · exact boot_len
  · exact boot_sum
  · exact boot_min
  · exact boot_max
  · exact boot_range
  · exact boot_list

theorem topOk_of {vp : Program} {loose : List Str} {mean : ExcName → Option Value} {mg mb : Str → Option Value} {h : Heap} (T : Top vp loose mean mg mb h) (hfree : ∀ p ∈ biTable, mg p.1 = Option.none) : TopOk h mg :=
  ⟨T.g, ⟨mb, T.b, fun p hp => ⟨hfree p hp, by
    rw [T.builtins p.1 (by
      simp only [biTable, List.mem_cons, List.not_mem_nil, or_false] at hp
      rcases hp with rfl | rfl | rfl | rfl | rfl | rfl <;> decide)]
    exact boots p hp⟩⟩, T.nolimit⟩

theorem fnAt_of {vp : Program} {loose : List Str} {mean : ExcName → Option Value} {mg mb : Str → Option Value} {h : Heap} (T : Top vp loose mean mg mb h) {p : Program} {i : Nat} {pos : Pos} (hm : (⟨nmOf p i, parOf p i, bodyOf p i, scopeOf p i, pos⟩ : DefRec) ∈ recsOf vp) {params : List Str}
    (hk : (scopeOf p i).kind = .function) (hco : (scopeOf p i).isCoroutine = false) (hgen : (scopeOf p i).isGenerator = false)
    (hb : ∀ pm cd doc (vs : List Value), vs.length = params.length → bindArgs (fdOf p i pm cd doc) ⟨vs, []⟩ = pure (params.zip vs)) (hn : params.Nodup)
    (hkinds : ∀ x ∈ params, (scopeOf p i).names.lookup x = some .local ∨ ((scopeOf p i).names.lookup x = some .cell ∧ ∀ L, ((cellsFrom L (scopeOf p i).names []).lookup x).isSome = true)) :
    ∃ a pm cd doc, mg (nmOf p i) = some (.ref a) ∧ FnAt h a (fdOf p i pm cd doc) (bodyOf p i) params := by
  obtain ⟨a, o, pm, code, doc, h1, h2, h3, h4⟩ := T.fn _ hm
  exact ⟨a, pm, code, doc, h1, ⟨⟨o, h2, h3⟩, h4, rfl, rfl, rfl, rfl, hk, hco, hgen, hb pm code doc, hn, hkinds⟩⟩
end Mine

open PySem PySem.W PyProof.Rows
namespace Mine
theorem bind1 (pm cd doc : Value) (vs : List Value) (h : vs.length = 1) : bindArgs (fdOf PySem.Challenge.pw_oc0404_02 1 pm cd doc) ⟨vs, []⟩ = pure ((["prefix"] : List Str).zip vs) := by
  match vs, h with
  | [x], _ => rfl
theorem bind3 (pm cd doc : Value) (vs : List Value) (h : vs.length = 3) : bindArgs (fdOf PySem.Challenge.pw_oc0404_02 3 pm cd doc) ⟨vs, []⟩ = pure ((["first", "second", "mark"] : List Str).zip vs) := by
  match vs, h with
  | [x, y, z], _ => rfl
theorem bind4 (pm cd doc : Value) (vs : List Value) (h : vs.length = 3) : bindArgs (fdOf PySem.Challenge.pw_oc0404_02 4 pm cd doc) ⟨vs, []⟩ = pure ((["laps", "size", "many"] : List Str).zip vs) := by
  match vs, h with
  | [x, y, z], _ => rfl
theorem bind5 (pm cd doc : Value) (vs : List Value) (h : vs.length = 3) : bindArgs (fdOf PySem.Challenge.pw_oc0404_02 5 pm cd doc) ⟨vs, []⟩ = pure ((["codes", "size", "many"] : List Str).zip vs) := by
  match vs, h with
  | [x, y, z], _ => rfl
theorem bind6 (pm cd doc : Value) (vs : List Value) (h : vs.length = 1) : bindArgs (fdOf PySem.Challenge.pw_oc0404_02 6 pm cd doc) ⟨vs, []⟩ = pure ((["script"] : List Str).zip vs) := by
  match vs, h with
  | [x], _ => rfl
theorem kinds_of {names : List (Str × NameKind)} {params : List Str} (h : (params.all fun x => names.lookup x == some .local || (names.lookup x == some .cell)) = true) :
    ∀ x ∈ params, names.lookup x = some .local ∨ (names.lookup x = some .cell ∧ ∀ L, ((cellsFrom L names []).lookup x).isSome = true) := by
  intro x hx
  have := List.all_eq_true.mp h x hx
  simp only [Bool.or_eq_true, beq_iff_eq] at this
  rcases this with h | h
  · exact .inl h
  · refine .inr ⟨h, fun L => ?_⟩
    have key : ∀ (names : List (Str × NameKind)) (L : Nat) (acc : List (Str × Addr)), (names.lookup x = some .cell ∨ (acc.lookup x).isSome = true) → ((cellsFrom L names acc).lookup x).isSome = true := by
      intro names
      induction names with
      | nil => intro L acc h; rcases h with h | h; cases h; exact h
      | cons p r ih =>
        intro L acc h
        obtain ⟨n, k⟩ := p
        unfold cellsFrom
        by_cases hk : (k == NameKind.cell) = true
        · rw [if_pos hk]
          refine ih _ _ ?_
          by_cases hn : x = n
          · right; subst hn; simp [List.lookup]
          · have hb : (x == n) = false := by simpa using hn
            rcases h with h | h
            · left; rw [List.lookup_cons, hb] at h; exact h
            · right; rw [List.lookup_cons, hb]; exact h
        · rw [if_neg hk]
          refine ih _ _ ?_
          rcases h with h | h
          · rw [List.lookup_cons] at h
            cases hb : x == n with
            | true => rw [hb] at h; simp only [Option.some.injEq] at h; subst h; exact absurd rfl hk
            | false => rw [hb] at h; exact .inl h
          · exact .inr h
    exact key names L [] (.inl h)

theorem law2_call (hmain : Main2) {w : World} {s₁ : Shared} {vp : Program} {loose : List Str} {mean : ExcName → Option Value} {mg mb : Str → Option Value} (T : Top vp loose mean mg mb s₁.heap) (hfree : ∀ p ∈ biTable, mg p.1 = Option.none)
    {p1 p3 p4 p5 p6 : Pos}
    (r1 : (⟨nmOf PySem.Challenge.pw_oc0404_02 1, parOf PySem.Challenge.pw_oc0404_02 1, bodyOf PySem.Challenge.pw_oc0404_02 1, scopeOf PySem.Challenge.pw_oc0404_02 1, p1⟩ : DefRec) ∈ recsOf vp)
    (r3 : (⟨nmOf PySem.Challenge.pw_oc0404_02 3, parOf PySem.Challenge.pw_oc0404_02 3, bodyOf PySem.Challenge.pw_oc0404_02 3, scopeOf PySem.Challenge.pw_oc0404_02 3, p3⟩ : DefRec) ∈ recsOf vp)
    (r4 : (⟨nmOf PySem.Challenge.pw_oc0404_02 4, parOf PySem.Challenge.pw_oc0404_02 4, bodyOf PySem.Challenge.pw_oc0404_02 4, scopeOf PySem.Challenge.pw_oc0404_02 4, p4⟩ : DefRec) ∈ recsOf vp)
    (r5 : (⟨nmOf PySem.Challenge.pw_oc0404_02 5, parOf PySem.Challenge.pw_oc0404_02 5, bodyOf PySem.Challenge.pw_oc0404_02 5, scopeOf PySem.Challenge.pw_oc0404_02 5, p5⟩ : DefRec) ∈ recsOf vp)
    (r6 : (⟨nmOf PySem.Challenge.pw_oc0404_02 6, parOf PySem.Challenge.pw_oc0404_02 6, bodyOf PySem.Challenge.pw_oc0404_02 6, scopeOf PySem.Challenge.pw_oc0404_02 6, p6⟩ : DefRec) ∈ recsOf vp)
    {fa la : Addr} (hmg : mg (nmOf PySem.Challenge.pw_oc0404_02 6) = some (.ref fa)) {vs : List Value} {ns : List Int} (hobj : s₁.heap.get? la = some { cls := .type "list", data := .seq vs.toArray }) (hI : IntsAre vs ns) (hz : ns.length ≤ 1000) :
    wpAny (model PySem.Challenge.pw_oc0404_02 w) callerA (call (.ref fa) [.ref la]) (fun v s' => v = .bool true ∧ (∀ b o, s₁.heap.get? b = some o → s'.heap.get? b = some o) ∧ s'.os = s₁.os ∧ s'.gens = s₁.gens) (fun _ _ => False) s₁ := by
  have TO := topOk_of T hfree
  obtain ⟨a1, pm1, cd1, doc1, n1, F1⟩ := fnAt_of T r1 (params := ["prefix"]) rfl rfl rfl bind1 (by decide) (kinds_of rfl)
  obtain ⟨a3, pm3, cd3, doc3, n3, F3⟩ := fnAt_of T r3 (params := ["first", "second", "mark"]) rfl rfl rfl bind3 (by decide) (kinds_of rfl)
  obtain ⟨a4, pm4, cd4, doc4, n4, F4⟩ := fnAt_of T r4 (params := ["laps", "size", "many"]) rfl rfl rfl bind4 (by decide) (kinds_of rfl)
  obtain ⟨a5, pm5, cd5, doc5, n5, F5⟩ := fnAt_of T r5 (params := ["codes", "size", "many"]) rfl rfl rfl bind5 (by decide) (kinds_of rfl)
  obtain ⟨a6, pm6, cd6, doc6, n6, F6⟩ := fnAt_of T r6 (params := ["script"]) rfl rfl rfl bind6 (by decide) (kinds_of rfl)
  rw [hmg] at n6
  cases n6
  let c : Cx := { prog := PySem.Challenge.pw_oc0404_02, w := w, A := callerA, ht := s₁.heap, ro := fun b => if b = la then some (ns.map .int) else Option.none, env := default }
  have hLv : Lv 3 callerA := ⟨rfl, by decide, by decide⟩
  have hg : ∀ a l, c.get ⟨fun _ => Option.none, fun _ => Option.none⟩ a = some l → ∃ o, s₁.heap.get? a = some o ∧ LObj o l := by
    intro a l e
    have e : (if a = la then some (ns.map V.int) else Option.none) = some l := e
    by_cases h : a = la
    · rw [if_pos h] at e
      have e' := Option.some.inj e
      subst e'; subst h
      exact ⟨_, hobj, _, _, rfl, ersOfInts hI⟩
    · rw [if_neg h] at e; cases e
  have h := call_top (c := c) (σ := ⟨fun _ => Option.none, fun _ => Option.none⟩) (s := s₁) (P := fun v => v = .bool true) (l := [.ref la]) (vs := [.ref la]) (hLv.less (by decide)) TO F6 rfl hg rfl
    (fun L => law2_run hmain (c₀ := c) hLv TO n1 F1 n3 F3 n4 F4 n5 F5 (a := la) (ns := ns) (by show (if la = la then some (ns.map V.int) else Option.none) = _; rw [if_pos rfl]) hz) rfl
  exact wpAny_mono h (fun x s' ⟨v, hv, hP, k1, k2, k3⟩ => ⟨by subst hP; exact er_bool hv, k1, k2, k3⟩) fun _ _ x => x
end Mine

open PySem PySem.W PyProof.Rows
namespace Mine
theorem free_of {vp : Program} {loose : List Str} {mean : ExcName → Option Value} {mg mb : Str → Option Value} {h : Heap} (T : Top vp loose mean mg mb h)
    (hd : (biTable.all fun p => !startupNames.contains p.1 && !loose.contains p.1 && !((recsOf vp).map (·.name)).contains p.1 && !((litsOf vp).map (·.1)).contains p.1 && !((clssOf vp loose).map (·.name)).contains p.1) = true) : ∀ p ∈ biTable, mg p.1 = Option.none := by
  intro p hp
  have := List.all_eq_true.mp hd p hp
  simp only [Bool.and_eq_true, Bool.not_eq_true', List.contains_eq_mem, decide_eq_false_iff_not] at this
  exact T.free p.1 this.1.1.1.1 this.1.1.1.2 this.1.1.2 this.1.2 this.2
theorem plain_of {P : Params} {h : Heap} {a : Addr} {ns : List Int} {vs : List Value} (hW : Well P h (.ref a) (ofPy (.list (ns.map .int)))) (hL : h.IsList a vs.toArray) : h.get? a = some { cls := .type "list", data := .seq vs.toArray } := by
  have hW' : Well P h (.ref a) (.list (ofPys (ns.map .int))) := hW
  cases hW' with
  | list hobj _ =>
    obtain ⟨o', h1, _, n, h2⟩ := hL
    rw [hobj] at h1; cases h1
    simp at h2
    rw [hobj, h2.1]
end Mine
set_option maxRecDepth 100000 in
set_option maxHeartbeats 8000000 in
theorem PySem.Challenge.cw_oc0404_02_holds : PySem.Challenge.rw_oc0404_02.Holds := by
  w_on
  o_law
  k_head
  (case hw => w_witness2)
  intro w s₀ s₁ mg mb G Y fa o pm cd doc dV kV ho hd hcd hD hmg hg args vals as hpre hlay hrd hwl hlo
  refine Ground.open G ?_
  intro T B D TE TW
  clear B D TE TW G Y ho hd hcd hD
  wrow_args hpre hlay hrd hwl hlo
  rename_i ns _ _ _ _ _ _ _ la vs _ hL _ hW _ hI _ hz _
  have hn : ns.length ≤ 1000 := by omega
  have hobj := Mine.plain_of hW hL
  have hf := Mine.free_of T (by decide +kernel)
  refine wpAny_mono (Mine.law2_call Mine.main2 T hf (List.mem_of_getElem? (i := 0) (by rfl)) (List.mem_of_getElem? (i := 1) (by rfl)) (List.mem_of_getElem? (i := 2) (by rfl)) (List.mem_of_getElem? (i := 3) (by rfl)) (List.mem_of_getElem? (i := 4) (by rfl)) hmg hobj hI hn) (fun v s' ⟨hv, k1, k2, k3⟩ => ?_) fun _ _ x => x.elim
  subst hv
  refine GoodW.toG ⟨.inl ⟨.bool true, .bool true, [], rfl, ?_, .bool true, ?_, ?_⟩, k1, k2, by rw [k3]; exact hg⟩
  · intro cls; rfl
  · show (WShape.has PySem.Challenge.rw_oc0404_02.row.records (WData.bool true) WShape.bool && WTm.holds PySem.Challenge.rw_oc0404_02.row.records (.eq .res (.lit (.bool true))) { args := [ofPy (PyData.list (List.map PyData.int ns))], res := some (.bool true), after := [ofPy (PyData.list (List.map PyData.int ns))] }) = true
    have h1 : WShape.has PySem.Challenge.rw_oc0404_02.row.records (WData.bool true) WShape.bool = true := by simp [WShape.has, WShape.arms]
    rw [h1, Bool.true_and]
    unfold WTm.holds
    rw [w_eq_bool (w_res rfl) w_lit]
    rfl
  · exact unshared_nil
