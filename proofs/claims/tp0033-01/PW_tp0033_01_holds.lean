import PyProof.Rows.All
import Wide.All
import OpenK.AllK
import Wide.FinOn
import KE.KIntText
import Lean
import PySem.Challenge.RW_tp0033_01
set_option Elab.async false
set_option maxRecDepth 100000
set_option linter.unusedVariables false
set_option linter.unusedSimpArgs false
set_option genInjectivity false
set_option genSizeOfSpec false
-- Head1
namespace Mine
open PySem PySem.W PyProof.Rows

def pick21 : List Stmt → List Stmt
  | [a0, a1, _, a3, a4, a5, a6, a7, _, a9, a10, a11, a12, _, a14, a15, a16, _, a18, a19, a20, a21, a22, a23, a24] => [a0, a1, a3, a4, a5, a6, a7, a9, a10, a11, a12, a14, a15, a16, a18, a19, a20, a21, a22, a23, a24]
  | l => l
def qview : Program := { PySem.Challenge.pw_tp0033_01 with main := { PySem.Challenge.pw_tp0033_01.main with body := pick21 PySem.Challenge.pw_tp0033_01.main.body } }

lay_quick PySem.Challenge.pw_tp0033_01
/-- the top's run by the library's quick twins -/
theorem ends_quick (tb : String → Option Builtin) (p₀ p : Program) (hp : p₀ = p) (w : World) (N : Nat) {α : Type} (f : Shared → α) (g : Shared → α) (hf : f = g) (r : Option α)
    (h : (((PySem.W.Fast.tw10274390034422433532 tb (opening p) w N (PySem.W.Fast.tw1435165496053646825 (opening p)).1 (PySem.W.Fast.tw1435165496053646825 (opening p)).2).bind (PySem.W.Fast.tw14289696077712309145 p)).bind fun s₀ =>
      match s₀.heap.isNs mainGlobals && s₀.gens.size == 0 with
      | true => (PySem.W.Fast.tw14082659384304107361 tb p w s₀.heap.objs.size (PySem.W.Fast.tw8920871248978507458 s₀.heap mainGlobals "__annotations__") N s₀ (topStub p)).bind fun s₁ => match staticsOk (PySem.W.Fast.tw5923862056798008813 p.main.body) s₀.heap s₁.heap && namesBound p s₁.heap && gensDone s₁ && laidKept s₀.heap s₁.heap with
        | true => some s₁
        | false => none
      | false => none).map g = r) : (openEnds tb p₀ w N).map f = r := by
  subst hf
  subst hp
  rw [← h, ← PySem.W.Fast.te10274390034422433532, ← PySem.W.Fast.te1435165496053646825, ← PySem.W.Fast.te14289696077712309145, ← PySem.W.Fast.te14082659384304107361, ← PySem.W.Fast.te8920871248978507458, ← PySem.W.Fast.te5923862056798008813]
  rfl
theorem seen_quick (q : Program) (loose mods : List PySem.Str) (Xt : Shared → Bool) (g0 : Bool) {α : Type} (Yf : Shared → α) : (fun s => (openSeen q loose mods Xt g0 s, Yf s)) = fun s => (PySem.W.Fast.tw4187177175401517315 q loose mods Xt g0 s, Yf s) := by
  rw [PySem.W.Fast.te4187177175401517315]
local macro_rules | `(tactic| o_head $H) => `(tactic| (
  refine holds_open (q := qview) (loose := ["_twin_re_1", "_twin_re_2", "_name_disallowed_re", "_value_disallowed_re"]) (Xt := fun s => xlAt qview [] s && recOk (RowW.records (PySem.Challenge.rw_tp0033_01.row.toRowW)) s) (XP := XL qview []) (Yf := Hook.obs $H) (Ya := Hook.val $H) (YP := Hook.says $H) (N := 4152) ?hl (Hook.of $H) (Hook.keeps $H) (fun s e => xl_of s (Bool.and_eq_true_iff.mp e).1) XL.keeps (by rfl) (by rfl) (by rfl) (fun s e => recFacts_of (Bool.and_eq_true_iff.mp e).2) (by rfl) (by first | assumption | decide +kernel) (by decide +kernel) ⟨rfl, rfl, rfl, rfl, rfl, by decide +kernel⟩ ?hw ?hc
  case hl => (intro w; refine ends_quick _ _ _ PySem.W.Fast.te8439035992849801468 _ _ _ _ (seen_quick _ _ _ _ _ _) _ ?_; kernel_rfl)))

set_option maxHeartbeats 0 in
open_top hd for PySem.Challenge.rw_tp0033_01
end Mine

-- M0
namespace Mine
open PySem PySem.W PySem.Calls PyProof.Rows

/-! ### plain data in a heap -/
mutual
inductive Rd (g : Heap) : Value → PyData → Prop
  | none : Rd g .none .none
  | bool (b : Bool) : Rd g (.bool b) (.bool b)
  | int (i : Int) (t : Tok) : Rd g (.int i t) (.int i)
  | str (x : PySem.Str) (t : Tok) : Rd g (.str x t) (.str x)
  | list {a : Addr} {vs : Array Value} {xs : List PyData} : g.IsList a vs → RdAll g vs.toList xs → Rd g (.ref a) (.list xs)
  | tuple {a : Addr} {vs : Array Value} {xs : List PyData} : IsTup g a vs → RdAll g vs.toList xs → Rd g (.ref a) (.tuple xs)
inductive RdAll (g : Heap) : List Value → List PyData → Prop
  | nil : RdAll g [] []
  | cons {v : Value} {vs : List Value} {d : PyData} {ds : List PyData} : Rd g v d → RdAll g vs ds → RdAll g (v :: vs) (d :: ds)
end

/-- an object that is a list's or a tuple's -/
def SeqObj (o : Obj) : Prop := ∃ vs n, o.data = .seq vs n

mutual
theorem Rd.on {g g' : Heap} (hk : ∀ b o, SeqObj o → g.get? b = some o → g'.get? b = some o) : ∀ {v : Value} {d : PyData}, Rd g v d → Rd g' v d
  | _, _, .none => .none
  | _, _, .bool b => .bool b
  | _, _, .int i t => .int i t
  | _, _, .str x t => .str x t
  | _, _, .list ⟨o, h1, h2, n, h3⟩ r => .list ⟨o, hk _ _ ⟨_, n, h3⟩ h1, h2, n, h3⟩ (RdAll.on hk r)
  | _, _, .tuple ⟨o, h1, h2, n, h3⟩ r => .tuple ⟨o, hk _ _ ⟨_, n, h3⟩ h1, h2, n, h3⟩ (RdAll.on hk r)
theorem RdAll.on {g g' : Heap} (hk : ∀ b o, SeqObj o → g.get? b = some o → g'.get? b = some o) : ∀ {vs : List Value} {ds : List PyData}, RdAll g vs ds → RdAll g' vs ds
  | _, _, .nil => .nil
  | _, _, .cons h r => .cons (Rd.on hk h) (RdAll.on hk r)
end
theorem Rd.keeps {g g' : Heap} (hk : g.StaysIn g') {v : Value} {d : PyData} (r : Rd g v d) : Rd g' v d := r.on fun b o _ e => hk b o e
theorem RdAll.keeps {g g' : Heap} (hk : g.StaysIn g') {vs : List Value} {ds : List PyData} (r : RdAll g vs ds) : RdAll g' vs ds := r.on fun b o _ e => hk b o e

mutual
theorem Rd.reads {g : Heap} : ∀ {v : Value} {d : PyData}, Rd g v d → ∃ as, Reads g v d as
  | _, _, .none => ⟨_, .none⟩
  | _, _, .bool b => ⟨_, .bool b⟩
  | _, _, .int i t => ⟨_, .int i t⟩
  | _, _, .str x t => ⟨_, .str x t⟩
  | _, _, .list ⟨_, h1, h2, _, h3⟩ r => let ⟨_, q⟩ := RdAll.reads r; ⟨_, .list h1 h2 h3 q⟩
  | _, _, .tuple ⟨_, h1, h2, _, h3⟩ r => let ⟨_, q⟩ := RdAll.reads r; ⟨_, .tuple h1 h2 h3 q⟩
theorem RdAll.reads {g : Heap} : ∀ {vs : List Value} {ds : List PyData}, RdAll g vs ds → ∃ as, ReadsAll g vs ds as
  | _, _, .nil => ⟨_, .nil⟩
  | _, _, .cons h r => let ⟨_, p⟩ := Rd.reads h; let ⟨_, q⟩ := RdAll.reads r; ⟨_, .cons p q⟩
end

theorem RdAll.length {g : Heap} {vs : List Value} {ds : List PyData} (h : RdAll g vs ds) : vs.length = ds.length := by
  induction vs generalizing ds with
  | nil => cases h; rfl
  | cons v vs ih => cases h with | cons h r => exact congrArg (· + 1) (ih r)
theorem RdAll.append {g : Heap} {vs ws : List Value} {ds es : List PyData} (h : RdAll g vs ds) (q : RdAll g ws es) : RdAll g (vs ++ ws) (ds ++ es) := by
  induction vs generalizing ds with
  | nil => cases h; exact q
  | cons v vs ih => cases h with | cons h r => exact .cons h (ih r)
theorem RdAll.get {g : Heap} {vs : List Value} {ds : List PyData} (h : RdAll g vs ds) {i : Nat} {d : PyData} (e : ds[i]? = some d) : ∃ v, vs[i]? = some v ∧ Rd g v d := by
  induction vs generalizing ds i with
  | nil => cases h; cases e
  | cons v vs ih => cases h with
    | cons h r => cases i with
      | zero => cases e; exact ⟨_, rfl, h⟩
      | succ i => exact ih r e
theorem RdAll.take {g : Heap} {vs : List Value} {ds : List PyData} (h : RdAll g vs ds) (n : Nat) : RdAll g (vs.take n) (ds.take n) := by
  induction vs generalizing ds n with
  | nil => cases h; rw [List.take_nil, List.take_nil]; exact .nil
  | cons v vs ih => cases h with
    | cons h r => cases n with
      | zero => exact .nil
      | succ n => exact .cons h (ih r n)
theorem RdAll.drop {g : Heap} {vs : List Value} {ds : List PyData} (h : RdAll g vs ds) (n : Nat) : RdAll g (vs.drop n) (ds.drop n) := by
  induction vs generalizing ds n with
  | nil => cases h; rw [List.drop_nil, List.drop_nil]; exact .nil
  | cons v vs ih => cases h with
    | cons h r => cases n with
      | zero => exact .cons h r
      | succ n => exact ih r n

/-! ### values, stores, the law's constants -/
inductive V where
  | d (x : PyData)
  | c (n : Nat)
  | hdr (u : V)
  | ext (v : Value)
  | rng (a b : Int)

/-- a list that may change: what it holds; or one that is let alone for a while -/
inductive Cell where
  | live (xs : List PyData)
  | fixed (o : Obj)
abbrev Store := List Cell
abbrev Vars := List (PySem.Str × V)

/-- what the whole law's run stands on -/
structure Cx where
  prog : Program
  w : World
  K : Frag
  base : Heap
  p : Program
  loose : List PySem.Str
  mean : ExcName → Option Value
  mg : PySem.Str → Option Value
  mb : PySem.Str → Option Value
  hC : Addr
  X : K.In base
  T : Top p loose mean mg mb base
  nb : NoneBooked base

variable (cx : Cx)

def vw (h : Heap) (l : List Addr) : Heap := hideAll h l
theorem vw_get {h : Heap} {l : List Addr} {b : Addr} {o : Obj} : (vw h l).get? b = some o ↔ h.get? b = some o ∧ b ∉ l :=
  ⟨fun e => ⟨of_hideAll l e, fun m => by have := hideAll_none l (h := h) m; unfold vw at e; rw [this] at e; cases e⟩, fun ⟨e, n⟩ => hideAll_get l e n⟩
theorem vw_mono {h h' : Heap} {l l' : List Addr} (hk : ∀ b o, b ∉ l → h.get? b = some o → h'.get? b = some o ∧ b ∉ l') : (vw h l).StaysIn (vw h' l') :=
  fun b o e => let ⟨e1, e2⟩ := vw_get.mp e; vw_get.mpr (hk b o e2 e1)

/-- an own dict, with the one attribute of a Headers -/
def HasH (od : Obj) (hv : Value) : Prop := ∃ hsh tok n, od = { cls := .type "dict", data := .dict #[⟨hsh, .str "_headers" tok, hv⟩] n }

def VRep (g : Heap) (al : List Addr) (v : Value) : V → Prop
  | .d x => Rd g v x
  | .c n => ∃ a, al[n]? = some a ∧ v = .ref a
  | .hdr u => ∃ x dx od hv, v = .ref x ∧ g.get? x = some (instObj cx.hC dx) ∧ g.get? dx = some od ∧ HasH od hv ∧ VRep g al hv u
  | .ext u => v = u
  | .rng a b => ∃ r t u w, v = .ref r ∧ IsRange g r a b 1 t u w

inductive VRepAll (g : Heap) (al : List Addr) : List Value → List V → Prop
  | nil : VRepAll g al [] []
  | cons {v : Value} {vs : List Value} {x : V} {xs : List V} : VRep cx g al v x → VRepAll g al vs xs → VRepAll g al (v :: vs) (x :: xs)

theorem getElem?_append_some {α : Type} {l l' : List α} {n : Nat} {a : α} (e : l[n]? = some a) : (l ++ l')[n]? = some a := by
  rw [List.getElem?_append_left (List.getElem?_eq_some_iff.mp e).1]; exact e

variable {cx}
theorem VRep.mono {g g' : Heap} {al al' : List Addr} (hk : g.StaysIn g') {x : V} {v : Value} (r : VRep cx g al v x) : VRep cx g' (al ++ al') v x := by
  induction x generalizing v with
  | d _ => exact Rd.keeps hk r
  | c _ => exact r.elim fun a h => ⟨a, getElem?_append_some h.1, h.2⟩
  | hdr _ ih =>
    obtain ⟨x, dx, od, hv, h1, h2, h3, h4, h5⟩ := r
    exact ⟨x, dx, od, hv, h1, hk _ _ h2, hk _ _ h3, h4, ih h5⟩
  | ext _ => exact r
  | rng _ _ =>
    obtain ⟨r, t, u, w, h1, h2⟩ := r
    exact ⟨r, t, u, w, h1, hk _ _ h2⟩
theorem VRepAll.mono {g g' : Heap} {al al' : List Addr} (hk : g.StaysIn g') {vs : List Value} {xs : List V} (h : VRepAll cx g al vs xs) : VRepAll cx g' (al ++ al') vs xs := by
  induction h with
  | nil => exact .nil
  | cons h _ ih => exact .cons (h.mono hk) ih
variable (cx)

/-- a list whose every part is known -/
def LX (h : Heap) (a : Addr) (vs : Array Value) : Prop := ∃ o, h.get? a = some o ∧ o.cls = .type "list" ∧ ∃ n, o.data = .seq vs n ∧ o.dict = none ∧ o.slots = #[]
theorem LX.isList {h : Heap} {a : Addr} {vs : Array Value} (x : LX h a vs) : h.IsList a vs := let ⟨o, h1, h2, n, h3, _⟩ := x; ⟨o, h1, h2, n, h3⟩
theorem LX.obj {h : Heap} {a : Addr} {vs : Array Value} (x : LX h a vs) : ∃ n, h.get? a = some { cls := .type "list", dict := none, data := .seq vs n, slots := #[] } := by
  obtain ⟨⟨c, d, dt, sl⟩, h1, h2, n, h3, h4, h5⟩ := x
  simp only at h2 h3 h4 h5
  subst h2 h3 h4 h5
  exact ⟨n, h1⟩

def CellOk (g h : Heap) (a : Addr) : Cell → Prop
  | .live xs => ∃ vs, LX h a vs ∧ RdAll g vs.toList xs
  | .fixed o => h.get? a = some o
theorem CellOk.on {g g' h h' : Heap} {a : Addr} (hk : ∀ ob, h.get? a = some ob → h'.get? a = some ob) (hg : ∀ b o, SeqObj o → g.get? b = some o → g'.get? b = some o) : ∀ {c : Cell}, CellOk g h a c → CellOk g' h' a c
  | .live _, ⟨vs, ⟨ob, q1, q2⟩, r⟩ => ⟨vs, ⟨ob, hk ob q1, q2⟩, r.on hg⟩
  | .fixed o, e => hk o e
theorem CellOk.mono {g g' h h' : Heap} {a : Addr} (hk : ∀ ob, h.get? a = some ob → h'.get? a = some ob) (hg : g.StaysIn g') {c : Cell} (x : CellOk g h a c) : CellOk g' h' a c := x.on hk fun b o _ e => hg b o e
theorem CellOk.obj {g h : Heap} {a : Addr} : ∀ {c : Cell}, CellOk g h a c → ∃ ob, h.get? a = some ob
  | .live _, ⟨_, ⟨ob, q1, _⟩, _⟩ => ⟨ob, q1⟩
  | .fixed o, e => ⟨o, e⟩
def StOk (g : Heap) (h : Heap) (al : List Addr) (st : Store) : Prop :=
  al.length = st.length ∧ ∀ (i : Nat) (a : Addr) (c : Cell), al[i]? = some a → st[i]? = some c → CellOk g h a c

/-- the heap at hand: `ow` the frame's own objects (its namespace, its cells), `al` the lists that may change, `st` what they hold -/
structure Ok (ow al : List Addr) (st : Store) (h : Heap) (tk : Nat) : Prop where
  tok : 0 < tk
  base : cx.base.StaysIn (vw h (ow ++ al))
  nd : (ow ++ al).Nodup
  own : ∀ a ∈ ow, ∃ o, h.get? a = some o ∧ ¬ SeqObj o
  st : StOk (vw h (ow ++ al)) h al st

structure Nx (ow al al' : List Addr) (st' : Store) (h h' : Heap) (tk' : Nat) : Prop where
  ok : Ok cx ow (al ++ al') st' h' tk'
  fr : ∀ a ∈ ow, ∀ o, h.get? a = some o → h'.get? a = some o
  vw : (vw h (ow ++ al)).StaysIn (vw h' (ow ++ (al ++ al')))

/-- the frame's own objects: its namespace, its cells, what its loops walk by -/
def ow (env : Env) (hx : List Addr) : List Addr := env.locals :: (env.cells.map (·.2) ++ hx)

def VarsOk (env : Env) (g : Heap) (al : List Addr) (ρ : Vars) (h : Heap) : Prop :=
  ∃ (m cm : PySem.Str → Option Value), h.Ns env.locals m ∧ (∀ n c, env.cells.lookup n = some c → h.IsCell c (cm n)) ∧
    ∀ x v, ρ.lookup x = some v → ∃ val, VRep cx g al val v ∧
      ((env.kindOf x = some .local ∧ m x = some val) ∨ ((env.kindOf x = some .cell ∨ env.kindOf x = some .free) ∧ (env.cells.lookup x).isSome = true ∧ cm x = some val))

structure At (env : Env) (hx al : List Addr) (ρ : Vars) (st : Store) (h : Heap) (tk : Nat) : Prop where
  ok : Ok cx (ow env hx) al st h tk
  fn : env.scope.kind = .function
  gl : env.globals = mainGlobals
  bi : env.builtins = builtinsNs
  vars : VarsOk cx env (vw h (ow env hx ++ al)) al ρ h

/-- room on the stack for d nested calls -/
structure Room (A : Around) (d : Nat) : Prop where
  hd : A.handled = none
  dp : A.depth + 4 * d + 8 < recursionLimit
  un : A.units + 20 * d + 200 < cLine

/-- a tree that hands back a value; it may change the lists, make new ones, and changes nothing else that stands -/
def Op (A : Around) (t : Sem Value) (o al : List Addr) (st : Store) (s : Shared) (Post : V → Store → Prop) : Prop :=
  ∀ Q E, (∀ r st' val al' h' tk', Nx cx o al al' st' s.heap h' tk' → VRep cx (vw h' (o ++ (al ++ al'))) (al ++ al') val r → Post r st' → Q val { s with heap := h', toks := tk' }) →
    wpAny (model cx.prog cx.w) A t Q E s

def te (d : Nat) (env : Env) (ρ : Vars) (st : Store) (e : Expr) (Post : V → Store → Prop) : Prop :=
  ∀ A hx al s, Room A d → At cx env hx al ρ st s.heap s.toks → Op cx A (eval e env) (ow env hx) al st s Post

/-- an isTrue test -/
def tt (d : Nat) (env : Env) (ρ : Vars) (st : Store) (e : Expr) (Post : Bool → Store → Prop) : Prop :=
  ∀ A hx al s Q E, Room A d → At cx env hx al ρ st s.heap s.toks →
    (∀ b st' al' h' tk', Nx cx (ow env hx) al al' st' s.heap h' tk' → Post b st' → Q b { s with heap := h', toks := tk' }) →
    wpAny (model cx.prog cx.w) A (isTrue e env (eval e env)) Q E s

inductive Fl where
  | next | brk | cont | ret (v : V)
def FlRep (g : Heap) (al : List Addr) : Flow → Fl → Prop
  | .next, .next => True
  | .brk, .brk => True
  | .cont, .cont => True
  | .ret v, .ret x => VRep cx g al v x
  | _, _ => False

structure Nxs (env : Env) (hx al al' : List Addr) (ρ' : Vars) (st' : Store) (h h' : Heap) (tk' : Nat) : Prop where
  hk : ∀ a ∈ hx, ∀ o, h.get? a = some o → h'.get? a = some o
  at' : At cx env hx (al ++ al') ρ' st' h' tk'
  vw : (vw h (ow env hx ++ al)).StaysIn (vw h' (ow env hx ++ (al ++ al')))

def tsem (d : Nat) (env : Env) (ρ : Vars) (st : Store) (t : Sem Flow) (Post : Fl → Vars → Store → Prop) : Prop :=
  ∀ A hx al s Q E, Room A d → At cx env hx al ρ st s.heap s.toks →
    (∀ fl ρ' st' f al' h' tk', Nxs cx env hx al al' ρ' st' s.heap h' tk' → FlRep cx (vw h' (ow env hx ++ (al ++ al'))) (al ++ al') f fl → Post fl ρ' st' → Q f { s with heap := h', toks := tk' }) →
    wpAny (model cx.prog cx.w) A t Q E s
def ts (d : Nat) (env : Env) (ρ : Vars) (st : Store) (x : Stmt) (Post : Fl → Vars → Store → Prop) : Prop := tsem cx d env ρ st (exec x env) Post
def tb (d : Nat) (env : Env) (ρ : Vars) (st : Store) (xs : List Stmt) (Post : Fl → Vars → Store → Prop) : Prop := tsem cx d env ρ st (execs xs env) Post

/-- a call -/
def tcall (d : Nat) (f : V) (xs : List V) (kw : List (PySem.Str × V)) (st : Store) (Post : V → Store → Prop) : Prop :=
  ∀ A o al s fv vs ks, Room A d → Ok cx o al st s.heap s.toks → VRep cx (vw s.heap (o ++ al)) al fv f → VRepAll cx (vw s.heap (o ++ al)) al vs xs →
    ks.map (·.1) = kw.map (·.1) → VRepAll cx (vw s.heap (o ++ al)) al (ks.map (·.2)) (kw.map (·.2)) →
    Op cx A (call fv vs ks) o al st s Post

variable {cx}
theorem Nx.refl {o al : List Addr} {st : Store} {h : Heap} {tk : Nat} (x : Ok cx o al st h tk) : Nx cx o al [] st h h tk :=
  ⟨by rw [List.append_nil]; exact x, fun _ _ _ e => e, by rw [List.append_nil]; exact fun _ _ e => e⟩
theorem Nx.trans {o al al₁ al₂ : List Addr} {st₁ st₂ : Store} {h h₁ h₂ : Heap} {tk₁ tk₂ : Nat} (x : Nx cx o al al₁ st₁ h h₁ tk₁) (y : Nx cx o (al ++ al₁) al₂ st₂ h₁ h₂ tk₂) : Nx cx o al (al₁ ++ al₂) st₂ h h₂ tk₂ :=
  ⟨by rw [← List.append_assoc]; exact y.ok, fun a m o e => y.fr a m o (x.fr a m o e), fun b o e => by rw [← List.append_assoc al]; exact y.vw b o (x.vw b o e)⟩

theorem VarsOk.next {env : Env} {hx al al' : List Addr} {ρ : Vars} {st' : Store} {h h' : Heap} {tk' : Nat} (x : VarsOk cx env (vw h (ow env hx ++ al)) al ρ h) (n : Nx cx (ow env hx) al al' st' h h' tk') :
    VarsOk cx env (vw h' (ow env hx ++ (al ++ al'))) (al ++ al') ρ h' := by
  obtain ⟨m, cm, hm, hc, hv⟩ := x
  refine ⟨m, cm, ?_, fun k c e => ?_, fun y v e => ?_⟩
  · obtain ⟨o, es, ep, ho, r⟩ := hm
    exact ⟨o, es, ep, n.fr _ (.head _) _ ho, r⟩
  · obtain ⟨o, ho, hd⟩ := hc k c e
    exact ⟨o, n.fr _ (.tail _ (List.mem_append.mpr (.inl (List.mem_map.mpr ⟨(k, c), mem_of_lookup e, rfl⟩)))) _ ho, hd⟩
  · obtain ⟨val, r, q⟩ := hv y v e
    exact ⟨val, r.mono n.vw, q⟩
theorem At.next {env : Env} {hx al al' : List Addr} {ρ : Vars} {st st' : Store} {h h' : Heap} {tk tk' : Nat} (x : At cx env hx al ρ st h tk) (n : Nx cx (ow env hx) al al' st' h h' tk') : At cx env hx (al ++ al') ρ st' h' tk' :=
  ⟨n.ok, x.fn, x.gl, x.bi, x.vars.next n⟩
theorem At.nxs {env : Env} {hx al al' : List Addr} {ρ : Vars} {st st' : Store} {h h' : Heap} {tk tk' : Nat} (x : At cx env hx al ρ st h tk) (n : Nx cx (ow env hx) al al' st' h h' tk') : Nxs cx env hx al al' ρ st' h h' tk' :=
  ⟨fun a m => n.fr a (.tail _ (List.mem_append.mpr (.inr m))), x.next n, n.vw⟩
theorem Nxs.trans {env : Env} {hx al al₁ al₂ : List Addr} {ρ₁ ρ₂ : Vars} {st₁ st₂ : Store} {h h₁ h₂ : Heap} {tk₁ tk₂ : Nat} (x : Nxs cx env hx al al₁ ρ₁ st₁ h h₁ tk₁) (y : Nxs cx env hx (al ++ al₁) al₂ ρ₂ st₂ h₁ h₂ tk₂) :
    Nxs cx env hx al (al₁ ++ al₂) ρ₂ st₂ h h₂ tk₂ :=
  ⟨fun a m o e => y.hk a m o (x.hk a m o e), by rw [← List.append_assoc]; exact y.at', fun b o e => by rw [← List.append_assoc al]; exact y.vw b o (x.vw b o e)⟩
theorem Nxs.refl {env : Env} {hx al : List Addr} {ρ : Vars} {st : Store} {h : Heap} {tk : Nat} (x : At cx env hx al ρ st h tk) : Nxs cx env hx al [] ρ st h h tk :=
  ⟨fun _ _ _ e => e, by rw [List.append_nil]; exact x, by rw [List.append_nil]; exact fun _ _ e => e⟩

/-- plain steps: nothing but new things -/
theorem plain_k {Post : V → Store → Prop} {st : Store} {o al : List Addr} {s : Shared} {Q : Value → Shared → Prop} (ok : Ok cx o al st s.heap s.toks)
    (k : ∀ r st' val al' h' tk', Nx cx o al al' st' s.heap h' tk' → VRep cx (vw h' (o ++ (al ++ al'))) (al ++ al') val r → Post r st' → Q val { s with heap := h', toks := tk' }) :
    ∀ val h' tk' r, s.toks ≤ tk' → s.heap.StaysIn h' → VRep cx (vw h' (o ++ al)) al val r → Post r st → Q val { s with heap := h', toks := tk' } := by
  intro val h' tk' r ht hk hv hp
  have hvw : (vw s.heap (o ++ al)).StaysIn (vw h' (o ++ al)) := vw_mono fun b ob n e => ⟨hk b ob e, n⟩
  refine k r st val [] h' tk' ⟨?_, fun a _ ob e => hk a ob e, by rw [List.append_nil]; exact hvw⟩ (by rw [List.append_nil]; exact hv) hp
  rw [List.append_nil]
  exact ⟨Nat.lt_of_lt_of_le ok.tok ht, fun b ob e => hvw b ob (ok.base b ob e), ok.nd, fun a m => let ⟨ob, e, n⟩ := ok.own a m; ⟨ob, hk a ob e, n⟩,
    ok.st.1, fun i a c e1 e2 => (ok.st.2 i a c e1 e2).mono (fun ob q => hk a ob q) hvw⟩

/-- what a step that makes only plain things hands on -/
theorem Op.ofVal {A : Around} {t : Sem Value} {o al : List Addr} {st : Store} {s : Shared} {P : V → Store → Prop}
    (ok : Ok cx o al st s.heap s.toks)
    (h : ∀ Q E, (∀ val h' tk' r, s.heap.StaysIn h' → VRep cx (vw h' (o ++ al)) al val r → P r st → Q val { s with heap := h', toks := tk' }) → wpAny (model cx.prog cx.w) A t Q E s) : Op cx A t o al st s P := by
  intro Q E k
  exact wpAny_with_toks (Nat.le_refl _) (h _ _ fun val h' tk' r hk hv hp ht => plain_k ok k val h' tk' r ht hk hv hp)

end Mine

-- M1
namespace Mine
open PySem PySem.W PySem.Calls PyProof.Rows

variable {cx : Cx} {d : Nat} {env : Env} {ρ : Vars} {st : Store} {pos : Pos}

/-! ### addresses -/
theorem Ok.lt {o al : List Addr} {st : Store} {h : Heap} {tk : Nat} (x : Ok cx o al st h tk) {a : Addr} (m : a ∈ o ++ al) : a < h.objs.size := by
  rcases List.mem_append.mp m with m | m
  · obtain ⟨_, e, _⟩ := x.own a m
    exact Heap.lt_size e
  · obtain ⟨i, hi, e⟩ := List.getElem_of_mem m
    have e' : al[i]? = some a := by rw [List.getElem?_eq_getElem hi, e]
    have hi' : i < st.length := x.st.1 ▸ hi
    obtain ⟨_, q⟩ := (x.st.2 i a (st[i]'hi') e' (List.getElem?_eq_getElem hi')).obj
    exact Heap.lt_size q
theorem Ok.fresh {o al : List Addr} {st : Store} {h : Heap} {tk : Nat} (x : Ok cx o al st h tk) {a : Addr} (m : h.objs.size ≤ a) : a ∉ o ++ al := fun q => absurd (x.lt q) (Nat.not_lt.mpr m)
theorem stays_push (h : Heap) (o : Obj) : h.StaysIn (h.push o) := fun b ob e => Heap.get?_push_of_some o e

theorem rd_int {g : Heap} {v : Value} {i : Int} (r : Rd g v (.int i)) : ∃ t, v = .int i t := by cases r; exact ⟨_, rfl⟩
theorem rd_str {g : Heap} {v : Value} {x : PySem.Str} (r : Rd g v (.str x)) : ∃ t, v = .str x t := by cases r; exact ⟨_, rfl⟩
theorem rd_bool {g : Heap} {v : Value} {b : Bool} (r : Rd g v (.bool b)) : v = .bool b := by cases r; rfl
theorem rd_none {g : Heap} {v : Value} (r : Rd g v .none) : v = .none := by cases r; rfl
theorem rd_list {g : Heap} {v : Value} {xs : List PyData} (r : Rd g v (.list xs)) : ∃ a vs, v = .ref a ∧ g.IsList a vs ∧ RdAll g vs.toList xs := by cases r with | list h1 h2 => exact ⟨_, _, rfl, h1, h2⟩
theorem rd_tuple {g : Heap} {v : Value} {xs : List PyData} (r : Rd g v (.tuple xs)) : ∃ a vs, v = .ref a ∧ IsTup g a vs ∧ RdAll g vs.toList xs := by cases r with | tuple h1 h2 => exact ⟨_, _, rfl, h1, h2⟩
theorem isList_of_vw {h : Heap} {l : List Addr} {a : Addr} {vs : Array Value} (x : (vw h l).IsList a vs) : h.IsList a vs := let ⟨o, e, r⟩ := x; ⟨o, (vw_get.mp e).1, r⟩
theorem isTup_of_vw {h : Heap} {l : List Addr} {a : Addr} {vs : Array Value} (x : IsTup (vw h l) a vs) : IsTup h a vs := let ⟨o, e, r⟩ := x; ⟨o, (vw_get.mp e).1, r⟩

theorem lift_k {A : Around} {o al al₁ : List Addr} {st₁ : Store} {s : Shared} {h₁ : Heap} {tk₁ : Nat} {Q : Value → Shared → Prop} {Post : V → Store → Prop} (n : Nx cx o al al₁ st₁ s.heap h₁ tk₁)
    (k : ∀ r st' val al' h' tk', Nx cx o al al' st' s.heap h' tk' → VRep cx (vw h' (o ++ (al ++ al'))) (al ++ al') val r → Post r st' → Q val { s with heap := h', toks := tk' }) :
    ∀ r st' val al' h' tk', Nx cx o (al ++ al₁) al' st' ({ s with heap := h₁, toks := tk₁ } : Shared).heap h' tk' → VRep cx (vw h' (o ++ ((al ++ al₁) ++ al'))) ((al ++ al₁) ++ al') val r → Post r st' →
      Q val { ({ s with heap := h₁, toks := tk₁ } : Shared) with heap := h', toks := tk' } :=
  fun r st' val al' h' tk' m v p => k r st' val (al₁ ++ al') h' tk' (n.trans m) (by rw [← List.append_assoc al]; exact v) p

theorem lift_b {α : Type} {o al al₁ : List Addr} {st₁ : Store} {s : Shared} {h₁ : Heap} {tk₁ : Nat} {Q : α → Shared → Prop} {Post : α → Store → Prop} (n : Nx cx o al al₁ st₁ s.heap h₁ tk₁)
    (k : ∀ b st' al' h' tk', Nx cx o al al' st' s.heap h' tk' → Post b st' → Q b { s with heap := h', toks := tk' }) :
    ∀ b st' al' h' tk', Nx cx o (al ++ al₁) al' st' ({ s with heap := h₁, toks := tk₁ } : Shared).heap h' tk' → Post b st' → Q b { ({ s with heap := h₁, toks := tk₁ } : Shared) with heap := h', toks := tk' } :=
  fun b st' al' h' tk' m p => k b st' (al₁ ++ al') h' tk' (n.trans m) p

/-! ### names, constants -/
section
variable {Post : V → Store → Prop}

theorem te_name {x : PySem.Str} {v : V} (hl : ρ.lookup x = some v) (h : Post v st) (hd : (x == ("__debug__" : PySem.Str)) = false := by rfl) (hn : (x == ("__classdict__" : PySem.Str)) = false := by rfl) :
    te cx d env ρ st (.Name x pos) Post := by
  intro A hx al s R a
  refine Op.ofVal a.ok fun Q E k => ?_
  obtain ⟨m, cm, hm, hc, hv⟩ := a.vars
  obtain ⟨val, r, q⟩ := hv x v hl
  have fin : Q val s := k val s.heap s.toks v (fun _ _ e => e) r h
  refine wpAny_Name ?_ hd
  rcases q with ⟨k1, k2⟩ | ⟨k1 | k1, k2, k3⟩
  · exact wpAny_loadName_local a.fn k1 hm k2 fin
  · obtain ⟨c, hcl⟩ := Option.isSome_iff_exists.mp k2
    exact wpAny_loadName_cell a.fn k1 hcl (k3 ▸ hc x c hcl) fin
  · obtain ⟨c, hcl⟩ := Option.isSome_iff_exists.mp k2
    exact wpAny_loadName_free a.fn k1 hcl (k3 ▸ hc x c hcl) fin hn

theorem At.mg {hx al : List Addr} {h : Heap} {tk : Nat} (a : At cx env hx al ρ st h tk) : h.Ns mainGlobals cx.mg :=
  cx.T.g.keeps fun b o e => (vw_get.mp (a.ok.base b o e)).1
theorem At.mb {hx al : List Addr} {h : Heap} {tk : Nat} (a : At cx env hx al ρ st h tk) : h.Ns builtinsNs cx.mb :=
  cx.T.b.keeps fun b o e => (vw_get.mp (a.ok.base b o e)).1

/-- a global of the text that is no text: a def, a class, a pattern -/
theorem te_glob {x : PySem.Str} {v : Value} (e : nsIn cx.K mainGlobals x = some (some v)) (h : Post (.ext v) st)
    (hkx : env.kindOf x = some .globalImplicit := by rfl) (hd : (x == ("__debug__" : PySem.Str)) = false := by rfl) : te cx d env ρ st (.Name x pos) Post := by
  intro A hx al s R a
  refine Op.ofVal a.ok fun Q E k => ?_
  exact Name_function_global a.fn hkx (loadGlobal_global (by rw [a.gl]; exact a.mg) (mg_of cx.X cx.T.g e) (k v s.heap s.toks (.ext v) (fun _ _ e => e) rfl h)) hd
theorem te_globS {x y : PySem.Str} {t : Tok} (e : nsIn cx.K mainGlobals x = some (some (.str y t))) (h : Post (.d (.str y)) st)
    (hkx : env.kindOf x = some .globalImplicit := by rfl) (hd : (x == ("__debug__" : PySem.Str)) = false := by rfl) : te cx d env ρ st (.Name x pos) Post := by
  intro A hx al s R a
  refine Op.ofVal a.ok fun Q E k => ?_
  exact Name_function_global a.fn hkx (loadGlobal_global (by rw [a.gl]; exact a.mg) (mg_of cx.X cx.T.g e) (k _ s.heap s.toks (.d (.str y)) (fun _ _ e => e) (.str y t) h)) hd
theorem te_builtin {x : PySem.Str} {v : Value} (e : nsIn cx.K mainGlobals x = some none) (hv : bootBuiltins x = some v) (h : Post (.ext v) st)
    (hkx : env.kindOf x = some .globalImplicit := by rfl) (hn : x ≠ "__name__" := by decide) (hd : (x == ("__debug__" : PySem.Str)) = false := by rfl) : te cx d env ρ st (.Name x pos) Post := by
  intro A hx al s R a
  refine Op.ofVal a.ok fun Q E k => ?_
  refine Name_function_global a.fn hkx (loadGlobal_builtin (by rw [a.gl]; exact a.mg) (mg_none_of cx.X cx.T.g e) (by rw [a.bi]; exact a.mb) ((cx.T.builtins x hn).trans hv) (k v s.heap s.toks (.ext v) (fun _ _ e => e) rfl h)) hd

theorem te_int {i : Int} {kk : Nat} (h : Post (.d (.int i)) st) : te cx d env ρ st (.Constant (.int i) kk pos) Post := by
  intro A hx al s R a
  exact Op.ofVal a.ok fun Q E k => wpAny_Constant_int (k _ s.heap _ (.d (.int i)) (fun _ _ e => e) (.int i _) h)
theorem te_str {x : PySem.Str} {kk : Nat} (h : Post (.d (.str x)) st) : te cx d env ρ st (.Constant (.str x) kk pos) Post := by
  intro A hx al s R a
  exact Op.ofVal a.ok fun Q E k => Constant_str (k _ s.heap _ (.d (.str x)) (fun _ _ e => e) (.str x _) h)
theorem te_bool {b : Bool} {kk : Nat} (h : Post (.d (.bool b)) st) : te cx d env ρ st (.Constant (.bool b) kk pos) Post := by
  intro A hx al s R a
  exact Op.ofVal a.ok fun Q E k => Constant_bool (k _ s.heap s.toks (.d (.bool b)) (fun _ _ e => e) (.bool b) h)
theorem te_none {kk : Nat} (h : Post (.d .none) st) : te cx d env ρ st (.Constant .none kk pos) Post := by
  intro A hx al s R a
  exact Op.ofVal a.ok fun Q E k => Constant_none (k _ s.heap s.toks (.d .none) (fun _ _ e => e) .none h)
end

/-! ### operators -/
def tbin (cx : Cx) (d : Nat) (op : Operator) (a b : V) (st : Store) (Post : V → Store → Prop) : Prop :=
  ∀ A o al s va vb, Room A d → Ok cx o al st s.heap s.toks → VRep cx (vw s.heap (o ++ al)) al va a → VRep cx (vw s.heap (o ++ al)) al vb b → Op cx A (binaryOp op va vb) o al st s Post
def tinp (cx : Cx) (d : Nat) (op : Operator) (a b : V) (st : Store) (Post : V → Store → Prop) : Prop :=
  ∀ A o al s va vb, Room A d → Ok cx o al st s.heap s.toks → VRep cx (vw s.heap (o ++ al)) al va a → VRep cx (vw s.heap (o ++ al)) al vb b → Op cx A (inplaceOp op va vb) o al st s Post
def tcmp (cx : Cx) (d : Nat) (op : CmpOp) (a b : V) (st : Store) (Post : V → Store → Prop) : Prop :=
  ∀ A o al s va vb, Room A d → Ok cx o al st s.heap s.toks → VRep cx (vw s.heap (o ++ al)) al va a → VRep cx (vw s.heap (o ++ al)) al vb b → Op cx A (compareOp op va vb) o al st s Post
def tun (cx : Cx) (d : Nat) (op : UnaryOp) (a : V) (st : Store) (Post : V → Store → Prop) : Prop :=
  ∀ A o al s va, Room A d → Ok cx o al st s.heap s.toks → VRep cx (vw s.heap (o ++ al)) al va a → Op cx A (unaryOp op va) o al st s Post
def ttr (cx : Cx) (d : Nat) (a : V) (st : Store) (Post : Bool → Store → Prop) : Prop :=
  ∀ A o al s va, Room A d → Ok cx o al st s.heap s.toks → VRep cx (vw s.heap (o ++ al)) al va a → ∀ Q E,
    (∀ b st' al' h' tk', Nx cx o al al' st' s.heap h' tk' → Post b st' → Q b { s with heap := h', toks := tk' }) → wpAny (model cx.prog cx.w) A (truthy va) Q E s

section
variable {Post : V → Store → Prop} {PostB : Bool → Store → Prop}
theorem te_bin {op : Operator} {l r : Expr} (h : te cx d env ρ st l fun a st₁ => te cx d env ρ st₁ r fun b st₂ => tbin cx d op a b st₂ Post) : te cx d env ρ st (.BinOp l op r pos) Post := by
  intro A hx al s R a Q E k
  refine wpAny_BinOp (h A hx al s R a _ E fun x st₁ va al₁ h₁ tk₁ n₁ v₁ p₁ => ?_)
  refine p₁ A _ _ _ R (a.next n₁) _ E fun y st₂ vb al₂ h₂ tk₂ n₂ v₂ p₂ => ?_
  exact p₂ A _ _ _ va vb R n₂.ok (v₁.mono n₂.vw) v₂ Q E (lift_k (A := A) n₂ (lift_k (A := A) n₁ k))
theorem te_un {op : UnaryOp} {l : Expr} (h : te cx d env ρ st l fun a st₁ => tun cx d op a st₁ Post) : te cx d env ρ st (.UnaryOp op l pos) Post := by
  intro A hx al s R a Q E k
  refine UnaryOp_ (h A hx al s R a _ E fun x st₁ va al₁ h₁ tk₁ n₁ v₁ p₁ => ?_)
  exact p₁ A _ _ _ va R n₁.ok v₁ Q E (lift_k (A := A) n₁ k)
theorem te_cmp {op : CmpOp} {l r : Expr} (h : te cx d env ρ st l fun a st₁ => te cx d env ρ st₁ r fun b st₂ => tcmp cx d op a b st₂ Post) (hm : behindInMarks op r = false := by with_unfolding_all rfl) :
    te cx d env ρ st (.Compare l [op] [r] pos) Post := by
  intro A hx al s R a Q E k
  refine wpAny_Compare1 (h A hx al s R a _ E fun x st₁ va al₁ h₁ tk₁ n₁ v₁ p₁ => ?_) hm
  refine p₁ A _ _ _ R (a.next n₁) _ E fun y st₂ vb al₂ h₂ tk₂ n₂ v₂ p₂ => ?_
  exact p₂ A _ _ _ va vb R n₂.ok (v₁.mono n₂.vw) v₂ Q E (lift_k (A := A) n₂ (lift_k (A := A) n₁ k))
theorem te_ifexp {t b o : Expr} (h : tt cx d env ρ st t fun c st₁ => (c = true → te cx d env ρ st₁ b Post) ∧ (c = false → te cx d env ρ st₁ o Post)) : te cx d env ρ st (.IfExp t b o pos) Post := by
  intro A hx al s R a Q E k
  refine IfExp_ (h A hx al s _ E R a fun c st₁ al₁ h₁ tk₁ n₁ p₁ => ?_)
  cases c
  · exact p₁.2 rfl A _ _ _ R (a.next n₁) Q E (lift_k (A := A) n₁ k)
  · exact p₁.1 rfl A _ _ _ R (a.next n₁) Q E (lift_k (A := A) n₁ k)

/-! tests -/
theorem tt_cmp {op : CmpOp} {l r : Expr} (h : te cx d env ρ st l fun a st₁ => te cx d env ρ st₁ r fun b st₂ => tcmp cx d op a b st₂ fun c st₃ => ttr cx d c st₃ PostB)
    (hm : behindInMarks op r = false := by with_unfolding_all rfl) : tt cx d env ρ st (.Compare l [op] [r] pos) PostB := by
  intro A hx al s Q E R a k
  refine wpAny_isTrue_Compare1 (h A hx al s R a _ E fun x st₁ va al₁ h₁ tk₁ n₁ v₁ p₁ => ?_) hm
  refine p₁ A _ _ _ R (a.next n₁) _ E fun y st₂ vb al₂ h₂ tk₂ n₂ v₂ p₂ => ?_
  refine p₂ A _ _ _ va vb R n₂.ok (v₁.mono n₂.vw) v₂ _ E fun z st₃ vc al₃ h₃ tk₃ n₃ v₃ p₃ => ?_
  exact p₃ A _ _ _ vc R n₃.ok v₃ Q E (lift_b n₃ (lift_b n₂ (lift_b n₁ k)))
theorem tt_and_nil (h : PostB true st) : tt cx d env ρ st (.BoolOp .And [] pos) PostB := by
  intro A hx al s Q E R a k
  exact isTrue_and_nil (k true st [] s.heap s.toks (Nx.refl a.ok) h)
theorem tt_or_nil (h : PostB false st) : tt cx d env ρ st (.BoolOp .Or [] pos) PostB := by
  intro A hx al s Q E R a k
  exact isTrue_or_nil (k false st [] s.heap s.toks (Nx.refl a.ok) h)
theorem tt_and {x : Expr} {r : List Expr} (h : tt cx d env ρ st x fun c st₁ => (c = true → tt cx d env ρ st₁ (.BoolOp .And r pos) PostB) ∧ (c = false → PostB false st₁)) : tt cx d env ρ st (.BoolOp .And (x :: r) pos) PostB := by
  intro A hx al s Q E R a k
  refine isTrue_and (h A hx al s _ E R a fun c st₁ al₁ h₁ tk₁ n₁ p₁ => ?_)
  cases c
  · exact k false st₁ al₁ h₁ tk₁ n₁ (p₁.2 rfl)
  · exact p₁.1 rfl A _ _ _ Q E R (a.next n₁) (lift_b n₁ k)
theorem tt_or {x : Expr} {r : List Expr} (h : tt cx d env ρ st x fun c st₁ => (c = true → PostB true st₁) ∧ (c = false → tt cx d env ρ st₁ (.BoolOp .Or r pos) PostB)) : tt cx d env ρ st (.BoolOp .Or (x :: r) pos) PostB := by
  intro A hx al s Q E R a k
  refine isTrue_or (h A hx al s _ E R a fun c st₁ al₁ h₁ tk₁ n₁ p₁ => ?_)
  cases c
  · exact p₁.2 rfl A _ _ _ Q E R (a.next n₁) (lift_b n₁ k)
  · exact k true st₁ al₁ h₁ tk₁ n₁ (p₁.1 rfl)
theorem tt_plain {e : Expr} (h : te cx d env ρ st e fun a st₁ => ttr cx d a st₁ PostB) (he : isTrue e env (eval e env) = (do let v ← eval e env; standAt e.pos; holding [v] (truthy v)) := by rfl) : tt cx d env ρ st e PostB := by
  intro A hx al s Q E R a k
  refine isTrue_plain (h A hx al s R a _ E fun x st₁ va al₁ h₁ tk₁ n₁ v₁ p₁ => ?_) he
  exact p₁ A _ _ _ va R n₁.ok v₁ Q E (lift_b n₁ k)
theorem ttr_bool {b : Bool} (h : PostB b st) : ttr cx d (.d (.bool b)) st PostB := by
  intro A o al s va R ok v Q E k
  rw [rd_bool v]
  exact wpAny_truthy_bool (k b st [] s.heap s.toks (Nx.refl ok) h)
theorem ttr_none (h : PostB false st) : ttr cx d (.d .none) st PostB := by
  intro A o al s va R ok v Q E k
  rw [rd_none v]
  exact truthy_none (k false st [] s.heap s.toks (Nx.refl ok) h)

/-! ints -/
theorem tbin_add {i j : Int} (h : Post (.d (.int (i + j))) st) : tbin cx d .Add (.d (.int i)) (.d (.int j)) st Post := by
  intro A o al s va vb R ok v1 v2
  obtain ⟨t, rfl⟩ := rd_int v1; obtain ⟨u, rfl⟩ := rd_int v2
  exact Op.ofVal ok fun Q E k => PyProof.Rows.add_int (k _ s.heap _ (.d (.int (i + j))) (fun _ _ e => e) (.int _ _) h)
theorem tbin_sub {i j : Int} (h : Post (.d (.int (i - j))) st) : tbin cx d .Sub (.d (.int i)) (.d (.int j)) st Post := by
  intro A o al s va vb R ok v1 v2
  obtain ⟨t, rfl⟩ := rd_int v1; obtain ⟨u, rfl⟩ := rd_int v2
  exact Op.ofVal ok fun Q E k => PyProof.Rows.sub_int (k _ s.heap _ (.d (.int (i - j))) (fun _ _ e => e) (.int _ _) h)
theorem tbin_mul {i j : Int} (hb : IntMulOk i j) (h : Post (.d (.int (i * j))) st) : tbin cx d .Mult (.d (.int i)) (.d (.int j)) st Post := by
  intro A o al s va vb R ok v1 v2
  obtain ⟨t, rfl⟩ := rd_int v1; obtain ⟨u, rfl⟩ := rd_int v2
  exact Op.ofVal ok fun Q E k => PyProof.Rows.mul_int (k _ s.heap _ (.d (.int (i * j))) (fun _ _ e => e) (.int _ _) h) hb
theorem tbin_mod {i j : Int} (hj : j ≠ 0) (h : Post (.d (.int (i.fmod j))) st) : tbin cx d .Mod (.d (.int i)) (.d (.int j)) st Post := by
  intro A o al s va vb R ok v1 v2
  obtain ⟨t, rfl⟩ := rd_int v1; obtain ⟨u, rfl⟩ := rd_int v2
  exact Op.ofVal ok fun Q E k => mod_int hj (k _ s.heap _ (.d (.int (i.fmod j))) (fun _ _ e => e) (.int _ _) h)
theorem tbin_div {i j : Int} (hj : j ≠ 0) (hp : Builtin.divisionGoesByPylong i j = false) (h : Post (.d (.int (i.fdiv j))) st) : tbin cx d .FloorDiv (.d (.int i)) (.d (.int j)) st Post := by
  intro A o al s va vb R ok v1 v2
  obtain ⟨t, rfl⟩ := rd_int v1; obtain ⟨u, rfl⟩ := rd_int v2
  exact Op.ofVal ok fun Q E k => floordiv_int hj (k _ s.heap _ (.d (.int (i.fdiv j))) (fun _ _ e => e) (.int _ _) h) (.inl hp)
theorem tbin_cat {x y : PySem.Str} (hz : x.length + y.length ≤ sizeLine) (h : Post (.d (.str (x ++ y))) st) : tbin cx d .Add (.d (.str x)) (.d (.str y)) st Post := by
  intro A o al s va vb R ok v1 v2
  obtain ⟨t, rfl⟩ := rd_str v1; obtain ⟨u, rfl⟩ := rd_str v2
  exact Op.ofVal ok fun Q E k => add_str (fun t' tk => k _ s.heap tk (.d (.str (x ++ y))) (fun _ _ e => e) (.str _ _) h) hz
theorem tinp_cat {x y : PySem.Str} (hz : x.length + y.length ≤ sizeLine) (h : Post (.d (.str (x ++ y))) st) : tinp cx d .Add (.d (.str x)) (.d (.str y)) st Post := by
  intro A o al s va vb R ok v1 v2
  obtain ⟨t, rfl⟩ := rd_str v1; obtain ⟨u, rfl⟩ := rd_str v2
  exact Op.ofVal ok fun Q E k => iadd_str (fun t' tk => k _ s.heap tk (.d (.str (x ++ y))) (fun _ _ e => e) (.str _ _) h) hz
end

end Mine

-- M2
namespace Mine
open PySem PySem.W PySem.Calls PyProof.Rows

variable {cx : Cx} {d : Nat} {env : Env} {ρ : Vars} {st : Store} {pos : Pos}

theorem Room.units {A : Around} {d : Nat} (R : Room A d) : A.units + 64 < cLine := by have := R.un; omega

section
variable {Post : V → Store → Prop} {PostB : Bool → Store → Prop}

/-! ### comparisons -/
theorem tcmp_eqS {x y : PySem.Str} (h : Post (.d (.bool (x == y))) st) : tcmp cx d .Eq (.d (.str x)) (.d (.str y)) st Post := by
  intro A o al s va vb R ok v1 v2
  obtain ⟨t, rfl⟩ := rd_str v1; obtain ⟨u, rfl⟩ := rd_str v2
  exact Op.ofVal ok fun Q E k => eq_str (k _ s.heap s.toks (.d (.bool _)) (fun _ _ e => e) (.bool _) h)
theorem tcmp_neS {x y : PySem.Str} (h : Post (.d (.bool (x != y))) st) : tcmp cx d .NotEq (.d (.str x)) (.d (.str y)) st Post := by
  intro A o al s va vb R ok v1 v2
  obtain ⟨t, rfl⟩ := rd_str v1; obtain ⟨u, rfl⟩ := rd_str v2
  exact Op.ofVal ok fun Q E k => ne_str (k _ s.heap s.toks (.d (.bool _)) (fun _ _ e => e) (.bool _) h)
theorem tcmp_eqD {x y : PyData} (hx : SeqAt.shaped x = true) (hy : SeqAt.shaped y = true) (h : Post (.d (.bool (PyData.eqv x y))) st) : tcmp cx d .Eq (.d x) (.d y) st Post := by
  intro A o al s va vb R ok v1 v2
  obtain ⟨as, r1⟩ := Rd.reads (Rd.keeps (fun b o e => (vw_get.mp e).1) v1)
  obtain ⟨bs, r2⟩ := Rd.reads (Rd.keeps (fun b o e => (vw_get.mp e).1) v2)
  exact Op.ofVal ok fun Q E k => eq_dataH r1 r2 hx hy R.units (k _ s.heap s.toks (.d (.bool _)) (fun _ _ e => e) (.bool _) h)
theorem tcmp_neD {x y : PyData} (hx : SeqAt.shaped x = true) (hy : SeqAt.shaped y = true) (h : Post (.d (.bool (!PyData.eqv x y))) st) : tcmp cx d .NotEq (.d x) (.d y) st Post := by
  intro A o al s va vb R ok v1 v2
  obtain ⟨as, r1⟩ := Rd.reads (Rd.keeps (fun b o e => (vw_get.mp e).1) v1)
  obtain ⟨bs, r2⟩ := Rd.reads (Rd.keeps (fun b o e => (vw_get.mp e).1) v2)
  exact Op.ofVal ok fun Q E k => ne_dataH r1 r2 hx hy R.units (k _ s.heap s.toks (.d (.bool _)) (fun _ _ e => e) (.bool _) h)
theorem tcmp_eqI {x y : Int} (h : Post (.d (.bool (x == y))) st) : tcmp cx d .Eq (.d (.int x)) (.d (.int y)) st Post := by
  intro A o al s va vb R ok v1 v2
  obtain ⟨t, rfl⟩ := rd_int v1; obtain ⟨u, rfl⟩ := rd_int v2
  exact Op.ofVal ok fun Q E k => eq_int (k _ s.heap s.toks (.d (.bool _)) (fun _ _ e => e) (.bool _) h)
theorem tcmp_neI {x y : Int} (h : Post (.d (.bool (x != y))) st) : tcmp cx d .NotEq (.d (.int x)) (.d (.int y)) st Post := by
  intro A o al s va vb R ok v1 v2
  obtain ⟨t, rfl⟩ := rd_int v1; obtain ⟨u, rfl⟩ := rd_int v2
  exact Op.ofVal ok fun Q E k => ne_int (k _ s.heap s.toks (.d (.bool _)) (fun _ _ e => e) (.bool _) h)
theorem tcmp_ltI {x y : Int} (h : Post (.d (.bool (decide (x < y)))) st) : tcmp cx d .Lt (.d (.int x)) (.d (.int y)) st Post := by
  intro A o al s va vb R ok v1 v2
  obtain ⟨t, rfl⟩ := rd_int v1; obtain ⟨u, rfl⟩ := rd_int v2
  exact Op.ofVal ok fun Q E k => lt_int (k _ s.heap s.toks (.d (.bool _)) (fun _ _ e => e) (.bool _) h)
theorem tcmp_leI {x y : Int} (h : Post (.d (.bool (decide (x ≤ y)))) st) : tcmp cx d .LtE (.d (.int x)) (.d (.int y)) st Post := by
  intro A o al s va vb R ok v1 v2
  obtain ⟨t, rfl⟩ := rd_int v1; obtain ⟨u, rfl⟩ := rd_int v2
  exact Op.ofVal ok fun Q E k => le_int (k _ s.heap s.toks (.d (.bool _)) (fun _ _ e => e) (.bool _) h)
theorem tcmp_gtI {x y : Int} (h : Post (.d (.bool (decide (x > y)))) st) : tcmp cx d .Gt (.d (.int x)) (.d (.int y)) st Post := by
  intro A o al s va vb R ok v1 v2
  obtain ⟨t, rfl⟩ := rd_int v1; obtain ⟨u, rfl⟩ := rd_int v2
  exact Op.ofVal ok fun Q E k => gt_int (k _ s.heap s.toks (.d (.bool _)) (fun _ _ e => e) (.bool _) h)
theorem tcmp_geI {x y : Int} (h : Post (.d (.bool (decide (x ≥ y)))) st) : tcmp cx d .GtE (.d (.int x)) (.d (.int y)) st Post := by
  intro A o al s va vb R ok v1 v2
  obtain ⟨t, rfl⟩ := rd_int v1; obtain ⟨u, rfl⟩ := rd_int v2
  exact Op.ofVal ok fun Q E k => ge_int (k _ s.heap s.toks (.d (.bool _)) (fun _ _ e => e) (.bool _) h)

/-! ### items and slices -/
def tsub (cx : Cx) (d : Nat) (value slice : Expr) (a b : V) (st : Store) (Post : V → Store → Prop) : Prop :=
  (∀ o i, subscripted slice false o i = operate [o, i] (getItem o i)) → ∀ A o al s va vb, Room A d → Ok cx o al st s.heap s.toks → VRep cx (vw s.heap (o ++ al)) al va a → VRep cx (vw s.heap (o ++ al)) al vb b → Op cx A (subscriptTail value slice va vb) o al st s Post

theorem te_sub {value slice : Expr} (h : te cx d env ρ st value fun a st₁ => te cx d env ρ st₁ slice fun b st₂ => tsub cx d value slice a b st₂ Post)
    (hs : ∀ o i, subscripted slice false o i = operate [o, i] (getItem o i) := by intro _ _; rfl) : te cx d env ρ st (.Subscript value slice pos) Post := by
  intro A hx al s R a Q E k
  refine Subscript_ (h A hx al s R a _ E fun x st₁ va al₁ h₁ tk₁ n₁ v₁ p₁ => ?_)
  refine p₁ A _ _ _ R (a.next n₁) _ E fun y st₂ vb al₂ h₂ tk₂ n₂ v₂ p₂ => ?_
  exact p₂ hs A _ _ _ va vb R n₂.ok (v₁.mono n₂.vw) v₂ Q E (lift_k (A := A) n₂ (lift_k (A := A) n₁ k))

theorem tsub_str {value slice : Expr} {x : PySem.Str} {i : Int} {c : Nat} (hr : (decide (i < -(2 ^ 63 : Int)) || decide (i ≥ 2 ^ 63)) = false) (hc : (seqIndex? i x.length).bind (x.cps[·]?) = some c)
    (h : Post (.d (.str ⟨#[c]⟩)) st) : tsub cx d value slice (.d (.str x)) (.d (.int i)) st Post := by
  intro hs A o al s va vb R ok v1 v2
  obtain ⟨t, rfl⟩ := rd_str v1; obtain ⟨u, rfl⟩ := rd_int v2
  exact Op.ofVal ok fun Q E k => tail_any (typeIs_str s x t) F.slot_str_getitem.lookup (getItem_str hr hc (k _ s.heap _ (.d (.str _)) (fun _ _ e => e) (.str _ _) h)) (hs _ _)

theorem tsub_tuple {value slice : Expr} {xs : List PyData} {i : Int} {j : Nat} {x : PyData} (h1 : -(2 ^ 63 : Int) ≤ i) (h2 : i < 2 ^ 63) (hj : seqIndex? i xs.length = some j) (hx : xs[j]? = some x)
    (h : Post (.d x) st) : tsub cx d value slice (.d (.tuple xs)) (.d (.int i)) st Post := by
  intro hs A o al s va vb R ok v1 v2
  obtain ⟨a, vs, rfl, ht, hr⟩ := rd_tuple v1; obtain ⟨u, rfl⟩ := rd_int v2
  obtain ⟨v, e, r⟩ := hr.get hx
  have ht' := isTup_of_vw ht
  refine Op.ofVal ok fun Q E k => tail_any ht'.typeIs slot_tuple_getitem.lookup (getItem_tuple ht' h1 h2 (by rw [← Array.length_toList, hr.length]; exact hj) (by rw [← Array.getElem?_toList]; exact e)
    (k _ s.heap s.toks (.d x) (fun _ _ e => e) r h)) (hs _ _)

theorem getItem_listAny {prog : Program} {w : World} {A : Around} {E : Value → Shared → Prop} {s : Shared} {l : Addr} {items : Array Value} {i : Int} {t : Tok} {j : Nat} {x : Value} {Q : Value → Shared → Prop}
    (hl : s.heap.IsList l items) (h1 : -(2 ^ 63 : Int) ≤ i) (h2 : i < 2 ^ 63) (hj : seqIndex? i items.size = some j) (hx : items[j]? = some x) (h : Q x s) : wpAny (model prog w) A (getItem (.ref l) (.int i t)) Q E s := by
  unfold seqIndex? at hj
  by_cases h0 : i < 0
  · simp only [h0, if_true] at hj
    split at hj
    · rename_i hb
      simp only [Bool.and_eq_true, decide_eq_true_eq] at hb
      obtain rfl := Option.some.inj hj
      exact wpAny_getItem_list_neg hl h0 (by omega) h1 hx h
    · cases hj
  · simp only [h0, if_false] at hj
    split at hj
    · rename_i hb
      obtain rfl := Option.some.inj hj
      exact wpAny_getItem_list hl (by omega) h2 hx h
    · cases hj

theorem tsub_list {value slice : Expr} {xs : List PyData} {i : Int} {j : Nat} {x : PyData} (h1 : -(2 ^ 63 : Int) ≤ i) (h2 : i < 2 ^ 63) (hj : seqIndex? i xs.length = some j) (hx : xs[j]? = some x)
    (h : Post (.d x) st) : tsub cx d value slice (.d (.list xs)) (.d (.int i)) st Post := by
  intro hs A o al s va vb R ok v1 v2
  obtain ⟨a, vs, rfl, ht, hr⟩ := rd_list v1; obtain ⟨u, rfl⟩ := rd_int v2
  obtain ⟨v, e, r⟩ := hr.get hx
  have ht' := isList_of_vw ht
  refine Op.ofVal ok fun Q E k => tail_any ht'.typeIs slot_list_getitem.lookup (getItem_listAny ht' h1 h2 (by rw [← Array.length_toList, hr.length]; exact hj) (by rw [← Array.getElem?_toList]; exact e)
    (k _ s.heap s.toks (.d x) (fun _ _ e => e) r h)) (hs _ _)
theorem Ok.cell {o al : List Addr} {h : Heap} {n : Nat} {xs : List PyData} {v : Value} {tk : Nat} (ok : Ok cx o al st h tk) (v1 : VRep cx (vw h (o ++ al)) al v (.c n)) (e : st[n]? = some (.live xs)) :
    ∃ a vs, al[n]? = some a ∧ v = .ref a ∧ h.IsList a vs ∧ RdAll (vw h (o ++ al)) vs.toList xs := by
  obtain ⟨a, h1, rfl⟩ := v1
  obtain ⟨vs, h2, h3⟩ : CellOk _ _ _ (.live xs) := ok.st.2 n a _ h1 e
  exact ⟨a, vs, h1, rfl, h2.isList, h3⟩
theorem tsub_cell {value slice : Expr} {n : Nat} {xs : List PyData} {i : Int} {j : Nat} {x : PyData} (e : st[n]? = some (.live xs)) (h1 : -(2 ^ 63 : Int) ≤ i) (h2 : i < 2 ^ 63) (hj : seqIndex? i xs.length = some j) (hx : xs[j]? = some x)
    (h : Post (.d x) st) : tsub cx d value slice (.c n) (.d (.int i)) st Post := by
  intro hs A o al s va vb R ok v1 v2
  obtain ⟨a, vs, _, rfl, ht, hr⟩ := ok.cell v1 e; obtain ⟨u, rfl⟩ := rd_int v2
  obtain ⟨v, e, r⟩ := hr.get hx
  refine Op.ofVal ok fun Q E k => tail_any ht.typeIs slot_list_getitem.lookup (getItem_listAny ht h1 h2 (by rw [← Array.length_toList, hr.length]; exact hj) (by rw [← Array.getElem?_toList]; exact e)
    (k _ s.heap s.toks (.d x) (fun _ _ e => e) r h)) (hs _ _)

/-- a slice's bound -/
def tpart (cx : Cx) (d : Nat) (env : Env) (ρ : Vars) (st : Store) : Option Expr → (Option Int → Store → Prop) → Prop
  | none, P => P none st
  | some e, P => te cx d env ρ st e fun v st₁ => ∃ i, v = .d (.int i) ∧ P (some i) st₁
def partV : Option Int → Value → Prop
  | none, v => v = .none
  | some i, v => ∃ t, v = .int i t

theorem tpart_run {e : Option Expr} {P : Option Int → Store → Prop} (h : tpart cx d env ρ st e P) {A : Around} {hx al : List Addr} {s : Shared} {Q : Value → Shared → Prop} {E : Value → Shared → Prop} (R : Room A d) (a : At cx env hx al ρ st s.heap s.toks)
    (k : ∀ i st' v al' h' tk', Nx cx (ow env hx) al al' st' s.heap h' tk' → partV i v → P i st' → Q v { s with heap := h', toks := tk' }) : wpAny (model cx.prog cx.w) A (evalPart e env) Q E s := by
  cases e with
  | none => exact wpAny_evalPart_none (k none st _ [] s.heap s.toks (Nx.refl a.ok) rfl h)
  | some e =>
    refine wpAny_evalPart_some (h A hx al s R a Q E fun r st' val al' h' tk' n v p => ?_)
    obtain ⟨i, rfl, p⟩ := p
    exact k (some i) st' val al' h' tk' n (rd_int v) p

def tsl (cx : Cx) (d : Nat) (value slice : Expr) (a : V) (lo hi : Option Int) (st : Store) (Post : V → Store → Prop) : Prop :=
  (∀ o i, subscripted slice false o i = operate [i, o] (getItem o i)) → ∀ (A : Around) (o al : List Addr) (s : Shared) (va vl vu : Value), Room A d → Ok cx o al st s.heap s.toks → VRep cx (vw s.heap (o ++ al)) al va a → partV lo vl → partV hi vu →
    ∀ Q E, (∀ val h' tk' r, s.toks ≤ tk' → s.heap.StaysIn h' → VRep cx (vw h' (o ++ al)) al val r → Post r st → Q val { s with heap := h', toks := tk' }) →
      wpAny (model cx.prog cx.w) A (subscriptTail value slice va (.ref s.heap.objs.size)) Q E { s with heap := s.heap.push { cls := .type "slice", data := .fields #[vl, vu, .none] } }

theorem te_slice {value : Expr} {lower upper : Option Expr} {p : Pos}
    (h : te cx d env ρ st value fun a st₁ => tpart cx d env ρ st₁ lower fun lo st₂ => tpart cx d env ρ st₂ upper fun hi st₃ => tsl cx d value (.Slice lower upper none p) a lo hi st₃ Post) :
    te cx d env ρ st (.Subscript value (.Slice lower upper none p) pos) Post := by
  intro A hx al s R a Q E k
  refine Subscript_ (h A hx al s R a _ E fun x st₁ va al₁ h₁ tk₁ n₁ v₁ p₁ => ?_)
  refine wpAny_Slice (tpart_run p₁ R (a.next n₁) fun lo st₂ vl al₂ h₂ tk₂ n₂ w₂ p₂ => ?_)
  refine tpart_run p₂ R ((a.next n₁).next n₂) fun hi st₃ vu al₃ h₃ tk₃ n₃ w₃ p₃ => wpAny_evalPart_none ?_
  exact p₃ (fun _ _ => rfl) A _ _ _ va vl vu R n₃.ok ((v₁.mono n₂.vw).mono n₃.vw) w₂ w₃ Q E (plain_k n₃.ok (lift_k (A := A) n₃ (lift_k (A := A) n₂ (lift_k (A := A) n₁ k))))

theorem tsl_ofItem {value slice : Expr} {a : V} {lo hi : Option Int}
    (h : ∀ (A : Around) (o al : List Addr) (s : Shared) (va vl vu : Value), Room A d → Ok cx o al st s.heap s.toks → VRep cx (vw s.heap (o ++ al)) al va a → partV lo vl → partV hi vu →
      ∀ (Q : Value → Shared → Prop) (E : Value → Shared → Prop), (∀ val h' tk' r, s.heap.StaysIn h' → VRep cx (vw h' (o ++ al)) al val r → Post r st → Q val { s with heap := h', toks := tk' }) →
        ItemOn (model cx.prog cx.w) A E va (.ref s.heap.objs.size) Q { s with heap := s.heap.push { cls := .type "slice", data := .fields #[vl, vu, .none] } }) : tsl cx d value slice a lo hi st Post := by
  intro hs A o al s va vl vu R ok v1 w1 w2 Q E k
  obtain ⟨T, id, hl, hT, hg⟩ := h A o al s va vl vu R ok v1 w1 w2 (fun v s' => s.toks ≤ s'.toks → Q v s') (fun e s' => s.toks ≤ s'.toks → E e s') fun val h' tk' r h1 h2 h3 h4 => k val h' tk' r h4 h1 h2 h3
  exact wpAny_with_toks (n := s.toks) (Nat.le_refl _) (tail_any hT hl hg (hs _ _))

theorem tsl_str {value slice : Expr} {x : PySem.Str} {lo hi : Option Int} (hz : x.length ≤ sizeLine) (h : Post (.d (.str (Txt.slice x lo hi))) st) : tsl cx d value slice (.d (.str x)) lo hi st Post := by
  refine tsl_ofItem fun A o al s va vl vu R ok v1 w1 w2 Q E k => ?_
  obtain ⟨t, rfl⟩ := rd_str v1
  have fin : ∀ h' t' k', s.heap.StaysIn h' → Q (.str (Txt.slice x lo hi) t') { s with heap := h', toks := k' } := fun h' t' k' hs => k _ h' k' (.d (.str _)) hs (.str _ _) h
  have hk : KeptH fun h' => s.heap.StaysIn h' := fun h' ob e b o q => Heap.get?_push_of_some ob (e b o q)
  cases lo with
  | none =>
    obtain rfl : vl = .none := w1
    cases hi with
    | none => obtain rfl : vu = .none := w2; exact SBH.sliceItem_nn hk (fun _ _ e => e) fin hz
    | some j => obtain ⟨u, rfl⟩ := w2; exact SBH.sliceItem_ns hk (fun _ _ e => e) fin hz
  | some i =>
    obtain ⟨u, rfl⟩ := w1
    cases hi with
    | none => obtain rfl : vu = .none := w2; exact SBH.sliceItem_sn hk (fun _ _ e => e) fin hz
    | some j => obtain ⟨u', rfl⟩ := w2; exact SBH.sliceItem_ss hk (fun _ _ e => e) fin hz

/-- the items a plain slice picks -/
def pick {α : Type} (xs : List α) (lo hi : Option Int) : List α :=
  (xs.drop (lo.elim 0 (clipAt xs.length))).take (hi.elim xs.length (clipAt xs.length) - lo.elim 0 (clipAt xs.length))

end

end Mine

-- M3
namespace Mine
open PySem PySem.W PySem.Calls PyProof.Rows

variable {cx : Cx} {d : Nat} {env : Env} {ρ : Vars} {st : Store} {pos : Pos}

/-! ### slices of lists and tuples -/
section
variable {prog : Program} {w : World} {A : Around} {E : Value → Shared → Prop} {s : Shared}

theorem sliceApplied_upto {sl : Addr} {b n : Nat} {u : Tok} {Q : Int × Int × Nat → Shared → Prop} (hs : s.heap.IsSliceOf sl .none (.int b u) .none) (hb : b ≤ n) (h : Q ((0 : Int), 1, b) s) :
    wpAny (model prog w) A (Builtin.Slice.sliceApplied (.ref sl) (pure (n : Int))) Q E s := by
  obtain ⟨os, hos, hcs, hds⟩ := id hs
  unfold Builtin.Slice.sliceApplied Builtin.Slice.sliceFields
  refine wpAny_bind (wpAny_bind (wpAny_field hos hds (x := .none) rfl (wpAny_bind (wpAny_field hos hds (x := .int b u) rfl (wpAny_bind (wpAny_field hos hds (x := .none) rfl (wpAny_pure ?_)))))))
  refine wpAny_bind (slicePart_none ?_)
  show wpAny _ _ (if ((1 : Int) == 0) = true then _ else _) _ _ s
  rw [if_neg (by decide)]
  refine wpAny_bind (slicePart_none (wpAny_bind (slicePart_int (wpAny_bind (wpAny_pure ?_)))))
  show wpAny _ _ (match Builtin.Slice.sliceAdjust none (some (b : Int)) 1 (n : Int) with | (lo, hi) => pure (lo, (1 : Int), Builtin.Slice.slicePlaces lo hi 1)) _ _ s
  have e1 : Builtin.Slice.sliceAdjust none (some (b : Int)) 1 (n : Int) = ((0 : Int), (b : Int)) := by
    unfold Builtin.Slice.sliceAdjust
    have h1 : ¬ ((1 : Int) < 0) := by omega
    have h2 : ¬ ((b : Int) < 0) := by omega
    simp only [h1, h2, if_false]
    congr 1
    omega
  have e2 : Builtin.Slice.slicePlaces (0 : Int) (b : Int) 1 = b := by
    unfold Builtin.Slice.slicePlaces
    have h1 : (1 : Int) > 0 := by omega
    simp only [h1, if_true, Int.ediv_one]
    split <;> omega
  rw [e1]
  show wpAny _ _ (pure ((0 : Int), (1 : Int), Builtin.Slice.slicePlaces (0 : Int) (b : Int) 1)) _ _ s
  rw [e2]
  exact wpAny_pure h

theorem pick_upto (xs : Array Value) (b : Nat) : ((List.range b).filterMap fun (k : Nat) => xs[((0 : Int) + (k : Int) * 1).toNat]?).toArray = (xs.toList.take b).toArray := by
  have e : (fun (k : Nat) => xs[((0 : Int) + (k : Int) * 1).toNat]?) = fun k => xs[0 + k]? := by
    funext k
    have : ((0 : Int) + (k : Int) * 1).toNat = 0 + k := by omega
    rw [this]
  rw [e]
  have := pick_run xs 0 b
  rw [List.filterMap_map] at this
  have e2 : ((fun x => xs[x]?) ∘ fun x => 0 + x) = fun k => xs[0 + k]? := rfl
  rw [e2] at this
  rw [this, List.drop_zero]

theorem getItem_tuple_upto {t sl : Addr} {items : Array Value} {b : Nat} {u : Tok} {Q : Value → Shared → Prop} (ht : IsTup s.heap t items) (hs : s.heap.IsSliceOf sl .none (.int b u) .none) (hb : b < items.size)
    (h : Q (.ref s.heap.objs.size) { s with heap := s.heap.push { cls := .type "tuple", data := .seq (items.toList.take b).toArray } })
    (hsz : items.size ≤ sizeLine) : wpAny (model prog w) A (getItem (.ref t) (.ref sl)) Q E s := by
  have htake : sizeOk (.seq (items.toList.take b).toArray) := by
    show (items.toList.take b).toArray.size ≤ sizeLine
    rw [List.size_toArray, List.length_take, Array.length_toList]
    omega
  obtain ⟨os, hos, hcs, hds⟩ := id hs
  have hTs : s.TypeIs (.ref sl) "slice" := ⟨os, hos, hcs⟩
  unfold getItem
  try with_reducible refine wpAny_holding ?_
  first | refine wpAny_bind (wpAny_pure ?_) | skip
  refine wpAny_bind (wpAny_sequenceKey ht.typeIs (by decide) ?_)
  refine wpAny_bind (wpAny_callSpecial?_slot (name := Str.ofString "__getitem__") ht.typeIs slot_tuple_getitem
    (wpAny_call_entry slot_tuple_getitem ht.typeIs entry_tuple_getitem ?_ (args_tuple_getitem _ _)))
  show wpAny _ _ (Builtin.Tuple.tupleItemsOf (.ref t) >>= _) _ _ s
  refine wpAny_bind (tupleItemsOf_ ht ?_)
  refine wpAny_bind (wpAny_typeOf hTs ?_)
  rw [if_pos (by decide)]
  refine wpAny_bind (sliceApplied_upto hs (Nat.le_of_lt hb) ?_)
  have hno : ¬ (((0 : Int) == 0 && (1 : Int) == 1 && b == items.size) = true) := by
    have : (b == items.size) = false := by rw [beq_eq_false_iff_ne]; omega
    rw [this]; simp
  show wpAny _ _ (if ((0 : Int) == 0 && (1 : Int) == 1 && b == items.size) = true then _ else _) _ _ s
  rw [if_neg hno, pick_upto items b]
  first
    | exact wpAny_bind (m := Builtin.Tuple.tupleExact _) (wpAny_newObj_type (wpAny_pure ⟨_, rfl, wpAny_pure h⟩) htake)
    | exact wpAny_bind (m := Builtin.Tuple.tupleExact _) (wpAny_newObj_type (wpAny_bind (wpAny_pure (wpAny_pure ⟨_, rfl, wpAny_pure h⟩))) htake)
    | exact wpAny_bind (wpAny_bind (m := Builtin.Tuple.tupleExact _) (wpAny_newObj_type (wpAny_pure (wpAny_pure ⟨_, rfl, wpAny_pure h⟩)) htake))
    | exact wpAny_bind (wpAny_bind (m := Builtin.Tuple.tupleExact _) (wpAny_newObj_type (wpAny_pure ⟨_, rfl, wpAny_pure h⟩) htake))
end

theorem rd_mono_h {h h' : Heap} {l : List Addr} (hk : h.StaysIn h') : (vw h l).StaysIn (vw h' l) := vw_mono fun b o n e => ⟨hk b o e, n⟩

theorem isList_new {h : Heap} {l : List Addr} {vs : Array Value} (hf : h.objs.size ∉ l) : (vw (h.push { cls := .type "list", data := .seq vs }) l).IsList h.objs.size vs :=
  ⟨_, vw_get.mpr ⟨Heap.get?_push_size _ rfl, hf⟩, rfl, 0, rfl⟩
theorem isTup_new {h : Heap} {l : List Addr} {vs : Array Value} (hf : h.objs.size ∉ l) : IsTup (vw (h.push { cls := .type "tuple", data := .seq vs }) l) h.objs.size vs :=
  ⟨_, vw_get.mpr ⟨Heap.get?_push_size _ rfl, hf⟩, rfl, 0, rfl⟩

section
variable {Post : V → Store → Prop} {PostB : Bool → Store → Prop}

theorem isPart_of {lo : Option Int} {v : Value} (h : partV lo v) : IsPart v lo := by
  cases lo with
  | none => obtain rfl : v = .none := h; exact .none
  | some i => obtain ⟨t, rfl⟩ := h; exact .int i t

theorem pick_rd {g : Heap} {vs : Array Value} {xs : List PyData} {lo hi : Option Int} (r : RdAll g vs.toList xs) : RdAll g (slicePick vs lo hi none).toList (pick xs lo hi) := by
  rw [slicePick_plain]
  have e : vs.size = xs.length := by rw [← Array.length_toList, r.length]
  unfold pick
  rw [e]
  exact (r.drop _).take _

theorem tsl_listAt {value slice : Expr} {xs : List PyData} {lo hi : Option Int} {A : Around} {o al : List Addr} {s : Shared} {a : Addr} {vs : Array Value} {vl vu : Value} (hz : xs.length ≤ sizeLine) (h : Post (.d (.list (pick xs lo hi))) st)
    (hf : ∀ b, s.heap.objs.size ≤ b → b ∉ o ++ al) (ht : s.heap.IsList a vs) (hr : RdAll (vw s.heap (o ++ al)) vs.toList xs) (w1 : partV lo vl) (w2 : partV hi vu)
    {Q : Value → Shared → Prop} {E : Value → Shared → Prop} (k : ∀ val h' tk' r, s.heap.StaysIn h' → VRep cx (vw h' (o ++ al)) al val r → Post r st → Q val { s with heap := h', toks := tk' }) :
    ItemOn (model cx.prog cx.w) A E (.ref a) (.ref s.heap.objs.size) Q { s with heap := s.heap.push { cls := .type "slice", data := .fields #[vl, vu, .none] } } := by
  have ht' : (s.heap.push { cls := .type "slice", data := .fields #[vl, vu, .none] }).IsList a vs := ht.at fun ob e => Heap.get?_push_of_some _ e
  refine ⟨"list", _, slot_list_getitem.lookup, ht'.typeIs, ?_⟩
  refine wpAny_getItem_list_slice ht' (Heap.IsSliceOf.new ..) (isPart_of w1) (isPart_of w2) .none (by simp) ?_ (by rw [← Array.length_toList, hr.length]; exact hz)
  have st1 : s.heap.StaysIn ((s.heap.push { cls := .type "slice", data := .fields #[vl, vu, .none] }).push { cls := .type "list", data := .seq (slicePick vs lo hi none) }) :=
    fun b ob e => Heap.get?_push_of_some _ (Heap.get?_push_of_some _ e)
  refine k _ _ s.toks (.d (.list (pick xs lo hi))) st1 ?_ h
  exact .list (isList_new (hf _ (by rw [Heap.size_push]; exact Nat.le_succ _))) (pick_rd (hr.keeps (rd_mono_h st1)))

theorem tsl_list {value slice : Expr} {xs : List PyData} {lo hi : Option Int} (hz : xs.length ≤ sizeLine) (h : Post (.d (.list (pick xs lo hi))) st) : tsl cx d value slice (.d (.list xs)) lo hi st Post := by
  refine tsl_ofItem fun A o al s va vl vu R ok v1 w1 w2 Q E k => ?_
  obtain ⟨a, vs, rfl, ht, hr⟩ := rd_list v1
  exact tsl_listAt (value := value) (slice := slice) hz h (fun b m => ok.fresh m) (isList_of_vw ht) hr w1 w2 k
theorem tsl_cell {value slice : Expr} {n : Nat} {xs : List PyData} {lo hi : Option Int} (e : st[n]? = some (.live xs)) (hz : xs.length ≤ sizeLine) (h : Post (.d (.list (pick xs lo hi))) st) : tsl cx d value slice (.c n) lo hi st Post := by
  refine tsl_ofItem fun A o al s va vl vu R ok v1 w1 w2 Q E k => ?_
  obtain ⟨a, vs, _, rfl, ht, hr⟩ := ok.cell v1 e
  exact tsl_listAt (value := value) (slice := slice) hz h (fun b m => ok.fresh m) ht hr w1 w2 k
theorem tsl_tupleUpto {value slice : Expr} {xs : List PyData} {b : Nat} (hb : b < xs.length) (hz : xs.length ≤ sizeLine) (h : Post (.d (.tuple (xs.take b))) st) : tsl cx d value slice (.d (.tuple xs)) none (some (b : Int)) st Post := by
  refine tsl_ofItem fun A o al s va vl vu R ok v1 w1 w2 Q E k => ?_
  obtain ⟨a, vs, rfl, ht, hr⟩ := rd_tuple v1
  obtain rfl : vl = .none := w1
  obtain ⟨u, rfl⟩ := w2
  have ht' : IsTup (s.heap.push { cls := .type "slice", data := .fields #[.none, .int b u, .none] }) a vs := (isTup_of_vw ht).push _
  have hl : vs.size = xs.length := by rw [← Array.length_toList, hr.length]
  refine ⟨"tuple", _, slot_tuple_getitem.lookup, ht'.typeIs, ?_⟩
  refine getItem_tuple_upto ht' (Heap.IsSliceOf.new ..) (by rw [hl]; exact hb) ?_ (by rw [hl]; exact hz)
  have st1 : s.heap.StaysIn ((s.heap.push { cls := .type "slice", data := .fields #[.none, .int b u, .none] }).push { cls := .type "tuple", data := .seq (vs.toList.take b).toArray }) :=
    fun b ob e => Heap.get?_push_of_some _ (Heap.get?_push_of_some _ e)
  refine k _ _ s.toks (.d (.tuple (xs.take b))) st1 ?_ h
  exact .tuple (isTup_new (ok.fresh (by rw [Heap.size_push]; exact Nat.le_succ _))) (by rw [List.toList_toArray]; exact (hr.keeps (rd_mono_h st1)).take b)

/-! ### displays -/
def plainArgs : List Expr → Bool
  | [] => true
  | .Starred _ _ :: _ => false
  | _ :: r => plainArgs r
def tes (cx : Cx) (d : Nat) (env : Env) (ρ : Vars) : List Expr → Store → (List V → Store → Prop) → Prop
  | [], st, P => P [] st
  | e :: r, st, P => te cx d env ρ st e fun v st₁ => tes cx d env ρ r st₁ fun vs st₂ => P (v :: vs) st₂

theorem starEach_plain {e : Expr} {r : List Expr} {env : Env} (hp : plainArgs (e :: r) = true) : starEach (e :: r) env = (false, eval e env) :: starEach r env ∧ plainArgs r = true := by
  cases e <;> first | exact ⟨rfl, hp⟩ | cases hp

theorem tes_run {A : Around} {hx : List Addr} {E : Value → Shared → Prop} (R : Room A d) : ∀ (es : List Expr) {st : Store} {P : List V → Store → Prop} (al : List Addr) (s : Shared) (Q : List Value → Shared → Prop), plainArgs es = true → tes cx d env ρ es st P → At cx env hx al ρ st s.heap s.toks →
    (∀ xs st' vals al' h' tk', Nx cx (ow env hx) al al' st' s.heap h' tk' → VRepAll cx (vw h' (ow env hx ++ (al ++ al'))) (al ++ al') vals xs → P xs st' → Q vals { s with heap := h', toks := tk' }) →
    wpAny (model cx.prog cx.w) A (spliced (backTo pos (starEach es env))) Q E s
  | [], st, P, al, s, Q, hp, h, a, k => spliced_nil (k [] st [] [] s.heap s.toks (Nx.refl a.ok) .nil h)
  | e :: r, st, P, al, s, Q, hp, h, a, k => by
    obtain ⟨e1, e2⟩ := starEach_plain (env := env) hp
    rw [e1]
    refine spliced_cons (h A hx al s R a _ E fun x st₁ va al₁ h₁ tk₁ n₁ v₁ p₁ => ?_)
    refine tes_run R r (al ++ al₁) _ _ e2 p₁ (a.next n₁) fun xs st' vals al' h' tk' n v p => ?_
    exact k (x :: xs) st' (va :: vals) (al₁ ++ al') h' tk' (n₁.trans n) (by rw [← List.append_assoc al]; exact .cons (v₁.mono n.vw) v) p

def datas : List V → Option (List PyData)
  | [] => some []
  | .d x :: r => (datas r).map (x :: ·)
  | _ :: _ => none
theorem rdAll_of {g : Heap} {al : List Addr} {vals : List Value} {xs : List V} {ds : List PyData} (h : VRepAll cx g al vals xs) (e : datas xs = some ds) : RdAll g vals ds := by
  induction h generalizing ds with
  | nil => cases e; exact .nil
  | @cons v vs x xs hx hr ih =>
    cases x with
    | d y =>
      simp only [datas] at e
      cases q : datas xs with
      | none => rw [q] at e; cases e
      | some es => rw [q] at e; cases e; exact .cons hx (ih q)
    | c n => cases e
    | hdr n => cases e
    | ext v => cases e
    | rng a b => cases e

theorem te_tuple {es : List Expr} {n : Nat} (hp : plainArgs es = true) (h : tes cx d env ρ es st fun xs st₁ => ∃ ds, datas xs = some ds ∧ ds.length ≤ sizeLine ∧ Post (.d (.tuple ds)) st₁) : te cx d env ρ st (.Tuple es n pos) Post := by
  intro A hx al s R a Q E k
  refine Tuple_ (tes_run R es al s _ hp h a fun xs st' vals al' h' tk' n v p => ?_)
  obtain ⟨ds, e, hz, p⟩ := p
  have r := rdAll_of v e
  refine wpAny_newTuple ?_ (by rw [r.length]; exact hz)
  refine plain_k n.ok (lift_k (A := A) n k) _ _ tk' (.d (.tuple ds)) (Nat.le_refl _) (stays_push _ _) (.tuple (isTup_new (n.ok.fresh (Nat.le_refl _))) ?_) p
  exact r.keeps (rd_mono_h (stays_push _ _))
theorem te_list {es : List Expr} (hp : plainArgs es = true) (h : tes cx d env ρ es st fun xs st₁ => ∃ ds, datas xs = some ds ∧ ds.length ≤ sizeLine ∧ Post (.d (.list ds)) st₁) : te cx d env ρ st (.List es pos) Post := by
  intro A hx al s R a Q E k
  refine List_ (tes_run R es al s _ hp h a fun xs st' vals al' h' tk' n v p => ?_)
  obtain ⟨ds, e, hz, p⟩ := p
  have r := rdAll_of v e
  refine wpAny_newList ?_ (by rw [r.length]; exact hz)
  refine plain_k n.ok (lift_k (A := A) n k) _ _ tk' (.d (.list ds)) (Nat.le_refl _) (stays_push _ _) (.list (isList_new (n.ok.fresh (Nat.le_refl _))) ?_) p
  exact r.keeps (rd_mono_h (stays_push _ _))

/-! ### calls -/
theorem keeps_any {M : Model} {h : Heap} {v : Value} (hv : ∀ a, v ≠ .ref a) : ∃ k, (k = Keeper.frame ∨ k = Keeper.machine ∨ k = Keeper.boundFrame) ∧ Looks M h (keeperOf v) k := by
  refine ⟨.machine, .inr (.inl rfl), Looks.of_pure ?_⟩
  unfold keeperOf
  cases v <;> first | rfl | exact absurd rfl (hv _)

/-- a callee that the call leaves to itself -/
def calm (K : Frag) (v : Value) : Bool := match v with
  | .ref _ => keepIn K v
  | _ => true
theorem keeps_calm {M : Model} {K : Frag} {v : Value} (hc : calm K v = true) (h : Heap) (X : K.In h) : ∃ k, (k = Keeper.frame ∨ k = Keeper.machine ∨ k = Keeper.boundFrame) ∧ Looks M h (keeperOf v) k := by
  cases v with
  | ref a => exact keeps_K (K := K) (f := .ref a) hc h X
  | _ => exact keeps_any (by intro a e; cases e)

theorem Ok.K {o al : List Addr} {h : Heap} {tk : Nat} (ok : Ok cx o al st h tk) : cx.K.In h := cx.X.keeps fun b o e => (vw_get.mp (ok.base b o e)).1

theorem callWith_run {A : Around} {E : Value → Shared → Prop} {Q : Value → Shared → Prop} {hx al : List Addr} {s : Shared} {fv : Value} {firsts : List Value} {xs₀ : List V} {es : List Expr} (R : Room A d) (hp : plainArgs es = true) (hc : calm cx.K fv = true)
    (a : At cx env hx al ρ st s.heap s.toks) (hv : VRepAll cx (vw s.heap (ow env hx ++ al)) al firsts xs₀) (h : tes cx d env ρ es st fun xs st₁ => tcall cx d (.ext fv) (xs₀ ++ xs) [] st₁ Post)
    (k : ∀ r st' val al' h' tk', Nx cx (ow env hx) al al' st' s.heap h' tk' → VRep cx (vw h' (ow env hx ++ (al ++ al'))) (al ++ al') val r → Post r st' → Q val { s with heap := h', toks := tk' }) :
    wpAny (model cx.prog cx.w) A (callWith pos fv firsts (backTo pos (starEach es env)) []) Q E s := by
  have app : ∀ {g : Heap} {al : List Addr} {vs ws : List Value} {xs ys : List V}, VRepAll cx g al vs xs → VRepAll cx g al ws ys → VRepAll cx g al (vs ++ ws) (xs ++ ys) := by
    intro g al vs ws xs ys h1 h2
    induction h1 with
    | nil => exact h2
    | cons h _ ih => exact .cons h ih
  have stars : (backTo pos (starEach es env)).any (·.1) = false := by
    clear h
    induction es with
    | nil => rfl
    | cons e r ih =>
      obtain ⟨e1, e2⟩ := starEach_plain (env := env) hp
      rw [e1]
      exact ih e2
  have step : ∀ xs st' vals al' h' tk', Nx cx (ow env hx) al al' st' s.heap h' tk' → VRepAll cx (vw h' (ow env hx ++ (al ++ al'))) (al ++ al') vals xs → tcall cx d (.ext fv) (xs₀ ++ xs) [] st' Post →
      cx.K.In h' ∧ wpAny (model cx.prog cx.w) A (call fv (firsts ++ vals) []) Q E { s with heap := h', toks := tk' } := by
    intro xs st' vals al' h' tk' n v p
    refine ⟨n.ok.K, p A (ow env hx) _ _ fv _ [] R n.ok rfl (app (hv.mono n.vw) v) rfl .nil Q E (lift_k (A := A) n k)⟩
  refine callWith_of (P := fun h => cx.K.In h) (by rw [stars]; rfl) (keeps_calm hc) ?_
  cases es with
  | nil =>
    refine evalArgs_nil3 ?_
    exact step [] st [] [] s.heap s.toks (Nx.refl a.ok) .nil h
  | cons e r =>
    have sp := tes_run (pos := pos) (E := E) R (e :: r) al s (fun vals s' => cx.K.In s'.heap ∧ wpAny (model cx.prog cx.w) A (call fv (firsts ++ vals) []) Q E s') hp h a step
    obtain ⟨e1, e2⟩ := starEach_plain (env := env) hp
    rw [e1] at sp ⊢
    exact evalArgs_plain sp

theorem te_call {f : Expr} {es : List Expr} (hp : plainArgs es = true)
    (h : te cx d env ρ st f fun fv st₁ => ∃ v, fv = .ext v ∧ calm cx.K v = true ∧ tes cx d env ρ es st₁ fun xs st₂ => tcall cx d (.ext v) xs [] st₂ Post)
    (he : eval (.Call f es [] pos) env = (do callWith pos (← eval f env) [] (backTo pos (starEach es env)) (backToKw pos (keywordEach [] env))) := by rfl) : te cx d env ρ st (.Call f es [] pos) Post := by
  intro A hx al s R a Q E k
  refine Call_ (h A hx al s R a _ E fun x st₁ va al₁ h₁ tk₁ n₁ v₁ p₁ => ?_) he
  obtain ⟨v, rfl, hc, p⟩ := p₁
  obtain rfl : va = v := v₁
  exact callWith_run (xs₀ := []) R hp hc (a.next n₁) .nil p (lift_k (A := A) n₁ k)

theorem Ok.raise {o al : List Addr} {h : Heap} {tk tk' : Nat} (x : Ok cx o al st h tk) (l : tk ≤ tk') : Ok cx o al st h tk' := ⟨Nat.lt_of_lt_of_le x.tok l, x.base, x.nd, x.own, x.st⟩
theorem Nx.raise {o al al' : List Addr} {h h' : Heap} {tk tk' : Nat} (x : Nx cx o al al' st h h' tk) (l : tk ≤ tk') : Nx cx o al al' st h h' tk' := ⟨x.ok.raise l, x.fr, x.vw⟩
theorem At.raise {hx al : List Addr} {h : Heap} {tk tk' : Nat} (x : At cx env hx al ρ st h tk) (l : tk ≤ tk') : At cx env hx al ρ st h tk' := ⟨x.ok.raise l, x.fn, x.gl, x.bi, x.vars⟩

/-- the method of a value -/
def tgm (cx : Cx) (d : Nat) (a : V) (name : PySem.Str) (f : Value) (first : List V) (st : Store) : Prop :=
  ∀ (A : Around) (o al : List Addr) (s : Shared) (va : Value) (pl : Sem Bool), Room A d → Ok cx o al st s.heap s.toks → VRep cx (vw s.heap (o ++ al)) al va a →
    ∀ (Q : Value × List Value → Shared → Prop) (E : Value → Shared → Prop), (∀ fs tk, s.toks ≤ tk → VRepAll cx (vw s.heap (o ++ al)) al fs first → Q (f, fs) { s with toks := tk }) → wpAny (model cx.prog cx.w) A (getMethod va name pl) Q E s

theorem te_meth {ob : Expr} {name : PySem.Str} {es : List Expr} {apos : Pos} (hp : plainArgs es = true)
    (h : te cx d env ρ st ob fun v st₁ => ∃ f first, calm cx.K f = true ∧ tgm cx d v name f first st₁ ∧ tes cx d env ρ es st₁ fun xs st₂ => tcall cx d (.ext f) (first ++ xs) [] st₂ Post)
    (hbase : attributeBase ob name env (eval ob env) = eval ob env := by rfl) (hline : (apos.endLine == pos.line) = true := by rfl)
    (hfew : decide (es.length < 30) = true := by rfl) : te cx d env ρ st (.Call (.Attribute ob name apos) es [] pos) Post := by
  intro A hx al s R a Q E k
  have hform : methodCallForm (es.length + ([] : List Keyword).length) (backTo pos (starEach es env)) (backToKw pos (keywordEach [] env)) = true := by
    have h2 : (backTo pos (starEach es env)).all (fun x => !x.1) = true := by
      clear h hfew
      induction es with
      | nil => rfl
      | cons e r ih =>
        obtain ⟨e1, e2⟩ := starEach_plain (env := env) hp
        rw [e1]
        exact ih e2
    unfold methodCallForm
    rw [h2]
    have h3 : es.length < 30 := of_decide_eq_true hfew
    simp [backToKw, keywordEach, h3]
  have hpos : methodCallPos true ob env apos pos = pure pos := by unfold methodCallPos; simp [hline]
  rw [arm_eval_Call, hbase]
  refine wpAny_bind (h A hx al s R a _ E fun x st₁ va al₁ h₁ tk₁ n₁ v₁ p₁ => ?_)
  obtain ⟨f, first, hc, hg, ht⟩ := p₁
  refine wpAny_bind (wpAny_standAt ?_)
  unfold methodCall
  rw [hform]
  refine wpAny_bind (wpAny_holding ?_)
  refine hg A (ow env hx) _ _ va _ R n₁.ok v₁ _ E fun fs tk htk hfs => ?_
  refine wpAny_bind (wpAny_of_eq hpos ?_)
  exact callWith_run (s := { s with heap := h₁, toks := tk }) R hp hc ((a.next n₁).raise htk) hfs ht (lift_k (A := A) (n₁.raise htk) k)
end

end Mine

-- M4
namespace Mine
open PySem PySem.W PySem.Calls PyProof.Rows

variable {cx : Cx} {d : Nat} {env : Env} {ρ : Vars} {st : Store} {pos : Pos}

/-! ### a call of a def -/
theorem bindL_keep {ko : PySem.Str → Option NameKind} {x : PySem.Str} : ∀ {binds : List (PySem.Str × Value)} {m : PySem.Str → Option Value}, x ∉ binds.map (·.1) → bindL ko binds m x = m x
  | [], m, _ => rfl
  | (n, v) :: r, m, h => by
    have h1 : x ≠ n := fun e => h (by rw [e]; exact List.mem_map.mpr ⟨(n, v), .head _, rfl⟩)
    have h2 : x ∉ r.map (·.1) := fun q => h (by rw [List.map_cons]; exact .tail _ q)
    unfold bindL
    rw [bindL_keep h2]
    split
    · exact if_neg h1
    · rfl
theorem bindC_keep {ko : PySem.Str → Option NameKind} {x : PySem.Str} : ∀ {binds : List (PySem.Str × Value)} {m : PySem.Str → Option Value}, x ∉ binds.map (·.1) → bindC ko binds m x = m x
  | [], m, _ => rfl
  | (n, v) :: r, m, h => by
    have h1 : x ≠ n := fun e => h (by rw [e]; exact List.mem_map.mpr ⟨(n, v), .head _, rfl⟩)
    have h2 : x ∉ r.map (·.1) := fun q => h (by rw [List.map_cons]; exact .tail _ q)
    unfold bindC
    rw [bindC_keep h2]
    split
    · rfl
    · exact if_neg h1
theorem bindL_get {ko : PySem.Str → Option NameKind} {x : PySem.Str} {v : Value} (hk : ko x = some .local) : ∀ {binds : List (PySem.Str × Value)} {m : PySem.Str → Option Value}, (binds.map (·.1)).Nodup → (x, v) ∈ binds → bindL ko binds m x = some v
  | (n, u) :: r, m, hn, hm => by
    rw [List.map_cons, List.nodup_cons] at hn
    unfold bindL
    rcases List.mem_cons.mp hm with e | hm
    · cases e
      rw [bindL_keep hn.1, if_pos hk]
      exact if_pos rfl
    · exact bindL_get hk hn.2 hm
theorem bindC_get {ko : PySem.Str → Option NameKind} {x : PySem.Str} {v : Value} (hk : ko x ≠ some .local) : ∀ {binds : List (PySem.Str × Value)} {m : PySem.Str → Option Value}, (binds.map (·.1)).Nodup → (x, v) ∈ binds → bindC ko binds m x = some v
  | (n, u) :: r, m, hn, hm => by
    rw [List.map_cons, List.nodup_cons] at hn
    unfold bindC
    rcases List.mem_cons.mp hm with e | hm
    · cases e
      rw [bindC_keep hn.1, if_neg hk]
      exact if_pos rfl
    · exact bindC_get hk hn.2 hm

theorem VRepAll.length {g : Heap} {al : List Addr} {vs : List Value} {xs : List V} (h : VRepAll cx g al vs xs) : vs.length = xs.length := by
  induction h with
  | nil => rfl
  | cons _ _ ih => simp [ih]
theorem VRepAll.zip {g : Heap} {al : List Addr} {vs : List Value} {xs : List V} (h : VRepAll cx g al vs xs) : ∀ {names : List PySem.Str} {x : PySem.Str} {v : V}, (names.zip xs).lookup x = some v → ∃ val, (x, val) ∈ names.zip vs ∧ VRep cx g al val v := by
  induction h with
  | nil => intro names x v e; simp at e
  | cons hx hr ih =>
    intro names x v e
    cases names with
    | nil => simp at e
    | cons n names =>
      rw [List.zip_cons_cons, List.lookup_cons] at e
      cases hb : x == n with
      | true => rw [hb] at e; cases e; rw [eq_of_beq hb]; exact ⟨_, by rw [List.zip_cons_cons]; exact .head _, hx⟩
      | false => rw [hb] at e; obtain ⟨val, m, r⟩ := ih e; exact ⟨val, by rw [List.zip_cons_cons]; exact .tail _ m, r⟩
theorem VRepAll.app {g : Heap} {al : List Addr} {vs ws : List Value} {xs ys : List V} (h1 : VRepAll cx g al vs xs) (h2 : VRepAll cx g al ws ys) : VRepAll cx g al (vs ++ ws) (xs ++ ys) := by
  induction h1 with
  | nil => exact h2
  | cons h _ ih => exact .cons h ih

/-- what a def hands back: lists of its own are given away -/
def fin (n : Nat) (st : Store) : Fl → Option V
  | .ret (.d x) => some (.d x)
  | .ret (.c m) => if m < n then some (.c m) else match st[m]? with | some (.live xs) => some (.d (.list xs)) | _ => none
  | .ret (.ext v) => some (.ext v)
  | .ret (.hdr _) => none
  | .ret (.rng _ _) => none
  | .next => some (.d .none)
  | _ => none

theorem rd_out {h : Heap} {o o' al al' : List Addr} (own : ∀ a ∈ o, ∃ ob, h.get? a = some ob ∧ ¬ SeqObj ob) {b : Addr} {ob : Obj} (hs : SeqObj ob) (e : (vw h (o' ++ (al ++ al'))).get? b = some ob) : (vw h (o ++ al)).get? b = some ob := by
  obtain ⟨e1, e2⟩ := vw_get.mp e
  refine vw_get.mpr ⟨e1, fun m => ?_⟩
  rcases List.mem_append.mp m with m | m
  · obtain ⟨ob', q1, q2⟩ := own b m
    rw [e1] at q1
    cases q1
    exact q2 hs
  · exact e2 (List.mem_append.mpr (.inr (List.mem_append.mpr (.inl m))))

theorem mem_zip_fst {α β : Type} {names : List α} {vs : List β} {p : α × β} (h : p ∈ names.zip vs) : p.1 ∈ names := by
  obtain ⟨a, b⟩ := p
  exact (List.of_mem_zip h).1

theorem zip_fst_nodup {α β : Type} : ∀ {names : List α} {vs : List β}, names.Nodup → ((names.zip vs).map (·.1)).Nodup
  | [], _, _ => by simp
  | _ :: _, [], _ => by simp
  | n :: names, v :: vs, h => by
    rw [List.nodup_cons] at h
    rw [List.zip_cons_cons, List.map_cons, List.nodup_cons]
    refine ⟨fun m => ?_, zip_fst_nodup h.2⟩
    obtain ⟨p, hp, e⟩ := List.mem_map.mp m
    have := mem_zip_fst hp
    rw [e] at this
    exact h.1 this

/-- how a def binds what it is handed: `names` in their order, the values handed by place, by name, and those of the text -/
def Binds (cx : Cx) (fd : FuncData) (np : Nat) (kn : List PySem.Str) (names : List PySem.Str) (ex : List Value) : Prop :=
  ∀ (s : Shared) (vals : List Value) (ks : List (PySem.Str × Value)), cx.K.In s.heap → vals.length = np → ks.map (·.1) = kn → BindsTo s fd ⟨vals, ks⟩ (names.zip (vals ++ (ks.map (·.2) ++ ex)))

section
variable {Post : V → Store → Prop}
theorem tcall_def {f : Addr} {oc : Value} {od : Option Addr} {osl : Array (Option Value)} {name qual : PySem.Str} {params : Arguments} {body : List Stmt} {scope : Scope} {dV kV doc pm cdv ct : Value} {an : Option Addr}
    {xs : List V} {kw : List (PySem.Str × V)} {ex : List Value} {exV : List V} {names : List PySem.Str}
    (ho : cx.K.lookup f = some ⟨oc, od, .func (fnOf name qual params body scope dV kV doc pm an cdv ct), osl⟩) (hcd : codeIn cx.K cdv qual = true)
    (hbind : Binds cx (fnOf name qual params body scope dV kV doc pm an cdv ct) xs.length (kw.map (·.1)) names ex) (hex : ∀ g al, VRepAll cx g al ex exV)
    (hco : scope.isCoroutine = false) (hgen : scope.isGenerator = false) (hk : scope.kind = .function)
    (hnames : (names.all fun y => scope.names.lookup y == some .local || scope.names.lookup y == some .cell) = true) (hnn : names.Nodup)
    (hnd : ((cellsFrom 0 scope.names []).map (·.1)).Nodup)
    (h : ∀ L, tb cx d (envOfC qual scope L f cdv) (names.zip (xs ++ (kw.map (·.2) ++ exV))) st body fun fl _ st' => ∃ r, fin st.length st' fl = some r ∧ Post r (st'.take st.length)) :
    tcall cx (d + 1) (.ext (.ref f)) xs kw st Post := by
  intro A o al s fv vs ks R ok hf hv hkn hks Q E k
  obtain rfl : fv = .ref f := hf
  have hvl := hv.length
  have hbase : ∀ b ob, cx.base.get? b = some ob → s.heap.get? b = some ob := fun b ob e => (vw_get.mp (ok.base b ob e)).1
  have KI : cx.K.In s.heap := ok.K
  have all := hv.app (hks.app (hex (vw s.heap (o ++ al)) al))
  refine wpAny_call (codeAny_call_function (by have := R.dp; omega) (KI _ _ ho) rfl hco hgen rfl (codeRec_of KI hcd) (hbind s vs ks KI hvl hkn _ _ _ _ ?_))
  have hlk : ∀ n, scope.names.lookup n = some .cell → ((cellsFrom (s.heap.objs.size + 1) scope.names []).lookup n).isSome = true := by
    intro n e
    exact (cellsFrom_some scope.names (s.heap.objs.size + 1) [] (.inl e))
  show wpAny _ _ (newFunctionEnv scope mainGlobals [] (names.zip (vs ++ (ks.map (·.2) ++ ex))) (qual ++ Str.ofString ".<locals>.") (some f) cdv none builtinsNs) _ _ s
  refine wpAny_with_toks (n := s.toks) (Nat.le_refl _) (wpAny_newFunctionEnv_cells hk (fun y hy => ?_) fun env' he s' x htk => ?_)
  · have := List.all_eq_true.mp hnames y.1 (mem_zip_fst hy)
    rcases Bool.or_eq_true_iff.mp this with q | q
    · exact .inl (by simpa using q)
    · have q' : scope.names.lookup y.1 = some .cell := by simpa using q
      exact .inr ⟨q', hlk y.1 q'⟩
  · have hnd' : ((cellsFrom (s.heap.objs.size + 1) scope.names []).map (·.1)).Nodup := cellsFrom_names scope.names 0 (s.heap.objs.size + 1) [] [] rfl ▸ hnd
    have he' : env' = envOfC qual scope s.heap.objs.size f cdv := he
    clear he
    subst he'
    have keep := x.toInCall.keep
    have hge : ∀ a ∈ ow (envOfC qual scope s.heap.objs.size f cdv) [], s.heap.objs.size ≤ a := by
      intro a ha
      rcases List.mem_cons.mp ha with rfl | ha
      · exact Nat.le_refl _
      · obtain ⟨p, hp, rfl⟩ := List.mem_map.mp (by rwa [List.append_nil] at ha)
        exact Nat.le_of_lt (x.above p.1 p.2 hp)
    have hown : ∀ b ob, s.heap.get? b = some ob → b ∉ o ++ al → s'.heap.get? b = some ob ∧ b ∉ ow (envOfC qual scope s.heap.objs.size f cdv) [] ++ al := by
      intro b ob e hn
      refine ⟨keep b ob e, fun m => ?_⟩
      rcases List.mem_append.mp m with m | m
      · exact absurd (Heap.lt_size e) (Nat.not_lt.mpr (hge b m))
      · exact hn (List.mem_append.mpr (.inr m))
    have view : (vw s.heap (o ++ al)).StaysIn (vw s'.heap (ow (envOfC qual scope s.heap.objs.size f cdv) [] ++ al)) := vw_mono fun b ob n e => hown b ob e n
    have nda := List.nodup_append.mp ok.nd
    have ok' : Ok cx (ow (envOfC qual scope s.heap.objs.size f cdv) []) al st s'.heap s'.toks := by
      refine ⟨Nat.lt_of_lt_of_le ok.tok htk, fun b ob e => view b ob (ok.base b ob e), ?_, ?_, ok.st.1, fun i a ys e1 e2 => ?_⟩
      · refine List.nodup_append.mpr ⟨?_, nda.2.1, fun a ha b hb e => ?_⟩
        · refine List.nodup_cons.mpr ⟨fun m => ?_, ?_⟩
          · obtain ⟨p, hp, e⟩ := List.mem_map.mp (by rwa [List.append_nil] at m)
            exact absurd (x.above p.1 p.2 hp) (by rw [e]; exact Nat.lt_irrefl _)
          · rw [List.append_nil]
            exact List.pairwise_map.mpr (x.apart.imp fun q => q)
        · have h1 := hge a ha
          have h2 := ok.lt (List.mem_append.mpr (.inr hb))
          rw [e] at h1
          exact absurd h2 (Nat.not_lt.mpr h1)
      · intro a ha
        rcases List.mem_cons.mp ha with rfl | ha
        · obtain ⟨ob, es, ep, q1, q2, _⟩ := x.toInCall.ns
          exact ⟨ob, q1, fun ⟨vs, n, q⟩ => by rw [q2] at q; cases q⟩
        · obtain ⟨p, hp, rfl⟩ := List.mem_map.mp (by rwa [List.append_nil] at ha)
          obtain ⟨ob, q1, q2⟩ := x.cell p.1 p.2 (lookup_of_mem_nodup hnd' hp)
          exact ⟨ob, q1, fun ⟨vs, n, q⟩ => by rw [q2] at q; cases q⟩
      · exact (ok.st.2 i a ys e1 e2).mono (fun ob q => keep _ _ q) view
    have at0 : At cx (envOfC qual scope s.heap.objs.size f cdv) [] al (names.zip (xs ++ (kw.map (·.2) ++ exV))) st s'.heap s'.toks := by
      refine ⟨ok', hk, rfl, rfl, _, _, x.toInCall.ns, x.cell, fun y v e => ?_⟩
      obtain ⟨val, m, r⟩ := all.zip e
      refine ⟨val, by have := r.mono (al' := []) view; rwa [List.append_nil] at this, ?_⟩
      have hn := List.all_eq_true.mp hnames y (mem_zip_fst m)
      have hnd2 : ((names.zip (vs ++ (ks.map (·.2) ++ ex))).map (·.1)).Nodup := zip_fst_nodup hnn
      rcases Bool.or_eq_true_iff.mp hn with q | q
      · have q1 : scope.names.lookup y = some .local := by simpa using q
        have q' : (envOfC qual scope s.heap.objs.size f cdv).kindOf y = some .local := q1
        exact .inl ⟨q', bindL_get q' hnd2 m⟩
      · have q1 : scope.names.lookup y = some .cell := by simpa using q
        have q' : (envOfC qual scope s.heap.objs.size f cdv).kindOf y = some .cell := q1
        exact .inr ⟨.inl q', hlk y q1, bindC_get (by rw [q']; decide) hnd2 m⟩
    obtain ⟨h₁, tk₁, es'⟩ := x.toInCall.same
    refine ⟨(cx.T.nolimit.keeps fun b ob e => keep b ob (hbase b ob e)), codeAny_func ?_⟩
    have R' : Room (A.deeper (envOfC qual scope s.heap.objs.size f cdv)) d := ⟨R.hd, by have := R.dp; show A.depth + 1 + 4 * d + 8 < recursionLimit; omega, by have := R.un; show A.units + 3 + 20 * d + 200 < cLine; omega⟩
    refine h s.heap.objs.size _ [] al s' _ _ R' at0 fun fl ρ' st' fw al' h' tk' n w p => ?_
    obtain ⟨r, hr, hp⟩ := p
    have okc := n.at'.ok
    -- what stood before the call stands
    have out : ∀ b ob, s.heap.get? b = some ob → b ∉ o ++ al → h'.get? b = some ob := by
      intro b ob e hn
      obtain ⟨q1, q2⟩ := hown b ob e hn
      exact (vw_get.mp (n.vw b ob (vw_get.mpr ⟨q1, q2⟩))).1
    have fr : ∀ a ∈ o, ∀ ob, s.heap.get? a = some ob → h'.get? a = some ob := by
      intro a ha ob e
      have hna : a ∉ al := fun m => (nda.2.2 a ha a m) rfl
      have q1 := keep a ob e
      have q2 : a ∉ ow (envOfC qual scope s.heap.objs.size f cdv) [] ++ al := fun m => by
        rcases List.mem_append.mp m with m | m
        · exact absurd (Heap.lt_size e) (Nat.not_lt.mpr (hge a m))
        · exact hna m
      exact (vw_get.mp (n.vw a ob (vw_get.mpr ⟨q1, q2⟩))).1
    have own' : ∀ a ∈ o, ∃ ob, h'.get? a = some ob ∧ ¬ SeqObj ob := fun a ha => let ⟨ob, q1, q2⟩ := ok.own a ha; ⟨ob, fr a ha ob q1, q2⟩
    have view' : (vw s.heap (o ++ al)).StaysIn (vw h' (o ++ al)) := vw_mono fun b ob hn e => ⟨out b ob e hn, hn⟩
    have hlen : al.length = (st'.take st.length).length := by
      rw [List.length_take, ok.st.1, Nat.min_eq_left]
      have := okc.st.1
      rw [List.length_append, ok.st.1] at this
      omega
    have nx : Nx cx o al [] (st'.take st.length) s.heap h' tk' := by
      refine ⟨?_, fr, by rw [List.append_nil]; exact view'⟩
      rw [List.append_nil]
      refine ⟨okc.tok, fun b ob e => view' b ob (ok.base b ob e), ok.nd, own', hlen, fun i a ys e1 e2 => ?_⟩
      have hi : i < st.length := ok.st.1 ▸ (List.getElem?_eq_some_iff.mp e1).1
      have e2' : st'[i]? = some ys := by rw [List.getElem?_take, if_pos hi] at e2; exact e2
      exact (okc.st.2 i a ys (getElem?_append_some e1) e2').on (fun _ q => q) fun b ob hs e => rd_out own' hs e
    have rep : ∀ {x : PyData} {v : Value}, Rd (vw h' (ow (envOfC qual scope s.heap.objs.size f cdv) [] ++ (al ++ al'))) v x → Rd (vw h' (o ++ (al ++ []))) v x := by
      intro x v r
      rw [List.append_nil]
      exact r.on fun b ob hs e => rd_out own' hs e
    have key : ∀ val, VRep cx (vw h' (o ++ (al ++ []))) (al ++ []) val r → Q val { s with heap := h', toks := tk' } := fun val hv => k r _ val [] h' tk' nx hv hp
    have es'' : ({ s' with heap := h', toks := tk' } : Shared) = { s with heap := h', toks := tk' } := by rw [es']
    rw [es'']
    cases fl with
    | next =>
      cases hr
      cases fw with
      | next => exact key .none .none
      | _ => exact w.elim
    | brk => cases hr
    | cont => cases hr
    | ret v =>
      cases fw with
      | ret u =>
        have w' : VRep cx (vw h' (ow (envOfC qual scope s.heap.objs.size f cdv) [] ++ (al ++ al'))) (al ++ al') u v := w
        cases v with
        | d y => cases hr; exact key u (rep w')
        | ext y => cases hr; exact key u w'
        | hdr m => cases hr
        | rng _ _ => cases hr
        | c m =>
          obtain ⟨a, e1, rfl⟩ := w'
          have hr' : (if m < st.length then some (V.c m) else match st'[m]? with | some (.live xs) => some (V.d (.list xs)) | _ => none) = some r := hr
          by_cases hm : m < st.length
          · rw [if_pos hm] at hr'
            cases hr'
            refine key (.ref a) ⟨a, ?_, rfl⟩
            rw [List.getElem?_append_left (by rw [ok.st.1]; exact hm)] at e1
            rw [List.append_nil]; exact e1
          · rw [if_neg hm] at hr'
            cases q : st'[m]? with
            | none => rw [q] at hr'; cases hr'
            | some cc =>
              rw [q] at hr'
              cases cc with
              | fixed o => cases hr'
              | live ys =>
              cases hr'
              obtain ⟨vs', ⟨ob, l1, l2, nn, l3, _⟩, rr⟩ : CellOk _ _ _ (.live ys) := okc.st.2 m a _ e1 q
              refine key (.ref a) (.list ⟨ob, ?_, l2, nn, l3⟩ ?_)
              · rw [List.append_nil]
                refine vw_get.mpr ⟨l1, fun mm => ?_⟩
                rcases List.mem_append.mp mm with mm | mm
                · obtain ⟨ob', q1, q2⟩ := own' a mm
                  rw [l1] at q1
                  cases q1
                  exact q2 ⟨_, _, l3⟩
                · -- the list is the def's own
                  have ndc := (List.nodup_append.mp okc.nd).2.1
                  obtain ⟨i, hi, e⟩ := List.getElem_of_mem mm
                  have hi' : i < (al ++ al').length := by rw [List.length_append]; omega
                  have e3 : (al ++ al')[i]? = some a := getElem?_append_some (by rw [List.getElem?_eq_getElem hi, e])
                  have hm' := (List.getElem?_eq_some_iff.mp e1)
                  have hi'' := (List.getElem?_eq_some_iff.mp e3)
                  have : i = m := (List.getElem_inj ndc).mp (hi''.2.trans hm'.2.symm)
                  rw [ok.st.1] at hi
                  omega
              · rw [List.append_nil]
                exact rr.on fun b ob hs e => rd_out own' hs e
      | _ => exact w.elim
end

end Mine

-- M5
namespace Mine
open PySem PySem.W PySem.Calls PyProof.Rows

variable {cx : Cx} {d : Nat} {env : Env} {ρ : Vars} {st : Store} {pos : Pos}

/-! ### stores -/
def upd : Vars → PySem.Str → V → Vars
  | [], x, v => [(x, v)]
  | (y, u) :: r, x, v => if y == x then (y, v) :: r else (y, u) :: upd r x v
theorem upd_get (x : PySem.Str) (v : V) (y : PySem.Str) : ∀ ρ : Vars, (upd ρ x v).lookup y = if y == x then some v else ρ.lookup y
  | [] => by
    unfold upd
    rw [List.lookup_cons]
    cases y == x <;> rfl
  | (z, u) :: r => by
    unfold upd
    cases hz : z == x with
    | true =>
      rw [if_pos rfl, List.lookup_cons, List.lookup_cons]
      have := eq_of_beq hz
      subst this
      cases y == z <;> rfl
    | false =>
      rw [if_neg (by decide), List.lookup_cons, List.lookup_cons, upd_get x v y r]
      cases hy : y == z with
      | true =>
        have := eq_of_beq hy
        subst this
        rw [hz]; rfl
      | false => rfl
def updAll : Vars → List (PySem.Str × V) → Vars
  | ρ, [] => ρ
  | ρ, (x, v) :: r => updAll (upd ρ x v) r

theorem Ok.touch {o al : List Addr} {h h' : Heap} {a : Addr} {tk tk' : Nat} (ok : Ok cx o al st h tk) (htk : tk ≤ tk') (ha : a ∈ o) (hs : Heap.SameBut a h h') (hn : ∃ ob, h'.get? a = some ob ∧ ¬ SeqObj ob) :
    Ok cx o al st h' tk' ∧ (vw h (o ++ al)).StaysIn (vw h' (o ++ al)) := by
  have view : (vw h (o ++ al)).StaysIn (vw h' (o ++ al)) := vw_mono fun b ob n e => ⟨(hs.2 b fun q => n (q ▸ List.mem_append.mpr (.inl ha))).trans e, n⟩
  refine ⟨⟨Nat.lt_of_lt_of_le ok.tok htk, fun b ob e => view b ob (ok.base b ob e), ok.nd, fun b m => ?_, ok.st.1, fun i b xs e1 e2 => ?_⟩, view⟩
  · by_cases hb : b = a
    · subst hb; exact hn
    · obtain ⟨ob, q1, q2⟩ := ok.own b m
      exact ⟨ob, (hs.2 b hb).trans q1, q2⟩
  · have hb : b ≠ a := fun q => by
      have := (List.nodup_append.mp ok.nd).2.2 a ha b (List.mem_of_getElem? e1)
      exact this q.symm
    exact (ok.st.2 i b xs e1 e2).mono (fun ob q => (hs.2 b hb).trans q) view

def stores (env : Env) (x : PySem.Str) : Bool := env.kindOf x == some .local || (env.kindOf x == some .cell && (env.cells.lookup x).isSome)

theorem At.apart {hx al : List Addr} {h : Heap} {tk : Nat} (a : At cx env hx al ρ st h tk) {n : PySem.Str} {c : Addr} (e : env.cells.lookup n = some c) : env.locals ≠ c := by
  have nd := (List.nodup_append.mp a.ok.nd).1
  have := (List.nodup_cons.mp nd).1
  exact fun q => this (q ▸ List.mem_append.mpr (.inl (List.mem_map.mpr ⟨(n, c), PySem.mem_of_lookup e, rfl⟩)))
theorem At.cellsApart {hx al : List Addr} {h : Heap} {tk : Nat} (a : At cx env hx al ρ st h tk) : env.cells.Pairwise fun x y => x.2 ≠ y.2 := by
  have nd := (List.nodup_append.mp a.ok.nd).1
  have := (List.nodup_append.mp (List.nodup_cons.mp nd).2).1
  exact List.pairwise_map.mp this

theorem store_run {A : Around} {hx al : List Addr} {s : Shared} {x : PySem.Str} {v : V} {val : Value} (a : At cx env hx al ρ st s.heap s.toks) (r : VRep cx (vw s.heap (ow env hx ++ al)) al val v) (hk : stores env x = true)
    {Q : Unit → Shared → Prop} {E : Value → Shared → Prop} (k : ∀ h' tk', Nxs cx env hx al [] (upd ρ x v) st s.heap h' tk' → Q () { s with heap := h', toks := tk' }) : wpAny (model cx.prog cx.w) A (storeName env x val) Q E s := by
  obtain ⟨m, cm, hm, hc, hv⟩ := a.vars
  have nx : ∀ (h' : Heap) (tk' : Nat), (∀ b ∈ hx, ∀ ob, s.heap.get? b = some ob → h'.get? b = some ob) → Ok cx (ow env hx) al st h' tk' → (vw s.heap (ow env hx ++ al)).StaysIn (vw h' (ow env hx ++ al)) →
      VarsOk cx env (vw h' (ow env hx ++ al)) al (upd ρ x v) h' → Nxs cx env hx al [] (upd ρ x v) st s.heap h' tk' :=
    fun h' tk' hh o w vo => ⟨hh, by rw [List.append_nil]; exact ⟨o, a.fn, a.gl, a.bi, vo⟩, by rw [List.append_nil]; exact w⟩
  have nd := (List.nodup_append.mp a.ok.nd).1
  rcases Bool.or_eq_true_iff.mp hk with q | q
  · have hl : env.kindOf x = some .local := by simpa using q
    refine wpAny_storeName_local hl hm (fun h' hn hs => ?_) (by rw [a.fn]; rfl)
    obtain ⟨ok', w⟩ := a.ok.touch (Nat.le_succ _) (List.mem_cons_self) hs (let ⟨ob, es, ep, q1, q2, _⟩ := hn; ⟨ob, q1, fun ⟨vs, n, z⟩ => by rw [q2] at z; cases z⟩)
    refine k h' _ (nx h' _ (fun b hb ob e => (hs.2 b fun z => ?_).trans e) ok' w ⟨_, cm, hn, fun n c e => ?_, fun y u e => ?_⟩)
    · exact (List.nodup_cons.mp nd).1 (z ▸ List.mem_append.mpr (.inr hb))
    · exact (hc n c e).sameBut hs (fun z => a.apart e z.symm)
    · rw [upd_get] at e
      cases hy : y == x with
      | true =>
        rw [hy] at e
        cases e
        have := eq_of_beq hy
        subst this
        exact ⟨val, by have := r.mono (al' := []) w; rwa [List.append_nil] at this, .inl ⟨hl, if_pos rfl⟩⟩
      | false =>
        rw [hy] at e
        obtain ⟨u', r', z⟩ := hv y u e
        refine ⟨u', by have := r'.mono (al' := []) w; rwa [List.append_nil] at this, ?_⟩
        rcases z with ⟨z1, z2⟩ | z
        · exact .inl ⟨z1, by show (if y = x then some val else m y) = some u'; rw [if_neg (fun p => by rw [p] at hy; simp at hy)]; exact z2⟩
        · exact .inr z
  · obtain ⟨q1, q2⟩ := Bool.and_eq_true_iff.mp q
    have hl : env.kindOf x = some .cell := by simpa using q1
    obtain ⟨c, hcl⟩ := Option.isSome_iff_exists.mp q2
    refine wpAny_storeName_cell a.fn hl hcl (hc x c hcl) fun h' hv' hs => ?_
    have hcm : c ∈ ow env hx := .tail _ (List.mem_append.mpr (.inl (List.mem_map.mpr ⟨(x, c), PySem.mem_of_lookup hcl, rfl⟩)))
    obtain ⟨ok', w⟩ := a.ok.touch (Nat.le_refl _) hcm hs (let ⟨ob, z1, z2⟩ := hv'; ⟨ob, z1, fun ⟨vs, n, z⟩ => by rw [z2] at z; cases z⟩)
    refine k h' s.toks (nx h' _ (fun b hb ob e => (hs.2 b fun z => ?_).trans e) ok' w ⟨m, fun y => if y = x then some val else cm y, ?_, fun n c' e => ?_, fun y u e => ?_⟩)
    · have := (List.nodup_append.mp (List.nodup_cons.mp nd).2).2.2 c (List.mem_map.mpr ⟨(x, c), PySem.mem_of_lookup hcl, rfl⟩) b hb
      exact this z.symm
    · exact hm.sameBut hs (a.apart hcl)
    · by_cases hn : n = x
      · subst hn
        rw [hcl] at e; cases e
        simpa using hv'
      · show h'.IsCell c' (if n = x then some val else cm n)
        rw [if_neg hn]
        exact (hc n c' e).sameBut hs fun z => hn (name_of_addr a.cellsApart (PySem.mem_of_lookup e) (z ▸ PySem.mem_of_lookup hcl))
    · rw [upd_get] at e
      cases hy : y == x with
      | true =>
        rw [hy] at e
        cases e
        have := eq_of_beq hy
        subst this
        exact ⟨val, by have := r.mono (al' := []) w; rwa [List.append_nil] at this, .inr ⟨.inl hl, q2, if_pos rfl⟩⟩
      | false =>
        rw [hy] at e
        obtain ⟨u', r', z⟩ := hv y u e
        refine ⟨u', by have := r'.mono (al' := []) w; rwa [List.append_nil] at this, ?_⟩
        rcases z with z | ⟨z1, z2, z3⟩
        · exact .inl z
        · exact .inr ⟨z1, z2, by show (if y = x then some val else cm y) = some u'; rw [if_neg (fun p => by rw [p] at hy; simp at hy)]; exact z3⟩

theorem lift_s {env : Env} {hx al al₁ : List Addr} {ρ₁ : Vars} {st₁ : Store} {s : Shared} {h₁ : Heap} {tk₁ : Nat} {Q : Flow → Shared → Prop} {Post : Fl → Vars → Store → Prop} (n : Nxs cx env hx al al₁ ρ₁ st₁ s.heap h₁ tk₁)
    (k : ∀ fl ρ' st' f al' h' tk', Nxs cx env hx al al' ρ' st' s.heap h' tk' → FlRep cx (vw h' (ow env hx ++ (al ++ al'))) (al ++ al') f fl → Post fl ρ' st' → Q f { s with heap := h', toks := tk' }) :
    ∀ fl ρ' st' f al' h' tk', Nxs cx env hx (al ++ al₁) al' ρ' st' ({ s with heap := h₁, toks := tk₁ } : Shared).heap h' tk' → FlRep cx (vw h' (ow env hx ++ ((al ++ al₁) ++ al'))) ((al ++ al₁) ++ al') f fl → Post fl ρ' st' →
      Q f { ({ s with heap := h₁, toks := tk₁ } : Shared) with heap := h', toks := tk' } :=
  fun fl ρ' st' f al' h' tk' m v p => k fl ρ' st' f (al₁ ++ al') h' tk' (n.trans m) (by rw [← List.append_assoc al]; exact v) p

section
variable {Post : Fl → Vars → Store → Prop}

theorem tb_nil (h : Post .next ρ st) : tb cx d env ρ st [] Post := by
  intro A hx al s Q E R a k
  exact wpAny_execs_nil (k .next ρ st .next [] s.heap s.toks (Nxs.refl a) trivial h)
theorem tb_cons {x : Stmt} {r : List Stmt} (h : ts cx d env ρ st x fun fl ρ₁ st₁ => match fl with | .next => tb cx d env ρ₁ st₁ r Post | fl => Post fl ρ₁ st₁) : tb cx d env ρ st (x :: r) Post := by
  intro A hx al s Q E R a k
  refine wpAny_execs_cons (h A hx al s _ E R a fun fl ρ₁ st₁ f al₁ h₁ tk₁ n₁ w p => ?_)
  cases fl with
  | next => cases f with
    | next => exact p A _ _ _ Q E R n₁.at' (lift_s n₁ k)
    | _ => exact w.elim
  | brk => cases f with
    | brk => exact k _ ρ₁ st₁ _ al₁ h₁ tk₁ n₁ w p
    | _ => exact w.elim
  | cont => cases f with
    | cont => exact k _ ρ₁ st₁ _ al₁ h₁ tk₁ n₁ w p
    | _ => exact w.elim
  | ret v => cases f with
    | ret u => exact k (.ret v) ρ₁ st₁ _ al₁ h₁ tk₁ n₁ w p
    | _ => exact w.elim

theorem ts_assign {x : PySem.Str} {e : Expr} {p : Pos} (h : te cx d env ρ st e fun v st₁ => Post .next (upd ρ x v) st₁) (hk : stores env x = true := by rfl)
    (hs : swapsWith e (some (.Name x p)) pos.line env = pure false := by rfl) : ts cx d env ρ st (.Assign [.Name x p] e pos) Post := by
  intro A hx al s Q E R a k
  refine wpAny_Assign_Name (h A hx al s R a _ E fun v st₁ val al₁ h₁ tk₁ n₁ v₁ p₁ => ?_) hs
  refine store_run (s := { s with heap := h₁, toks := tk₁ }) (a.next n₁) v₁ hk fun h₂ tk₂ n₂ => ?_
  exact k .next _ st₁ .next (al₁ ++ []) h₂ tk₂ ((a.nxs n₁).trans n₂) trivial p₁

theorem ts_aug {x : PySem.Str} {op : Operator} {e : Expr} {p : Pos} {v₀ : V} (hl : ρ.lookup x = some v₀) (h : te cx d env ρ st e fun v st₁ => tinp cx d op v₀ v st₁ fun r st₂ => Post .next (upd ρ x r) st₂) (hk : stores env x = true := by rfl)
    (hn : (x == ("__classdict__" : PySem.Str)) = false := by rfl) : ts cx d env ρ st (.AugAssign (.Name x p) op e pos) Post := by
  intro A hx al s Q E R a k
  refine wpAny_AugAssign_Name ?_
  obtain ⟨m, cm, hm, hc, hv⟩ := a.vars
  obtain ⟨val, r, q⟩ := hv x v₀ hl
  have fin : wpAny (model cx.prog cx.w) A (eval e env) (fun v s₂ => wpAny (model cx.prog cx.w) A (inplaceOp op val v) (fun r s₃ => wpAny (model cx.prog cx.w) A (storeName env x r) (fun _ => Q .next) E s₃) E s₂) E s := by
    refine h A hx al s R a _ E fun v st₁ u al₁ h₁ tk₁ n₁ v₁ p₁ => ?_
    refine p₁ A _ _ _ val u R n₁.ok (r.mono n₁.vw) v₁ _ E fun w st₂ z al₂ h₂ tk₂ n₂ v₂ p₂ => ?_
    refine store_run (s := { s with heap := h₂, toks := tk₂ }) ((a.next n₁).next n₂) v₂ hk fun h₃ tk₃ n₃ => ?_
    exact k .next _ st₂ .next (al₁ ++ (al₂ ++ [])) h₃ tk₃ ((a.nxs n₁).trans (((a.next n₁).nxs n₂).trans n₃)) trivial p₂
  rcases q with ⟨k1, k2⟩ | ⟨k1 | k1, k2, k3⟩
  · exact wpAny_loadName_local a.fn k1 hm k2 fin
  · obtain ⟨c, hcl⟩ := Option.isSome_iff_exists.mp k2
    exact wpAny_loadName_cell a.fn k1 hcl (k3 ▸ hc x c hcl) fin
  · obtain ⟨c, hcl⟩ := Option.isSome_iff_exists.mp k2
    exact wpAny_loadName_free a.fn k1 hcl (k3 ▸ hc x c hcl) fin hn

theorem ts_expr {e : Expr} (h : te cx d env ρ st e fun _ st₁ => Post .next ρ st₁) (hi : interactive env = false := by rfl) (hs : swapsWith e none pos.line env = pure false := by rfl) : ts cx d env ρ st (.Expr e pos) Post := by
  intro A hx al s Q E R a k
  refine wpAny_Expr_any (h A hx al s R a _ E fun v st₁ val al₁ h₁ tk₁ n₁ v₁ p₁ => ?_) hi hs
  exact k .next ρ st₁ .next al₁ h₁ tk₁ (a.nxs n₁) trivial p₁
theorem ts_if {t : Expr} {b o : List Stmt} (h : tt cx d env ρ st t fun c st₁ => (c = true → tb cx d env ρ st₁ b Post) ∧ (c = false → tb cx d env ρ st₁ o Post)) : ts cx d env ρ st (.If t b o pos) Post := by
  intro A hx al s Q E R a k
  refine wpAny_If (h A hx al s _ E R a fun c st₁ al₁ h₁ tk₁ n₁ p₁ => ?_)
  cases c
  · exact p₁.2 rfl A _ _ _ Q E R (a.next n₁) (lift_s (a.nxs n₁) k)
  · exact p₁.1 rfl A _ _ _ Q E R (a.next n₁) (lift_s (a.nxs n₁) k)
theorem ts_ret {e : Expr} (h : te cx d env ρ st e fun v st₁ => Post (.ret v) ρ st₁) : ts cx d env ρ st (.Return (some e) pos) Post := by
  intro A hx al s Q E R a k
  refine wpAny_Return_some (h A hx al s R a _ E fun v st₁ val al₁ h₁ tk₁ n₁ v₁ p₁ => ?_)
  exact k (.ret v) ρ st₁ (.ret val) al₁ h₁ tk₁ (a.nxs n₁) v₁ p₁
theorem ts_break (h : Post .brk ρ st) : ts cx d env ρ st (.Break pos) Post := by
  intro A hx al s Q E R a k
  exact wpAny_Break (k .brk ρ st .brk [] s.heap s.toks (Nxs.refl a) trivial h)
end

/-! ### targets -/
def tasg (cx : Cx) (d : Nat) (env : Env) (ρ : Vars) (st : Store) (target : Expr) (v : V) (Post : Vars → Prop) : Prop :=
  ∀ A hx al s val Q E, Room A d → At cx env hx al ρ st s.heap s.toks → VRep cx (vw s.heap (ow env hx ++ al)) al val v →
    (∀ ρ' h' tk', Nxs cx env hx al [] ρ' st s.heap h' tk' → Post ρ' → Q () { s with heap := h', toks := tk' }) → wpAny (model cx.prog cx.w) A (assign target env val) Q E s

theorem tasg_name {x : PySem.Str} {v : V} {Post : Vars → Prop} (h : Post (upd ρ x v)) (hk : stores env x = true := by rfl) : tasg cx d env ρ st (.Name x pos) v Post := by
  intro A hx al s val Q E R a r k
  exact wpAny_assign_Name (store_run a r hk fun h' tk' n => k _ h' tk' n h)

def namesOf? : List Expr → Option (List PySem.Str)
  | [] => some []
  | .Name x _ :: r => (namesOf? r).map (x :: ·)
  | _ :: _ => none

theorem assignNames_run {A : Around} {hx al : List Addr} {E : Value → Shared → Prop} : ∀ (es : List Expr) (names : List PySem.Str) (vals : List Value) (xs : List V) (ρ : Vars) (s : Shared) (Q : Unit → Shared → Prop), namesOf? es = some names → vals.length = es.length →
    (names.all (stores env)) = true → At cx env hx al ρ st s.heap s.toks → VRepAll cx (vw s.heap (ow env hx ++ al)) al vals xs →
    (∀ h' tk', Nxs cx env hx al [] (updAll ρ (names.zip xs)) st s.heap h' tk' → Q () { s with heap := h', toks := tk' }) →
    wpAny (model cx.prog cx.w) A (assignInOrder ((assignEach es env).map (·.2)) vals) Q E s
  | [], names, vals, xs, ρ, s, Q, hn, hl, hk, a, r, k => by
    cases hn
    cases r with
    | nil => exact wpAny_assignInOrder_none (k s.heap s.toks (Nxs.refl a))
    | cons _ _ => cases hl
  | e :: es, names, vals, xs, ρ, s, Q, hn, hl, hk, a, r, k => by
    cases e with
    | Name x p =>
      simp only [namesOf?] at hn
      cases q : namesOf? es with
      | none => rw [q] at hn; cases hn
      | some ns =>
        rw [q] at hn
        cases hn
        cases r with
        | nil => cases hl
        | @cons v vs y ys hv hvs =>
          rw [List.all_cons, Bool.and_eq_true_iff] at hk
          show wpAny _ A (assignInOrder (assign (.Name x p) env :: (assignEach es env).map (·.2)) (v :: vs)) Q E s
          refine wpAny_assignInOrder_more (wpAny_assign_Name (store_run a hv hk.1 fun h₁ tk₁ n₁ => ?_))
          have a₁ := n₁.at'
          have w₁ := n₁.vw
          rw [List.append_nil] at a₁ w₁
          refine assignNames_run es ns vs ys _ _ Q q (by simpa using hl) hk.2 a₁ (by have := hvs.mono (al' := []) w₁; rwa [List.append_nil] at this) fun h₂ tk₂ n₂ => ?_
          refine k h₂ tk₂ ?_
          have n₂' : Nxs cx env hx (al ++ []) [] (updAll (upd ρ x y) (ns.zip ys)) st h₁ h₂ tk₂ := by rw [List.append_nil]; exact n₂
          exact n₁.trans n₂'
    | _ => simp only [namesOf?] at hn; cases hn

theorem rdAll_vrep {g : Heap} {al : List Addr} {vs : List Value} {xs : List PyData} (h : RdAll g vs xs) : VRepAll cx g al vs (xs.map .d) := by
  induction vs generalizing xs with
  | nil => cases h; exact .nil
  | cons v vs ih => cases h with | cons h r => exact .cons h (ih r)

theorem assignEach_names (env : Env) : ∀ {es : List Expr} {names : List PySem.Str}, namesOf? es = some names → (assignEach es env).length = es.length ∧ (assignEach es env).findIdx? (·.1) = none ∧ names.length = es.length
  | [], _, h => by cases h; exact ⟨rfl, rfl, rfl⟩
  | e :: es, names, h => by
    cases e with
    | Name x p =>
      simp only [namesOf?] at h
      cases q : namesOf? es with
      | none => rw [q] at h; cases h
      | some ns =>
        rw [q] at h
        cases h
        obtain ⟨h1, h2, h3⟩ := assignEach_names env q
        refine ⟨?_, ?_, by simp [h3]⟩
        · show ((false, assign (.Name x p) env) :: assignEach es env).length = _
          simp [h1]
        · show ((false, assign (.Name x p) env) :: assignEach es env).findIdx? (·.1) = none
          rw [List.findIdx?_cons]
          simp [h2]
    | _ => simp only [namesOf?] at h; cases h

theorem nxs_grow {hx al : List Addr} {h h' : Heap} {tk tk' : Nat} (a : At cx env hx al ρ st h tk) (hk : h.StaysIn h') (htk : tk ≤ tk') : Nxs cx env hx al [] ρ st h h' tk' := by
  have view := rd_mono_h (l := ow env hx ++ al) hk
  have nx : Nx cx (ow env hx) al [] st h h' tk' := by
    refine ⟨?_, fun a' _ ob e => hk a' ob e, by rw [List.append_nil]; exact view⟩
    rw [List.append_nil]
    exact ⟨Nat.lt_of_lt_of_le a.ok.tok htk, fun b ob e => view b ob (a.ok.base b ob e), a.ok.nd, fun b m => let ⟨ob, e, n⟩ := a.ok.own b m; ⟨ob, hk b ob e, n⟩,
      a.ok.st.1, fun i b xs e1 e2 => (a.ok.st.2 i b xs e1 e2).mono (fun ob q => hk b ob q) view⟩
  exact a.nxs nx

theorem tasg_tuple {es : List Expr} {n : Nat} {names : List PySem.Str} {xs : List PyData} {Post : Vars → Prop} (hn : namesOf? es = some names) (hl : xs.length = names.length) (h : Post (updAll ρ (names.zip (xs.map .d))))
    (hk : names.all (stores env) = true := by rfl) : tasg cx d env ρ st (.Tuple es n pos) (.d (.tuple xs)) Post := by
  intro A hx al s val Q E R a r k
  obtain ⟨t, vs, rfl, ht, hr⟩ := rd_tuple r
  obtain ⟨e1, e2, e3⟩ := assignEach_names env hn
  have hlen : vs.toList.length = es.length := by rw [hr.length, hl, e3]
  refine wpAny_assign_Tuple R.hd (isTup_of_vw ht) (by rw [e1, ← hlen, Array.length_toList]) e2 fun h₁ hx₁ => ?_
  have hk₁ : s.heap.StaysIn h₁ := fun b ob e => hx₁ b ob (Nat.ne_of_lt (Heap.lt_size e)) e
  have n₁ := nxs_grow a hk₁ (Nat.le_refl _)
  have a₁ := n₁.at'
  have w₁ := n₁.vw
  rw [List.append_nil] at a₁ w₁
  refine assignNames_run es names _ _ ρ { s with heap := h₁ } Q hn hlen hk a₁ (by have := (rdAll_vrep (cx := cx) (al := al) hr).mono (al' := []) w₁; rwa [List.append_nil] at this) fun h₂ tk₂ n₂ => ?_
  refine k _ h₂ tk₂ ?_ h
  have n₂' : Nxs cx env hx (al ++ []) [] (updAll ρ (names.zip (xs.map .d))) st h₁ h₂ tk₂ := by rw [List.append_nil]; exact n₂
  exact n₁.trans n₂'

theorem ts_assignT {es : List Expr} {n : Nat} {p : Pos} {e : Expr} {Post : Fl → Vars → Store → Prop} (h : te cx d env ρ st e fun v st₁ => tasg cx d env ρ st₁ (.Tuple es n p) v fun ρ₁ => Post .next ρ₁ st₁)
    (hs : swapsWithSole [.Tuple es n p] e pos.line env = pure false := by rfl) (hw : swappedStores [.Tuple es n p] e env = pure none := by rfl) : ts cx d env ρ st (.Assign [.Tuple es n p] e pos) Post := by
  intro A hx al s Q E R a k
  refine PyProof.Rows.Assign_Tuple (h A hx al s R a _ E fun v st₁ val al₁ h₁ tk₁ n₁ v₁ p₁ => ?_) hs hw
  refine p₁ A hx _ _ val _ E R (a.next n₁) v₁ fun ρ' h₂ tk₂ n₂ q => ?_
  exact k .next ρ' st₁ .next (al₁ ++ []) h₂ tk₂ ((a.nxs n₁).trans n₂) trivial q

end Mine

-- M6
namespace Mine
open PySem PySem.W PySem.Calls PyProof.Rows

variable {cx : Cx} {d : Nat} {env : Env} {ρ : Vars} {st : Store} {pos : Pos}

/-- a turn's end -/
def TurnPost (goOn : Vars → Store → Prop) (Post : Fl → Vars → Store → Prop) : Fl → Vars → Store → Prop
  | .next, ρ, st => goOn ρ st
  | .cont, ρ, st => goOn ρ st
  | .brk, ρ, st => Post .next ρ st
  | .ret v, ρ, st => Post (.ret v) ρ st

section
variable {Post : Fl → Vars → Store → Prop}

theorem ts_while {test : Expr} {body : List Stmt} (Inv : Nat → Vars → Store → Prop) (n : Nat) (h0 : Inv n ρ st)
    (turn : ∀ n ρ st, Inv n ρ st → tt cx d env ρ st test fun c st₁ => (c = true → tb cx d env ρ st₁ body (TurnPost (fun ρ₂ st₂ => ∃ m, m < n ∧ Inv m ρ₂ st₂) Post)) ∧ (c = false → Post .next ρ st₁)) :
    ts cx d env ρ st (.While test body [] pos) Post := by
  intro A hx al s Q E R a k
  refine wpAny_While (codeAny_whileLoop (fun n s' => ∃ al' ρ' st' h' tk', s' = { s with heap := h', toks := tk' } ∧ Nxs cx env hx al al' ρ' st' s.heap h' tk' ∧ Inv n ρ' st') ?_ n
    ⟨[], ρ, st, s.heap, s.toks, rfl, Nxs.refl a, h0⟩)
  rintro n s' ⟨al₁, ρ₁, st₁, h₁, tk₁, rfl, n₁, i₁⟩
  refine turn n ρ₁ st₁ i₁ A _ _ _ _ _ R n₁.at' fun c st₂ al₂ h₂ tk₂ n₂ p₂ => ?_
  have n₁₂ := n₁.trans (n₁.at'.nxs n₂)
  cases c with
  | false =>
    simp only [Bool.false_eq_true, if_false]
    exact wpAny_execs_nil (k .next ρ₁ st₂ .next _ h₂ tk₂ n₁₂ trivial (p₂.2 rfl))
  | true =>
    simp only [if_true]
    refine p₂.1 rfl A _ _ _ _ _ R (n₁.at'.next n₂) fun fl ρ₃ st₃ f al₃ h₃ tk₃ n₃ w₃ p₃ => ?_
    have n₁₃ : Nxs cx env hx al (al₁ ++ (al₂ ++ al₃)) ρ₃ st₃ s.heap h₃ tk₃ := n₁.trans ((n₁.at'.nxs n₂).trans n₃)
    cases fl with
    | next => cases f with
      | next => obtain ⟨m, hm, im⟩ := p₃; exact ⟨m, hm, _, ρ₃, st₃, h₃, tk₃, rfl, n₁₃, im⟩
      | _ => exact w₃.elim
    | cont => cases f with
      | cont => obtain ⟨m, hm, im⟩ := p₃; exact ⟨m, hm, _, ρ₃, st₃, h₃, tk₃, rfl, n₁₃, im⟩
      | _ => exact w₃.elim
    | brk => cases f with
      | brk => exact k .next ρ₃ st₃ .next _ h₃ tk₃ n₁₃ trivial p₃
      | _ => exact w₃.elim
    | ret v => cases f with
      | ret u =>
        refine k (.ret v) ρ₃ st₃ (.ret u) _ h₃ tk₃ n₁₃ ?_ p₃
        have e : (al ++ al₁) ++ al₂ ++ al₃ = al ++ (al₁ ++ (al₂ ++ al₃)) := by simp only [List.append_assoc]
        rw [← e]; exact w₃
      | _ => exact w₃.elim

theorem At.add {hx al : List Addr} {h h' : Heap} {I : Addr} {tk tk' : Nat} (a : At cx env hx al ρ st h tk) (htk : tk ≤ tk') (hk : h.StaysIn h') (hI : h.objs.size ≤ I) (hn : ∃ ob, h'.get? I = some ob ∧ ¬ SeqObj ob) :
    At cx env (I :: hx) al ρ st h' tk' ∧ (vw h (ow env hx ++ al)).StaysIn (vw h' (ow env (I :: hx) ++ al)) := by
  have fresh : ∀ b ∈ ow env hx ++ al, b ≠ I := fun b m e => absurd (a.ok.lt m) (by rw [e]; exact Nat.not_lt.mpr hI)
  have view : (vw h (ow env hx ++ al)).StaysIn (vw h' (ow env (I :: hx) ++ al)) := vw_mono fun b ob n e => ⟨hk b ob e, fun m => by
    have hb : b ≠ I := fun q => absurd (Heap.lt_size e) (by rw [q]; exact Nat.not_lt.mpr hI)
    apply n
    simp only [ow, List.cons_append, List.mem_cons, List.mem_append] at m ⊢
    rcases m with m | (m | m | m) | m
    · exact .inl m
    · exact .inr (.inl (.inl m))
    · exact absurd m hb
    · exact .inr (.inl (.inr m))
    · exact .inr (.inr m)⟩
  obtain ⟨m, cm, hm, hc, hv⟩ := a.vars
  refine ⟨⟨⟨Nat.lt_of_lt_of_le a.ok.tok htk, fun b ob e => view b ob (a.ok.base b ob e), ?_, ?_, a.ok.st.1, fun i b xs e1 e2 => ?_⟩, a.fn, a.gl, a.bi, m, cm, hm.keeps hk, fun n c e => (hc n c e).keeps hk, fun y v e => ?_⟩, view⟩
  · have nd := a.ok.nd
    have hp : (ow env (I :: hx) ++ al).Perm (I :: (ow env hx ++ al)) := by
      simp only [ow, List.cons_append]
      refine (List.Perm.cons _ ?_).trans (List.Perm.swap _ _ _)
      rw [List.append_assoc, List.append_assoc, List.cons_append]
      exact List.perm_middle
    refine hp.nodup_iff.mpr (List.nodup_cons.mpr ⟨fun q => fresh I q rfl, nd⟩)
  · intro b hb
    simp only [ow, List.mem_cons, List.mem_append] at hb
    have old : b ∈ ow env hx → ∃ o, h'.get? b = some o ∧ ¬ SeqObj o := fun q => let ⟨ob, e, n⟩ := a.ok.own b q; ⟨ob, hk b ob e, n⟩
    rcases hb with q | q | q | q
    · exact old (by simp [ow, q])
    · exact old (by simp only [ow, List.mem_cons, List.mem_append]; exact .inr (.inl q))
    · rw [q]; exact hn
    · exact old (by simp only [ow, List.mem_cons, List.mem_append]; exact .inr (.inr q))
  · exact (a.ok.st.2 i b xs e1 e2).mono (fun ob q => hk b ob q) view
  · obtain ⟨val, r, q⟩ := hv y v e
    exact ⟨val, by have := r.mono (al' := []) view; rwa [List.append_nil] at this, q⟩

/-- the walker has moved -/
theorem At.walk {hx al : List Addr} {h h' : Heap} {I : Addr} {tk tk' : Nat} (a : At cx env (I :: hx) al ρ st h tk) (htk : tk ≤ tk') (hk : ∀ b o, b ≠ I → h.get? b = some o → h'.get? b = some o) (hn : ∃ ob, h'.get? I = some ob ∧ ¬ SeqObj ob) :
    At cx env (I :: hx) al ρ st h' tk' ∧ (vw h (ow env (I :: hx) ++ al)).StaysIn (vw h' (ow env (I :: hx) ++ al)) := by
  have mI : I ∈ ow env (I :: hx) := .tail _ (List.mem_append.mpr (.inr (.head _)))
  have view : (vw h (ow env (I :: hx) ++ al)).StaysIn (vw h' (ow env (I :: hx) ++ al)) := vw_mono fun b ob n e => ⟨hk b ob (fun q => n (by rw [q]; exact List.mem_append.mpr (.inl mI))) e, n⟩
  have nd1 := (List.nodup_append.mp a.ok.nd).1
  obtain ⟨m, cm, hm, hc, hv⟩ := a.vars
  have lI : env.locals ≠ I := fun q => (List.nodup_cons.mp nd1).1 (q ▸ List.mem_append.mpr (.inr (.head _)))
  have cI : ∀ n c, env.cells.lookup n = some c → c ≠ I := fun n c e q => by
    have := (List.nodup_append.mp (List.nodup_cons.mp nd1).2).2.2 c (List.mem_map.mpr ⟨(n, c), PySem.mem_of_lookup e, rfl⟩) I (.head _)
    exact this q
  refine ⟨⟨⟨Nat.lt_of_lt_of_le a.ok.tok htk, fun b ob e => view b ob (a.ok.base b ob e), a.ok.nd, fun b m => ?_, a.ok.st.1, fun i b xs e1 e2 => ?_⟩, a.fn, a.gl, a.bi, m, cm, ?_, fun n c e => ?_, fun y v e => ?_⟩, view⟩
  · by_cases hb : b = I
    · subst hb; exact hn
    · obtain ⟨ob, q1, q2⟩ := a.ok.own b m
      exact ⟨ob, hk b ob hb q1, q2⟩
  · have hb : b ≠ I := fun q => (List.nodup_append.mp a.ok.nd).2.2 I mI b (List.mem_of_getElem? e1) q.symm
    exact (a.ok.st.2 i b xs e1 e2).mono (fun ob q => hk b ob hb q) view
  · obtain ⟨ob, es, ep, q1, q2⟩ := hm
    exact ⟨ob, es, ep, hk _ ob lI q1, q2⟩
  · obtain ⟨ob, q1, q2⟩ := hc n c e
    exact ⟨ob, hk c ob (cI n c e) q1, q2⟩
  · obtain ⟨val, r, q⟩ := hv y v e
    exact ⟨val, by have := r.mono (al' := []) view; rwa [List.append_nil] at this, q⟩

/-- the walker is let go -/
theorem At.rest {hx al : List Addr} {h h' : Heap} {I : Addr} {tk tk' : Nat} (a : At cx env (I :: hx) al ρ st h tk) (htk : tk ≤ tk') (hk : ∀ b o, b ≠ I → h.get? b = some o → h'.get? b = some o) :
    At cx env hx al ρ st h' tk' ∧ (vw h (ow env (I :: hx) ++ al)).StaysIn (vw h' (ow env hx ++ al)) := by
  have sub : ∀ b, b ∈ ow env hx ++ al → b ∈ ow env (I :: hx) ++ al := by
    intro b m
    simp only [ow, List.cons_append, List.mem_cons, List.mem_append] at m ⊢
    rcases m with m | (m | m) | m
    · exact .inl m
    · exact .inr (.inl (.inl m))
    · exact .inr (.inl (.inr (.inr m)))
    · exact .inr (.inr m)
  have mI : I ∈ ow env (I :: hx) ++ al := List.mem_append.mpr (.inl (.tail _ (List.mem_append.mpr (.inr (.head _)))))
  have view : (vw h (ow env (I :: hx) ++ al)).StaysIn (vw h' (ow env hx ++ al)) := vw_mono fun b ob n e => ⟨hk b ob (fun q => n (q ▸ mI)) e, fun m => n (sub b m)⟩
  have hp : (ow env (I :: hx) ++ al).Perm (I :: (ow env hx ++ al)) := by
    simp only [ow, List.cons_append]
    refine (List.Perm.cons _ ?_).trans (List.Perm.swap _ _ _)
    rw [List.append_assoc, List.append_assoc, List.cons_append]
    exact List.perm_middle
  have nd := List.nodup_cons.mp (hp.nodup_iff.mp a.ok.nd)
  have ne : ∀ b, b ∈ ow env hx ++ al → b ≠ I := fun b m q => nd.1 (q ▸ m)
  obtain ⟨m, cm, hm, hc, hv⟩ := a.vars
  refine ⟨⟨⟨Nat.lt_of_lt_of_le a.ok.tok htk, fun b ob e => view b ob (a.ok.base b ob e), nd.2, fun b m => ?_, a.ok.st.1, fun i b xs e1 e2 => ?_⟩, a.fn, a.gl, a.bi, m, cm, ?_, fun n c e => ?_, fun y v e => ?_⟩, view⟩
  · have mo : b ∈ ow env (I :: hx) := by
      simp only [ow, List.mem_cons, List.mem_append] at m ⊢
      rcases m with q | q | q
      · exact .inl q
      · exact .inr (.inl q)
      · exact .inr (.inr (.inr q))
    obtain ⟨ob, q1, q2⟩ := a.ok.own b mo
    exact ⟨ob, hk b ob (ne b (List.mem_append.mpr (.inl m))) q1, q2⟩
  · exact (a.ok.st.2 i b xs e1 e2).mono (fun ob q => hk b ob (ne b (List.mem_append.mpr (.inr (List.mem_of_getElem? e1)))) q) view
  · obtain ⟨ob, es, ep, q1, q2⟩ := hm
    exact ⟨ob, es, ep, hk _ ob (ne _ (List.mem_append.mpr (.inl (.head _)))) q1, q2⟩
  · obtain ⟨ob, q1, q2⟩ := hc n c e
    exact ⟨ob, hk c ob (ne c (List.mem_append.mpr (.inl (.tail _ (List.mem_append.mpr (.inl (List.mem_map.mpr ⟨(n, c), PySem.mem_of_lookup e, rfl⟩))))))) q1, q2⟩
  · obtain ⟨val, r, q⟩ := hv y v e
    exact ⟨val, by have := r.mono (al' := []) view; rwa [List.append_nil] at this, q⟩

/-- what a loop walks over -/
def Feeds (cx : Cx) (A : Around) (I : Addr) (target : Expr) (g : Heap) (items : List PyData) (h : Heap) : Prop :=
  ∃ fp P St, Walks cx.prog cx.w A I fp [I] items.length P St ∧ St 0 h ∧ (∀ b ∈ fp, b = I ∨ ∃ o, g.get? b = some o) ∧ (∀ i v, i < items.length → P i v → ∃ x, items[i]? = some x ∧ Rd g v x) ∧
    (∀ i h, St i h → ∃ ob, h.get? I = some ob ∧ ¬ SeqObj ob) ∧
    ∀ i v (s' : Shared) (Q : Unit → Shared → Prop) (E : Value → Shared → Prop), St i s'.heap → Q () s' → wpAny (model cx.prog cx.w) A (letOwnedTupleGo target (.ref I) v) Q E s'

theorem forLoop_run {A : Around} {hx al : List Addr} {s s₁ : Shared} {I : Addr} {items : List PyData} {target : Expr} {body : List Stmt} {Rr : Result → Shared → Prop} (R : Room A d)
    (a : At cx env hx al ρ st s.heap s.toks) (hs₁ : ∃ h tk, s₁ = { s with heap := h, toks := tk }) (htk₁ : s.toks ≤ s₁.toks) (hk₁ : s.heap.StaysIn s₁.heap) (hI : s.heap.objs.size ≤ I)
    (F : Feeds cx A I target (vw s.heap (ow env hx ++ al)) items s₁.heap)
    (Inv : List PyData → Vars → Store → Prop) (h0 : Inv items ρ st)
    (turn : ∀ x rest ρ st, Inv (x :: rest) ρ st → tasg cx d env ρ st target (.d x) fun ρ₁ => tb cx d env ρ₁ st body (TurnPost (Inv rest) Post))
    (stop : ∀ ρ st, Inv [] ρ st → Post .next ρ st)
    (k : ∀ fl ρ' st' f al' h' tk', Nxs cx env hx al al' ρ' st' s.heap h' tk' → FlRep cx (vw h' (ow env hx ++ (al ++ al'))) (al ++ al') f fl → Post fl ρ' st' → Rr (.ok f) { s with heap := h', toks := tk' }) :
    codeAny (model cx.prog cx.w) A (.forLoop target (.ref I) body [] env) Rr s₁ := by
  obtain ⟨fp, P, St, W, st0, hfp, hP, hns, hgo⟩ := F
  obtain ⟨h₁, tk₁, rfl⟩ := hs₁
  obtain ⟨a₁, v₁⟩ := a.add htk₁ hk₁ hI (hns 0 _ st0)
  -- the state between the turns
  let L (al' : List Addr) (ρ' : Vars) (st' : Store) (h' : Heap) (tk' : Nat) : Prop :=
    At cx env (I :: hx) (al ++ al') ρ' st' h' tk' ∧ (∀ b ∈ hx, ∀ o, s.heap.get? b = some o → h'.get? b = some o) ∧ (vw s.heap (ow env hx ++ al)).StaysIn (vw h' (ow env (I :: hx) ++ (al ++ al')))
  have hIx : I ∉ hx := fun m => absurd (a.ok.lt (List.mem_append.mpr (.inl (.tail _ (List.mem_append.mpr (.inr m)))))) (Nat.not_lt.mpr hI)
  have out : ∀ {fl ρ' st' f al' h' h'' tk tk'}, L al' ρ' st' h' tk → tk ≤ tk' → (∀ b o, b ≠ I → h'.get? b = some o → h''.get? b = some o) → FlRep cx (vw h' (ow env (I :: hx) ++ (al ++ al'))) (al ++ al') f fl → Post fl ρ' st' → Rr (.ok f) { s with heap := h'', toks := tk' } := by
    rintro fl ρ' st' f al' h' h'' tk tk' ⟨l1, l2, l3⟩ htk hk w p
    obtain ⟨b1, b2⟩ := l1.rest htk hk
    refine k fl ρ' st' f al' h'' tk' ⟨fun b m o e => hk b o (fun q => hIx (q ▸ m)) (l2 b m o e), b1, fun b o e => b2 b o (l3 b o e)⟩ ?_ p
    cases fl with
    | ret v => cases f with
      | ret u =>
        have w' : VRep cx (vw h' (ow env (I :: hx) ++ (al ++ al'))) (al ++ al') u v := w
        have := w'.mono (al' := []) b2
        rw [List.append_nil] at this
        exact this
      | _ => exact w.elim
    | next => cases f <;> first | trivial | exact w.elim
    | brk => cases f <;> first | trivial | exact w.elim
    | cont => cases f <;> first | trivial | exact w.elim
  have Lstep : ∀ {al' al₂ : List Addr} {ρ' ρ₂ : Vars} {st' st₂ : Store} {h' h₂ : Heap} {tk' tk₂ : Nat}, L al' ρ' st' h' tk' → Nxs cx env (I :: hx) (al ++ al') al₂ ρ₂ st₂ h' h₂ tk₂ → L (al' ++ al₂) ρ₂ st₂ h₂ tk₂ := by
    rintro al' al₂ ρ' ρ₂ st' st₂ h' h₂ tk' tk₂ ⟨l1, l2, l3⟩ n
    refine ⟨by rw [← List.append_assoc]; exact n.at', fun b m o e => n.hk b (.tail _ m) o (l2 b m o e), fun b o e => ?_⟩
    rw [← List.append_assoc al]
    exact n.vw b o (l3 b o e)
  have Ststep : ∀ {i : Nat} {al' al₂ : List Addr} {ρ' ρ₂ : Vars} {st' st₂ : Store} {h' h₂ : Heap} {tk' tk₂ : Nat}, L al' ρ' st' h' tk' → Nxs cx env (I :: hx) (al ++ al') al₂ ρ₂ st₂ h' h₂ tk₂ → St i h' → St i h₂ := by
    rintro i al' al₂ ρ' ρ₂ st' st₂ h' h₂ tk' tk₂ ⟨l1, l2, l3⟩ n hst
    refine W.frame i h' h₂ hst fun b hb o e => ?_
    rcases hfp b hb with rfl | ⟨o', q⟩
    · exact n.hk _ (.head _) o e
    · have q2 := l3 b o' q
      have e' := (vw_get.mp q2).1
      rw [e] at e'
      cases e'
      exact (vw_get.mp (n.vw b o q2)).1
  refine codeAny_forLoop_any (fun n s' => ∃ i al' ρ' st' h' tk', s' = { s with heap := h', toks := tk' } ∧ L al' ρ' st' h' tk' ∧ St i h' ∧ Inv (items.drop i) ρ' st' ∧ i + n = items.length) ?_ items.length
    ⟨0, [], ρ, st, h₁, tk₁, rfl, ⟨by rw [List.append_nil]; exact a₁, fun b m o e => hk₁ b o e, by rw [List.append_nil]; exact v₁⟩, st0, by rw [List.drop_zero]; exact h0, Nat.zero_add _⟩
  rintro n s' ⟨i, al', ρ', st', h', tk', rfl, l, hst, hinv, hin⟩
  cases n with
  | zero =>
    have hi : i = items.length := by omega
    subst hi
    refine wpAny_with_toks (Nat.le_refl _) (W.done _ _ _ hst fun h₂ tk₂ hk₂ htk₂ => ?_)
    refine wpAny_execs_nil ?_
    refine out (fl := .next) (f := .next) l htk₂ (fun b o hb e => hk₂ b o (fun m => hb (List.mem_singleton.mp m)) e) trivial (stop ρ' st' ?_)
    rw [List.drop_length] at hinv; exact hinv
  | succ n =>
    have hi : i < items.length := by omega
    refine wpAny_with_toks (Nat.le_refl _) (W.item i _ _ _ hi hst fun v h₂ tk₂ hv hst₂ hk₂ htk₂ => ?_)
    obtain ⟨x, ex, rx⟩ := hP i v hi hv
    have edrop : items.drop i = x :: items.drop (i + 1) := by
      rw [List.drop_eq_getElem_cons hi]
      rw [List.getElem?_eq_getElem hi] at ex
      rw [Option.some.inj ex]
    rw [edrop] at hinv
    obtain ⟨w1, w2⟩ := l.1.walk htk₂ (fun b o hb e => hk₂ b o (fun m => hb (List.mem_singleton.mp m)) e) (hns _ _ hst₂)
    have l₂ : L al' ρ' st' h₂ tk₂ := ⟨w1, fun b m o e => hk₂ b o (fun q => hIx ((List.mem_singleton.mp q) ▸ m)) (l.2.1 b m o e), fun b o e => w2 b o (l.2.2 b o e)⟩
    refine hgo (i + 1) v _ _ _ hst₂ ?_
    refine turn x _ ρ' st' hinv A (I :: hx) (al ++ al') { s with heap := h₂, toks := tk₂ } v _ _ R w1 (rx.keeps l₂.2.2) fun ρ₃ h₃ tk₃ n₃ p₃ => ?_
    have l₃ := Lstep l₂ n₃
    have st₃ := Ststep l₂ n₃ hst₂
    rw [List.append_nil] at l₃
    have a₃ := l₃.1
    refine p₃ A (I :: hx) (al ++ al') { s with heap := h₃, toks := tk₃ } _ _ R a₃ fun fl ρ₄ st₄ f al₄ h₄ tk₄ n₄ w₄ p₄ => ?_
    have l₄ := Lstep l₃ n₄
    have st₄ := Ststep l₃ n₄ st₃
    have e4 : (al ++ al') ++ al₄ = al ++ (al' ++ al₄) := List.append_assoc ..
    rw [e4] at w₄
    cases fl with
    | next => cases f with
      | next => exact ⟨n, Nat.lt_succ_self n, i + 1, al' ++ al₄, ρ₄, _, h₄, tk₄, rfl, l₄, st₄, p₄, by omega⟩
      | _ => exact w₄.elim
    | cont => cases f with
      | cont => exact ⟨n, Nat.lt_succ_self n, i + 1, al' ++ al₄, ρ₄, _, h₄, tk₄, rfl, l₄, st₄, p₄, by omega⟩
      | _ => exact w₄.elim
    | brk => cases f with
      | brk => exact out (fl := .next) (f := .next) l₄ (Nat.le_refl _) (fun b o _ e => e) trivial p₄
      | _ => exact w₄.elim
    | ret v => cases f with
      | ret u => exact out (fl := .ret v) (f := .ret u) l₄ (Nat.le_refl _) (fun b o _ e => e) w₄ p₄
      | _ => exact w₄.elim

theorem go_list {A : Around} {I l : Addr} {i : Nat} {target : Expr} {v : Value} {s' : Shared} {Q : Unit → Shared → Prop} {E : Value → Shared → Prop} (hit : s'.heap.IsListIter I l i) (q : Q () s') :
    wpAny (model cx.prog cx.w) A (letOwnedTupleGo target (.ref I) v) Q E s' := by
  have rest : ∀ {elts : List Expr} {x1 : Nat} {pos : Pos}, wpAny (model cx.prog cx.w) A (letOwnedTupleGo (.Tuple elts x1 pos) (.ref I) v) Q E s' := by
    intro elts x1 pos
    cases v with
    | ref T => exact wpAny_letOwnedTupleGo_listiter hit q
    | _ => exact wpAny_pure q
  have rest' : ∀ {elts : List Expr} {pos : Pos}, wpAny (model cx.prog cx.w) A (letOwnedTupleGo (.List elts pos) (.ref I) v) Q E s' := by
    intro elts pos
    exact rest (elts := elts) (x1 := 0) (pos := pos)
  cases target <;> first | exact rest | exact rest' | exact wpAny_pure q

theorem feeds_list {A : Around} {h : Heap} {g : Heap} {a : Addr} {vs : Array Value} {xs : List PyData} {target : Expr} (hh : A.handled = none) (hg : g.StaysIn h) (hl : g.IsList a vs) (hr : RdAll g vs.toList xs) :
    Feeds cx A h.objs.size target g xs (h.push { cls := .type "list_iterator", data := .fields #[.ref a, .int 0 0] }) := by
  have hlt : a < h.objs.size := let ⟨_, e, _⟩ := hl; Heap.lt_size (hg _ _ e)
  have hsz : vs.size = xs.length := by rw [← Array.length_toList, hr.length]
  refine ⟨[h.objs.size, a], _, _, hsz ▸ Walks.list hh h.objs.size a (Nat.ne_of_lt hlt) vs, ⟨⟨_, Heap.get?_push_size _ rfl, rfl, rfl⟩, let ⟨o, e, r⟩ := hl; ⟨o, Heap.get?_push_of_some _ (hg _ _ e), r⟩⟩, ?_, ?_, ?_, ?_⟩
  · intro b hb
    rcases List.mem_cons.mp hb with q | q
    · exact .inl q
    · obtain rfl := List.mem_singleton.mp q
      obtain ⟨o, e, _⟩ := hl
      exact .inr ⟨o, e⟩
  · intro i v hi hv
    have hi' : i < xs.length := hi
    obtain ⟨v', e, r⟩ := hr.get (List.getElem?_eq_getElem hi')
    have hv' : vs.toList[i]? = some v := by rw [Array.getElem?_toList]; exact hv
    rw [e] at hv'
    cases hv'
    exact ⟨_, List.getElem?_eq_getElem hi', r⟩
  · rintro i h' ⟨⟨o, e, _, hd⟩, _⟩
    exact ⟨o, e, fun ⟨_, _, q⟩ => by rw [hd] at q; cases q⟩
  · intro i v s' Q E hst q
    exact go_list hst.1 q

def rngI (a b : Int) : List PyData := (List.range (b - a).toNat).map fun (i : Nat) => PyData.int (a + (i : Int))
theorem feeds_range {A : Around} {h : Heap} {g : Heap} {a b : Int} {x : PySem.Str} {p : Pos} (hh : A.handled = none) :
    Feeds cx A h.objs.size (.Name x p) g (rngI a b) (h.push { cls := .type "range_iterator", data := .fields #[rawInt a, rawInt (Builtin.Range.rangeSize a b 1), rawInt 1] }) := by
  have hsz : Builtin.Range.rangeSize a b 1 = ((b - a).toNat : Int) := by rw [rangeSize_one]; split <;> omega
  have hlen : (rngI a b).length = (b - a).toNat := by simp [rngI]
  refine ⟨[h.objs.size], _, _, hlen ▸ Walks.range hh h.objs.size a 1 (b - a).toNat, ?_, fun b hb => .inl (List.mem_singleton.mp hb), ?_, ?_, ?_⟩
  · have e1 : (a + ((0 : Nat) : Int) * 1) = a := by simp
    have e2 : (((b - a).toNat : Int) - ((0 : Nat) : Int)) = Builtin.Range.rangeSize a b 1 := by rw [hsz]; simp
    show IsRangeIter _ _ (a + ((0 : Nat) : Int) * 1) (((rngI a b).length : Int) - ((0 : Nat) : Int)) 1
    rw [hlen, e1, e2]
    exact Heap.get?_push_size _ rfl
  · rintro i v hi ⟨t, rfl⟩
    refine ⟨.int (a + (i : Int)), ?_, ?_⟩
    · rw [hlen] at hi
      simp [rngI, hi]
    · have : a + (i : Int) * 1 = a + (i : Int) := by omega
      rw [this]; exact .int _ _
  · intro i h' hst
    exact ⟨_, hst, fun ⟨_, _, q⟩ => by cases q⟩
  · intro i v s' Q E hst q
    exact wpAny_pure q

def Loop (cx : Cx) (d : Nat) (env : Env) (target : Expr) (body : List Stmt) (items : List PyData) (ρ : Vars) (st : Store) (Post : Fl → Vars → Store → Prop) : Prop :=
  ∃ Inv : List PyData → Vars → Store → Prop, Inv items ρ st ∧
    (∀ x rest ρ st, Inv (x :: rest) ρ st → tasg cx d env ρ st target (.d x) fun ρ₁ => tb cx d env ρ₁ st body (TurnPost (Inv rest) Post)) ∧ ∀ ρ st, Inv [] ρ st → Post .next ρ st

theorem ts_for {target iter : Expr} {body : List Stmt} (h : te cx d env ρ st iter fun v st₁ => ∃ xs, v = .d (.list xs) ∧ Loop cx d env target body xs ρ st₁ Post)
    (hs : ∀ x, foldedSetIterable iter env x = pure x := by intro _; rfl) : ts cx d env ρ st (.For target iter body [] pos) Post := by
  intro A hx al s Q E R a k
  refine wpAny_For (h A hx al s R a _ E fun v st₁ val al₁ h₁ tk₁ n₁ v₁ p₁ => ?_) hs
  obtain ⟨xs, rfl, Inv, i0, turn, stop⟩ := p₁
  obtain ⟨l, vs, rfl, hl, hr⟩ := rd_list v₁
  refine wpAny_pyIter_list (isList_of_vw hl) ?_
  have a₁ := a.next n₁
  exact forLoop_run (s := { s with heap := h₁, toks := tk₁ }) R a₁ ⟨_, _, rfl⟩ (Nat.le_refl _) (stays_push _ _) (Nat.le_refl _) (feeds_list R.hd (fun b o e => (vw_get.mp e).1) hl hr) Inv i0 turn stop
    (lift_s (a.nxs n₁) k)
theorem ts_forR {x : PySem.Str} {p : Pos} {iter : Expr} {body : List Stmt} (h : te cx d env ρ st iter fun v st₁ => ∃ lo hi, v = .rng lo hi ∧ -(2 ^ 62) ≤ lo ∧ lo < 2 ^ 62 ∧ -(2 ^ 62) ≤ hi ∧ hi < 2 ^ 62 ∧ Loop cx d env (.Name x p) body (rngI lo hi) ρ st₁ Post)
    (hs : ∀ x, foldedSetIterable iter env x = pure x := by intro _; rfl) : ts cx d env ρ st (.For (.Name x p) iter body [] pos) Post := by
  intro A hx al s Q E R a k
  refine wpAny_For (h A hx al s R a _ E fun v st₁ val al₁ h₁ tk₁ n₁ v₁ p₁ => ?_) hs
  obtain ⟨lo, hi, rfl, b1, b2, b3, b4, Inv, i0, turn, stop⟩ := p₁
  obtain ⟨r, t, u, w, rfl, hr⟩ := v₁
  refine wpAny_pyIter_range (s := { s with heap := h₁, toks := tk₁ }) (vw_get.mp hr).1 (small_one b1 b2 b3 b4) ?_
  have a₁ := a.next n₁
  exact forLoop_run (s := { s with heap := h₁, toks := tk₁ }) R a₁ ⟨_, _, rfl⟩ (Nat.le_refl _) (stays_push _ _) (Nat.le_refl _) (feeds_range R.hd) Inv i0 turn stop
    (lift_s (a.nxs n₁) k)
end

section
variable {Post : V → Store → Prop}
theorem tcall_range1 {n : Int} (h : Post (.rng 0 n) st) : tcall cx d (.ext (.type "range")) [.d (.int n)] [] st Post := by
  intro A o al s fv vs ks R ok hf hv hkn hks
  obtain rfl : fv = .type "range" := hf
  cases hv with | cons hv r => cases r; obtain ⟨t, rfl⟩ := rd_int hv; obtain rfl : ks = [] := by simpa using hkn
                               exact Op.ofVal ok fun Q E k => call_range_1 (k _ _ _ (.rng 0 n) (stays_push _ _) ⟨_, _, _, _, rfl, vw_get.mpr ⟨Heap.get?_push_size _ rfl, ok.fresh (Nat.le_refl _)⟩⟩ h)
theorem tcall_range2 {m n : Int} (h : Post (.rng m n) st) : tcall cx d (.ext (.type "range")) [.d (.int m), .d (.int n)] [] st Post := by
  intro A o al s fv vs ks R ok hf hv hkn hks
  obtain rfl : fv = .type "range" := hf
  cases hv with
  | cons hv r => cases r with
    | cons hv' r => cases r; obtain ⟨t, rfl⟩ := rd_int hv; obtain ⟨u, rfl⟩ := rd_int hv'; obtain rfl : ks = [] := by simpa using hkn
                    exact Op.ofVal ok fun Q E k => call_range_2 (k _ _ _ (.rng m n) (stays_push _ _) ⟨_, _, _, _, rfl, vw_get.mpr ⟨Heap.get?_push_size _ rfl, ok.fresh (Nat.le_refl _)⟩⟩ h)
end

end Mine

-- P0
namespace Mine
open PySem PySem.StrLaws PySem.Builtin PySem.Builtin.Str

/-! ### texts as lists -/
def S (l : List Nat) : Str := ⟨l.toArray⟩
theorem S_cps (l : List Nat) : (S l).cps.toList = l := rfl
theorem S_len (l : List Nat) : (S l).length = l.length := by show l.toArray.size = _; simp
theorem S_app (a b : List Nat) : S a ++ S b = S (a ++ b) := by
  apply PySem.Str.ext'
  show a.toArray ++ b.toArray = (a ++ b).toArray
  simp
theorem S_of (x : Str) : S x.cps.toList = x := rfl
theorem S_inj {a b : List Nat} (h : S a = S b) : a = b := by
  have := congrArg (fun x : Str => x.cps.toList) h
  exact this

/-- the places of y, from the left, none over another, `lim` of them at most -/
def occL (y : List Nat) : Nat → Nat → Nat → List Nat → List Nat
  | _, _, _, [] => []
  | lim, k + 1, pos, _ :: r => occL y lim k (pos + 1) r
  | lim, 0, pos, c :: r => if lim ≠ 0 ∧ y.isPrefixOf (c :: r) = true then pos :: occL y (lim - 1) (y.length - 1) (pos + 1) r else occL y lim 0 (pos + 1) r

theorem take_prefix {y l : List Nat} : (l.take y.length == y) = y.isPrefixOf l := by
  rw [Bool.eq_iff_iff, beq_iff_eq, List.isPrefixOf_iff_prefix, List.prefix_iff_eq_take]
  exact eq_comm

theorem occ_run (l y : List Nat) (hy : y ≠ []) (limit : Nat) : ∀ (m i : Nat) (st : Array Nat × Nat), i + m = l.length + 1 →
    (forIn (List.range' i m) st (occBody (S l) (S y) l.length limit)).run.fst.toList = st.fst.toList ++ occL y (limit - st.fst.size) (st.snd - i) i (l.drop i)
  | 0, i, st, h => by
    have e : l.drop i = [] := by rw [List.drop_eq_nil_iff]; omega
    rw [e]
    show st.fst.toList = st.fst.toList ++ occL y _ _ _ []
    simp [occL]
  | m + 1, i, st, h => by
    have hyl : 1 ≤ y.length := by cases y with | nil => exact absurd rfl hy | cons _ _ => simp
    rw [List.range'_succ, List.forIn_cons]
    unfold occBody
    rw [S_len]
    have sub : subAt (S l) (S y) i = y.isPrefixOf (l.drop i) := by rw [subAt_eq, S_len, S_cps, S_cps, take_prefix]
    rw [sub]
    by_cases hi : i < l.length
    · have ed : l.drop i = l[i] :: l.drop (i + 1) := List.drop_eq_getElem_cons hi
      by_cases hc : ((st.fst.size < limit ∧ st.snd ≤ i) ∧ i + y.length ≤ l.length) ∧ y.isPrefixOf (l.drop i) = true
      · rw [if_pos hc]
        refine (occ_run l y hy limit m (i + 1) _ (by omega)).trans ?_
        have e0 : st.snd - i = 0 := Nat.sub_eq_zero_of_le hc.1.1.2
        have e1 : limit - (st.fst.push i).size = limit - st.fst.size - 1 := by rw [Array.size_push]; omega
        have e2 : i + y.length - (i + 1) = y.length - 1 := Nat.add_sub_add_left i y.length 1
        rw [e0, e1]
        have hp := hc.2
        rw [ed] at hp ⊢
        simp only [occL]
        rw [if_pos ⟨by omega, hp⟩, e2]
        simp
      · rw [if_neg hc]
        refine (occ_run l y hy limit m (i + 1) _ (by omega)).trans ?_
        congr 1
        rw [ed]
        cases hk : st.snd - i with
        | succ k =>
          simp only [occL]
          congr 1
          rw [Nat.sub_succ, hk]; rfl
        | zero =>
          have ek : st.snd - (i + 1) = 0 := by rw [Nat.sub_succ, hk]; rfl
          rw [ek]
          simp only [occL]
          rw [if_neg (fun hh => hc ⟨⟨⟨Nat.lt_of_sub_ne_zero hh.1, Nat.le_of_sub_eq_zero hk⟩, ?_⟩, by rw [ed]; exact hh.2⟩)]
          have := (List.isPrefixOf_iff_prefix.mp hh.2).length_le
          rw [← ed, List.length_drop] at this
          omega
    · rw [if_neg (fun hh => by omega)]
      have e1 : l.drop i = [] := by rw [List.drop_eq_nil_iff]; omega
      have e2 : l.drop (i + 1) = [] := by rw [List.drop_eq_nil_iff]; omega
      refine (occ_run l y hy limit m (i + 1) _ (by omega)).trans ?_
      rw [e1, e2]
      simp [occL]

theorem occ_list (l y : List Nat) (hy : y ≠ []) (lo limit : Nat) (hlo : lo ≤ l.length) : occurrences (S l) (S y) lo l.length limit = occL y limit 0 lo (l.drop lo) := by
  rw [occ_eq]
  have := occ_run l y hy limit (l.length + 1 - lo) lo (#[], lo) (by omega)
  simpa using this

theorem occL_skip (y : List Nat) (lim : Nat) : ∀ (k pos : Nat) (l : List Nat), occL y lim k pos l = occL y lim 0 (pos + k) (l.drop k)
  | 0, pos, l => by simp
  | k + 1, pos, [] => by simp [occL]
  | k + 1, pos, c :: r => by
    simp only [occL]
    rw [occL_skip y lim k (pos + 1) r, List.drop_succ_cons]
    congr 1
    omega
theorem occL_free (y : List Nat) (lim : Nat) : ∀ (row rest : List Nat) (pos : Nat), (∀ i, i < row.length → y.isPrefixOf ((row ++ rest).drop i) = false) → occL y lim 0 pos (row ++ rest) = occL y lim 0 (pos + row.length) rest
  | [], rest, pos, _ => by simp
  | c :: row, rest, pos, h => by
    rw [List.cons_append]
    simp only [occL]
    have h0 := h 0 (by simp)
    rw [if_neg (fun hh => by rw [List.drop_zero, List.cons_append] at h0; rw [h0] at hh; exact absurd hh.2 (by decide))]
    rw [occL_free y lim row rest (pos + 1) (fun i hi => by have := h (i + 1) (by simp; omega); simpa using this)]
    simp only [List.length_cons]
    congr 1
    omega
theorem occL_hit (y : List Nat) (hy : y ≠ []) (lim pos : Nat) (rest : List Nat) (hl : lim ≠ 0) : occL y lim 0 pos (y ++ rest) = pos :: occL y (lim - 1) 0 (pos + y.length) rest := by
  cases y with
  | nil => exact absurd rfl hy
  | cons c y =>
    rw [List.cons_append]
    simp only [occL]
    rw [if_pos ⟨hl, by rw [List.isPrefixOf_iff_prefix]; exact ⟨rest, by simp⟩⟩, occL_skip]
    simp only [List.length_cons, Nat.add_sub_cancel]
    have : (y ++ rest).drop y.length = rest := by simp
    rw [this]
    congr 2
    omega
theorem occL_lim0 (y : List Nat) : ∀ (k pos : Nat) (l : List Nat), occL y 0 k pos l = []
  | _, _, [] => by simp [occL]
  | 0, pos, c :: r => by simp only [occL]; rw [if_neg (fun h => h.1 rfl), occL_lim0]
  | k + 1, pos, c :: r => by simp only [occL]; rw [occL_lim0]
theorem occL_none (y : List Nat) (lim pos : Nat) (l : List Nat) (h : ∀ i, i < l.length → y.isPrefixOf (l.drop i) = false) : occL y lim 0 pos l = [] := by
  have := occL_free y lim l [] pos (by rw [List.append_nil]; exact h)
  rw [List.append_nil] at this
  rw [this]; simp [occL]
theorem occL_shift (y : List Nat) (p : Nat) : ∀ (l : List Nat) (lim k pos : Nat), occL y lim k (p + pos) l = (occL y lim k pos l).map (p + ·)
  | [], _, _, _ => by simp [occL]
  | c :: r, lim, k + 1, pos => by simp only [occL]; exact occL_shift y p r lim k (pos + 1)
  | c :: r, lim, 0, pos => by
    simp only [occL]
    split
    · rw [List.map_cons]
      congr 1
      exact occL_shift y p r _ _ (pos + 1)
    · exact occL_shift y p r _ _ (pos + 1)

/-! ### what a text is split into -/
def splitL (y : List Nat) (lim : Nat) (l : List Nat) : List Str := partsFrom (S l) y.length 0 (occL y lim 0 0 l)

theorem sub_shift (pre l : List Nat) (i j : Nat) : strSub (S (pre ++ l)) (pre.length + i) (pre.length + j) = strSub (S l) i j := by
  apply PySem.Str.ext'
  have h1 := strSub_toList (S (pre ++ l)) (pre.length + i) (pre.length + j)
  have h2 := strSub_toList (S l) i j
  rw [S_cps] at h1 h2
  have : (pre ++ l).drop (pre.length + i) = l.drop i := by rw [List.drop_append]; simp
  rw [this, Nat.add_sub_add_left] at h1
  exact Array.toList_inj.mp (h1.trans h2.symm)
theorem parts_shift (pre l : List Nat) (w : Nat) : ∀ (cuts : List Nat) (a : Nat), partsFrom (S (pre ++ l)) w (pre.length + a) (cuts.map (pre.length + ·)) = partsFrom (S l) w a cuts
  | [], a => by
    show [strSub _ _ _] = [strSub _ _ _]
    rw [S_len, S_len, List.length_append, sub_shift]
  | c :: r, a => by
    show strSub _ _ _ :: partsFrom _ _ _ _ = strSub _ _ _ :: partsFrom _ _ _ _
    rw [sub_shift]
    congr 1
    have := parts_shift pre l w r (c + w)
    rw [← this]
    congr 1
    show pre.length + c + w = _
    omega
theorem splitL_none (y : List Nat) (lim : Nat) (l : List Nat) (h : ∀ i, i < l.length → y.isPrefixOf (l.drop i) = false) : splitL y lim l = [S l] := by
  unfold splitL
  rw [occL_none y lim 0 l h]
  show [strSub (S l) 0 (S l).length] = _
  rw [sub_whole]
theorem splitL_lim0 (y l : List Nat) : splitL y 0 l = [S l] := by
  unfold splitL
  rw [occL_lim0]
  show [strSub (S l) 0 (S l).length] = _
  rw [sub_whole]
theorem splitL_more (y : List Nat) (hy : y ≠ []) (lim : Nat) (hl : lim ≠ 0) (row rest : List Nat) (h : ∀ i, i < row.length → y.isPrefixOf ((row ++ (y ++ rest)).drop i) = false) :
    splitL y lim (row ++ (y ++ rest)) = S row :: splitL y (lim - 1) rest := by
  unfold splitL
  rw [occL_free y lim row (y ++ rest) 0 h, occL_hit y hy lim _ rest hl]
  show strSub _ 0 (0 + row.length) :: partsFrom _ _ (0 + row.length + y.length) _ = _
  congr 1
  · apply PySem.Str.ext'
    apply Array.toList_inj.mp
    rw [strSub_toList, S_cps]
    simp [S]
  · have e1 : 0 + row.length + y.length = (row ++ y).length + 0 := by simp
    rw [e1, occL_shift, ← List.append_assoc]
    exact parts_shift (row ++ y) rest y.length _ 0

theorem split_eq {x y : Str} (hk : strKind y = 1) (hy : y.length ≠ 0) (limit : Nat) :
    (if (decide (x.length < y.length) || decide (strKind x < strKind y)) = true then [x] else if (occurrences x y 0 x.length limit).isEmpty = true then [x] else partsBetween x (occurrences x y 0 x.length limit) y.length) =
      partsFrom x y.length 0 (occurrences x y 0 x.length limit) := by
  have hx : 1 ≤ strKind x := by
    unfold Builtin.Str.strKind
    split
    · omega
    · split <;> omega
  have h2 : decide (strKind x < strKind y) = false := by rw [hk]; simp; omega
  rw [h2, Bool.or_false]
  have e0 : occurrences x y 0 x.length limit = [] → partsFrom x y.length 0 (occurrences x y 0 x.length limit) = [x] := by
    intro e
    rw [e]
    show [strSub x 0 x.length] = _
    rw [sub_whole]
  by_cases hl : x.length < y.length
  · rw [if_pos (by simpa using hl), e0]
    obtain ⟨f, hc⟩ := occ_chain x y limit
    cases ho : occurrences x y 0 x.length limit with
    | nil => rfl
    | cons c r =>
      rw [ho] at hc
      have := hc.2.1.1
      omega
  · rw [if_neg (by simpa using hl)]
    cases ho : occurrences x y 0 x.length limit with
    | nil => rw [ho] at e0; exact (e0 rfl).symm
    | cons c r => rw [if_neg (by simp), partsBetween_eq]

theorem split_list {l y : List Nat} (hk : strKind (S y) = 1) (hy : y ≠ []) : Txt.split (S l) (S y) = splitL y (l.length + 1) l := by
  have hy' : (S y).length ≠ 0 := by rw [S_len]; cases y with | nil => exact absurd rfl hy | cons _ _ => simp
  refine (split_eq hk hy' _).trans ?_
  unfold splitL
  rw [S_len, S_len, occ_list l y hy 0 _ (Nat.zero_le _), List.drop_zero]
theorem splitMax_list {l y : List Nat} (hk : strKind (S y) = 1) (hy : y ≠ []) (k : Int) : Txt.splitMax (S l) (S y) k = splitL y (limitOf (S l) k) l := by
  have hy' : (S y).length ≠ 0 := by rw [S_len]; cases y with | nil => exact absurd rfl hy | cons _ _ => simp
  refine (split_eq hk hy' _).trans ?_
  unfold splitL
  rw [S_len, S_len, occ_list l y hy 0 _ (Nat.zero_le _), List.drop_zero]
end Mine

-- M7
namespace Mine
open PySem PySem.W PySem.Calls PyProof.Rows

variable {cx : Cx} {d : Nat} {env : Env} {ρ : Vars} {st : Store} {pos : Pos} {Post : V → Store → Prop}

theorem tcall_bi {f : Value} {xs : List V} (h : ∀ A o al s vs, Room A d → Ok cx o al st s.heap s.toks → VRepAll cx (vw s.heap (o ++ al)) al vs xs → Op cx A (call f vs) o al st s Post) : tcall cx d (.ext f) xs [] st Post := by
  intro A o al s fv vs ks R ok hf hv hkn hks
  obtain rfl : fv = f := hf
  obtain rfl : ks = [] := by simpa using hkn
  exact h A o al s vs R ok hv
theorem va1 {g : Heap} {al : List Addr} {vs : List Value} {x : V} (h : VRepAll cx g al vs [x]) : ∃ v, vs = [v] ∧ VRep cx g al v x := by
  cases h with | cons h r => cases r; exact ⟨_, rfl, h⟩
theorem va2 {g : Heap} {al : List Addr} {vs : List Value} {x y : V} (h : VRepAll cx g al vs [x, y]) : ∃ v w, vs = [v, w] ∧ VRep cx g al v x ∧ VRep cx g al w y := by
  cases h with | cons h r => cases r with | cons h2 r => cases r; exact ⟨_, _, rfl, h, h2⟩
theorem va3 {g : Heap} {al : List Addr} {vs : List Value} {x y z : V} (h : VRepAll cx g al vs [x, y, z]) : ∃ v w u, vs = [v, w, u] ∧ VRep cx g al v x ∧ VRep cx g al w y ∧ VRep cx g al u z := by
  cases h with | cons h r => cases r with | cons h2 r => cases r with | cons h3 r => cases r; exact ⟨_, _, _, rfl, h, h2, h3⟩

theorem tcall_len {x : PySem.Str} (hz : (x.length : Int) < 2 ^ 63) (h : Post (.d (.int x.length)) st) : tcall cx d (.ext (.builtin "len")) [.d (.str x)] [] st Post := tcall_bi fun A o al s vs R ok hv => by
  obtain ⟨_, rfl, v1⟩ := va1 hv
  obtain ⟨t, rfl⟩ := rd_str v1
  exact Op.ofVal ok fun Q E k => len_str (by omega) (k _ s.heap _ (.d (.int x.length)) (fun _ _ e => e) (.int _ _) h)
theorem tcall_lenL {xs : List PyData} (hz : (xs.length : Int) < 2 ^ 63) (h : Post (.d (.int xs.length)) st) : tcall cx d (.ext (.builtin "len")) [.d (.list xs)] [] st Post := tcall_bi fun A o al s vs R ok hv => by
  obtain ⟨_, rfl, v1⟩ := va1 hv
  obtain ⟨a, ws, rfl, hl, hr⟩ := rd_list v1
  have e : ws.size = xs.length := by rw [← Array.length_toList, hr.length]
  refine Op.ofVal ok fun Q E k => call_len_list (isList_of_vw hl) (by rw [e]; exact hz) ?_
  rw [e]
  exact k _ s.heap _ (.d (.int xs.length)) (fun _ _ e => e) (.int _ _) h
theorem tcall_chr {i : Int} (h0 : 0 ≤ i) (h1 : i ≤ 1114111) (h : Post (.d (.str ⟨#[i.toNat]⟩)) st) : tcall cx d (.ext (.builtin "chr")) [.d (.int i)] [] st Post := tcall_bi fun A o al s vs R ok hv => by
  obtain ⟨_, rfl, v1⟩ := va1 hv
  obtain ⟨t, rfl⟩ := rd_int v1
  exact Op.ofVal ok fun Q E k => chr_of_range h0 h1 (k _ s.heap _ (.d (.str ⟨#[i.toNat]⟩)) (fun _ _ e => e) (.str _ _) h)
theorem tcall_min {a b : Int} (h : Post (.d (.int (min a b))) st) : tcall cx d (.ext (.builtin "min")) [.d (.int a), .d (.int b)] [] st Post := tcall_bi fun A o al s vs R ok hv => by
  obtain ⟨_, _, rfl, v1, v2⟩ := va2 hv
  obtain ⟨t, rfl⟩ := rd_int v1
  obtain ⟨u, rfl⟩ := rd_int v2
  refine Op.ofVal ok fun Q E k => min_two_ints R.hd fun h' tk hk => ?_
  refine k _ h' tk (.d (.int (min a b))) hk ?_ h
  by_cases hb : b < a
  · rw [if_pos hb, Int.min_eq_right (by omega)]; exact .int _ _
  · rw [if_neg hb, Int.min_eq_left (by omega)]; exact .int _ _
theorem tcall_str {a : Int} (h1 : -1000000000 < a) (h2 : a < 1000000000) (h : Post (.d (.str (PySem.Str.ofString (toString a)))) st) : tcall cx d (.ext (.type "str")) [.d (.int a)] [] st Post := tcall_bi fun A o al s vs R ok hv => by
  obtain ⟨_, rfl, v1⟩ := va1 hv
  obtain ⟨t, rfl⟩ := rd_int v1
  exact Op.ofVal ok fun Q E k => str_of_int_fit (N := 1000000000) (by split <;> omega) (by decide) fun _ => k _ s.heap _ (.d (.str (PySem.Str.ofString (toString a)))) (fun _ _ e => e) (.str _ _) h
theorem tcall_int {x : PySem.Str} {n : Int} (hn : PySem.intText? x = some n) (hl : x.length ≤ 640) (h : Post (.d (.int n)) st) : tcall cx d (.ext (.type "int")) [.d (.str x)] [] st Post := tcall_bi fun A o al s vs R ok hv => by
  obtain ⟨_, rfl, v1⟩ := va1 hv
  obtain ⟨t, rfl⟩ := rd_str v1
  exact Op.ofVal ok fun Q E k => KIN.call_text hn hl (k _ s.heap _ (.d (.int n)) (fun _ _ e => e) (.int _ _) h)

/-! ### a text's methods -/
theorem tgm_str {name : PySem.Str} {id : String} {x : PySem.Str} (hg : ∀ {M : Model} {A : Around} {E : Value → Shared → Prop} {s : Shared} {t : Tok} {pl : Sem Bool} {Q : Value × List Value → Shared → Prop}, Q (.builtin id, [.str x t]) s → wpAny M A (getMethod (.str x t) name pl) Q E s) :
    tgm cx d (.d (.str x)) name (.builtin id) [.d (.str x)] st := by
  intro A o al s va pl R ok hv Q E k
  obtain ⟨t, rfl⟩ := rd_str hv
  exact hg (k _ s.toks (Nat.le_refl _) (.cons (.str _ _) .nil))

theorem tcall_find {x y : PySem.Str} (h : Post (.d (.int (Txt.find x y))) st) : tcall cx d (.ext (.builtin "str.find")) [.d (.str x), .d (.str y)] [] st Post := tcall_bi fun A o al s vs R ok hv => by
  obtain ⟨_, _, rfl, v1, v2⟩ := va2 hv
  obtain ⟨t, rfl⟩ := rd_str v1
  obtain ⟨u, rfl⟩ := rd_str v2
  exact Op.ofVal ok fun Q E k => SC.find (k _ s.heap _ (.d (.int (Txt.find x y))) (fun _ _ e => e) (.int _ _) h)
theorem tcall_find3 {x y : PySem.Str} {i : Int} (h : Post (.d (.int (Txt.find3 x y i))) st) : tcall cx d (.ext (.builtin "str.find")) [.d (.str x), .d (.str y), .d (.int i)] [] st Post := tcall_bi fun A o al s vs R ok hv => by
  obtain ⟨_, _, _, rfl, v1, v2, v3⟩ := va3 hv
  obtain ⟨t, rfl⟩ := rd_str v1
  obtain ⟨u, rfl⟩ := rd_str v2
  obtain ⟨v, rfl⟩ := rd_int v3
  exact Op.ofVal ok fun Q E k => SC.find3 (k _ s.heap _ (.d (.int (Txt.find3 x y i))) (fun _ _ e => e) (.int _ _) h)
theorem tcall_count {x y : PySem.Str} (h : Post (.d (.int (Txt.count x y))) st) : tcall cx d (.ext (.builtin "str.count")) [.d (.str x), .d (.str y)] [] st Post := tcall_bi fun A o al s vs R ok hv => by
  obtain ⟨_, _, rfl, v1, v2⟩ := va2 hv
  obtain ⟨t, rfl⟩ := rd_str v1
  obtain ⟨u, rfl⟩ := rd_str v2
  exact Op.ofVal ok fun Q E k => SC.count (k _ s.heap _ (.d (.int (Txt.count x y))) (fun _ _ e => e) (.int _ _) h)
theorem tcall_lower {x : PySem.Str} (hz : x.length ≤ 5000000) (h : Post (.d (.str (Txt.lower x))) st) : tcall cx d (.ext (.builtin "str.lower")) [.d (.str x)] [] st Post := tcall_bi fun A o al s vs R ok hv => by
  obtain ⟨_, rfl, v1⟩ := va1 hv
  obtain ⟨t, rfl⟩ := rd_str v1
  exact Op.ofVal ok fun Q E k => SCL.lower (by omega) fun _ => k _ s.heap _ (.d (.str (Txt.lower x))) (fun _ _ e => e) (.str _ _) h
theorem tcall_swapcase {x : PySem.Str} (hz : x.length ≤ 5000000) (h : Post (.d (.str (Txt.swapcase x))) st) : tcall cx d (.ext (.builtin "str.swapcase")) [.d (.str x)] [] st Post := tcall_bi fun A o al s vs R ok hv => by
  obtain ⟨_, rfl, v1⟩ := va1 hv
  obtain ⟨t, rfl⟩ := rd_str v1
  exact Op.ofVal ok fun Q E k => SCL.swapcase (by omega) fun _ => k _ s.heap _ (.d (.str (Txt.swapcase x))) (fun _ _ e => e) (.str _ _) h

/-! texts in a list -/
def txs (ts : List PySem.Str) : List PyData := ts.map .str
theorem rd_txs {g : Heap} : ∀ {vs : List Value} {ts : List PySem.Str}, RdAll g vs (txs ts) → ∃ l : List (PySem.Str × Tok), vs = strValues l ∧ l.map (·.1) = ts
  | [], [], _ => ⟨[], rfl, rfl⟩
  | v :: vs, t :: ts, h => by
    cases h with
    | cons h r =>
      obtain ⟨u, rfl⟩ := rd_str h
      obtain ⟨l, rfl, e⟩ := rd_txs r
      exact ⟨(t, u) :: l, rfl, by rw [List.map_cons, e]⟩
  | [], _ :: _, h => by cases h
  | _ :: _, [], h => by cases h
theorem txs_rd {g : Heap} : ∀ l : List (PySem.Str × Tok), RdAll g (strValues l) (txs (l.map (·.1)))
  | [] => .nil
  | (x, t) :: r => .cons (.str x t) (txs_rd r)

theorem tcall_join {x : PySem.Str} {ts : List PySem.Str} (hj : JoinOk x ts = true) (h : Post (.d (.str (Txt.join x ts))) st) : tcall cx d (.ext (.builtin "str.join")) [.d (.str x), .d (.list (txs ts))] [] st Post := tcall_bi fun A o al s vs R ok hv => by
  obtain ⟨_, _, rfl, v1, v2⟩ := va2 hv
  obtain ⟨t, rfl⟩ := rd_str v1
  obtain ⟨a, ws, rfl, hl, hr⟩ := rd_list v2
  obtain ⟨l, e, et⟩ := rd_txs hr
  have hl' : s.heap.IsList a (strValues l).toArray := by rw [← e]; exact isList_of_vw hl
  exact Op.ofVal ok fun Q E k => SC.join hl' et hj fun t' k' => k _ s.heap k' (.d (.str (Txt.join x ts))) (fun _ _ e => e) (.str _ _) h
theorem new_list {g : Heap} (vs : List Value) : LX (g.push { cls := .type "list", data := .seq vs.toArray }) g.objs.size vs.toArray := ⟨_, Heap.get?_push_size _ rfl, rfl, 0, rfl, rfl, rfl⟩
open Builtin Builtin.Str in
theorem split_run {prog : Program} {w : World} {A : Around} {E : Value → Shared → Prop} {s : Shared} {x y : PySem.Str} {t u : Tok} {Q : Value → Shared → Prop} (hy : (y.length == 0) = false) (hsz : x.length + 2 ≤ sizeLine)
    (h : ∀ l k, l.map (·.1) = Txt.split x y → Q (.ref s.heap.objs.size) { s with heap := s.heap.push { cls := .type "list", data := .seq (strValues l).toArray }, toks := k }) :
    wpAny (model prog w) A (call (.builtin "str.split") [.str x t, .str y u]) Q E s := by
  have hn : (partsBetween x (occurrences x y 0 x.length (x.length + 1)) y.length).length ≤ sizeLine := by
    have e1 := StrLaws.occ_length_le_len x y 0 x.length (x.length + 1)
    rw [length_partsBetween]; omega
  cases h1 : (decide (x.length < y.length) || decide (Builtin.Str.strKind x < Builtin.Str.strKind y)) with
  | true =>
    exact call_meets F.slot_str_split (typeIs_str _ _ _) F.entry_str_split (F.args_str_split_2 _ _) (meets_str_split_cannot_occur x y t u h1) (h [(x, t)] s.toks (if_pos h1).symm)
  | false =>
    cases hf : (occurrences x y 0 x.length (x.length + 1)).isEmpty with
    | true => exact call_meets F.slot_str_split (typeIs_str _ _ _) F.entry_str_split (F.args_str_split_2 _ _) (meets_str_split_not_found x y t u h1 hy hf) (h [(x, t)] s.toks ((if_neg (ne_true_of_eq_false h1)).trans (if_pos hf)).symm)
    | false =>
      refine call_meets F.slot_str_split (typeIs_str _ _ _) F.entry_str_split (F.args_str_split_2 _ _) (meets_str_split_sep x y t u h1 hy hf (by omega) hn) ?_
      show wants Q E _ { s with toks := _, heap := s.heap.push { cls := .type "list", data := .seq (strsFrom s.toks (partsBetween x (occurrences x y 0 x.length (x.length + 1)) y.length)).toArray } }
      rw [strsFrom_eq]
      exact h (numbered s.toks _) _ ((numbered_texts _ _).trans ((if_neg (ne_true_of_eq_false h1)).trans (if_neg (ne_true_of_eq_false hf))).symm)
open Builtin Builtin.Str in
theorem splitMax_run {prog : Program} {w : World} {A : Around} {E : Value → Shared → Prop} {s : Shared} {x y : PySem.Str} {t u v : Tok} {n : Int} {Q : Value → Shared → Prop} (hy : (y.length == 0) = false) (hk : (decide (n < -(2 ^ 63 : Int)) || decide (n ≥ 2 ^ 63)) = false) (hsz : x.length + 2 ≤ sizeLine)
    (h : ∀ l k, l.map (·.1) = Txt.splitMax x y n → Q (.ref s.heap.objs.size) { s with heap := s.heap.push { cls := .type "list", data := .seq (strValues l).toArray }, toks := k }) :
    wpAny (model prog w) A (call (.builtin "str.split") [.str x t, .str y u, .int n v]) Q E s := by
  have hn : (partsBetween x (occurrences x y 0 x.length (limitOf x n)) y.length).length ≤ sizeLine := by
    have e1 := StrLaws.occ_length_le_len x y 0 x.length (limitOf x n)
    rw [length_partsBetween]; omega
  cases h1 : (decide (x.length < y.length) || decide (Builtin.Str.strKind x < Builtin.Str.strKind y)) with
  | true =>
    exact call_meets F.slot_str_split (typeIs_str _ _ _) F.entry_str_split (F.args_str_split_3 _ _ _) (meets_str_split_max_cannot_occur x y n t u v hk h1) (h [(x, t)] s.toks (if_pos h1).symm)
  | false =>
    cases hf : (occurrences x y 0 x.length (limitOf x n)).isEmpty with
    | true => exact call_meets F.slot_str_split (typeIs_str _ _ _) F.entry_str_split (F.args_str_split_3 _ _ _) (meets_str_split_max_not_found x y n t u v hk h1 hy hf) (h [(x, t)] s.toks ((if_neg (ne_true_of_eq_false h1)).trans (if_pos hf)).symm)
    | false =>
      refine call_meets F.slot_str_split (typeIs_str _ _ _) F.entry_str_split (F.args_str_split_3 _ _ _) (meets_str_split_sep_max x y n t u v hk h1 hy hf (by omega) hn) ?_
      show wants Q E _ { s with toks := _, heap := s.heap.push { cls := .type "list", data := .seq (strsFrom s.toks (partsBetween x (occurrences x y 0 x.length (limitOf x n)) y.length)).toArray } }
      rw [strsFrom_eq]
      exact h (numbered s.toks _) _ ((numbered_texts _ _).trans ((if_neg (ne_true_of_eq_false h1)).trans (if_neg (ne_true_of_eq_false hf))).symm)

theorem tcall_split {x y : PySem.Str} (hy : (y.length == 0) = false) (hz : x.length ≤ 100000) (h : Post (.d (.list (txs (Txt.split x y)))) st) : tcall cx d (.ext (.builtin "str.split")) [.d (.str x), .d (.str y)] [] st Post := tcall_bi fun A o al s vs R ok hv => by
  obtain ⟨_, _, rfl, v1, v2⟩ := va2 hv
  obtain ⟨t, rfl⟩ := rd_str v1
  obtain ⟨u, rfl⟩ := rd_str v2
  have hle : (100002 : Nat) ≤ sizeLine := by decide
  refine Op.ofVal ok fun Q E k => split_run hy (by omega) fun l k' e => k _ _ k' (.d (.list (txs (Txt.split x y)))) (stays_push _ _) (.list (isList_new (ok.fresh (Nat.le_refl _))) ?_) h
  rw [← e]; exact txs_rd l
theorem tcall_splitMax {x y : PySem.Str} {n : Int} (hy : (y.length == 0) = false) (hn0 : 0 ≤ n) (hn1 : n < 1000) (hz : x.length ≤ 100000) (h : Post (.d (.list (txs (Txt.splitMax x y n)))) st) : tcall cx d (.ext (.builtin "str.split")) [.d (.str x), .d (.str y), .d (.int n)] [] st Post := tcall_bi fun A o al s vs R ok hv => by
  obtain ⟨_, _, _, rfl, v1, v2, v3⟩ := va3 hv
  obtain ⟨t, rfl⟩ := rd_str v1
  obtain ⟨u, rfl⟩ := rd_str v2
  obtain ⟨v, rfl⟩ := rd_int v3
  have hle : (100002 : Nat) ≤ sizeLine := by decide
  refine Op.ofVal ok fun Q E k => splitMax_run hy (by simp; omega) (by omega) fun l k' e => k _ _ k' (.d (.list (txs (Txt.splitMax x y n)))) (stays_push _ _) (.list (isList_new (ok.fresh (Nat.le_refl _))) ?_) h
  rw [← e]; exact txs_rd l
end Mine

-- M8
namespace Mine
open PySem PySem.W PySem.Calls PyProof.Rows

section
variable {prog : Program} {w : World} {A : Around} {E : Value → Shared → Prop} {s : Shared} {x : PySem.Str} {n : Int} {t u : Tok}
theorem mul_strR {Q : Value → Shared → Prop} (hok : MulOk x n) (h : ∀ t' k, (t' = t ∨ t' = s.toks) → s.toks ≤ k → t' < k ∨ t' = t → Q (.str (Txt.mul x n) t') { s with toks := k }) : wpAny (model prog w) A (binaryOp .Mult (.int n u) (.str x t)) Q E s := by
  refine lm_binaryOp_repeat_right (T := "str") (U := "int") (by decide) (fun s' => typeIs_int s' n u) (typeIs_str s x t) F.fills_int_mul noFill_str_mul F.slot_int_mul lm_noRepeat_int repeat_str F.slot_int_index.lookup
    (call_gives F.slot_int_mul (typeIs_int s n u) F.entry_int_mul (F.args_int_mul_2 _ _) (AutoIntG3.int___mul___int_str_0 n u x t) ⟨rfl, typeIs_str _ x t, call_gives F.slot_str_mul (typeIs_str s x t) F.entry_str_mul (F.args_str_mul_2 _ _) (gives_str_mul x n t u hok.1 hok.2.1 hok.2.2) ?_⟩)
  unfold Txt.mul at h
  by_cases h1 : n < 1
  · rw [if_pos h1]
    have h' := h s.toks (s.toks + 1) (.inr rfl) (Nat.le_succ _) (.inl (Nat.lt_succ_self _))
    rw [if_pos h1] at h'
    exact ⟨by decide, h'⟩
  · rw [if_neg h1] at h ⊢
    by_cases h2 : (n == 1 || x.length == 0) = true
    · rw [if_pos h2] at h ⊢
      exact h t s.toks (.inl rfl) (Nat.le_refl _) (.inr rfl)
    · rw [if_neg h2] at h ⊢
      exact ⟨fits_reps (hok.2.2 h1 (by simpa using h2)), h s.toks (s.toks + 1) (.inr rfl) (Nat.le_succ _) (.inl (Nat.lt_succ_self _))⟩
end

variable {cx : Cx} {d : Nat} {env : Env} {ρ : Vars} {st : Store} {pos : Pos} {Post : V → Store → Prop}

theorem mulOk_of {x : PySem.Str} {n : Int} (hx : x.length ≤ 1000) (hn : n ≤ 1000) (hn0 : -1000 ≤ n) : MulOk x n := by
  refine ⟨?_, fun h1 _ => ?_, fun h1 _ => ?_⟩
  · have a : decide (n < -(2 ^ 63 : Int)) = false := by simp; omega
    have b : decide (n ≥ 2 ^ 63) = false := by simp; omega
    rw [a, b]; rfl
  · have : (1000 : Int) ≤ (2 ^ 63 - 1) / n := by
      rw [Int.le_ediv_iff_mul_le (by omega)]
      have : 1000 * n ≤ 1000 * 1000 := by omega
      omega
    omega
  · have : x.length * n.toNat ≤ 1000 * 1000 := Nat.mul_le_mul hx (by omega)
    have h2 : (1000 * 1000 : Nat) ≤ sizeLine := by decide
    show decide (x.length * n.toNat > sizeLine) = false
    simp; omega
theorem foldl_rep (l : List Nat) : ∀ (n : Nat) (acc : Array Nat), ((List.replicate n l.toArray).foldl (· ++ ·) acc).toList = acc.toList ++ (List.replicate n l).flatten
  | 0, acc => by simp
  | n + 1, acc => by
    rw [List.replicate_succ, List.foldl_cons, foldl_rep l n, List.replicate_succ, List.flatten_cons]
    simp
theorem mul_S (l : List Nat) (n : Int) : Txt.mul (S l) n = S (List.replicate n.toNat l).flatten := by
  apply PySem.Str.ext'
  apply Array.toList_inj.mp
  unfold Txt.mul
  by_cases h1 : n < 1
  · rw [if_pos h1, show n.toNat = 0 by omega]; rfl
  · rw [if_neg h1]
    by_cases h2 : (n == 1 || (S l).length == 0) = true
    · rw [if_pos h2]
      rw [Bool.or_eq_true, beq_iff_eq, beq_iff_eq, S_len] at h2
      rcases h2 with rfl | h2
      · simp
      · have : l = [] := List.eq_nil_of_length_eq_zero h2
        subst this
        simp [S]
    · rw [if_neg h2]
      show ((List.replicate n.toNat l.toArray).foldl (· ++ ·) #[]).toList = _
      rw [foldl_rep]; simp [S]
theorem mul_one (c : Nat) (n : Int) : Txt.mul (S [c]) n = S (List.replicate n.toNat c) := by
  rw [mul_S]
  congr 1
  generalize n.toNat = k
  induction k with
  | zero => rfl
  | succ k ih => rw [List.replicate_succ, List.flatten_cons, ih, List.replicate_succ]; rfl

theorem tbin_repR {c : Nat} {n : Int} (hn : n ≤ 1000) (hn0 : -1000 ≤ n) (h : Post (.d (.str (S (List.replicate n.toNat c)))) st) : tbin cx d .Mult (.d (.int n)) (.d (.str (S [c]))) st Post := by
  intro A o al s va vb R ok v1 v2
  obtain ⟨t, rfl⟩ := rd_int v1; obtain ⟨u, rfl⟩ := rd_str v2
  refine Op.ofVal ok fun Q E k => mul_strR (mulOk_of (by rw [S_len]; simp) hn hn0) fun t' tk _ _ _ => ?_
  rw [mul_one]
  exact k _ s.heap tk (.d (.str (S (List.replicate n.toNat c)))) (fun _ _ e => e) (.str _ _) h
theorem tbin_pow {n : Int} (hn : 0 ≤ n) (hn1 : n ≤ 100) (h : Post (.d (.int (2 ^ n.toNat))) st) : tbin cx d .Pow (.d (.int 2)) (.d (.int n)) st Post := by
  intro A o al s va vb R ok v1 v2
  obtain ⟨t, rfl⟩ := rd_int v1; obtain ⟨u, rfl⟩ := rd_int v2
  have e : Builtin.Int.intBits 2 = 2 := by decide +kernel
  exact Op.ofVal ok fun Q E k => pow_int hn (by rw [e]; omega) (k _ s.heap _ (.d (.int (2 ^ n.toNat))) (fun _ _ e => e) (.int _ _) h)

/-! ### a text whose token is new -/
def tef (cx : Cx) (d : Nat) (env : Env) (ρ : Vars) (st : Store) (e : Expr) (Post : PySem.Str → Store → Prop) : Prop :=
  ∀ A hx al s Q E, Room A d → At cx env hx al ρ st s.heap s.toks →
    (∀ x t st' al' h' tk', Nx cx (ow env hx) al al' st' s.heap h' tk' → s.toks ≤ t → t < tk' → Post x st' → Q (.str x t) { s with heap := h', toks := tk' }) → wpAny (model cx.prog cx.w) A (eval e env) Q E s
theorem nx_same {env : Env} {hx al : List Addr} {h : Heap} {tk tk' : Nat} (a : At cx env hx al ρ st h tk) (l : tk ≤ tk') : Nx cx (ow env hx) al [] st h h tk' := (Nx.refl a.ok).raise l
theorem tef_const {x : PySem.Str} {kk : Nat} {Post : PySem.Str → Store → Prop} (h : Post x st) : tef cx d env ρ st (.Constant (.str x) kk pos) Post := by
  intro A hx al s Q E R a k
  exact Constant_str (k x s.toks st [] s.heap (s.toks + 1) (nx_same a (Nat.le_succ _)) (Nat.le_refl _) (Nat.lt_succ_self _) h)
theorem tef_rep {e1 e2 : Expr} {Post : PySem.Str → Store → Prop} (h : te cx d env ρ st e1 fun v st₁ => ∃ n, v = .d (.int n) ∧ n ≤ 1000 ∧ -1000 ≤ n ∧ tef cx d env ρ st₁ e2 fun x st₂ => x.length ≤ 1000 ∧ Post (Txt.mul x n) st₂) : tef cx d env ρ st (.BinOp e1 .Mult e2 pos) Post := by
  intro A hx al s Q E R a k
  refine wpAny_BinOp (wpAny_with_toks (n := s.toks) (Nat.le_refl _) (h A hx al s R a _ _ fun v st₁ va al₁ h₁ tk₁ n₁ v₁ p₁ htk₁ => ?_))
  obtain ⟨n, rfl, b1, b2, p₁⟩ := p₁
  obtain ⟨t, rfl⟩ := rd_int v₁
  refine p₁ A _ _ _ _ E R (a.next n₁) fun x t₂ st₂ al₂ h₂ tk₂ n₂ l1 l2 p₂ => ?_
  refine mul_strR (mulOk_of p₂.1 b1 b2) fun t' tk q1 q2 q3 => ?_
  have q1' : t' = t₂ ∨ t' = tk₂ := q1
  have q2' : tk₂ ≤ tk := q2
  have l1' : tk₁ ≤ t₂ := l1
  have htk' : s.toks ≤ tk₁ := htk₁
  have b1' : s.toks ≤ t' := by
    rcases q1 with rfl | rfl
    · exact Nat.le_trans htk' l1'
    · exact Nat.le_trans htk' (Nat.le_of_lt (Nat.lt_of_le_of_lt l1' l2))
  have b2' : t' < tk := by
    rcases q3 with q | rfl
    · exact q
    · exact Nat.lt_of_lt_of_le l2 q2'
  exact k _ t' st₂ (al₁ ++ al₂) h₂ tk ((n₁.trans n₂).raise q2') b1' b2' p₂.2

theorem Ok.nb {o al : List Addr} {h : Heap} {tk : Nat} (ok : Ok cx o al st h tk) : NoneBooked h := by
  obtain ⟨mc, h1, h2⟩ := cx.nb
  exact ⟨mc, h1.keeps fun b o e => (vw_get.mp (ok.base b o e)).1, h2⟩

/-- ob.replace('x', e2) -/
theorem te_replace {ob e1 e2 : Expr} {apos : Pos} (h : te cx d env ρ st ob fun v st₁ => ∃ x, v = .d (.str x) ∧ tef cx d env ρ st₁ e1 fun y st₂ => tef cx d env ρ st₂ e2 fun z st₃ => x.length + (x.length + 1) * z.length ≤ 16777216 ∧ Post (.d (.str (Txt.replace x y z))) st₃)
    (hp : plainArgs [e1, e2] = true := by rfl)
    (hbase : attributeBase ob "replace" env (eval ob env) = eval ob env := by rfl) (hline : (apos.endLine == pos.line) = true := by rfl) : te cx d env ρ st (.Call (.Attribute ob "replace" apos) [e1, e2] [] pos) Post := by
  intro A hx al s R a Q E k
  obtain ⟨s1, p1⟩ := starEach_plain (env := env) hp
  obtain ⟨s2, p2⟩ := starEach_plain (env := env) p1
  have hform : methodCallForm ([e1, e2].length + ([] : List Keyword).length) (backTo pos (starEach [e1, e2] env)) (backToKw pos (keywordEach [] env)) = true := by
    rw [s1, s2]
    rfl
  have hpos : methodCallPos true ob env apos pos = pure pos := by unfold methodCallPos; simp [hline]
  rw [arm_eval_Call, hbase]
  refine wpAny_bind (h A hx al s R a _ E fun v st₁ va al₁ h₁ tk₁ n₁ v₁ p₁ => ?_)
  obtain ⟨x, rfl, p₁⟩ := p₁
  obtain ⟨t, rfl⟩ := rd_str v₁
  refine wpAny_bind (wpAny_standAt ?_)
  unfold methodCall
  rw [hform]
  refine wpAny_bind (wpAny_holding ?_)
  refine GM.replace ?_
  refine wpAny_bind (wpAny_of_eq hpos ?_)
  refine callWith_of (P := fun h => True) (by rw [s1, s2]; rfl) (fun _ _ => keeps_any (by intro a e; cases e)) ?_
  rw [s1, s2]
  refine evalArgs_plain (spliced_cons ?_)
  refine p₁ A _ _ _ _ E R (a.next n₁) fun y u st₂ al₂ h₂ tk₂ n₂ l1 l2 p₂ => ?_
  refine spliced_cons ?_
  refine p₂ A _ _ _ _ E R ((a.next n₁).next n₂) fun z u' st₃ al₃ h₃ tk₃ n₃ l3 l4 p₃ => ?_
  refine spliced_nil ⟨trivial, ?_⟩
  have l1' : tk₁ ≤ u := l1
  have l2' : u < tk₂ := l2
  have l3' : tk₂ ≤ u' := l3
  have n123 := n₁.trans (n₂.trans n₃)
  have t1 : 0 < tk₁ := n₁.ok.tok
  refine wpAny_with_toks (n := tk₃) (Nat.le_refl _) (SC.replaceA (Nat.pos_iff_ne_zero.mp (Nat.lt_of_lt_of_le t1 l1')) (Nat.pos_iff_ne_zero.mp (Nat.lt_of_lt_of_le (Nat.lt_of_le_of_lt (Nat.zero_le u) l2') l3')) (Nat.ne_of_lt (Nat.lt_of_lt_of_le l2' l3')) p₃.1 (fun t' kk hk => ?_) n₃.ok.nb)
  have hk' : tk₃ ≤ kk := hk
  exact k (.d (.str (Txt.replace x y z))) st₃ (.str _ t') (al₁ ++ (al₂ ++ al₃)) h₃ kk (n123.raise hk') (.str _ _) p₃.2
end Mine

-- M9
namespace Mine
open PySem PySem.W PySem.Calls PyProof.Rows

variable {cx : Cx} {d : Nat} {env : Env} {ρ : Vars} {st : Store} {pos : Pos} {Post : V → Store → Prop}

/-! ### lists that change -/
theorem Ok.put {o al : List Addr} {h h' : Heap} {tk tk' : Nat} {n : Nat} {a : Addr} {vs : Array Value} {xs : List PyData} (ok : Ok cx o al st h tk) (l : tk ≤ tk') (ea : al[n]? = some a) (sb : Heap.SameBut a h h') (lx : LX h' a vs)
    (r : RdAll (vw h (o ++ al)) vs.toList xs) : Nx cx o al [] (st.set n (.live xs)) h h' tk' := by
  have ma : a ∈ o ++ al := List.mem_append.mpr (.inr (List.mem_of_getElem? ea))
  have view : (vw h (o ++ al)).StaysIn (vw h' (o ++ al)) := vw_mono fun b ob hn e => ⟨(sb.2 b fun q => hn (q ▸ ma)).trans e, hn⟩
  have nd := List.nodup_append.mp ok.nd
  have ne : ∀ b ∈ o, b ≠ a := fun b hb => nd.2.2 b hb a (List.mem_of_getElem? ea)
  have hn : n < al.length := (List.getElem?_eq_some_iff.mp ea).1
  refine ⟨?_, fun b hb ob e => (sb.2 b (ne b hb)).trans e, by rw [List.append_nil]; exact view⟩
  rw [List.append_nil]
  refine ⟨Nat.lt_of_lt_of_le ok.tok l, fun b ob e => view b ob (ok.base b ob e), ok.nd, fun b hb => let ⟨ob, q1, q2⟩ := ok.own b hb; ⟨ob, (sb.2 b (ne b hb)).trans q1, q2⟩, by rw [List.length_set]; exact ok.st.1, fun i b ys e1 e2 => ?_⟩
  by_cases hi : i = n
  · subst hi
    rw [ea] at e1
    cases e1
    rw [List.getElem?_set_self (by rw [← ok.st.1]; exact hn)] at e2
    cases e2
    exact ⟨vs, lx, r.keeps view⟩
  · rw [List.getElem?_set_ne (fun q => hi q.symm)] at e2
    have hb : b ≠ a := by
      intro q
      subst q
      have h1 := List.getElem?_eq_some_iff.mp e1
      have h2 := List.getElem?_eq_some_iff.mp ea
      exact hi ((List.getElem_inj nd.2.1).mp (h1.2.trans h2.2.symm))
    exact (ok.st.2 i b ys e1 e2).mono (fun ob q => (sb.2 b hb).trans q) view

theorem Ok.get {o al : List Addr} {h : Heap} {tk : Nat} (ok : Ok cx o al st h tk) {b : Addr} (m : b ∈ o ++ al) : ∃ ob, h.get? b = some ob := by
  rcases List.mem_append.mp m with m | m
  · exact let ⟨ob, q, _⟩ := ok.own b m; ⟨ob, q⟩
  · obtain ⟨i, hi, e⟩ := List.getElem_of_mem m
    have hi' : i < st.length := ok.st.1 ▸ hi
    exact (ok.st.2 i b (st[i]'hi') (by rw [List.getElem?_eq_getElem hi, e]) (List.getElem?_eq_getElem hi')).obj
theorem Ok.cellX {o al : List Addr} {h : Heap} {n : Nat} {xs : List PyData} {v : Value} {tk : Nat} (ok : Ok cx o al st h tk) (v1 : VRep cx (vw h (o ++ al)) al v (.c n)) (e : st[n]? = some (.live xs)) :
    ∃ a vs k, al[n]? = some a ∧ v = .ref a ∧ h.get? a = some { cls := .type "list", dict := none, data := .seq vs k, slots := #[] } ∧ RdAll (vw h (o ++ al)) vs.toList xs := by
  obtain ⟨a, h1, rfl⟩ := v1
  obtain ⟨vs, h2, h3⟩ : CellOk _ _ _ (.live xs) := ok.st.2 n a _ h1 e
  obtain ⟨k, h2⟩ := h2.obj
  exact ⟨a, vs, k, h1, rfl, h2, h3⟩
theorem lx_update {h : Heap} {a : Addr} {vs : Array Value} {k : Nat} (f : Array Value → Array Value) (e : h.get? a = some { cls := .type "list", dict := none, data := .seq vs k, slots := #[] }) : LX (h.update a (Obj.mapSeq f)) a (f vs) := by
  refine ⟨_, Heap.get?_update_self _ e ?_, ?_⟩
  · rfl
  · exact ⟨rfl, _, rfl, rfl, rfl⟩

/-- what a step hands on that changes the list n -/
theorem Op.ofPut {A : Around} {t : Sem Value} {o al : List Addr} {s : Shared} {P : V → Store → Prop} {n : Nat} {a : Addr} {vs : Array Value} {xs : List PyData} (ok : Ok cx o al st s.heap s.toks) (ea : al[n]? = some a)
    (h : ∀ Q E, (∀ val h' r, Heap.SameBut a s.heap h' → LX h' a vs → RdAll (vw s.heap (o ++ al)) vs.toList xs → VRep cx (vw s.heap (o ++ al)) al val r → P r (st.set n (.live xs)) → Q val { s with heap := h' }) → wpAny (model cx.prog cx.w) A t Q E s) : Op cx A t o al st s P := by
  intro Q E k
  refine h Q E fun val h' r sb lx hr hv hp => ?_
  have nx := ok.put (Nat.le_refl _) ea sb lx hr
  exact k r _ val [] h' s.toks nx (hv.mono nx.vw) hp

theorem tcall_append {n : Nat} {xs : List PyData} {x : PyData} (e : st[n]? = some (.live xs)) (hz : xs.length ≤ 100000) (h : Post (.d .none) (st.set n (.live (xs ++ [x])))) : tcall cx d (.ext (.builtin "list.append")) [.c n, .d x] [] st Post := tcall_bi fun A o al s vs R ok hv => by
  obtain ⟨_, v, rfl, v1, v2⟩ := va2 hv
  obtain ⟨a, ws, k, ea, rfl, ho, hr⟩ := ok.cellX v1 e
  have hle : (100002 : Nat) ≤ sizeLine := by decide
  have hs : ws.size = xs.length := by rw [← Array.length_toList, hr.length]
  refine Op.ofPut (vs := ws.push v) (xs := xs ++ [x]) ok ea fun Q E kk => ?_
  refine call_meets F.slot_list_append ⟨_, ho, rfl⟩ F.entry_list_append (F.args_list_append_2 _ _) (AutoListH.list_append_list_val_0 a ws k v (by omega)) ⟨ho, ?_⟩
  refine kk .none _ (.d .none) (Heap.SameBut.update ..) (lx_update _ ho) ?_ .none h
  rw [Array.toList_push]
  exact hr.append (.cons v2 .nil)
theorem tcall_pop {n : Nat} {xs : List PyData} {x : PyData} (e : st[n]? = some (.live (xs ++ [x]))) (hz : xs.length ≤ 100000) (h : Post (.d x) (st.set n (.live xs))) : tcall cx d (.ext (.builtin "list.pop")) [.c n] [] st Post := tcall_bi fun A o al s vs R ok hv => by
  obtain ⟨_, rfl, v1⟩ := va1 hv
  obtain ⟨a, ws, k, ea, rfl, ho, hr⟩ := ok.cellX v1 e
  have hle : (100002 : Nat) ≤ sizeLine := by decide
  have hs : ws.size = xs.length + 1 := by rw [← Array.length_toList, hr.length]; simp
  obtain ⟨y, ey, ry⟩ := hr.get (i := xs.length) (d := x) (by simp)
  have ey' : ws[ws.size - 1]? = some y := by rw [hs, ← Array.getElem?_toList]; exact ey
  refine Op.ofPut (vs := ws.eraseIdxIfInBounds (ws.size - 1)) (xs := xs) ok ea fun Q E kk => ?_
  refine call_meets F.slot_list_pop ⟨_, ho, rfl⟩ F.entry_list_pop (F.args_list_pop_1 _) (MeetsSeq.list_pop_last a ws k y ey' (by omega)) ⟨ho, ?_⟩
  refine kk y _ (.d x) (Heap.SameBut.update ..) (lx_update _ ho) ?_ ry h
  have e1 : (ws.eraseIdxIfInBounds (ws.size - 1)).toList = ws.toList.take xs.length := by
    unfold Array.eraseIdxIfInBounds
    rw [dif_pos (by omega), Array.toList_eraseIdx]
    rw [List.eraseIdx_eq_take_drop_succ, hs]
    have : ws.toList.drop (xs.length + 1 - 1 + 1) = [] := by rw [List.drop_eq_nil_iff, Array.length_toList]; omega
    rw [this]; simp
  rw [e1]
  have := hr.take xs.length
  simpa using this
theorem list_extendW (l b : Addr) (items items2 : Array Value) (n n2 : Nat) (dd2 : Option Addr) (sl2 : Array (Option Value)) (hs1 : items.size ≤ 100000) (hs2 : items2.size ≤ 100000) :
    Meets (Builtin.«list.extend» ⟨[.ref l, .ref b], []⟩) (fun _ R s => s.heap.get? l = some { cls := .type "list", dict := none, data := .seq items n, slots := #[] } ∧ s.heap.get? b = some { cls := .type "list", dict := dd2, data := .seq items2 n2, slots := sl2 } ∧ R (.ok (.ret Value.none)) { s with heap := s.heap.update l (Obj.mapSeq fun x => x ++ items2), toks := s.toks }) :=
  .of_wp fun prog w A R s h => by
    obtain ⟨hp, g, d, tk, os⟩ := s
    obtain ⟨hl, hb, h⟩ := h
    have f1 := AutoSeq1.idx_int
    have f2 := AutoSeq1.sub_tuple_tuple
    have f3 := AutoSeq1.sub_list_list
    have f4 := AutoSeq1.sub_tuple_list
    have f5 := AutoSeq1.sub_list_tuple
    have hle : (200002 : Nat) ≤ sizeLine := by decide
    have hc0 : ¬(!items.isEmpty && Builtin.List.listTooLong (items.size + items2.size)) = true := by
      have : Builtin.List.listTooLong (items.size + items2.size) = false := by
        unfold Builtin.List.listTooLong
        simp
        omega
      rw [this]; simp
    have hz' : (items ++ items2).size ≤ sizeLine + 1 := by rw [Array.size_append]; omega
    have hc1 : items.size ≤ sizeLine := by omega
    wp_walk using (wpAny_updateSeq hl rfl (hz := hc1) (_hz' := hz')), AutoSeq1.wpAny_loadPart' hl, AutoSeq1.wpAny_loadPart' hb
    exact ⟨_, rfl, h⟩
theorem tcall_extend {n : Nat} {xs ys : List PyData} (e : st[n]? = some (.live xs)) (hz : xs.length ≤ 100000) (hz2 : ys.length ≤ 100000) (h : Post (.d .none) (st.set n (.live (xs ++ ys)))) : tcall cx d (.ext (.builtin "list.extend")) [.c n, .d (.list ys)] [] st Post := tcall_bi fun A o al s vs R ok hv => by
  obtain ⟨_, v, rfl, v1, v2⟩ := va2 hv
  obtain ⟨a, ws, k, ea, rfl, ho, hr⟩ := ok.cellX v1 e
  obtain ⟨b, us, rfl, hl, hr2⟩ := rd_list v2
  obtain ⟨⟨c2, dd2, dt2, sl2⟩, hb, hc, n2, hd⟩ := isList_of_vw hl
  simp only at hc hd
  subst hc hd
  have hs : ws.size = xs.length := by rw [← Array.length_toList, hr.length]
  have hs2 : us.size = ys.length := by rw [← Array.length_toList, hr2.length]
  refine Op.ofPut (vs := ws ++ us) (xs := xs ++ ys) ok ea fun Q E kk => ?_
  refine call_meets F.slot_list_extend ⟨_, ho, rfl⟩ F.entry_list_extend (F.args_list_extend_2 _ _) (list_extendW a b ws us k n2 dd2 sl2 (by omega) (by omega)) ⟨ho, hb, ?_⟩
  refine kk .none _ (.d .none) (Heap.SameBut.update ..) (lx_update _ ho) ?_ .none h
  rw [Array.toList_append]
  exact hr.append hr2

/-- the methods of a list that changes -/
theorem tgm_cell {n : Nat} {xs : List PyData} {name : PySem.Str} {id : String} (e : st[n]? = some (.live xs)) (hs : Slot "list" name id) (ht : typeOf (.builtin id) = pure (.type "method_descriptor")) : tgm cx d (.c n) name (.builtin id) [.c n] st := by
  intro A o al s va pl R ok hv Q E k
  obtain ⟨a, ws, kk, ea, rfl, ho, hr⟩ := ok.cellX hv e
  exact getMethod_builtin ⟨_, ho, rfl⟩ F.plainAttrs_list hs ht (fun _ y => by cases y; exact ⟨_, ho, rfl⟩) (k _ s.toks (Nat.le_refl _) (.cons hv .nil))

/-- a list of one's own -/
theorem te_listC {es : List Expr} (hp : plainArgs es = true) (h : tes cx d env ρ es st fun xs st₁ => ∃ ds, datas xs = some ds ∧ ds.length ≤ sizeLine ∧ Post (.c st₁.length) (st₁ ++ [.live ds])) : te cx d env ρ st (.List es pos) Post := by
  intro A hx al s R a Q E k
  refine List_ (tes_run R es al s _ hp h a fun xs st₁ vals al₁ h₁ tk₁ n₁ v₁ p => ?_)
  obtain ⟨ds, e, hz, p⟩ := p
  have r := rdAll_of v₁ e
  refine wpAny_newList ?_ (by rw [r.length]; exact hz)
  have ok₁ := n₁.ok
  have len : (al ++ al₁).length = st₁.length := ok₁.st.1
  have fr : ∀ b, b ∈ ow env hx ++ (al ++ al₁) → b ≠ h₁.objs.size := fun b m => Nat.ne_of_lt (ok₁.lt m)
  have hk := stays_push h₁ { cls := .type "list", data := .seq vals.toArray }
  have view : (vw h₁ (ow env hx ++ (al ++ al₁))).StaysIn (vw (h₁.push { cls := .type "list", data := .seq vals.toArray }) (ow env hx ++ ((al ++ al₁) ++ [h₁.objs.size]))) := vw_mono fun b ob hn eb => ⟨hk b ob eb, fun m => by
    rw [← List.append_assoc] at m
    rcases List.mem_append.mp m with m | m
    · exact hn m
    · rw [List.mem_singleton] at m
      exact absurd (Heap.lt_size eb) (by rw [m]; exact Nat.lt_irrefl _)⟩
  have n₂ : Nx cx (ow env hx) (al ++ al₁) [h₁.objs.size] (st₁ ++ [.live ds]) h₁ (h₁.push { cls := .type "list", data := .seq vals.toArray }) tk₁ := by
    refine ⟨⟨ok₁.tok, fun b ob eb => view b ob (ok₁.base b ob eb), ?_, fun b hb => let ⟨ob, q1, q2⟩ := ok₁.own b hb; ⟨ob, hk b ob q1, q2⟩, by
      have := len
      simp only [List.length_append, List.length_singleton] at this ⊢
      omega, fun i b ys e1 e2 => ?_⟩, fun b hb ob eb => hk b ob eb, view⟩
    · rw [← List.append_assoc]
      refine List.nodup_append.mpr ⟨ok₁.nd, by simp, fun x hx' y hy q => ?_⟩
      rw [List.mem_singleton] at hy
      exact fr x hx' (q.trans hy)
    · by_cases hi : i < (al ++ al₁).length
      · rw [List.getElem?_append_left hi] at e1
        rw [List.getElem?_append_left (by rw [← len]; exact hi)] at e2
        exact (ok₁.st.2 i b ys e1 e2).mono (fun ob q => hk b ob q) view
      · have hi' : i = (al ++ al₁).length := by
          have := (List.getElem?_eq_some_iff.mp e1).1
          rw [List.length_append, List.length_singleton] at this
          omega
        subst hi'
        rw [List.getElem?_append_right (Nat.le_refl _), Nat.sub_self] at e1
        rw [len, List.getElem?_append_right (Nat.le_refl _), Nat.sub_self] at e2
        simp only [List.getElem?_cons_zero, Option.some.injEq] at e1 e2
        subst e1 e2
        exact ⟨_, new_list vals, by rw [List.toList_toArray]; exact r.keeps view⟩
  refine k (.c st₁.length) (st₁ ++ [.live ds]) _ (al₁ ++ [h₁.objs.size]) _ tk₁ (n₁.trans n₂) ⟨h₁.objs.size, ?_, rfl⟩ p
  rw [← List.append_assoc, ← len, List.getElem?_append_right (Nat.le_refl _), Nat.sub_self]
  rfl

/-! ### comparisons with a list that changes, `is` -/
theorem cell_reads {o al : List Addr} {h : Heap} {n : Nat} {xs : List PyData} {v : Value} {tk : Nat} (ok : Ok cx o al st h tk) (v1 : VRep cx (vw h (o ++ al)) al v (.c n)) (e : st[n]? = some (.live xs)) : ∃ as, Reads h v (.list xs) as := by
  obtain ⟨a, vs, _, rfl, h2, h3⟩ := ok.cell v1 e
  exact Rd.reads (.list h2 (h3.keeps fun b o e => (vw_get.mp e).1))
theorem tcmp_neC {n : Nat} {xs : List PyData} {y : PyData} (e : st[n]? = some (.live xs)) (hx : SeqAt.shaped (.list xs) = true) (hy : SeqAt.shaped y = true) (h : Post (.d (.bool (!PyData.eqv (.list xs) y))) st) : tcmp cx d .NotEq (.c n) (.d y) st Post := by
  intro A o al s va vb R ok v1 v2
  obtain ⟨as, r1⟩ := cell_reads ok v1 e
  obtain ⟨bs, r2⟩ := Rd.reads (Rd.keeps (fun b o e => (vw_get.mp e).1) v2)
  exact Op.ofVal ok fun Q E k => ne_dataH r1 r2 hx hy R.units (k _ s.heap s.toks (.d (.bool _)) (fun _ _ e => e) (.bool _) h)
theorem tcmp_isNotNone {v : V} {b : Bool} (hv : ∀ g al val, VRep cx g al val v → (val == Value.none) = b) (h : Post (.d (.bool (!b))) st) : tcmp cx d .IsNot v (.d .none) st Post := by
  intro A o al s va vb R ok v1 v2
  cases v2
  refine Op.ofVal ok fun Q E k => isnot_none_gen ?_
  rw [hv _ _ _ v1]
  exact k _ s.heap s.toks (.d (.bool !b)) (fun _ _ e => e) (.bool _) h

/-! ### lists of a list, tuples of a list, sums -/
theorem add_run {prog : Program} {w : World} {A : Around} {E : Value → Shared → Prop} {s : Shared} {l b : Addr} {vs ws : List Value} {Q : Value → Shared → Prop} (hl : s.heap.IsList l vs.toArray) (hb : s.heap.IsList b ws.toArray)
    (h : Q (.ref s.heap.objs.size) { s with heap := s.heap.push { cls := .type "list", data := .seq (vs ++ ws).toArray } }) (hsz : vs.length + ws.length ≤ sizeLine) : wpAny (model prog w) A (binaryOp .Add (.ref l) (.ref b)) Q E s := by
  obtain ⟨⟨cls, dd, data, sl⟩, ho, hc, n, hd⟩ := id hl
  obtain ⟨⟨cls2, dd2, data2, sl2⟩, ho2, hc2, n2, hd2⟩ := id hb
  simp only at hc hd hc2 hd2
  subst hc hd hc2 hd2
  have e : vs.toArray ++ ws.toArray = (vs ++ ws).toArray := by simp
  refine concat_meets ⟨_, ho, rfl⟩ ⟨_, ho2, rfl⟩ noFill_list_add seq_list_add PySem.F.slot_list_add PySem.F.entry_list_add (PySem.F.args_list_add_2 _ _) (list_addW l b vs.toArray ws.toArray n n2 dd dd2 sl sl2 (by simpa using hsz)) ⟨ho, ho2, ?_⟩
  rw [e]
  exact h
theorem tbin_addL {xs ys : List PyData} (hz : xs.length + ys.length ≤ 100000) (h : Post (.d (.list (xs ++ ys))) st) : tbin cx d .Add (.d (.list xs)) (.d (.list ys)) st Post := by
  intro A o al s va vb R ok v1 v2
  obtain ⟨a, vs, rfl, hl, hr⟩ := rd_list v1
  obtain ⟨b, ws, rfl, hl2, hr2⟩ := rd_list v2
  have hle : (100002 : Nat) ≤ sizeLine := by decide
  have e1 := hr.length
  have e2 := hr2.length
  refine Op.ofVal ok fun Q E k => add_run (vs := vs.toList) (ws := ws.toList) (isList_of_vw hl) (isList_of_vw hl2) ?_ (by omega)
  exact k _ _ s.toks (.d (.list (xs ++ ys))) (stays_push _ _) (.list (isList_new (ok.fresh (Nat.le_refl _))) (by rw [List.toList_toArray]; exact (hr.append hr2).keeps (rd_mono_h (stays_push _ _)))) h
theorem tcall_tuple {xs : List PyData} (hz : xs.length ≤ 100000) (h : Post (.d (.tuple xs)) st) : tcall cx d (.ext (.type "tuple")) [.d (.list xs)] [] st Post := tcall_bi fun A o al s vs R ok hv => by
  obtain ⟨_, rfl, v1⟩ := va1 hv
  obtain ⟨a, ws, rfl, hl, hr⟩ := rd_list v1
  have hle : (100002 : Nat) ≤ sizeLine := by decide
  have e1 := hr.length
  rw [Array.length_toList] at e1
  refine Op.ofVal ok fun Q E k => call_tuple_list (isList_of_vw hl) (fun h' hk => ?_) (by omega)
  have hk2 : s.heap.StaysIn (h'.push { cls := .type "tuple", data := .seq ws }) := fun b ob e => Heap.get?_push_of_some _ (hk b ob e)
  have hge : h'.objs.size ∉ o ++ al := fun m => by
    obtain ⟨ob, q⟩ := ok.get m
    exact absurd (Heap.lt_size (hk _ _ q)) (Nat.lt_irrefl _)
  exact k _ _ s.toks (.d (.tuple xs)) hk2 (.tuple (isTup_new hge) (hr.keeps (rd_mono_h hk2))) h
end Mine

-- M10
namespace Mine
open PySem PySem.W PySem.Calls PyProof.Rows

variable {cx : Cx} {d : Nat} {env : Env} {ρ : Vars} {st : Store} {pos : Pos}

/-! ### the frame's own objects in another order -/
theorem vw_perm {h : Heap} {o o' : List Addr} (al : List Addr) (p : o.Perm o') : (vw h (o ++ al)).StaysIn (vw h (o' ++ al)) := vw_mono fun b ob n e => ⟨e, fun m => n (by
  rcases List.mem_append.mp m with m | m
  · exact List.mem_append.mpr (.inl (p.mem_iff.mpr m))
  · exact List.mem_append.mpr (.inr m))⟩
theorem Ok.perm {o o' al : List Addr} {h : Heap} {tk : Nat} (p : o.Perm o') (x : Ok cx o al st h tk) : Ok cx o' al st h tk :=
  ⟨x.tok, fun b ob e => vw_perm al p b ob (x.base b ob e), (p.append_right al).nodup_iff.mp x.nd, fun a m => x.own a (p.mem_iff.mpr m), x.st.1, fun i a c e1 e2 => (x.st.2 i a c e1 e2).mono (fun _ q => q) (vw_perm al p)⟩
theorem Nx.perm {o o' al al' : List Addr} {h h' : Heap} {tk : Nat} (p : o.Perm o') (x : Nx cx o al al' st h h' tk) : Nx cx o' al al' st h h' tk :=
  ⟨x.ok.perm p, fun a m => x.fr a (p.mem_iff.mpr m), fun b ob e => vw_perm (al ++ al') p b ob (x.vw b ob (vw_perm al p.symm b ob e))⟩
theorem VRep.perm {o o' al : List Addr} {h : Heap} {v : Value} {x : V} (p : o.Perm o') (r : VRep cx (vw h (o ++ al)) al v x) : VRep cx (vw h (o' ++ al)) al v x := by
  have := r.mono (al' := []) (vw_perm al p)
  rwa [List.append_nil] at this

/-- one of the frame's own helpers has changed -/
theorem At.moved {hx al : List Addr} {h h' : Heap} {I : Addr} {tk tk' : Nat} (a : At cx env hx al ρ st h tk) (mh : I ∈ hx) (htk : tk ≤ tk') (hk : ∀ b o, b ≠ I → h.get? b = some o → h'.get? b = some o) (hn : ∃ ob, h'.get? I = some ob ∧ ¬ SeqObj ob) :
    At cx env hx al ρ st h' tk' ∧ (vw h (ow env hx ++ al)).StaysIn (vw h' (ow env hx ++ al)) := by
  have mI : I ∈ ow env hx := .tail _ (List.mem_append.mpr (.inr mh))
  have view : (vw h (ow env hx ++ al)).StaysIn (vw h' (ow env hx ++ al)) := vw_mono fun b ob n e => ⟨hk b ob (fun q => n (by rw [q]; exact List.mem_append.mpr (.inl mI))) e, n⟩
  have nd1 := (List.nodup_append.mp a.ok.nd).1
  obtain ⟨m, cm, hm, hc, hv⟩ := a.vars
  have lI : env.locals ≠ I := fun q => (List.nodup_cons.mp nd1).1 (q ▸ List.mem_append.mpr (.inr mh))
  have cI : ∀ n c, env.cells.lookup n = some c → c ≠ I := fun n c e q => by
    have := (List.nodup_append.mp (List.nodup_cons.mp nd1).2).2.2 c (List.mem_map.mpr ⟨(n, c), PySem.mem_of_lookup e, rfl⟩) I mh
    exact this q
  refine ⟨⟨⟨Nat.lt_of_lt_of_le a.ok.tok htk, fun b ob e => view b ob (a.ok.base b ob e), a.ok.nd, fun b m => ?_, a.ok.st.1, fun i b xs e1 e2 => ?_⟩, a.fn, a.gl, a.bi, m, cm, ?_, fun n c e => ?_, fun y v e => ?_⟩, view⟩
  · by_cases hb : b = I
    · subst hb; exact hn
    · obtain ⟨ob, q1, q2⟩ := a.ok.own b m
      exact ⟨ob, hk b ob hb q1, q2⟩
  · have hb : b ≠ I := fun q => (List.nodup_append.mp a.ok.nd).2.2 I mI b (List.mem_of_getElem? e1) q.symm
    exact (a.ok.st.2 i b xs e1 e2).mono (fun ob q => hk b ob hb q) view
  · obtain ⟨ob, es, ep, q1, q2⟩ := hm
    exact ⟨ob, es, ep, hk _ ob lI q1, q2⟩
  · obtain ⟨ob, q1, q2⟩ := hc n c e
    exact ⟨ob, hk c ob (cI n c e) q1, q2⟩
  · obtain ⟨val, r, q⟩ := hv y v e
    exact ⟨val, by have := r.mono (al' := []) view; rwa [List.append_nil] at this, q⟩

/-! ### targets that are all locals -/
inductive Tgt : Expr → PyData → List PySem.Str → List PyData → Prop
  | name {n : PySem.Str} {p : Pos} {x : PyData} : Tgt (.Name n p) x [n] [x]
  | tuple {es : List Expr} {k : Nat} {p : Pos} {names : List PySem.Str} {xs : List PyData} : namesOf? es = some names → xs.length = names.length → Tgt (.Tuple es k p) (.tuple xs) names xs

def isLocal (env : Env) (n : PySem.Str) : Bool := env.kindOf n == some .local

theorem assignLocals_run {A : Around} {E : Value → Shared → Prop} (hf : env.scope.kind = .function) : ∀ (es : List Expr) (names : List PySem.Str) (vals : List Value) (m : PySem.Str → Option Value) (s : Shared) (Q : Unit → Shared → Prop), namesOf? es = some names → vals.length = es.length →
    (names.all (isLocal env)) = true → names.Nodup → s.heap.Ns env.locals m →
    (∀ h' tk' m', h'.Ns env.locals m' → (∀ y, y ∉ names → m' y = m y) → (∀ y u, (names.zip vals).lookup y = some u → m' y = some u) → (∀ b o, b ≠ env.locals → s.heap.get? b = some o → h'.get? b = some o) → s.toks ≤ tk' → Q () { s with heap := h', toks := tk' }) →
    wpAny (model cx.prog cx.w) A (assignInOrder ((assignEach es env).map (·.2)) vals) Q E s
  | [], names, vals, m, s, Q, hn, hl, hk, hd, hm, k => by
    cases hn
    exact wpAny_assignInOrder_none (by
      cases vals with
      | nil => exact k s.heap s.toks m hm (fun _ _ => rfl) (fun y u e => by simp at e) (fun _ _ _ e => e) (Nat.le_refl _)
      | cons _ _ => cases hl)
  | e :: es, names, vals, m, s, Q, hn, hl, hk, hd, hm, k => by
    cases e with
    | Name x p =>
      simp only [namesOf?] at hn
      cases q : namesOf? es with
      | none => rw [q] at hn; cases hn
      | some ns =>
        rw [q] at hn
        cases hn
        cases vals with
        | nil => cases hl
        | cons v vs =>
          rw [List.all_cons, Bool.and_eq_true_iff] at hk
          rw [List.nodup_cons] at hd
          have hx : env.kindOf x = some .local := by simpa [isLocal] using hk.1
          show wpAny _ A (assignInOrder (assign (.Name x p) env :: (assignEach es env).map (·.2)) (v :: vs)) Q E s
          refine wpAny_assignInOrder_more (wpAny_assign_Name (wpAny_storeName_local hx hm (fun h₁ hn₁ hs₁ => ?_) (by rw [hf]; rfl)))
          refine assignLocals_run hf es ns vs _ _ Q q (by simpa using hl) hk.2 hd.2 hn₁ fun h' tk' m' a1 a2 a3 a4 a5 => ?_
          refine k h' tk' m' a1 (fun y hy => ?_) (fun y u e => ?_) (fun b o hb e => a4 b o hb ((hs₁.2 b hb).trans e)) (Nat.le_trans (Nat.le_succ _) a5)
          · rw [a2 y (fun h => hy (.tail _ h))]
            exact if_neg (fun h : y = x => hy (by rw [h]; exact .head _))
          · rw [List.zip_cons_cons, List.lookup_cons] at e
            cases hy : y == x with
            | true =>
              rw [hy] at e
              have := eq_of_beq hy
              subst this
              rw [a2 y hd.1]
              simpa using e
            | false =>
              rw [hy] at e
              exact a3 y u e
    | _ => simp only [namesOf?] at hn; cases hn

theorem assignT_run {A : Around} {E : Value → Shared → Prop} {target : Expr} {x : PyData} {names : List PySem.Str} {xs : List PyData} {m : PySem.Str → Option Value} {s : Shared} {val : Value} {g : Heap} {Q : Unit → Shared → Prop} (hh : A.handled = none) (hf : env.scope.kind = .function)
    (ht : Tgt target x names xs) (hk : (names.all (isLocal env)) = true) (hd : names.Nodup) (hm : s.heap.Ns env.locals m) (hg : g.StaysIn s.heap) (r : Rd g val x)
    (k : ∀ h' tk' m' vals, h'.Ns env.locals m' → RdAll g vals xs → (∀ y u, (names.zip vals).lookup y = some u → m' y = some u) → (∀ b o, b ≠ env.locals → s.heap.get? b = some o → h'.get? b = some o) → s.toks ≤ tk' → Q () { s with heap := h', toks := tk' }) :
    wpAny (model cx.prog cx.w) A (assign target env val) Q E s := by
  cases ht with
  | @name n p x =>
    have hx : env.kindOf n = some .local := by simpa [isLocal] using hk
    refine wpAny_assign_Name (wpAny_storeName_local hx hm (fun h₁ hn₁ hs₁ => ?_) (by rw [hf]; rfl))
    refine k h₁ _ _ [val] hn₁ (.cons r .nil) (fun y u e => ?_) (fun b o hb e => (hs₁.2 b hb).trans e) (Nat.le_succ _)
    rw [List.zip_cons_cons, List.lookup_cons] at e
    cases hy : y == n with
    | true => rw [hy] at e; cases e; exact if_pos (eq_of_beq hy)
    | false => rw [hy] at e; simp at e
  | @tuple es kk p names xs hn hl =>
    obtain ⟨t, vs, rfl, hT, hr⟩ := rd_tuple r
    obtain ⟨e1, e2, e3⟩ := assignEach_names env hn
    have hlen : vs.toList.length = es.length := by rw [hr.length, hl, e3]
    refine wpAny_assign_Tuple hh (let ⟨o, q, z⟩ := hT; ⟨o, hg _ _ q, z⟩) (by rw [e1, ← hlen, Array.length_toList]) e2 fun h₁ hx₁ => ?_
    have hk₁ : s.heap.StaysIn h₁ := fun b ob e => hx₁ b ob (Nat.ne_of_lt (Heap.lt_size e)) e
    refine assignLocals_run (s := { s with heap := h₁ }) hf es names vs.toList m Q hn hlen hk hd (hm.keeps hk₁) fun h' tk' m' a1 _ a3 a4 a5 => ?_
    exact k h' tk' m' vs.toList a1 hr a3 (fun b o hb e => a4 b o hb (hk₁ b o e)) a5

/-! ### a comprehension's frame -/
def compOwn (env : Env) (rest : List Addr) (I : Addr) (hx : List Addr) : List Addr := env.locals :: (rest ++ I :: hx)
theorem comp_perm {scope : Scope} {cl : List (PySem.Str × Addr)} {C I : Addr} {rest hx : List Addr} (hp : (env.cells.map (·.2)).Perm (cl.map (·.2) ++ rest)) :
    (ow env (C :: I :: hx)).Perm (ow (compEnvC scope cl C env) (compOwn env rest I hx)) := by
  rw [List.perm_iff_count]
  intro a
  have := hp.count_eq a
  simp only [ow, compOwn, compEnvC, List.count_cons, List.count_append] at this ⊢
  omega

theorem At.comp {hx al : List Addr} {h : Heap} {tk : Nat} {scope : Scope} {cl : List (PySem.Str × Addr)} {C I : Addr} {rest : List Addr} {m : PySem.Str → Option Value} (a : At cx env (C :: I :: hx) al ρ st h tk) (hk : scope.kind = .function) (hns : h.Ns C m)
    (hp : (env.cells.map (·.2)).Perm (cl.map (·.2) ++ rest)) (hcl : ∀ n c, cl.lookup n = some c → env.cells.lookup n = some c) (bs fr : Vars)
    (hbs : ∀ n v, bs.lookup n = some v → (compEnvC scope cl C env).kindOf n = some .local ∧ ∃ u, m n = some u ∧ VRep cx (vw h (ow env (C :: I :: hx) ++ al)) al u v)
    (hfr : ∀ y v, fr.lookup y = some v → ρ.lookup y = some v ∧ (env.kindOf y = some .cell ∨ env.kindOf y = some .free) ∧ ((compEnvC scope cl C env).kindOf y = some .cell ∨ (compEnvC scope cl C env).kindOf y = some .free) ∧ (cl.lookup y).isSome = true) :
    At cx (compEnvC scope cl C env) (compOwn env rest I hx) al (bs ++ fr) st h tk := by
  have P := comp_perm (scope := scope) (cl := cl) (C := C) (I := I) (hx := hx) hp
  obtain ⟨m₀, cm, hm, hc, hv⟩ := a.vars
  refine ⟨a.ok.perm P, hk, a.gl, a.bi, m, cm, hns, fun n c e => hc n c (hcl n c e), fun y v e => ?_⟩
  rw [List.lookup_append] at e
  cases hb : bs.lookup y with
  | some v' =>
    rw [hb] at e
    cases e
    obtain ⟨k1, u, k2, k3⟩ := hbs y v hb
    exact ⟨u, k3.perm P, .inl ⟨k1, k2⟩⟩
  | none =>
    rw [hb] at e
    obtain ⟨k1, k2, k3, k4⟩ := hfr y v (by simpa using e)
    obtain ⟨val, r, q⟩ := hv y v k1
    refine ⟨val, r.perm P, .inr ⟨k3, k4, ?_⟩⟩
    rcases q with ⟨q1, q2⟩ | ⟨q1, q2, q3⟩
    · rw [q1] at k2; rcases k2 with k2 | k2 <;> cases k2
    · exact q3

/-! ### a list comprehension's loop -/
section
variable {prog : Program} {w : World} {A : Around} {s : Shared} {R : Result → Shared → Prop}
theorem compLoop_own {elt target iter : Expr} {scope : Scope} {pos : Pos} {it acc : Value} {env : Env} (I : Nat → Shared → Prop)
    (turn : ∀ n s, I n s → wpAny (model prog w) A (pyNext it) (fun r s₁ => match r with
      | none => R (.ok .next) s₁
      | some v => wpAny (model prog w) A (letOwnedTupleGo target it v) (fun _ s₁ => wpAny (model prog w) A (assign target env v) (fun _ s₂ => wpAny (model prog w) A (eval elt env) (fun x s₃ =>
          wpAny (model prog w) A (call (.builtin "list.append") [acc, x]) (fun _ s₄ => ∃ m, m < n ∧ I m s₄) (notedBy (model prog w) A env fun e s' => R (.error e) s') s₃)
          (notedBy (model prog w) A env fun e s' => R (.error e) s') s₂) (notedBy (model prog w) A env fun e s' => R (.error e) s') s₁) (notedBy (model prog w) A env fun e s' => R (.error e) s') s₁) (notedBy (model prog w) A env fun e s' => R (.error e) s') s)
    (n : Nat) (h : I n s) :
    codeAny (model prog w) A (.compLoop (.ListComp elt [⟨target, iter, [], 0⟩] scope pos) 0 it acc env) R s := by
  refine codeAny_loop rfl I (fun n s hI => ?_) n h
  show wpAny _ _ ((compTurn (.ListComp elt [⟨target, iter, [], 0⟩] scope pos) 0 it acc env).onRaise (fun x => do noteFrame x env; theTreesLotGoes x)) _ _ s
  refine wpAny_noted ?_
  rw [compTurn_list1]
  refine wpAny_bind (wpAny_standAt (wpAny_bind (wpAny_mono (turn n s hI) (fun r s₁ h₁ => ?_) fun _ _ h' => h')))
  cases r with
  | none => exact wpAny_pure h₁
  | some v =>
    exact wpAny_bind (wpAny_mono h₁ (fun _ s₁' h₁' => wpAny_bind (wpAny_mono h₁' (fun _ s₂ h₂ => wpAny_bind (wpAny_bind (wpAny_mono h₂ (fun x s₃ h₃ => wpAny_bind (wpAny_mono h₃
      (fun _ s₄ h₄ => wpAny_pure (wpAny_pure ⟨rfl, h₄⟩)) fun _ _ h' => h')) fun _ _ h' => h'))) fun _ _ h' => h')) fun _ _ h' => h')
end

/-- what a loop walks over; X: what else it looks at, and stands still -/
def FeedsX (cx : Cx) (A : Around) (I : Addr) (target : Expr) (g : Heap) (X : Addr → Prop) (items : List PyData) (h : Heap) : Prop :=
  ∃ fp P St, Walks cx.prog cx.w A I fp [I] items.length P St ∧ St 0 h ∧ (∀ b ∈ fp, b = I ∨ (∃ o, g.get? b = some o) ∨ X b) ∧ (∀ i v, i < items.length → P i v → ∃ x, items[i]? = some x ∧ Rd g v x) ∧
    (∀ i h, St i h → ∃ ob, h.get? I = some ob ∧ ¬ SeqObj ob) ∧
    ∀ i v (s' : Shared) (Q : Unit → Shared → Prop) (E : Value → Shared → Prop), St i s'.heap → Q () s' → wpAny (model cx.prog cx.w) A (letOwnedTupleGo target (.ref I) v) Q E s'
theorem FeedsX.keeps {A : Around} {I : Addr} {target : Expr} {g : Heap} {items : List PyData} {h h' : Heap} {X : Addr → Prop} (F : FeedsX cx A I target g X items h) (hk : h.StaysIn h') : FeedsX cx A I target g X items h' := by
  obtain ⟨fp, P, St, W, st0, r⟩ := F
  exact ⟨fp, P, St, W, W.frame 0 h h' st0 fun b _ o e => hk b o e, r⟩
theorem FeedsX.self {A : Around} {I : Addr} {target : Expr} {g : Heap} {items : List PyData} {s : Shared} {X : Addr → Prop} {Q : Value → Shared → Prop} {E : Value → Shared → Prop} (F : FeedsX cx A I target g X items s.heap) (q : Q (.ref I) s) :
    wpAny (model cx.prog cx.w) A (pyIter (.ref I)) Q E s := by
  obtain ⟨fp, P, St, W, st0, r⟩ := F
  exact W.self 0 s Q E st0 q

/-- what is asked of the expression of a comprehension -/
def Each (cx : Cx) (d : Nat) (env : Env) (scope : Scope) (cl : List (PySem.Str × Addr)) (target elt : Expr) (fr : Vars) (xs : List PyData) (f : PyData → PyData) : Prop :=
  ∀ x ∈ xs, ∃ names ys, Tgt target x names ys ∧ names.Nodup ∧ (names.all fun n => (relabel scope env).names.lookup n == some .local) = true ∧
    ∀ C st, te cx d (compEnvC scope cl C env) (names.zip (ys.map .d) ++ fr) st elt fun v st' => v = .d (f x) ∧ st' = st

/-- the loop's state: D the list in the making -/
structure CSt (cx : Cx) (env : Env) (hx al : List Addr) (ρ : Vars) (st : Store) (C I D : Addr) (g : Heap) (ys : List PyData) (h : Heap) (tk : Nat) : Prop where
  at' : At cx env (C :: I :: hx) (al ++ [D]) ρ (st ++ [.live ys]) h tk
  ns : ∃ m, h.Ns C m
  hk : ∀ b ∈ hx, ∀ o, g.get? b = some o → h.get? b = some o
  vw : (vw g (ow env hx ++ al)).StaysIn (vw h (ow env (C :: I :: hx) ++ (al ++ [D])))
  fr : ∀ b ∈ ow env hx, ∀ o, g.get? b = some o → h.get? b = some o

/-- the loop's end -/
structure CFin (cx : Cx) (env : Env) (hx al : List Addr) (ρ : Vars) (st : Store) (C D : Addr) (g : Heap) (ys : List PyData) (h : Heap) (tk : Nat) : Prop where
  at' : At cx env (C :: hx) (al ++ [D]) ρ (st ++ [.live ys]) h tk
  ns : ∃ m, h.Ns C m
  hk : ∀ b ∈ hx, ∀ o, g.get? b = some o → h.get? b = some o
  vw : (vw g (ow env hx ++ al)).StaysIn (vw h (ow env (C :: hx) ++ (al ++ [D])))
  fr : ∀ b ∈ ow env hx, ∀ o, g.get? b = some o → h.get? b = some o

theorem ow_perm {hx hx' : List Addr} (p : hx.Perm hx') : (ow env hx).Perm (ow env hx') := (p.append_left _).cons _
theorem At.permx {hx hx' al : List Addr} {h : Heap} {tk : Nat} (p : hx.Perm hx') (a : At cx env hx al ρ st h tk) : At cx env hx' al ρ st h tk := by
  obtain ⟨m, cm, hm, hc, hv⟩ := a.vars
  exact ⟨a.ok.perm (ow_perm p), a.fn, a.gl, a.bi, m, cm, hm, hc, fun y v e => let ⟨val, r, q⟩ := hv y v e; ⟨val, r.perm (ow_perm p), q⟩⟩

theorem comp_loop {A : Around} {hx al : List Addr} {s : Shared} {h₁ : Heap} {tk₁ : Nat} {C I D : Addr} {items : List PyData} {f : PyData → PyData} {scope : Scope} {cl : List (PySem.Str × Addr)} {rest : List Addr} {fr : Vars} {target elt iter : Expr} {Rr : Result → Shared → Prop} (R : Room A d)
    (c : CSt cx env hx al ρ st C I D s.heap [] h₁ tk₁) (F : FeedsX cx A I target (vw s.heap (ow env hx ++ al)) (fun b => ∃ (n : Nat) (o : Obj), al[n]? = some b ∧ st[n]? = some (Cell.fixed o)) items h₁) (hI : I ∉ hx) (hC : C ∉ hx) (hz : items.length ≤ 100000)
    (hkind : scope.kind = .function) (hp : (env.cells.map (·.2)).Perm (cl.map (·.2) ++ rest)) (hcl : ∀ n c, cl.lookup n = some c → env.cells.lookup n = some c)
    (hfr : ∀ y v, fr.lookup y = some v → ρ.lookup y = some v ∧ (env.kindOf y = some .cell ∨ env.kindOf y = some .free) ∧ ((compEnvC scope cl C env).kindOf y = some .cell ∨ (compEnvC scope cl C env).kindOf y = some .free) ∧ (cl.lookup y).isSome = true)
    (each : Each cx d env scope cl target elt fr items f)
    (k : ∀ h' tk', CFin cx env hx al ρ st C D s.heap (items.map f) h' tk' → Rr (.ok .next) { s with heap := h', toks := tk' }) :
    codeAny (model cx.prog cx.w) A (.compLoop (.ListComp elt [⟨target, iter, [], 0⟩] scope pos) 0 (.ref I) (.ref D) (compEnvC scope cl C env)) Rr { s with heap := h₁, toks := tk₁ } := by
  obtain ⟨fp, P, St, W, st0, hfp, hP, hns, hgo⟩ := F
  have len : al.length = st.length := by
    have := c.at'.ok.st.1
    simp only [List.length_append, List.length_singleton] at this
    omega
  have nIo' : ∀ {ys h tk}, CSt cx env hx al ρ st C I D s.heap ys h tk → ∀ b ∈ ow env hx, b ≠ I := by
    intro ys h tk cs b hb q
    have nd := (List.nodup_append.mp cs.at'.ok.nd).1
    subst q
    simp only [ow, List.mem_cons, List.mem_append] at hb
    simp only [ow, List.nodup_cons, List.nodup_append, List.mem_append, List.mem_cons] at nd
    rcases hb with hb | hb | hb
    · exact nd.1 (.inr (.inr (.inl hb.symm)))
    · exact nd.2.2.2 b hb b (.inr (.inl rfl)) rfl
    · exact hI hb
  have nCo' : ∀ {ys h tk}, CSt cx env hx al ρ st C I D s.heap ys h tk → ∀ b ∈ ow env hx, b ≠ C := by
    intro ys h tk cs b hb q
    have nd := (List.nodup_append.mp cs.at'.ok.nd).1
    subst q
    simp only [ow, List.mem_cons, List.mem_append] at hb
    simp only [ow, List.nodup_cons, List.nodup_append, List.mem_append, List.mem_cons] at nd
    rcases hb with hb | hb | hb
    · exact nd.1 (.inr (.inl hb.symm))
    · exact nd.2.2.2 b hb b (.inl rfl) rfl
    · exact hC hb
  have nCI : ∀ {ys h tk}, CSt cx env hx al ρ st C I D s.heap ys h tk → C ≠ I := by
    intro ys h tk cs q
    have nd := (List.nodup_append.mp cs.at'.ok.nd).1
    simp only [ow, List.nodup_cons, List.nodup_append, List.mem_cons] at nd
    exact nd.2.2.1.1 (.inl q)
  refine compLoop_own (fun n s' => ∃ i h' tk', s' = { s with heap := h', toks := tk' } ∧ CSt cx env hx al ρ st C I D s.heap ((items.take i).map f) h' tk' ∧ St i h' ∧ i + n = items.length) ?_ items.length
    ⟨0, h₁, tk₁, rfl, by simpa using c, st0, Nat.zero_add _⟩
  rintro n s' ⟨i, h', tk', rfl, cs, hst, hin⟩
  cases n with
  | zero =>
    have hi : i = items.length := by omega
    subst hi
    refine wpAny_with_toks (Nat.le_refl _) (W.done _ _ _ hst fun h₂ tk₂ hk₂ htk₂ => ?_)
    have keep : ∀ b o, b ≠ I → h'.get? b = some o → h₂.get? b = some o := fun b o hb e => hk₂ b o (fun m => hb (List.mem_singleton.mp m)) e
    have pc : (C :: I :: hx).Perm (I :: C :: hx) := List.Perm.swap _ _ _
    obtain ⟨w1, w2⟩ := (cs.at'.permx pc).rest htk₂ keep
    have nIo := nIo' cs
    obtain ⟨m, hm⟩ := cs.ns
    refine k h₂ tk₂ ⟨?_, ⟨m, hm.at' fun o e => keep C o (nCI cs) e⟩, fun b hb o e => keep b o (fun q => hI (q ▸ hb)) (cs.hk b hb o e), ?_, fun b hb o e => keep b o (nIo b hb) (cs.fr b hb o e)⟩
    · rw [List.take_length] at w1; exact w1
    · exact fun b o e => w2 b o (vw_perm _ (ow_perm pc) b o (cs.vw b o e))
  | succ n =>
    have hi : i < items.length := by omega
    refine wpAny_with_toks (Nat.le_refl _) (W.item i _ _ _ hi hst fun v h₂ tk₂ hv hst₂ hk₂ htk₂ => ?_)
    obtain ⟨x, ex, rx⟩ := hP i v hi hv
    have keep : ∀ b o, b ≠ I → h'.get? b = some o → h₂.get? b = some o := fun b o hb e => hk₂ b o (fun m => hb (List.mem_singleton.mp m)) e
    obtain ⟨w1, w2⟩ := cs.at'.moved (.tail _ (.head _)) htk₂ keep (hns _ _ hst₂)
    have nIo := nIo' cs
    obtain ⟨m, hm⟩ := cs.ns
    have hCI := nCI cs
    have hm₂ : h₂.Ns C m := hm.at' fun o e => keep C o hCI e
    obtain ⟨names, ys, ht, hnd, hloc, hte⟩ := each x (List.mem_of_getElem? ex)
    refine hgo (i + 1) v { s with heap := h₂, toks := tk₂ } _ _ hst₂ ?_
    have vx : Rd (vw h₂ (ow env (C :: I :: hx) ++ (al ++ [D]))) v x := (rx.keeps cs.vw).keeps w2
    refine assignT_run (cx := cx) (env := compEnvC scope cl C env) (s := { s with heap := h₂, toks := tk₂ }) R.hd hkind ht ?_ hnd hm₂ (fun b o e => (vw_get.mp e).1) vx fun h₃ tk₃ m₃ vals hn₃ hr₃ hb₃ hk₃ htk₃ => ?_
    · simpa [isLocal, Env.kindOf, compEnvC] using hloc
    have keepC : ∀ b o, b ≠ C → h₂.get? b = some o → h₃.get? b = some o := fun b o hb e => hk₃ b o hb e
    have nsC : ∃ ob, h₃.get? C = some ob ∧ ¬ SeqObj ob := let ⟨ob, es, ep, q1, q2, _⟩ := hn₃; ⟨ob, q1, fun ⟨_, _, q⟩ => by rw [q2] at q; cases q⟩
    obtain ⟨u1, u2⟩ := w1.moved (.head _) htk₃ keepC nsC
    have ac := u1.comp (scope := scope) (cl := cl) hkind hn₃ hp hcl (names.zip (ys.map .d)) fr (fun nn vv e => ?_) hfr
    · refine hte C (st ++ [.live ((items.take i).map f)]) A (compOwn env rest I hx) (al ++ [D]) { s with heap := h₃, toks := tk₃ } R ac _ _ fun r st' val al' h₄ tk₄ n₄ v₄ p₄ => ?_
      obtain ⟨rfl, rfl⟩ := p₄
      have P := comp_perm (scope := scope) (cl := cl) (C := C) (I := I) (rest := rest) (hx := hx) hp
      have n₄' := n₄.perm P.symm
      have v₄' := v₄.perm P.symm
      have e₄ : al' = [] := by
        have := n₄'.ok.st.1
        simp only [List.length_append, List.length_singleton] at this
        exact List.eq_nil_of_length_eq_zero (by omega)
      subst e₄
      have a₄ := u1.next n₄'
      rw [List.append_nil] at a₄ v₄'
      have vwn : (vw h₃ (ow env (C :: I :: hx) ++ (al ++ [D]))).StaysIn (vw h₄ (ow env (C :: I :: hx) ++ (al ++ [D]))) := by have := n₄'.vw; rwa [List.append_nil] at this
      have hst₄ : (st ++ [Cell.live ((items.take i).map f)])[st.length]? = some (.live ((items.take i).map f)) := by simp
      have hset : (st ++ [Cell.live ((items.take i).map f)]).set st.length (.live ((items.take i).map f ++ [f x])) = st ++ [.live ((items.take (i + 1)).map f)] := by
        rw [List.set_append_right _ _ (Nat.le_refl _), Nat.sub_self]
        have : items.take (i + 1) = items.take i ++ [x] := by rw [List.take_add_one, ex]; rfl
        rw [this, List.map_append]; rfl
      have ap := tcall_append (cx := cx) (d := d) (st := st ++ [Cell.live ((items.take i).map f)]) (n := st.length) (x := f x) (Post := fun r st' => r = .d .none ∧ st' = st ++ [.live ((items.take (i + 1)).map f)]) hst₄ (by simp; omega) ⟨rfl, hset⟩
      refine ap A (ow env (C :: I :: hx)) (al ++ [D]) { s with heap := h₄, toks := tk₄ } (.builtin "list.append") [.ref D, val] [] R a₄.ok rfl (.cons ⟨D, ?_, rfl⟩ (.cons v₄' .nil)) rfl .nil _ _ fun r5 st5 val5 al5 h₅ tk₅ n₅ v₅ p₅ => ?_
      · rw [← len]; simp
      obtain ⟨rfl, rfl⟩ := p₅
      have e₅ : al5 = [] := by
        have := n₅.ok.st.1
        simp only [List.length_append, List.length_singleton] at this
        exact List.eq_nil_of_length_eq_zero (by omega)
      subst e₅
      have a₅ := a₄.next n₅
      rw [List.append_nil] at a₅
      have vwn5 : (vw h₄ (ow env (C :: I :: hx) ++ (al ++ [D]))).StaysIn (vw h₅ (ow env (C :: I :: hx) ++ (al ++ [D]))) := by have := n₅.vw; rwa [List.append_nil] at this
      have own45 : ∀ b ∈ ow env (C :: I :: hx), ∀ o, h₃.get? b = some o → h₅.get? b = some o := fun b hb o e => n₅.fr b hb o (n₄'.fr b hb o e)
      have mI : I ∈ ow env (C :: I :: hx) := .tail _ (List.mem_append.mpr (.inr (.tail _ (.head _))))
      have mC : C ∈ ow env (C :: I :: hx) := .tail _ (List.mem_append.mpr (.inr (.head _)))
      have sub : ∀ b ∈ ow env hx, b ∈ ow env (C :: I :: hx) := by
        intro b hb
        simp only [ow, List.mem_cons, List.mem_append] at hb ⊢
        rcases hb with hb | hb | hb
        · exact .inl hb
        · exact .inr (.inl hb)
        · exact .inr (.inr (.inr (.inr hb)))
      have all : ∀ b ∈ ow env hx, ∀ o, s.heap.get? b = some o → h₅.get? b = some o := fun b hb o e => own45 b (sub b hb) o (keepC b o (nCo' cs b hb) (keep b o (nIo b hb) (cs.fr b hb o e)))
      refine ⟨n, Nat.lt_succ_self n, i + 1, h₅, tk₅, rfl, ⟨a₅, ⟨m₃, hn₃.at' fun o e => own45 C mC o e⟩, fun b hb o e => all b (.tail _ (List.mem_append.mpr (.inr hb))) o e, fun b o e => vwn5 b o (vwn b o (u2 b o (w2 b o (cs.vw b o e)))), all⟩, ?_, by omega⟩
      refine W.frame (i + 1) h₂ h₅ hst₂ fun b hb o e => ?_
      rcases hfp b hb with rfl | ⟨o', q⟩ | ⟨nn, o', q1, q2⟩
      · exact own45 _ mI o (keepC _ o (fun q => hCI q.symm) e)
      · have q2 := w2 b o' (cs.vw b o' q)
        have e' := (vw_get.mp q2).1
        rw [e] at e'
        cases e'
        exact (vw_get.mp (vwn5 b o (vwn b o (u2 b o q2)))).1
      · have z1 : h₂.get? b = some o' := w1.ok.st.2 nn b (.fixed o') (getElem?_append_some q1) (getElem?_append_some q2)
        have z2 : h₅.get? b = some o' := a₅.ok.st.2 nn b (.fixed o') (getElem?_append_some q1) (getElem?_append_some q2)
        rw [e] at z1
        cases z1
        exact z2
    · -- what the target's names are
      have gen : ∀ (names : List PySem.Str) (ys : List PyData) (vals : List Value), RdAll (vw h₂ (ow env (C :: I :: hx) ++ (al ++ [D]))) vals ys → (names.zip (ys.map V.d)).lookup nn = some vv → nn ∈ names ∧ ∃ u, (names.zip vals).lookup nn = some u ∧ VRep cx (vw h₂ (ow env (C :: I :: hx) ++ (al ++ [D]))) (al ++ [D]) u vv := by
        intro names
        induction names with
        | nil => intro ys vals _ e; simp at e
        | cons n₀ names ih =>
          intro ys vals hr e
          cases hr with
          | nil => simp at e
          | @cons v₀ vs₀ d₀ ds₀ hv₀ hr₀ =>
            rw [List.map_cons, List.zip_cons_cons, List.lookup_cons] at e
            rw [List.zip_cons_cons, List.lookup_cons]
            cases hy : nn == n₀ with
            | true => rw [hy] at e; cases e; exact ⟨by rw [eq_of_beq hy]; exact .head _, v₀, rfl, hv₀⟩
            | false => rw [hy] at e; obtain ⟨q1, q2⟩ := ih ds₀ vs₀ hr₀ e; exact ⟨.tail _ q1, q2⟩
      obtain ⟨mem, u, q1, q2⟩ := gen names ys vals hr₃ e
      refine ⟨?_, u, hb₃ nn u q1, ?_⟩
      · have := List.all_eq_true.mp hloc nn mem
        simpa [Env.kindOf, compEnvC] using this
      · have := q2.mono (al' := []) u2
        rwa [List.append_nil] at this

theorem nx_newCell {o al : List Addr} {h₁ : Heap} {tk₁ : Nat} {vals : List Value} {ds : List PyData} (ok₁ : Ok cx o al st h₁ tk₁) (r : RdAll (vw h₁ (o ++ al)) vals ds) :
    Nx cx o al [h₁.objs.size] (st ++ [.live ds]) h₁ (h₁.push { cls := .type "list", data := .seq vals.toArray }) tk₁ := by
  have len : al.length = st.length := ok₁.st.1
  have fr : ∀ b, b ∈ o ++ al → b ≠ h₁.objs.size := fun b m => Nat.ne_of_lt (ok₁.lt m)
  have hk := stays_push h₁ { cls := .type "list", data := .seq vals.toArray }
  have view : (vw h₁ (o ++ al)).StaysIn (vw (h₁.push { cls := .type "list", data := .seq vals.toArray }) (o ++ (al ++ [h₁.objs.size]))) := vw_mono fun b ob hn eb => ⟨hk b ob eb, fun m => by
    rw [← List.append_assoc] at m
    rcases List.mem_append.mp m with m | m
    · exact hn m
    · rw [List.mem_singleton] at m
      exact absurd (Heap.lt_size eb) (by rw [m]; exact Nat.lt_irrefl _)⟩
  refine ⟨⟨ok₁.tok, fun b ob eb => view b ob (ok₁.base b ob eb), ?_, fun b hb => let ⟨ob, q1, q2⟩ := ok₁.own b hb; ⟨ob, hk b ob q1, q2⟩, by simp [len], fun i b ys e1 e2 => ?_⟩, fun b hb ob eb => hk b ob eb, view⟩
  · rw [← List.append_assoc]
    refine List.nodup_append.mpr ⟨ok₁.nd, by simp, fun x hx' y hy q => ?_⟩
    rw [List.mem_singleton] at hy
    exact fr x hx' (q.trans hy)
  · by_cases hi : i < al.length
    · rw [List.getElem?_append_left hi] at e1
      rw [List.getElem?_append_left (by rw [← len]; exact hi)] at e2
      exact (ok₁.st.2 i b ys e1 e2).mono (fun ob q => hk b ob q) view
    · have hi' : i = al.length := by
        have := (List.getElem?_eq_some_iff.mp e1).1
        rw [List.length_append, List.length_singleton] at this
        omega
      subst hi'
      rw [List.getElem?_append_right (Nat.le_refl _), Nat.sub_self] at e1
      rw [len, List.getElem?_append_right (Nat.le_refl _), Nat.sub_self] at e2
      simp only [List.getElem?_cons_zero, Option.some.injEq] at e1 e2
      subst e1 e2
      exact ⟨_, new_list vals, by rw [List.toList_toArray]; exact r.keeps view⟩

theorem comp_done {hx al : List Addr} {h₀ h h' : Heap} {tk₀ tk : Nat} {C D : Addr} {ys : List PyData} {st₀ : Store} (a0 : At cx env hx al ρ st₀ h₀ tk₀) (c : CFin cx env hx al ρ st C D h₀ ys h tk) (sb : Heap.SameBut C h h')
    (len : al.length = st.length) : Nx cx (ow env hx) al [] st h₀ h' tk ∧ VRep cx (vw h' (ow env hx ++ (al ++ []))) (al ++ []) (.ref D) (.d (.list ys)) ∧ (vw h (ow env (C :: hx) ++ (al ++ [D]))).StaysIn (vw h' (ow env hx ++ al)) := by
  have ndc := List.nodup_append.mp c.at'.ok.nd
  have mC : C ∈ ow env (C :: hx) := .tail _ (List.mem_append.mpr (.inr (.head _)))
  have sub : ∀ b ∈ ow env hx, b ∈ ow env (C :: hx) := by
    intro b hb
    simp only [ow, List.mem_cons, List.mem_append] at hb ⊢
    rcases hb with hb | hb | hb
    · exact .inl hb
    · exact .inr (.inl hb)
    · exact .inr (.inr (.inr hb))
  have nC : ∀ b ∈ ow env hx, b ≠ C := by
    intro b hb q
    subst q
    have nd := ndc.1
    simp only [ow, List.mem_cons, List.mem_append] at hb
    simp only [ow, List.nodup_cons, List.nodup_append, List.mem_append, List.mem_cons] at nd
    rcases hb with hb | hb | hb
    · exact nd.1 (.inr (.inl hb.symm))
    · exact nd.2.2.2 b hb b (.inl rfl) rfl
    · exact nd.2.2.1.1 hb
  have nCa : ∀ b ∈ al ++ [D], b ≠ C := fun b hb q => ndc.2.2 C mC b hb q.symm
  have view : (vw h (ow env (C :: hx) ++ (al ++ [D]))).StaysIn (vw h' (ow env hx ++ al)) := vw_mono fun b ob n e => ⟨(sb.2 b fun q => n (by rw [q]; exact List.mem_append.mpr (.inl mC))).trans e, fun m => n (by
    rcases List.mem_append.mp m with m | m
    · exact List.mem_append.mpr (.inl (sub b m))
    · exact List.mem_append.mpr (.inr (List.mem_append.mpr (.inl m))))⟩
  have viewA : (vw h₀ (ow env hx ++ al)).StaysIn (vw h' (ow env hx ++ al)) := fun b o e => view b o (c.vw b o e)
  have fr : ∀ b ∈ ow env hx, ∀ o, h₀.get? b = some o → h'.get? b = some o := fun b hb o e => (sb.2 b (nC b hb)).trans (c.fr b hb o e)
  refine ⟨⟨?_, fr, by rw [List.append_nil]; exact viewA⟩, ?_, view⟩
  · rw [List.append_nil]
    refine ⟨c.at'.ok.tok, fun b o e => viewA b o (a0.ok.base b o e), a0.ok.nd, fun b hb => let ⟨ob, q1, q2⟩ := a0.ok.own b hb; ⟨ob, fr b hb ob q1, q2⟩, len, fun i b y e1 e2 => ?_⟩
    exact (c.at'.ok.st.2 i b y (getElem?_append_some e1) (getElem?_append_some e2)).mono (fun ob q => (sb.2 b (nCa b (List.mem_append.mpr (.inl (List.mem_of_getElem? e1))))).trans q) view
  · rw [List.append_nil]
    obtain ⟨vs, ⟨ob, l1, l2, n, l3, _⟩, r⟩ : CellOk _ _ _ (.live ys) := c.at'.ok.st.2 al.length D (.live ys) (by simp) (by rw [len]; simp)
    refine .list ⟨ob, vw_get.mpr ⟨(sb.2 D (nCa D (by simp))).trans l1, fun m => ?_⟩, l2, n, l3⟩ (r.keeps view)
    rcases List.mem_append.mp m with m | m
    · exact ndc.2.2 D (sub D m) D (by simp) rfl
    · have := List.nodup_append.mp ndc.2.1
      exact this.2.2 D m D (by simp) rfl
end Mine

-- M11
namespace Mine
open PySem PySem.W PySem.Calls PyProof.Rows

variable {cx : Cx} {d : Nat} {env : Env} {ρ : Vars} {st : Store} {pos : Pos}

/-- what the text says of a comprehension's scope -/
structure CompOk (env : Env) (scope : Scope) (cl : List (PySem.Str × Addr)) (rest : List Addr) (ρ fr : Vars) : Prop where
  hclos : closureFor scope env = pure cl
  hkind : scope.kind = .function
  hcell : ∀ y ∈ scope.names, y.2 ≠ .cell
  hnames : ∀ x ∈ scope.names, x.2 = .local → scope.names.lookup x.1 = some .local
  hp : (env.cells.map (·.2)).Perm (cl.map (·.2) ++ rest)
  hcl : ∀ n c, cl.lookup n = some c → env.cells.lookup n = some c
  hfr : ∀ y v, fr.lookup y = some v → ρ.lookup y = some v ∧ (env.kindOf y = some .cell ∨ env.kindOf y = some .free) ∧ ((relabel scope env).names.lookup y = some .cell ∨ (relabel scope env).names.lookup y = some .free) ∧ (cl.lookup y).isSome = true

theorem comp_core {A : Around} {E : Value → Shared → Prop} {hx al : List Addr} {s : Shared} {h₂ : Heap} {I : Addr} {items : List PyData} {f : PyData → PyData} {scope : Scope} {cl : List (PySem.Str × Addr)} {rest : List Addr} {fr : Vars} {target elt iter : Expr} {RR : Value → Addr → Result → Shared → Prop} (R : Room A d)
    (a : At cx env hx al ρ st s.heap s.toks) (hk₂ : s.heap.StaysIn h₂) (hI : s.heap.objs.size ≤ I) (hIn : ∃ ob, h₂.get? I = some ob ∧ ¬ SeqObj ob) (F : FeedsX cx A I target (vw s.heap (ow env hx ++ al)) (fun b => ∃ (n : Nat) (o : Obj), al[n]? = some b ∧ st[n]? = some (Cell.fixed o)) items h₂)
    (hz : items.length ≤ 100000) (O : CompOk env scope cl rest ρ fr) (each : Each cx d env scope cl target elt fr items f)
    (k : ∀ C D h' tk', CFin cx env hx al ρ st C D s.heap (items.map f) h' tk' → RR (.ref D) C (.ok .next) { s with heap := h', toks := tk' }) :
    wpAny (model cx.prog cx.w) A (newList []) (fun acc s₃ => wpAny (model cx.prog cx.w) A (newFunctionEnv scope env.globals cl [] env.qual none .none (some env)) (fun cenv s₄ =>
      codeAny (model cx.prog cx.w) A (.compStart (.ListComp elt [⟨target, iter, [], 0⟩] scope pos) 0 (.ref I) acc { cenv with scope := relabel scope env }) (RR acc cenv.locals) s₄) E s₃) E { s with heap := h₂ } := by
  refine wpAny_newObj_type (wpAny_newFunctionEnv O.hcell (by intro y hy; simp at hy) (fun h₄ hns₄ hsb₄ => ?_) O.hkind)
  dsimp only at hns₄ hsb₄ ⊢
  obtain ⟨a₂, v₂⟩ := a.add (Nat.le_refl _) hk₂ hI hIn
  have n₃ := nx_newCell (vals := []) (ds := []) a₂.ok .nil
  have a₃ := a₂.next n₃
  generalize hH3 : h₂.push { cls := .type "list", dict := none, data := .seq ([] : List Value).toArray } = h₃ at hns₄ hsb₄ n₃ a₃ ⊢
  have k34 : h₃.StaysIn h₄ := fun b o e => (hsb₄.2 b (Nat.ne_of_lt (Heap.lt_size e))).trans (Heap.get?_push_of_some _ e)
  have k23 : h₂.StaysIn h₃ := fun b o e => hH3 ▸ Heap.get?_push_of_some _ e
  have nsC : ∃ ob, h₄.get? h₃.objs.size = some ob ∧ ¬ SeqObj ob := let ⟨ob, es, ep, q1, q2, _⟩ := hns₄; ⟨ob, q1, fun ⟨_, _, q⟩ => by rw [q2] at q; cases q⟩
  obtain ⟨a₄, v₄⟩ := a₃.add (Nat.le_refl _) k34 (Nat.le_refl _) nsC
  have hIx : I ∉ hx := fun m => absurd (a.ok.lt (List.mem_append.mpr (.inl (.tail _ (List.mem_append.mpr (.inr m)))))) (Nat.not_lt.mpr hI)
  have hCx : h₃.objs.size ∉ hx := fun m => absurd (a₃.ok.lt (List.mem_append.mpr (.inl (.tail _ (List.mem_append.mpr (.inr (.tail _ m))))))) (Nat.lt_irrefl _)
  have k04 : s.heap.StaysIn h₄ := fun b o e => k34 b o (k23 b o (hk₂ b o e))
  have cs : CSt cx env hx al ρ st h₃.objs.size I h₂.objs.size s.heap [] h₄ s.toks :=
    ⟨a₄, ⟨_, hns₄⟩, fun b _ o e => k04 b o e, fun b o e => v₄ b o (n₃.vw b o (v₂ b o e)), fun b _ o e => k04 b o e⟩
  have F₄ := F.keeps fun b o e => k34 b o (k23 b o e)
  have loop : codeAny (model cx.prog cx.w) A (.compLoop (.ListComp elt [⟨target, iter, [], 0⟩] scope pos) 0 (.ref I) (.ref h₂.objs.size) (compEnvC scope cl h₃.objs.size env)) (RR (.ref h₂.objs.size) h₃.objs.size) { s with heap := h₄, toks := s.toks } :=
    comp_loop (s := s) R cs F₄ hIx hCx hz O.hkind O.hp O.hcl (fun y v e => let ⟨q1, q2, q3, q4⟩ := O.hfr y v e; ⟨q1, q2, q3, q4⟩) each fun h' tk' c => k _ _ h' tk' c
  exact codeAny_compStart_list loop (FeedsX.self (s := { s with heap := h₄, toks := s.toks }) F₄ loop)

theorem drop_cell {hx al : List Addr} {h₀ h : Heap} {tk₀ tk : Nat} {C D : Addr} {ys : List PyData} {st₀ : Store} (a0 : At cx env hx al ρ st₀ h₀ tk₀) (c : CFin cx env hx al ρ st C D h₀ ys h tk)
    (len : al.length = st.length) : At cx env (C :: hx) al ρ st h tk ∧ VRep cx (vw h (ow env (C :: hx) ++ al)) al (.ref D) (.d (.list ys)) ∧ (vw h (ow env (C :: hx) ++ (al ++ [D]))).StaysIn (vw h (ow env (C :: hx) ++ al)) := by
  have ndc := List.nodup_append.mp c.at'.ok.nd
  have view : (vw h (ow env (C :: hx) ++ (al ++ [D]))).StaysIn (vw h (ow env (C :: hx) ++ al)) := vw_mono fun b ob n e => ⟨e, fun m => n (by
    rcases List.mem_append.mp m with m | m
    · exact List.mem_append.mpr (.inl m)
    · exact List.mem_append.mpr (.inr (List.mem_append.mpr (.inl m))))⟩
  have viewA : (vw h₀ (ow env hx ++ al)).StaysIn (vw h (ow env (C :: hx) ++ al)) := fun b o e => view b o (c.vw b o e)
  have nda := List.nodup_append.mp ndc.2.1
  obtain ⟨m, cm, hm, hc, hv⟩ := a0.vars
  refine ⟨⟨⟨c.at'.ok.tok, fun b o e => view b o (c.at'.ok.base b o e), ?_, c.at'.ok.own, len, fun i b y e1 e2 => ?_⟩, a0.fn, a0.gl, a0.bi, m, cm, hm.at' fun o e => c.fr _ (.head _) o e, fun n cc e => ?_, fun y v e => ?_⟩, ?_, view⟩
  · refine List.nodup_append.mpr ⟨ndc.1, nda.1, fun x hx y hy => ndc.2.2 x hx y (List.mem_append.mpr (.inl hy))⟩
  · exact (c.at'.ok.st.2 i b y (getElem?_append_some e1) (getElem?_append_some e2)).mono (fun ob q => q) view
  · obtain ⟨o, q1, q2⟩ := hc n cc e
    exact ⟨o, c.fr _ (.tail _ (List.mem_append.mpr (.inl (List.mem_map.mpr ⟨(n, cc), PySem.mem_of_lookup e, rfl⟩)))) _ q1, q2⟩
  · obtain ⟨val, r, q⟩ := hv y v e
    exact ⟨val, by have := r.mono (al' := []) viewA; rwa [List.append_nil] at this, q⟩
  · obtain ⟨vs, ⟨ob, l1, l2, n, l3, _⟩, r⟩ : CellOk _ _ _ (.live ys) := c.at'.ok.st.2 al.length D (.live ys) (by simp) (by rw [len]; simp)
    refine .list ⟨ob, vw_get.mpr ⟨l1, fun m => ?_⟩, l2, n, l3⟩ (r.keeps view)
    rcases List.mem_append.mp m with m | m
    · exact ndc.2.2 D m D (by simp) rfl
    · exact nda.2.2 D m D (by simp) rfl

section
variable {Post : V → Store → Prop} {scope : Scope} {cl : List (PySem.Str × Addr)} {rest : List Addr} {fr : Vars} {target elt iter : Expr}

theorem feeds_new {A : Around} {h g : Heap} {a : Addr} {vs : Array Value} {xs : List PyData} (X : Addr → Prop) (hh : A.handled = none) (hl : h.IsList a vs) (hX : X a ∨ ∃ o, g.get? a = some o) (hr : RdAll g vs.toList xs) :
    FeedsX cx A h.objs.size target g X xs (h.push { cls := .type "list_iterator", data := .fields #[.ref a, .int 0 0] }) := by
  have hlt : a < h.objs.size := let ⟨_, e, _⟩ := hl; Heap.lt_size e
  have hsz : vs.size = xs.length := by rw [← Array.length_toList, hr.length]
  refine ⟨[h.objs.size, a], _, _, hsz ▸ Walks.list hh h.objs.size a (Nat.ne_of_lt hlt) vs, ⟨⟨_, Heap.get?_push_size _ rfl, rfl, rfl⟩, let ⟨o, e, r⟩ := hl; ⟨o, Heap.get?_push_of_some _ e, r⟩⟩, ?_, ?_, ?_, ?_⟩
  · intro b hb
    rcases List.mem_cons.mp hb with q | q
    · exact .inl q
    · obtain rfl := List.mem_singleton.mp q
      rcases hX with q | q
      · exact .inr (.inr q)
      · exact .inr (.inl q)
  · intro i v hi hv
    have hi' : i < xs.length := hi
    obtain ⟨v', e, r⟩ := hr.get (List.getElem?_eq_getElem hi')
    have hv' : vs.toList[i]? = some v := by rw [Array.getElem?_toList]; exact hv
    rw [e] at hv'
    cases hv'
    exact ⟨_, List.getElem?_eq_getElem hi', r⟩
  · rintro i h' ⟨⟨o, e, _, hd⟩, _⟩
    exact ⟨o, e, fun ⟨_, _, q⟩ => by rw [hd] at q; cases q⟩
  · intro i v s' Q E hst q
    exact go_list hst.1 q

/-- [elt for target in iter], over plain data -/
theorem te_comp {f : PyData → PyData} (h : te cx d env ρ st iter fun v st₁ => ∃ xs, v = .d (.list xs) ∧ xs.length ≤ 100000 ∧ Each cx d env scope cl target elt fr xs f ∧ Post (.d (.list (xs.map f))) st₁) (O : CompOk env scope cl rest ρ fr)
    (hs : ∀ x, foldedSetIterable iter env x = pure x := by intro _; rfl) : te cx d env ρ st (.ListComp elt [⟨target, iter, [], 0⟩] scope pos) Post := by
  intro A hx al s R a Q E k
  rw [eval_ListComp]
  refine wpAny_comprehension_free (use := none) rfl hs O.hclos O.hkind O.hnames ?_
  show wpAny _ A (eval iter env) _ E s
  refine h A hx al s R a _ E fun v st₁ val al₁ h₁ tk₁ n₁ v₁ p₁ => ?_
  obtain ⟨xs, rfl, hz, each, p⟩ := p₁
  obtain ⟨l, vs, rfl, hl, hr⟩ := rd_list v₁
  refine wpAny_pyIter_list (isList_of_vw hl) ?_
  have a₁ := a.next n₁
  refine comp_core (s := { s with heap := h₁, toks := tk₁ }) (RR := fun acc C => compPost (model cx.prog cx.w) A E none Q acc C) R a₁ (stays_push _ _) (Nat.le_refl _) ⟨_, Heap.get?_push_size _ rfl, fun ⟨_, _, q⟩ => by cases q⟩
    (feeds_new _ R.hd (isList_of_vw hl) (.inr (let ⟨o, e, _⟩ := hl; ⟨o, e⟩)) hr) hz O each fun C D h' tk' c => ?_
  obtain ⟨m, hm⟩ := c.ns
  refine ⟨m, hm, fun h'' sb => ?_⟩
  obtain ⟨nx, vr, _⟩ := comp_done a₁ c sb a₁.ok.st.1
  exact lift_k (A := A) n₁ k (.d (.list (xs.map f))) st₁ (.ref D) [] h'' tk' nx vr p

/-- x = [elt for target in iter], over plain data, the value put where it belongs at once -/
theorem ts_assignComp {Post : Fl → Vars → Store → Prop} {f : PyData → PyData} {x : PySem.Str} {p : Pos} {cpos : Pos} (h : te cx d env ρ st iter fun v st₁ => ∃ xs, v = .d (.list xs) ∧ xs.length ≤ 100000 ∧ Each cx d env scope cl target elt fr xs f ∧ Post .next (upd ρ x (.d (.list (xs.map f)))) st₁) (O : CompOk env scope cl rest ρ fr)
    (hsw : swapsWith (.ListComp elt [⟨target, iter, [], 0⟩] scope cpos) (some (.Name x p)) pos.line env = pure true) (hk : stores env x = true := by rfl)
    (hs : ∀ x, foldedSetIterable iter env x = pure x := by intro _; rfl) : ts cx d env ρ st (.Assign [.Name x p] (.ListComp elt [⟨target, iter, [], 0⟩] scope cpos) pos) Post := by
  intro A hx al s Q E R a k
  rw [exec_Assign_Name_used _ _ _ _ hsw]
  refine wpAny_bind (wpAny_standAt (wpAny_bind ?_))
  show wpAny _ A (do let _ ← comprehension (.ListComp elt [⟨target, iter, [], 0⟩] scope cpos) scope env _ (newList []) false (eval iter env) (some (assign (.Name x p) env))) _ _ s
  refine wpAny_bind (wpAny_mono (wpAny_comprehension_free (use := some (assign (.Name x p) env)) (Q := fun _ s' => Q .next s') rfl hs O.hclos O.hkind O.hnames ?_) (fun _ s' hq => wpAny_pure (wpAny_pure hq)) fun _ _ e => e)
  refine h A hx al s R a _ E fun v st₁ val al₁ h₁ tk₁ n₁ v₁ p₁ => ?_
  obtain ⟨xs, rfl, hz, each, pp⟩ := p₁
  obtain ⟨l, vs, rfl, hl, hr⟩ := rd_list v₁
  refine wpAny_pyIter_list (isList_of_vw hl) ?_
  have a₁ := a.next n₁
  refine comp_core (s := { s with heap := h₁, toks := tk₁ }) (RR := fun acc C => compPost (model cx.prog cx.w) A E (some (assign (.Name x p) env)) (fun _ s' => Q .next s') acc C) R a₁ (stays_push _ _) (Nat.le_refl _) ⟨_, Heap.get?_push_size _ rfl, fun ⟨_, _, q⟩ => by cases q⟩
    (feeds_new _ R.hd (isList_of_vw hl) (.inr (let ⟨o, e, _⟩ := hl; ⟨o, e⟩)) hr) hz O each fun C D h' tk' c => ?_
  obtain ⟨aC, vr, vD⟩ := drop_cell a₁ c a₁.ok.st.1
  obtain ⟨m, hm⟩ := c.ns
  show wpAny _ A (assign (.Name x p) env (.ref D)) _ _ _
  refine wpAny_assign_Name (store_run (s := { s with heap := h', toks := tk' }) aC vr hk fun h₂ tk₂ n₂ => ?_)
  have mC : C ∈ C :: hx := .head _
  refine ⟨m, hm.at' fun o e => n₂.hk C mC o e, fun h₃ sb => ?_⟩
  have a₂ := n₂.at'
  have w₂ := n₂.vw
  rw [List.append_nil] at a₂ w₂
  obtain ⟨a₃, w₃⟩ := a₂.rest (Nat.le_refl _) fun b o hb e => (sb.2 b hb).trans e
  have nCx : C ∉ hx := by
    have := (List.nodup_append.mp aC.ok.nd).1
    simp only [ow, List.nodup_cons, List.nodup_append, List.mem_append, List.mem_cons] at this
    exact this.2.2.1.1
  have nx : Nxs cx env hx (al ++ al₁) [] (upd ρ x (.d (.list (xs.map f)))) st₁ h₁ h₃ tk₂ := by
    refine ⟨fun b hb o e => (sb.2 b (fun q => nCx (q ▸ hb))).trans (n₂.hk b (.tail _ hb) o (c.hk b hb o e)), by rw [List.append_nil]; exact a₃, ?_⟩
    rw [List.append_nil]
    exact fun b o e => w₃ b o (w₂ b o (vD b o (c.vw b o e)))
  have nn : Nxs cx env hx al (al₁ ++ []) (upd ρ x (.d (.list (xs.map f)))) st₁ s.heap h₃ tk₂ := (a.nxs n₁).trans nx
  exact k .next (upd ρ x (.d (.list (xs.map f)))) st₁ .next (al₁ ++ []) h₃ tk₂ nn trivial pp

theorem Ok.setCell {o al : List Addr} {h : Heap} {tk n : Nat} {c : Cell} (ok : Ok cx o al st h tk) (hc : ∀ a, al[n]? = some a → CellOk (vw h (o ++ al)) h a c) : Ok cx o al (st.set n c) h tk := by
  refine ⟨ok.tok, ok.base, ok.nd, ok.own, by rw [List.length_set]; exact ok.st.1, fun i a c' e1 e2 => ?_⟩
  by_cases hi : n = i
  · subst hi
    have hl : n < st.length := ok.st.1 ▸ (List.getElem?_eq_some_iff.mp e1).1
    rw [List.getElem?_set_self hl] at e2
    cases e2
    exact hc a e1
  · rw [List.getElem?_set_ne hi] at e2
    exact ok.st.2 i a c' e1 e2
theorem set_back {n : Nat} {c c' : Cell} (e : st[n]? = some c) : (st.set n c').set n c = st := by
  rw [List.set_set]
  exact List.set_getElem_self (List.getElem?_eq_some_iff.mp e).1 |> fun q => by
    have h := (List.getElem?_eq_some_iff.mp e).2
    rw [← h]; exact q

/-- [elt for target in iter], over a list that may change elsewhere -/
theorem te_compC {f : PyData → PyData} (h : te cx d env ρ st iter fun v st₁ => ∃ n xs, v = .c n ∧ st₁[n]? = some (.live xs) ∧ xs.length ≤ 100000 ∧ Each cx d env scope cl target elt fr xs f ∧ Post (.d (.list (xs.map f))) st₁) (O : CompOk env scope cl rest ρ fr)
    (hs : ∀ x, foldedSetIterable iter env x = pure x := by intro _; rfl) : te cx d env ρ st (.ListComp elt [⟨target, iter, [], 0⟩] scope pos) Post := by
  intro A hx al s R a Q E k
  rw [eval_ListComp]
  refine wpAny_comprehension_free (use := none) rfl hs O.hclos O.hkind O.hnames ?_
  show wpAny _ A (eval iter env) _ E s
  refine h A hx al s R a _ E fun v st₁ val al₁ h₁ tk₁ n₁ v₁ p₁ => ?_
  obtain ⟨n, xs, rfl, est, hz, each, p⟩ := p₁
  obtain ⟨l, vs, kk, ea, rfl, ho, hr⟩ := n₁.ok.cellX v₁ est
  have hl : h₁.IsList l vs := ⟨_, ho, rfl, kk, rfl⟩
  refine wpAny_pyIter_list hl ?_
  have a₁ := a.next n₁
  have aF : At cx env hx (al ++ al₁) ρ (st₁.set n (.fixed _)) h₁ tk₁ := ⟨n₁.ok.setCell fun b eb => by rw [ea] at eb; cases eb; exact ho, a₁.fn, a₁.gl, a₁.bi, a₁.vars⟩
  have lst : n < st₁.length := (List.getElem?_eq_some_iff.mp est).1
  refine comp_core (s := { s with heap := h₁, toks := tk₁ }) (RR := fun acc C => compPost (model cx.prog cx.w) A E none Q acc C) R aF (stays_push _ _) (Nat.le_refl _) ⟨_, Heap.get?_push_size _ rfl, fun ⟨_, _, q⟩ => by cases q⟩
    (feeds_new _ R.hd hl (.inl ⟨n, _, ea, List.getElem?_set_self lst⟩) hr) hz O each fun C D h' tk' c => ?_
  obtain ⟨m, hm⟩ := c.ns
  refine ⟨m, hm, fun h'' sb => ?_⟩
  obtain ⟨nx, vr, vw'⟩ := comp_done aF c sb aF.ok.st.1
  have view := nx.vw
  have okf := nx.ok
  have hx' : h''.get? l = some _ := okf.st.2 n l (.fixed _) (getElem?_append_some ea) (List.getElem?_set_self lst)
  have nx' : Nx cx (ow env hx) (al ++ al₁) [] st₁ h₁ h'' tk' := by
    refine ⟨?_, nx.fr, nx.vw⟩
    have := okf.setCell (n := n) (c := .live xs) fun b eb => by
      rw [List.append_nil, ea] at eb
      cases eb
      exact ⟨vs, ⟨_, hx', rfl, kk, rfl, rfl, rfl⟩, hr.keeps view⟩
    rwa [set_back est] at this
  exact lift_k (A := A) n₁ k (.d (.list (xs.map f))) st₁ (.ref D) [] h'' tk' nx' vr p
end
end Mine

-- M12
namespace Mine
open PySem PySem.W PySem.Calls PyProof.Rows

variable {cx : Cx} {d : Nat} {env : Env} {ρ : Vars} {st : Store} {pos : Pos} {Post : V → Store → Prop}

set_option maxHeartbeats 8000000 in
theorem meets_fmt (k v : PySem.Str) (t u w : Tok) (b : Addr) (hk : k.length ≤ 1000000) (hv : v.length ≤ 1000000) :
    Meets (Builtin.«str.__mod__» ⟨[.str ⟨#[37, 115, 58, 32, 37, 115]⟩ t, .ref b], []⟩) (fun _ R s => IsTup s.heap b #[.str k u, .str v w] ∧ ∀ t' k', R (.ok (.ret (.str (k ++ (": " : PySem.Str) ++ v) t'))) { s with toks := k' }) := by
  kpt_run
theorem tbin_fmt {x k v : PySem.Str} (hx : x = ⟨#[37, 115, 58, 32, 37, 115]⟩) (hk : k.length ≤ 1000000) (hv : v.length ≤ 1000000) (h : Post (.d (.str (k ++ (": " : PySem.Str) ++ v))) st) : tbin cx d .Mod (.d (.str x)) (.d (.tuple [.str k, .str v])) st Post := by
  subst hx
  intro A o al s va vb R ok v1 v2
  obtain ⟨t, rfl⟩ := rd_str v1
  obtain ⟨b, vs, rfl, ht, hr⟩ := rd_tuple v2
  obtain ⟨ws⟩ := vs
  cases hr with | cons h1 hr => cases hr with | cons h2 hr =>
    cases hr
    obtain ⟨u, rfl⟩ := rd_str h1
    obtain ⟨w, rfl⟩ := rd_str h2
    have ht' := isTup_of_vw ht
    refine Op.ofVal ok fun Q E kk => KPt.bin_left (T := "str") (U := "tuple") (op := .Mod) (by decide) (typeIs_str s _ t) ht'.typeIs F.fills_str_mod KPt.fills_tuple F.slot_str_mod
      (call_meets F.slot_str_mod (typeIs_str s _ t) F.entry_str_mod (F.args_str_mod_2 _ _) (meets_fmt k v t u w b hk hv) ⟨ht', fun t' k' => ⟨(fun e => nomatch e), kk _ s.heap k' (.d (.str _)) (fun _ _ e => e) (.str _ _) h⟩⟩)

theorem preSum_list (xs : Array (Int × Tok)) : preSum (numAt xs) xs.size = (xs.toList.map (·.1)).sum := by
  have key : ∀ (n : Nat), n ≤ xs.size → preSum (numAt xs) n = ((xs.toList.map (·.1)).take n).sum := by
    intro n
    induction n with
    | zero => intro _; simp [preSum]
    | succ n ih =>
      intro hn
      have hn' : n < xs.size := by omega
      show preSum (numAt xs) n + numAt xs n = _
      rw [ih (by omega), List.take_add_one, List.sum_append]
      congr 1
      simp [numAt, hn']
  rw [key _ (Nat.le_refl _), List.take_of_length_le (by simp)]
theorem rd_ints {g : Heap} : ∀ {vs : List Value} {ns : List Int}, RdAll g vs (ns.map .int) → ∃ l : List (Int × Tok), vs = l.map (fun p => .int p.1 p.2) ∧ l.map (·.1) = ns
  | [], [], _ => ⟨[], rfl, rfl⟩
  | v :: vs, n :: ns, h => by
    cases h with
    | cons h r =>
      obtain ⟨u, rfl⟩ := rd_int h
      obtain ⟨l, rfl, e⟩ := rd_ints r
      exact ⟨(n, u) :: l, rfl, by rw [List.map_cons, e]⟩
  | [], _ :: _, h => by cases h
  | _ :: _, [], h => by cases h
theorem tcall_sum {ns : List Int} (h : Post (.d (.int ns.sum)) st) : tcall cx d (.ext (.builtin "sum")) [.d (.list (ns.map .int))] [] st Post := tcall_bi fun A o al s vs R ok hv => by
  obtain ⟨_, rfl, v1⟩ := va1 hv
  obtain ⟨a, ws, rfl, hl, hr⟩ := rd_list v1
  obtain ⟨l, e1, e2⟩ := rd_ints hr
  have hl' : s.heap.IsList a (intItems l.toArray) := by
    have : intItems l.toArray = ws := by
      apply Array.toList_inj.mp
      rw [e1]; simp [intItems]
    rw [this]; exact isList_of_vw hl
  refine Op.ofVal ok fun Q E k => sum_intListG R.hd hl' fun h' tk t' hk => ?_
  have e : preSum (numAt l.toArray) l.toArray.size = ns.sum := by rw [preSum_list, List.toList_toArray, e2]
  rw [e]
  exact k _ h' tk (.d (.int ns.sum)) hk (.int _ _) h
end Mine

-- R0
namespace Mine
open PySem PySem.Sre

def code1 : Array Nat := #[14, 4, 0, 1, 1, 6, 1, 16, 46, 1]
def code2 : Array Nat := #[14, 9, 4, 1, 2, 16, 10, 16, 13, 0, 7, 7, 16, 13, 16, 10, 15, 18, 5, 16, 10, 15, 13, 11, 16, 13, 5, 5, 0, 16, 10, 1, 15, 2, 0, 1]
def code3 : Array Nat := #[14, 10, 4, 1, 1, 22, 0, 31, 16, 127, 0, 13, 7, 22, 0, 31, 16, 127, 0, 1]
def code4 : Array Nat := #[14, 14, 4, 1, 1, 9, 4294966783, 0, 0, 2147483648, 0, 0, 0, 0, 0, 13, 11, 9, 4294966783, 0, 0, 2147483648, 0, 0, 0, 0, 0, 1]

def steps : Nat → M → M
  | 0, m => m
  | n + 1, m => steps n m.step
theorem step_fix {m : M} (h : m.outcome.isSome = true) : m.step = m := by unfold M.step; rw [if_pos h]
theorem steps_fix {m : M} (h : m.outcome.isSome = true) : ∀ n, steps n m = m
  | 0 => rfl
  | n + 1 => by unfold steps; rw [step_fix h, steps_fix h n]
theorem runFor_steps : ∀ (n : Nat) (m : M), M.runFor n m = steps n m
  | 0, _ => rfl
  | n + 1, m => by
    unfold M.runFor steps
    split
    · rename_i h; rw [step_fix h, steps_fix h]
    · exact runFor_steps n _
theorem steps_add (a b : Nat) : ∀ m : M, steps (a + b) m = steps b (steps a m) := by
  induction a with
  | zero => intro m; rw [Nat.zero_add]; rfl
  | succ a ih => intro m; rw [Nat.succ_add]; exact ih m.step

theorem steps1 (m : M) : steps 1 m = m.step := rfl
theorem steps2 (m : M) : steps 2 m = m.step.step := rfl

/-- an attempt at place s -/
def St (code text : Array Nat) (b lim s : Nat) (first must : Bool) (seen : Seen) : M :=
  { code, text, lim, start := s, lastStart := lim, mustAdvance := must, pc := b, pos := s, handed := s, outermost := first, marks := #[],
    frames := [{ wait := .nextStart, pc := b, pos := s, outermost := first }], weight := 1, seen }

/-- the machine ends within n steps with a match from s to e -/
def Hit (m : M) (n s e : Nat) : Prop := (steps n m).outcome = some .matched ∧ (steps n m).start = s ∧ (steps n m).handed = e
def Miss (m : M) (n : Nat) : Prop := (steps n m).outcome = some .failed

theorem Hit.more {m : M} {n s e : Nat} (a : Nat) {m' : M} (e1 : steps a m = m') (h : Hit m' n s e) : Hit m (a + n) s e := by
  unfold Hit; rw [steps_add, e1]; exact h
theorem Miss.more {m : M} {n : Nat} (a : Nat) {m' : M} (e1 : steps a m = m') (h : Miss m' n) : Miss m (a + n) := by
  unfold Miss; rw [steps_add, e1]; exact h

theorem forSearch1 (text : Array Nat) (p lim : Nat) (h : p < lim) : forSearch code1 text 0 p lim false = St code1 text 5 lim p true false (({} : Seen).add 14) := by
  unfold forSearch
  have h1 : ¬ (p > lim ∨ lim - p < 1) := by omega
  have e : header code1 = (1, 5) := rfl
  simp only [e]
  have h2 : (decide (p > lim) || decide (lim - p < 1)) = false := by simp; omega
  rw [h2]
  rfl
theorem forSearch1_end (text : Array Nat) (p lim : Nat) (h : lim ≤ p) : Miss (forSearch code1 text 0 p lim false) 1 := by
  unfold forSearch
  have e : header code1 = (1, 5) := rfl
  simp only [e]
  have h2 : (decide (p > lim) || decide (lim - p < 1)) = true := by simp; omega
  rw [h2]
  rfl

/-- at the start of a line -/
def atLine (text : Array Nat) (s : Nat) : Bool := s == 0 || text.getD (s - 1) 0 == 10

theorem step_go {m : M} (ho : m.outcome = none) (ha : m.answer = none) (hp : m.pc < m.code.size) : m.step = m.exec := by
  unfold M.step
  rw [ho, ha, if_pos hp]
  rfl
theorem exec_AT {m : M} {yes : Bool} (hop : ops[m.word 0]? = some .AT) (hi : ({ m with seen := m.seen.add (m.word 0) } : M).isAt (m.word 1) = .ok yes) :
    m.exec = if yes then { m with seen := (m.seen.add (m.word 0)).add (43 + m.word 1), pc := m.pc + 2 } else ({ m with seen := (m.seen.add (m.word 0)).add (43 + m.word 1) } : M).say false := by
  unfold M.exec
  rw [hop]
  simp only
  have e : ({ m with seen := m.seen.add (m.word 0) } : M).word 1 = m.word 1 := rfl
  rw [e, hi]
theorem exec_LIT {m : M} (hop : ops[m.word 0]? = some .LITERAL) :
    m.exec = if m.pos < m.lim ∧ m.text.getD m.pos 0 = m.word 1 then { m with seen := m.seen.add (m.word 0), pc := m.pc + 2, pos := m.pos + 1 } else ({ m with seen := m.seen.add (m.word 0) } : M).say false := by
  have acc : ∀ c sn, accepts m.code m.pc c sn = .ok (c == m.word 1, sn) := by
    intro c sn
    unfold accepts
    have e : m.code.getD m.pc 0 = m.word 0 := rfl
    rw [e, hop]
    rfl
  have wid : itemWidth m.code m.pc = 2 := by
    unfold itemWidth
    have e : m.code.getD m.pc 0 = m.word 0 := rfl
    rw [e, hop]
  unfold M.exec
  rw [hop]
  simp only [acc, wid]
  by_cases h1 : m.pos < m.lim
  · rw [if_neg (by omega)]
    by_cases h2 : m.text.getD m.pos 0 = m.word 1
    · rw [if_pos ⟨h1, h2⟩, h2, beq_self_eq_true]
    · have : (m.text.getD m.pos 0 == m.word 1) = false := by rw [beq_eq_false_iff_ne]; exact h2
      rw [if_neg (fun h => h2 h.2), this]
  · rw [if_pos (by omega), if_neg (fun h => h1 h.1)]
theorem exec_OK {m : M} (hop : ops[m.word 0]? = some .SUCCESS) (hw : m.wholeText = false) (hm : m.mustAdvance = false) : m.exec = { m with seen := m.seen.add (m.word 0), handed := m.pos, answer := some true } := by
  unfold M.exec
  rw [hop]
  simp only [hw, hm, Bool.false_and, Bool.and_false, Bool.or_self]
  rfl
theorem exec_JUMP {m : M} (hop : ops[m.word 0]? = some .JUMP) : m.exec = { m with seen := m.seen.add (m.word 0), pc := m.pc + 1 + m.word 1 } := by
  unfold M.exec
  rw [hop]
  rfl
theorem exec_BRANCH {m : M} (hop : ops[m.word 0]? = some .BRANCH) (hn : m.inner = none) : m.exec = ({ m with seen := m.seen.add (m.word 0) } : M).alternative (m.pc + 1) { lastmark := m.lastmark, lastindex := m.lastindex } := by
  unfold M.exec
  rw [hop]
  simp only [hn]
  rfl
theorem exec_NOT {m : M} (hop : ops[m.word 0]? = some .ASSERT_NOT) (hn : m.inner = none) (h2 : m.word 2 = 0) :
    m.exec = ({ m with seen := m.seen.add (m.word 0) } : M).attempt { ({ m with seen := m.seen.add (m.word 0) } : M).frame .lookNot with kept := { lastmark := m.lastmark, lastindex := m.lastindex } } (m.pc + 3) m.pos false := by
  unfold M.exec
  rw [hop]
  show (if m.pos < m.word 2 then _ else ({ m with seen := m.seen.add (m.word 0) } : M).attempt { ({ m with seen := m.seen.add (m.word 0) } : M).frame .lookNot with kept := ({ m with seen := m.seen.add (m.word 0) } : M).keep (true && m.inner.isSome) } (m.pc + 3) (m.pos - m.word 2) false) = _
  rw [h2, if_neg (Nat.not_lt_zero _), hn]
  rfl

theorem hit1 (text : Array Nat) (lim s : Nat) (first : Bool) (seen : Seen) (h : s < lim) (hl : atLine text s = true) (hc : text.getD s 0 = 46) : Hit (St code1 text 5 lim s first false seen) 5 s (s + 1) := by
  show Hit _ (1 + (1 + (1 + 2))) _ _
  refine Hit.more (m' := { St code1 text 5 lim s first false seen with pc := 7, seen := (seen.add 6).add 44 }) 1 ?_ ?_
  · rw [steps1, step_go rfl rfl (by decide : 5 < code1.size), exec_AT (yes := true) rfl (by show Except.ok (atLine text s) = _; rw [hl])]
    rfl
  refine Hit.more (m' := { St code1 text 5 lim s first false seen with pc := 9, pos := s + 1, seen := ((seen.add 6).add 44).add 16 }) 1 ?_ ?_
  · rw [steps1, step_go rfl rfl (by decide : 7 < code1.size), exec_LIT rfl, if_pos ⟨h, hc⟩]
    rfl
  refine Hit.more (m' := { St code1 text 5 lim s first false seen with pc := 9, pos := s + 1, seen := (((seen.add 6).add 44).add 16).add 1, handed := s + 1, answer := some true }) 1 ?_ ?_
  · rw [steps1, step_go rfl rfl (by decide : 9 < code1.size), exec_OK rfl rfl rfl]
    rfl
  exact ⟨rfl, rfl, rfl⟩

theorem next1 {text : Array Nat} {lim s p : Nat} {first : Bool} {seen : Seen} (h : s < lim) : ({ St code1 text 5 lim s first false seen with pc := p, answer := some false } : M).step = St code1 text 5 lim (s + 1) false false seen := by
  show (if s < lim then _ else _) = _
  rw [if_pos h]
  rfl
theorem last1 {text : Array Nat} {lim s p : Nat} {first : Bool} {seen : Seen} (h : lim ≤ s) : Miss { St code1 text 5 lim s first false seen with pc := p, answer := some false } 2 := by
  show (steps 1 (if s < lim then _ else _)).outcome = _
  rw [if_neg (by omega)]
  rfl
/-- where the first pattern fits -/
def fit1 (text : Array Nat) (s : Nat) : Bool := atLine text s && text.getD s 0 == 46
theorem fail1 (text : Array Nat) (lim s : Nat) (first : Bool) (seen : Seen) (h : s < lim → fit1 text s = false) :
    ∃ n p sn, n ≤ 2 ∧ steps n (St code1 text 5 lim s first false seen) = { St code1 text 5 lim s first false sn with pc := p, answer := some false } := by
  cases hl : atLine text s with
  | false =>
    refine ⟨1, 5, (seen.add 6).add 44, by omega, ?_⟩
    rw [steps1, step_go rfl rfl (by decide : 5 < code1.size), exec_AT (yes := false) rfl (by show Except.ok (atLine text s) = _; rw [hl])]
    rfl
  | true =>
    refine ⟨2, 7, ((seen.add 6).add 44).add 16, by omega, ?_⟩
    rw [steps2, step_go (m := St code1 text 5 lim s first false seen) rfl rfl (by decide : 5 < code1.size), exec_AT (yes := true) rfl (by show Except.ok (atLine text s) = _; rw [hl])]
    rw [if_pos rfl, step_go rfl rfl (by decide : 7 < code1.size), exec_LIT rfl, if_neg (fun hh => ?_)]
    · rfl
    · have h1 := h hh.1
      unfold fit1 at h1
      rw [hl, show text.getD s 0 = 46 from hh.2] at h1
      cases h1
theorem run1 (text : Array Nat) (lim : Nat) : ∀ (k s : Nat) (first : Bool) (seen : Seen), s + k < lim → (∀ i, s ≤ i → i < s + k → fit1 text i = false) → fit1 text (s + k) = true →
    ∃ n, n ≤ 3 * k + 5 ∧ Hit (St code1 text 5 lim s first false seen) n (s + k) (s + k + 1)
  | 0, s, first, seen, h, _, hf => by
    simp only [fit1, Nat.add_zero, Bool.and_eq_true, beq_iff_eq] at hf
    exact ⟨5, by omega, hit1 text lim s first seen h hf.1 hf.2⟩
  | k + 1, s, first, seen, h, hm, hf => by
    obtain ⟨n, p, sn, hn, e⟩ := fail1 text lim s first seen (fun _ => hm s (Nat.le_refl _) (by omega))
    obtain ⟨n', hn', hit⟩ := run1 text lim k (s + 1) false sn (by omega) (fun i h1 h2 => hm i (by omega) (by omega)) (by rw [show s + 1 + k = s + (k + 1) by omega]; exact hf)
    refine ⟨n + (1 + n'), by omega, Hit.more n e (Hit.more 1 (next1 (by omega)) ?_)⟩
    rw [show s + (k + 1) = s + 1 + k by omega]
    exact hit
theorem miss1 (text : Array Nat) (lim : Nat) : ∀ (k s : Nat) (first : Bool) (seen : Seen), s + k = lim → (∀ i, s ≤ i → i < lim → fit1 text i = false) →
    ∃ n, n ≤ 3 * k + 4 ∧ Miss (St code1 text 5 lim s first false seen) n
  | 0, s, first, seen, h, hm => by
    obtain ⟨n, p, sn, hn, e⟩ := fail1 text lim s first seen (fun hh => absurd hh (by omega))
    exact ⟨n + 2, by omega, Miss.more n e (last1 (by omega))⟩
  | k + 1, s, first, seen, h, hm => by
    obtain ⟨n, p, sn, hn, e⟩ := fail1 text lim s first seen (fun _ => hm s (Nat.le_refl _) (by omega))
    obtain ⟨n', hn', hit⟩ := miss1 text lim k (s + 1) false sn (by omega) (fun i h1 h2 => hm i (by omega) h2)
    exact ⟨n + (1 + n'), by omega, Miss.more n e (Miss.more 1 (next1 (by omega)) hit)⟩

/-- the first pattern, sought from place p -/
theorem search1_hit {text : Array Nat} {lim p j : Nat} (h1 : p ≤ j) (h2 : j < lim) (hm : ∀ i, p ≤ i → i < j → fit1 text i = false) (hf : fit1 text j = true) :
    ∃ n, n ≤ 3 * lim + 9 ∧ Hit (forSearch code1 text 0 p lim false) n j (j + 1) := by
  obtain ⟨n, hn, h⟩ := run1 text lim (j - p) p true (({} : Seen).add 14) (by omega) (fun i a b => hm i a (by omega)) (by rw [show p + (j - p) = j by omega]; exact hf)
  rw [show p + (j - p) = j by omega] at h
  exact ⟨n, by omega, by rw [forSearch1 text p lim (by omega)]; exact h⟩
theorem search1_miss {text : Array Nat} {lim p : Nat} (hm : ∀ i, p ≤ i → i < lim → fit1 text i = false) : ∃ n, n ≤ 3 * lim + 9 ∧ Miss (forSearch code1 text 0 p lim false) n := by
  by_cases h : p < lim
  · obtain ⟨n, hn, h'⟩ := miss1 text lim (lim - p) p true (({} : Seen).add 14) (by omega) hm
    exact ⟨n, by omega, by rw [forSearch1 text p lim h]; exact h'⟩
  · exact ⟨1, by omega, forSearch1_end text p lim (by omega)⟩

/-! ### patterns that name the signs they may begin with -/
theorem admitted_some {m : M} {P : Nat → Bool} (hP : ∀ c seen, ∃ sn, inSet m.code c m.code.size 5 true seen = .ok (P c, sn)) : ∀ (k fuel s : Nat) (seen : Seen), k < fuel → s + k < m.lim →
    (∀ i, s ≤ i → i < s + k → P (m.text.getD i 0) = false) → P (m.text.getD (s + k) 0) = true → ∃ sn, M.admitted m fuel s seen = .ok (some (s + k), sn)
  | k, 0, s, seen, hf, _, _, _ => absurd hf (Nat.not_lt_zero _)
  | 0, fuel + 1, s, seen, _, h, _, hp => by
    obtain ⟨sn, e⟩ := hP (m.text.getD s 0) seen
    refine ⟨sn, ?_⟩
    unfold M.admitted
    rw [if_neg (by omega), e, show P (m.text.getD s 0) = true from hp]
    rfl
  | k + 1, fuel + 1, s, seen, hf, h, hm, hp => by
    obtain ⟨sn, e⟩ := hP (m.text.getD s 0) seen
    obtain ⟨sn', e'⟩ := admitted_some hP k fuel (s + 1) sn (by omega) (by omega) (fun i a b => hm i (by omega) (by omega)) (by rw [show s + 1 + k = s + (k + 1) by omega]; exact hp)
    refine ⟨sn', ?_⟩
    unfold M.admitted
    rw [if_neg (by omega), e, hm s (Nat.le_refl _) (by omega)]
    show M.admitted m fuel (s + 1) sn = _
    rw [e', show s + 1 + k = s + (k + 1) by omega]
theorem admitted_none {m : M} {P : Nat → Bool} (hP : ∀ c seen, ∃ sn, inSet m.code c m.code.size 5 true seen = .ok (P c, sn)) : ∀ (fuel s : Nat) (seen : Seen),
    (∀ i, s ≤ i → i < m.lim → P (m.text.getD i 0) = false) → ∃ sn, M.admitted m fuel s seen = .ok (none, sn)
  | 0, s, seen, _ => ⟨seen, rfl⟩
  | fuel + 1, s, seen, hm => by
    unfold M.admitted
    by_cases h : s ≥ m.lim
    · rw [if_pos h]; exact ⟨_, rfl⟩
    · obtain ⟨sn, e⟩ := hP (m.text.getD s 0) seen
      obtain ⟨sn', e'⟩ := admitted_none hP fuel (s + 1) sn (fun i a b => hm i (by omega) b)
      rw [if_neg h, e, hm s (Nat.le_refl _) (by omega)]
      exact ⟨sn', e'⟩

theorem attemptFrom_none {m : M} {s : Nat} {P : Nat → Bool} (hP : ∀ c seen, ∃ sn, inSet m.code c m.code.size 5 true seen = .ok (P c, sn)) (hf : m.hasFirstSet = true)
    (hm : ∀ i, s ≤ i → i < m.lim → P (m.text.getD i 0) = false) (b : Bool) : ∃ sn, m.attemptFrom s b = ({ m with seen := sn } : M).say false := by
  obtain ⟨sn, ea⟩ := admitted_none hP (m.lim + 1 - s) s m.seen hm
  refine ⟨sn, ?_⟩
  unfold M.attemptFrom
  rw [hf, ea]
  rfl
theorem attemptFrom_some {m : M} {s j : Nat} {P : Nat → Bool} (hP : ∀ c seen, ∃ sn, inSet m.code c m.code.size 5 true seen = .ok (P c, sn)) (hf : m.hasFirstSet = true)
    (h1 : s ≤ j) (h2 : j < m.lim) (hm : ∀ i, s ≤ i → i < j → P (m.text.getD i 0) = false) (hp : P (m.text.getD j 0) = true) (b : Bool) : ∃ sn, m.attemptFrom s b = ({ m with mustAdvance := false, seen := sn } : M).attemptAt j b := by
  obtain ⟨sn, ea⟩ := admitted_some hP (j - s) (m.lim + 1 - s) s m.seen (by omega) (by omega) (fun i a b => hm i a (by omega)) (by rw [show s + (j - s) = j by omega]; exact hp)
  rw [show s + (j - s) = j by omega] at ea
  refine ⟨sn, ?_⟩
  unfold M.attemptFrom
  rw [hf, ea]
  rfl
theorem forSearch_eq {code text : Array Nat} {p lim b : Nat} (hh : header code = (1, b)) (hb : b ≠ 0) (h : p < lim) :
    forSearch code text 0 p lim false = ({ code, text, lim, start := p, lastStart := lim, pc := b, pos := p, handed := p, marks := #[], seen := ({} : Seen).add 14 } : M).attemptFrom p true := by
  unfold forSearch
  simp only [hh]
  have h2 : (decide (p > lim) || decide (lim - p < 1)) = false := by simp; omega
  rw [h2]
  have hb' : (b == 0) = false := by rw [beq_eq_false_iff_ne]; exact hb
  show ({ code := code, text := text, lim := lim, start := p, pc := (header code).2, pos := p, handed := p, marks := Array.replicate (2 * 0) none, mustAdvance := false, seen := if ((header code).2 == 0) = true then {} else ({} : Seen).add 14, lastStart := lim } : M).attemptFrom p true = _
  rw [hh]
  simp only [hb', Bool.false_eq_true, if_false]
  rfl
theorem forSearch_end {code text : Array Nat} {p lim b : Nat} (hh : header code = (1, b)) (h : lim ≤ p) : Miss (forSearch code text 0 p lim false) 1 := by
  unfold forSearch
  simp only [hh]
  have h2 : (decide (p > lim) || decide (lim - p < 1)) = true := by simp; omega
  rw [h2]
  rfl
theorem search_none {code text : Array Nat} {p lim b : Nat} {P : Nat → Bool} (hP : ∀ c seen, ∃ sn, inSet code c code.size 5 true seen = .ok (P c, sn)) (hh : header code = (1, b)) (hb : b ≠ 0)
    (hf : ((match ops[code.getD 0 0]? with | some .INFO => true | _ => false) && code.getD 2 0 == 4) = true) (hm : ∀ i, p ≤ i → i < lim → P (text.getD i 0) = false) : Miss (forSearch code text 0 p lim false) 1 := by
  by_cases h : p < lim
  · rw [forSearch_eq hh hb h]
    obtain ⟨sn, e⟩ := attemptFrom_none (m := ({ code, text, lim, start := p, lastStart := lim, pc := b, pos := p, handed := p, marks := #[], seen := ({} : Seen).add 14 } : M)) (s := p) hP hf hm true
    rw [e]
    rfl
  · exact forSearch_end hh (by omega)

/-! ### the second pattern: an end of a row -/
def isEol (c : Nat) : Bool := c == 10 || c == 13
theorem inSet2 (c : Nat) (seen : Seen) : ∃ sn, inSet code2 c code2.size 5 true seen = .ok (isEol c, sn) := by
  unfold isEol
  show ∃ sn, (if (c == 10) = true then Except.ok (true, _) else if (c == 13) = true then Except.ok (true, _) else Except.ok (false, _)) = Except.ok (c == 10 || c == 13, sn)
  cases h1 : c == 10 with
  | true => exact ⟨_, rfl⟩
  | false =>
    cases h2 : c == 13 with
    | true => exact ⟨_, rfl⟩
    | false => exact ⟨_, rfl⟩

/-- the end of the row's end at s -/
def eolEnd (text : Array Nat) (lim s : Nat) : Nat := if text.getD s 0 = 13 ∧ s + 1 < lim ∧ text.getD (s + 1) 0 = 10 then s + 2 else s + 1
/-- before an alternative -/
def Br (text : Array Nat) (lim s alt : Nat) (first : Bool) (seen : Seen) : M :=
  { St code2 text 10 lim s first false seen with pc := alt + 1, frames := [{ wait := .nextBranch, pc := alt, pos := s, outermost := first }, { wait := .nextStart, pc := 10, pos := s, outermost := first }], weight := 2 }
theorem br0 (text : Array Nat) (lim s : Nat) (first : Bool) (seen : Seen) : steps 1 (St code2 text 10 lim s first false seen) = Br text lim s 11 first (seen.add 7) := by
  rw [steps1, step_go rfl rfl (by decide : 10 < code2.size), exec_BRANCH rfl rfl]
  rfl
theorem br1 {text : Array Nat} {lim s p q : Nat} {first : Bool} {seen : Seen} : steps 1 { Br text lim s 11 first seen with pc := p, pos := q, answer := some false } = Br text lim s 18 first seen := rfl
theorem br2 {text : Array Nat} {lim s p q : Nat} {first : Bool} {seen : Seen} : steps 1 { Br text lim s 18 first seen with pc := p, pos := q, answer := some false } = Br text lim s 23 first seen := rfl
theorem brOk {text : Array Nat} {lim s e alt : Nat} {first : Bool} {seen : Seen} : Hit { Br text lim s alt first seen with pc := 35, pos := e } 4 s e := by
  show Hit _ (1 + 3) _ _
  refine Hit.more (m' := { Br text lim s alt first (seen.add 1) with pc := 35, pos := e, handed := e, answer := some true }) 1 ?_ ?_
  · rw [steps1, step_go rfl rfl (by decide : 35 < code2.size), exec_OK rfl rfl rfl]
    rfl
  exact ⟨rfl, rfl, rfl⟩
theorem br_lit {text : Array Nat} {lim s alt p q c : Nat} {first : Bool} {seen : Seen} (hp : p < code2.size) (hop : ops[code2.getD p 0]? = some .LITERAL) (hc : code2.getD (p + 1) 0 = c) :
    steps 1 { Br text lim s alt first seen with pc := p, pos := q } = if q < lim ∧ text.getD q 0 = c then { Br text lim s alt first (seen.add (code2.getD p 0)) with pc := p + 2, pos := q + 1 }
      else { Br text lim s alt first (seen.add (code2.getD p 0)) with pc := p, pos := q, answer := some false } := by
  rw [steps1, step_go rfl rfl hp]
  refine (exec_LIT (m := ({ Br text lim s alt first seen with pc := p, pos := q } : M)) hop).trans ?_
  have e : ({ Br text lim s alt first seen with pc := p, pos := q } : M).word 1 = c := hc
  rw [e]
  rfl
theorem br_jump {text : Array Nat} {lim s alt p q c : Nat} {first : Bool} {seen : Seen} (hp : p < code2.size) (hop : ops[code2.getD p 0]? = some .JUMP) (hc : p + 1 + code2.getD (p + 1) 0 = c) :
    steps 1 { Br text lim s alt first seen with pc := p, pos := q } = { Br text lim s alt first (seen.add (code2.getD p 0)) with pc := c, pos := q } := by
  rw [steps1, step_go rfl rfl hp]
  refine (exec_JUMP (m := ({ Br text lim s alt first seen with pc := p, pos := q } : M)) hop).trans ?_
  rw [← hc]
  rfl

theorem hit2 (text : Array Nat) (lim s : Nat) (first : Bool) (seen : Seen) (h : s < lim) (hc : isEol (text.getD s 0) = true) : ∃ n, n ≤ 20 ∧ Hit (St code2 text 10 lim s first false seen) n s (eolEnd text lim s) := by
  by_cases h13 : text.getD s 0 = 13
  · have l1 := br_lit (text := text) (lim := lim) (s := s) (alt := 11) (p := 12) (q := s) (c := 13) (first := first) (seen := seen.add 7) (by decide) rfl rfl
    rw [if_pos ⟨h, h13⟩] at l1
    by_cases h10 : s + 1 < lim ∧ text.getD (s + 1) 0 = 10
    · have l2 := br_lit (text := text) (lim := lim) (s := s) (alt := 11) (p := 14) (q := s + 1) (c := 10) (first := first) (seen := (seen.add 7).add 16) (by decide) rfl rfl
      rw [if_pos h10] at l2
      have e : eolEnd text lim s = s + 2 := if_pos ⟨h13, h10⟩
      refine ⟨1 + (1 + (1 + (1 + 4))), by omega, Hit.more 1 (br0 ..) (Hit.more 1 l1 (Hit.more 1 l2 (Hit.more 1 (br_jump (p := 16) (c := 35) (by decide) rfl rfl) ?_)))⟩
      rw [e]
      exact brOk
    · have l2 := br_lit (text := text) (lim := lim) (s := s) (alt := 11) (p := 14) (q := s + 1) (c := 10) (first := first) (seen := (seen.add 7).add 16) (by decide) rfl rfl
      rw [if_neg h10] at l2
      have e : eolEnd text lim s = s + 1 := if_neg fun hh => h10 hh.2
      have l3 := br_lit (text := text) (lim := lim) (s := s) (alt := 18) (p := 19) (q := s) (c := 10) (first := first) (seen := ((seen.add 7).add 16).add 16) (by decide) rfl rfl
      rw [if_neg (fun hh => by rw [h13] at hh; exact absurd hh.2 (by decide))] at l3
      have l4 := br_lit (text := text) (lim := lim) (s := s) (alt := 23) (p := 24) (q := s) (c := 13) (first := first) (seen := (((seen.add 7).add 16).add 16).add 16) (by decide) rfl rfl
      rw [if_pos ⟨h, h13⟩] at l4
      refine ⟨1 + (1 + (1 + (1 + (1 + (1 + (1 + (1 + (1 + (1 + (1 + 4)))))))))), by omega, Hit.more 1 (br0 ..) (Hit.more 1 l1 (Hit.more 1 l2 (Hit.more 1 br1 (Hit.more 1 l3 (Hit.more 1 br2 (Hit.more 1 l4 ?_))))))⟩
      -- not ahead of a feed
      generalize hsn : ((((seen.add 7).add 16).add 16).add 16).add (code2.getD 24 0) = sn
      refine Hit.more (m' := { Br text lim s 23 first (sn.add 5) with pc := 29, pos := s + 1, handed := s + 1, outermost := false, frames := { wait := .lookNot, pc := 26, pos := s + 1, outermost := first } :: (Br text lim s 23 first sn).frames, weight := 3 }) 1 ?_ ?_
      · rw [steps1, step_go rfl rfl (by decide : 26 < code2.size), exec_NOT rfl rfl rfl]
        rfl
      refine Hit.more (m' := { Br text lim s 23 first ((sn.add 5).add 16) with pc := 29, pos := s + 1, handed := s + 1, outermost := false, frames := { wait := .lookNot, pc := 26, pos := s + 1, outermost := first } :: (Br text lim s 23 first sn).frames, weight := 3, answer := some false }) 1 ?_ ?_
      · rw [steps1, step_go rfl rfl (by decide : 29 < code2.size), exec_LIT rfl]
        exact (if_neg h10).trans rfl
      refine Hit.more (m' := { Br text lim s 23 first ((sn.add 5).add 16) with pc := 32, pos := s + 1, handed := s + 1 }) 1 rfl ?_
      refine Hit.more (m' := { Br text lim s 23 first (((sn.add 5).add 16).add 15) with pc := 35, pos := s + 1, handed := s + 1 }) 1 ?_ ?_
      · rw [steps1, step_go rfl rfl (by decide : 32 < code2.size), exec_JUMP rfl]
        rfl
      rw [e]
      show Hit _ (1 + 3) _ _
      refine Hit.more (m' := { Br text lim s 23 first ((((sn.add 5).add 16).add 15).add 1) with pc := 35, pos := s + 1, handed := s + 1, answer := some true }) 1 ?_ ?_
      · rw [steps1, step_go rfl rfl (by decide : 35 < code2.size), exec_OK rfl rfl rfl]
        rfl
      exact ⟨rfl, rfl, rfl⟩
  · have h10 : text.getD s 0 = 10 := by
      unfold isEol at hc
      simp only [Bool.or_eq_true, beq_iff_eq] at hc
      exact hc.resolve_right h13
    have e : eolEnd text lim s = s + 1 := if_neg fun hh => h13 hh.1
    have l1 := br_lit (text := text) (lim := lim) (s := s) (alt := 11) (p := 12) (q := s) (c := 13) (first := first) (seen := seen.add 7) (by decide) rfl rfl
    rw [if_neg (fun hh => h13 hh.2)] at l1
    have l2 := br_lit (text := text) (lim := lim) (s := s) (alt := 18) (p := 19) (q := s) (c := 10) (first := first) (seen := (seen.add 7).add 16) (by decide) rfl rfl
    rw [if_pos ⟨h, h10⟩] at l2
    refine ⟨1 + (1 + (1 + (1 + (1 + 4)))), by omega, Hit.more 1 (br0 ..) (Hit.more 1 l1 (Hit.more 1 br1 (Hit.more 1 l2 (Hit.more 1 (br_jump (p := 21) (c := 35) (by decide) rfl rfl) ?_))))⟩
    rw [e]
    exact brOk

theorem search2_hit {text : Array Nat} {lim p j : Nat} (h1 : p ≤ j) (h2 : j < lim) (hm : ∀ i, p ≤ i → i < j → isEol (text.getD i 0) = false) (hf : isEol (text.getD j 0) = true) :
    ∃ n, n ≤ 20 ∧ Hit (forSearch code2 text 0 p lim false) n j (eolEnd text lim j) := by
  rw [forSearch_eq (b := 10) rfl (by decide) (by omega)]
  obtain ⟨sn, e⟩ := attemptFrom_some (m := ({ code := code2, text, lim, start := p, lastStart := lim, pc := 10, pos := p, handed := p, marks := #[], seen := ({} : Seen).add 14 } : M)) inSet2 rfl h1 h2 hm hf true
  rw [e]
  exact hit2 text lim j true sn h2 hf
theorem search2_miss {text : Array Nat} {lim p : Nat} (hm : ∀ i, p ≤ i → i < lim → isEol (text.getD i 0) = false) : Miss (forSearch code2 text 0 p lim false) 1 :=
  search_none (b := 10) inSet2 rfl (by decide) rfl hm

/-! ### the searches of a head's names and texts -/
def isCtl (c : Nat) : Bool := c ≤ 31 || c == 127
theorem inSet3 (c : Nat) (seen : Seen) : ∃ sn, inSet code3 c code3.size 5 true seen = .ok (isCtl c, sn) := by
  unfold isCtl
  show ∃ sn, (if (decide (0 ≤ c) && decide (c ≤ 31)) = true then Except.ok (true, _) else if (c == 127) = true then Except.ok (true, _) else Except.ok (false, _)) = Except.ok (decide (c ≤ 31) || c == 127, sn)
  have h0 : decide (0 ≤ c) = true := by simp
  rw [h0, Bool.true_and]
  cases h1 : decide (c ≤ 31) with
  | true => exact ⟨_, rfl⟩
  | false =>
    cases h2 : c == 127 with
    | true => exact ⟨_, rfl⟩
    | false => exact ⟨_, rfl⟩
def isCtlV (c : Nat) : Bool := decide (c < 256) && (code4.getD (5 + (1 + c / 32)) 0).testBit (c % 32)
theorem inSet4 (c : Nat) (seen : Seen) : ∃ sn, inSet code4 c code4.size 5 true seen = .ok (isCtlV c, sn) := by
  show ∃ sn, (if isCtlV c = true then Except.ok (true, _) else Except.ok (false, _)) = Except.ok (isCtlV c, sn)
  cases isCtlV c with
  | true => exact ⟨_, rfl⟩
  | false => exact ⟨_, rfl⟩
theorem ctlV_of {c : Nat} (h : isCtl c = false) : isCtlV c = false := by
  unfold isCtlV
  by_cases hc : c < 256
  · have : ∀ c : Fin 256, isCtl c.val = false → (decide (c.val < 256) && (code4.getD (5 + (1 + c.val / 32)) 0).testBit (c.val % 32)) = false := by decide +kernel
    exact this ⟨c, hc⟩ h
  · simp [hc]
theorem search3_miss {text : Array Nat} {lim p : Nat} (hm : ∀ i, p ≤ i → i < lim → isCtl (text.getD i 0) = false) : Miss (forSearch code3 text 0 p lim false) 1 :=
  search_none (b := 11) inSet3 rfl (by decide) rfl hm
theorem search4_miss {text : Array Nat} {lim p : Nat} (hm : ∀ i, p ≤ i → i < lim → isCtl (text.getD i 0) = false) : Miss (forSearch code4 text 0 p lim false) 1 :=
  search_none (b := 15) inSet4 rfl (by decide) rfl fun i a b => ctlV_of (hm i a b)
end Mine

-- R1
namespace Mine
open PySem PySem.W PySem.Calls PyProof.Rows PySem.Builtin PySem.Builtin.Re

theorem slot_re_sub : Slot "re.Pattern" "sub" "re.Pattern.sub" :=
  .of (owner := "re.Pattern") (n := "sub") (by rw [typeLookup_type, builtinLookup_eq_fast]; kernel_rfl) (by decide +kernel) (by decide +kernel) (by decide +kernel)
    (by first | exact .inl (by decide +kernel) | exact .inr (by decide +kernel)) (by rw [isSubtype_type]; kernel_rfl)
theorem slot_re_search : Slot "re.Pattern" "search" "re.Pattern.search" :=
  .of (owner := "re.Pattern") (n := "search") (by rw [typeLookup_type, builtinLookup_eq_fast]; kernel_rfl) (by decide +kernel) (by decide +kernel) (by decide +kernel)
    (by first | exact .inl (by decide +kernel) | exact .inr (by decide +kernel)) (by rw [isSubtype_type]; kernel_rfl)
theorem type_re_sub : typeOf (.builtin "re.Pattern.sub") = pure (.type "method_descriptor") := by show builtinType _ = _; rw [builtinType_eq_fast]; kernel_rfl
theorem type_re_search : typeOf (.builtin "re.Pattern.search") = pure (.type "method_descriptor") := by show builtinType _ = _; rw [builtinType_eq_fast]; kernel_rfl
theorem entry_re_sub : entryFor table "re.Pattern.sub" = some Builtin.«re.Pattern.sub» := entryFor_of_tree (by kernel_rfl)
theorem entry_re_loop : entryFor table "re.Pattern.sub.loop" = some Builtin.«re.Pattern.sub.loop» := entryFor_of_tree (by kernel_rfl)
theorem entry_re_search : entryFor table "re.Pattern.search" = some Builtin.«re.Pattern.search» := entryFor_of_tree (by kernel_rfl)
theorem plain_re_loop : plainId "re.Pattern.sub.loop" = true := by decide +kernel
theorem args_re_sub (a b c : Value) : argsOk "re.Pattern.sub" ⟨[a, b, c], []⟩ := by
  unfold argsOk
  kernel_rfl
theorem args_re_search (a b : Value) : argsOk "re.Pattern.search" ⟨[a, b], []⟩ := by
  unfold argsOk
  kernel_rfl
theorem re_getattribute : typeLookup (.type "re.Pattern") "__getattribute__" = pure (some (.builtin "object.__getattribute__")) := by rw [typeLookup_type, builtinLookup_eq_fast]; kernel_rfl
theorem re_getattr_none : typeLookup (.type "re.Pattern") "__getattr__" = pure none := by rw [typeLookup_type, builtinLookup_eq_fast]; kernel_rfl

section
variable {M : Model} {A : Around} {E : Value → Shared → Prop} {s : Shared}

theorem reNamed_sub (a b : Value) : reNamed "re.Pattern.sub" "sub" ["repl", "string", "count"] 2 [a, b] [] = pure [some a, some b, none] := rfl
theorem reNamed_search (a : Value) : reNamed "re.Pattern.search" "search" ["string", "pos", "endpos"] 1 [a] [] = pure [some a, none, none] := rfl

theorem reDrive_run {Q : Sre.M → Shared → Prop} : ∀ (turns n : Nat) (m : Sre.M), 0 < turns → n ≤ 4 * turns → (steps n m).outcome.isSome = true → Q (steps n m) s → wpAny M A (reDrive turns m) Q E s
  | 0, _, _, h, _, _, _ => absurd h (Nat.lt_irrefl _)
  | turns + 1, n, m, _, hn, ho, hq => by
    unfold reDrive
    have e4 : m.runFor reTurnSteps = steps 4 m := runFor_steps 4 m
    rw [e4]
    by_cases h4 : n ≤ 4
    · have e : steps 4 m = steps n m := by
        have e' : steps 4 m = steps (n + (4 - n)) m := by congr 1; omega
        rw [e', steps_add, steps_fix ho]
      rw [e]
      simp only [ho, if_true]
      exact wpAny_pure hq
    · by_cases hf : (steps 4 m).outcome.isSome = true
      · have e : steps n m = steps 4 m := by
          obtain ⟨k, rfl⟩ : ∃ k, n = 4 + k := ⟨n - 4, by omega⟩
          rw [steps_add, steps_fix hf]
        rw [if_pos hf]
        exact wpAny_pure (e ▸ hq)
      · rw [if_neg hf]
        refine wpAny_bind (wpAny_rule ?_)
        have e : steps (n - 4) (steps 4 m) = steps n m := by
          rw [← steps_add]; congr 1; omega
        exact reDrive_run turns (n - 4) (steps 4 m) (by omega) (by omega) (e.symm ▸ ho) (e.symm ▸ hq)

theorem reRun {Q : Option Sre.M → Shared → Prop} {m : Sre.M} {n : Nat} (hn : n ≤ 2 ^ 60) (ho : (steps n m).outcome.isSome = true)
    (hq : wpAny M A (match (steps n m).outcome with | some .matched => pure (some (steps n m)) | some .failed => pure none | some (.stuck why) => unsupported s!"_sre:{why}" | none => unsupported "internal:sre:no-outcome") Q E s) :
    wpAny M A (reRunToEnd m) Q E s := by
  unfold reRunToEnd
  refine wpAny_bind (reDrive_run (2 ^ 64) n m (by decide) (by omega) ho ?_)
  refine wpAny_bind (wpAny_forIn_list _ (fun _ _ s' => s' = s) _ (fun i rest b s' e => ?_) (fun b s' e => ?_) _ _ rfl)
  · subst e
    split
    · exact wpAny_bind (wpAny_rule (wpAny_pure rfl))
    · exact wpAny_pure rfl
  · subst e
    exact hq
theorem reRun_hit {Q : Option Sre.M → Shared → Prop} {m : Sre.M} {n a e : Nat} (hn : n ≤ 2 ^ 60) (h : Hit m n a e) (hq : ∀ m', m'.start = a → m'.handed = e → Q (some m') s) : wpAny M A (reRunToEnd m) Q E s := by
  obtain ⟨h1, h2, h3⟩ := h
  refine reRun hn (by rw [h1]; rfl) ?_
  rw [h1]
  exact wpAny_pure (hq _ h2 h3)
theorem reRun_miss {Q : Option Sre.M → Shared → Prop} {m : Sre.M} {n : Nat} (hn : n ≤ 2 ^ 60) (h : Miss m n) (hq : Q none s) : wpAny M A (reRunToEnd m) Q E s := by
  refine reRun hn (by rw [h]; rfl) ?_
  rw [h]
  exact wpAny_pure hq

/-- a compiled pattern's object -/
def PatOk (h : Heap) (p : Addr) (code : Array Nat) : Prop :=
  ∃ fs T ws n, h.get? p = some { cls := .type "re.Pattern", data := .fields fs } ∧ fs.getD 5 .none = .ref T ∧ h.get? T = some { cls := .type "tuple", data := .seq ws n } ∧
    reRawNat (fs.getD 2 .none) = 0 ∧ reRawNat (fs.getD 6 .none) = 0 ∧ (ws.map reRawOf).map (·.toNat) = code
theorem PatOk.keeps {h h' : Heap} {p : Addr} {code : Array Nat} (x : PatOk h p code) (hk : h.StaysIn h') : PatOk h' p code := by
  obtain ⟨fs, T, ws, n, h1, h2, h3, h4⟩ := x
  exact ⟨fs, T, ws, n, hk _ _ h1, h2, hk _ _ h3, h4⟩

theorem whole_target {p : Addr} {code : Array Nat} {x : Str} {t : Tok} {Q : ReTarget → Shared → Prop} (hp : PatOk s.heap p code)
    (h : Q { pattern := .ref p, string := .str x t, code := code, text := x.cps, kind := 0, groups := 0, pos := 0, lim := x.cps.size } s) : wpAny M A (reWholeTarget (.ref p) (.str x t)) Q E s := by
  obtain ⟨fs, T, ws, n, h1, h2, h3, h4, h5, h6⟩ := hp
  unfold reWholeTarget
  refine wpAny_bind (wpAny_fieldsOf h1 rfl ?_)
  unfold reTextOf
  show wpAny M A (do
    let (text, kind) ← (pure (x.cps, 0) : Sem (Array Nat × Nat))
    if reRawNat (fs.getD 6 .none) == 0 && kind == 1 then raiseError "TypeError" "cannot use a string pattern on a bytes-like object"
    if reRawNat (fs.getD 6 .none) == 1 && kind == 0 then raiseError "TypeError" "cannot use a bytes pattern on a string-like object"
    reNoCollectionInside (.str x t) kind
    pure ({ pattern := .ref p, string := .str x t, code := (← reRawItems (fs.getD 5 .none)).map (·.toNat), text, kind, groups := reRawNat (fs.getD 2 .none), pos := 0, lim := text.size } : ReTarget)) Q E s
  refine wpAny_bind (wpAny_pure ?_)
  rw [h5, h2, h4]
  refine wpAny_bind (wpAny_pure ?_)
  unfold reRawItems
  refine wpAny_bind (wpAny_bind (wpAny_seqItems h3 rfl (wpAny_pure ?_)))
  refine wpAny_pure ?_
  show Q { pattern := .ref p, string := .str x t, code := (ws.map reRawOf).map (·.toNat), text := x.cps, kind := 0, groups := 0, pos := 0, lim := x.cps.size } s
  rw [h6]
  exact h
end

/-- the pieces of a text in which what `nxt` finds is replaced -/
inductive Cut (x : Str) (r : Str) (nxt : Nat → Option (Nat × Nat)) : Nat → List Str → Prop
  | stop {d : Nat} : nxt d = none → Cut x r nxt d (if d < x.length then [⟨x.cps.extract d x.cps.size⟩] else [])
  | more {d a e : Nat} {ps : List Str} : nxt d = some (a, e) → d ≤ a → a < e → e ≤ x.length → Cut x r nxt e ps → Cut x r nxt d ((if d < a then [⟨x.cps.extract d a⟩] else []) ++ r :: ps)
/-- the pattern's code finds what `nxt` says -/
def Finds (code : Array Nat) (x : Str) (nxt : Nat → Option (Nat × Nat)) : Prop :=
  ∀ d, match nxt d with
    | some (a, e) => ∃ n, n ≤ 2 ^ 60 ∧ Hit (Sre.forSearch code x.cps 0 d x.cps.size false) n a e
    | none => ∃ n, n ≤ 2 ^ 60 ∧ Miss (Sre.forSearch code x.cps 0 d x.cps.size false) n

section
variable {prog : Program} {w : World} {A : Around} {E : Value → Shared → Prop} {s : Shared}

theorem slice_run {M : Model} {x : Array Nat} {b e : Nat} {Q : Value → Shared → Prop} (hx : x.size ≤ 1000000) (h : Q (.str ⟨x.extract b e⟩ s.toks) { s with toks := s.toks + 1 }) : wpAny M A (reSlice x 0 b e) Q E s := by
  unfold reSlice
  refine wpAny_mkStr h ?_
  show (x.extract b e).size ≤ sizeLine
  rw [Array.size_extract]
  have : (1000000 : Nat) ≤ sizeLine := by decide
  omega
theorem push_run {M : Model} {L : Addr} {acc : List (Str × Tok)} {y : Str} {t : Tok} {Q : Unit → Shared → Prop} (hl : s.heap.IsList L (strValues acc).toArray) (hz : acc.length ≤ 200000)
    (h : ∀ h', h'.IsList L (strValues (acc ++ [(y, t)])).toArray → (∀ b o, b ≠ L → s.heap.get? b = some o → h'.get? b = some o) → Q () { s with heap := h' }) : wpAny M A (updateSeq L (·.push (.str y t))) Q E s := by
  obtain ⟨o, ho, hc, n, hd⟩ := hl
  obtain ⟨n', hd'⟩ := Obj.data_mapSeq hd (·.push (.str y t))
  have hle : (200002 : Nat) ≤ sizeLine := by decide
  have hs : (strValues acc).toArray.size = acc.length := by simp [strValues]
  have sb : Heap.SameBut L s.heap (s.heap.update L (Obj.mapSeq (·.push (.str y t)))) := Heap.SameBut.update ..
  refine wpAny_updateSeq ho hd (h _ ?_ fun b ob hb e => (sb.2 b hb).trans e) (by omega) (by rw [Array.size_push]; omega)
  have e : (strValues (acc ++ [(y, t)])).toArray = (strValues acc).toArray.push (.str y t) := by simp [strValues]
  rw [e]
  exact ⟨_, Heap.get?_update_self _ ho (Obj.isFreed_of_seq hd'), (Obj.cls_mapSeq ..).trans hc, n', hd'⟩

theorem sub_loop {p L : Addr} {code : Array Nat} {x r : Str} {t u : Tok} {nxt : Nat → Option (Nat × Nat)} {ps : List Str} {d : Nat} (hf : Finds code x nxt) (hx : x.length ≤ 1000000) (hLp : ∀ h : Heap, ∀ vs, h.IsList L vs → PatOk h p code → ∀ h' : Heap, (∀ b o, b ≠ L → h.get? b = some o → h'.get? b = some o) → PatOk h' p code) (hc : Cut x r nxt d ps) :
    ∀ (acc : List (Str × Tok)) (k : Int) (R : Result → Shared → Prop) (s : Shared) (A : Around), PatOk s.heap p code → s.heap.IsList L (strValues acc).toArray → acc.length + ps.length ≤ 100000 → JoinOk "" (acc.map (·.1) ++ ps) = true →
      (∀ h' k t', (∀ b o, b ≠ L → s.heap.get? b = some o → h'.get? b = some o) → R (.ok (.ret (.str (Txt.join "" (acc.map (·.1) ++ ps)) t'))) { s with heap := h', toks := k }) →
      wpAny (model prog w) A.in1 (Builtin.«re.Pattern.sub.loop» ⟨[.ref p, .str x t, .str r u, rawInt 0, rawInt 0, rawInt k, rawInt d, rawInt d, .bool false, .ref L, .bool false], []⟩)
        (fun fin s' => match fin with | .done f => R (.ok f) s' | .again c' => c'.quiet = true ∧ codeAny (model prog w) A c' R s') (fun e s' => R (.error e) s') s := by
  induction hc with
  | @stop d hn =>
    intro acc k R s A hp hl hz hj hR
    have hfd := hf d
    rw [hn] at hfd
    obtain ⟨n, hn1, hn2⟩ := hfd
    unfold Builtin.«re.Pattern.sub.loop»
    show wpAny _ _ (reWholeTarget (.ref p) (.str x t) >>= _) _ _ _
    refine wpAny_bind (whole_target hp ?_)
    show wpAny _ _ (reLiteralCannotBeTurned (.str r u) >>= _) _ _ _
    refine wpAny_bind (wpAny_pure ?_)
    show wpAny _ _ (reRunToEnd (Sre.forSearch code x.cps 0 d x.cps.size false) >>= _) _ _ _
    refine wpAny_bind (reRun_miss hn1 hn2 ?_)
    have fin : ∀ (l : List (Str × Tok)) (s' : Shared), s'.heap.IsList L (strValues l).toArray → JoinOk "" (l.map (·.1)) = true → (∀ h' k t', (∀ b o, b ≠ L → s'.heap.get? b = some o → h'.get? b = some o) → R (.ok (.ret (.str (Txt.join "" (l.map (·.1))) t'))) { s' with heap := h', toks := k }) →
        wpAny (model prog w) A.in1 (do
          let joiner ← reSlice x.cps 0 0 0
          let text ← if ((← seqItems? (.ref L)).getD #[]).isEmpty then pure joiner else call (.builtin (if (0 : Nat) == 0 then "str.join" else "bytes.join")) [joiner, .ref L]
          if false then ret (← holding [text] do newTuple [text, ← mkInt k]) else ret text)
          (fun fin s' => match fin with | .done f => R (.ok f) s' | .again c' => c'.quiet = true ∧ codeAny (model prog w) A c' R s') (fun e s' => R (.error e) s') s' := by
      intro l s' hl hj hR
      refine wpAny_bind (slice_run hx ?_)
      obtain ⟨o, ho, hc, n, hd⟩ := id hl
      refine wpAny_bind (wpAny_seqItems ho hd ?_)
      have e0 : (⟨x.cps.extract 0 0⟩ : Str) = "" := by
        have : x.cps.extract 0 0 = #[] := by simp
        rw [this]; rfl
      rw [e0]
      cases l with
      | nil =>
        refine wpAny_bind (wpAny_pure ?_)
        refine wpAny_pure ?_
        exact hR s'.heap (s'.toks + 1) s'.toks (fun b o _ e => e)
      | cons y l =>
        refine wpAny_bind (SC.join (s := { s' with toks := s'.toks + 1 }) hl rfl hj fun t' k' => ?_)
        refine wpAny_pure ?_
        exact hR s'.heap k' t' (fun b o _ e => e)
    by_cases hd : d < x.length
    · show wpAny _ _ (if d < x.cps.size then _ else _) _ _ _
      rw [if_pos (show d < x.cps.size from hd)]
      rw [if_pos hd] at hj hR hz
      refine wpAny_bind (slice_run hx ?_)
      refine wpAny_bind (push_run (s := { s with toks := s.toks + 1 }) (acc := acc) hl (by simp only [List.length_cons, List.length_nil] at hz; omega) fun h₁ l₁ k₁ => ?_)
      have e : (acc ++ [((⟨x.cps.extract d x.cps.size⟩ : Str), s.toks)]).map (·.1) = acc.map (·.1) ++ [⟨x.cps.extract d x.cps.size⟩] := by simp
      refine fin (acc ++ [(⟨x.cps.extract d x.cps.size⟩, s.toks)]) _ l₁ (by rw [e]; exact hj) fun h' k' t' hk => ?_
      rw [e]
      exact hR h' k' t' fun b o hb q => hk b o hb (k₁ b o hb q)
    · show wpAny _ _ (if d < x.cps.size then _ else _) _ _ _
      rw [if_neg (show ¬ d < x.cps.size from hd)]
      rw [if_neg hd, List.append_nil] at hj hR
      exact fin acc _ hl hj hR
  | @more d a e ps hn h1 h2 h3 hc ih =>
    intro acc k R s A hp hl hz hj hR
    have hfd := hf d
    rw [hn] at hfd
    obtain ⟨n, hn1, hn2⟩ := hfd
    unfold Builtin.«re.Pattern.sub.loop»
    show wpAny _ _ (reWholeTarget (.ref p) (.str x t) >>= _) _ _ _
    refine wpAny_bind (whole_target hp ?_)
    show wpAny _ _ (reLiteralCannotBeTurned (.str r u) >>= _) _ _ _
    refine wpAny_bind (wpAny_pure ?_)
    show wpAny _ _ (reRunToEnd (Sre.forSearch code x.cps 0 d x.cps.size false) >>= _) _ _ _
    refine wpAny_bind (reRun_hit hn1 hn2 fun m' e1 e2 => ?_)
    have fin : ∀ (l : List (Str × Tok)) (s' : Shared), PatOk s'.heap p code → s'.heap.IsList L (strValues l).toArray → l.length + (ps.length + 1) ≤ 100000 → JoinOk "" (l.map (·.1) ++ r :: ps) = true → (∀ h' k t', (∀ b o, b ≠ L → s'.heap.get? b = some o → h'.get? b = some o) → R (.ok (.ret (.str (Txt.join "" (l.map (·.1) ++ r :: ps)) t'))) { s' with heap := h', toks := k }) →
        wpAny (model prog w) A.in1 (do
          let item ← (pure (.str r u) : Sem Value)
          if item != .none then updateSeq L (·.push item)
          again (.builtin "re.Pattern.sub.loop" ⟨[.ref p, .str x t, .str r u, rawInt 0, rawInt 0, rawInt (k + 1), rawInt m'.handed, rawInt m'.handed, .bool (m'.handed == a), .ref L, .bool false], []⟩))
          (fun fin s' => match fin with | .done f => R (.ok f) s' | .again c' => c'.quiet = true ∧ codeAny (model prog w) A c' R s') (fun e s' => R (.error e) s') s' := by
      intro l s' hp hl hz hj hR
      refine wpAny_bind (wpAny_pure ?_)
      show wpAny _ _ (updateSeq L (·.push (.str r u)) >>= _) _ _ _
      refine wpAny_bind (push_run (acc := l) hl (by omega) fun h₁ l₁ k₁ => ?_)
      refine wpAny_pure ⟨plainId_quiet plain_re_loop _, codeAny_builtin entry_re_loop ?_⟩
      rw [Around.under_plainId plain_re_loop]
      have ne : (m'.handed == a) = false := by rw [e2, beq_eq_false_iff_ne]; omega
      rw [ne, e2]
      have el : (l ++ [(r, u)]).map (·.1) ++ ps = l.map (·.1) ++ r :: ps := by simp
      refine ih (l ++ [(r, u)]) (k + 1) R { s' with heap := h₁ } A (hLp _ _ hl hp _ k₁) l₁ (by simp; omega) (by rw [el]; exact hj) fun h' k' t' hk => ?_
      rw [el]
      exact hR h' k' t' fun b o hb q => hk b o hb (k₁ b o hb q)
    show wpAny _ _ (if d < m'.start then _ else _) _ _ _
    rw [e1]
    by_cases hd : d < a
    · rw [if_pos hd]
      rw [if_pos hd] at hj hR hz
      refine wpAny_bind (slice_run hx ?_)
      refine wpAny_bind (push_run (s := { s with toks := s.toks + 1 }) (acc := acc) hl (by simp only [List.length_append, List.length_cons, List.length_nil] at hz; omega) fun h₁ l₁ k₁ => ?_)
      have el : (acc ++ [((⟨x.cps.extract d a⟩ : Str), s.toks)]).map (·.1) ++ r :: ps = acc.map (·.1) ++ ([⟨x.cps.extract d a⟩] ++ r :: ps) := by simp
      refine fin (acc ++ [(⟨x.cps.extract d a⟩, s.toks)]) { s with toks := s.toks + 1, heap := h₁ } (hLp _ _ hl hp _ k₁) l₁ (by simp only [List.length_append, List.length_cons, List.length_nil] at hz ⊢; omega) (by rw [el]; exact hj) fun h' k' t' hk => ?_
      rw [el]
      exact hR h' k' t' fun b o hb q => hk b o hb (k₁ b o hb q)
    · rw [if_neg hd]
      rw [if_neg hd, List.nil_append] at hj hR hz
      exact fin acc _ hp hl (by simpa [Nat.add_assoc] using hz) hj hR

theorem str_call_none : typeLookup (.type "str") "__call__" = pure none := by rw [typeLookup_type, builtinLookup_eq_fast]; kernel_rfl

theorem call_sub {p : Addr} {code : Array Nat} {x r : Str} {t u : Tok} {nxt : Nat → Option (Nat × Nat)} {ps : List Str} {Q : Value → Shared → Prop} (hp : PatOk s.heap p code) (hf : Finds code x nxt) (hc : Cut x r nxt 0 ps) (hx : x.length ≤ 1000000)
    (hz : ps.length ≤ 100000) (hj : JoinOk "" ps = true) (hb : r.cps.contains 92 = false) (h : ∀ h' k t', s.heap.StaysIn h' → Q (.str (Txt.join "" ps) t') { s with heap := h', toks := k }) :
    wpAny (model prog w) A (call (.builtin "re.Pattern.sub") [.ref p, .str r u, .str x t]) Q E s := by
  have hT : s.TypeIs (.ref p) "re.Pattern" := let ⟨fs, T, ws, n, h1, _⟩ := hp; ⟨_, h1, rfl⟩
  refine call_meets (S := fun A R s => PatOk s.heap p code ∧ ∀ h' k t', s.heap.StaysIn h' → R (.ok (.ret (.str (Txt.join "" ps) t'))) { s with heap := h', toks := k }) slot_re_sub hT entry_re_sub (args_re_sub _ _ _) ?_ ⟨hp, fun h' k t' hk => h h' k t' hk⟩
  intro prog w A R s ⟨hp, hR⟩
  unfold Builtin.«re.Pattern.sub» reSubstitute
  show wpAny _ _ (reNamed "re.Pattern.sub" "sub" ["repl", "string", "count"] 2 [.str r u, .str x t] [] >>= _) _ _ _
  refine wpAny_bind (wpAny_of_eq (reNamed_sub _ _) ?_)
  refine wpAny_bind (wpAny_pure ?_)
  refine wpAny_bind (m := typeLookup (.type "str") "__call__") (wpAny_of_eq str_call_none ?_)
  show wpAny _ _ (do
    let literal ← (pure (!r.cps.contains 92) : Sem Bool)
    _) _ _ _
  rw [hb]
  refine wpAny_bind (wpAny_pure ?_)
  refine wpAny_bind (wpAny_pure ?_)
  refine wpAny_bind (wpAny_pure ?_)
  refine wpAny_bind (wpAny_holding (whole_target hp ?_))
  refine wpAny_bind (wpAny_newList ?_ (Nat.zero_le _))
  refine wpAny_pure ⟨plainId_quiet plain_re_loop _, codeAny_builtin entry_re_loop ?_⟩
  rw [Around.under_plainId plain_re_loop]
  have hlt : ∀ b o, s.heap.get? b = some o → b ≠ s.heap.objs.size := fun b o e => Nat.ne_of_lt (Heap.lt_size e)
  refine sub_loop (acc := []) hf hx (fun h vs hl hp h' hk => ?_) hc 0 R _ A (hp.keeps (stays_push _ _)) ⟨_, Heap.get?_push_size _ rfl, rfl, 0, rfl⟩ (by simpa using hz) hj fun h' k t' hk => ?_
  · obtain ⟨fs, T, ws, n, h1, h2, h3, h4⟩ := hp
    obtain ⟨o, q1, q2, _⟩ := hl
    refine ⟨fs, T, ws, n, hk _ _ (fun e => ?_) h1, h2, hk _ _ (fun e => ?_) h3, h4⟩
    · rw [e] at h1; rw [h1] at q1; cases q1; exact absurd (show Value.type "re.Pattern" = Value.type "list" from q2) (by decide)
    · rw [e] at h3; rw [h3] at q1; cases q1; exact absurd (show Value.type "tuple" = Value.type "list" from q2) (by decide)
  · exact hR h' k t' fun b o e => hk b o (hlt b o e) (stays_push _ _ b o e)

theorem target_run {M : Model} {p : Addr} {code : Array Nat} {x : Str} {t : Tok} {Q : ReTarget → Shared → Prop} (hp : PatOk s.heap p code)
    (h : Q { pattern := .ref p, string := .str x t, code := code, text := x.cps, kind := 0, groups := 0, pos := 0, lim := x.cps.size } s) (hx : x.length ≤ 1000000) : wpAny M A (reTarget "re.Pattern.search" "search" ⟨[.ref p, .str x t], []⟩) Q E s := by
  obtain ⟨fs, T, ws, n, h1, h2, h3, h4, h5, h6⟩ := hp
  unfold reTarget
  show wpAny _ _ (reNamed "re.Pattern.search" "search" ["string", "pos", "endpos"] 1 [.str x t] [] >>= _) _ _ _
  refine wpAny_bind (wpAny_of_eq (reNamed_search _) ?_)
  refine wpAny_bind (wpAny_pure ?_)
  refine wpAny_bind (wpAny_pure ?_)
  refine wpAny_bind (wpAny_fieldsOf h1 rfl ?_)
  unfold reTextOf
  show wpAny M A (do
    let (text, kind) ← (pure (x.cps, 0) : Sem (Array Nat × Nat))
    if reRawNat (fs.getD 6 .none) == 0 && kind == 1 then raiseError "TypeError" "cannot use a string pattern on a bytes-like object"
    if reRawNat (fs.getD 6 .none) == 1 && kind == 0 then raiseError "TypeError" "cannot use a bytes pattern on a string-like object"
    reNoCollectionInside (.str x t) kind
    let clip (i : Int) : Nat := min i.toNat text.size
    pure ({ pattern := .ref p, string := .str x t, code := (← reRawItems (fs.getD 5 .none)).map (·.toNat), text, kind, groups := reRawNat (fs.getD 2 .none), pos := clip 0, lim := clip (2 ^ 63 - 1) } : ReTarget)) Q E s
  refine wpAny_bind (wpAny_pure ?_)
  rw [h5, h2, h4]
  refine wpAny_bind (wpAny_pure ?_)
  unfold reRawItems
  refine wpAny_bind (wpAny_bind (wpAny_seqItems h3 rfl (wpAny_pure ?_)))
  refine wpAny_pure ?_
  have e0 : min ((0 : Int).toNat) x.cps.size = 0 := by simp
  have e1 : min ((2 ^ 63 - 1 : Int).toNat) x.cps.size = x.cps.size := by
    have : x.cps.size ≤ 1000000 := hx
    have : ((2 ^ 63 - 1 : Int).toNat) = 9223372036854775807 := by decide
    omega
  show Q { pattern := .ref p, string := .str x t, code := (ws.map reRawOf).map (·.toNat), text := x.cps, kind := 0, groups := 0, pos := min ((0 : Int).toNat) x.cps.size, lim := min ((2 ^ 63 - 1 : Int).toNat) x.cps.size } s
  rw [h6, e0, e1]
  exact h

theorem call_search {p : Addr} {code : Array Nat} {x : Str} {t : Tok} {Q : Value → Shared → Prop} (hp : PatOk s.heap p code) (hx : x.length ≤ 1000000) (hm : Miss (Sre.forSearch code x.cps 0 0 x.cps.size false) 1) (h : Q .none s) :
    wpAny (model prog w) A (call (.builtin "re.Pattern.search") [.ref p, .str x t]) Q E s := by
  have hT : s.TypeIs (.ref p) "re.Pattern" := let ⟨fs, T, ws, n, h1, _⟩ := hp; ⟨_, h1, rfl⟩
  refine call_meets (S := fun A R s => PatOk s.heap p code ∧ R (.ok (.ret .none)) s) slot_re_search hT entry_re_search (args_re_search _ _) ?_ ⟨hp, h⟩
  intro prog w A R s ⟨hp, hR⟩
  unfold Builtin.«re.Pattern.search»
  refine wpAny_bind (target_run hp ?_ hx)
  unfold reAnswer
  refine wpAny_bind (reRun_miss (by decide) hm ?_)
  exact wpAny_pure hR

theorem getm_re {p : Addr} {o : Obj} {id : String} {name : Str} {pl : Sem Bool} {M : Model} {Q : Value × List Value → Shared → Prop} (ho : s.heap.get? p = some o) (hc : o.cls = .type "re.Pattern") (hd : o.dict = none)
    (hs : Slot "re.Pattern" name id) (ht : typeOf (.builtin id) = pure (.type "method_descriptor"))
    (h : Q (.builtin id, [.ref p]) s) : wpAny M A (getMethod (.ref p) name pl) Q E s := by
  have hT : s.TypeIs (.ref p) "re.Pattern" := ⟨o, ho, hc⟩
  unfold getMethod
  refine wpAny_bind (wpAny_specialOf hT re_getattribute ?_)
  show wpAny M A (if (Manifest.canonical "object.__getattribute__" != "object.__getattribute__") = true then _ else _) Q E s
  rw [show (Manifest.canonical "object.__getattribute__" != "object.__getattribute__") = false by decide +kernel, if_neg Bool.false_ne_true]
  refine wpAny_bind (wpAny_specialOf hT re_getattr_none ?_)
  refine wpAny_bind (wpAny_specialOf hT hs.lookup ?_)
  refine wpAny_bind (wpAny_of_eq ht ?_)
  refine wpAny_bind (wpAny_load ho ?_)
  rw [hd]
  exact wpAny_bind (wpAny_rule (wpAny_pure h))
end
end Mine

-- R2
namespace Mine
open PySem PySem.W PySem.Calls PyProof.Rows

/-! ### what quotedata's two replacements give -/
def norm : List Nat → List Nat
  | [] => []
  | [c] => if isEol c then [13, 10] else [c]
  | c :: e :: r => if c = 13 ∧ e = 10 then 13 :: 10 :: norm r else if isEol c then 13 :: 10 :: norm (e :: r) else c :: norm (e :: r)
def dotted : Bool → List Nat → List Nat
  | _, [] => []
  | b, c :: r => if b = true ∧ c = 46 then 46 :: 46 :: dotted false r else c :: dotted (c == 10) r

def first (P : Nat → Bool) (n d : Nat) : Option Nat := (List.range' d (n - d)).find? P
theorem first_some {P : Nat → Bool} {n d j : Nat} (h : first P n d = some j) : d ≤ j ∧ j < n ∧ P j = true ∧ ∀ i, d ≤ i → i < j → P i = false := by
  obtain ⟨h1, as, bs, h2, h3⟩ := List.find?_eq_some_iff_append.mp h
  have hm : j ∈ List.range' d (n - d) := by rw [h2]; simp
  rw [List.mem_range'_1] at hm
  refine ⟨hm.1, by omega, h1, fun i a b => ?_⟩
  obtain ⟨_, hk⟩ := StrLaws.range'_split_from h2
  have := h3 i (hk i a b)
  simpa using this
theorem first_none {P : Nat → Bool} {n d : Nat} (h : first P n d = none) : ∀ i, d ≤ i → i < n → P i = false := by
  intro i a b
  have := List.find?_eq_none.mp h i (by rw [List.mem_range'_1]; omega)
  simpa using this

theorem getD_list (l : List Nat) (i : Nat) : l.toArray.getD i 0 = l.getD i 0 := by simp

def nxt1 (l : List Nat) (d : Nat) : Option (Nat × Nat) := (first (fit1 l.toArray) l.length d).map fun j => (j, j + 1)
def nxt2 (l : List Nat) (d : Nat) : Option (Nat × Nat) := (first (fun i => isEol (l.toArray.getD i 0)) l.length d).map fun j => (j, eolEnd l.toArray l.length j)

theorem finds1 {l : List Nat} (hl : l.length ≤ 1000000) : Finds code1 (S l) (nxt1 l) := by
  intro d
  have hs : (S l).cps.size = l.length := by show l.toArray.size = _; simp
  unfold nxt1
  cases h : first (fit1 l.toArray) l.length d with
  | none =>
    obtain ⟨n, hn, hm⟩ := search1_miss (text := l.toArray) (lim := l.length) (p := d) (first_none h)
    exact ⟨n, by omega, by rw [hs]; exact hm⟩
  | some j =>
    obtain ⟨h1, h2, h3, h4⟩ := first_some h
    obtain ⟨n, hn, hm⟩ := search1_hit h1 h2 h4 h3
    exact ⟨n, by omega, by rw [hs]; exact hm⟩
theorem finds2 {l : List Nat} : Finds code2 (S l) (nxt2 l) := by
  intro d
  have hs : (S l).cps.size = l.length := by show l.toArray.size = _; simp
  unfold nxt2
  cases h : first (fun i => isEol (l.toArray.getD i 0)) l.length d with
  | none =>
    exact ⟨1, by omega, by rw [hs]; exact search2_miss (first_none h)⟩
  | some j =>
    obtain ⟨h1, h2, h3, h4⟩ := first_some h
    obtain ⟨n, hn, hm⟩ := search2_hit h1 h2 h4 h3
    exact ⟨n, by omega, by rw [hs]; exact hm⟩

/-- the pieces, and what they make up -/
def catL (ps : List Str) : List Nat := (ps.map (·.cps.toList)).flatten
theorem join_nil (ps : List Str) : (Txt.join "" ps).cps.toList = catL ps := by
  show (Builtin.Str.glued "" ps).cps.toList = _
  rw [StrLaws.glued_eq_join]
  induction ps with
  | nil => rfl
  | cons p r ih =>
    cases r with
    | nil => simp [Str.join, catL]
    | cons q r =>
      show (p ++ "" ++ Str.join "" (q :: r)).cps.toList = _
      rw [Str.cps_append, Str.cps_append, Array.toList_append, Array.toList_append, ih]
      have : ("" : Str).cps.toList = [] := rfl
      rw [this]
      simp [catL]

theorem ext_list (l : List Nat) (d j : Nat) : (⟨(S l).cps.extract d j⟩ : Str) = S ((l.drop d).take (j - d)) := by
  apply PySem.Str.ext'
  apply Array.toList_inj.mp
  simp [S]

theorem head_drop {l : List Nat} {d : Nat} (h : d < l.length) : l.drop d = l.getD d 0 :: l.drop (d + 1) := by
  rw [List.drop_eq_getElem_cons h]; simp [h]

theorem na1 (d k : Nat) : d + 1 + k = d + (k + 1) := by omega
theorem na2 (d k : Nat) : d < d + (k + 1) := by omega
theorem na3 {d k n : Nat} (h : d + (k + 1) ≤ n) : d < n := Nat.lt_of_lt_of_le (na2 d k) h
theorem cutLen {p n d e f : Nat} (h : p ≤ 2 * (n - e) + 1) (h1 : d < e) (h2 : e ≤ n) (hf : f ≤ 1) : f + (p + 1) ≤ 2 * (n - d) + 1 := by omega
theorem norm_free {l : List Nat} {d j : Nat} (hj : j ≤ l.length) (hd : d ≤ j) (hf : ∀ i, d ≤ i → i < j → isEol (l.getD i 0) = false) : norm (l.drop d) = (l.drop d).take (j - d) ++ norm (l.drop j) := by
  obtain ⟨k, rfl⟩ := Nat.exists_eq_add_of_le hd
  clear hd
  induction k generalizing d with
  | zero => simp
  | succ k ih =>
    have h0 := hf d (Nat.le_refl _) (na2 d k)
    have ih' := ih (d := d + 1) (by rw [na1]; exact hj) (fun i a b => hf i (Nat.le_of_succ_le a) (by rw [← na1]; exact b))
    rw [head_drop (l := l) (d := d) (na3 hj)]
    have e : d + (k + 1) - d = k + 1 := Nat.add_sub_cancel_left _ _
    rw [e, List.take_succ_cons]
    have e2 : d + 1 + k - (d + 1) = k := Nat.add_sub_cancel_left _ _
    rw [e2, na1] at ih'
    rw [List.cons_append, ← ih']
    generalize l.getD d 0 = c at h0
    have h13 : c ≠ 13 := by intro hc; subst hc; cases h0
    cases l.drop (d + 1) with
    | nil => simp [norm, h0]
    | cons e r => simp [norm, h0, h13]
theorem norm_hit {l : List Nat} {j : Nat} (hj : j < l.length) (hf : isEol (l.getD j 0) = true) : norm (l.drop j) = 13 :: 10 :: norm (l.drop (eolEnd l.toArray l.length j)) := by
  unfold eolEnd
  rw [getD_list, getD_list]
  rw [head_drop hj]
  by_cases h : l.getD j 0 = 13 ∧ j + 1 < l.length ∧ l.getD (j + 1) 0 = 10
  · rw [if_pos h, head_drop h.2.1]
    simp only [norm]
    rw [if_pos ⟨h.1, h.2.2⟩]
  · rw [if_neg h]
    generalize hc : l.getD j 0 = c at hf h
    cases e : l.drop (j + 1) with
    | nil => simp [norm, hf]
    | cons b r =>
      simp only [norm]
      have : ¬ (c = 13 ∧ b = 10) := by
        intro hh
        apply h
        have hl : j + 1 < l.length := by
          have := congrArg List.length e
          simp at this
          omega
        rw [head_drop hl] at e
        exact ⟨hh.1, hl, by injection e with e1 e2; rw [e1]; exact hh.2⟩
      rw [if_neg this, if_pos hf]

theorem eolEnd_bounds {l : List Nat} {j : Nat} (hj : j < l.length) : j < eolEnd l.toArray l.length j ∧ eolEnd l.toArray l.length j ≤ l.length := by
  unfold eolEnd
  split
  · omega
  · omega

theorem cut2 (l : List Nat) : ∀ (k d : Nat), d ≤ l.length → l.length - d ≤ k → ∃ ps, Cut (S l) "\r\n" (nxt2 l) d ps ∧ catL ps = norm (l.drop d) ∧ ps.length ≤ 2 * (l.length - d) + 1
  | 0, d, h1, h2 => by
    have hd : d = l.length := by omega
    have hn : nxt2 l d = none := by
      unfold nxt2 first
      rw [show l.length - d = 0 by omega]; rfl
    refine ⟨_, .stop hn, ?_, ?_⟩
    · rw [S_len, if_neg (by omega), hd]; simp [catL, norm]
    · rw [S_len, if_neg (by omega)]; simp
  | k + 1, d, h1, h2 => by
    cases hn : first (fun i => isEol (l.toArray.getD i 0)) l.length d with
    | none =>
      have hf := first_none hn
      have hn' : nxt2 l d = none := by unfold nxt2; rw [hn]; rfl
      have e := norm_free (l := l) (d := d) (j := l.length) (Nat.le_refl _) h1 (fun i a b => by have := hf i a b; simp only [getD_list] at this; exact this)
      refine ⟨_, .stop hn', ?_, ?_⟩
      · rw [e]
        have en : norm (l.drop l.length) = [] := by simp [norm]
        rw [en, List.append_nil]
        by_cases hd : d < l.length
        · rw [S_len, if_pos hd]
          have es : (S l).cps.size = l.length := by show l.toArray.size = _; simp
          rw [ext_list, es]
          simp [catL, S_cps]
        · rw [S_len, if_neg hd, show l.length - d = 0 by omega]; simp [catL]
      · split <;> simp
    | some j =>
      obtain ⟨a1, a2, a3, a4⟩ := first_some hn
      obtain ⟨b1, b2⟩ := eolEnd_bounds a2
      obtain ⟨ps, c1, c2, c3⟩ := cut2 l k (eolEnd l.toArray l.length j) b2 (by omega)
      have hn' : nxt2 l d = some (j, eolEnd l.toArray l.length j) := by unfold nxt2; rw [hn]; rfl
      have a3' : isEol (l.getD j 0) = true := by rw [getD_list] at a3; exact a3
      refine ⟨_, .more hn' a1 b1 (by rw [S_len]; exact b2) c1, ?_, ?_⟩
      · rw [norm_free (l := l) (d := d) (j := j) (by omega) a1 (fun i a b => by have := a4 i a b; simp only [getD_list] at this; exact this), norm_hit a2 a3', ← c2]
        have er : catL (("\r\n" : Str) :: ps) = 13 :: 10 :: catL ps := by simp [catL]; rfl
        by_cases hd : d < j
        · rw [if_pos hd, ext_list]
          simp only [catL, List.cons_append, List.nil_append, List.map_cons, List.flatten_cons, S_cps]
          rw [show ((("\r\n" : Str).cps.toList) = [13, 10]) from rfl]
          simp
        · rw [if_neg hd, List.nil_append, er, show j - d = 0 by omega]
          simp
      · rw [List.length_append, List.length_cons]
        exact cutLen c3 (Nat.lt_of_le_of_lt a1 b1) b2 (by split <;> simp)

theorem norm_len : ∀ l : List Nat, (norm l).length ≤ 2 * l.length
  | [] => by simp [norm]
  | [c] => by simp only [norm]; split <;> simp
  | c :: e :: r => by
    simp only [norm]
    split
    · have := norm_len r; simp; omega
    · have := norm_len (e :: r)
      split <;> (simp at this ⊢; omega)
theorem dotted_len : ∀ (l : List Nat) (b : Bool), (dotted b l).length ≤ 2 * l.length
  | [], b => by simp [dotted]
  | c :: r, b => by
    simp only [dotted]
    split
    · have := dotted_len r false; simp; omega
    · have := dotted_len r (c == 10); simp; omega

theorem atLine_succ (l : List Nat) (d : Nat) : atLine l.toArray (d + 1) = (l.getD d 0 == 10) := by
  unfold atLine
  rw [show d + 1 - 1 = d by omega, getD_list]
  simp
theorem dotted_free {l : List Nat} {d j : Nat} (hj : j ≤ l.length) (hd : d ≤ j) (hf : ∀ i, d ≤ i → i < j → fit1 l.toArray i = false) : dotted (atLine l.toArray d) (l.drop d) = (l.drop d).take (j - d) ++ dotted (atLine l.toArray j) (l.drop j) := by
  obtain ⟨k, rfl⟩ := Nat.exists_eq_add_of_le hd
  clear hd
  induction k generalizing d with
  | zero => simp
  | succ k ih =>
    have h0 := hf d (Nat.le_refl _) (na2 d k)
    have ih' := ih (d := d + 1) (by rw [na1]; exact hj) (fun i a b => hf i (Nat.le_of_succ_le a) (by rw [← na1]; exact b))
    rw [head_drop (l := l) (d := d) (na3 hj)]
    have e : d + (k + 1) - d = k + 1 := Nat.add_sub_cancel_left _ _
    rw [e, List.take_succ_cons]
    have e2 : d + 1 + k - (d + 1) = k := Nat.add_sub_cancel_left _ _
    rw [e2, na1, atLine_succ] at ih'
    rw [List.cons_append, ← ih']
    unfold fit1 at h0
    rw [getD_list] at h0
    simp only [dotted]
    rw [if_neg]
    rintro ⟨a, b⟩
    rw [a, b] at h0
    cases h0
theorem dotted_hit {l : List Nat} {j : Nat} (hj : j < l.length) (hf : fit1 l.toArray j = true) : dotted (atLine l.toArray j) (l.drop j) = 46 :: 46 :: dotted (atLine l.toArray (j + 1)) (l.drop (j + 1)) := by
  unfold fit1 at hf
  rw [getD_list, Bool.and_eq_true, beq_iff_eq] at hf
  rw [head_drop hj, atLine_succ, hf.1, hf.2]
  simp [dotted]

theorem cut1 (l : List Nat) : ∀ (k d : Nat), d ≤ l.length → l.length - d ≤ k → ∃ ps, Cut (S l) ".." (nxt1 l) d ps ∧ catL ps = dotted (atLine l.toArray d) (l.drop d) ∧ ps.length ≤ 2 * (l.length - d) + 1
  | 0, d, h1, h2 => by
    have hd : d = l.length := by omega
    have hn : nxt1 l d = none := by
      unfold nxt1 first
      rw [show l.length - d = 0 by omega]; rfl
    refine ⟨_, .stop hn, ?_, ?_⟩
    · rw [S_len, if_neg (by omega), hd]; simp [catL, dotted]
    · rw [S_len, if_neg (by omega)]; simp
  | k + 1, d, h1, h2 => by
    cases hn : first (fit1 l.toArray) l.length d with
    | none =>
      have hf := first_none hn
      have hn' : nxt1 l d = none := by unfold nxt1; rw [hn]; rfl
      have e := dotted_free (l := l) (d := d) (j := l.length) (Nat.le_refl _) h1 hf
      refine ⟨_, .stop hn', ?_, ?_⟩
      · rw [e]
        have en : dotted (atLine l.toArray l.length) (l.drop l.length) = [] := by simp [dotted]
        rw [en, List.append_nil]
        by_cases hd : d < l.length
        · rw [S_len, if_pos hd]
          have es : (S l).cps.size = l.length := by show l.toArray.size = _; simp
          rw [ext_list, es]
          simp [catL, S_cps]
        · rw [S_len, if_neg hd, show l.length - d = 0 by omega]; simp [catL]
      · split <;> simp
    | some j =>
      obtain ⟨a1, a2, a3, a4⟩ := first_some hn
      obtain ⟨ps, c1, c2, c3⟩ := cut1 l k (j + 1) (by omega) (by omega)
      have hn' : nxt1 l d = some (j, j + 1) := by unfold nxt1; rw [hn]; rfl
      refine ⟨_, .more hn' a1 (by omega) (by rw [S_len]; omega) c1, ?_, ?_⟩
      · rw [dotted_free (l := l) (d := d) (j := j) (by omega) a1 a4, dotted_hit a2 a3, ← c2]
        have er : catL ((".." : Str) :: ps) = 46 :: 46 :: catL ps := by simp [catL]; rfl
        by_cases hd : d < j
        · rw [if_pos hd, ext_list]
          simp only [catL, List.cons_append, List.nil_append, List.map_cons, List.flatten_cons, S_cps]
          rw [show (((".." : Str).cps.toList) = [46, 46]) from rfl]
          simp
        · rw [if_neg hd, List.nil_append, er, show j - d = 0 by omega]
          simp
      · rw [List.length_append, List.length_cons]
        exact cutLen c3 (Nat.lt_succ_of_le a1) a2 (by split <;> simp)

theorem catL_len (ps : List Str) : (ps.map (·.length)).sum = (catL ps).length := by
  induction ps with
  | nil => rfl
  | cons p r ih =>
    simp only [List.map_cons, List.sum_cons, catL, List.flatten_cons, List.length_append] at ih ⊢
    rw [ih]
    rfl
theorem joinOk_cat {ps : List Str} (h : (catL ps).length + ps.length ≤ 1048576) : JoinOk "" ps = true := joinOk_of_weight (by rw [catL_len]; exact h) (by decide)

section
variable {cx : Cx} {d : Nat} {st : Store} {Post : V → Store → Prop}

theorem tgm_re {p : Addr} {code : Array Nat} {id : String} {name : Str} (hk : ∀ h, cx.K.In h → PatOk h p code) (hs : Slot "re.Pattern" name id) (ht : typeOf (.builtin id) = pure (.type "method_descriptor")) :
    tgm cx d (.ext (.ref p)) name (.builtin id) [.ext (.ref p)] st := by
  intro A o al s va pl R ok hv Q E k
  obtain rfl : va = .ref p := hv
  obtain ⟨fs, T, ws, n, h1, _⟩ := hk _ ok.K
  exact getm_re h1 rfl rfl hs ht (k _ s.toks (Nat.le_refl _) (.cons rfl .nil))

theorem tcall_sub2 {p : Addr} {l : List Nat} (hk : ∀ h, cx.K.In h → PatOk h p code2) (hl : l.length ≤ 40000) (h : Post (.d (.str (S (norm l)))) st) : tcall cx d (.ext (.builtin "re.Pattern.sub")) [.ext (.ref p), .d (.str "\r\n"), .d (.str (S l))] [] st Post := by
  intro A o al s fv vs ks R ok hf hv hkn hks
  obtain rfl : fv = .builtin "re.Pattern.sub" := hf
  cases hv with | cons hp hv => cases hv with | cons h1 hv => cases hv with | cons h2 hv =>
    cases hv
    obtain rfl : _ = Value.ref p := hp
    obtain ⟨t1, rfl⟩ := rd_str h1
    obtain ⟨t2, rfl⟩ := rd_str h2
    obtain rfl : ks = [] := by simpa using hkn
    obtain ⟨ps, c1, c2, c3⟩ := cut2 l l.length 0 (Nat.zero_le _) (by omega)
    rw [List.drop_zero] at c2
    have hn := norm_len l
    have e : Txt.join "" ps = S (norm l) := by
      apply PySem.Str.ext'
      apply Array.toList_inj.mp
      rw [join_nil, c2]; rfl
    refine Op.ofVal ok fun Q E k => call_sub (hk _ ok.K) (finds2 (l := l)) c1 (by rw [S_len]; omega) (by omega) (joinOk_cat (by rw [c2]; omega)) (by decide +kernel) fun h' k' t' hh => ?_
    rw [e]
    exact k _ h' k' (.d (.str (S (norm l)))) hh (.str _ _) h
theorem tcall_sub1 {p : Addr} {l : List Nat} (hk : ∀ h, cx.K.In h → PatOk h p code1) (hl : l.length ≤ 40000) (h : Post (.d (.str (S (dotted true l)))) st) : tcall cx d (.ext (.builtin "re.Pattern.sub")) [.ext (.ref p), .d (.str ".."), .d (.str (S l))] [] st Post := by
  intro A o al s fv vs ks R ok hf hv hkn hks
  obtain rfl : fv = .builtin "re.Pattern.sub" := hf
  cases hv with | cons hp hv => cases hv with | cons h1 hv => cases hv with | cons h2 hv =>
    cases hv
    obtain rfl : _ = Value.ref p := hp
    obtain ⟨t1, rfl⟩ := rd_str h1
    obtain ⟨t2, rfl⟩ := rd_str h2
    obtain rfl : ks = [] := by simpa using hkn
    obtain ⟨ps, c1, c2, c3⟩ := cut1 l l.length 0 (Nat.zero_le _) (by omega)
    have e0 : atLine l.toArray 0 = true := rfl
    rw [List.drop_zero, e0] at c2
    have hn := dotted_len l true
    have e : Txt.join "" ps = S (dotted true l) := by
      apply PySem.Str.ext'
      apply Array.toList_inj.mp
      rw [join_nil, c2]; rfl
    refine Op.ofVal ok fun Q E k => call_sub (hk _ ok.K) (finds1 (l := l) (by omega)) c1 (by rw [S_len]; omega) (by omega) (joinOk_cat (by rw [c2]; omega)) (by decide +kernel) fun h' k' t' hh => ?_
    rw [e]
    exact k _ h' k' (.d (.str (S (dotted true l)))) hh (.str _ _) h
theorem tcall_search {p : Addr} {code : Array Nat} {l : List Nat} (hk : ∀ h, cx.K.In h → PatOk h p code) (hl : l.length ≤ 100000) (hc : code = code3 ∨ code = code4) (hm : ∀ c ∈ l, isCtl c = false) (h : Post (.d .none) st) :
    tcall cx d (.ext (.builtin "re.Pattern.search")) [.ext (.ref p), .d (.str (S l))] [] st Post := by
  intro A o al s fv vs ks R ok hf hv hkn hks
  obtain rfl : fv = .builtin "re.Pattern.search" := hf
  cases hv with | cons hp hv => cases hv with | cons h1 hv =>
    cases hv
    obtain rfl : _ = Value.ref p := hp
    obtain ⟨t1, rfl⟩ := rd_str h1
    obtain rfl : ks = [] := by simpa using hkn
    have hm' : ∀ i, 0 ≤ i → i < (S l).cps.size → isCtl ((S l).cps.getD i 0) = false := by
      intro i _ hi
      have hi' : i < l.length := by simpa [S] using hi
      have e : (S l).cps.getD i 0 = l[i] := by simp [S, hi']
      rw [e]
      exact hm _ (List.getElem_mem hi')
    refine Op.ofVal ok fun Q E k => call_search (hk _ ok.K) (by rw [S_len]; omega) ?_ (k .none s.heap s.toks (.d .none) (fun _ _ e => e) .none h)
    rcases hc with rfl | rfl
    · exact search3_miss hm'
    · exact search4_miss hm'
end
end Mine

-- W1
namespace Mine
open PySem PySem.W PySem.Calls PyProof.Rows

variable {cx : Cx} {d : Nat} {env : Env} {ρ : Vars} {st : Store} {pos : Pos}

theorem two_of {α : Type} {l : List α} (h : l.length = 2) : ∃ a b, l = [a, b] := by
  cases l with
  | nil => cases h
  | cons a l => cases l with
    | nil => cases h
    | cons b l =>
      have : l = [] := List.eq_nil_of_length_eq_zero (Nat.succ.inj (Nat.succ.inj h))
      exact ⟨a, b, by rw [this]⟩
theorem binds1 {fd : FuncData} {n : PySem.Str} (h : ∀ v, bindArgs fd ⟨[v], []⟩ = pure [(n, v)]) : Binds cx fd 1 [] [n] [] := by
  intro s vals ks K hl hk
  obtain ⟨v, rfl⟩ : ∃ v, vals = [v] := List.length_eq_one_iff.mp hl
  obtain rfl : ks = [] := by simpa using hk
  exact BindsTo.of_eq (h v)
theorem binds2 {fd : FuncData} {n m : PySem.Str} (h : ∀ v w, bindArgs fd ⟨[v, w], []⟩ = pure [(n, v), (m, w)]) : Binds cx fd 2 [] [n, m] [] := by
  intro s vals ks K hl hk
  obtain ⟨v, w, rfl⟩ := two_of hl
  obtain rfl : ks = [] := by simpa using hk
  exact BindsTo.of_eq (h v w)

variable {P : Params}
theorem pat1_ok (hK : cx.K = hd.heap_39 P) {h : Heap} (X : cx.K.In h) : PatOk h 94 code1 := by
  rw [hK] at X
  exact ⟨_, 93, _, _, X 94 _ (by rfl), rfl, X 93 _ (by rfl), by rfl, by rfl, by decide +kernel⟩
theorem pat2_ok (hK : cx.K = hd.heap_39 P) {h : Heap} (X : cx.K.In h) : PatOk h 99 code2 := by
  rw [hK] at X
  exact ⟨_, 98, _, _, X 99 _ (by rfl), rfl, X 98 _ (by rfl), by rfl, by rfl, by decide +kernel⟩

set_option maxHeartbeats 2000000 in
theorem f_quotedata (hK : cx.K = hd.heap_39 P) {l : List Nat} {Post : V → Store → Prop} (hl : l.length ≤ 20000) (h : Post (.d (.str (S (dotted true (norm l))))) st) : tcall cx (d + 1) (.ext (.ref 106)) [.d (.str (S l))] [] st Post := by
  refine tcall_def (cx := cx) (f := 106) (names := ["data"]) (ex := []) (exV := []) (ho := by rw [hK]; rfl) (hcd := by rw [hK]; rfl) (hbind := binds1 fun v => rfl) (hex := fun _ _ => .nil) (hco := rfl) (hgen := rfl) (hk := rfl) (hnames := by decide +kernel) (hnn := by decide +kernel) (hnd := by decide +kernel) fun L => ?_
  refine tb_cons (ts_ret ?_)
  have hn := norm_len l
  refine te_meth (by rfl) (te_glob (v := .ref 94) (by rw [hK]; kernel_rfl) ⟨.builtin "re.Pattern.sub", [.ext (.ref 94)], rfl, tgm_re (fun h X => pat1_ok hK X) slot_re_sub type_re_sub, ?_⟩)
  refine te_str ?_
  refine te_meth (by rfl) (te_glob (v := .ref 99) (by rw [hK]; kernel_rfl) ⟨.builtin "re.Pattern.sub", [.ext (.ref 99)], rfl, tgm_re (fun h X => pat2_ok hK X) slot_re_sub type_re_sub, ?_⟩)
  refine te_globS (y := "\r\n") (t := ?t) (by rw [hK]; exact rfl) ?_
  refine te_name rfl ?_
  refine tcall_sub2 (fun h X => pat2_ok hK X) (by omega) ?_
  refine tcall_sub1 (fun h X => pat1_ok hK X) (by omega) ?_
  refine ⟨_, rfl, ?_⟩
  rw [List.take_length]
  exact h
end Mine

-- M13
namespace Mine
open PySem PySem.W PySem.Calls PyProof.Rows

variable {cx : Cx} {d : Nat} {env : Env} {ρ : Vars} {st : Store} {pos : Pos}

/-! ### a def entered and left, with helpers of its own -/
theorem def_enter {M : Model} {A : Around} {E : Value → Shared → Prop} {hx o al : List Addr} {h₀ : Heap} {tk₀ : Nat} {s : Shared} {scope : Scope} {qual : PySem.Str} {f : Addr} {cdv : Value} {names : List PySem.Str} {vals : List Value} {xs : List V} {Q : Env → Shared → Prop}
    (ok : Ok cx o al st h₀ tk₀) (htk : tk₀ ≤ s.toks) (hk₀ : h₀.StaysIn s.heap) (hge₀ : h₀.objs.size ≤ s.heap.objs.size) (hx₁ : ∀ b ∈ hx, h₀.objs.size ≤ b) (hx₂ : ∀ b ∈ hx, ∃ ob, s.heap.get? b = some ob ∧ ¬ SeqObj ob) (hxn : hx.Nodup)
    (all : VRepAll cx (vw h₀ (o ++ al)) al vals xs) (hk : scope.kind = .function) (hnames : (names.all fun y => scope.names.lookup y == some .local || scope.names.lookup y == some .cell) = true) (hnn : names.Nodup)
    (hnd : ((cellsFrom 0 scope.names []).map (·.1)).Nodup)
    (hQ : ∀ s', (∃ h tk, s' = { s with heap := h, toks := tk }) → s.heap.StaysIn s'.heap → At cx (envOfC qual scope s.heap.objs.size f cdv) hx al (names.zip xs) st s'.heap s'.toks →
      (∀ b ob, h₀.get? b = some ob → b ∉ al → s'.heap.get? b = some ob ∧ b ∉ ow (envOfC qual scope s.heap.objs.size f cdv) hx ++ al) → Q (envOfC qual scope s.heap.objs.size f cdv) s') :
    wpAny M A (newFunctionEnv scope mainGlobals [] (names.zip vals) (qual ++ Str.ofString ".<locals>.") (some f) cdv none builtinsNs) Q E s := by
  have hlk : ∀ n, scope.names.lookup n = some .cell → ((cellsFrom (s.heap.objs.size + 1) scope.names []).lookup n).isSome = true := fun n e => (cellsFrom_some scope.names (s.heap.objs.size + 1) [] (.inl e))
  refine wpAny_with_toks (n := s.toks) (Nat.le_refl _) (wpAny_newFunctionEnv_cells hk (fun y hy => ?_) fun env' he s' x htk' => ?_)
  · have := List.all_eq_true.mp hnames y.1 (mem_zip_fst hy)
    rcases Bool.or_eq_true_iff.mp this with q | q
    · exact .inl (by simpa using q)
    · have q' : scope.names.lookup y.1 = some .cell := by simpa using q
      exact .inr ⟨q', hlk y.1 q'⟩
  · have hnd' : ((cellsFrom (s.heap.objs.size + 1) scope.names []).map (·.1)).Nodup := cellsFrom_names scope.names 0 (s.heap.objs.size + 1) [] [] rfl ▸ hnd
    have he' : env' = envOfC qual scope s.heap.objs.size f cdv := he
    clear he
    subst he'
    have keep := x.toInCall.keep
    have hgeF : ∀ a, a = s.heap.objs.size ∨ a ∈ (cellsFrom (s.heap.objs.size + 1) scope.names []).map (·.2) → s.heap.objs.size ≤ a := by
      intro a ha
      rcases ha with rfl | ha
      · exact Nat.le_refl _
      · obtain ⟨p, hp, rfl⟩ := List.mem_map.mp ha
        exact Nat.le_of_lt (x.above p.1 p.2 hp)
    have hxlt : ∀ b ∈ hx, b < s.heap.objs.size := fun b hb => let ⟨ob, e, _⟩ := hx₂ b hb; Heap.lt_size e
    have hge : ∀ a ∈ ow (envOfC qual scope s.heap.objs.size f cdv) hx, h₀.objs.size ≤ a := by
      intro a ha
      rcases List.mem_cons.mp ha with rfl | ha
      · exact hge₀
      · rcases List.mem_append.mp ha with ha | ha
        · exact Nat.le_trans hge₀ (hgeF a (.inr ha))
        · exact hx₁ a ha
    have hown : ∀ b ob, h₀.get? b = some ob → b ∉ al → s'.heap.get? b = some ob ∧ b ∉ ow (envOfC qual scope s.heap.objs.size f cdv) hx ++ al := by
      intro b ob e hn
      refine ⟨keep b ob (hk₀ b ob e), fun m => ?_⟩
      rcases List.mem_append.mp m with m | m
      · exact absurd (Heap.lt_size e) (Nat.not_lt.mpr (hge b m))
      · exact hn m
    have view : (vw h₀ (o ++ al)).StaysIn (vw s'.heap (ow (envOfC qual scope s.heap.objs.size f cdv) hx ++ al)) := vw_mono fun b ob n e => hown b ob e fun m => n (List.mem_append.mpr (.inr m))
    have nda := List.nodup_append.mp ok.nd
    have ok' : Ok cx (ow (envOfC qual scope s.heap.objs.size f cdv) hx) al st s'.heap s'.toks := by
      refine ⟨Nat.lt_of_lt_of_le ok.tok (Nat.le_trans htk htk'), fun b ob e => view b ob (ok.base b ob e), ?_, ?_, ok.st.1, fun i a ys e1 e2 => ?_⟩
      · refine List.nodup_append.mpr ⟨?_, nda.2.1, fun a ha b hb e => ?_⟩
        · refine List.nodup_cons.mpr ⟨fun m => ?_, ?_⟩
          · rcases List.mem_append.mp m with m | m
            · obtain ⟨p, hp, e⟩ := List.mem_map.mp m
              exact absurd (x.above p.1 p.2 hp) (by rw [e]; exact Nat.lt_irrefl _)
            · exact absurd (hxlt _ m) (Nat.lt_irrefl _)
          · refine List.nodup_append.mpr ⟨List.pairwise_map.mpr (x.apart.imp fun q => q), hxn, fun a ha b hb e => ?_⟩
            have h1 := hgeF a (.inr ha)
            have h2 := hxlt b hb
            rw [e] at h1
            exact absurd h2 (Nat.not_lt.mpr h1)
        · have h1 := hge a ha
          have h2 := ok.lt (List.mem_append.mpr (.inr hb))
          rw [e] at h1
          exact absurd h2 (Nat.not_lt.mpr h1)
      · intro a ha
        rcases List.mem_cons.mp ha with rfl | ha
        · obtain ⟨ob, es, ep, q1, q2, _⟩ := x.toInCall.ns
          exact ⟨ob, q1, fun ⟨vs, n, q⟩ => by rw [q2] at q; cases q⟩
        · rcases List.mem_append.mp ha with ha | ha
          · obtain ⟨p, hp, rfl⟩ := List.mem_map.mp ha
            obtain ⟨ob, q1, q2⟩ := x.cell p.1 p.2 (lookup_of_mem_nodup hnd' hp)
            exact ⟨ob, q1, fun ⟨vs, n, q⟩ => by rw [q2] at q; cases q⟩
          · obtain ⟨ob, q1, q2⟩ := hx₂ a ha
            exact ⟨ob, keep a ob q1, q2⟩
      · exact (ok.st.2 i a ys e1 e2).mono (fun ob q => keep _ _ (hk₀ _ _ q)) view
    have at0 : At cx (envOfC qual scope s.heap.objs.size f cdv) hx al (names.zip xs) st s'.heap s'.toks := by
      refine ⟨ok', hk, rfl, rfl, _, _, x.toInCall.ns, x.cell, fun y v e => ?_⟩
      obtain ⟨val, m, r⟩ := all.zip e
      refine ⟨val, by have := r.mono (al' := []) view; rwa [List.append_nil] at this, ?_⟩
      have hn := List.all_eq_true.mp hnames y (mem_zip_fst m)
      have hnd2 : ((names.zip vals).map (·.1)).Nodup := zip_fst_nodup hnn
      rcases Bool.or_eq_true_iff.mp hn with q | q
      · have q1 : scope.names.lookup y = some .local := by simpa using q
        have q' : (envOfC qual scope s.heap.objs.size f cdv).kindOf y = some .local := q1
        exact .inl ⟨q', bindL_get q' hnd2 m⟩
      · have q1 : scope.names.lookup y = some .cell := by simpa using q
        have q' : (envOfC qual scope s.heap.objs.size f cdv).kindOf y = some .cell := q1
        exact .inr ⟨.inl q', hlk y q1, bindC_get (by rw [q']; decide) hnd2 m⟩
    exact hQ s' x.toInCall.same (fun b ob e => keep b ob e) at0 hown

end Mine

-- M14
namespace Mine
open PySem PySem.W PySem.Calls PyProof.Rows

variable {cx : Cx} {d : Nat} {env : Env} {ρ : Vars} {st : Store} {pos : Pos} {Post : V → Store → Prop}

/-- what is read off the class at hand -/
structure HCls (K : Frag) (C : Addr) : Prop where
  makes : makesIn K C = true
  ga : findIn K (.ref C) "__getattribute__" = some (some (.builtin "object.__getattribute__"))
  gn : findIn K (.ref C) "__getattr__" = some none
  dict : hasDictIn K C = true
  at_ : findIn K (.ref C) "_headers" = some none
  sa : findIn K (.ref C) "__setattr__" = some (some (.builtin "object.__setattr__"))
  over : plainOver K C = true
  taker : takerIn K C "_headers" = some none

theorem lookIn_hdr {hsh : Int} {tok : Tok} {hv : Value} {n : Nat} : lookIn "_headers" { cls := .type "dict", data := .dict #[⟨hsh, .str "_headers" tok, hv⟩] n } = some (some hv) := by
  show (match List.find? (fun e : DictEntry => e.key.isStr "_headers") [⟨hsh, .str "_headers" tok, hv⟩] with
      | some e => some (some e.val)
      | none => if [(⟨hsh, .str "_headers" tok, hv⟩ : DictEntry)].any (·.refKey) then none else some none) = some (some hv)
  rw [List.find?_cons_of_pos]
  show (Value.isStr (.str "_headers" tok) "_headers") = true
  exact beq_self_eq_true (("_headers" : PySem.Str))
theorem lookIn_other {hsh : Int} {tok : Tok} {hv : Value} {n : Nat} {name : PySem.Str} (hn : (("_headers" : PySem.Str) == name) = false) : lookIn name { cls := .type "dict", data := .dict #[⟨hsh, .str "_headers" tok, hv⟩] n } = some none := by
  show (match List.find? (fun e : DictEntry => e.key.isStr name) [⟨hsh, .str "_headers" tok, hv⟩] with
      | some e => some (some e.val)
      | none => if [(⟨hsh, .str "_headers" tok, hv⟩ : DictEntry)].any (·.refKey) then none else some none) = some none
  rw [List.find?_cons_of_neg]
  · rfl
  · show ¬ (Value.isStr (.str "_headers" tok) name) = true
    have e : Value.isStr (.str "_headers" tok) name = (("_headers" : PySem.Str) == name) := rfl
    rw [e, hn]; decide

theorem inst_at {g : Heap} {x dx C : Addr} {od : Obj} (h1 : g.get? x = some (instObj C dx)) (h2 : g.get? dx = some od) : InstAt g x (instObj C dx) C (some od) := ⟨h1, rfl, rfl, h2⟩

/-- self._headers -/
theorem te_hdr {n : PySem.Str} {np : Pos} (H : HCls cx.K cx.hC) (h : te cx d env ρ st (.Name n np) fun v st₁ => ∃ u, v = .hdr u ∧ (∀ g al val, VRep cx g al val u → handedIn val = true) ∧ Post u st₁) : te cx d env ρ st (.Attribute (.Name n np) "_headers" pos) Post := by
  intro A hx al s R a Q E k
  refine Attribute_name (h A hx al s R a _ E fun v st₁ val al₁ h₁ tk₁ n₁ v₁ p₁ => ?_)
  obtain ⟨u, rfl, hh, p⟩ := p₁
  obtain ⟨x, dx, od, hv, rfl, g1, g2, ⟨hsh, tok, nn, rfl⟩, r⟩ := v₁
  have X := n₁.ok.K
  have I : InstAt h₁ x (instObj cx.hC dx) cx.hC (some _) := inst_at (vw_get.mp g1).1 (vw_get.mp g2).1
  refine get_value (s := { s with heap := h₁, toks := tk₁ }) X I H.ga (findObj_own H.dict H.at_ rfl lookIn_hdr) (hh _ _ _ r) ?_
  exact lift_k (A := A) n₁ k u st₁ hv [] h₁ (tk₁ + 1) ((Nx.refl n₁.ok).raise (Nat.le_succ _)) (by rw [List.append_nil]; exact r) p
/-- a method of a Headers -/
theorem tgm_hdr {u : V} {name : PySem.Str} {f : Addr} (H : HCls cx.K cx.hC) (hf : findIn cx.K (.ref cx.hC) name = some (some (.ref f))) (ht : typeIn cx.K (.ref f) = some (.type "function")) (hn : (("_headers" : PySem.Str) == name) = false) :
    tgm cx d (.hdr u) name (.ref f) [.hdr u] st := by
  intro A o al s va pl R ok hv Q E k
  obtain ⟨x, dx, od, v, rfl, g1, g2, ⟨hsh, tok, nn, rfl⟩, r⟩ := id hv
  exact method_fn ok.K (inst_at (vw_get.mp g1).1 (vw_get.mp g2).1) H.ga H.gn hf ht (by show (lookIn name _).map _ = _; rw [lookIn_other hn]; rfl) (k _ s.toks (Nat.le_refl _) (.cons hv .nil))

theorem osa_new {A : Around} {R : Result → Shared → Prop} {s : Shared} {x dx : Addr} {v : Value} {tk : Tok} (H : HCls cx.K cx.hC) (X : cx.K.In s.heap) (g1 : s.heap.get? x = some (instObj cx.hC dx)) (g2 : s.heap.get? dx = some emptyDict)
    (h : ∀ h' od tk, h'.get? dx = some od → HasH od v → Heap.SameBut dx s.heap h' → s.toks ≤ tk → R (.ok (.ret .none)) { s with heap := h', toks := tk }) :
    codeAny (model cx.prog cx.w) A (.call (.builtin "object.__setattr__") ⟨[.ref x, .str "_headers" tk, v], []⟩) R s := by
  refine osa_open X (inst_at g1 g2) H.over H.taker fun b => ?_
  obtain ⟨cd, hc, hd'⟩ := any_some H.dict
  refine wpAny_bind (wpAny_pure (wpAny_bind (wpAny_bind (wpAny_loadPart g1 (wpAny_bind ((looks_clsIn X hc).here ?_))))))
  rw [hd']
  refine wpAny_pure (a := some dx) (wpAny_bind (wpAny_pure (wpAny_bind ?_)))
  unfold nsSet
  refine wpAny_bind (wpAny_bind (wpAny_askSetting (wpAny_pure (wpAny_bind (wpAny_mkText (wpAny_bind (wpAny_loadPart g2 ?_)))))))
  dsimp only
  have e := putName_dict "_headers" (PyData.keyHash cx.w.params "_headers") (.str "_headers" s.toks) v [] 0
  have g3 : s.heap.get? dx = some (dictOf [] 0) := g2
  have g4 := Heap.get?_update_self (Obj.putName "_headers" (PyData.keyHash cx.w.params "_headers") (.str "_headers" s.toks) v) g3 (by rw [e]; rfl)
  rw [e] at g4
  refine wpAny_updatePart g2 ?_
  refine wpAny_bind (wpAny_lookBehind g4 (pastItsLine_dict (by show (1 : Nat) ≤ sizeLine + 1; decide)) ?_)
  exact wpAny_pure (h _ _ _ g4 ⟨_, _, _, rfl⟩ (Heap.SameBut.update ..) (Nat.le_succ _))
/-- self._headers = v, on one that has nothing yet -/
theorem set_headers {A : Around} {E : Value → Shared → Prop} {s : Shared} {x dx : Addr} {v : Value} {Q : Unit → Shared → Prop} (H : HCls cx.K cx.hC) (X : cx.K.In s.heap) (g1 : s.heap.get? x = some (instObj cx.hC dx)) (g2 : s.heap.get? dx = some emptyDict)
    (h : ∀ h' od tk, h'.get? dx = some od → HasH od v → Heap.SameBut dx s.heap h' → s.toks ≤ tk → Q () { s with heap := h', toks := tk }) : wpAny (model cx.prog cx.w) A (setAttr (.ref x) "_headers" v) Q E s :=
  set_plain X (inst_at g1 g2) H.sa (osa_new (s := { s with toks := s.toks + 1 }) H X g1 g2 fun h' od tk e1 e2 e3 e4 => h h' od tk e1 e2 e3 (Nat.le_trans (Nat.le_succ _) e4))
end Mine

-- M15
namespace Mine
open PySem PySem.W PySem.Calls PyProof.Rows

variable {cx : Cx} {d : Nat} {env : Env} {ρ : Vars} {st : Store} {pos : Pos} {Post : V → Store → Prop}

theorem stars_none {env : Env} {pos : Pos} : ∀ {es : List Expr}, plainArgs es = true → (backTo pos (starEach es env)).any (·.1) = false
  | [], _ => rfl
  | e :: r, h => by
    obtain ⟨e1, e2⟩ := starEach_plain (env := env) h
    rw [e1]
    exact stars_none e2

/-- ob.name(e0, .., kn=ke) -/
theorem te_methK {ob e0 ke : Expr} {rest : List Expr} {name kn : PySem.Str} {kp : Pos} {apos : Pos} (hp : plainArgs (e0 :: rest) = true)
    (h : te cx d env ρ st ob fun v st₁ => ∃ f first, keepIn cx.K f = true ∧ tgm cx d v name f first st₁ ∧ tes cx d env ρ (e0 :: rest) st₁ fun xs st₂ => te cx d env ρ st₂ ke fun kv st₃ => tcall cx d (.ext f) (first ++ xs) [(kn, kv)] st₃ Post)
    (hbase : attributeBase ob name env (eval ob env) = eval ob env := by rfl) (hline : (apos.endLine == pos.line) = true := by rfl) (hfew : decide (rest.length < 25) = true := by rfl) :
    te cx d env ρ st (.Call (.Attribute ob name apos) (e0 :: rest) [⟨some kn, ke, kp⟩] pos) Post := by
  intro A hx al s R a Q E k
  have hform : methodCallForm ((e0 :: rest).length + [(⟨some kn, ke, kp⟩ : Keyword)].length) (backTo pos (starEach (e0 :: rest) env)) (backToKw pos (keywordEach [⟨some kn, ke, kp⟩] env)) = true := by
    have h2 : (backTo pos (starEach (e0 :: rest) env)).all (fun x => !x.1) = true := by
      have := stars_none (env := env) (pos := pos) hp
      rw [List.any_eq_false] at this
      rw [List.all_eq_true]
      intro x hx
      have := this x hx
      simpa using this
    unfold methodCallForm
    rw [h2]
    have h3 : rest.length < 25 := of_decide_eq_true hfew
    simp [backToKw, keywordEach]
    omega
  have hpos : methodCallPos true ob env apos pos = pure pos := by unfold methodCallPos; simp [hline]
  rw [arm_eval_Call, hbase]
  refine wpAny_bind (h A hx al s R a _ E fun v st₁ va al₁ h₁ tk₁ n₁ v₁ p₁ => ?_)
  obtain ⟨f, first, hc, hg, ht⟩ := p₁
  refine wpAny_bind (wpAny_standAt ?_)
  unfold methodCall
  rw [hform]
  refine wpAny_bind (wpAny_holding ?_)
  refine hg A (ow env hx) _ _ va _ R n₁.ok v₁ _ E fun fs tk htk hfs => ?_
  refine wpAny_bind (wpAny_of_eq hpos ?_)
  obtain ⟨s1, s2⟩ := starEach_plain (env := env) hp
  refine callWith_KW (K := cx.K) (h₀ := cx.base) cx.X hc (by rfl) ?_ (by rw [stars_none hp]; rfl) s1
  have a₁ := (a.next n₁).raise htk
  refine tes_run (pos := pos) R (e0 :: rest) _ { s with heap := h₁, toks := tk } _ hp ht a₁ fun xs st₂ vals al₂ h₂ tk₂ n₂ v₂ p₂ => ?_
  show wpAny _ A (evalAll [eval ke env >>= fun v => standAt pos >>= fun _ => pure v]) _ E _
  refine evalAll_cons (wpAny_bind (p₂ A hx _ _ R (a₁.next n₂) _ E fun kv st₃ kval al₃ h₃ tk₃ n₃ v₃ p₃ => wpAny_bind (wpAny_standAt (wpAny_pure (evalAll_nil ⟨n₃.ok.K, ?_⟩)))))
  refine p₃ A (ow env hx) _ { s with heap := h₃, toks := tk₃ } f (fs ++ vals) [(kn, kval)] R n₃.ok rfl ?_ rfl (.cons v₃ .nil) Q E ?_
  · exact ((hfs.mono n₂.vw).app v₂).mono n₃.vw
  · have k1 := lift_k (A := A) (s := s) (n₁.raise htk) k
    have k2 := lift_k (A := A) (s := { s with heap := h₁, toks := tk }) n₂ k1
    exact lift_k (A := A) (s := { s with heap := h₂, toks := tk₂ }) n₃ k2

/-! ### calls that stand in the text as statements -/
/-! ### a Headers made -/
end Mine

-- M16
namespace Mine
open PySem PySem.W PySem.Calls PyProof.Rows

variable {cx : Cx} {d : Nat} {env : Env} {ρ : Vars} {st : Store} {pos : Pos} {Post : V → Store → Prop}

theorem tcall_typeS {x : PySem.Str} (h : Post (.ext (.type "str")) st) : tcall cx d (.ext (.type "type")) [.d (.str x)] [] st Post := tcall_bi fun A o al s vs R ok hv => by
  obtain ⟨_, rfl, v1⟩ := va1 hv
  obtain ⟨t, rfl⟩ := rd_str v1
  exact Op.ofVal ok fun Q E k => call_type_of (typeIs_str s x t) (by decide) (k _ s.heap s.toks (.ext (.type "str")) (fun _ _ e => e) rfl h)
theorem tcall_typeL {xs : List PyData} (h : Post (.ext (.type "list")) st) : tcall cx d (.ext (.type "type")) [.d (.list xs)] [] st Post := tcall_bi fun A o al s vs R ok hv => by
  obtain ⟨_, rfl, v1⟩ := va1 hv
  obtain ⟨a, ws, rfl, hl, hr⟩ := rd_list v1
  exact Op.ofVal ok fun Q E k => call_type_of (isList_of_vw hl).typeIs (by decide) (k _ s.heap s.toks (.ext (.type "list")) (fun _ _ e => e) rfl h)
theorem tcmp_isT {a b : String} (h : Post (.d (.bool (Value.type a == Value.type b))) st) : tcmp cx d .Is (.ext (.type a)) (.ext (.type b)) st Post := by
  intro A o al s va vb R ok v1 v2
  obtain rfl : va = .type a := v1
  obtain rfl : vb = .type b := v2
  exact Op.ofVal ok fun Q E k => wpAny_pure (k _ s.heap s.toks (.d (.bool _)) (fun _ _ e => e) (.bool _) h)
theorem tcmp_isNotT {a b : String} (h : Post (.d (.bool (!(Value.type a == Value.type b)))) st) : tcmp cx d .IsNot (.ext (.type a)) (.ext (.type b)) st Post := by
  intro A o al s va vb R ok v1 v2
  obtain rfl : va = .type a := v1
  obtain rfl : vb = .type b := v2
  exact Op.ofVal ok fun Q E k => wpAny_pure (k _ s.heap s.toks (.d (.bool _)) (fun _ _ e => e) (.bool _) h)
end Mine

-- W2
namespace Mine
open PySem PySem.W PySem.Calls PyProof.Rows

variable {cx : Cx} {d : Nat} {env : Env} {ρ : Vars} {st : Store} {pos : Pos} {P : Params}

theorem hcls (hK : cx.K = hd.heap_39 P) (hC : cx.hC = 239) : HCls cx.K cx.hC := by
  rw [hK, hC]
  refine ⟨?_, ?_, ?_, ?_, ?_, ?_, ?_, ?_⟩ <;> kernel_rfl
theorem pat3_ok (hK : cx.K = hd.heap_39 P) {h : Heap} (X : cx.K.In h) : PatOk h 111 code3 := by
  rw [hK] at X
  exact ⟨_, 110, _, _, X 111 _ (by rfl), rfl, X 110 _ (by rfl), by rfl, by rfl, by decide +kernel⟩
theorem pat4_ok (hK : cx.K = hd.heap_39 P) {h : Heap} (X : cx.K.In h) : PatOk h 116 code4 := by
  rw [hK] at X
  exact ⟨_, 115, _, _, X 116 _ (by rfl), rfl, X 115 _ (by rfl), by rfl, by rfl, by decide +kernel⟩

theorem binds2k {fd : FuncData} {n m k : PySem.Str} (h : ∀ v w u, bindArgs fd ⟨[v, w], [(k, u)]⟩ = pure [(n, v), (m, w), (k, u)]) : Binds cx fd 2 [k] [n, m, k] [] := by
  intro s vals ks K hl hk
  obtain ⟨v, w, rfl⟩ := two_of hl
  obtain ⟨u, rfl⟩ : ∃ u, ks = [(k, u)] := by
    cases ks with
    | nil => cases hk
    | cons p r =>
      obtain ⟨e1, e2⟩ := List.cons.inj hk
      obtain rfl := List.map_eq_nil_iff.mp e2
      exact ⟨p.2, by rw [← e1]⟩
  exact BindsTo.of_eq (h v w u)

set_option maxHeartbeats 2000000 in
theorem f_conv (hK : cx.K = hd.heap_39 P) {self : V} {b : Bool} {l : List Nat} {Post : V → Store → Prop} (hl : l.length ≤ 20000) (hc : ∀ c ∈ l, isCtl c = false) (h : Post (.d (.str (S l))) st) :
    tcall cx (d + 1) (.ext (.ref 138)) [self, .d (.str (S l))] [("name", .d (.bool b))] st Post := by
  refine tcall_def (cx := cx) (f := 138) (names := ["self", "value", "name"]) (ex := []) (exV := []) (ho := by rw [hK]; rfl) (hcd := by rw [hK]; rfl) (hbind := binds2k fun v w u => rfl) (hex := fun _ _ => .nil) (hco := rfl) (hgen := rfl) (hk := rfl) (hnames := by decide +kernel) (hnn := by decide +kernel) (hnd := by decide +kernel) fun L => ?_
  refine tb_cons (ts_if ?_)
  refine tt_cmp (te_call (by rfl) (te_builtin (v := .type "type") (by rw [hK]; kernel_rfl) (by kernel_rfl) ⟨_, rfl, rfl, te_name rfl (tcall_typeS ?_)⟩)) 
  refine te_builtin (v := .type "str") (by rw [hK]; kernel_rfl) (by kernel_rfl) (tcmp_isT (ttr_bool ⟨fun _ => ?_, fun hh => absurd hh (by decide)⟩))
  refine tb_cons (ts_assign (te_ifexp (tt_plain (te_name rfl (ttr_bool ⟨fun hb => ?_, fun hb => ?_⟩)))))
  · refine te_glob (v := .ref 111) (by rw [hK]; kernel_rfl) ?_
    refine tb_cons (ts_if (tt_plain (te_meth (by rfl) (te_name rfl ⟨.builtin "re.Pattern.search", [.ext (.ref 111)], rfl, tgm_re (fun h X => pat3_ok hK X) slot_re_search type_re_search, te_name rfl (tcall_search (fun h X => pat3_ok hK X) (by omega) (.inl rfl) hc (ttr_none ⟨fun hh => absurd hh (by decide), fun _ => tb_nil ?_⟩))⟩))))
    refine tb_cons (ts_ret (te_name rfl ⟨_, rfl, ?_⟩))
    rw [List.take_length]; exact h
  · refine te_glob (v := .ref 116) (by rw [hK]; kernel_rfl) ?_
    refine tb_cons (ts_if (tt_plain (te_meth (by rfl) (te_name rfl ⟨.builtin "re.Pattern.search", [.ext (.ref 116)], rfl, tgm_re (fun h X => pat4_ok hK X) slot_re_search type_re_search, te_name rfl (tcall_search (fun h X => pat4_ok hK X) (by omega) (.inr rfl) hc (ttr_none ⟨fun hh => absurd hh (by decide), fun _ => tb_nil ?_⟩))⟩))))
    refine tb_cons (ts_ret (te_name rfl ⟨_, rfl, ?_⟩))
    rw [List.take_length]; exact h
end Mine

-- M17
namespace Mine
open PySem PySem.W PySem.Calls PyProof.Rows

variable {cx : Cx} {d : Nat} {env : Env} {ρ : Vars} {st : Store} {pos : Pos} {Post : V → Store → Prop}

theorem def_leave2 {hx o al al' : List Addr} {h₀ h' : Heap} {tk₀ tk' : Nat} {env' : Env} {ρ' : Vars} {st' : Store} (ok : Ok cx o al st h₀ tk₀) (a' : At cx env' hx (al ++ al') ρ' st' h' tk') (out : ∀ b ob, h₀.get? b = some ob → b ∉ al → h'.get? b = some ob ∧ b ∉ al') :
    Nx cx o al al' st' h₀ h' tk' ∧ ∀ {x : PyData} {v : Value}, Rd (vw h' (ow env' hx ++ (al ++ al'))) v x → Rd (vw h' (o ++ (al ++ al'))) v x := by
  have nda := List.nodup_append.mp ok.nd
  have okc := a'.ok
  have fr : ∀ a ∈ o, ∀ ob, h₀.get? a = some ob → h'.get? a = some ob := fun a ha ob e => (out a ob e fun m => (nda.2.2 a ha a m) rfl).1
  have own' : ∀ a ∈ o, ∃ ob, h'.get? a = some ob ∧ ¬ SeqObj ob := fun a ha => let ⟨ob, q1, q2⟩ := ok.own a ha; ⟨ob, fr a ha ob q1, q2⟩
  have view' : (vw h₀ (o ++ al)).StaysIn (vw h' (o ++ (al ++ al'))) := vw_mono fun b ob hn e => by
    obtain ⟨q1, q2⟩ := out b ob e (fun m => hn (List.mem_append.mpr (.inr m)))
    refine ⟨q1, fun m => ?_⟩
    rcases List.mem_append.mp m with m | m
    · exact hn (List.mem_append.mpr (.inl m))
    · rcases List.mem_append.mp m with m | m
      · exact hn (List.mem_append.mpr (.inr m))
      · exact q2 m
  have ndc := List.nodup_append.mp okc.nd
  refine ⟨⟨⟨okc.tok, fun b ob e => view' b ob (ok.base b ob e), ?_, own', okc.st.1, fun i a ys e1 e2 => (okc.st.2 i a ys e1 e2).on (fun _ q => q) fun b ob hs e => rd_out (al := al ++ al') (al' := []) own' hs (by rw [List.append_nil]; exact e)⟩, fr, view'⟩, fun r => r.on fun b ob hs e => rd_out (al := al ++ al') (al' := []) own' hs (by rw [List.append_nil]; exact e)⟩
  refine List.nodup_append.mpr ⟨nda.1, ndc.2.1, fun x hx' y hy e => ?_⟩
  subst e
  rcases List.mem_append.mp hy with m | m
  · exact nda.2.2 x hx' x m rfl
  · obtain ⟨ob, q1, _⟩ := ok.own x hx'
    exact (out x ob q1 fun m => (nda.2.2 x hx' x m) rfl).2 m

theorem execs_append (env : Env) (post : List Stmt) : ∀ pre : List Stmt, execs (pre ++ post) env = (execs pre env >>= fun f => match f with | .next => execs post env | f => pure f)
  | [] => by
    have e : execs ([] : List Stmt) env = pure .next := rfl
    rw [e, pure_bind]; rfl
  | x :: pre => by
    have e1 : ∀ r : List Stmt, execs (x :: r) env = (exec x env >>= fun f => match f with | .next => execs r env | f => pure f) := fun r => rfl
    rw [List.cons_append, e1, e1, bind_assoc]
    congr 1
    funext f
    cases f with
    | next => exact execs_append env post pre
    | _ => rw [pure_bind]
theorem execs_app {M : Model} {A : Around} {E : Value → Shared → Prop} {env : Env} {Q : Flow → Shared → Prop} {pre post : List Stmt} {s : Shared} (h : wpAny M A (execs pre env) (fun f s' => match f with | .next => wpAny M A (execs post env) Q E s' | f => Q f s') E s) : wpAny M A (execs (pre ++ post) env) Q E s := by
  rw [execs_append]
  refine wpAny_bind (wpAny_mono h (fun f s' hf => ?_) fun _ _ e => e)
  cases f with
  | next => exact hf
  | _ => exact wpAny_pure hf

theorem cells_above' (lo : Nat) : ∀ (names : List (PySem.Str × NameKind)) (n : Nat) (acc : List (PySem.Str × Addr)), lo ≤ n → (∀ p ∈ acc, lo ≤ p.2) → ∀ p ∈ cellsFrom n names acc, lo ≤ p.2
  | [], n, acc, _, ha, p, hp => ha p hp
  | (name, kind) :: r, n, acc, hn, ha, p, hp => by
    unfold cellsFrom at hp
    split at hp
    · refine cells_above' lo r (n + 1) _ (Nat.le_succ_of_le hn) (fun q hq => ?_) p hp
      rcases List.mem_cons.mp hq with rfl | hq
      · exact hn
      · exact ha q hq
    · exact cells_above' lo r n acc hn ha p hp
theorem cells_above (names : List (PySem.Str × NameKind)) (n : Nat) {p : PySem.Str × Addr} (hp : p ∈ cellsFrom (n + 1) names []) : n < p.2 := cells_above' (n + 1) names (n + 1) [] (Nat.le_refl _) (fun _ h => nomatch h) p hp

/-- Cls(v): the text of __init__ is pre, self._headers = headers, post -/
theorem tcall_init {fI : Addr} {oc : Value} {od : Option Addr} {osl : Array (Option Value)} {name qual : PySem.Str} {params : Arguments} {pre post : List Stmt} {scope : Scope} {dV kV doc pm cdv ct : Value} {an : Option Addr}
    {p1 p2 p3 p4 : Pos} {xs : List V} {names : List PySem.Str} {ex : List Value} {exV : List V} {u : V} {st₁ : Store} (H : HCls cx.K cx.hC) (hi : findIn cx.K (.ref cx.hC) "__init__" = some (some (.ref fI))) (hfn : typeIn cx.K (.ref fI) = some (.type "function"))
    (ho : cx.K.lookup fI = some ⟨oc, od, .func (fnOf name qual params (pre ++ .Assign [.Attribute (.Name "self" p1) "_headers" p2] (.Name "headers" p3) p4 :: post) scope dV kV doc pm an cdv ct), osl⟩) (hcd : codeIn cx.K cdv qual = true)
    (hbind : Binds cx (fnOf name qual params (pre ++ .Assign [.Attribute (.Name "self" p1) "_headers" p2] (.Name "headers" p3) p4 :: post) scope dV kV doc pm an cdv ct) (xs.length + 1) [] names ex) (hex : ∀ g al, VRepAll cx g al ex exV)
    (hco : scope.isCoroutine = false) (hgen : scope.isGenerator = false) (hk : scope.kind = .function)
    (hnames : (names.all fun y => scope.names.lookup y == some .local || scope.names.lookup y == some .cell) = true) (hnn : names.Nodup) (hnd : ((cellsFrom 0 scope.names []).map (·.1)).Nodup)
    (hu : (∃ x, u = .d x) ∨ ∃ n, u = .c n) (hself : scope.names.lookup ("self" : PySem.Str) = some NameKind.local)
    (h1 : ∀ L x, tb cx d (envOfC qual scope L fI cdv) (names.zip (.ext (.ref x) :: (xs ++ exV))) st pre fun fl ρ' st' => fl = .next ∧ ρ'.lookup ("self" : PySem.Str) = some (V.ext (.ref x)) ∧ ρ'.lookup ("headers" : PySem.Str) = some u ∧ st' = st₁)
    (h2 : ∀ L, tb cx d (envOfC qual scope L fI cdv) [(("self" : PySem.Str), V.hdr u), (("headers" : PySem.Str), u)] st₁ post fun fl _ st₂ => fl = .next ∧ Post (.hdr u) st₂) :
    tcall cx (d + 2) (.ext (.ref cx.hC)) xs [] st Post := tcall_bi fun A o al s vs R ok hv => by
  intro Q E k
  have KI := ok.K
  obtain ⟨hp, g, dr, tk, os⟩ := s
  refine wpAny_call (make_core (makes_of KI H.makes) (looks_findIn KI hi) (fun self => bind_fn KI self hfn) (.inl rfl) ?_)
  have k1 : hp.StaysIn (hp.push emptyDict) := stays_push _ _
  have k2 : hp.StaysIn ((hp.push emptyDict).push (instObj cx.hC hp.objs.size)) := fun b ob e => stays_push _ _ b ob (k1 b ob e)
  have KI2 : cx.K.In ((hp.push emptyDict).push (instObj cx.hC hp.objs.size)) := KI.keeps k2
  have hsz : (hp.push emptyDict).objs.size = hp.objs.size + 1 := Heap.size_push ..
  have hsz2 : ((hp.push emptyDict).push (instObj cx.hC hp.objs.size)).objs.size = hp.objs.size + 2 := by rw [Heap.size_push, hsz]
  have gx : ((hp.push emptyDict).push (instObj cx.hC hp.objs.size)).get? (hp.objs.size + 1) = some (instObj cx.hC hp.objs.size) := by rw [← hsz]; exact Heap.get?_push_size _ rfl
  have gd : ((hp.push emptyDict).push (instObj cx.hC hp.objs.size)).get? hp.objs.size = some emptyDict := Heap.get?_push_of_some _ (Heap.get?_push_size _ rfl)
  generalize hH : (hp.push emptyDict).push (instObj cx.hC hp.objs.size) = h1' at *
  have hvl := hv.length
  have room : Room (A.under (.builtin "type.__call__" ⟨.ref cx.hC :: vs, []⟩)) (d + 1) := by
    have hw : (Code.builtin "type.__call__" ⟨.ref cx.hC :: vs, []⟩).weight = 1 := by kernel_rfl
    have hu' : (Code.builtin "type.__call__" ⟨.ref cx.hC :: vs, []⟩).cUnits = 1 := by kernel_rfl
    refine ⟨R.hd, ?_, ?_⟩
    · show A.depth + (Code.builtin "type.__call__" ⟨.ref cx.hC :: vs, []⟩).weight + 4 * (d + 1) + 8 < recursionLimit
      rw [hw]; have := R.dp; omega
    · show A.units + (Code.builtin "type.__call__" ⟨.ref cx.hC :: vs, []⟩).cUnits + 20 * (d + 1) + 200 < cLine
      rw [hu']; have := R.un; omega
  have vsl : (Value.ref (hp.objs.size + 1) :: vs).length = xs.length + 1 := by simp [hvl]
  refine codeAny_call_function (by have := room.dp; omega) (KI2 fI _ ho) rfl hco hgen rfl (codeRec_of KI2 hcd) (hbind ⟨h1', g, dr, tk, os⟩ (.ref (hp.objs.size + 1) :: vs) [] KI2 vsl rfl _ _ _ _ ?_)
  have all : VRepAll cx (vw hp (o ++ al)) al (.ref (hp.objs.size + 1) :: (vs ++ ([] ++ ex))) (.ext (.ref (hp.objs.size + 1)) :: (xs ++ exV)) := .cons rfl (hv.app (by rw [List.nil_append]; exact hex _ _))
  refine def_enter (hx := [hp.objs.size]) ok (Nat.le_refl _) k2 (by show hp.objs.size ≤ h1'.objs.size; rw [hsz2]; omega) (fun b hb => by rw [List.mem_singleton.mp hb]; exact Nat.le_refl _)
    (fun b hb => by rw [List.mem_singleton.mp hb]; exact ⟨_, gd, fun ⟨_, _, q⟩ => by cases q⟩) (by simp) all hk hnames hnn hnd fun s' es keep at0 hown => ?_
  obtain ⟨h₂, tk₂, rfl⟩ := es
  refine ⟨cx.T.nolimit.keeps fun b ob e => keep b ob (k2 b ob (vw_get.mp (ok.base b ob e)).1), codeAny_func ?_⟩
  have R' : Room ((A.under (.builtin "type.__call__" ⟨.ref cx.hC :: vs, []⟩)).deeper (envOfC qual scope h1'.objs.size fI cdv)) d :=
    ⟨room.hd, by have := room.dp; show (A.under _).depth + 1 + 4 * d + 8 < recursionLimit; omega, by have := room.un; show (A.under _).units + 3 + 20 * d + 200 < cLine; omega⟩
  refine execs_app ?_
  refine h1 h1'.objs.size (hp.objs.size + 1) _ [hp.objs.size] al _ _ _ R' at0 fun fl ρ' st' fw al₁ h₃ tk₃ n₃ w₃ p₃ => ?_
  obtain ⟨rfl, q1, q2, rfl⟩ := p₃
  cases fw with
  | next =>
    refine wpAny_execs_cons (plainObj_wpAny_Assign_Attribute ?_ (by rfl))
    have a₃ := n₃.at'
    refine te_name (cx := cx) (d := d) (st := st') (Post := fun v s => v = u ∧ s = st') q2 ⟨rfl, rfl⟩ rfl rfl _ [hp.objs.size] (al ++ al₁) ⟨h₃, g, dr, tk₃, os⟩ R' a₃ _ _ fun r4 st4 hv4 al4 h₄ tk₄ n₄ v₄ p₄ => ?_
    obtain ⟨rfl, rfl⟩ := p₄
    have nil4 : al4 = [] := by
      have := n₄.ok.st.1
      have h3 := a₃.ok.st.1
      rw [List.length_append] at this
      exact List.eq_nil_of_length_eq_zero (by omega)
    subst nil4
    have a₄ := a₃.next n₄
    rw [List.append_nil] at a₄ v₄
    refine te_name (cx := cx) (d := d) (st := st4) (Post := fun v s => v = .ext (.ref (hp.objs.size + 1)) ∧ s = st4) q1 ⟨rfl, rfl⟩ rfl rfl _ [hp.objs.size] (al ++ al₁) ⟨h₄, g, dr, tk₄, os⟩ R' a₄ _ _ fun r5 st5 hv5 al5 h₅ tk₅ n₅ v₅ p₅ => ?_
    obtain ⟨rfl, rfl⟩ := p₅
    have nil5 : al5 = [] := by
      have := n₅.ok.st.1
      have h3 := a₄.ok.st.1
      rw [List.length_append] at this
      exact List.eq_nil_of_length_eq_zero (by omega)
    subst nil5
    have a₅ := a₄.next n₅
    rw [List.append_nil] at a₅
    obtain rfl : hv5 = .ref (hp.objs.size + 1) := v₅
    have vw4 := n₄.vw
    have vw5 := n₅.vw
    rw [List.append_nil] at vw4 vw5
    have v₄' := v₄.mono (al' := []) vw5
    rw [List.append_nil] at v₄'
    -- the new one and its dict
    have hdx : ∀ b, b ∈ ow (envOfC qual scope h1'.objs.size fI cdv) [hp.objs.size] → b = hp.objs.size ∨ h1'.objs.size ≤ b := by
      intro b hb
      rcases List.mem_cons.mp hb with rfl | hb
      · exact .inr (Nat.le_refl _)
      · rcases List.mem_append.mp hb with hb | hb
        · obtain ⟨p, hpm, rfl⟩ := List.mem_map.mp hb
          exact .inr (Nat.le_of_lt (cells_above _ _ hpm))
        · exact .inl (List.mem_singleton.mp hb)
    have xvis : (vw h₂ (ow (envOfC qual scope h1'.objs.size fI cdv) [hp.objs.size] ++ al)).get? (hp.objs.size + 1) = some (instObj cx.hC hp.objs.size) := by
      refine vw_get.mpr ⟨keep _ _ gx, fun m => ?_⟩
      rcases List.mem_append.mp m with m | m
      · rcases hdx _ m with q | q
        · exact Nat.succ_ne_self _ q
        · rw [hsz2] at q; exact absurd q (Nat.not_le.mpr (Nat.lt_succ_self _))
      · exact absurd (ok.lt (List.mem_append.mpr (.inr m))) (Nat.not_lt.mpr (Nat.le_succ _))
    have x5 := vw5 _ _ (vw4 _ _ (n₃.vw _ _ xvis))
    have mdx : hp.objs.size ∈ ow (envOfC qual scope h1'.objs.size fI cdv) [hp.objs.size] := .tail _ (List.mem_append.mpr (.inr (.head _)))
    have d5 : h₅.get? hp.objs.size = some emptyDict := n₅.fr _ mdx _ (n₄.fr _ mdx _ (n₃.hk _ (.head _) _ (keep _ _ gd)))
    refine set_headers (s := ⟨h₅, g, dr, tk₅, os⟩) H a₅.ok.K (vw_get.mp x5).1 d5 fun h₆ od tk₆ g6 hasH sb6 htk6 => ?_
    obtain ⟨a₆, v₆⟩ := a₅.rest htk6 fun b ob hb e => (sb6.2 b hb).trans e
    have x6 := v₆ _ _ x5
    have dnot : hp.objs.size ∉ ow (envOfC qual scope h1'.objs.size fI cdv) [] ++ (al ++ al₁) := by
      intro m
      have nd := a₅.ok.nd
      have nd1 := List.nodup_append.mp nd
      rcases List.mem_append.mp m with m | m
      · have nd2 := nd1.1
        simp only [ow, List.nodup_cons, List.nodup_append, List.mem_append, List.mem_cons, List.append_nil] at nd2 m
        rcases m with m | m
        · exact nd2.1 (.inr (.inl m.symm))
        · exact nd2.2.2.2 _ m _ (.inl rfl) rfl
      · exact nd1.2.2 _ mdx _ m rfl
    have d6 : (vw h₆ (ow (envOfC qual scope h1'.objs.size fI cdv) [] ++ (al ++ al₁))).get? hp.objs.size = some od := vw_get.mpr ⟨g6, dnot⟩
    have u6 := v₄'.mono (al' := []) v₆
    rw [List.append_nil] at u6
    have hdr6 : VRep cx (vw h₆ (ow (envOfC qual scope h1'.objs.size fI cdv) [] ++ (al ++ al₁))) (al ++ al₁) (.ref (hp.objs.size + 1)) (.hdr r4) := ⟨_, _, od, hv4, rfl, x6, d6, hasH, u6⟩
    have a₇ : At cx (envOfC qual scope h1'.objs.size fI cdv) [] (al ++ al₁) [(("self" : PySem.Str), V.hdr r4), (("headers" : PySem.Str), r4)] st5 h₆ tk₆ := by
      obtain ⟨m, cm, z1, z2, z3⟩ := a₆.vars
      refine ⟨a₆.ok, a₆.fn, a₆.gl, a₆.bi, m, cm, z1, z2, fun y v e => ?_⟩
      rw [List.lookup_cons] at e
      cases hy : y == ("self" : PySem.Str) with
      | true =>
        rw [hy] at e
        cases e
        have := eq_of_beq hy
        subst this
        obtain ⟨val, r, q⟩ := z3 _ _ q1
        obtain rfl : val = .ref (hp.objs.size + 1) := r
        exact ⟨_, hdr6, q⟩
      | false =>
        rw [hy] at e
        have e' : List.lookup y [(("headers" : PySem.Str), r4)] = some v := e
        rw [List.lookup_cons] at e'
        cases hy2 : y == ("headers" : PySem.Str) with
        | true =>
          rw [hy2] at e'
          cases e'
          have := eq_of_beq hy2
          subst this
          exact z3 _ _ q2
        | false => rw [hy2] at e'; simp at e'
    refine h2 h1'.objs.size _ [] (al ++ al₁) ⟨h₆, g, dr, tk₆, os⟩ _ _ R' a₇ fun fl8 ρ8 st8 fw8 al8 h₇ tk₇ n₈ w₈ p₈ => ?_
    obtain ⟨rfl, pp⟩ := p₈
    cases fw8 with
    | next =>
      have a₈ := n₈.at'
      rw [List.append_assoc] at a₈
      have vis : ∀ b ob, (vw h₂ (ow (envOfC qual scope h1'.objs.size fI cdv) [hp.objs.size] ++ al)).get? b = some ob → h₇.get? b = some ob ∧ b ∉ ow (envOfC qual scope h1'.objs.size fI cdv) [] ++ (al ++ (al₁ ++ al8)) := by
        intro b ob e
        have := n₈.vw b ob (v₆ _ _ (vw5 _ _ (vw4 _ _ (n₃.vw _ _ e))))
        rw [List.append_assoc] at this
        exact vw_get.mp this
      have out : ∀ b ob, hp.get? b = some ob → b ∉ al → h₇.get? b = some ob ∧ b ∉ al₁ ++ al8 := by
        intro b ob e hn
        obtain ⟨z1, z2⟩ := hown b ob e hn
        obtain ⟨z3, z4⟩ := vis b ob (vw_get.mpr ⟨z1, z2⟩)
        exact ⟨z3, fun m => z4 (List.mem_append.mpr (.inr (List.mem_append.mpr (.inr m))))⟩
      obtain ⟨nx, tr⟩ := def_leave2 ok a₈ out
      have h8 : VRep cx (vw h₇ (ow (envOfC qual scope h1'.objs.size fI cdv) [] ++ (al ++ (al₁ ++ al8)))) (al ++ (al₁ ++ al8)) (.ref (hp.objs.size + 1)) (.hdr r4) := by
        have := hdr6.mono (al' := al8) n₈.vw
        rw [List.append_assoc] at this
        exact this
      obtain ⟨x', dx', od', hv', y1, y2, y3, y4, y5⟩ := h8
      have no : ∀ b, hp.objs.size ≤ b → b ∉ o := fun b hb m => absurd (ok.lt (List.mem_append.mpr (.inl m))) (Nat.not_lt.mpr hb)
      have lift : ∀ b ob, hp.objs.size ≤ b → (vw h₇ (ow (envOfC qual scope h1'.objs.size fI cdv) [] ++ (al ++ (al₁ ++ al8)))).get? b = some ob → (vw h₇ (o ++ (al ++ (al₁ ++ al8)))).get? b = some ob := by
        intro b ob hb e
        obtain ⟨z1, z2⟩ := vw_get.mp e
        refine vw_get.mpr ⟨z1, fun m => ?_⟩
        rcases List.mem_append.mp m with m | m
        · exact no b hb m
        · exact z2 (List.mem_append.mpr (.inr m))
      have ex : x' = hp.objs.size + 1 := by injection y1 with q; exact q.symm
      subst ex
      have edx : dx' = hp.objs.size := by
        have z1 := (vw_get.mp y2).1
        have z2 := (vis _ _ xvis).1
        rw [z1] at z2
        injection z2 with q
        injection q with _ q
        injection q
      subst edx
      have vfin : VRep cx (vw h₇ (o ++ (al ++ (al₁ ++ al8)))) (al ++ (al₁ ++ al8)) (.ref (hp.objs.size + 1)) (.hdr r4) := by
        refine ⟨_, _, od', hv', rfl, lift _ _ (Nat.le_succ _) y2, lift _ _ (Nat.le_refl _) y3, y4, ?_⟩
        rcases hu with ⟨xx, rfl⟩ | ⟨nn, rfl⟩
        · exact tr y5
        · exact y5
      exact ⟨rfl, k (.hdr r4) st8 (.ref (hp.objs.size + 1)) (al₁ ++ al8) h₇ tk₇ nx vfin pp⟩
    | _ => exact w₈.elim
  | _ => exact w₃.elim
end Mine

-- W3
namespace Mine
open PySem PySem.W PySem.Calls PyProof.Rows

variable {cx : Cx} {d : Nat} {env : Env} {ρ : Vars} {st : Store} {pos : Pos} {P : Params}

/-- the pairs of a head -/
def prs (l : List (List Nat × List Nat)) : List PyData := l.map fun p => .tuple [.str (S p.1), .str (S p.2)]
def plainPrs (l : List (List Nat × List Nat)) : Prop := ∀ p ∈ l, (p.1.length ≤ 20000 ∧ ∀ c ∈ p.1, isCtl c = false) ∧ (p.2.length ≤ 20000 ∧ ∀ c ∈ p.2, isCtl c = false)

theorem bindsInit {fd : FuncData} {n m : PySem.Str} {T : Addr} {o : Obj} {items : Array Value} {nn : Nat} {k : Value → Value → Option (Array Value) → Sem (List (PySem.Str × Value))} (hd : fd.defaults = .ref T) (ho : cx.K.lookup T = some o) (hs : o.data = .seq items nn)
    (h₁ : ∀ v w, bindArgs fd ⟨[v, w], []⟩ = seqItems? fd.defaults >>= k v w) (h₂ : ∀ v w, k v w (some items) = pure [(n, v), (m, w)]) : Binds cx fd 2 [] [n, m] [] := by
  intro s vals ks K hl hk
  obtain ⟨v, w, rfl⟩ := two_of hl
  obtain rfl : ks = [] := by simpa using hk
  exact binds_K K hd ho hs (h₁ v w) (h₂ v w)

theorem notNone_list {xs : List PyData} : ∀ g al val, VRep cx g al val (.d (.list xs)) → (val == Value.none) = false := by
  intro g al val h
  obtain ⟨a, vs, rfl, _⟩ := rd_list h
  rfl

set_option maxHeartbeats 4000000 in
theorem f_headers (hK : cx.K = hd.heap_39 P) (hC : cx.hC = 239) {l : List (List Nat × List Nat)} {Post : V → Store → Prop} (hl : plainPrs l) (h : Post (.hdr (.d (.list (prs l)))) st) :
    tcall cx (d + 5) (.ext (.ref cx.hC)) [.d (.list (prs l))] [] st Post := by
  have H := hcls hK hC
  refine tcall_init (d := d + 3) (fI := 131) (pre := [_, _]) (names := ["self", "headers"]) (ex := []) (exV := []) (u := .d (.list (prs l))) (st₁ := st) H (by rw [hK, hC]; kernel_rfl) (by rw [hK]; kernel_rfl) (ho := by rw [hK]; rfl) (hcd := by rw [hK]; rfl)
    (hbind := bindsInit (T := 124) rfl (by rw [hK]; rfl) rfl (fun v w => rfl) (fun v w => rfl)) (hex := fun _ _ => .nil) (hco := rfl) (hgen := rfl) (hk := rfl) (hnames := by decide +kernel) (hnn := by decide +kernel) (hnd := by decide +kernel) (hu := .inl ⟨_, rfl⟩) (hself := by decide +kernel) (fun L x => ?_) (fun L => ?_)
  · refine tb_cons (ts_assign (te_ifexp (tt_cmp (te_name rfl (te_none (tcmp_isNotNone notNone_list (ttr_bool ⟨fun _ => te_name rfl ?_, fun hh => absurd hh (by decide)⟩)))))))
    refine tb_cons (ts_if (tt_cmp (te_call (by rfl) (te_builtin (v := .type "type") (by rw [hK]; kernel_rfl) (by kernel_rfl) ⟨_, rfl, rfl, te_name rfl (tcall_typeL ?_)⟩))))
    refine te_builtin (v := .type "list") (by rw [hK]; kernel_rfl) (by kernel_rfl) (tcmp_isNotT (ttr_bool ⟨fun hh => absurd hh (by decide), fun _ => tb_nil (tb_nil ⟨rfl, rfl, rfl, rfl⟩)⟩))
  · refine tb_cons (ts_if (tt_plain ?_))
    refine te_bool ?_
    refine ttr_bool ⟨fun _ => ?_, fun hh => absurd hh (by decide)⟩
    refine tb_cons (ts_for (te_name rfl ⟨_, rfl, fun rest ρ st' => (∃ l', rest = prs l' ∧ plainPrs l') ∧ ρ.lookup ("self" : PySem.Str) = some (.hdr (.d (.list (prs l)))) ∧ st' = st, ?_, ?_, ?_⟩))
    · exact ⟨⟨l, rfl, hl⟩, rfl, rfl⟩
    · rintro x rest ρ st' ⟨⟨l', e, hl'⟩, hs, rfl⟩
      cases l' with
      | nil => cases e
      | cons p l' =>
        cases e
        obtain ⟨⟨z1, z2⟩, z3, z4⟩ := hl' p (.head _)
        refine tasg_tuple (names := ["k", "v"]) rfl rfl ?_
        have hmeth : findIn cx.K (.ref cx.hC) "_convert_string_type" = some (some (.ref 138)) := by rw [hK, hC]; kernel_rfl
        have hfn : typeIn cx.K (.ref 138) = some (.type "function") := by rw [hK]; kernel_rfl
        have hkeep : keepIn cx.K (.ref 138) = true := by rw [hK]; kernel_rfl
        have ls : (updAll ρ ((["k", "v"] : List PySem.Str).zip ([PyData.str (S p.1), PyData.str (S p.2)].map .d))).lookup ("self" : PySem.Str) = some (.hdr (.d (.list (prs l)))) := by
          show (upd (upd ρ "k" _) "v" _).lookup ("self" : PySem.Str) = _
          rw [upd_get, upd_get]; exact hs
        have lk : (updAll ρ ((["k", "v"] : List PySem.Str).zip ([PyData.str (S p.1), PyData.str (S p.2)].map .d))).lookup ("k" : PySem.Str) = some (.d (.str (S p.1))) := by
          show (upd (upd ρ "k" _) "v" _).lookup ("k" : PySem.Str) = _
          rw [upd_get, upd_get]; rfl
        have lv : (updAll ρ ((["k", "v"] : List PySem.Str).zip ([PyData.str (S p.1), PyData.str (S p.2)].map .d))).lookup ("v" : PySem.Str) = some (.d (.str (S p.2))) := by
          show (upd (upd ρ "k" _) "v" _).lookup ("v" : PySem.Str) = _
          rw [upd_get]; rfl
        refine tb_cons (ts_expr (te_methK (by rfl) (te_name ls ⟨.ref 138, [.hdr (.d (.list (prs l)))], hkeep, tgm_hdr H hmeth hfn (by decide +kernel), te_name lk (te_bool (f_conv hK z1 z2 ?_))⟩)))
        refine tb_cons (ts_expr (te_methK (by rfl) (te_name ls ⟨.ref 138, [.hdr (.d (.list (prs l)))], hkeep, tgm_hdr H hmeth hfn (by decide +kernel), te_name lv (te_bool (f_conv hK z3 z4 ?_))⟩)))
        exact tb_nil ⟨⟨l', rfl, fun q hq => hl' q (.tail _ hq)⟩, ls, rfl⟩
    · rintro ρ st' ⟨_, _, rfl⟩
      exact tb_nil (tb_nil ⟨rfl, h⟩)
end Mine

-- M18
namespace Mine
open PySem PySem.W PySem.Calls PyProof.Rows

variable {cx : Cx} {d : Nat} {env : Env} {ρ : Vars} {st : Store} {pos : Pos}

def compTest (scope : Scope) : Bool := (match scope.kind with | .function => true | _ => false) && scope.names.all fun x => (match x.2 with | .free => false | .cell => false | .local => scope.names.lookup x.1 == some .local | _ => true)
theorem compOk0 {scope : Scope} (h : compTest scope = true) : CompOk env scope [] (env.cells.map (·.2)) ρ [] := by
  unfold compTest at h
  rw [Bool.and_eq_true, List.all_eq_true] at h
  obtain ⟨h1, h2⟩ := h
  refine ⟨closureFor_none fun x hx e => ?_, ?_, fun x hx e => ?_, fun x hx e => ?_, by simp, fun n c e => by simp at e, fun y v e => by simp at e⟩
  · have := h2 x hx; rw [e] at this; cases this
  · cases hk : scope.kind <;> rw [hk] at h1 <;> first | rfl | cases h1
  · have := h2 x hx; rw [e] at this; cases this
  · have := h2 x hx; rw [e] at this; simpa using this
end Mine

-- W4
namespace Mine
open PySem PySem.W PySem.Calls PyProof.Rows

variable {cx : Cx} {d : Nat} {env : Env} {ρ : Vars} {st : Store} {pos : Pos} {P : Params}

def fstD : PyData → PyData
  | .tuple (a :: _) => a
  | x => x

theorem handed_list {xs : List PyData} : ∀ g al val, VRep cx g al val (.d (.list xs)) → handedIn val = true := by
  intro g al val h
  obtain ⟨a, vs, rfl, _⟩ := rd_list h
  rfl

set_option maxHeartbeats 4000000 in
theorem f_keys (hK : cx.K = hd.heap_39 P) (hC : cx.hC = 239) {l : List (List Nat × List Nat)} {Post : V → Store → Prop} (hl : l.length ≤ 1000) (h : Post (.d (.list (txs (l.map fun p => S p.1)))) st) :
    tcall cx (d + 1) (.ext (.ref 191)) [.hdr (.d (.list (prs l)))] [] st Post := by
  refine tcall_def (cx := cx) (f := 191) (names := ["self"]) (ex := []) (exV := []) (ho := by rw [hK]; rfl) (hcd := by rw [hK]; rfl) (hbind := binds1 fun v => rfl) (hex := fun _ _ => .nil) (hco := rfl) (hgen := rfl) (hk := rfl) (hnames := by decide +kernel) (hnn := by decide +kernel) (hnd := by decide +kernel) fun L => ?_
  refine tb_cons (ts_ret (te_comp (cl := []) (fr := []) (f := fstD) (te_hdr (hcls hK hC) (te_name rfl ⟨_, rfl, handed_list, _, rfl, by simp [prs]; omega, fun x hx => ?_, _, rfl, ?_⟩)) (compOk0 (by decide +kernel))))
  · obtain ⟨p, hp, rfl⟩ := List.mem_map.mp hx
    exact ⟨["k", "v"], [.str (S p.1), .str (S p.2)], .tuple rfl rfl, by decide +kernel, by kernel_rfl, fun C st => te_name rfl ⟨rfl, rfl⟩⟩
  · rw [List.take_length]
    have e : (prs l).map fstD = txs (l.map fun p => S p.1) := by simp [prs, txs, fstD]
    rw [e]; exact h

/-- a head as text -/
def headL (l : List (List Nat × List Nat)) : List Nat := (l.flatMap fun p => p.1 ++ 58 :: 32 :: p.2 ++ [13, 10]) ++ [13, 10]
def fmtD : PyData → PyData
  | .tuple [.str a, .str b] => .str (a ++ (": " : PySem.Str) ++ b)
  | x => x
theorem fmt_eq (l : List (List Nat × List Nat)) : (prs l).map fmtD = txs (l.map fun p => S (p.1 ++ 58 :: 32 :: p.2)) := by
  have : (": " : PySem.Str) = S [58, 32] := by decide +kernel
  simp only [prs, txs, List.map_map]
  refine List.map_congr_left fun p _ => ?_
  show PyData.str (S p.1 ++ (": " : PySem.Str) ++ S p.2) = PyData.str (S (p.1 ++ 58 :: 32 :: p.2))
  rw [this, S_app, S_app, List.append_assoc]; rfl

theorem join_list (sep : List Nat) : ∀ ts : List (List Nat), Txt.join (S sep) (ts.map S) = S (List.intercalate sep ts)
  | [] => rfl
  | [t] => by
    show Builtin.Str.glued (S sep) [S t] = _
    rw [StrLaws.glued_eq_join]
    show S t = S (List.intercalate sep [t])
    simp [List.intercalate]
  | t :: u :: r => by
    have ih := join_list sep (u :: r)
    show Builtin.Str.glued (S sep) _ = _
    rw [StrLaws.glued_eq_join]
    show S t ++ S sep ++ Str.join (S sep) (S u :: r.map S) = _
    rw [← StrLaws.glued_eq_join]
    have ih' : Builtin.Str.glued (S sep) (S u :: r.map S) = S (List.intercalate sep (u :: r)) := ih
    rw [ih', S_app, S_app]
    congr 1
    simp [List.intercalate, List.intersperse]

theorem inter_head (l : List (List Nat × List Nat)) : List.intercalate [13, 10] ((l.map fun p => p.1 ++ 58 :: 32 :: p.2) ++ [[], []]) = headL l := by
  unfold headL
  induction l with
  | nil => simp [List.intercalate, List.intersperse]
  | cons p l ih =>
    have cons2 : ∀ (t : List Nat) (r : List (List Nat)), r ≠ [] → List.intercalate [13, 10] (t :: r) = t ++ [13, 10] ++ List.intercalate [13, 10] r := by
      intro t r hr
      cases r with
      | nil => exact absurd rfl hr
      | cons u r => simp [List.intercalate, List.intersperse]
    rw [List.map_cons, List.cons_append, cons2 _ _ (by simp), ih]
    simp

theorem sum_inter (ts : List (List Nat)) : ((ts.map S).map (·.length)).sum ≤ (List.intercalate [13, 10] ts).length := by
  induction ts with
  | nil => simp
  | cons t r ih =>
    cases r with
    | nil => simp [List.intercalate, S_len]
    | cons u r =>
      have : List.intercalate [13, 10] (t :: u :: r) = t ++ [13, 10] ++ List.intercalate [13, 10] (u :: r) := by simp [List.intercalate, List.intersperse]
      rw [this]
      simp only [List.map_cons, List.sum_cons, List.length_append, S_len] at ih ⊢
      omega

set_option maxHeartbeats 4000000 in
theorem f_str (hK : cx.K = hd.heap_39 P) (hC : cx.hC = 239) {l : List (List Nat × List Nat)} {Post : V → Store → Prop} (hl : l.length ≤ 1000) (hz : (headL l).length ≤ 20000) (hp : plainPrs l) (h : Post (.d (.str (S (headL l)))) st) :
    tcall cx (d + 1) (.ext (.ref 215)) [.hdr (.d (.list (prs l)))] [] st Post := by
  refine tcall_def (cx := cx) (f := 215) (names := ["self"]) (ex := []) (exV := []) (ho := by rw [hK]; rfl) (hcd := by rw [hK]; rfl) (hbind := binds1 fun v => rfl) (hex := fun _ _ => .nil) (hco := rfl) (hgen := rfl) (hk := rfl) (hnames := by decide +kernel) (hnn := by decide +kernel) (hnd := by decide +kernel) fun L => ?_
  refine tb_cons (ts_ret (te_meth (by rfl) (te_str ⟨.builtin "str.join", _, rfl, tgm_str (fun hg => GM.join hg), ?_⟩)))
  refine te_bin (te_comp (cl := []) (fr := []) (f := fmtD) (te_hdr (hcls hK hC) (te_name rfl ⟨_, rfl, handed_list, _, rfl, by simp [prs]; omega, fun x hx => ?_, ?_⟩)) (compOk0 (by decide +kernel)))
  · obtain ⟨p, hp', rfl⟩ := List.mem_map.mp hx
    obtain ⟨⟨z1, _⟩, z2, _⟩ := hp p hp'
    refine ⟨["kv"], [_], .name, by decide +kernel, by kernel_rfl, fun C st => te_bin (te_str (te_name rfl (tbin_fmt (by decide +kernel) (by rw [S_len]; omega) (by rw [S_len]; omega) ⟨rfl, rfl⟩)))⟩
  · rw [fmt_eq]
    refine te_list (by rfl) (te_str (te_str ⟨[.str "", .str ""], rfl, by decide, ?_⟩))
    have e0 : txs (l.map fun (p : List Nat × List Nat) => S (p.1 ++ 58 :: 32 :: p.2)) ++ [PyData.str "", PyData.str ""] = txs (((l.map fun (p : List Nat × List Nat) => p.1 ++ 58 :: 32 :: p.2) ++ [[], []]).map S) := by
      simp only [txs, List.map_append, List.map_map]
      rfl
    refine tbin_addL (by simp [txs]; omega) ?_
    rw [e0]
    refine tcall_join ?_ ?_
    · refine joinOk_of_weight ?_ (by decide)
      have := sum_inter ((l.map fun (p : List Nat × List Nat) => p.1 ++ 58 :: 32 :: p.2) ++ [[], []])
      rw [inter_head] at this
      simp only [List.length_map, List.length_append, List.length_cons, List.length_nil] at this ⊢
      omega
    · refine ⟨_, rfl, ?_⟩
      have e1 : ("\r\n" : PySem.Str) = S [13, 10] := by decide +kernel
      rw [e1, join_list, inter_head, List.take_length]
      exact h
end Mine

-- M19
namespace Mine
open PySem PySem.W PySem.Calls PyProof.Rows

variable {cx : Cx} {d : Nat} {env : Env} {ρ : Vars} {st : Store} {pos : Pos} {Post : V → Store → Prop}

theorem room_in2 {A : Around} {d : Nat} (R : Room A (d + 1)) : Room A.in1.in1 d := ⟨R.hd, by have := R.dp; show A.depth + 4 * d + 8 < recursionLimit; omega, by have := R.un; show A.units + 1 + 1 + 20 * d + 200 < cLine; omega⟩

/-- str(x) of a Headers -/
theorem tcall_strH {u : V} {f : Addr} (hs : findIn cx.K (.ref cx.hC) "__str__" = some (some (.ref f))) (hf : isFn cx.K (.ref f) = true)
    (h : tcall cx d (.ext (.ref f)) [.hdr u] [] st fun v st' => ∃ y, v = .d (.str y) ∧ Post (.d (.str y)) st') : tcall cx (d + 1) (.ext (.type "str")) [.hdr u] [] st Post := tcall_bi fun A o al s vs R ok hv => by
  intro Q E k
  obtain ⟨_, rfl, v1⟩ := va1 hv
  obtain ⟨x, dx, od, hv', rfl, g1, g2, g3, g4⟩ := id v1
  refine kso_call (by have := R.un; show A.units + 1 + 1 < cLine; omega) ok.K (inst_at (vw_get.mp g1).1 (vw_get.mp g2).1) hs hf ?_
  refine h A.in1.in1 o al s (.ref f) [.ref x] [] (room_in2 R) ok rfl (.cons v1 .nil) rfl .nil _ E fun r st' val al' h' tk' n v p => ?_
  obtain ⟨y, rfl, p⟩ := p
  obtain ⟨t, rfl⟩ := rd_str v
  exact k (.d (.str y)) st' (.str y t) al' h' tk' n v p

theorem tinp_add {i j : Int} (h : Post (.d (.int (i + j))) st) : tinp cx d .Add (.d (.int i)) (.d (.int j)) st Post := by
  intro A o al s va vb R ok v1 v2
  obtain ⟨t, rfl⟩ := rd_int v1; obtain ⟨u, rfl⟩ := rd_int v2
  exact Op.ofVal ok fun Q E k => PyProof.Rows.iadd_int (k _ s.heap _ (.d (.int (i + j))) (fun _ _ e => e) (.int _ _) h)
end Mine

-- W5
namespace Mine
open PySem PySem.W PySem.Calls PyProof.Rows

variable {cx : Cx} {d : Nat} {env : Env} {ρ : Vars} {st : Store} {pos : Pos} {P : Params}

/-- a node of the law's tree -/
structure Nd where
  d : Int
  name : List Nat
  text : List Nat
  q : Int
  times : Int
  mark : Nat
  feed : List Nat
def Nd.pd (n : Nd) : PyData := .tuple [.int n.d, .str (S n.name), .str (S n.text), .int n.q, .int n.times, .str (S [n.mark]), .str (S n.feed)]
def nds (ns : List Nd) : List PyData := ns.map Nd.pd
theorem nds_get {ns : List Nd} {k : Nat} {n : Nd} (h : ns[k]? = some n) : (nds ns)[k]? = some n.pd := by simp [nds, h]
theorem idx_ok {n k : Nat} (h : k < n) : seqIndex? (k : Int) n = some k := by
  have := StrLaws.seqIndex_nonneg (i := (k : Int)) (n := n) (by omega) (by omega)
  simpa using this

def belowL (dk : Int) : List Nd → Int
  | [] => 0
  | n :: r => if n.d ≤ dk then 0 else (if n.d = dk + 1 then 1 else 0) + belowL dk r

theorem rngI_cons {a b : Int} (h : a < b) : rngI a b = .int a :: rngI (a + 1) b := by
  unfold rngI
  have e : (b - a).toNat = (b - (a + 1)).toNat + 1 := by omega
  rw [e, List.range_succ_eq_map, List.map_cons, List.map_map]
  congr 1
  · simp
  · refine List.map_congr_left fun i _ => ?_
    show PyData.int (a + ((i + 1 : Nat) : Int)) = PyData.int (a + 1 + (i : Int))
    congr 1
    push_cast
    omega
theorem rngI_nil {a b : Int} (h : b ≤ a) : rngI a b = [] := by
  unfold rngI
  rw [show (b - a).toNat = 0 by omega]; rfl

set_option maxHeartbeats 4000000 in
theorem f_below (hK : cx.K = hd.heap_39 P) {ns : List Nd} {k : Nat} {nk : Nd} {Post : V → Store → Prop} (hn : ns.length ≤ 100) (hk : ns[k]? = some nk) (h : Post (.d (.int (belowL nk.d (ns.drop (k + 1))))) st) :
    tcall cx (d + 1) (.ext (.ref 255)) [.d (.list (nds ns)), .d (.int k)] [] st Post := by
  have hkl : k < ns.length := (List.getElem?_eq_some_iff.mp hk).1
  have hlen : (nds ns).length = ns.length := by simp [nds]
  refine tcall_def (cx := cx) (f := 255) (names := ["nodes", "k"]) (ex := []) (exV := []) (ho := by rw [hK]; rfl) (hcd := by rw [hK]; rfl) (hbind := binds2 fun v w => rfl) (hex := fun _ _ => .nil) (hco := rfl) (hgen := rfl) (hk := rfl) (hnames := by decide +kernel) (hnn := by decide +kernel) (hnd := by decide +kernel) fun L => ?_
  refine tb_cons (ts_assign (te_int ?_))
  have sub0 : ∀ {j : Nat} {n : Nd} {value slice : Expr} {st : Store} {Q : V → Store → Prop}, ns[j]? = some n → Q (.d n.pd) st → tsub cx d value slice (.d (.list (nds ns))) (.d (.int j)) st Q := by
    intro j n value slice st Q hj hq
    have hjl : j < ns.length := (List.getElem?_eq_some_iff.mp hj).1
    exact tsub_list (by omega) (by omega) (by rw [hlen]; exact idx_ok hjl) (nds_get hj) hq
  have subd : ∀ {n : Nd} {value slice : Expr} {st : Store} {Q : V → Store → Prop}, Q (.d (.int n.d)) st → tsub cx d value slice (.d n.pd) (.d (.int 0)) st Q := by
    intro n value slice st Q hq
    exact tsub_tuple (by decide) (by decide) (j := 0) rfl rfl hq
  refine tb_cons (ts_forR (te_call (by rfl) (te_builtin (v := .type "range") (by rw [hK]; kernel_rfl) (by kernel_rfl) ⟨_, rfl, rfl, te_bin (te_name rfl (te_int (tbin_add ?_)))⟩)))
  refine te_call (by rfl) (te_builtin (v := .builtin "len") (by rw [hK]; kernel_rfl) (by kernel_rfl) ⟨_, rfl, rfl, te_name rfl (tcall_lenL (by rw [hlen]; omega) ?_)⟩)
  refine tcall_range2 ⟨_, _, rfl, by omega, by omega, by rw [hlen]; omega, by rw [hlen]; omega, ?_⟩
  rw [hlen]
  refine ⟨fun rest ρ st' => ∃ (j : Nat) (c : Int), rest = rngI j ns.length ∧ c + belowL nk.d (ns.drop j) = belowL nk.d (ns.drop (k + 1)) ∧ ρ.lookup ("nodes" : PySem.Str) = some (.d (.list (nds ns))) ∧ ρ.lookup ("k" : PySem.Str) = some (.d (.int k)) ∧ ρ.lookup ("count" : PySem.Str) = some (.d (.int c)) ∧ st' = st, ?_, ?_, ?_⟩
  · exact ⟨k + 1, 0, by push_cast; rfl, by omega, rfl, rfl, rfl, rfl⟩
  · rintro x rest ρ st' ⟨j, c, e, hc, l1, l2, l3, rfl⟩
    by_cases hj : (j : Int) < ns.length
    · rw [rngI_cons hj] at e
      cases e
      obtain ⟨nj, hnj⟩ : ∃ nj, ns[j]? = some nj := ⟨_, List.getElem?_eq_getElem (by omega)⟩
      have hd' : ns.drop j = nj :: ns.drop (j + 1) := by
        rw [List.drop_eq_getElem_cons (by omega : j < ns.length)]
        rw [List.getElem?_eq_getElem (by omega)] at hnj
        rw [Option.some.inj hnj]
      rw [hd'] at hc
      refine tasg_name ?_
      have m1 : (upd ρ "j" (.d (.int j))).lookup ("nodes" : PySem.Str) = some (.d (.list (nds ns))) := by rw [upd_get]; exact l1
      have m2 : (upd ρ "j" (.d (.int j))).lookup ("k" : PySem.Str) = some (.d (.int k)) := by rw [upd_get]; exact l2
      have m3 : (upd ρ "j" (.d (.int j))).lookup ("count" : PySem.Str) = some (.d (.int c)) := by rw [upd_get]; exact l3
      have m4 : (upd ρ "j" (.d (.int j))).lookup ("j" : PySem.Str) = some (.d (.int j)) := by rw [upd_get]; rfl
      refine tb_cons (ts_if (tt_cmp (te_sub (te_sub (te_name m1 (te_name m4 (sub0 hnj (te_int (subd ?_)))))))))
      refine te_sub (te_sub (te_name m1 (te_name m2 (sub0 hk (te_int (subd ?_))))))
      refine tcmp_leI (ttr_bool ⟨fun hb => ?_, fun hb => ?_⟩)
      · have hb' : nj.d ≤ nk.d := by simpa using hb
        refine tb_cons (ts_break ?_)
        refine tb_cons (ts_ret (te_name m3 ⟨_, rfl, ?_⟩))
        rw [List.take_length]
        simp only [belowL] at hc
        rw [if_pos hb'] at hc
        have : c = belowL nk.d (ns.drop (k + 1)) := by omega
        rw [this]; exact h
      · have hb' : ¬ nj.d ≤ nk.d := by simpa using hb
        simp only [belowL] at hc
        rw [if_neg hb'] at hc
        refine tb_nil ?_
        refine tb_cons (ts_if (tt_cmp (te_sub (te_sub (te_name m1 (te_name m4 (sub0 hnj (te_int (subd ?_)))))))))
        refine te_bin (te_sub (te_sub (te_name m1 (te_name m2 (sub0 hk (te_int (subd (te_int (tbin_add ?_)))))))))
        refine tcmp_eqI (ttr_bool ⟨fun hb2 => ?_, fun hb2 => ?_⟩)
        · have hb2' : nj.d = nk.d + 1 := by simpa using hb2
          rw [if_pos hb2'] at hc
          refine tb_cons (ts_aug m3 (te_int (tinp_add ?_)))
          refine tb_nil (tb_nil ⟨j + 1, c + 1, by push_cast; rfl, by omega, ?_, ?_, ?_, rfl⟩)
          · rw [upd_get]; exact m1
          · rw [upd_get]; exact m2
          · rw [upd_get]; rfl
        · have hb2' : ¬ nj.d = nk.d + 1 := by simpa using hb2
          rw [if_neg hb2'] at hc
          exact tb_nil (tb_nil ⟨j + 1, c, by push_cast; rfl, by omega, m1, m2, m3, rfl⟩)
    · rw [rngI_nil (by omega)] at e; cases e
  · rintro ρ st' ⟨j, c, e, hc, l1, l2, l3, rfl⟩
    have hj : ¬ (j : Int) < ns.length := fun hj => by rw [rngI_cons hj] at e; cases e
    have hd' : ns.drop j = [] := by rw [List.drop_eq_nil_iff]; omega
    rw [hd'] at hc
    refine tb_cons (ts_ret (te_name l3 ⟨_, rfl, ?_⟩))
    rw [List.take_length]
    simp only [belowL] at hc
    have : c = belowL nk.d (ns.drop (k + 1)) := by omega
    rw [this]; exact h
end Mine

-- W6
namespace Mine
open PySem PySem.W PySem.Calls PyProof.Rows

variable {cx : Cx} {d : Nat} {env : Env} {ρ : Vars} {st : Store} {pos : Pos} {P : Params}

/-- a number's digits -/
def dec (i : Int) : List Nat := (PySem.Str.ofString (toString i)).cps.toList
theorem S_dec (i : Int) : S (dec i) = PySem.Str.ofString (toString i) := rfl
theorem dec_len {i : Int} (h0 : 0 ≤ i) (h1 : i < 10000000) : (dec i).length ≤ 10 := by
  have := toString_length_le h0 (k := 10) (by decide) (by omega)
  rw [← S_dec, S_len] at this
  exact this
def portL (n : Nd) (b : Int) : Int := 8 * n.q + 2 * b + n.times - 1
def replyL (n : Nd) (b : Int) : List Nat := [50, 50, 57, 32, 40] ++ [n.mark, n.mark, n.mark] ++ dec (portL n b) ++ [n.mark] ++ [41]

set_option maxHeartbeats 4000000 in
theorem f_reply (hK : cx.K = hd.heap_39 P) {ns : List Nd} {k : Nat} {nk : Nd} {Post : V → Store → Prop} (hn : ns.length ≤ 100) (hk : ns[k]? = some nk) (hq : 0 ≤ nk.q ∧ nk.q ≤ 100000) (ht : 1 ≤ nk.times ∧ nk.times ≤ 10)
    (hb : 0 ≤ belowL nk.d (ns.drop (k + 1)) ∧ belowL nk.d (ns.drop (k + 1)) ≤ 100) (h : Post (.d (.str (S (replyL nk (belowL nk.d (ns.drop (k + 1))))))) st) :
    tcall cx (d + 2) (.ext (.ref 262)) [.d (.list (nds ns)), .d (.int k)] [] st Post := by
  have hkl : k < ns.length := (List.getElem?_eq_some_iff.mp hk).1
  have hlen : (nds ns).length = ns.length := by simp [nds]
  have sub0 : ∀ {d : Nat} {value slice : Expr} {st : Store} {Q : V → Store → Prop}, Q (.d nk.pd) st → tsub cx d value slice (.d (.list (nds ns))) (.d (.int k)) st Q := by
    intro d value slice st Q hq
    exact tsub_list (by omega) (by omega) (by rw [hlen]; exact idx_ok hkl) (nds_get hk) hq
  refine tcall_def (cx := cx) (f := 262) (names := ["nodes", "k"]) (ex := []) (exV := []) (ho := by rw [hK]; rfl) (hcd := by rw [hK]; rfl) (hbind := binds2 fun v w => rfl) (hex := fun _ _ => .nil) (hco := rfl) (hgen := rfl) (hk := rfl) (hnames := by decide +kernel) (hnn := by decide +kernel) (hnd := by decide +kernel) fun L => ?_
  refine tb_cons (ts_assign (te_sub (te_sub (te_name rfl (te_name rfl (sub0 (te_int (tsub_tuple (by decide) (by decide) (j := 5) rfl rfl ?_))))))))
  refine tb_cons (ts_assign (te_bin (te_bin (te_bin (te_bin (te_int (te_sub (te_sub (te_name rfl (te_name rfl (sub0 (te_int (tsub_tuple (by decide) (by decide) (j := 3) rfl rfl (tbin_mul (IntMulOk.of_left (by decide +kernel)) ?_))))))))))))))
  refine te_bin (te_int (te_call (by rfl) (te_glob (v := .ref 255) (by rw [hK]; kernel_rfl) ⟨_, rfl, by rw [hK]; kernel_rfl, te_name rfl (te_name rfl (f_below hK hn hk ?_))⟩)))
  refine tbin_mul (IntMulOk.of_left (by decide +kernel)) (tbin_add ?_)
  refine te_sub (te_sub (te_name rfl (te_name rfl (sub0 (te_int (tsub_tuple (by decide) (by decide) (j := 4) rfl rfl (tbin_add (te_int (tbin_sub ?_)))))))))
  have hle : (1000 : Nat) ≤ sizeLine := by decide
  have h229 : ("229 (" : PySem.Str) = S [50, 50, 57, 32, 40] := by decide +kernel
  have hbr : (")" : PySem.Str) = S [41] := by decide +kernel
  generalize hbv : belowL nk.d (ns.drop (k + 1)) = bv at *
  have hp : 0 ≤ portL nk bv ∧ portL nk bv < 10000000 := by unfold portL; omega
  have hdl := dec_len hp.1 hp.2
  refine tb_cons (ts_ret (te_bin (te_bin (te_bin (te_bin (te_str (te_bin (te_int (te_name rfl (tbin_repR (by omega) (by omega) ?_)))))))))) 
  rw [h229]
  refine tbin_cat (by rw [S_len, S_len]; simp; omega) ?_
  rw [S_app]
  refine te_call (by rfl) (te_builtin (v := .type "str") (by rw [hK]; kernel_rfl) (by kernel_rfl) ⟨_, rfl, rfl, te_name rfl (tcall_str (by have := hp.1; unfold portL at this; omega) (by have := hp.2; unfold portL at this; omega) ?_)⟩)
  rw [← S_dec]
  have ep : 8 * nk.q + 2 * bv + nk.times - 1 = portL nk bv := rfl
  rw [ep]
  refine tbin_cat (by rw [S_len, S_len]; simp; omega) ?_
  rw [S_app]
  refine te_name rfl (tbin_cat (by rw [S_len, S_len]; simp; omega) ?_)
  rw [S_app]
  refine te_str ?_
  rw [hbr]
  refine tbin_cat (by rw [S_len, S_len]; simp; omega) ?_
  rw [S_app]
  refine ⟨_, rfl, ?_⟩
  rw [List.take_length]
  exact h
end Mine

-- W7
namespace Mine
open PySem PySem.W PySem.Calls PyProof.Rows
variable {cx : Cx} {d : Nat} {env : Env} {ρ : Vars} {st : Store} {pos : Pos} {P : Params}

theorem calm239 (hK : cx.K = hd.heap_39 P) : calm cx.K (.ref 239) = true := by rw [hK]; kernel_rfl
theorem str239 (hK : cx.K = hd.heap_39 P) (hC : cx.hC = 239) : findIn cx.K (.ref cx.hC) "__str__" = some (some (.ref 215)) := by rw [hK, hC]; kernel_rfl
theorem fn215 (hK : cx.K = hd.heap_39 P) : isFn cx.K (.ref 215) = true := by rw [hK]; kernel_rfl
/-- str(h) of a head -/
theorem f_strH (hK : cx.K = hd.heap_39 P) (hC : cx.hC = 239) {l : List (List Nat × List Nat)} {Post : V → Store → Prop} (hl : l.length ≤ 1000) (hz : (headL l).length ≤ 20000) (hp : plainPrs l) (h : Post (.d (.str (S (headL l)))) st) :
    tcall cx (d + 2) (.ext (.type "str")) [.hdr (.d (.list (prs l)))] [] st Post :=
  tcall_strH (str239 hK hC) (fn215 hK) (f_str hK hC hl hz hp ⟨_, rfl, h⟩)
end Mine

-- W9
namespace Mine
open PySem PySem.W PySem.Calls PyProof.Rows

variable {cx : Cx} {d : Nat} {env : Env} {ρ : Vars} {st : Store} {pos : Pos} {P : Params}

theorem bindsGet {fd : FuncData} {n m q : PySem.Str} {T : Addr} {o : Obj} {items : Array Value} {nn : Nat} {u : Value} {k : Value → Value → Option (Array Value) → Sem (List (PySem.Str × Value))} (hd : fd.defaults = .ref T) (ho : cx.K.lookup T = some o) (hs : o.data = .seq items nn)
    (h₁ : ∀ v w, bindArgs fd ⟨[v, w], []⟩ = seqItems? fd.defaults >>= k v w) (h₂ : ∀ v w, k v w (some items) = pure [(n, v), (m, w), (q, u)]) : Binds cx fd 2 [] [n, m, q] [u] := by
  intro s vals ks K hl hk
  obtain ⟨v, w, rfl⟩ := two_of hl
  obtain rfl : ks = [] := by simpa using hk
  exact binds_K K hd ho hs (h₁ v w) (h₂ v w)

set_option maxHeartbeats 4000000 in
theorem f_get (hK : cx.K = hd.heap_39 P) (hC : cx.hC = 239) {l : List (List Nat × List Nat)} {x : List Nat} {low : List Nat} {v : List Nat} {Post : V → Store → Prop} (hl : plainPrs l) (hx : x.length ≤ 20000) (hlow : Txt.lower (S x) = S low) (hlen : low.length ≤ 20000) (hctl : ∀ c ∈ low, isCtl c = false)
    (hf : ∃ pre k post, l = pre ++ (k, v) :: post ∧ Txt.lower (S k) = S low ∧ ∀ p ∈ pre, Txt.lower (S p.1) ≠ S low) (h : Post (.d (.str (S v))) st) :
    tcall cx (d + 2) (.ext (.ref 186)) [.hdr (.d (.list (prs l))), .d (.str (S x))] [] st Post := by
  have H := hcls hK hC
  have hle : (20002 : Nat) ≤ 5000000 := by decide
  refine tcall_def (cx := cx) (f := 186) (names := ["self", "name", "default"]) (ex := [.none]) (exV := [.d .none]) (ho := by rw [hK]; rfl) (hcd := by rw [hK]; rfl)
    (hbind := bindsGet (T := 179) rfl (by rw [hK]; rfl) rfl (fun v w => rfl) (fun v w => rfl)) (hex := fun _ _ => .cons .none .nil) (hco := rfl) (hgen := rfl) (hk := rfl) (hnames := by decide +kernel) (hnn := by decide +kernel) (hnd := by decide +kernel) fun L => ?_
  have hmeth : findIn cx.K (.ref cx.hC) "_convert_string_type" = some (some (.ref 138)) := by rw [hK, hC]; kernel_rfl
  have hfn : typeIn cx.K (.ref 138) = some (.type "function") := by rw [hK]; kernel_rfl
  have hkeep : keepIn cx.K (.ref 138) = true := by rw [hK]; kernel_rfl
  have lower_ : ∀ {y z : List Nat} {st : Store} {Q : V → Store → Prop}, y.length ≤ 20000 → Txt.lower (S y) = S z → Q (.d (.str (S z))) st → tcall cx (d + 1) (.ext (.builtin "str.lower")) [.d (.str (S y))] [] st Q := by
    intro y z st Q h1 h2 h3
    exact tcall_lower (by rw [S_len]; omega) (by rw [h2]; exact h3)
  refine tb_cons (ts_assign (te_methK (by rfl) (te_name rfl ⟨.ref 138, [.hdr (.d (.list (prs l)))], hkeep, tgm_hdr H hmeth hfn (by decide +kernel), ?_⟩)))
  refine te_meth (by rfl) (te_name rfl ⟨_, _, rfl, tgm_str (fun q => GM.lower q), lower_ hx hlow ?_⟩)
  refine te_bool (f_conv hK hlen hctl ?_)
  refine tb_cons (ts_for (te_hdr H (te_name rfl ⟨_, rfl, handed_list, _, rfl, fun rest ρ st' => (∃ l', rest = prs l' ∧ plainPrs l' ∧ ∃ pre k post, l' = pre ++ (k, v) :: post ∧ Txt.lower (S k) = S low ∧ ∀ p ∈ pre, Txt.lower (S p.1) ≠ S low) ∧ ρ.lookup ("name" : PySem.Str) = some (.d (.str (S low))) ∧ st' = st, ?_, ?_, ?_⟩)))
  · exact ⟨⟨l, rfl, hl, hf⟩, rfl, rfl⟩
  · rintro x' rest ρ st' ⟨⟨l', e, hl', pre, k, post, e2, e3, e4⟩, hs, rfl⟩
    cases l' with
    | nil => cases e
    | cons p l' =>
      cases e
      obtain ⟨⟨z1, z2⟩, z3, z4⟩ := hl' p (.head _)
      refine tasg_tuple (names := ["k", "v"]) rfl rfl ?_
      have ls : (updAll ρ ((["k", "v"] : List PySem.Str).zip ([PyData.str (S p.1), PyData.str (S p.2)].map .d))).lookup ("name" : PySem.Str) = some (.d (.str (S low))) := by
        show (upd (upd ρ "k" _) "v" _).lookup ("name" : PySem.Str) = _
        rw [upd_get, upd_get]; exact hs
      have lk : (updAll ρ ((["k", "v"] : List PySem.Str).zip ([PyData.str (S p.1), PyData.str (S p.2)].map .d))).lookup ("k" : PySem.Str) = some (.d (.str (S p.1))) := by
        show (upd (upd ρ "k" _) "v" _).lookup ("k" : PySem.Str) = _
        rw [upd_get, upd_get]; rfl
      have lv : (updAll ρ ((["k", "v"] : List PySem.Str).zip ([PyData.str (S p.1), PyData.str (S p.2)].map .d))).lookup ("v" : PySem.Str) = some (.d (.str (S p.2))) := by
        show (upd (upd ρ "k" _) "v" _).lookup ("v" : PySem.Str) = _
        rw [upd_get]; rfl
      refine tb_cons (ts_if (tt_cmp (te_meth (by rfl) (te_name lk ⟨_, _, rfl, tgm_str (fun q => GM.lower q), tcall_lower (by rw [S_len]; omega) (te_name ls (tcmp_eqS (ttr_bool ⟨fun hh => ?_, fun hh => ?_⟩)))⟩))))
      · have hh' : Txt.lower (S p.1) = S low := by simpa using hh
        refine tb_cons (ts_ret (te_name lv ⟨_, rfl, ?_⟩))
        rw [List.take_length]
        cases pre with
        | nil =>
          simp at e2
          rw [e2.1]; exact h
        | cons q pre =>
          simp at e2
          exact absurd hh' (by rw [e2.1]; exact e4 q (.head _))
      · have hh' : ¬ Txt.lower (S p.1) = S low := by simpa using hh
        refine tb_nil (tb_nil ⟨⟨l', rfl, fun q hq => hl' q (.tail _ hq), ?_⟩, ls, rfl⟩)
        cases pre with
        | nil =>
          simp at e2
          exact absurd (by rw [e2.1]; exact e3) hh'
        | cons q pre =>
          simp at e2
          exact ⟨pre, k, post, e2.2, e3, fun p hp => e4 p (.tail _ hp)⟩
  · rintro ρ st' ⟨⟨l', e, _, pre, k, post, e2, _⟩, _, rfl⟩
    exfalso
    have : l' = [] := by cases l' with | nil => rfl | cons _ _ => cases e
    rw [this] at e2
    simp at e2
end Mine

-- P2
namespace Mine
open PySem PySem.StrLaws PySem.Builtin PySem.Builtin.Str

/-! ### parts of a text -/
theorem slice_SS (l : List Nat) (lo hi : Nat) (h1 : lo ≤ hi) (h2 : hi ≤ l.length) : Txt.slice (S l) (some (lo : Int)) (some (hi : Int)) = S ((l.drop lo).take (hi - lo)) := sliceText_nat (S l) h1 (by rw [S_len]; exact h2)
theorem slice_NS (l : List Nat) (hi : Nat) (h2 : hi ≤ l.length) : Txt.slice (S l) none (some (hi : Int)) = S (l.take hi) := by
  have := sliceText_to (x := S l) (j := (hi : Int)) ⟨by omega, by rw [S_cps]; omega⟩
  refine this.trans ?_
  rw [S_cps]
  simp [S]
theorem slice_SN (l : List Nat) (lo : Nat) (h2 : lo ≤ l.length) : Txt.slice (S l) (some (lo : Int)) none = S (l.drop lo) := by
  have := sliceText_from (x := S l) (i := (lo : Int)) ⟨by omega, by rw [S_cps]; omega⟩
  refine this.trans ?_
  rw [S_cps]
  simp [S]
  rw [List.take_of_length_le (by simp)]
end Mine

-- W8
namespace Mine
open PySem PySem.W PySem.Calls PyProof.Rows
variable {cx : Cx} {d : Nat} {env : Env} {ρ : Vars} {st : Store} {pos : Pos} {P : Params}

/-- the sign at a place -/
theorem tsub_at {R : List Nat} {j c : Nat} {value slice : Expr} {Q : V → Store → Prop} (hz : R.length ≤ 1000000) (hc : R[j]? = some c) (hq : Q (.d (.str (S [c]))) st) : tsub cx d value slice (.d (.str (S R))) (.d (.int (j : Int))) st Q := by
  have hj : j < R.length := (List.getElem?_eq_some_iff.mp hc).1
  refine tsub_str (c := c) ?_ ?_ hq
  · have a : decide ((j : Int) < -(2 ^ 63 : Int)) = false := decide_eq_false (by omega)
    have b : decide ((j : Int) ≥ 2 ^ 63) = false := decide_eq_false (by omega)
    rw [a, b]; rfl
  · rw [S_len, idx_ok hj]
    show (R.toArray)[j]? = some c
    simpa using hc
theorem eqS1 (a b : Nat) : (S [a] == S [b]) = decide (a = b) := by
  by_cases e : a = b
  · subst e; simp
  · simp only [decide_eq_false e]
    simp only [beq_eq_false_iff_ne, ne_eq]
    intro hh
    exact e (by simpa using S_inj hh)

/-- quotation marks doubled -/
def dq : List Nat → List Nat
  | [] => []
  | c :: r => if c = 34 then 34 :: 34 :: dq r else c :: dq r
theorem dq_app : ∀ a b : List Nat, dq (a ++ b) = dq a ++ dq b
  | [], b => rfl
  | c :: r, b => by
    simp only [List.cons_append, dq]
    split <;> simp [dq_app r b]
theorem dq_len : ∀ l : List Nat, l.length ≤ (dq l).length
  | [] => Nat.le_refl _
  | c :: r => by
    have := dq_len r
    simp only [dq]
    split <;> simp only [List.length_cons] <;> omega
/-- a reply 257 that quotes a text -/
def q257 (inner tail : List Nat) : List Nat := [50, 53, 55, 32, 34] ++ dq inner ++ 34 :: tail

set_option maxHeartbeats 4000000 in
theorem f_257 (hK : cx.K = hd.heap_39 P) {inner tail : List Nat} {Post : V → Store → Prop} (hz : (q257 inner tail).length ≤ 20000) (ht : tail.head? ≠ some 34) (h : Post (.d (.str (S inner))) st) :
    tcall cx (d + 1) (.ext (.ref 89)) [.d (.str (S (q257 inner tail)))] [] st Post := by
  refine tcall_def (cx := cx) (f := 89) (names := ["resp"]) (ex := []) (exV := []) (ho := by rw [hK]; rfl) (hcd := by rw [hK]; rfl) (hbind := binds1 fun v => rfl) (hex := fun _ _ => .nil) (hco := rfl) (hgen := rfl) (hk := rfl) (hnames := by decide +kernel) (hnn := by decide +kernel) (hnd := by decide +kernel) fun L => ?_
  have hle : (20002 : Nat) ≤ sizeLine := by decide
  have hz' : (S (q257 inner tail)).length ≤ sizeLine := by rw [S_len]; omega
  have h257 : ("257" : PySem.Str) = S [50, 53, 55] := by decide +kernel
  have hsq : (" \"" : PySem.Str) = S [32, 34] := by decide +kernel
  have hlen5 : 5 ≤ (q257 inner tail).length := by simp [q257]
  refine tb_cons (ts_if (tt_cmp (te_slice (te_name rfl (te_int ⟨_, rfl, tsl_str hz' ?_⟩)))))
  rw [show Txt.slice (S (q257 inner tail)) none (some 3) = S [50, 53, 55] from slice_NS _ 3 (by omega)]
  refine te_str (tcmp_neS (ttr_bool ⟨fun hh => ?_, fun _ => tb_nil ?_⟩))
  · exfalso
    rw [h257] at hh
    simp at hh
  refine tb_cons (ts_if (tt_cmp (te_slice (te_name rfl (te_int ⟨_, rfl, te_int ⟨_, rfl, tsl_str hz' ?_⟩⟩)))))
  rw [show Txt.slice (S (q257 inner tail)) (some 3) (some 5) = S [32, 34] from slice_SS _ 3 5 (by omega) (by omega)]
  refine te_str (tcmp_neS (ttr_bool ⟨fun hh => ?_, fun _ => tb_nil ?_⟩))
  · exfalso
    rw [hsq] at hh
    simp at hh
  refine tb_cons (ts_assign (te_str ?_))
  refine tb_cons (ts_assign (te_int ?_))
  refine tb_cons (ts_assign (te_call (by rfl) (te_builtin (v := .builtin "len") (by rw [hK]; kernel_rfl) (by kernel_rfl) ⟨_, rfl, rfl, te_name rfl (tcall_len (by rw [S_len]; omega) ?_)⟩)))
  have hin : inner.length + 5 ≤ 20000 := by
    have := dq_len inner
    have e : (q257 inner tail).length = 5 + (dq inner).length + (1 + tail.length) := by simp [q257]; omega
    omega
  have fin_here : Post (.d (.str (S inner))) st → ∀ n, ∃ r, fin n st (.ret (.d (.str (S inner)))) = some r ∧ Post r (st.take st.length) := fun h n => ⟨_, rfl, by rw [List.take_length]; exact h⟩
  generalize hR : q257 inner tail = R at *
  have hzR : R.length ≤ 1000000 := Nat.le_trans hz (by decide)
  have hquote : ("\"" : PySem.Str) = S [34] := by decide +kernel
  refine tb_cons (ts_while (fun n ρ st' => ∃ done rest, inner = done ++ rest ∧ n = rest.length ∧ ρ.lookup ("resp" : PySem.Str) = some (.d (.str (S R))) ∧ ρ.lookup ("dirname" : PySem.Str) = some (.d (.str (S done))) ∧ ρ.lookup ("i" : PySem.Str) = some (.d (.int ((5 + (dq done).length : Nat) : Int))) ∧ ρ.lookup ("n" : PySem.Str) = some (.d (.int (R.length : Int))) ∧ st' = st) inner.length ?_ ?_)
  · exact ⟨[], inner, rfl, rfl, rfl, rfl, rfl, by rw [S_len]; rfl, rfl⟩
  · rintro n ρ st' ⟨done, rest, e, rfl, l1, l2, l3, l4, rfl⟩
    have hRR : R = ([50, 53, 55, 32, 34] ++ dq done) ++ (dq rest ++ 34 :: tail) := by rw [← hR, e]; unfold q257; rw [dq_app]; simp
    have hpre : ([50, 53, 55, 32, 34] ++ dq done).length = 5 + (dq done).length := by simp; omega
    generalize hp : 5 + (dq done).length = p at *
    have hget : ∀ k, R[p + k]? = (dq rest ++ 34 :: tail)[k]? := by
      intro k
      rw [hRR, ← hpre, List.getElem?_append_right (by omega)]
      congr 1
      omega
    have hlenR : R.length = p + (dq rest ++ 34 :: tail).length := by rw [hRR, List.length_append, hpre]
    have hpl : p < R.length := by rw [hlenR]; simp; omega
    refine tt_cmp (te_name l3 (te_name l4 (tcmp_ltI (ttr_bool ⟨fun _ => ?_, fun hh => absurd (show (p : Int) < (R.length : Int) by omega) (by simpa using hh)⟩))))
    obtain ⟨c, hc⟩ : ∃ c, R[p]? = some c := ⟨_, List.getElem?_eq_getElem hpl⟩
    refine tb_cons (ts_assign (te_sub (te_name l1 (te_name l3 (tsub_at hzR hc ?_)))))
    have m1 : ∀ v, (upd ρ "c" v).lookup ("resp" : PySem.Str) = some (.d (.str (S R))) := fun v => by rw [upd_get]; exact l1
    have m2 : ∀ v, (upd ρ "c" v).lookup ("dirname" : PySem.Str) = some (.d (.str (S done))) := fun v => by rw [upd_get]; exact l2
    have m3 : ∀ v, (upd ρ "c" v).lookup ("i" : PySem.Str) = some (.d (.int (p : Int))) := fun v => by rw [upd_get]; exact l3
    have m4 : ∀ v, (upd ρ "c" v).lookup ("n" : PySem.Str) = some (.d (.int (R.length : Int))) := fun v => by rw [upd_get]; exact l4
    refine tb_cons (ts_assign (te_bin (te_name (m3 _) (te_int (tbin_add ?_)))))
    generalize hρ2 : upd (upd ρ "c" _) "i" _ = ρ2
    have k1 : ρ2.lookup ("resp" : PySem.Str) = some (.d (.str (S R))) := by rw [← hρ2, upd_get]; exact m1 _
    have k2 : ρ2.lookup ("dirname" : PySem.Str) = some (.d (.str (S done))) := by rw [← hρ2, upd_get]; exact m2 _
    have k3 : ρ2.lookup ("i" : PySem.Str) = some (.d (.int ((p + 1 : Nat) : Int))) := by rw [← hρ2, upd_get]; rfl
    have k4 : ρ2.lookup ("n" : PySem.Str) = some (.d (.int (R.length : Int))) := by rw [← hρ2, upd_get]; exact m4 _
    have k5 : ρ2.lookup ("c" : PySem.Str) = some (.d (.str (S [c]))) := by rw [← hρ2, upd_get, upd_get]; rfl
    have hz2 : done.length + 1 ≤ sizeLine := by
      have e1 : inner.length = done.length + rest.length := by rw [e, List.length_append]
      omega
    cases rest with
    | nil =>
      have hc34 : c = 34 := by
        have := hget 0
        rw [Nat.add_zero, hc] at this
        simpa [dq] using this
      have hbrk : inner = done := by simpa using e
      refine tb_cons (ts_if (tt_cmp (te_name k5 (te_str ?_))))
      rw [hquote]
      refine tcmp_eqS (ttr_bool ⟨fun _ => ?_, fun hh => ?_⟩)
      · refine tb_cons (ts_if (tt_or (tt_cmp (te_name k3 (te_name k4 (tcmp_geI (ttr_bool ⟨fun hh => ?_, fun hh => ?_⟩)))))))
        · refine ⟨fun _ => tb_cons (ts_break ?_), fun q => by cases q⟩
          exact tb_cons (ts_ret (te_name (v := .d (.str (S inner))) (by rw [k2, hbrk]) (fin_here h _)))
        · have hlt : p + 1 < R.length := by
            have : ¬ ((p + 1 : Nat) : Int) ≥ (R.length : Int) := by simpa using hh
            omega
          obtain ⟨c2, hc2⟩ : ∃ c, R[p + 1]? = some c := ⟨_, List.getElem?_eq_getElem hlt⟩
          have hne : c2 ≠ 34 := by
            intro q
            have := hget 1
            rw [hc2, q] at this
            apply ht
            cases tail with
            | nil => simp [dq] at this
            | cons x y => simpa [dq] using this.symm
          refine tt_or (tt_cmp (te_sub (te_name k1 (te_name k3 (tsub_at hzR hc2 (te_str ?_))))))
          refine tcmp_neS (ttr_bool ⟨fun _ => ?_, fun hh => ?_⟩)
          · refine ⟨fun _ => tb_cons (ts_break ?_), fun q => by cases q⟩
            exact tb_cons (ts_ret (te_name (v := .d (.str (S inner))) (by rw [k2, hbrk]) (fin_here h _)))
          · exfalso
            have : (S [c2] == S [34]) = true := by have hh2 : (S [c2] != S [34]) = false := hh; simpa [bne] using hh2
            rw [eqS1] at this
            exact hne (by simpa using this)
      · rw [eqS1] at hh
        exact absurd hc34 (by simpa using hh)
    | cons c0 r =>
      have hcc : c = c0 := by
        have := hget 0
        rw [Nat.add_zero, hc] at this
        simp only [dq] at this
        split at this
        · next q => subst q; simpa using this
        · simpa using this
      subst hcc
      have last : ∀ ρ3 : Vars, ρ3.lookup ("resp" : PySem.Str) = some (.d (.str (S R))) → ρ3.lookup ("i" : PySem.Str) = some (.d (.int ((5 + (dq (done ++ [c])).length : Nat) : Int))) → ρ3.lookup ("n" : PySem.Str) = some (.d (.int (R.length : Int))) →
          ∃ m, m < (c :: r).length ∧ ∃ done' rest, inner = done' ++ rest ∧ m = rest.length ∧ (upd ρ3 ("dirname" : PySem.Str) (.d (.str (S done ++ S [c])))).lookup ("resp" : PySem.Str) = some (.d (.str (S R))) ∧ (upd ρ3 ("dirname" : PySem.Str) (.d (.str (S done ++ S [c])))).lookup ("dirname" : PySem.Str) = some (.d (.str (S done'))) ∧ (upd ρ3 ("dirname" : PySem.Str) (.d (.str (S done ++ S [c])))).lookup ("i" : PySem.Str) = some (.d (.int ((5 + (dq done').length : Nat) : Int))) ∧ (upd ρ3 ("dirname" : PySem.Str) (.d (.str (S done ++ S [c])))).lookup ("n" : PySem.Str) = some (.d (.int (R.length : Int))) ∧ st' = st' := fun ρ3 q1 q3 q4 => by
        refine ⟨r.length, Nat.lt_succ_self _, done ++ [c], r, by rw [e]; simp, rfl, ?_, ?_, ?_, ?_, rfl⟩
        · rw [upd_get]; exact q1
        · rw [upd_get, S_app]; rfl
        · rw [upd_get]; exact q3
        · rw [upd_get]; exact q4
      refine tb_cons (ts_if (tt_cmp (te_name k5 (te_str ?_))))
      rw [hquote]
      refine tcmp_eqS (ttr_bool ⟨fun hh => ?_, fun hh => ?_⟩)
      · have hc34 : c = 34 := by rw [eqS1] at hh; simpa using hh
        subst hc34
        have hg1 : R[p + 1]? = some 34 := by rw [hget 1]; simp [dq]
        have hlt : p + 1 < R.length := (List.getElem?_eq_some_iff.mp hg1).1
        refine tb_cons (ts_if (tt_or (tt_cmp (te_name k3 (te_name k4 (tcmp_geI (ttr_bool ⟨fun hh => ?_, fun hh => ?_⟩)))))))
        · exfalso
          have : ((p + 1 : Nat) : Int) ≥ (R.length : Int) := by simpa using hh
          omega
        · refine tt_or (tt_cmp (te_sub (te_name k1 (te_name k3 (tsub_at hzR hg1 (te_str ?_))))))
          refine tcmp_neS (ttr_bool ⟨fun hh => ?_, fun hh => tt_or_nil ⟨nofun, fun _ => ?_⟩⟩)
          · exfalso
            simp at hh
          · refine tb_nil ?_
            refine tb_cons (ts_assign (te_bin (te_name k3 (te_int (tbin_add ?_)))))
            refine tb_nil ?_
            refine tb_cons (ts_assign (te_bin (te_name (v := .d (.str (S done))) (by rw [upd_get]; exact k2) (te_name (v := .d (.str (S [34]))) (by rw [upd_get]; exact k5) (tbin_cat (by rw [S_len, S_len]; exact hz2) ?_)))))
            refine tb_nil (last _ ?_ ?_ ?_)
            · rw [upd_get]; exact k1
            · rw [upd_get, dq_app, List.length_append]
              show some (V.d (.int (((p + 1 : Nat) : Int) + 1))) = _
              rw [← hp]
              refine congrArg (fun z : Int => some (V.d (.int z))) ?_
              simp [dq]
              omega
            · rw [upd_get]; exact k4
      · have hne : c ≠ 34 := by rw [eqS1] at hh; simpa using hh
        refine tb_nil ?_
        refine tb_cons (ts_assign (te_bin (te_name k2 (te_name k5 (tbin_cat (by rw [S_len, S_len]; exact hz2) ?_)))))
        refine tb_nil (last _ k1 ?_ k4)
        rw [k3, dq_app, List.length_append, ← hp]
        refine congrArg (fun z : Int => some (V.d (.int z))) ?_
        simp [dq, hne]
        omega
end Mine

-- P3
namespace Mine
open PySem PySem.StrLaws PySem.Builtin PySem.Builtin.Str

theorem free1 {m : Nat} : ∀ {row : List Nat} (rest : List Nat), m ∉ row → ∀ i, i < row.length → [m].isPrefixOf ((row ++ rest).drop i) = false
  | [], rest, h, i, hi => absurd hi (by simp)
  | c :: r, rest, h, 0, hi => by
    have : m ≠ c := fun e => h (by rw [e]; exact .head _)
    simp [List.isPrefixOf, this]
  | c :: r, rest, h, i + 1, hi => by
    have := free1 (row := r) rest (fun q => h (.tail _ q)) i (by simpa using hi)
    simpa using this
theorem find_list {m : Nat} {row : List Nat} (rest : List Nat) (h : m ∉ row) : Txt.find (S (row ++ m :: rest)) (S [m]) = (row.length : Int) := by
  unfold Txt.find
  rw [S_len, occ_list _ _ (by simp) 0 _ (Nat.zero_le _), List.drop_zero, occL_free _ _ _ _ _ (free1 _ h)]
  have := occL_hit [m] (by simp) 1 (0 + row.length) rest (by decide)
  rw [List.singleton_append] at this
  rw [this]
  simp
theorem find3_list {m : Nat} (pre : List Nat) {row : List Nat} (rest : List Nat) (h : m ∉ row) : Txt.find3 (S (pre ++ (row ++ m :: rest))) (S [m]) (pre.length : Int) = ((pre.length + row.length : Nat) : Int) := by
  unfold Txt.find3
  have e : fromIndex (S (pre ++ (row ++ m :: rest))).length (pre.length : Int) = pre.length := by
    unfold fromIndex
    rw [S_len]
    rw [if_neg (by omega)]
    omega
  rw [e, S_len, occ_list _ _ (by simp) pre.length _ (by simp), List.drop_left, occL_free _ _ _ _ _ (free1 _ h)]
  have := occL_hit [m] (by simp) 1 (pre.length + row.length) rest (by decide)
  rw [List.singleton_append] at this
  rw [this]
theorem split1 {m : Nat} {row : List Nat} (rest : List Nat) (lim : Nat) (hl : lim ≠ 0) (h : m ∉ row) : splitL [m] lim (row ++ m :: rest) = S row :: splitL [m] (lim - 1) rest := by
  have := splitL_more [m] (by simp) lim hl row rest (by rw [List.singleton_append]; exact free1 _ h)
  rw [List.singleton_append] at this
  exact this
theorem split1_end {m : Nat} {row : List Nat} (lim : Nat) (h : m ∉ row) : splitL [m] lim row = [S row] := by
  refine splitL_none _ _ _ fun i hi => ?_
  have := free1 [] h i hi
  rwa [List.append_nil] at this
theorem split_marks {m : Nat} {D : List Nat} (hk : strKind (S [m]) = 1) (h : m ∉ D) : Txt.split (S ([m, m, m] ++ D ++ [m])) (S [m]) = [S [], S [], S [], S D, S []] := by
  rw [split_list hk (by simp)]
  have e : [m, m, m] ++ D ++ [m] = [] ++ m :: ([] ++ m :: ([] ++ m :: (D ++ m :: []))) := by simp
  rw [e]
  have hlen : ([] ++ m :: ([] ++ m :: ([] ++ m :: (D ++ m :: [])))).length + 1 = D.length + 5 := by simp
  rw [hlen, split1 _ _ (by omega) (by simp), split1 _ _ (by omega) (by simp), split1 _ _ (by omega) (by simp), split1 _ _ (by omega) h, split1_end _ (by simp)]

theorem dec_digits {i : Int} (h0 : 0 ≤ i) : ∀ c ∈ dec i, 48 ≤ c ∧ c ≤ 57 := by
  obtain ⟨m, rfl⟩ := Int.eq_ofNat_of_zero_le h0
  intro c hc
  unfold dec at hc
  rw [PySem.W.KIN.signs_num] at hc
  obtain ⟨ch, hch, e⟩ := List.mem_map.mp hc
  have r := PyProof.Rows.digit_range (Nat.isDigit_of_mem_toDigits (by decide) (by decide) hch)
  rw [← e]
  exact r
theorem dec_reads {i : Int} (h0 : 0 ≤ i) (h1 : i < 10000000) : PySem.intText? (S (dec i)) = some i := by
  rw [S_dec]; exact PySem.W.KIN.num_reads h0 (by omega)
end Mine

-- W10
namespace Mine
open PySem PySem.W PySem.Calls PyProof.Rows

variable {cx : Cx} {d : Nat} {env : Env} {ρ : Vars} {st : Store} {pos : Pos} {P : Params}

/-- a reply 229 -/
def r229 (m : Nat) (D : List Nat) : List Nat := [50, 50, 57, 32, 40] ++ [m, m, m] ++ D ++ [m] ++ [41]

set_option maxHeartbeats 4000000 in
theorem f_229 (hK : cx.K = hd.heap_39 P) {m : Nat} {n dep u : Int} {Post : V → Store → Prop} (hm : m = 124 ∨ m = 46 ∨ m = 58) (h0 : 0 ≤ n) (h1 : n < 10000000) (h : Post (.d (.tuple [.int dep, .int n])) st) :
    tcall cx (d + 1) (.ext (.ref 82)) [.d (.str (S (r229 m (dec n)))), .d (.tuple [.int dep, .int u])] [] st Post := by
  refine tcall_def (cx := cx) (f := 82) (names := ["resp", "peer"]) (ex := []) (exV := []) (ho := by rw [hK]; rfl) (hcd := by rw [hK]; rfl) (hbind := binds2 fun v w => rfl) (hex := fun _ _ => .nil) (hco := rfl) (hgen := rfl) (hk := rfl) (hnames := by decide +kernel) (hnn := by decide +kernel) (hnd := by decide +kernel) fun L => ?_
  have hle : (20002 : Nat) ≤ sizeLine := by decide
  have hD := dec_len h0 h1
  have hDd := dec_digits h0
  have hDr := dec_reads h0 h1
  generalize dec n = D at hD hDd hDr ⊢
  have hlen : (r229 m D).length = D.length + 10 := by simp [r229]
  have hm41 : m ≠ 41 := by omega
  have hmD : m ∉ D := fun q => by have := hDd m q; omega
  have h41D : (41 : Nat) ∉ D := fun q => by have := hDd 41 q; omega
  have h229 : ("229" : PySem.Str) = S [50, 50, 57] := by decide +kernel
  have hop : ("(" : PySem.Str) = S [40] := by decide +kernel
  have hcl : (")" : PySem.Str) = S [41] := by decide +kernel
  have hmk : PySem.Builtin.Str.strKind (S [m]) = 1 := by rcases hm with rfl | rfl | rfl <;> decide +kernel
  clear h0 h1 hm hle
  have hf1 : Txt.find (S (r229 m D)) "(" = 4 := by
    rw [hop, show r229 m D = [50, 50, 57, 32] ++ 40 :: ([m, m, m] ++ D ++ [m] ++ [41]) by simp [r229], find_list _ (by decide)]
    rfl
  have hf2 : Txt.find3 (S (r229 m D)) ")" 5 = ((D.length + 9 : Nat) : Int) := by
    have e : r229 m D = [50, 50, 57, 32, 40] ++ (([m, m, m] ++ D ++ [m]) ++ 41 :: []) := by simp [r229]
    rw [hcl, e]
    have := find3_list (m := 41) [50, 50, 57, 32, 40] (row := [m, m, m] ++ D ++ [m]) [] (fun q => by
      rcases List.mem_append.mp q with q | q
      · rcases List.mem_append.mp q with q | q
        · simp at q; omega
        · exact h41D q
      · simp at q; omega)
    refine this.trans ?_
    simp
    omega
  have g5 : (r229 m D)[5]? = some m := by simp [r229]
  have g8 : (r229 m D)[D.length + 8]? = some m := by
    have e : r229 m D = ([50, 50, 57, 32, 40] ++ [m, m, m] ++ D) ++ ([m] ++ [41]) := by simp [r229]
    rw [e, List.getElem?_append_right (by simp only [List.length_append, List.length_cons, List.length_nil]; omega)]
    have : D.length + 8 - ([50, 50, 57, 32, 40] ++ [m, m, m] ++ D).length = 0 := by simp only [List.length_append, List.length_cons, List.length_nil]; omega
    rw [this]; rfl
  have hsl : Txt.slice (S (r229 m D)) (some 5) (some ((D.length + 9 : Nat) : Int)) = S ([m, m, m] ++ D ++ [m]) := by
    refine (slice_SS _ 5 (D.length + 9) (by omega) (by omega)).trans ?_
    congr 1
    have e : r229 m D = [50, 50, 57, 32, 40] ++ (([m, m, m] ++ D ++ [m]) ++ [41]) := by simp [r229]
    rw [e]
    show (([m, m, m] ++ D ++ [m]) ++ [41]).take (D.length + 9 - 5) = _
    exact List.take_left' (by simp)
  generalize hR : r229 m D = R at *
  have hR20 : R.length ≤ 20 := by omega
  have hz : (S R).length ≤ sizeLine := by rw [S_len]; exact Nat.le_trans hR20 (by decide)
  have at5 : ∀ {value slice : Expr} {st : Store} {Q : V → Store → Prop}, Q (.d (.str (S [m]))) st → tsub cx d value slice (.d (.str (S R))) (.d (.int ((4 : Int) + 1))) st Q := fun hq => tsub_at (j := 5) (Nat.le_trans hR20 (by decide)) g5 hq
  refine tb_cons (ts_if (tt_cmp (te_slice (te_name rfl (te_int ⟨_, rfl, tsl_str hz ?_⟩)))))
  rw [show Txt.slice (S R) none (some 3) = S [50, 50, 57] from (slice_NS R 3 (by omega)).trans (by rw [← hR]; rfl)]
  refine te_str (tcmp_neS (ttr_bool ⟨fun hh => absurd hh (by rw [h229]; simp), fun _ => tb_nil ?_⟩))
  refine tb_cons (ts_assign (te_meth (by rfl) (te_name rfl ⟨_, _, rfl, tgm_str (fun q => GM.find q), te_str (tcall_find ?_)⟩)))
  rw [hf1]
  refine tb_cons (ts_if (tt_cmp (te_name rfl (te_int (tcmp_ltI (ttr_bool ⟨fun hh => absurd hh (by decide), fun _ => tb_nil ?_⟩))))))
  refine tb_cons (ts_assign (te_meth (by rfl) (te_name rfl ⟨_, _, rfl, tgm_str (fun q => GM.find q), te_str (te_bin (te_name rfl (te_int (tbin_add (tcall_find3 ?_)))))⟩)))
  rw [show ((4 : Int) + 1) = 5 from rfl, hf2]
  refine tb_cons (ts_if (tt_cmp (te_name rfl (te_int (tcmp_ltI (ttr_bool ⟨fun hh => absurd hh (by simp; omega), fun _ => tb_nil ?_⟩))))))
  refine tb_cons (ts_if (tt_cmp (te_sub (te_name rfl (te_bin (te_name rfl (te_int (tbin_add (at5 ?_)))))))))
  refine te_sub (te_name rfl (te_bin (te_name rfl (te_int (tbin_sub ?_)))))
  rw [show ((D.length + 9 : Nat) : Int) - 1 = ((D.length + 8 : Nat) : Int) by omega]
  refine tsub_at (Nat.le_trans hR20 (by decide)) g8 (tcmp_neS (ttr_bool ⟨fun hh => absurd hh (by simp), fun _ => tb_nil ?_⟩))
  refine tb_cons (ts_assign (te_meth (by rfl) (te_slice (te_name rfl (te_bin (te_name rfl (te_int (tbin_add ⟨_, rfl, te_name rfl ⟨_, rfl, tsl_str hz ?_⟩⟩))))))))
  rw [show ((4 : Int) + 1) = 5 from rfl, hsl]
  refine ⟨_, _, rfl, tgm_str (fun q => GM.split q), te_sub (te_name rfl (te_bin (te_name rfl (te_int (tbin_add (at5 ?_))))))⟩
  refine tcall_split (by rw [S_len]; rfl) (by rw [S_len]; simp; omega) ?_
  rw [split_marks hmk hmD]
  refine tb_cons (ts_if (tt_cmp (te_call (by rfl) (te_builtin (v := .builtin "len") (by rw [hK]; kernel_rfl) (by kernel_rfl) ⟨_, rfl, rfl, te_name rfl (tcall_lenL (by show ((5 : Nat) : Int) < 2 ^ 63; decide) (te_int (tcmp_neI (ttr_bool ⟨fun hh => absurd (show (((5 : Nat) : Int) != 5) = true from hh) (by decide), fun _ => tb_nil ?_⟩))))⟩))))
  refine tb_cons (ts_assign (te_sub (te_name rfl (te_int (tsub_tuple (by decide) (by decide) (j := 0) rfl rfl ?_)))))
  refine tb_cons (ts_assign (te_call (by rfl) (te_builtin (v := .type "int") (by rw [hK]; kernel_rfl) (by kernel_rfl) ⟨_, rfl, rfl, te_sub (te_name rfl (te_int (tsub_list (by decide) (by decide) (j := 3) rfl rfl (tcall_int hDr (by rw [S_len]; omega) ?_))))⟩)))
  refine tb_cons (ts_ret (te_tuple (by rfl) (te_name rfl (te_name rfl ⟨_, rfl, by show 2 ≤ sizeLine; decide, _, rfl, ?_⟩))))
  rw [List.take_length]; exact h
end Mine

-- P4
namespace Mine
open PySem PySem.StrLaws PySem.Builtin PySem.Builtin.Str

/-! ### a sign counted, replaced -/
theorem occ1_count (m : Nat) : ∀ (l : List Nat) (lim pos : Nat), l.length < lim → (occL [m] lim 0 pos l).length = l.count m
  | [], lim, pos, _ => by simp [occL]
  | c :: r, lim, pos, h => by
    simp only [occL]
    by_cases e : m = c
    · subst e
      rw [if_pos ⟨by omega, by simp [List.isPrefixOf]⟩]
      have := occ1_count m r (lim - 1) (pos + 1) (by simp at h; omega)
      simp only [List.length_cons, List.length_nil] at this ⊢
      rw [List.count_cons_self]
      rw [← this]
    · rw [if_neg (fun hh => e (by simpa [List.isPrefixOf] using hh.2))]
      rw [occ1_count m r lim (pos + 1) (by simp at h; omega), List.count_cons_of_ne (Ne.symm e)]
theorem count_list (l : List Nat) (m : Nat) : Txt.count (S l) (S [m]) = (l.count m : Int) := by
  unfold Txt.count
  rw [S_len, occ_list _ _ (by simp) 0 _ (Nat.zero_le _), List.drop_zero, occ1_count _ _ _ _ (by omega)]

/-- each m replaced by z -/
def repl (m : Nat) (z l : List Nat) : List Nat := l.flatMap fun c => if c = m then z else [c]
theorem repl_free {m : Nat} {z : List Nat} : ∀ {l : List Nat}, m ∉ l → repl m z l = l
  | [], _ => rfl
  | c :: r, h => by
    have : c ≠ m := fun e => h (by rw [e]; exact .head _)
    unfold repl
    rw [List.flatMap_cons, if_neg this]
    have ih := repl_free (z := z) (l := r) fun q => h (.tail _ q)
    unfold repl at ih
    rw [ih]; rfl
theorem repl_app (m : Nat) (z a b : List Nat) : repl m z (a ++ b) = repl m z a ++ repl m z b := by simp [repl]

theorem cut_parts (m : Nat) (z : List Nat) : ∀ (n : Nat) (l : List Nat) (lim : Nat), l.length ≤ n → l.length < lim → ∃ ps, splitL [m] lim l = ps.map S ∧ ps ≠ [] ∧ List.intercalate z ps = repl m z l := by
  intro n
  induction n with
  | zero =>
    intro l lim h1 h2
    have : l = [] := List.eq_nil_of_length_eq_zero (by omega)
    subst this
    exact ⟨[[]], split1_end _ (by simp), by simp, by simp [List.intercalate, repl]⟩
  | succ n ih =>
    intro l lim h1 h2
    by_cases hm : m ∈ l
    · obtain ⟨row, rest, rfl, hr⟩ := List.eq_append_cons_of_mem hm
      simp at h1 h2
      obtain ⟨ps, e1, e2, e3⟩ := ih rest (lim - 1) (by omega) (by omega)
      refine ⟨row :: ps, by rw [split1 _ _ (by omega) hr, e1]; rfl, by simp, ?_⟩
      cases ps with
      | nil => exact absurd rfl e2
      | cons p ps =>
        have : List.intercalate z (row :: p :: ps) = row ++ (z ++ List.intercalate z (p :: ps)) := by simp [List.intercalate, List.intersperse]
        rw [this, e3, repl_app, repl_free hr]
        simp [repl]
    · exact ⟨[l], split1_end _ hm, by simp, by rw [repl_free hm]; simp [List.intercalate]⟩

theorem replace_list (l : List Nat) (m : Nat) (z : List Nat) : Txt.replace (S l) (S [m]) (S z) = S (repl m z l) := by
  obtain ⟨ps, e1, _, e3⟩ := cut_parts m z l.length l (l.length + 1) (Nat.le_refl _) (by omega)
  unfold Txt.replace
  rw [S_len, S_len, occ_list _ _ (by simp) 0 _ (Nat.zero_le _), List.drop_zero]
  unfold splitL at e1
  by_cases hm : m ∈ l
  · obtain ⟨row, rest, rfl, hr⟩ := List.eq_append_cons_of_mem hm
    have hne : occL [m] ((row ++ m :: rest).length + 1) 0 0 (row ++ m :: rest) ≠ [] := by
      intro e
      have := occ1_count m (row ++ m :: rest) ((row ++ m :: rest).length + 1) 0 (by omega)
      rw [e] at this
      simp at this
    cases ho : occL [m] ((row ++ m :: rest).length + 1) 0 0 (row ++ m :: rest) with
    | nil => exact absurd ho hne
    | cons c r =>
      rw [if_neg (by simp)]
      rw [ho] at e1
      rw [partsBetween_eq]
      have h2 := join_list z ps
      rw [e3] at h2
      refine Eq.trans ?_ h2
      show glued (S z) _ = glued (S z) _
      rw [← e1]
  · have hno : occL [m] (l.length + 1) 0 0 l = [] := List.eq_nil_of_length_eq_zero (by rw [occ1_count _ _ _ _ (by omega)]; exact List.count_eq_zero.mpr hm)
    rw [hno, if_pos (by simp), repl_free hm]

/-! ### rows -/
/-- no end of a row inside -/
def Row (r : List Nat) : Prop := ∀ c ∈ r, c ≠ 10 ∧ c ≠ 13
def Rows (R : List (List Nat)) : Prop := ∀ r ∈ R, Row r
def flat (R : List (List Nat)) : List Nat := R.flatMap (· ++ [13, 10])
theorem flat_app (A B : List (List Nat)) : flat (A ++ B) = flat A ++ flat B := by simp [flat]
theorem flat_cons (r : List Nat) (R : List (List Nat)) : flat (r :: R) = r ++ 13 :: 10 :: flat R := by simp [flat]
theorem Rows.app {A B : List (List Nat)} (h1 : Rows A) (h2 : Rows B) : Rows (A ++ B) := fun r hr => (List.mem_append.mp hr).elim (h1 r) (h2 r)

theorem free2 {m k : Nat} : ∀ {row : List Nat} (rest : List Nat), m ∉ row → ∀ i, i < row.length → [m, k].isPrefixOf ((row ++ rest).drop i) = false
  | [], rest, h, i, hi => absurd hi (by simp)
  | c :: r, rest, h, 0, hi => by
    have : m ≠ c := fun e => h (by rw [e]; exact .head _)
    simp [List.isPrefixOf, this]
  | c :: r, rest, h, i + 1, hi => by
    have := free2 (k := k) (row := r) rest (fun q => h (.tail _ q)) i (by simpa using hi)
    simpa using this
theorem splitL_rows : ∀ (R : List (List Nat)) (lim : Nat), Rows R → R.length < lim → splitL [13, 10] lim (flat R) = (R ++ [[]]).map S
  | [], lim, _, _ => by
    refine splitL_none _ _ _ fun i hi => absurd hi (by simp [flat])
  | r :: R, lim, h, hl => by
    have hr : 13 ∉ r := fun q => (h r (.head _) 13 q).2 rfl
    have e : flat (r :: R) = r ++ ([13, 10] ++ flat R) := by simp [flat]
    rw [e, splitL_more [13, 10] (by simp) lim (by omega) r (flat R) (free2 _ hr), splitL_rows R (lim - 1) (fun x hx => h x (.tail _ hx)) (by simp at hl; omega)]
    rfl
theorem flat_len : ∀ R : List (List Nat), R.length ≤ (flat R).length
  | [] => Nat.le_refl _
  | r :: R => by
    have := flat_len R
    rw [flat_cons]
    simp
    omega
theorem split_rows {R : List (List Nat)} (h : Rows R) : Txt.split (S (flat R)) (S [13, 10]) = (R ++ [[]]).map S := by
  rw [split_list (by decide +kernel) (by simp)]
  exact splitL_rows R _ h (by have := flat_len R; omega)
theorem inter_rows : ∀ R : List (List Nat), List.intercalate [13, 10] (R ++ [[]]) = flat R
  | [] => rfl
  | [r] => by simp [List.intercalate, List.intersperse, flat]
  | r :: u :: R => by
    have ih := inter_rows (u :: R)
    have : List.intercalate [13, 10] ((r :: u :: R) ++ [[]]) = r ++ ([13, 10] ++ List.intercalate [13, 10] ((u :: R) ++ [[]])) := by simp [List.intercalate, List.intersperse]
    rw [this, ih, flat_cons r]
    rfl
theorem join_rows (R : List (List Nat)) : Txt.join (S [13, 10]) ((R ++ [[]]).map S) = S (flat R) := by rw [join_list, inter_rows]
/-- name: text, split at the first mark -/
theorem split_colon {a b : List Nat} (h : 58 ∉ a) : Txt.splitMax (S (a ++ 58 :: 32 :: b)) (S [58, 32]) 1 = [S a, S b] := by
  rw [splitMax_list (by decide +kernel) (by simp)]
  have e : a ++ 58 :: 32 :: b = a ++ ([58, 32] ++ b) := rfl
  have hl : limitOf (S (a ++ 58 :: 32 :: b)) 1 = 1 := by
    rfl
  rw [hl, e, splitL_more [58, 32] (by simp) 1 (by decide) a b (free2 _ h)]
  show S a :: splitL [58, 32] 0 b = _
  rw [splitL_lim0]
end Mine

-- P5
namespace Mine
open PySem PySem.StrLaws PySem.Builtin PySem.Builtin.Str

/-! ### one sending -/
def dots (t : Nat) (r : List Nat) : List Nat := if r.head? = some 46 then List.replicate t 46 ++ r else r
theorem dots_zero (r : List Nat) : dots 0 r = r := by unfold dots; split <;> simp
theorem dots_head {t : Nat} {r : List Nat} : (dots t r).head? = some 46 ↔ r.head? = some 46 := by
  unfold dots
  split
  · next h => cases t with
    | zero => simp
    | succ t => simp [List.replicate_succ, h]
  · exact Iff.rfl
theorem dots_pos {t : Nat} {r : List Nat} (h : r.head? = some 46) : dots t r = List.replicate t 46 ++ r := if_pos h
theorem dots_neg {t : Nat} {r : List Nat} (h : ¬ r.head? = some 46) : dots t r = r := if_neg h
theorem dots_dots (a b : Nat) (r : List Nat) : dots a (dots b r) = dots (a + b) r := by
  by_cases h : r.head? = some 46
  · rw [dots_pos (dots_head.mpr h), dots_pos h, dots_pos h, ← List.append_assoc, List.replicate_append_replicate]
  · rw [dots_neg (fun q => h (dots_head.mp q)), dots_neg h, dots_neg h]

theorem eol_no {c : Nat} (h : c ≠ 10 ∧ c ≠ 13) : isEol c = false := by unfold isEol; simp [h.1, h.2]
theorem norm_cons {c : Nat} (h : c ≠ 10 ∧ c ≠ 13) (Y : List Nat) : norm (c :: Y) = c :: norm Y := by
  cases Y with
  | nil => simp [norm, eol_no h]
  | cons e r =>
    simp only [norm]
    rw [if_neg (fun q => h.2 q.1), eol_no h]
    simp
theorem norm_row : ∀ {r : List Nat} (X : List Nat), Row r → norm (r ++ X) = r ++ norm X
  | [], X, _ => rfl
  | c :: r, X, h => by
    rw [List.cons_append, norm_cons (h c (.head _)), norm_row X (fun x hx => h x (.tail _ hx))]; rfl
theorem norm_crlf (Y : List Nat) : norm (13 :: 10 :: Y) = 13 :: 10 :: norm Y := by simp [norm]
theorem norm_lf (Y : List Nat) : norm (10 :: Y) = 13 :: 10 :: norm Y := by
  cases Y with
  | nil => simp [norm, isEol]
  | cons e r => simp [norm, isEol]
theorem norm_cr {Y : List Nat} (h : Y.head? ≠ some 10) : norm (13 :: Y) = 13 :: 10 :: norm Y := by
  cases Y with
  | nil => simp [norm, isEol]
  | cons e r =>
    have : e ≠ 10 := fun q => h (by rw [q]; rfl)
    simp [norm, isEol, this]
theorem norm_flat : ∀ {R : List (List Nat)} (X : List Nat), Rows R → norm (flat R ++ X) = flat R ++ norm X
  | [], X, _ => rfl
  | r :: R, X, h => by
    rw [flat_cons, List.append_assoc, norm_row _ (h r (.head _))]
    simp only [List.cons_append]
    rw [norm_crlf, norm_flat X fun x hx => h x (.tail _ hx)]
    simp
def Feed (f : List Nat) : Prop := f = [10] ∨ f = [13] ∨ f = [13, 10]
theorem norm_feed {f X : List Nat} (hf : Feed f) (hX : X.head? ≠ some 10) : norm (f ++ X) = 13 :: 10 :: norm X := by
  rcases hf with rfl | rfl | rfl
  · exact norm_lf X
  · exact norm_cr hX
  · exact norm_crlf X

theorem dotted_plain : ∀ {r : List Nat} (Y : List Nat), Row r → dotted false (r ++ 13 :: 10 :: Y) = r ++ 13 :: 10 :: dotted true Y
  | [], Y, _ => by simp [dotted]
  | c :: r, Y, h => by
    have hc := (h c (.head _)).1
    rw [List.cons_append]
    simp only [dotted]
    rw [if_neg (by simp)]
    have : (c == 10) = false := by simp [hc]
    rw [this, dotted_plain Y fun x hx => h x (.tail _ hx)]
    rfl
theorem dotted_row {r : List Nat} (Y : List Nat) (h : Row r) : dotted true (r ++ 13 :: 10 :: Y) = dots 1 r ++ 13 :: 10 :: dotted true Y := by
  cases r with
  | nil => simp [dotted, dots]
  | cons c r =>
    have hc := (h c (.head _)).1
    have hr : Row r := fun x hx => h x (.tail _ hx)
    rw [List.cons_append]
    simp only [dotted]
    by_cases e : c = 46
    · subst e
      rw [if_pos (by simp), dotted_plain Y hr]
      simp [dots]
    · rw [if_neg (fun q => e q.2)]
      have : (c == 10) = false := by simp [hc]
      rw [this, dotted_plain Y hr]
      simp [dots, e]
theorem dotted_flat : ∀ {R : List (List Nat)}, Rows R → dotted true (flat R) = flat (R.map (dots 1))
  | [], _ => rfl
  | r :: R, h => by
    rw [flat_cons, dotted_row _ (h r (.head _)), dotted_flat fun x hx => h x (.tail _ hx), List.map_cons, flat_cons]
theorem norm_rows {R : List (List Nat)} (h : Rows R) : norm (flat R) = flat R := by
  have := norm_flat [] h
  simpa [norm] using this

theorem dq_repl : ∀ l : List Nat, dq l = repl 34 [34, 34] l
  | [] => rfl
  | c :: r => by
    simp only [dq]
    have ih := dq_repl r
    unfold repl at ih ⊢
    rw [List.flatMap_cons, ih]
    split <;> rfl
theorem dq_row {r : List Nat} (h : Row r) : Row (dq r) := by
  intro c hc
  rw [dq_repl] at hc
  unfold repl at hc
  obtain ⟨x, hx, hc⟩ := List.mem_flatMap.mp hc
  split at hc
  · simp at hc; omega
  · simp at hc; subst hc; exact h c hx
theorem dq_flat : ∀ R : List (List Nat), dq (flat R) = flat (R.map dq)
  | [] => rfl
  | r :: R => by
    rw [flat_cons, dq_app, List.map_cons, flat_cons, ← dq_flat R]
    simp [dq]
theorem dots_row {t : Nat} {r : List Nat} (h : Row r) : Row (dots t r) := by
  unfold dots
  split
  · intro c hc
    rcases List.mem_append.mp hc with hc | hc
    · have := List.eq_of_mem_replicate hc; omega
    · exact h c hc
  · exact h
theorem Rows.dots {t : Nat} {R : List (List Nat)} (h : Rows R) : Rows (R.map (dots t)) := by
  intro r hr
  obtain ⟨x, hx, rfl⟩ := List.mem_map.mp hr
  exact dots_row (h x hx)

/-! ### tables and what hangs under them -/
structure NdOk (n : Nd) : Prop where
  name : ∃ k c, n.name = List.replicate k 46 ++ [c] ∧ k ≤ 2 ∧ (c = 97 ∨ c = 65 ∨ c = 34 ∨ c = 46)
  text : ∃ k c, n.text = List.replicate k 34 ++ [c] ∧ k ≤ 2 ∧ isCtl c = false
  q : 0 ≤ n.q ∧ n.q ≤ 10000
  times : n.times = 1 ∨ n.times = 2
  mark : n.mark = 124 ∨ n.mark = 46 ∨ n.mark = 58
  feed : Feed n.feed

inductive Fo where
  | nil
  | cons (m : Nd) (k s : Fo)
def pre : Fo → List Nd
  | .nil => []
  | .cons m k s => m :: (pre k ++ pre s)
def cnt : Fo → Nat
  | .nil => 0
  | .cons _ _ s => 1 + cnt s
def Dep : Int → Fo → Prop
  | _, .nil => True
  | dd, .cons m k s => m.d = dd ∧ Dep (dd + 1) k ∧ Dep dd s
def AllOk : Fo → Prop
  | .nil => True
  | .cons m k s => NdOk m ∧ AllOk k ∧ AllOk s

def headRows (m : Nd) (b : Nat) : List (List Nat) := [[110] ++ 58 :: 32 :: replyL m b, m.name ++ 58 :: 32 :: m.text, []]
def qrows : List (List Nat) → List (List Nat)
  | [] => []
  | r :: R => ([50, 53, 55, 32, 34] ++ dq r) :: (R.map dq ++ [[34]])
def kidRows : Fo → List (List Nat)
  | .nil => []
  | .cons m k s => qrows ((headRows m (cnt k) ++ kidRows k).map (dots m.times.toNat)) ++ kidRows s
def rawRows (m : Nd) (k : Fo) : List (List Nat) := headRows m (cnt k) ++ kidRows k
def pageRows (m : Nd) (k : Fo) : List (List Nat) := (rawRows m k).map (dots m.times.toNat)
def kidText : Fo → List Nat
  | .nil => []
  | .cons m k s => [50, 53, 55, 32, 34] ++ dq (flat (pageRows m k)) ++ [34] ++ m.feed ++ kidText s
def rawText (m : Nd) (k : Fo) : List Nat := flat (headRows m (cnt k)) ++ kidText k

theorem NdOk.nameRow {n : Nd} (h : NdOk n) : (∀ c ∈ n.name, isCtl c = false ∧ c ≠ 58) ∧ n.name.length ≤ 3 := by
  obtain ⟨k, c, e, hk, hc⟩ := h.name
  rw [e]
  refine ⟨fun x hx => ?_, by simp; omega⟩
  rcases List.mem_append.mp hx with hx | hx
  · have := List.eq_of_mem_replicate hx; subst this; decide
  · simp at hx; subst hx; rcases hc with rfl | rfl | rfl | rfl <;> decide
theorem NdOk.textRow {n : Nd} (h : NdOk n) : (∀ c ∈ n.text, isCtl c = false) ∧ n.text.length ≤ 3 := by
  obtain ⟨k, c, e, hk, hc⟩ := h.text
  rw [e]
  refine ⟨fun x hx => ?_, by simp; omega⟩
  rcases List.mem_append.mp hx with hx | hx
  · have := List.eq_of_mem_replicate hx; subst this; decide
  · simp at hx; subst hx; exact hc
theorem NdOk.port {n : Nd} (h : NdOk n) {b : Nat} (hb : b ≤ 1000) : 0 ≤ portL n b ∧ portL n b < 10000000 := by
  have := h.q; unfold portL; rcases h.times with e | e <;> rw [e] <;> constructor <;> omega
theorem NdOk.reply {n : Nd} (h : NdOk n) {b : Nat} (hb : b ≤ 1000) : (∀ c ∈ replyL n b, isCtl c = false ∧ c ≠ 34) ∧ (replyL n b).length ≤ 20 := by
  obtain ⟨h0, h1⟩ := h.port hb
  have hl := dec_len h0 h1
  refine ⟨fun c hc => ?_, by unfold replyL; simp; omega⟩
  have hm : isCtl n.mark = false ∧ n.mark ≠ 34 := by rcases h.mark with e | e | e <;> rw [e] <;> decide
  unfold replyL at hc
  rcases List.mem_append.mp hc with hc | hc
  · rcases List.mem_append.mp hc with hc | hc
    · rcases List.mem_append.mp hc with hc | hc
      · rcases List.mem_append.mp hc with hc | hc
        · simp at hc; rcases hc with rfl | rfl | rfl | rfl <;> decide
        · simp at hc; subst hc; exact hm
      · have := dec_digits h0 c hc
        unfold isCtl
        have a : decide (c ≤ 31) = false := decide_eq_false (by omega)
        have b : (c == 127) = false := by simp; omega
        rw [a, b]; exact ⟨rfl, by omega⟩
    · simp at hc; subst hc; exact hm
  · simp at hc; subst hc; decide

theorem ctl_row {l : List Nat} (h : ∀ c ∈ l, isCtl c = false) : Row l := by
  intro c hc
  have := h c hc
  unfold isCtl at this
  simp at this
  omega
theorem row_cat {a b : List Nat} (ha : Row a) (hb : Row b) : Row (a ++ b) := fun c hc => (List.mem_append.mp hc).elim (ha c) (hb c)
theorem headRows_ok {n : Nd} (h : NdOk n) {b : Nat} (hb : b ≤ 1000) : Rows (headRows n b) := by
  have c2 : Row [58, 32] := by intro c hc; simp at hc; omega
  intro r hr
  simp only [headRows, List.mem_cons, List.not_mem_nil, or_false] at hr
  rcases hr with rfl | rfl | rfl
  · exact row_cat (by intro c hc; simp at hc; omega) (row_cat c2 (ctl_row fun c hc => ((h.reply hb).1 c hc).1))
  · exact row_cat (ctl_row fun c hc => (h.nameRow.1 c hc).1) (row_cat c2 (ctl_row h.textRow.1))
  · intro c hc; cases hc
theorem qrows_ok {R : List (List Nat)} (h : Rows R) : Rows (qrows R) := by
  cases R with
  | nil => intro r hr; cases hr
  | cons r R =>
    intro x hx
    simp only [qrows, List.mem_cons, List.mem_append, List.not_mem_nil, or_false] at hx
    rcases hx with rfl | hx | rfl
    · exact row_cat (by intro c hc; simp at hc; omega) (dq_row (h r (.head _)))
    · obtain ⟨y, hy, rfl⟩ := List.mem_map.mp hx
      exact dq_row (h y (.tail _ hy))
    · intro c hc; simp at hc; omega
theorem cnt_le : ∀ F : Fo, cnt F ≤ (pre F).length
  | .nil => Nat.le_refl _
  | .cons m k s => by have := cnt_le s; simp [cnt, pre]; omega
theorem kidRows_ok : ∀ {F : Fo}, AllOk F → (pre F).length ≤ 1000 → Rows (kidRows F)
  | .nil, _, _ => fun r hr => by cases hr
  | .cons m k s, ⟨h1, h2, h3⟩, hl => by
    simp [pre] at hl
    exact (qrows_ok ((headRows_ok h1 (by have := cnt_le k; omega)).app (kidRows_ok h2 (by omega))).dots).app (kidRows_ok h3 (by omega))
theorem rawRows_ok {m : Nd} {k : Fo} (h1 : NdOk m) (h2 : AllOk k) (hl : (pre k).length ≤ 1000) : Rows (rawRows m k) := (headRows_ok h1 (by have := cnt_le k; omega)).app (kidRows_ok h2 hl)

theorem flat_qrows {R : List (List Nat)} (h : R ≠ []) : flat (qrows R) = [50, 53, 55, 32, 34] ++ dq (flat R) ++ [34, 13, 10] := by
  cases R with
  | nil => exact absurd rfl h
  | cons r R =>
    rw [flat_cons, dq_app]
    simp only [qrows]
    rw [flat_cons, flat_app, ← dq_flat]
    simp [dq, flat]
theorem pageRows_ne (m : Nd) (k : Fo) : pageRows m k ≠ [] := by simp [pageRows, rawRows, headRows]
theorem kidRows_cons (m : Nd) (k s : Fo) : flat (kidRows (.cons m k s)) = [50, 53, 55, 32, 34] ++ dq (flat (pageRows m k)) ++ [34, 13, 10] ++ flat (kidRows s) := by
  show flat (qrows (pageRows m k) ++ kidRows s) = _
  rw [flat_app, flat_qrows (pageRows_ne m k)]
theorem kidText_head : ∀ F : Fo, (kidText F).head? ≠ some 10
  | .nil => by simp [kidText]
  | .cons m k s => by simp [kidText]
theorem norm_kid : ∀ {F : Fo}, AllOk F → (pre F).length ≤ 1000 → norm (kidText F) = flat (kidRows F)
  | .nil, _, _ => rfl
  | .cons m k s, ⟨h1, h2, h3⟩, hl => by
    simp [pre] at hl
    have hp : Rows (pageRows m k) := (rawRows_ok h1 h2 (by omega)).dots
    have hd : Rows ((pageRows m k).map dq) := by
      intro r hr
      obtain ⟨x, hx, rfl⟩ := List.mem_map.mp hr
      exact dq_row (hp x hx)
    rw [kidRows_cons, ← norm_kid h3 (by omega), dq_flat]
    simp only [kidText]
    rw [dq_flat, List.append_assoc, List.append_assoc, List.append_assoc, norm_row _ (by intro c hc; simp at hc; omega), norm_flat _ hd, norm_row _ (by intro c hc; simp at hc; omega), norm_feed h1.feed (kidText_head s)]
    simp
theorem norm_raw {m : Nd} {k : Fo} (h1 : NdOk m) (h2 : AllOk k) (hl : (pre k).length ≤ 1000) : norm (rawText m k) = flat (rawRows m k) := by
  unfold rawText rawRows
  rw [norm_flat _ (headRows_ok h1 (by have := cnt_le k; omega)), norm_kid h2 hl, flat_app]

/-- the page, sent j times -/
def sent (j : Nat) (m : Nd) (k : Fo) : List Nat := if j = 0 then rawText m k else flat ((rawRows m k).map (dots j))
theorem sent_step {m : Nd} {k : Fo} (h1 : NdOk m) (h2 : AllOk k) (hl : (pre k).length ≤ 1000) (j : Nat) : dotted true (norm (sent j m k)) = sent (j + 1) m k := by
  have hr := rawRows_ok h1 h2 hl
  unfold sent
  rw [if_neg (Nat.succ_ne_zero j)]
  by_cases e : j = 0
  · subst e
    rw [if_pos rfl, norm_raw h1 h2 hl, dotted_flat hr]
  · rw [if_neg e, norm_rows hr.dots, dotted_flat hr.dots, List.map_map]
    congr 1
    refine List.map_congr_left fun r _ => ?_
    show dots 1 (dots j r) = _
    rw [dots_dots, Nat.add_comm]

/-! lengths -/
theorem dots_len (a b : Nat) (h : a ≤ b) (r : List Nat) : (dots a r).length ≤ (dots b r).length := by
  unfold dots
  split
  · simp; exact h
  · exact Nat.le_refl _
theorem flat_map_len (f g : List Nat → List Nat) (h : ∀ r, (f r).length ≤ (g r).length) : ∀ R : List (List Nat), (flat (R.map f)).length ≤ (flat (R.map g)).length
  | [] => Nat.le_refl _
  | r :: R => by
    have := flat_map_len f g h R
    have := h r
    simp only [List.map_cons, flat_cons, List.length_append, List.length_cons]
    omega
theorem kidText_len : ∀ {F : Fo}, AllOk F → (kidText F).length ≤ (flat (kidRows F)).length
  | .nil, _ => Nat.le_refl _
  | .cons m k s, ⟨h1, h2, h3⟩ => by
    have := kidText_len h3
    have hf : m.feed.length ≤ 2 := by rcases h1.feed with e | e | e <;> rw [e] <;> decide
    rw [kidRows_cons]
    simp only [kidText, List.length_append, List.length_cons, List.length_nil]
    omega
theorem sent_len {m : Nd} {k : Fo} (h1 : NdOk m) (h2 : AllOk k) {j : Nat} (hj : j ≤ m.times.toNat) : (sent j m k).length ≤ (flat (pageRows m k)).length := by
  unfold sent pageRows
  split
  · refine Nat.le_trans (m := (flat (rawRows m k)).length) ?_ ?_
    · unfold rawText rawRows
      rw [flat_app, List.length_append, List.length_append]
      have := kidText_len h2
      omega
    · have := flat_map_len id (dots m.times.toNat) (fun r => by have := dots_len 0 m.times.toNat (Nat.zero_le _) r; rw [dots_zero] at this; exact this) (rawRows m k)
      simpa using this
  · exact flat_map_len _ _ (dots_len j _ hj) _

theorem la {a b : List Nat} {m n : Nat} (ha : a.length ≤ m) (hb : b.length ≤ n) : (a ++ b).length ≤ m + n := by rw [List.length_append]; exact Nat.add_le_add ha hb
theorem sz2 {a b : List Nat} {m n : Nat} (ha : a.length ≤ m) (hb : b.length ≤ n) (h : m + n ≤ 20000 := by decide) : (S a).length + (S b).length ≤ sizeLine := by
  rw [S_len, S_len]
  exact Nat.le_trans (Nat.add_le_add ha hb) (Nat.le_trans h (by decide))
theorem hund {n : Nat} (h : n ≤ 10) : n ≤ 100 := Nat.le_trans h (by decide)
theorem NdOk.qB {n : Nd} (h : NdOk n) : 0 ≤ n.q ∧ n.q ≤ 100000 := by have := h.q; omega
theorem NdOk.tB {n : Nd} (h : NdOk n) : 1 ≤ n.times ∧ n.times ≤ 10 := by rcases h.times with e | e <;> rw [e] <;> decide
theorem NdOk.tB2 {n : Nd} (h : NdOk n) : 0 ≤ n.times ∧ n.times ≤ 2 := by rcases h.times with e | e <;> rw [e] <;> decide
theorem bB {bn : Nat} (h : bn ≤ 100) : 0 ≤ (bn : Int) ∧ (bn : Int) ≤ 100 := by omega
theorem feed_len {f : List Nat} (h : Feed f) : f.length ≤ 2 := by rcases h with e | e | e <;> rw [e] <;> decide
theorem headPl {m : Nd} (hm : NdOk m) {b : Nat} (hb : b ≤ 1000) : plainPrs [([110], replyL m b), (m.name, m.text)] := by
  have hrep := hm.reply hb
  intro p hp
  simp only [List.mem_cons, List.not_mem_nil, or_false] at hp
  rcases hp with rfl | rfl
  · exact ⟨⟨show 1 ≤ 20000 by decide, by intro c hc; simp at hc; subst hc; decide⟩, Nat.le_trans hrep.2 (by decide), fun c hc => (hrep.1 c hc).1⟩
  · exact ⟨⟨Nat.le_trans hm.nameRow.2 (by decide), fun c hc => (hm.nameRow.1 c hc).1⟩, Nat.le_trans hm.textRow.2 (by decide), hm.textRow.1⟩
theorem headPl1 {m : Nd} (hm : NdOk m) {b : Nat} (hb : b ≤ 1000) : plainPrs [([110], replyL m b)] := fun p hp => headPl hm hb p (by
  simp only [List.mem_cons, List.not_mem_nil, or_false] at hp
  subst hp
  exact .head _)
theorem raw_len {m : Nd} {K : Fo} (hm : NdOk m) (hK : AllOk K) (hlen : (flat (pageRows m K)).length ≤ 5000) : (rawText m K).length ≤ 5000 := by
  have := sent_len hm hK (j := 0) (Nat.zero_le _)
  unfold sent at this
  rw [if_pos rfl] at this
  exact Nat.le_trans this hlen
theorem raw_eq (m : Nd) (K : Fo) : (rawText m K).length = (flat (headRows m (cnt K))).length + (kidText K).length := by unfold rawText; exact List.length_append
theorem head_le {m : Nd} {K : Fo} (h : (rawText m K).length ≤ 5000) : (flat (headRows m (cnt K))).length ≤ 5000 := by rw [raw_eq] at h; exact Nat.le_trans (Nat.le_add_right _ _) h
theorem kidsz {m : Nd} {K : Fo} (hrt : (rawText m K).length ≤ 5000) {done : List Nat} {mm : Nd} {kk ss : Fo} (e : done ++ kidText (.cons mm kk ss) = kidText K) :
    (flat (pageRows mm kk)).length ≤ 5000 ∧ (dq (flat (pageRows mm kk))).length ≤ 5000 ∧ (flat (headRows m (cnt K)) ++ done).length ≤ 5000 ∧ (([50, 53, 55, 32, 34] ++ dq (flat (pageRows mm kk)) ++ [34]) ++ mm.feed).length ≤ 5000 := by
  have e1 := congrArg List.length e
  have e2 := dq_len (flat (pageRows mm kk))
  rw [raw_eq] at hrt
  simp only [kidText, List.length_append, List.length_cons, List.length_nil] at e1 ⊢
  refine ⟨?_, ?_, ?_, ?_⟩ <;> omega
theorem pre_len (mm : Nd) (kk ss : Fo) : (pre (.cons mm kk ss)).length = 1 + (pre kk).length + (pre ss).length := by simp [pre]; omega
theorem pre_k {mm : Nd} {kk ss : Fo} {n : Nat} (h : (pre (.cons mm kk ss)).length ≤ n) : (pre kk).length + 1 ≤ n := by rw [pre_len] at h; omega
theorem pre_s {mm : Nd} {kk ss : Fo} {n : Nat} (h : (pre (.cons mm kk ss)).length ≤ n) : (pre ss).length ≤ n := by rw [pre_len] at h; omega
theorem depEq (d : Nat) {a b : Nat} (h : b + 1 ≤ a) : d + a + 5 = d + (a - 1 - b) + 6 + b := by omega
theorem cutLe {j a k b : Nat} (h : j + a = k + b) (h2 : k ≤ j) : a ≤ b := by omega
end Mine

-- W11
namespace Mine
open PySem PySem.W PySem.Calls PyProof.Rows

variable {cx : Cx} {d : Nat} {env : Env} {ρ : Vars} {st : Store} {pos : Pos} {P : Params}

def Stops (dd : Int) (l : List Nd) : Prop := ∀ n ∈ l.head?, n.d ≤ dd
theorem below_stop {dk : Int} : ∀ {l : List Nd}, Stops dk l → belowL dk l = 0
  | [], _ => rfl
  | n :: r, h => by simp only [belowL]; rw [if_pos (h n rfl)]
theorem below_fo {dk : Int} : ∀ {F : Fo} {e : Int} (rest : List Nd), Dep e F → dk < e → belowL dk (pre F ++ rest) = (if e = dk + 1 then (cnt F : Int) else 0) + belowL dk rest
  | .nil, e, rest, _, _ => by simp [pre, cnt]
  | .cons m k s, e, rest, ⟨h1, h2, h3⟩, h => by
    have a := below_fo (dk := dk) (pre s ++ rest) h2 (by omega)
    have b := below_fo (dk := dk) rest h3 h
    rw [if_neg (by omega)] at a
    simp only [pre, List.cons_append, List.append_assoc, belowL]
    rw [if_neg (by omega), a, b, h1]
    split <;> simp [cnt] <;> omega
theorem below_kids {m : Nd} {K : Fo} {rest : List Nd} (h : Dep (m.d + 1) K) (hs : Stops m.d rest) : belowL m.d (pre K ++ rest) = (cnt K : Int) := by
  rw [below_fo rest h (by omega), if_pos rfl, below_stop hs]; omega

def PageSpec (cx : Cx) (K : Fo) : Prop := ∀ {ns : List Nd} {k : Nat} {m : Nd} {rest : List Nd} {d : Nat} {st : Store} {Post : V → Store → Prop}, NdOk m → AllOk K → Dep (m.d + 1) K → ns.length ≤ 100 → ns.drop k = m :: (pre K ++ rest) → Stops m.d rest →
  (flat (pageRows m K)).length ≤ 5000 → Post (.d (.tuple [.str (S (flat (pageRows m K))), .int ((k + 1 + (pre K).length : Nat) : Int)])) st →
  tcall cx (d + 6 + (pre K).length) (.ext (.ref 269)) [.d (.list (nds ns)), .d (.int k)] [] st Post
def AllK (Pr : Fo → Prop) : Fo → Prop
  | .nil => True
  | .cons m k s => Pr k ∧ AllK Pr s

theorem drop_get {α : Type} {ns : List α} {k : Nat} {m : α} {r : List α} (h : ns.drop k = m :: r) : ns[k]? = some m ∧ ns.drop (k + 1) = r := by
  have h1 : ns[k]? = (ns.drop k)[0]? := by rw [List.getElem?_drop]; rfl
  refine ⟨by rw [h1, h]; rfl, ?_⟩
  have : ns.drop (k + 1) = (ns.drop k).drop 1 := by rw [List.drop_drop]
  rw [this, h]; rfl
theorem tsub_nd {ns : List Nd} {j : Nat} {n : Nd} {value slice : Expr} {Q : V → Store → Prop} (hl : ns.length ≤ 100) (hj : ns[j]? = some n) (hq : Q (.d n.pd) st) : tsub cx d value slice (.d (.list (nds ns))) (.d (.int j)) st Q := by
  have hjl : j < ns.length := (List.getElem?_eq_some_iff.mp hj).1
  have hlen : (nds ns).length = ns.length := by simp [nds]
  exact tsub_list (by omega) (by omega) (by rw [hlen]; exact idx_ok hjl) (nds_get hj) hq
/-- nodes[x][i] -/
theorem te_nd {ns : List Nd} {j : Nat} {n : Nd} {x y : PySem.Str} {p1 p2 p3 p4 : Pos} {i : Nat} {kk : Nat} {v : PyData} {Q : V → Store → Prop} (hx : ρ.lookup x = some (.d (.list (nds ns)))) (hy : ρ.lookup y = some (.d (.int j))) (hl : ns.length ≤ 100) (hj : ns[j]? = some n)
    (hi : ([.int n.d, .str (S n.name), .str (S n.text), .int n.q, .int n.times, .str (S [n.mark]), .str (S n.feed)] : List PyData)[i]? = some v) (hq : Q (.d v) st)
    (d1 : (x == ("__debug__" : PySem.Str)) = false := by rfl) (d2 : (x == ("__classdict__" : PySem.Str)) = false := by rfl) (d3 : (y == ("__debug__" : PySem.Str)) = false := by rfl) (d4 : (y == ("__classdict__" : PySem.Str)) = false := by rfl) :
    te cx d env ρ st (.Subscript (.Subscript (.Name x p1) (.Name y p2) p3) (.Constant (.int (i : Int)) kk p4) pos) Q := by
  have hil : i < 7 := (List.getElem?_eq_some_iff.mp hi).1
  refine te_sub (te_sub (te_name hx (te_name hy (tsub_nd hl hj (te_int (tsub_tuple (by omega) (by omega) (j := i) (idx_ok hil) hi hq))) d3 d4) d1 d2))
theorem stops_pre {F : Fo} {rest : List Nd} {dd : Int} (h : Dep dd F) (hs : Stops dd rest) : Stops dd (pre F ++ rest) := by
  cases F with
  | nil => exact hs
  | cons m k s =>
    intro n hn
    simp [pre] at hn
    rw [← hn, h.1]
    exact Int.le_refl _
theorem drop_split {α : Type} {ns : List α} {j : Nat} {a b : List α} (h : ns.drop j = a ++ b) : ns.drop (j + a.length) = b := by
  rw [← List.drop_drop, h, List.drop_left]

theorem tcall_at {d' : Nat} {f : V} {xs : List V} {kw : List (PySem.Str × V)} {Q : V → Store → Prop} (e : d = d') (h : tcall cx d' f xs kw st Q) : tcall cx d f xs kw st Q := e ▸ h
theorem ts_mono {x : Stmt} {Post Post' : Fl → Vars → Store → Prop} (h : ts cx d env ρ st x Post') (hp : ∀ fl ρ' st', Post' fl ρ' st' → Post fl ρ' st') : ts cx d env ρ st x Post := by
  intro A hx al s Q E R a k
  exact h A hx al s Q E R a fun fl ρ' st' f al' h' tk' n r p => k fl ρ' st' f al' h' tk' n r (hp _ _ _ p)

set_option maxHeartbeats 4000000 in
/-- the one walk of a page, its kids' pages given -/
theorem page_step (hK : cx.K = hd.heap_39 P) (hC : cx.hC = 239) {K : Fo} (ih : AllK (PageSpec cx) K) : PageSpec cx K := by
  intro ns k m rest d st Post hm hKok hdep hn hdrop hst hlen h
  obtain ⟨hk, hdrop1⟩ := drop_get hdrop
  have hkl : k < ns.length := (List.getElem?_eq_some_iff.mp hk).1
  have hlen0 : (nds ns).length = ns.length := by simp [nds]
  have hsz : (pre K).length ≤ 100 := by
    have := congrArg List.length hdrop
    simp at this
    omega
  have hcnt := cnt_le K
  have hb : belowL m.d (ns.drop (k + 1)) = (cnt K : Int) := by rw [hdrop1]; exact below_kids hdep hst
  have hc1 : cnt K ≤ 1000 := Nat.le_trans hcnt (Nat.le_trans hsz (by decide))
  have hc2 : cnt K ≤ 100 := Nat.le_trans hcnt hsz
  have hle : (20002 : Nat) ≤ sizeLine := by decide
  have hrt := raw_len hm hKok hlen
  have hnL : ("n" : PySem.Str) = S [110] := by decide +kernel
  have pl := headPl hm hc1
  have hhd : headL [([110], replyL m (cnt K)), (m.name, m.text)] = flat (headRows m (cnt K)) := by simp [headL, flat, headRows]
  have hhz := head_le hrt
  clear hcnt hle
  rw [show d + 6 + (pre K).length = (d + 5 + (pre K).length) + 1 by omega]
  refine tcall_def (cx := cx) (f := 269) (names := ["nodes", "k"]) (ex := []) (exV := []) (ho := by rw [hK]; rfl) (hcd := by rw [hK]; rfl) (hbind := binds2 fun v w => rfl) (hex := fun _ _ => .nil) (hco := rfl) (hgen := rfl) (hk := rfl) (hnames := by decide +kernel) (hnn := by decide +kernel) (hnd := by decide +kernel) fun L => ?_
  rw [show d + 5 + (pre K).length = (d + (pre K).length) + 5 by omega]
  refine tb_cons (ts_assign (te_call (by rfl) (te_builtin (v := .type "str") (by rw [hK]; kernel_rfl) (by kernel_rfl) ⟨_, rfl, rfl, ?_⟩)))
  refine te_call (by rfl) (te_glob (v := .ref 239) (by rw [hK]; kernel_rfl) ⟨_, rfl, calm239 hK, ?_⟩)
  refine te_list (by rfl) (te_tuple (by rfl) (te_str ?_))
  refine te_call (by rfl) (te_glob (v := .ref 262) (by rw [hK]; kernel_rfl) ⟨_, rfl, by rw [hK]; kernel_rfl, te_name rfl (te_name rfl ?_)⟩)
  refine f_reply (d := d + (pre K).length + 3) hK hn hk hm.qB hm.tB (by rw [hb]; exact bB hc2) ?_
  rw [hb]
  refine ⟨_, rfl, by show 2 ≤ sizeLine; decide, ?_⟩
  refine te_tuple (by rfl) (te_nd (i := 1) rfl rfl hn hk rfl (te_nd (i := 2) rfl rfl hn hk rfl ⟨_, rfl, by show 2 ≤ sizeLine; decide, ?_⟩))
  refine ⟨_, rfl, by show 2 ≤ sizeLine; decide, ?_⟩
  have eprs : PyData.list [.tuple [.str ("n" : PySem.Str), .str (S (replyL m (cnt K)))], .tuple [.str (S m.name), .str (S m.text)]] = .list (prs [([110], replyL m (cnt K)), (m.name, m.text)]) := by
    rw [hnL]; rfl
  refine (?_ : tcall cx (d + (pre K).length + 5) (.ext (.ref 239)) [.d (PyData.list [.tuple [.str ("n" : PySem.Str), .str (S (replyL m (cnt K)))], .tuple [.str (S m.name), .str (S m.text)]])] [] st _)
  rw [eprs, ← hC]
  refine f_headers hK hC pl ?_
  refine f_strH (d := d + (pre K).length + 3) hK hC (by simp) (by rw [hhd]; exact Nat.le_trans hhz (by decide)) pl ?_
  rw [hhd]
  refine tb_cons (ts_assign (te_bin (te_name rfl (te_int (tbin_add ?_)))))
  clear hb hc1 hc2 hhz pl
  have hsq : ("257 \"" : PySem.Str) = S [50, 53, 55, 32, 34] := by decide +kernel
  have hq1 : ("\"" : PySem.Str) = S [34] := by decide +kernel
  have hq2 : ("\"\"" : PySem.Str) = S [34, 34] := by decide +kernel
  refine tb_cons (ts_mono (Post' := fun fl ρ st' => fl = .next ∧ ρ.lookup ("nodes" : PySem.Str) = some (.d (.list (nds ns))) ∧ ρ.lookup ("k" : PySem.Str) = some (.d (.int k)) ∧ ρ.lookup ("page" : PySem.Str) = some (.d (.str (S (sent 0 m K)))) ∧
      ρ.lookup ("j" : PySem.Str) = some (.d (.int ((k + 1 + (pre K).length : Nat) : Int))) ∧ st' = st) (ts_while (fun n ρ st' => ∃ done G j, n = (pre G).length ∧ done ++ kidText G = kidText K ∧ AllOk G ∧ Dep (m.d + 1) G ∧ AllK (PageSpec cx) G ∧ ns.drop j = pre G ++ rest ∧ j + (pre G).length = k + 1 + (pre K).length ∧ k + 1 ≤ j ∧
      ρ.lookup ("nodes" : PySem.Str) = some (.d (.list (nds ns))) ∧ ρ.lookup ("k" : PySem.Str) = some (.d (.int k)) ∧ ρ.lookup ("page" : PySem.Str) = some (.d (.str (S (flat (headRows m (cnt K)) ++ done)))) ∧ ρ.lookup ("j" : PySem.Str) = some (.d (.int (j : Nat))) ∧ st' = st) (pre K).length ?_ ?_) ?_)
  · exact ⟨[], K, k + 1, rfl, rfl, hKok, hdep, ih, hdrop1, rfl, Nat.le_refl _, rfl, rfl, by rw [List.append_nil (flat (headRows m (cnt K)))]; rfl, rfl, rfl⟩
  · rintro n ρ st' ⟨done, G, j, rfl, e1, g1, g2, g3, e2, e3, e4, l1, l2, l3, l4, rfl⟩
    refine tt_and (tt_cmp (te_name l4 (te_call (by rfl) (te_builtin (v := .builtin "len") (by rw [hK]; kernel_rfl) (by kernel_rfl) ⟨_, rfl, rfl, te_name l1 (tcall_lenL (by rw [hlen0]; omega) (tcmp_ltI (ttr_bool ⟨fun hh => ?_, fun hh => ?_⟩)))⟩))))
    · rw [hlen0] at hh
      have hjl : j < ns.length := by simpa using hh
      cases G with
      | nil =>
        obtain ⟨n1, hn1⟩ : ∃ n1, ns[j]? = some n1 := ⟨_, List.getElem?_eq_getElem hjl⟩
        have hle1 : n1.d ≤ m.d := by
          refine hst n1 ?_
          have : rest[0]? = some n1 := by rw [← hn1, show rest = ns.drop j from e2.symm, List.getElem?_drop]; rfl
          rw [List.head?_eq_getElem?]; exact this
        refine tt_and (tt_cmp (te_nd (i := 0) l1 l4 hn hn1 rfl (te_nd (i := 0) l1 l2 hn hk rfl (tcmp_gtI (ttr_bool ⟨fun hh => absurd hh (by simp; omega), fun _ => ⟨nofun, fun _ => ?_⟩⟩)))))
        have ed : done = kidText K := by simpa [kidText] using e1
        exact ⟨rfl, l1, l2, by rw [l3, ed]; rfl, by rw [l4, ← e3]; simp [pre], rfl⟩
      | cons mm kk ss =>
        obtain ⟨hj, hj1⟩ := drop_get (show ns.drop j = mm :: (pre kk ++ (pre ss ++ rest)) by rw [e2]; simp [pre])
        have hmd : mm.d = m.d + 1 := g2.1
        refine tt_and (tt_cmp (te_nd (i := 0) l1 l4 hn hj rfl (te_nd (i := 0) l1 l2 hn hk rfl (tcmp_gtI (ttr_bool ⟨fun _ => tt_and_nil ⟨fun _ => ?_, nofun⟩, fun hh => absurd hh (by simp; omega)⟩)))))
        obtain ⟨hz1, hz2, hz3, hz4⟩ := kidsz hrt e1
        have hgl : (pre kk).length + 1 ≤ (pre K).length := pre_k (cutLe e3 e4)
        have hj2 : ns.drop (j + 1 + (pre kk).length) = pre ss ++ rest := drop_split hj1
        refine tb_cons (ts_assignT (te_call (by rfl) (te_glob (v := .ref 269) (by rw [hK]; kernel_rfl) ⟨_, rfl, by rw [hK]; kernel_rfl, te_name l1 (te_name l4 ?_)⟩)))
        refine tcall_at (d' := (d + ((pre K).length - 1 - (pre kk).length)) + 6 + (pre kk).length) (depEq d hgl) (g3.1 (rest := pre ss ++ rest) g1.1 g1.2.1 (by rw [hmd]; exact g2.2.1) hn (by rw [e2]; simp [pre]) (stops_pre (by rw [hmd]; exact g2.2.2) (fun n hn' => Int.le_trans (hst n hn') (by omega))) hz1 ?_)
        refine tasg_tuple (names := ["inner", "behind"]) rfl rfl ?_
        have a1 : ∀ v w, (updAll ρ ((["inner", "behind"] : List PySem.Str).zip ([v, w].map .d))).lookup ("nodes" : PySem.Str) = some (.d (.list (nds ns))) := fun v w => by show (upd (upd ρ "inner" _) "behind" _).lookup _ = _; rw [upd_get, upd_get]; exact l1
        have a2 : ∀ v w, (updAll ρ ((["inner", "behind"] : List PySem.Str).zip ([v, w].map .d))).lookup ("k" : PySem.Str) = some (.d (.int k)) := fun v w => by show (upd (upd ρ "inner" _) "behind" _).lookup _ = _; rw [upd_get, upd_get]; exact l2
        have a3 : ∀ v w, (updAll ρ ((["inner", "behind"] : List PySem.Str).zip ([v, w].map .d))).lookup ("page" : PySem.Str) = some (.d (.str (S (flat (headRows m (cnt K)) ++ done)))) := fun v w => by show (upd (upd ρ "inner" _) "behind" _).lookup _ = _; rw [upd_get, upd_get]; exact l3
        have a4 : ∀ v w, (updAll ρ ((["inner", "behind"] : List PySem.Str).zip ([v, w].map .d))).lookup ("j" : PySem.Str) = some (.d (.int j)) := fun v w => by show (upd (upd ρ "inner" _) "behind" _).lookup _ = _; rw [upd_get, upd_get]; exact l4
        have a5 : ∀ v w, (updAll ρ ((["inner", "behind"] : List PySem.Str).zip ([v, w].map .d))).lookup ("inner" : PySem.Str) = some (.d v) := fun v w => by show (upd (upd ρ "inner" _) "behind" _).lookup _ = _; rw [upd_get, upd_get]; rfl
        have a6 : ∀ v w, (updAll ρ ((["inner", "behind"] : List PySem.Str).zip ([v, w].map .d))).lookup ("behind" : PySem.Str) = some (.d w) := fun v w => by show (upd (upd ρ "inner" _) "behind" _).lookup _ = _; rw [upd_get]; rfl
        refine tb_cons (ts_aug (a3 _ _) (te_bin (te_bin (te_bin (te_str (te_replace (te_name (a5 _ _) ⟨_, rfl, tef_const (tef_const ⟨by rw [S_len, hq2, S_len]; exact Nat.le_trans (Nat.add_le_add hz1 (Nat.mul_le_mul_right 2 (Nat.succ_le_succ hz1))) (by decide), ?_⟩)⟩)))))))
        rw [hq1, hq2, hsq, replace_list, ← dq_repl]
        refine tbin_cat (sz2 (m := 5) (by decide) hz2) ?_
        rw [S_app]
        refine te_str ?_
        refine tbin_cat (sz2 (la (m := 5) (by decide) hz2) (n := 1) (by decide)) ?_
        rw [S_app]
        refine te_nd (i := 6) (a1 _ _) (a4 _ _) hn hj rfl (tbin_cat (sz2 (la (la (m := 5) (by decide) hz2) (n := 1) (by decide)) (feed_len g1.1.feed)) ?_)
        rw [S_app]
        refine tinp_cat (sz2 hz3 hz4) ?_
        rw [S_app]
        refine tb_cons (ts_assign (te_name (v := .d (.int ((j + 1 + (pre kk).length : Nat) : Int))) (by rw [upd_get]; exact a6 _ _) ?_))
        refine tb_nil ⟨(pre ss).length, by simp [pre]; omega, done ++ ([50, 53, 55, 32, 34] ++ dq (flat (pageRows mm kk)) ++ [34] ++ mm.feed), ss, j + 1 + (pre kk).length, rfl, ?_, g1.2.2, g2.2.2, g3.2, hj2, ?_, Nat.le_trans e4 (Nat.le_trans (Nat.le_add_right j 1) (Nat.le_add_right _ _)), ?_, ?_, ?_, ?_, rfl⟩
        · rw [← e1]; simp [kidText]
        · rw [← e3]; simp [pre]; omega
        · rw [upd_get, upd_get]; exact a1 _ _
        · rw [upd_get, upd_get]; exact a2 _ _
        · rw [upd_get, upd_get, List.append_assoc]; rfl
        · rw [upd_get]; rfl
    · rw [hlen0] at hh
      have hjl : ¬ j < ns.length := by simpa using hh
      refine ⟨nofun, fun _ => ?_⟩
      have hnil : pre G ++ rest = [] := by rw [← e2, List.drop_eq_nil_iff]; omega
      cases G with
      | cons mm kk ss => simp [pre] at hnil
      | nil =>
        have ed : done = kidText K := by simpa [kidText] using e1
        exact ⟨rfl, l1, l2, by rw [l3, ed]; rfl, by rw [l4, ← e3]; simp [pre], rfl⟩
  · rintro _ ρ st0 ⟨rfl, l1, l2, l3, l4, rfl⟩
    have htm := hm.tB
    clear hrt hkl hlen0
    have hti : m.times = ((m.times.toNat : Nat) : Int) := by omega
    refine tb_cons (ts_forR (te_call (by rfl) (te_builtin (v := .type "range") (by rw [hK]; kernel_rfl) (by kernel_rfl) ⟨_, rfl, rfl, te_nd (i := 4) l1 l2 hn hk rfl (tcall_range1 ⟨_, _, rfl, by omega, by omega, by omega, by omega, ?_⟩)⟩)))
    refine ⟨fun restr ρ st' => ∃ i : Nat, restr = rngI i m.times ∧ i ≤ m.times.toNat ∧ ρ.lookup ("page" : PySem.Str) = some (.d (.str (S (sent i m K)))) ∧ ρ.lookup ("j" : PySem.Str) = some (.d (.int ((k + 1 + (pre K).length : Nat) : Int))) ∧ st' = st0, ?_, ?_, ?_⟩
    · exact ⟨0, rfl, Nat.zero_le _, l3, l4, rfl⟩
    · rintro x restr ρ st' ⟨i, e, hi, q1, q2, rfl⟩
      by_cases hil : (i : Int) < m.times
      · rw [rngI_cons hil] at e
        cases e
        refine tasg_name ?_
        refine tb_cons (ts_assign (te_call (by rfl) (te_glob (v := .ref 106) (by rw [hK]; kernel_rfl) ⟨_, rfl, by rw [hK]; kernel_rfl, te_name (v := .d (.str (S (sent i m K)))) (by rw [upd_get]; exact q1) ?_⟩)))
        refine f_quotedata (d := d + (pre K).length + 4) hK (Nat.le_trans (sent_len hm hKok (j := i) hi) (Nat.le_trans hlen (by decide))) ?_
        rw [sent_step hm hKok (by omega)]
        refine tb_nil ⟨i + 1, by push_cast; rfl, by omega, ?_, ?_, rfl⟩
        · rw [upd_get]; rfl
        · rw [upd_get, upd_get]; exact q2
      · rw [rngI_nil (by omega)] at e; cases e
    · rintro ρ st' ⟨i, e, hi, q1, q2, rfl⟩
      have hil : ¬ (i : Int) < m.times := fun hil => by rw [rngI_cons hil] at e; cases e
      have ei : i = m.times.toNat := by omega
      have es : sent i m K = flat (pageRows m K) := by unfold sent; rw [if_neg (by omega), ei]; rfl
      rw [es] at q1
      refine tb_cons (ts_ret (te_tuple (by rfl) (te_name q1 (te_name q2 ⟨_, rfl, by show 2 ≤ sizeLine; decide, _, rfl, ?_⟩))))
      rw [List.take_length]; exact h

theorem allK_page (hK : cx.K = hd.heap_39 P) (hC : cx.hC = 239) : ∀ K : Fo, AllK (PageSpec cx) K
  | .nil => trivial
  | .cons m k s => ⟨page_step hK hC (allK_page hK hC k), allK_page hK hC s⟩
/-- the page of a table -/
theorem f_page (hK : cx.K = hd.heap_39 P) (hC : cx.hC = 239) (K : Fo) : PageSpec cx K := page_step hK hC (allK_page hK hC K)
end Mine

-- P6
namespace Mine
open PySem PySem.StrLaws PySem.Builtin PySem.Builtin.Str

theorem NdOk.cases {n : Nd} (h : NdOk n) : ∃ low sw, Txt.swapcase (S n.name) = S sw ∧ sw.length ≤ 3 ∧ Txt.lower (S sw) = S low ∧ Txt.lower (S n.name) = S low ∧ low.length ≤ 3 ∧ (∀ c ∈ low, isCtl c = false) ∧ low ≠ [110] := by
  obtain ⟨k, c, e, hk, hc⟩ := h.name
  rw [e]
  have hk' : k = 0 ∨ k = 1 ∨ k = 2 := by omega
  rcases hc with rfl | rfl | rfl | rfl <;> rcases hk' with rfl | rfl | rfl
  · exact ⟨[97], [65], by decide +kernel, by decide, by decide +kernel, by decide +kernel, by decide, by decide, by decide⟩
  · exact ⟨[46, 97], [46, 65], by decide +kernel, by decide, by decide +kernel, by decide +kernel, by decide, by decide, by decide⟩
  · exact ⟨[46, 46, 97], [46, 46, 65], by decide +kernel, by decide, by decide +kernel, by decide +kernel, by decide, by decide, by decide⟩
  · exact ⟨[97], [97], by decide +kernel, by decide, by decide +kernel, by decide +kernel, by decide, by decide, by decide⟩
  · exact ⟨[46, 97], [46, 97], by decide +kernel, by decide, by decide +kernel, by decide +kernel, by decide, by decide, by decide⟩
  · exact ⟨[46, 46, 97], [46, 46, 97], by decide +kernel, by decide, by decide +kernel, by decide +kernel, by decide, by decide, by decide⟩
  · exact ⟨[34], [34], by decide +kernel, by decide, by decide +kernel, by decide +kernel, by decide, by decide, by decide⟩
  · exact ⟨[46, 34], [46, 34], by decide +kernel, by decide, by decide +kernel, by decide +kernel, by decide, by decide, by decide⟩
  · exact ⟨[46, 46, 34], [46, 46, 34], by decide +kernel, by decide, by decide +kernel, by decide +kernel, by decide, by decide, by decide⟩
  · exact ⟨[46], [46], by decide +kernel, by decide, by decide +kernel, by decide +kernel, by decide, by decide, by decide⟩
  · exact ⟨[46, 46], [46, 46], by decide +kernel, by decide, by decide +kernel, by decide +kernel, by decide, by decide, by decide⟩
  · exact ⟨[46, 46, 46], [46, 46, 46], by decide +kernel, by decide, by decide +kernel, by decide +kernel, by decide, by decide, by decide⟩
theorem lower_N : Txt.lower (S [78]) = S [110] := by decide +kernel
theorem lower_n : Txt.lower (S [110]) = S [110] := by decide +kernel

/-- dots taken off -/
def undot (t : Nat) (r : List Nat) : List Nat := if r.head? = some 46 then r.drop t else r
theorem undot_dots (t : Nat) (r : List Nat) : undot t (dots t r) = r := by
  by_cases h : r.head? = some 46
  · unfold undot
    rw [if_pos (dots_head.mpr h), dots_pos h]
    simp
  · unfold undot
    rw [if_neg (fun q => h (dots_head.mp q)), dots_neg h]
theorem undot_rows (t : Nat) (R : List (List Nat)) : ((R.map (dots t)) ++ [[]]).map (undot t) = R ++ [[]] := by
  rw [List.map_append, List.map_map]
  congr 1
  exact (List.map_congr_left (g := fun x => x) (fun r _ => undot_dots t r)).trans (List.map_id' R)
theorem dots_long {t : Nat} {r : List Nat} (h : (dots t r).head? = some 46) : t ≤ (dots t r).length := by
  rw [dots_pos (dots_head.mp h)]; simp

def quad (dep : Int) (m : Nd) : PyData := .tuple [.int dep, .str (S m.name), .str (S m.text), .int m.q]
def kidD : Int → Fo → List PyData
  | _, .nil => []
  | dd, .cons m k s => quad dd m :: (kidD (dd + 1) k ++ kidD dd s)
theorem kidD_eq : ∀ {F : Fo} {dd : Int}, Dep dd F → kidD dd F = (pre F).map fun n => quad n.d n
  | .nil, _, _ => rfl
  | .cons m k s, dd, ⟨h1, h2, h3⟩ => by
    simp only [kidD, pre, List.map_cons, List.map_append]
    rw [kidD_eq h2, kidD_eq h3, h1]
theorem kidD_len : ∀ (F : Fo) (dd : Int), (kidD dd F).length = (pre F).length
  | .nil, _ => rfl
  | .cons m k s, dd => by simp [kidD, pre, kidD_len k, kidD_len s]
theorem dq_count : ∀ l : List Nat, (dq l).length = l.length + l.count 34
  | [] => rfl
  | c :: r => by
    have ih := dq_count r
    simp only [dq]
    by_cases e : c = 34
    · subst e
      rw [if_pos rfl, List.count_cons_self]
      simp only [List.length_cons]
      omega
    · rw [if_neg e, List.count_cons_of_ne e]
      simp only [List.length_cons]
      omega
theorem kid_as_q (m : Nd) (k s : Fo) : flat (kidRows (.cons m k s)) = q257 (flat (pageRows m k)) (13 :: 10 :: flat (kidRows s)) := by
  rw [kidRows_cons]; simp [q257]
theorem kid_drop (m : Nd) (k s : Fo) : (flat (kidRows (.cons m k s))).drop (8 + (flat (pageRows m k)).length + (flat (pageRows m k)).count 34) = flat (kidRows s) := by
  rw [kidRows_cons]
  have e := dq_count (flat (pageRows m k))
  exact List.drop_left' (by simp only [List.length_append, List.length_cons, List.length_nil]; omega)
theorem small8 {r : Int} (q : Int) (h0 : 0 ≤ r) (h1 : r < 8) : (r + 8 * q) / 8 = q ∧ (r + 8 * q) % 8 = r := by omega
theorem par2 {b t : Int} (h : t = 1 ∨ t = 2) : (2 * b + t - 1) / 2 = b := by omega
theorem portL_facts {n : Nd} (h : NdOk n) {b : Nat} (hb : b ≤ 3) : (portL n b).fmod 2 = n.times - 1 ∧ (portL n b).fdiv 8 = n.q ∧ ((portL n b).fmod 8).fdiv 2 = b := by
  have ht := h.times
  have e0 : portL n b = (2 * (b : Int) + n.times - 1) + 8 * n.q := by unfold portL; omega
  have e1 : (portL n b).fmod 2 = (portL n b) % 2 := Int.fmod_eq_emod_of_nonneg _ (by decide)
  have e2 : (portL n b).fdiv 8 = (portL n b) / 8 := Int.fdiv_eq_ediv_of_nonneg _ (by decide)
  have e3 : (portL n b).fmod 8 = (portL n b) % 8 := Int.fmod_eq_emod_of_nonneg _ (by decide)
  have e4 : ∀ x : Int, x.fdiv 2 = x / 2 := fun x => Int.fdiv_eq_ediv_of_nonneg _ (by decide)
  obtain ⟨s1, s2⟩ := small8 (r := 2 * (b : Int) + n.times - 1) n.q (by omega) (by omega)
  rw [e1, e2, e3, e4, e0, s1, s2, par2 ht]
  refine ⟨?_, rfl, rfl⟩
  clear e0 e1 e2 e3 e4 s1 s2 hb
  omega
end Mine

-- W12
namespace Mine
open PySem PySem.W PySem.Calls PyProof.Rows

variable {cx : Cx} {d : Nat} {env : Env} {ρ : Vars} {st : Store} {pos : Pos} {P : Params}

def undotD (t : Nat) : PyData → PyData
  | .str x => .str (S (undot t x.cps.toList))
  | x => x
def splitD : PyData → PyData
  | .str x => .tuple ((Txt.splitMax x (S [58, 32]) 1).map .str)
  | x => x

theorem flat_mem_len : ∀ {R : List (List Nat)} {r : List Nat}, r ∈ R → r.length ≤ (flat R).length
  | x :: R, r, h => by
    rw [flat_cons]
    rcases List.mem_cons.mp h with rfl | h
    · simp
    · have := flat_mem_len h
      simp
      omega

theorem clip_nat {n i : Nat} (h : i ≤ n) : clipAt n (i : Int) = i := by
  unfold clipAt
  rw [if_neg (by omega)]
  omega
theorem pick_to {α : Type} {xs : List α} {i : Nat} (h : i ≤ xs.length) : pick xs none (some (i : Int)) = xs.take i := by
  unfold pick
  simp only [Option.elim]
  rw [clip_nat h]
  simp
theorem pick_from {α : Type} {xs : List α} {i : Nat} (h : i ≤ xs.length) : pick xs (some (i : Int)) none = xs.drop i := by
  unfold pick
  simp only [Option.elim]
  rw [clip_nat h]
  exact List.take_of_length_le (by simp)

def HomeSpec (cx : Cx) (K : Fo) : Prop := ∀ {m : Nd} {dep : Int} {d : Nat} {st : Store} {Post : V → Store → Prop}, NdOk m → AllOk K → (pre K).length ≤ 3 → (flat (pageRows m K)).length ≤ 5000 → Post (.d (.list (quad dep m :: kidD (dep + 1) K))) st →
  tcall cx (d + 6 + (pre K).length) (.ext (.ref 279)) [.d (.str (S (flat (pageRows m K)))), .d (.int dep)] [] st Post

set_option maxHeartbeats 8000000 in
theorem home_step (hK : cx.K = hd.heap_39 P) (hC : cx.hC = 239) {K : Fo} (ih : AllK (HomeSpec cx) K) : HomeSpec cx K := by
  intro m dep d st Post hm hKok hsz hlen h
  have H := hcls hK hC
  have hcnt := cnt_le K
  have hc3 : cnt K ≤ 3 := Nat.le_trans hcnt hsz
  have hc1 : cnt K ≤ 1000 := Nat.le_trans hc3 (by decide)
  have hrep := (hm.reply hc1).2
  have hport := hm.port hc1
  obtain ⟨pf1, pf2, pf3⟩ := portL_facts hm hc3
  have hn58 : 58 ∉ m.name := fun q => (hm.nameRow.1 58 q).2 rfl
  have htm := hm.tB
  have hti : m.times = ((m.times.toNat : Nat) : Int) := by clear hrep hport pf1 pf2 pf3 hc3 hc1 hcnt hsz hlen; omega
  obtain ⟨low, sw, sw1, sw2, sw3, sw4, sw5, sw6, sw7⟩ := hm.cases
  have hraw := rawRows_ok hm hKok (Nat.le_trans hsz (by decide))
  have hrows : Rows (pageRows m K) := hraw.dots
  have hcr : ("\u000d\n" : PySem.Str) = S [13, 10] := by decide +kernel
  have hcol : (": " : PySem.Str) = S [58, 32] := by decide +kernel
  have hdot : ("." : PySem.Str) = S [46] := by decide +kernel
  have hsp := split_rows hrows
  rw [show d + 6 + (pre K).length = (d + 5 + (pre K).length) + 1 by omega]
  refine tcall_def (cx := cx) (f := 279) (names := ["page", "depth"]) (ex := []) (exV := []) (ho := by rw [hK]; rfl) (hcd := by rw [hK]; rfl) (hbind := binds2 fun v w => rfl) (hex := fun _ _ => .nil) (hco := rfl) (hgen := rfl) (hk := rfl) (hnames := by decide +kernel) (hnn := by decide +kernel) (hnd := by decide +kernel) fun L => ?_
  rw [show d + 5 + (pre K).length = (d + (pre K).length) + 5 by omega]
  have hfirst : (pageRows m K) = ([110] ++ 58 :: 32 :: replyL m (cnt K)) :: (pageRows m K).tail := by
    simp [pageRows, rawRows, headRows, dots]
  refine tb_cons (ts_assign (te_call (by rfl) (te_glob (v := .ref 239) (by rw [hK]; kernel_rfl) ⟨_, rfl, calm239 hK, ?_⟩)))
  refine te_list (by rfl) (te_call (by rfl) (te_builtin (v := .type "tuple") (by rw [hK]; kernel_rfl) (by kernel_rfl) ⟨_, rfl, rfl, ?_⟩))
  refine te_meth (by rfl) (te_sub (te_meth (by rfl) (te_name rfl ⟨_, _, rfl, tgm_str (fun q => GM.split q), te_str ?_⟩)))
  rw [hcr]
  refine tcall_split (by rw [S_len]; rfl) (by rw [S_len]; exact Nat.le_trans hlen (by decide)) ?_
  rw [hsp]
  refine te_int (tsub_list (by decide) (by decide) (j := 0) (idx_ok (k := 0) (by simp [txs])) (by rw [hfirst]; rfl) ?_)
  refine ⟨_, _, rfl, tgm_str (fun q => GM.split q), te_str (te_int ?_)⟩
  rw [hcol]
  refine tcall_splitMax (by rw [S_len]; rfl) (by decide) (by decide) (by rw [S_len]; exact Nat.le_trans (la (m := 1) (n := 22) (by decide) (Nat.succ_le_succ (Nat.succ_le_succ hrep))) (by decide)) ?_
  rw [split_colon (by decide)]
  refine tcall_tuple (by show 2 ≤ 100000; decide) ⟨_, rfl, by show 1 ≤ sizeLine; decide, ?_⟩
  have pl1 := headPl1 hm hc1
  refine (?_ : tcall cx (d + (pre K).length + 5) (.ext (.ref 239)) [.d (PyData.list (prs [([110], replyL m (cnt K))]))] [] st _)
  rw [← hC]
  refine f_headers hK hC pl1 ?_
  have mget : findIn cx.K (.ref cx.hC) "get" = some (some (.ref 186)) := by rw [hK, hC]; kernel_rfl
  have fget : typeIn cx.K (.ref 186) = some (.type "function") := by rw [hK]; kernel_rfl
  have kget : keepIn cx.K (.ref 186) = true := by rw [hK]; kernel_rfl
  have mkeys : findIn cx.K (.ref cx.hC) "keys" = some (some (.ref 191)) := by rw [hK, hC]; kernel_rfl
  have fkeys : typeIn cx.K (.ref 191) = some (.type "function") := by rw [hK]; kernel_rfl
  have kkeys : keepIn cx.K (.ref 191) = true := by rw [hK]; kernel_rfl
  have hNL : ("N" : PySem.Str) = S [78] := by decide +kernel
  refine tb_cons (ts_assignT (te_call (by rfl) (te_glob (v := .ref 82) (by rw [hK]; kernel_rfl) ⟨_, rfl, by rw [hK]; kernel_rfl, ?_⟩)))
  refine te_meth (by rfl) (te_name rfl ⟨.ref 186, [.hdr (.d (.list (prs [([110], replyL m (cnt K))])))], kget, tgm_hdr H mget fget (by decide +kernel), te_str ?_⟩)
  rw [hNL]
  refine f_get (d := d + (pre K).length + 3) hK hC pl1 (by decide) lower_N (by decide) (by decide) ⟨[], [110], [], rfl, lower_n, by simp⟩ ?_
  refine te_tuple (by rfl) (te_name rfl (te_int ⟨_, rfl, by show 2 ≤ sizeLine; decide, ?_⟩))
  refine f_229 (d := d + (pre K).length + 4) (m := m.mark) (n := portL m (cnt K)) hK hm.mark hport.1 hport.2 ?_
  refine tasg_tuple (names := ["peer", "port"]) rfl rfl ?_
  have hrl : (pageRows m K).length ≤ 5000 := Nat.le_trans (flat_len _) hlen
  refine tb_cons (ts_assignComp (rest := []) (cl := [("port", L + 1)]) (fr := [("port", .d (.int (portL m (cnt K))))]) (f := undotD m.times.toNat) ?_ ⟨rfl, rfl, by decide, by decide, List.Perm.refl _, fun n c e => e, ?_⟩ rfl)
  · refine te_meth (by rfl) (te_name rfl ⟨_, _, rfl, tgm_str (fun q => GM.split q), te_str ?_⟩)
    refine tcall_split (by rw [S_len]; rfl) (by rw [S_len]; exact Nat.le_trans hlen (by decide)) ?_
    rw [hsp]
    refine ⟨_, rfl, by rw [txs, List.length_map, List.length_map, List.length_append]; exact Nat.le_trans (Nat.add_le_add_right hrl 1) (by decide), fun x hx => ?_, ?_⟩
    · obtain ⟨r, hr, rfl⟩ : ∃ r, (r ∈ pageRows m K ++ [[]]) ∧ x = .str (S r) := by
        simp only [txs, List.map_map, List.mem_map] at hx
        obtain ⟨r, h1, h2⟩ := hx
        exact ⟨r, h1, h2.symm⟩
      have hlong : r.head? = some 46 → m.times.toNat ≤ r.length := by
        intro q
        rcases List.mem_append.mp hr with h1 | h1
        · obtain ⟨y, hy, rfl⟩ := List.mem_map.mp h1
          exact dots_long q
        · simp at h1; subst h1; simp at q
      have hrz : r.length ≤ 5000 := by
        rcases List.mem_append.mp hr with h1 | h1
        · exact Nat.le_trans (flat_mem_len h1) hlen
        · simp at h1; subst h1; simp
      refine ⟨["row"], [.str (S r)], .name, by decide, by kernel_rfl, fun C st => ?_⟩
      refine te_ifexp (tt_cmp (te_slice (te_name rfl (te_int ⟨_, rfl, tsl_str (by rw [S_len]; exact Nat.le_trans hrz (by decide)) (te_str ?_)⟩))))
      rw [hdot]
      have e1 : Txt.slice (S r) none (some 1) = S (r.take 1) := by
        cases r with
        | nil => rfl
        | cons c r => exact slice_NS _ 1 (by simp)
      rw [e1]
      refine tcmp_eqS (ttr_bool ⟨fun hh => ?_, fun hh => ?_⟩)
      · have hh' : r.head? = some 46 := by
          have := S_inj (eq_of_beq hh)
          cases r with
          | nil => simp at this
          | cons c r => simpa using this
        refine te_slice (te_name rfl (te_bin (te_int (te_bin (te_name rfl (te_int (tbin_mod (by decide) ?_)))))))
        rw [pf1]
        refine tbin_add ⟨_, rfl, ?_⟩
        dsimp only [tpart]
        refine tsl_str (by rw [S_len]; exact Nat.le_trans hrz (by decide)) ⟨?_, rfl⟩
        rw [show (1 : Int) + (m.times - 1) = ((m.times.toNat : Nat) : Int) by clear hrep hport pf1 pf2 pf3 hc3 hc1 hcnt hsz hlen htm hrl hrz hlong sw2 sw5; omega, slice_SN _ _ (hlong hh')]
        show V.d (.str (S (r.drop m.times.toNat))) = V.d (.str (S (undot m.times.toNat (S r).cps.toList)))
        rw [S_cps]
        unfold undot
        rw [if_pos hh']
      · have hh' : ¬ r.head? = some 46 := by
          intro q
          cases r with
          | nil => simp at q
          | cons c r =>
            simp at q
            subst q
            simp at hh
        refine te_name rfl ⟨?_, rfl⟩
        show V.d (.str (S r)) = V.d (.str (S (undot m.times.toNat (S r).cps.toList)))
        rw [S_cps]
        unfold undot
        rw [if_neg hh']
    · have erows : (txs ((pageRows m K ++ [[]]).map S)).map (undotD m.times.toNat) = txs ((rawRows m K ++ [[]]).map S) := by
        rw [← undot_rows m.times.toNat (rawRows m K)]
        simp only [txs, List.map_map]
        rfl
      rw [erows]
      have hkl : (kidRows K).length ≤ 5000 := by
        have : (pageRows m K).length = 3 + (kidRows K).length := by simp [pageRows, rawRows, headRows]; omega
        omega
      have hrw : rawRows m K ++ [[]] = ([110] ++ 58 :: 32 :: replyL m (cnt K)) :: (m.name ++ 58 :: 32 :: m.text) :: [] :: (kidRows K ++ [[]]) := by simp [rawRows, headRows]
      have hrwl : (rawRows m K).length ≤ 5000 := by
        have : (pageRows m K).length = (rawRows m K).length := by simp [pageRows]
        omega
      refine tb_cons (ts_assign (te_call (by rfl) (te_glob (v := .ref 239) (by rw [hK]; kernel_rfl) ⟨_, rfl, calm239 hK, ?_⟩)))
      refine te_comp (cl := []) (fr := []) (f := splitD) (te_slice (te_name rfl (te_int ⟨_, rfl, tsl_list (by rw [txs, List.length_map, List.length_map, List.length_append]; exact Nat.le_trans (Nat.add_le_add_right hrwl 1) (by decide)) ?_⟩))) (compOk0 (by decide +kernel))
      have epk : pick (txs ((rawRows m K ++ [[]]).map S)) none (some 2) = txs [S ([110] ++ 58 :: 32 :: replyL m (cnt K)), S (m.name ++ 58 :: 32 :: m.text)] := by
        refine (pick_to (i := 2) (by rw [hrw]; simp [txs])).trans ?_
        rw [hrw]; rfl
      rw [epk]
      refine ⟨_, rfl, by show 2 ≤ 100000; decide, fun x hx => ?_, ?_⟩
      · obtain ⟨y, z, hy, hr, rfl⟩ : ∃ y z, 58 ∉ y ∧ (y ++ 58 :: 32 :: z).length ≤ 100 ∧ x = .str (S (y ++ 58 :: 32 :: z)) := by
          simp only [txs, List.map_cons, List.map_nil, List.mem_cons, List.not_mem_nil, or_false] at hx
          rcases hx with rfl | rfl
          · exact ⟨[110], replyL m (cnt K), by decide, Nat.le_trans (la (m := 1) (n := 22) (by decide) (Nat.succ_le_succ (Nat.succ_le_succ hrep))) (by decide), rfl⟩
          · exact ⟨m.name, m.text, hn58, Nat.le_trans (la (n := 5) hm.nameRow.2 (Nat.succ_le_succ (Nat.succ_le_succ hm.textRow.2))) (by decide), rfl⟩
        have esc := split_colon (b := z) hy
        generalize y ++ 58 :: 32 :: z = r at *
        refine ⟨["row"], [.str (S r)], .name, by decide, by kernel_rfl, fun C st => ?_⟩
        refine te_call (by rfl) (te_builtin (v := .type "tuple") (by rw [hK]; kernel_rfl) (by kernel_rfl) ⟨_, rfl, rfl, ?_⟩)
        refine te_meth (by rfl) (te_name rfl ⟨_, _, rfl, tgm_str (fun q => GM.split q), te_str (te_int ?_)⟩)
        refine tcall_splitMax (by rw [S_len]; rfl) (by decide) (by decide) (by rw [S_len]; exact Nat.le_trans hr (by decide)) ?_
        have esd : splitD (.str (S r)) = .tuple (txs [S y, S z]) := by
          show PyData.tuple ((Txt.splitMax (S r) (S [58, 32]) 1).map .str) = _
          rw [esc]; rfl
        rw [esc, esd]
        exact tcall_tuple (by show 2 ≤ 100000; decide) ⟨rfl, rfl⟩
      · have esp : (txs [S ([110] ++ 58 :: 32 :: replyL m (cnt K)), S (m.name ++ 58 :: 32 :: m.text)]).map splitD = prs [([110], replyL m (cnt K)), (m.name, m.text)] := by
          show [PyData.tuple _, PyData.tuple _] = _
          rw [split_colon (by decide), split_colon hn58]
          rfl
        rw [esp]
        have pl2 := headPl hm hc1
        refine (?_ : tcall cx (d + (pre K).length + 5) (.ext (.ref 239)) [.d (PyData.list (prs [([110], replyL m (cnt K)), (m.name, m.text)]))] [] st _)
        rw [← hC]
        refine f_headers hK hC pl2 ?_
        refine tb_cons (ts_assign (te_sub (te_meth (by rfl) (te_name rfl ⟨.ref 191, [.hdr (.d (.list (prs [([110], replyL m (cnt K)), (m.name, m.text)])))], kkeys, tgm_hdr H mkeys fkeys (by decide +kernel), ?_⟩))))
        refine f_keys (d := d + (pre K).length + 4) hK hC (by simp) ?_
        refine te_int (tsub_list (by decide) (by decide) (j := 1) rfl rfl ?_)
        refine tb_cons (ts_assign (te_listC (by rfl) (te_tuple (by rfl) (te_name rfl (te_name rfl ?_)))))
        refine te_meth (by rfl) (te_name rfl ⟨.ref 186, [.hdr (.d (.list (prs [([110], replyL m (cnt K)), (m.name, m.text)])))], kget, tgm_hdr H mget fget (by decide +kernel), ?_⟩)
        refine te_meth (by rfl) (te_name rfl ⟨_, _, rfl, tgm_str (fun q => GM.swapcase q), tcall_swapcase (by rw [S_len]; exact Nat.le_trans hm.nameRow.2 (by decide)) ?_⟩)
        show tcall _ _ _ (_ ++ [V.d (.str (Txt.swapcase (S m.name)))]) _ _ _
        rw [sw1]
        refine f_get (d := d + (pre K).length + 3) hK hC pl2 (Nat.le_trans sw2 (by decide)) sw3 (Nat.le_trans sw5 (by decide)) sw6 ⟨[([110], replyL m (cnt K))], m.name, [], rfl, sw4, by intro p hp; simp at hp; subst hp; show Txt.lower (S [110]) ≠ S low; rw [lower_n]; exact fun q => sw7 (S_inj q).symm⟩ ?_
        refine te_bin (te_name rfl (te_int (tbin_div (by decide) (PyProof.noPylong_small (by decide)) ?_)))
        rw [pf2]
        refine ⟨_, rfl, by show 4 ≤ sizeLine; decide, ⟨_, rfl, by show 1 ≤ sizeLine; decide, ?_⟩⟩
        have hquad : PyData.tuple [.int dep, .str (S m.name), .str (S m.text), .int m.q] = quad dep m := rfl
        rw [hquad]
        have hf2 : (flat (kidRows K)).length ≤ 5000 := by
          have e1 := sent_len hm hKok (j := 1) (by omega)
          unfold sent at e1
          rw [if_neg (by decide)] at e1
          have e2 := flat_map_len (fun x => x) (dots 1) (fun r => by have := dots_len 0 1 (Nat.zero_le _) r; rw [dots_zero] at this; exact this) (rawRows m K)
          rw [List.map_id'] at e2
          have e3 : (flat (rawRows m K)).length = (flat (headRows m (cnt K))).length + (flat (kidRows K)).length := by unfold rawRows; rw [flat_app]; simp
          omega
        refine tb_cons (ts_assign (te_meth (by rfl) (te_str ⟨.builtin "str.join", _, rfl, tgm_str (fun hg => GM.join hg), te_slice (te_name rfl (te_int ⟨_, rfl, ?_⟩))⟩)))
        dsimp only [tpart]
        refine tsl_list (by rw [txs, List.length_map, List.length_map, List.length_append]; exact Nat.le_trans (Nat.add_le_add_right hrwl 1) (by decide)) ?_
        have epk2 : pick (txs ((rawRows m K ++ [[]]).map S)) (some 3) none = txs ((kidRows K ++ [[]]).map S) := by
          refine (pick_from (i := 3) (by rw [hrw]; simp [txs])).trans ?_
          rw [hrw]; rfl
        rw [epk2]
        refine tcall_join (joinOk_of_weight ?_ (by decide)) ?_
        · have := sum_inter (kidRows K ++ [[]])
          rw [inter_rows] at this
          simp only [List.length_map, List.length_append, List.length_cons, List.length_nil] at this ⊢
          omega
        rw [join_rows]
        have hq1 : ("\"" : PySem.Str) = S [34] := by decide +kernel
        refine tb_cons (ts_forR (te_call (by rfl) (te_builtin (v := .type "range") (by rw [hK]; kernel_rfl) (by kernel_rfl) ⟨_, rfl, rfl, te_bin (te_bin (te_name rfl (te_int (tbin_mod (by decide) (te_int (tbin_div (by decide) (PyProof.noPylong_small (by decide)) ?_)))))) ⟩)))
        rw [pf3]
        refine tcall_range1 ⟨_, _, rfl, by omega, by omega, by omega, by omega, ?_⟩
        refine ⟨fun restr ρ st' => ∃ (i : Nat) (G : Fo) (xs : List PyData), restr = rngI i (cnt K : Nat) ∧ i + cnt G = cnt K ∧ AllOk G ∧ AllK (HomeSpec cx) G ∧ (pre G).length ≤ (pre K).length ∧ (flat (kidRows G)).length ≤ 5000 ∧ xs ++ kidD (dep + 1) G = quad dep m :: kidD (dep + 1) K ∧
          ρ.lookup ("depth" : PySem.Str) = some (.d (.int dep)) ∧ ρ.lookup ("rest" : PySem.Str) = some (.d (.str (S (flat (kidRows G))))) ∧ ρ.lookup ("found" : PySem.Str) = some (.c st.length) ∧ st' = st ++ [.live xs], ?_, ?_, ?_⟩
        · exact ⟨0, K, [quad dep m], rfl, Nat.zero_add _, hKok, ih, Nat.le_refl _, hf2, rfl, rfl, rfl, rfl, rfl⟩
        · rintro x restr ρ st' ⟨i, G, xs, e, e1, g1, g2, g3, g4, e2, l1, l2, l3, rfl⟩
          by_cases hil : (i : Int) < (cnt K : Nat)
          · rw [rngI_cons hil] at e
            cases e
            clear hrep hport pf1 pf2 pf3 htm hti hlen hf2 hc1 hc3 hcnt hrl hkl hrwl sw2 sw5
            cases G with
            | nil => simp [cnt] at e1; omega
            | cons mm kk ss =>
              have hgl : (pre kk).length + 1 ≤ (pre K).length := pre_k g3
              have hgs : (pre ss).length ≤ (pre K).length := pre_s g3
              have hxl : xs.length ≤ 10 := by
                have := congrArg List.length e2
                simp only [List.length_append, List.length_cons, kidD_len] at this
                omega
              have hdql := dq_len (flat (pageRows mm kk))
              have hdqc := dq_count (flat (pageRows mm kk))
              have hz := g4
              rw [kidRows_cons] at hz
              simp only [List.length_append, List.length_cons, List.length_nil] at hz
              have hdr := kid_drop mm kk ss
              have hlo : 8 + (flat (pageRows mm kk)).length + (flat (pageRows mm kk)).count 34 ≤ (flat (kidRows (.cons mm kk ss))).length := by
                rw [kidRows_cons]
                simp only [List.length_append, List.length_cons, List.length_nil]
                omega
              refine tasg_name ?_
              refine tb_cons (ts_assign (te_call (by rfl) (te_glob (v := .ref 89) (by rw [hK]; kernel_rfl) ⟨_, rfl, by rw [hK]; kernel_rfl, te_name (v := .d (.str (S (q257 (flat (pageRows mm kk)) (13 :: 10 :: flat (kidRows ss)))))) (by rw [upd_get, ← kid_as_q]; exact l2) ?_⟩)))
              refine f_257 (d := d + (pre K).length + 4) hK (by rw [← kid_as_q]; omega) (by simp) ?_
              generalize hρ2 : upd (upd ρ "turn" _) "inner" _ = ρ2
              have k1 : ρ2.lookup ("depth" : PySem.Str) = some (.d (.int dep)) := by rw [← hρ2, upd_get, upd_get]; exact l1
              have k2 : ρ2.lookup ("rest" : PySem.Str) = some (.d (.str (S (flat (kidRows (.cons mm kk ss)))))) := by rw [← hρ2, upd_get, upd_get]; exact l2
              have k3 : ρ2.lookup ("found" : PySem.Str) = some (.c st.length) := by rw [← hρ2, upd_get, upd_get]; exact l3
              have k4 : ρ2.lookup ("inner" : PySem.Str) = some (.d (.str (S (flat (pageRows mm kk))))) := by rw [← hρ2, upd_get]; rfl
              refine tb_cons (ts_assign (te_slice (te_name k2 (te_bin (te_bin (te_int (te_call (by rfl) (te_builtin (v := .builtin "len") (by rw [hK]; kernel_rfl) (by kernel_rfl) ⟨_, rfl, rfl, te_name k4 (tcall_len (by rw [S_len]; omega) (tbin_add ?_))⟩)))))))) 
              refine te_meth (by rfl) (te_name k4 ⟨_, _, rfl, tgm_str (fun q => GM.count q), te_str (tcall_count ?_)⟩)
              rw [hq1, count_list]
              refine tbin_add ⟨_, rfl, ?_⟩
              dsimp only [tpart]
              rw [S_len, show (8 : Int) + ((flat (pageRows mm kk)).length : Nat) + ((flat (pageRows mm kk)).count 34 : Nat) = ((8 + (flat (pageRows mm kk)).length + (flat (pageRows mm kk)).count 34 : Nat) : Int) by omega]
              refine tsl_str (by rw [S_len]; exact Nat.le_trans g4 (by decide)) ?_
              rw [slice_SN _ _ hlo, hdr]
              generalize hρ3 : upd ρ2 "rest" _ = ρ3
              have j1 : ρ3.lookup ("depth" : PySem.Str) = some (.d (.int dep)) := by rw [← hρ3, upd_get]; exact k1
              have j2 : ρ3.lookup ("rest" : PySem.Str) = some (.d (.str (S (flat (kidRows ss))))) := by rw [← hρ3, upd_get]; rfl
              have j3 : ρ3.lookup ("found" : PySem.Str) = some (.c st.length) := by rw [← hρ3, upd_get]; exact k3
              have j4 : ρ3.lookup ("inner" : PySem.Str) = some (.d (.str (S (flat (pageRows mm kk))))) := by rw [← hρ3, upd_get]; exact k4
              have hget : (st ++ [Cell.live xs])[st.length]? = some (.live xs) := by simp
              refine tb_cons (ts_expr (te_meth (by rfl) (te_name j3 ⟨.builtin "list.extend", [.c st.length], rfl, tgm_cell hget PySem.F.slot_list_extend PySem.F.type_list_extend, ?_⟩)))
              refine te_call (by rfl) (te_glob (v := .ref 279) (by rw [hK]; kernel_rfl) ⟨_, rfl, by rw [hK]; kernel_rfl, te_name j4 (te_bin (te_name j1 (te_int (tbin_add ?_))))⟩)
              refine tcall_at (d' := (d + ((pre K).length - 1 - (pre kk).length)) + 6 + (pre kk).length) (depEq d hgl) (g2.1 g1.1 g1.2.1 (by omega) (by omega) ?_)
              refine tcall_extend hget (by omega) (by simp only [List.length_cons, kidD_len]; omega) ?_
              refine tb_nil ⟨i + 1, ss, xs ++ (quad (dep + 1) mm :: kidD (dep + 1 + 1) kk), by push_cast; rfl, by rw [← e1]; simp [cnt]; omega, g1.2.2, g2.2, hgs, by omega, ?_, j1, j2, j3, ?_⟩
              · rw [← e2]; simp [kidD]
              · simp
          · rw [rngI_nil (by omega)] at e; cases e
        · rintro ρ st' ⟨i, G, xs, e, e1, g1, g2, g3, g4, e2, l1, l2, l3, rfl⟩
          have hil : ¬ (i : Int) < (cnt K : Nat) := fun hil => by rw [rngI_cons hil] at e; cases e
          cases G with
          | cons mm kk ss => simp [cnt] at e1; omega
          | nil =>
            have exs : xs = quad dep m :: kidD (dep + 1) K := by simpa [kidD] using e2
            refine tb_cons (ts_ret (te_ifexp (tt_cmp (te_name l2 (te_str (tcmp_eqS (ttr_bool ⟨fun _ => te_name l3 ⟨.d (.list xs), ?_, ?_⟩, fun hh => absurd hh (by decide)⟩)))))))
            · simp [fin]
            · rw [exs, List.take_left]; exact h
  · intro y v e
    simp only [List.lookup] at e
    split at e
    · next q =>
      cases e
      have : y = ("port" : PySem.Str) := eq_of_beq q
      subst this
      exact ⟨rfl, .inl rfl, by first | exact .inl rfl | exact .inr rfl | exact .inl (by kernel_rfl) | exact .inr (by kernel_rfl), rfl⟩
    · cases e

theorem allK_home (hK : cx.K = hd.heap_39 P) (hC : cx.hC = 239) : ∀ K : Fo, AllK (HomeSpec cx) K
  | .nil => trivial
  | .cons m k s => ⟨home_step hK hC (allK_home hK hC k), allK_home hK hC s⟩
/-- a page comes home -/
theorem f_home (hK : cx.K = hd.heap_39 P) (hC : cx.hC = 239) (K : Fo) : HomeSpec cx K := home_step hK hC (allK_home hK hC K)
end Mine

-- P7
namespace Mine
open PySem PySem.StrLaws PySem.Builtin PySem.Builtin.Str

/-! ### what is told without a call -/
def quotes (e : Int) : List Nat := List.replicate (2 ^ e.toNat) 34
def closeW (dd : Int) : List (Int × Int) → List Nat × List (Int × Int)
  | [] => ([], [])
  | (e, t) :: w => if e ≥ dd then ((quotes (e - 1) ++ [13, 10]) ++ (closeW dd w).1, (closeW dd w).2) else ([], (e, t) :: w)
def sumW (w : List (Int × Int)) : Int := (w.map (·.2)).sum
def nodeText (n : Nd) (b : Int) (w : List (Int × Int)) : List Nat :=
  (if n.d > 0 then [50, 53, 55, 32] ++ quotes (n.d - 1) else []) ++ ([110, 58, 32] ++ replyL n b ++ [13, 10]) ++ ((if n.name.head? = some 46 then List.replicate (sumW w).toNat 46 else []) ++ (repl 34 (quotes n.d) (n.name ++ 58 :: 32 :: n.text) ++ [13, 10, 13, 10]))
def toldF : List Nd → List (Int × Int) → List Nat × List (Int × Int)
  | [], w => ([], w)
  | n :: r, w => ((closeW n.d w).1 ++ (nodeText n (belowL n.d r) ((n.d, n.times) :: (closeW n.d w).2) ++ (toldF r ((n.d, n.times) :: (closeW n.d w).2)).1), (toldF r ((n.d, n.times) :: (closeW n.d w).2)).2)
def endW : List (Int × Int) → List Nat
  | [] => []
  | [_] => []
  | (e, _) :: x :: w => (quotes (e - 1) ++ [13, 10]) ++ endW (x :: w)
def told (ns : List Nd) : List Nat := (toldF ns []).1 ++ endW (toldF ns []).2

/-! ### the same out of the tree -/
def dqn : Nat → List Nat → List Nat
  | 0, l => l
  | n + 1, l => dqn n (dq l)
theorem dqn_app : ∀ (n : Nat) (a b : List Nat), dqn n (a ++ b) = dqn n a ++ dqn n b
  | 0, a, b => rfl
  | n + 1, a, b => by simp only [dqn]; rw [dq_app, dqn_app n]
theorem dqn_free : ∀ (n : Nat) {l : List Nat}, 34 ∉ l → dqn n l = l
  | 0, l, _ => rfl
  | n + 1, l, h => by simp only [dqn]; rw [dq_repl, repl_free h, dqn_free n h]
theorem dq_quotes : ∀ k : Nat, dq (List.replicate k 34) = List.replicate (2 * k) 34
  | 0 => rfl
  | k + 1 => by
    rw [List.replicate_succ, show 2 * (k + 1) = (2 * k + 1) + 1 by omega, List.replicate_succ, List.replicate_succ, ← dq_quotes k]
    simp [dq]
theorem dqn_quotes : ∀ (n k : Nat), dqn n (List.replicate k 34) = List.replicate (2 ^ n * k) 34
  | 0, k => by simp [dqn]
  | n + 1, k => by
    simp only [dqn]
    rw [dq_quotes, dqn_quotes n, ← Nat.mul_assoc, ← Nat.pow_succ]
theorem dqn_repl (n : Nat) : ∀ l : List Nat, dqn n l = repl 34 (List.replicate (2 ^ n) 34) l
  | [] => by rw [dqn_free n (by simp)]; rfl
  | c :: r => by
    have e : c :: r = [c] ++ r := rfl
    rw [e, dqn_app, repl_app, dqn_repl n r]
    congr 1
    by_cases h : c = 34
    · subst h
      have := dqn_quotes n 1
      rw [Nat.mul_one] at this
      simpa [repl] using this
    · rw [dqn_free n (by simp; exact fun q => h q.symm), repl_free (by simp; exact fun q => h q.symm)]
theorem dq_head (r : List Nat) : (dq r).head? = r.head? := by
  cases r with
  | nil => rfl
  | cons c r =>
    simp only [dq]
    split
    · next h => simp [h]
    · rfl
theorem dots_dq (t : Nat) (r : List Nat) : dq (dots t r) = dots t (dq r) := by
  by_cases h : r.head? = some 46
  · rw [dots_pos h, dots_pos (by rw [dq_head]; exact h), dq_app]
    congr 1
    rw [dq_repl, repl_free]
    intro q
    have := List.eq_of_mem_replicate q
    omega
  · rw [dots_neg h, dots_neg (by rw [dq_head]; exact h)]
theorem dots_dqn (t : Nat) : ∀ (n : Nat) (r : List Nat), dqn n (dots t r) = dots t (dqn n r)
  | 0, r => rfl
  | n + 1, r => by simp only [dqn]; rw [dots_dq, dots_dqn t n]
def up (j W : Nat) (r : List Nat) : List Nat := dots W (dqn j r)
theorem up_in (j W t : Nat) (r : List Nat) : up j W (dq (dots t r)) = up (j + 1) (W + t) r := by
  unfold up
  rw [dots_dq, dots_dqn, dots_dots]
  rfl

/-- the rows of a forest, as told -/
def tRows (j W : Nat) : Fo → List (List Nat)
  | .nil => []
  | .cons m k s => ([50, 53, 55, 32] ++ List.replicate (2 ^ j) 34 ++ ([110, 58, 32] ++ replyL m (cnt k))) :: dots (W + m.times.toNat) (dqn (j + 1) (m.name ++ 58 :: 32 :: m.text)) :: [] ::
      (tRows (j + 1) (W + m.times.toNat) k ++ (List.replicate (2 ^ j) 34 :: tRows j W s))
theorem kid_rows : ∀ {F : Fo} (j W : Nat), AllOk F → (pre F).length ≤ 1000 → (kidRows F).map (up j W) = tRows j W F
  | .nil, j, W, _, _ => rfl
  | .cons m k s, j, W, ⟨h1, h2, h3⟩, hl => by
    simp [pre] at hl
    have hrep := (h1.reply (b := cnt k) (by have := cnt_le k; omega)).1
    have hno : 34 ∉ [110] ++ 58 :: 32 :: replyL m (cnt k) := by
      intro q
      simp only [List.cons_append, List.nil_append, List.mem_cons] at q
      rcases q with q | q | q | q
      · omega
      · omega
      · omega
      · exact (hrep 34 q).2 rfl
    have e1 : dots m.times.toNat ([110] ++ 58 :: 32 :: replyL m (cnt k)) = [110] ++ 58 :: 32 :: replyL m (cnt k) := dots_neg (by simp)
    show ((qrows ((headRows m (cnt k) ++ kidRows k).map (dots m.times.toNat))) ++ kidRows s).map (up j W) = _
    rw [List.map_append, kid_rows j W h3 (by omega)]
    simp only [headRows, List.cons_append, List.nil_append, List.map_cons, qrows, List.map_append, List.map_nil, List.map_map]
    have ek : (kidRows k).map (up j W ∘ dq ∘ dots m.times.toNat) = tRows (j + 1) (W + m.times.toNat) k := by
      rw [← kid_rows (j + 1) (W + m.times.toNat) h2 (by omega)]
      exact List.map_congr_left fun r _ => up_in j W _ r
    rw [ek, up_in, up_in]
    simp only [tRows, List.append_assoc, List.cons_append, List.nil_append]
    have a1 : up j W (50 :: 53 :: 55 :: 32 :: 34 :: dq (dots m.times.toNat (110 :: 58 :: 32 :: replyL m (cnt k)))) = 50 :: 53 :: 55 :: 32 :: (List.replicate (2 ^ j) 34 ++ 110 :: 58 :: 32 :: replyL m (cnt k)) := by
      have e1' : dots m.times.toNat (110 :: 58 :: 32 :: replyL m (cnt k)) = 110 :: 58 :: 32 :: replyL m (cnt k) := e1
      have hno' : 34 ∉ 110 :: 58 :: 32 :: replyL m (cnt k) := hno
      rw [e1', dq_repl, repl_free hno']
      have e2 : 50 :: 53 :: 55 :: 32 :: 34 :: 110 :: 58 :: 32 :: replyL m (cnt k) = [50, 53, 55, 32] ++ (List.replicate 1 34 ++ 110 :: 58 :: 32 :: replyL m (cnt k)) := rfl
      unfold up
      rw [e2, dqn_app, dqn_app, dqn_quotes, dqn_free j (l := [50, 53, 55, 32]) (by decide), dqn_free j hno', Nat.mul_one]
      exact dots_neg (by simp)
    have a2 : up (j + 1) (W + m.times.toNat) [] = [] := by
      unfold up
      rw [dqn_free _ (by simp)]
      exact dots_neg (by simp)
    have a3 : up j W [34] = List.replicate (2 ^ j) 34 := by
      have := dqn_quotes j 1
      rw [Nat.mul_one] at this
      unfold up
      have e : ([34] : List Nat) = List.replicate 1 34 := rfl
      rw [e, this]
      refine dots_neg fun q => ?_
      rw [List.head?_replicate] at q
      split at q <;> simp at q
    rw [a1, a2, a3]
    rfl
end Mine

-- P8
namespace Mine
open PySem PySem.StrLaws PySem.Builtin PySem.Builtin.Str

theorem close_idem (dd : Int) : ∀ w : List (Int × Int), closeW dd (closeW dd w).2 = ([], (closeW dd w).2)
  | [] => rfl
  | (e, t) :: w => by
    simp only [closeW]
    by_cases h : e ≥ dd
    · rw [if_pos h]; exact close_idem dd w
    · rw [if_neg h]
      simp only [closeW]
      rw [if_neg h]
theorem close_two (dd : Int) : ∀ w : List (Int × Int), closeW dd w = ((closeW (dd + 1) w).1 ++ (closeW dd (closeW (dd + 1) w).2).1, (closeW dd (closeW (dd + 1) w).2).2)
  | [] => rfl
  | (e, t) :: w => by
    by_cases h1 : e ≥ dd + 1
    · have h : e ≥ dd := by omega
      have ih := close_two dd w
      simp only [closeW]
      rw [if_pos h, if_pos h1, ih]
      simp
    · have e1 : closeW (dd + 1) ((e, t) :: w) = ([], (e, t) :: w) := by simp only [closeW]; rw [if_neg h1]
      rw [e1]; simp
theorem end_close {a : Int} {t : Int} (ha : a < 1) : ∀ {w : List (Int × Int)} {c : List Nat}, closeW 1 w = (c, [(a, t)]) → endW w = c
  | [], c, h => by simp [closeW] at h
  | (e, u) :: w, c, h => by
    simp only [closeW] at h
    by_cases h1 : e ≥ 1
    · rw [if_pos h1] at h
      simp only [Prod.mk.injEq] at h
      obtain ⟨h2, h3⟩ := h
      cases w with
      | nil => simp [closeW] at h3
      | cons x w =>
        have ih := end_close ha (w := x :: w) (c := (closeW 1 (x :: w)).1) (by rw [← h3])
        simp only [endW]
        rw [ih, h2]
    · rw [if_neg h1] at h
      simp only [Prod.mk.injEq, List.cons.injEq] at h
      obtain ⟨h2, _, h3⟩ := h
      rw [h3, ← h2]; rfl
theorem name_head {n : Nd} (h : NdOk n) (x : List Nat) : (n.name ++ x).head? = n.name.head? := by
  obtain ⟨k, c, e, _⟩ := h.name
  rw [e]
  cases k with
  | zero => rfl
  | succ k => simp [List.replicate_succ]
theorem sumW_cons {m : Nd} (h : NdOk m) {W : Nat} {w : List (Int × Int)} (hw : sumW w = (W : Int)) (d : Int) : sumW ((d, m.times) :: w) = ((W + m.times.toNat : Nat) : Int) := by
  have e0 : sumW ((d, m.times) :: w) = m.times + sumW w := by simp [sumW]
  rw [e0, hw]
  have := h.times
  clear h hw e0
  omega
theorem node_text {m : Nd} {j W b : Nat} {w : List (Int × Int)} (h : NdOk m) (hd' : m.d = (j : Int) + 1) (hw : sumW w = (W : Int)) :
    nodeText m b ((m.d, m.times) :: w) = flat [[50, 53, 55, 32] ++ List.replicate (2 ^ j) 34 ++ ([110, 58, 32] ++ replyL m b), dots (W + m.times.toNat) (dqn (j + 1) (m.name ++ 58 :: 32 :: m.text)), []] := by
  have ht : (sumW ((m.d, m.times) :: w)).toNat = W + m.times.toNat := by rw [sumW_cons h hw]; rfl
  have q1 : quotes (m.d - 1) = List.replicate (2 ^ j) 34 := by unfold quotes; rw [show (m.d - 1).toNat = j by omega]
  have q2 : quotes m.d = List.replicate (2 ^ (j + 1)) 34 := by unfold quotes; rw [show m.d.toNat = j + 1 by omega]
  unfold nodeText
  rw [if_pos (by omega), q1, q2, ht, ← dqn_repl]
  have hdot : dots (W + m.times.toNat) (dqn (j + 1) (m.name ++ 58 :: 32 :: m.text)) = (if m.name.head? = some 46 then List.replicate (W + m.times.toNat) 46 else []) ++ dqn (j + 1) (m.name ++ 58 :: 32 :: m.text) := by
    rw [← dots_dqn]
    by_cases e : m.name.head? = some 46
    · rw [if_pos e, dots_pos (by rw [name_head h]; exact e), dqn_app, dqn_free (l := List.replicate (W + m.times.toNat) 46) _ (fun q => by have := List.eq_of_mem_replicate q; omega)]
    · rw [if_neg e, dots_neg (by rw [name_head h]; exact e)]; rfl
  rw [hdot]
  simp [flat]

theorem fold_fo : ∀ {F : Fo} (j W : Nat) (w w0 : List (Int × Int)) (c : List Nat) (rest : List Nd), Dep ((j : Int) + 1) F → AllOk F → closeW ((j : Int) + 1) w = (c, w0) → sumW w0 = (W : Int) → Stops ((j : Int) + 1) rest →
    ∃ w1 c1 X, toldF (pre F ++ rest) w = (X ++ (toldF rest w1).1, (toldF rest w1).2) ∧ closeW ((j : Int) + 1) w1 = (c1, w0) ∧ X ++ c1 = c ++ flat (tRows j W F)
  | .nil, j, W, w, w0, c, rest, _, _, hc, hw, _ => ⟨w, c, [], rfl, hc, by simp [tRows, flat]⟩
  | .cons m k s, j, W, w, w0, c, rest, ⟨d1, d2, d3⟩, ⟨h1, h2, h3⟩, hc, hw, hs => by
    have hss := stops_pre d3 hs
    have hb : belowL m.d (pre k ++ (pre s ++ rest)) = (cnt k : Int) := below_kids (by rw [d1]; exact d2) (by rw [d1]; exact hss)
    have hid : closeW ((j : Int) + 1) w0 = ([], w0) := by have := close_idem ((j : Int) + 1) w; rw [hc] at this; exact this
    have hk0 : closeW (((j + 1 : Nat) : Int) + 1) ((m.d, m.times) :: w0) = ([], (m.d, m.times) :: w0) := by
      simp only [closeW]
      rw [if_neg (by rw [d1]; omega)]
    have hW : sumW ((m.d, m.times) :: w0) = ((W + m.times.toNat : Nat) : Int) := sumW_cons h1 hw m.d
    obtain ⟨wk, ck, Xk, k1, k2, k3⟩ := fold_fo (j + 1) (W + m.times.toNat) ((m.d, m.times) :: w0) ((m.d, m.times) :: w0) [] (pre s ++ rest) (by push_cast; exact d2) h2 hk0 hW (fun n hn => Int.le_trans (hss n hn) (by omega))
    have q1 : quotes (m.d - 1) = List.replicate (2 ^ j) 34 := by unfold quotes; rw [show (m.d - 1).toNat = j by omega]
    have hcl : closeW ((j : Int) + 1) wk = (ck ++ (List.replicate (2 ^ j) 34 ++ [13, 10]), w0) := by
      have k2' : closeW ((j : Int) + 1 + 1) wk = (ck, (m.d, m.times) :: w0) := by push_cast at k2; exact k2
      rw [close_two, k2']
      simp only [closeW]
      rw [if_pos (by rw [d1]; exact Int.le_refl _), hid, q1]
      simp
    obtain ⟨ws, cs, Xs, s1, s2, s3⟩ := fold_fo j W wk w0 _ rest d3 h3 hcl hw hs
    refine ⟨ws, cs, c ++ (nodeText m (cnt k) ((m.d, m.times) :: w0) ++ (Xk ++ Xs)), ?_, s2, ?_⟩
    · have hc' : closeW m.d w = (c, w0) := by rw [d1]; exact hc
      simp only [pre, List.cons_append, List.append_assoc, toldF]
      rw [hc', hb]
      simp only
      rw [k1, s1]
    · rw [node_text h1 d1 hw]
      simp only [List.append_assoc]
      rw [s3]
      simp only [tRows, List.append_assoc, flat_app, flat_cons, List.cons_append, List.nil_append]
      have : Xk ++ (ck ++ (List.replicate (2 ^ j) 34 ++ 13 :: 10 :: flat (tRows j W s))) = flat (tRows (j + 1) (W + m.times.toNat) k) ++ (List.replicate (2 ^ j) 34 ++ 13 :: 10 :: flat (tRows j W s)) := by
        rw [← List.append_assoc, k3]; rfl
      rw [this]
      simp [flat]

/-- the page is what is told -/
theorem told_page {m : Nd} {K : Fo} (hd0 : m.d = 0) (h1 : NdOk m) (h2 : AllOk K) (h3 : Dep 1 K) (hl : (pre K).length ≤ 1000) : told (m :: pre K) = flat (pageRows m K) := by
  have hb : belowL m.d (pre K) = (cnt K : Int) := by
    have := below_kids (m := m) (K := K) (rest := []) (by rw [hd0]; exact h3) (fun n hn => by cases hn)
    rwa [List.append_nil] at this
  have hk0 : closeW (((0 : Nat) : Int) + 1) [(m.d, m.times)] = ([], [(m.d, m.times)]) := by
    simp only [closeW]
    rw [if_neg (by rw [hd0]; omega)]
  have hW : sumW [(m.d, m.times)] = ((m.times.toNat : Nat) : Int) := (sumW_cons h1 (W := 0) (w := []) rfl m.d).trans (by rw [Nat.zero_add])
  obtain ⟨w1, c1, X, e1, e2, e3⟩ := fold_fo 0 m.times.toNat [(m.d, m.times)] [(m.d, m.times)] [] [] h3 h2 hk0 hW (fun n hn => by cases hn)
  rw [List.append_nil] at e1
  have e2' : closeW 1 w1 = (c1, [(m.d, m.times)]) := e2
  have eend := end_close (by rw [hd0]; omega) e2'
  unfold told
  simp only [toldF, closeW]
  rw [e1, hb]
  simp only [toldF, List.append_nil, List.nil_append]
  rw [eend, List.append_assoc, e3, ← kid_rows 0 m.times.toNat h2 hl]
  have eup : (kidRows K).map (up 0 m.times.toNat) = (kidRows K).map (dots m.times.toNat) := rfl
  rw [eup]
  unfold pageRows rawRows
  rw [List.map_append, flat_app]
  have ht : (sumW [(m.d, m.times)]).toNat = m.times.toNat := by rw [hW]; rfl
  have q2 : quotes m.d = List.replicate (2 ^ 0) 34 := by unfold quotes; rw [hd0]; rfl
  unfold nodeText
  rw [if_neg (by rw [hd0]; omega), ht, q2, ← dqn_repl]
  simp only [List.nil_append, headRows, List.map_cons, List.map_nil]
  have d1 : dots m.times.toNat ([110] ++ 58 :: 32 :: replyL m (cnt K)) = [110] ++ 58 :: 32 :: replyL m (cnt K) := dots_neg (by simp)
  have d2 : dots m.times.toNat [] = [] := dots_neg (by simp)
  have d3 : dots m.times.toNat (m.name ++ 58 :: 32 :: m.text) = (if m.name.head? = some 46 then List.replicate m.times.toNat 46 else []) ++ dqn 0 (m.name ++ 58 :: 32 :: m.text) := by
    by_cases e : m.name.head? = some 46
    · rw [if_pos e, dots_pos (by rw [name_head h1]; exact e)]; rfl
    · rw [if_neg e, dots_neg (by rw [name_head h1]; exact e)]; rfl
  rw [d1, d2, d3]
  simp [flat]
end Mine

-- W13
namespace Mine
open PySem PySem.W PySem.Calls PyProof.Rows

variable {cx : Cx} {d : Nat} {env : Env} {ρ : Vars} {st : Store} {pos : Pos} {P : Params}

theorem tun_neg {i : Int} {Post : V → Store → Prop} (h : Post (.d (.int (-i))) st) : tun cx d .USub (.d (.int i)) st Post := by
  intro A o al s va R ok v1
  obtain ⟨t, rfl⟩ := rd_int v1
  exact Op.ofVal ok fun Q E k => PyProof.Rows.neg_int (k _ s.heap _ (.d (.int (-i))) (fun _ _ e => e) (.int _ _) h)

def wayD (w : List (Int × Int)) : List PyData := (w.reverse).map fun p => .tuple [.int p.1, .int p.2]
theorem wayD_cons (e t : Int) (w : List (Int × Int)) : wayD ((e, t) :: w) = wayD w ++ [.tuple [.int e, .int t]] := by simp [wayD]
theorem wayD_len (w : List (Int × Int)) : (wayD w).length = w.length := by simp [wayD]
theorem pairs_shaped : ∀ xs : List PyData, (∀ x ∈ xs, ∃ a b, x = .tuple [.int a, .int b]) → PyData.canLayAll0 xs = true ∧ PyData.depthAll xs ≤ 1
  | [], _ => ⟨rfl, Nat.zero_le _⟩
  | x :: xs, h => by
    obtain ⟨a, b, rfl⟩ := h x (.head _)
    obtain ⟨h1, h2⟩ := pairs_shaped xs fun y hy => h y (.tail _ hy)
    constructor
    · simp only [PyData.canLayAll0, PyData.canLay0, Bool.and_true, h1]
    · simp only [PyData.depthAll, PyData.depth]
      omega
theorem way_shaped {xs : List PyData} (h : ∀ x ∈ xs, ∃ a b, x = .tuple [.int a, .int b]) : SeqAt.shaped (.list xs) = true := by
  obtain ⟨h1, h2⟩ := pairs_shaped xs h
  unfold SeqAt.shaped
  rw [Bool.and_eq_true]
  refine ⟨h1, decide_eq_true ?_⟩
  show PyData.depthAll xs + 1 ≤ 64
  omega
theorem wayD_pairs (w : List (Int × Int)) : ∀ x ∈ wayD w, ∃ a b, x = PyData.tuple [.int a, .int b] := by
  intro x hx
  obtain ⟨p, _, rfl⟩ := List.mem_map.mp hx
  exact ⟨p.1, p.2, rfl⟩
theorem eqv_nil (xs : List PyData) : PyData.eqv (.list xs) (.list []) = xs.isEmpty := by
  cases xs with
  | nil => rfl
  | cons x xs => simp [PyData.eqv, PyData.eqvAll]

def sndD : PyData → PyData
  | .tuple [_, b] => b
  | x => x
/-- what the way may hold -/
def Bd (w : List (Int × Int)) : Prop := ∀ p ∈ w, p.1 ≤ 3 ∧ 0 ≤ p.2 ∧ p.2 ≤ 2
def Qw : List (Int × Int) → Prop
  | [] => True
  | [_] => True
  | (e, _) :: x :: w => 1 ≤ e ∧ Qw (x :: w)
theorem Qw.tail {p : Int × Int} {w : List (Int × Int)} (h : Qw (p :: w)) : Qw w := by
  cases w with
  | nil => trivial
  | cons x w => exact h.2
theorem Bd.tail {p : Int × Int} {w : List (Int × Int)} (h : Bd (p :: w)) : Bd w := fun q hq => h q (.tail _ hq)
theorem close_keeps {dd : Int} : ∀ {w : List (Int × Int)}, Bd w → Qw w → Bd (closeW dd w).2 ∧ Qw (closeW dd w).2 ∧ (closeW dd w).2.length ≤ w.length
  | [], h1, h2 => ⟨h1, h2, Nat.le_refl _⟩
  | (e, t) :: w, h1, h2 => by
    simp only [closeW]
    split
    · obtain ⟨a, b, c⟩ := close_keeps (dd := dd) h1.tail h2.tail
      exact ⟨a, b, by simp; omega⟩
    · exact ⟨h1, h2, Nat.le_refl _⟩
theorem Qw.push {n t : Int} {w : List (Int × Int)} (h : Qw w) (hn : w = [] ∨ 1 ≤ n) : Qw ((n, t) :: w) := by
  cases w with
  | nil => trivial
  | cons x w => exact ⟨hn.resolve_left (by simp), h⟩
theorem sumW_bd : ∀ {w : List (Int × Int)}, Bd w → 0 ≤ sumW w ∧ sumW w ≤ 2 * w.length
  | [], _ => ⟨Int.le_refl _, Int.le_refl _⟩
  | p :: w, h => by
    obtain ⟨a, b⟩ := sumW_bd h.tail
    obtain ⟨c1, c2, c3⟩ := h p (.head _)
    have : sumW (p :: w) = p.2 + sumW w := by simp [sumW]
    simp only [List.length_cons]
    omega
theorem quotes_len {e : Int} (h : e ≤ 3) : (quotes e).length ≤ 8 := by
  unfold quotes
  rw [List.length_replicate]
  have : e.toNat ≤ 3 := by omega
  have := Nat.pow_le_pow_right (n := 2) (by decide) this
  omega
theorem belowL_bd (dk : Int) : ∀ l : List Nd, 0 ≤ belowL dk l ∧ belowL dk l ≤ l.length
  | [] => ⟨Int.le_refl _, Int.le_refl _⟩
  | n :: r => by
    have := belowL_bd dk r
    simp only [belowL, List.length_cons]
    split
    · omega
    · split <;> omega

/-- what stands at a turn -/
structure TL (ρ : Vars) (ns : List Nd) (c : Nat) (k : Nat) (n : Nd) (T : List Nat) : Prop where
  nodes : ρ.lookup ("nodes" : PySem.Str) = some (.d (.list (nds ns)))
  way : ρ.lookup ("way" : PySem.Str) = some (.c c)
  k : ρ.lookup ("k" : PySem.Str) = some (.d (.int (k : Int)))
  depth : ρ.lookup ("depth" : PySem.Str) = some (.d (.int n.d))
  name : ρ.lookup ("name" : PySem.Str) = some (.d (.str (S n.name)))
  text : ρ.lookup ("text" : PySem.Str) = some (.d (.str (S n.text)))
  told : ρ.lookup ("told" : PySem.Str) = some (.d (.str (S T)))
theorem TL.upd {ns : List Nd} {c k : Nat} {n : Nd} {T T' : List Nat} (h : TL ρ ns c k n T) : TL (upd ρ "told" (.d (.str (S T')))) ns c k n T' :=
  ⟨by rw [upd_get]; exact h.nodes, by rw [upd_get]; exact h.way, by rw [upd_get]; exact h.k, by rw [upd_get]; exact h.depth, by rw [upd_get]; exact h.name, by rw [upd_get]; exact h.text, by rw [upd_get]; rfl⟩
theorem set_last (st : Store) (c c' : Cell) : (st ++ [c]).set st.length c' = st ++ [c'] := by simp
theorem get_last (st : Store) (c : Cell) : (st ++ [c])[st.length]? = some c := by simp
theorem te_strS {x : PySem.Str} {l : List Nat} {kk : Nat} {Post : V → Store → Prop} (e : x = S l) (h : Post (.d (.str (S l))) st) : te cx d env ρ st (.Constant (.str x) kk pos) Post := by
  subst e; exact te_str h
theorem tef_constS {x : PySem.Str} {l : List Nat} {kk : Nat} {Post : PySem.Str → Store → Prop} (e : x = S l) (h : Post (S l) st) : tef cx d env ρ st (.Constant (.str x) kk pos) Post := by
  subst e; exact tef_const h
theorem pow_bd {e : Int} (h : e ≤ 3) : (2 : Int) ^ e.toNat ≤ 1000 ∧ -1000 ≤ (2 : Int) ^ e.toNat ∧ ((2 : Int) ^ e.toNat).toNat = 2 ^ e.toNat := by
  have h1 : e.toNat ≤ 3 := by omega
  have h2 : e.toNat = 0 ∨ e.toNat = 1 ∨ e.toNat = 2 ∨ e.toNat = 3 := by omega
  rcases h2 with q | q | q | q <;> rw [q] <;> decide
theorem repl_len (m : Nat) (z : List Nat) : ∀ l : List Nat, (repl m z l).length ≤ (z.length + 1) * l.length
  | [] => by simp [repl]
  | c :: r => by
    have ih := repl_len m z r
    unfold repl at ih ⊢
    rw [List.flatMap_cons, List.length_append, List.length_cons, Nat.mul_succ]
    have e : (z.length + 1) * r.length + (z.length + 1) = (z.length + 1) * r.length + z.length + 1 := by omega
    split
    · omega
    · simp only [List.length_cons, List.length_nil]; omega

theorem idx_neg (n : Nat) : seqIndex? (-1) (n + 1) = some n := by
  unfold seqIndex?
  simp
  omega
theorem belowNat (dk : Int) {l : List Nd} (h : l.length ≤ 10) : ∃ bn : Nat, belowL dk l = (bn : Int) ∧ bn ≤ 10 := by
  have := belowL_bd dk l
  exact ⟨(belowL dk l).toNat, by omega, by omega⟩
theorem expB {e : Int} (h1 : 1 ≤ e) (h3 : e ≤ 3) : 0 ≤ e - 1 ∧ e - 1 ≤ 100 ∧ e - 1 ≤ 3 := by omega
theorem depB {e : Int} (h1 : 0 ≤ e) (h3 : e ≤ 3) : e ≤ 100 := by omega
set_option maxHeartbeats 8000000 in
theorem f_told (hK : cx.K = hd.heap_39 P) {ns : List Nd} {Post : V → Store → Prop} (hn : ns.length ≤ 10) (hok : ∀ n ∈ ns, NdOk n) (hd0 : ∀ (k : Nat) (n : Nd), ns[k]? = some n → n.d ≤ 3 ∧ ((k = 0 ∧ n.d = 0) ∨ 1 ≤ n.d)) (h : Post (.d (.str (S (told ns)))) st) :
    tcall cx (d + 3) (.ext (.ref 274)) [.d (.list (nds ns))] [] st Post := by
  have hlen : (nds ns).length = ns.length := by simp [nds]
  have hle : (20002 : Nat) ≤ sizeLine := by decide
  have hcr : ("\u000d\n" : PySem.Str) = S [13, 10] := by decide +kernel
  have hcr2 : ("\u000d\n\u000d\n" : PySem.Str) = S [13, 10, 13, 10] := by decide +kernel
  have hcol : (": " : PySem.Str) = S [58, 32] := by decide +kernel
  have hdot : ("." : PySem.Str) = S [46] := by decide +kernel
  have hq1 : ("\"" : PySem.Str) = S [34] := by decide +kernel
  have hnc : ("n: " : PySem.Str) = S [110, 58, 32] := by decide +kernel
  have h257 : ("257 " : PySem.Str) = S [50, 53, 55, 32] := by decide +kernel
  have hem : ("" : PySem.Str) = S [] := by decide +kernel
  refine tcall_def (cx := cx) (f := 274) (names := ["nodes"]) (ex := []) (exV := []) (ho := by rw [hK]; rfl) (hcd := by rw [hK]; rfl) (hbind := binds1 fun v => rfl) (hex := fun _ _ => .nil) (hco := rfl) (hgen := rfl) (hk := rfl) (hnames := by decide +kernel) (hnn := by decide +kernel) (hnd := by decide +kernel) fun L => ?_
  refine tb_cons (ts_assign (te_strS hem ?_))
  refine tb_cons (ts_assign (te_listC (by rfl) ⟨[], rfl, by show 0 ≤ sizeLine; decide, ?_⟩))
  refine tb_cons (ts_mono (Post' := fun fl ρ st' => fl = .next ∧ ∃ T w, T ++ endW w = told ns ∧ T.length + 10 * w.length ≤ 5000 ∧ Bd w ∧ Qw w ∧ w.length ≤ 10 ∧ ρ.lookup ("way" : PySem.Str) = some (.c st.length) ∧ ρ.lookup ("told" : PySem.Str) = some (.d (.str (S T))) ∧ st' = st ++ [.live (wayD w)])
    (ts_forR (te_call (by rfl) (te_builtin (v := .type "range") (by rw [hK]; kernel_rfl) (by kernel_rfl) ⟨_, rfl, rfl, ?_⟩))) ?_)
  · refine te_call (by rfl) (te_builtin (v := .builtin "len") (by rw [hK]; kernel_rfl) (by kernel_rfl) ⟨_, rfl, rfl, te_name rfl (tcall_lenL (by rw [hlen]; omega) ?_)⟩)
    rw [hlen]
    refine tcall_range1 ⟨_, _, rfl, by omega, by omega, by omega, by omega, ?_⟩
    refine ⟨fun restr ρ st' => ∃ (k : Nat) (T : List Nat) (w : List (Int × Int)), restr = rngI k (ns.length : Nat) ∧ (T ++ (toldF (ns.drop k) w).1) ++ endW (toldF (ns.drop k) w).2 = told ns ∧ T.length + 10 * w.length ≤ 500 * k ∧ k ≤ ns.length ∧ Bd w ∧ Qw w ∧ w.length ≤ k ∧
      ρ.lookup ("nodes" : PySem.Str) = some (.d (.list (nds ns))) ∧ ρ.lookup ("way" : PySem.Str) = some (.c st.length) ∧ ρ.lookup ("told" : PySem.Str) = some (.d (.str (S T))) ∧ st' = st ++ [.live (wayD w)], ?_, ?_, ?_⟩
    · exact ⟨0, [], [], rfl, rfl, by simp, Nat.zero_le _, (fun p hp => by cases hp), trivial, Nat.le_refl _, rfl, rfl, rfl, rfl⟩
    · rintro x restr ρ st' ⟨k, T, w, e, e1, e2, e3, b1, b2, b3, l1, l2, l3, rfl⟩
      by_cases hk : (k : Int) < (ns.length : Nat)
      · rw [rngI_cons hk] at e
        cases e
        obtain ⟨n, hkn⟩ : ∃ n, ns[k]? = some n := ⟨_, List.getElem?_eq_getElem (by omega)⟩
        have hdrop : ns.drop k = n :: ns.drop (k + 1) := by
          rw [List.drop_eq_getElem_cons (by omega : k < ns.length)]
          rw [List.getElem?_eq_getElem (by omega)] at hkn
          rw [Option.some.inj hkn]
        have hm : NdOk n := hok n (List.mem_of_getElem? hkn)
        obtain ⟨dl, dk⟩ := hd0 k n hkn
        have hw0 : w = [] ∨ 1 ≤ n.d := by
          rcases dk with ⟨q, _⟩ | q
          · exact .inl (List.eq_nil_of_length_eq_zero (by omega))
          · exact .inr q
        rw [hdrop] at e1
        simp only [toldF] at e1
        obtain ⟨c1, c2, c3⟩ := close_keeps (dd := n.d) b1 b2
        refine tasg_name ?_
        refine tb_cons (ts_assignT (te_slice (te_sub (te_name (v := .d (.list (nds ns))) (by rw [upd_get]; exact l1) (te_name (v := .d (.int (k : Int))) (by rw [upd_get]; rfl) (tsub_nd (by omega) hkn (te_int ⟨_, rfl, tsl_tupleUpto (b := 3) (by show 3 < 7; decide) (by show 7 ≤ sizeLine; decide) ?_⟩))))))) 
        refine tasg_tuple (names := ["depth", "name", "text"]) rfl rfl ?_
        have tl : TL (updAll (upd ρ "k" (.d (.int (k : Int)))) ((["depth", "name", "text"] : List PySem.Str).zip (([.int n.d, .str (S n.name), .str (S n.text)] : List PyData).map .d))) ns st.length k n T := by
          show TL (upd (upd (upd (upd ρ "k" _) "depth" _) "name" _) "text" _) _ _ _ _ _
          refine ⟨?_, ?_, ?_, ?_, ?_, ?_, ?_⟩ <;> simp only [upd_get]
          · exact l1
          · exact l2
          · rfl
          · rfl
          · rfl
          · rfl
          · exact l3
        refine tb_cons (ts_mono (Post' := fun fl ρ st' => fl = .next ∧ TL ρ ns st.length k n (T ++ (closeW n.d w).1) ∧ (T ++ (closeW n.d w).1).length + 10 * (closeW n.d w).2.length ≤ T.length + 10 * w.length ∧ st' = st ++ [.live (wayD (closeW n.d w).2)])
          (ts_while (fun m ρ st' => ∃ T' w', m = w'.length ∧ T' ++ (closeW n.d w').1 = T ++ (closeW n.d w).1 ∧ (closeW n.d w').2 = (closeW n.d w).2 ∧ T'.length + 10 * w'.length ≤ T.length + 10 * w.length ∧ Bd w' ∧ w'.length ≤ w.length ∧ TL ρ ns st.length k n T' ∧ st' = st ++ [.live (wayD w')]) w.length ⟨T, w, rfl, rfl, rfl, Nat.le_refl _, b1, Nat.le_refl _, tl, rfl⟩ ?_) ?_)
        · rintro m ρ st' ⟨T', w', rfl, p1, p2, p3, p4, p5, tl, rfl⟩
          refine tt_and (tt_cmp (te_name tl.way (te_list (by rfl) ⟨[], rfl, by show 0 ≤ sizeLine; decide, tcmp_neC (get_last st _) (way_shaped (wayD_pairs w')) (by decide) (ttr_bool ?_)⟩)))
          rw [eqv_nil]
          cases w' with
          | nil =>
            refine ⟨fun hh => absurd hh (by decide), fun _ => ⟨nofun, fun _ => ⟨rfl, ?_, ?_, ?_⟩⟩⟩
            · have : T' = T ++ (closeW n.d w).1 := by simpa [closeW] using p1
              rw [← this]; exact tl
            · have : T' = T ++ (closeW n.d w).1 := by simpa [closeW] using p1
              rw [← this, ← p2]; exact p3
            · rw [← p2]; rfl
          | cons et w2 =>
            obtain ⟨e, t⟩ := et
            have hne : (wayD ((e, t) :: w2)).isEmpty = false := by rw [wayD_cons]; simp
            rw [hne]
            refine ⟨fun _ => ?_, fun hh => absurd hh (by decide)⟩
            have he3 : e ≤ 3 := (p4 (e, t) (.head _)).1
            have hwl : w2.length ≤ 9 := Nat.le_of_succ_le_succ (Nat.le_trans p5 (Nat.le_trans b3 (Nat.le_trans e3 hn)))
            refine tt_and (tt_cmp (te_sub (te_sub (te_name tl.way (te_un (te_int (tun_neg (tsub_cell (get_last st _) (by omega) (by omega) (j := w2.length) ?_ (x := .tuple [.int e, .int t]) ?_ (te_int (tsub_tuple (by decide) (by decide) (j := 0) rfl rfl (te_name tl.depth (tcmp_geI (ttr_bool ?_))))))))))))) 
            · rw [wayD_len]
              exact idx_neg w2.length
            · rw [wayD_cons, List.getElem?_append_right (by rw [wayD_len]; omega), wayD_len]; simp
            · refine ⟨fun hh => tt_and_nil ⟨fun _ => ?_, nofun⟩, fun hh => ⟨nofun, fun _ => ?_⟩⟩
              · have hge : e ≥ n.d := by simpa using hh
                have he1 : 1 ≤ e := by
                  rcases hw0 with q | q
                  · rw [q] at p5; simp at p5
                  · omega
                obtain ⟨ex1, ex2, ex3⟩ := expB he1 he3
                obtain ⟨pb1, pb2, pb3⟩ := pow_bd ex3
                have hql := quotes_len ex3
                simp only [List.length_cons] at p3 p5
                have hT5 : T'.length ≤ 5000 := by clear hql pb1 pb2 ex1 ex2 ex3 he1 he3 hge hw0 dl dk hwl p5; omega
                refine tb_cons (ts_aug tl.told (te_bin (te_bin (te_bin (te_int (te_bin (te_sub (te_meth (by rfl) (te_name tl.way ⟨.builtin "list.pop", [.c st.length], rfl, tgm_cell (get_last st _) PySem.F.slot_list_pop PySem.F.type_list_pop, tcall_pop (xs := wayD w2) (x := .tuple [.int e, .int t]) (by rw [get_last, wayD_cons]) (by rw [wayD_len]; omega) (te_int (tsub_tuple (by decide) (by decide) (j := 0) rfl rfl (te_int (tbin_sub (tbin_pow ex1 ex2 (te_strS hq1 (tbin_repR pb1 pb2 ?_)))))))⟩)))))))))
                rw [pb3]
                refine te_strS hcr (tbin_cat (sz2 (n := 2) hql (by decide)) ?_)
                rw [S_app]
                refine tinp_cat (sz2 hT5 (la (n := 2) hql (by decide))) ?_
                rw [S_app, set_last]
                have hcl : closeW n.d ((e, t) :: w2) = ((quotes (e - 1) ++ [13, 10]) ++ (closeW n.d w2).1, (closeW n.d w2).2) := by simp only [closeW]; rw [if_pos hge]
                refine tb_nil ⟨w2.length, Nat.lt_succ_self _, T' ++ (quotes (e - 1) ++ [13, 10]), w2, rfl, ?_, ?_, ?_, p4.tail, by omega, tl.upd, rfl⟩
                · rw [← p1, hcl]; simp
                · rw [← p2, hcl]
                · simp; omega
              · have hge : ¬ e ≥ n.d := by simpa using hh
                have hcl : closeW n.d ((e, t) :: w2) = ([], (e, t) :: w2) := by simp only [closeW]; rw [if_neg hge]
                rw [hcl] at p1 p2
                have : T' = T ++ (closeW n.d w).1 := by simpa using p1
                rw [← this, ← p2]
                exact ⟨rfl, tl, p3, rfl⟩
        · rintro _ ρ st' ⟨rfl, tl, p3, rfl⟩
          generalize hT0 : T ++ (closeW n.d w).1 = T0 at *
          generalize hw0' : (closeW n.d w).2 = w0 at *
          obtain ⟨bn, hbn⟩ := belowNat n.d (l := ns.drop (k + 1)) (by rw [List.length_drop]; exact Nat.le_trans (Nat.sub_le _ _) hn)
          obtain ⟨hbn, hbn2⟩ := hbn
          obtain ⟨c0, r0, hname⟩ : ∃ c0 r0, n.name = c0 :: r0 := by
            obtain ⟨kk, c, e, _⟩ := hm.name
            cases kk with
            | zero => exact ⟨c, [], e⟩
            | succ kk => exact ⟨46, List.replicate kk 46 ++ [c], by rw [e, List.replicate_succ]; rfl⟩
          have hql2 := quotes_len dl
          have b1n : Bd ((n.d, n.times) :: w0) := by
            intro p hp
            rcases List.mem_cons.mp hp with rfl | hp
            · exact ⟨dl, hm.tB2⟩
            · exact c1 p hp
          have b2n : Qw ((n.d, n.times) :: w0) := by
            refine Qw.push c2 ?_
            rcases hw0 with q | q
            · exact .inl (List.eq_nil_of_length_eq_zero (by rw [q] at c3; simpa using c3))
            · exact .inr q
          refine tb_cons (ts_expr (te_meth (by rfl) (te_name tl.way ⟨.builtin "list.append", [.c st.length], rfl, tgm_cell (get_last st _) PySem.F.slot_list_append PySem.F.type_list_append, te_tuple (by rfl) (te_name tl.depth (te_nd (i := 4) tl.nodes tl.k (by omega) hkn rfl ⟨_, rfl, by show 2 ≤ sizeLine; decide, tcall_append (get_last st _) (by rw [wayD_len]; exact Nat.le_trans c3 (Nat.le_trans b3 (Nat.le_trans e3 (Nat.le_trans hn (by decide))))) ?_⟩))⟩)))
          rw [set_last]
          rw [show wayD w0 ++ [PyData.tuple [.int n.d, .int n.times]] = wayD ((n.d, n.times) :: w0) from (wayD_cons _ _ _).symm]
          -- the mark of a reply
          have htl0 : T0.length ≤ 5000 := by clear dl hbn hbn2 hql2; omega
          have hw10 : w0.length ≤ 9 := by clear dl hbn hbn2 hql2 p3 e2 htl0; omega
          have hB : T0.length + 10 * w0.length ≤ 500 * k := by clear dl hbn hbn2 hql2 c3 b3 e3 hw10; omega
          have hw0k : w0.length ≤ k := Nat.le_trans c3 b3
          clear p3 e2 b3 c3 e3
          refine tb_cons (ts_mono (Post' := fun fl ρ st' => fl = .next ∧ TL ρ ns st.length k n (T0 ++ (if n.d > 0 then [50, 53, 55, 32] ++ quotes (n.d - 1) else [])) ∧ st' = st ++ [.live (wayD ((n.d, n.times) :: w0))])
            (ts_if (tt_cmp (te_name tl.depth (te_int (tcmp_gtI (ttr_bool ⟨fun hh => ?_, fun hh => ?_⟩)))))) ?_)
          · have hpos : n.d > 0 := by simpa using hh
            obtain ⟨ex1, ex2, ex3⟩ := expB hpos dl
            obtain ⟨pb1, pb2, pb3⟩ := pow_bd ex3
            have hql := quotes_len ex3
            refine tb_cons (ts_aug tl.told (te_bin (te_strS h257 (te_bin (te_bin (te_int (te_bin (te_name tl.depth (te_int (tbin_sub (tbin_pow ex1 ex2 (te_strS hq1 (tbin_repR pb1 pb2 ?_)))))))))))))
            rw [pb3]
            refine tbin_cat (sz2 (m := 4) (by decide) hql) ?_
            rw [S_app]
            refine tinp_cat (sz2 htl0 (la (m := 4) (by decide) hql)) ?_
            rw [S_app]
            refine tb_nil ⟨rfl, ?_, rfl⟩
            rw [if_pos hpos]
            exact tl.upd
          · have hpos : ¬ n.d > 0 := by simpa using hh
            refine tb_nil ⟨rfl, ?_, rfl⟩
            rw [if_neg hpos, List.append_nil]
            exact tl
          rintro _ ρ st' ⟨rfl, tl, rfl⟩
          have hA1l : (if n.d > 0 then [50, 53, 55, 32] ++ quotes (n.d - 1) else []).length ≤ 12 := by
            split
            · next hp => exact la (m := 4) (by decide) (quotes_len (expB hp dl).2.2)
            · exact Nat.zero_le _
          have hrep := (hm.reply (b := bn) (Nat.le_trans hbn2 (by decide))).2
          generalize hA1 : (if n.d > 0 then [50, 53, 55, 32] ++ quotes (n.d - 1) else []) = A1 at *
          refine tb_cons (ts_aug tl.told (te_bin (te_bin (te_strS hnc (te_call (by rfl) (te_glob (v := .ref 262) (by rw [hK]; kernel_rfl) ⟨_, rfl, by rw [hK]; kernel_rfl, te_name tl.nodes (te_name tl.k (f_reply (d := d) hK (hund hn) hkn hm.qB hm.tB (by rw [hbn]; exact bB (hund hbn2)) ?_))⟩))))))
          rw [hbn]
          have hr23 : ([110, 58, 32] ++ replyL n bn).length ≤ 23 := la (m := 3) (by decide) hrep
          have hr25 : (([110, 58, 32] ++ replyL n bn) ++ [13, 10]).length ≤ 25 := la hr23 (n := 2) (by decide)
          have htl1 : (T0 ++ A1).length ≤ 5012 := la htl0 hA1l
          refine tbin_cat (sz2 (m := 3) (by decide) hrep) ?_
          rw [S_app]
          refine te_strS hcr (tbin_cat (sz2 (n := 2) hr23 (by decide)) ?_)
          rw [S_app]
          refine tinp_cat (sz2 htl1 hr25) ?_
          rw [S_app]
          have tl2 := tl.upd (T' := (T0 ++ A1) ++ (([110, 58, 32] ++ replyL n bn) ++ [13, 10]))
          have htl2 : ((T0 ++ A1) ++ (([110, 58, 32] ++ replyL n bn) ++ [13, 10])).length ≤ 5037 := la htl1 hr25
          have htr2 : ((T0 ++ A1) ++ (([110, 58, 32] ++ replyL n bn) ++ [13, 10])).length ≤ T0.length + 12 + 25 := la (la (Nat.le_refl _) hA1l) hr25
          clear hr25 hr23 htl1 hrep hA1l
          generalize hT2 : (T0 ++ A1) ++ (([110, 58, 32] ++ replyL n bn) ++ [13, 10]) = T2 at *
          generalize hρ2 : upd ρ "told" _ = ρ2 at *
          have hsw : 0 ≤ sumW ((n.d, n.times) :: w0) ∧ sumW ((n.d, n.times) :: w0) ≤ 20 := by
            have := sumW_bd b1n
            simp only [List.length_cons] at this
            clear dl hbn hbn2 hql2 htl0 hB htl2 htr2
            omega
          have hswl : (List.replicate (sumW ((n.d, n.times) :: w0)).toNat 46).length ≤ 20 := by
            rw [List.length_replicate]
            exact Int.toNat_le.mpr hsw.2
          refine tb_cons (ts_mono (Post' := fun fl ρ st' => fl = .next ∧ TL ρ ns st.length k n (T2 ++ (if n.name.head? = some 46 then List.replicate (sumW ((n.d, n.times) :: w0)).toNat 46 else [])) ∧ st' = st ++ [.live (wayD ((n.d, n.times) :: w0))])
            (ts_if (tt_cmp (te_sub (te_name tl2.name (te_int (tsub_at (j := 0) (Nat.le_trans hm.nameRow.2 (by decide)) (c := c0) (by rw [hname]; rfl) (te_strS hdot (tcmp_eqS (ttr_bool ⟨fun hh => ?_, fun hh => ?_⟩))))))))) ?_)
          · rw [eqS1] at hh
            have hc0 : c0 = 46 := by simpa using hh
            refine tb_cons (ts_aug tl2.told (te_bin (te_call (by rfl) (te_builtin (v := .builtin "sum") (by rw [hK]; kernel_rfl) (by kernel_rfl) ⟨_, rfl, rfl, ?_⟩))))
            refine te_compC (cl := []) (fr := []) (f := sndD) (te_name tl2.way ⟨st.length, _, rfl, get_last st _, by rw [wayD_len]; exact Nat.le_trans (Nat.succ_le_succ hw10) (by decide), fun x hx => ?_, ?_⟩) (compOk0 (by decide +kernel))
            · obtain ⟨a, b, rfl⟩ := wayD_pairs _ x hx
              exact ⟨["one"], [_], .name, by decide, by kernel_rfl, fun C st => te_sub (te_name rfl (te_int (tsub_tuple (by decide) (by decide) (j := 1) rfl rfl ⟨rfl, rfl⟩)))⟩
            · have esum : (wayD ((n.d, n.times) :: w0)).map sndD = ((((n.d, n.times) :: w0).reverse).map (·.2)).map .int := by
                simp only [wayD, List.map_map]
                rfl
              rw [esum]
              refine tcall_sum ?_
              have es2 : ((((n.d, n.times) :: w0).reverse).map (·.2)).sum = sumW ((n.d, n.times) :: w0) := by
                unfold sumW
                rw [List.map_reverse, List.sum_reverse]
              rw [es2]
              refine te_strS hdot (tbin_repR (Int.le_trans hsw.2 (by decide)) (Int.le_trans (by decide) hsw.1) ?_)
              refine tinp_cat (sz2 htl2 hswl) ?_
              rw [S_app]
              refine tb_nil ⟨rfl, ?_, rfl⟩
              rw [if_pos (by rw [hname, hc0]; rfl)]
              exact tl2.upd
          · rw [eqS1] at hh
            have hc0 : ¬ c0 = 46 := by simpa using hh
            refine tb_nil ⟨rfl, ?_, rfl⟩
            rw [if_neg (by rw [hname]; simpa using hc0), List.append_nil]
            exact tl2
          rintro _ ρ3 st' ⟨rfl, tl3, rfl⟩
          have hA3l : (if n.name.head? = some 46 then List.replicate (sumW ((n.d, n.times) :: w0)).toNat 46 else []).length ≤ 20 := by
            split
            · exact hswl
            · exact Nat.zero_le _
          have htl3 : (T2 ++ (if n.name.head? = some 46 then List.replicate (sumW ((n.d, n.times) :: w0)).toNat 46 else [])).length ≤ 5057 := la htl2 hA3l
          have htr3 : (T2 ++ (if n.name.head? = some 46 then List.replicate (sumW ((n.d, n.times) :: w0)).toNat 46 else [])).length ≤ T0.length + 12 + 25 + 20 := la htr2 hA3l
          clear hsw hswl hA3l htl2 htr2
          generalize hA3 : (if n.name.head? = some 46 then List.replicate (sumW ((n.d, n.times) :: w0)).toNat 46 else []) = A3 at *
          obtain ⟨pb1, pb2, pb3⟩ := pow_bd dl
          have hnm := hm.nameRow.2
          have htx := hm.textRow.2
          have h5 : (n.name ++ [58, 32]).length ≤ 5 := la hnm (n := 2) (by decide)
          have h8 : (n.name ++ 58 :: 32 :: n.text).length ≤ 8 := la hnm (n := 5) (Nat.succ_le_succ (Nat.succ_le_succ htx))
          have d0 : 0 ≤ n.d := by clear dl hbn hbn2 hql2 htl0 hB; omega
          have hrl := repl_len 34 (quotes n.d) (n.name ++ 58 :: 32 :: n.text)
          have hrl2 : (repl 34 (quotes n.d) (n.name ++ 58 :: 32 :: n.text)).length ≤ 72 := by
            have h9 : (quotes n.d).length + 1 ≤ 9 := Nat.succ_le_succ hql2
            exact Nat.le_trans hrl (Nat.mul_le_mul h9 h8)
          refine tb_cons (ts_aug tl3.told (te_bin (te_replace (te_bin (te_bin (te_name tl3.name (te_strS hcol (tbin_cat (sz2 hnm (n := 2) (by decide)) ?_)))))))) 
          rw [S_app]
          refine te_name tl3.text (tbin_cat (sz2 h5 htx) ?_)
          rw [S_app]
          refine ⟨_, rfl, tef_constS hq1 (tef_rep (te_bin (te_int (te_name tl3.depth (tbin_pow d0 (depB d0 dl) ⟨_, rfl, pb1, pb2, tef_constS hq1 ⟨by rw [S_len]; decide, ?_⟩⟩)))))⟩
          rw [mul_one, pb3, List.append_assoc]
          refine ⟨?_, ?_⟩
          · rw [S_len, S_len]
            exact Nat.le_trans (Nat.add_le_add h8 (Nat.mul_le_mul (Nat.succ_le_succ h8) hql2)) (by decide)
          rw [replace_list]
          refine te_strS hcr2 (tbin_cat (sz2 hrl2 (n := 4) (by decide)) ?_)
          rw [S_app]
          refine tinp_cat (sz2 htl3 (la hrl2 (n := 4) (by decide))) ?_
          rw [S_app]
          have tl4 := tl3.upd (T' := (T2 ++ A3) ++ (repl 34 (quotes n.d) (n.name ++ 58 :: 32 :: n.text) ++ [13, 10, 13, 10]))
          have enode : T0 ++ nodeText n bn ((n.d, n.times) :: w0) = (T2 ++ A3) ++ (repl 34 (quotes n.d) (n.name ++ 58 :: 32 :: n.text) ++ [13, 10, 13, 10]) := by
            unfold nodeText
            rw [hA1, hA3, ← hT2]
            simp
          have hfin := la htr3 (la hrl2 (n := 4) (b := [13, 10, 13, 10]) (by decide))
          refine tb_nil ⟨k + 1, _, (n.d, n.times) :: w0, by push_cast; rfl, ?_, ?_, Int.ofNat_lt.mp hk, b1n, b2n, Nat.succ_le_succ hw0k, tl4.nodes, tl4.way, tl4.told, rfl⟩
          · rw [← enode, ← e1, ← hT0, hbn]
            simp
          · refine Nat.le_trans (Nat.add_le_add_right hfin _) ?_
            simp only [List.length_cons]
            clear hfin htr3 htl3 hrl2 h8 h5 hnm htx dl hbn hbn2 hql2 htl0 d0 hrl pb1 pb2
            omega
      · rw [rngI_nil (by omega)] at e; cases e
    · rintro ρ st' ⟨k, T, w, e, e1, e2, e3, b1, b2, b3, l1, l2, l3, rfl⟩
      have hk : ¬ (k : Int) < (ns.length : Nat) := fun hk => by rw [rngI_cons hk] at e; cases e
      have hdrop : ns.drop k = [] := by rw [List.drop_eq_nil_iff]; omega
      rw [hdrop] at e1
      simp only [toldF, List.append_nil] at e1
      exact ⟨rfl, T, w, e1, by omega, b1, b2, by omega, l2, l3, rfl⟩
  · rintro _ ρ st' ⟨rfl, T, w, e1, e2, b1, b2, b3, l2, l3, rfl⟩
    refine tb_cons (ts_mono (Post' := fun fl ρ st' => fl = .next ∧ ρ.lookup ("told" : PySem.Str) = some (.d (.str (S (told ns)))) ∧ st'.take st.length = st)
      (ts_while (fun m ρ st' => ∃ T w, m = w.length ∧ T ++ endW w = told ns ∧ T.length + 10 * w.length ≤ 5000 ∧ Bd w ∧ Qw w ∧ w.length ≤ 10 ∧ ρ.lookup ("way" : PySem.Str) = some (.c st.length) ∧ ρ.lookup ("told" : PySem.Str) = some (.d (.str (S T))) ∧ st' = st ++ [.live (wayD w)]) w.length ⟨T, w, rfl, e1, e2, b1, b2, b3, l2, l3, rfl⟩ ?_) ?_)
    · rintro m ρ st' ⟨T, w, rfl, e1, e2, b1, b2, b3, l2, l3, rfl⟩
      refine tt_cmp (te_slice (te_name l2 (te_int ⟨_, rfl, ?_⟩)))
      dsimp only [tpart]
      refine tsl_cell (get_last st _) (by rw [wayD_len]; omega) ?_
      have epk : pick (wayD w) (some 1) none = (wayD w).drop 1 := by
        cases w with
        | nil => rfl
        | cons p w => exact pick_from (i := 1) (by rw [wayD_len]; simp)
      rw [epk]
      refine te_list (by rfl) ⟨[], rfl, by show 0 ≤ sizeLine; decide, tcmp_neD (way_shaped fun x hx => wayD_pairs w x (List.mem_of_mem_drop hx)) (by decide) (ttr_bool ?_)⟩
      rw [eqv_nil]
      have hie : ((wayD w).drop 1).isEmpty = decide (w.length ≤ 1) := by
        rw [Bool.eq_iff_iff, List.isEmpty_iff, List.drop_eq_nil_iff, wayD_len, decide_eq_true_iff]
      rw [hie]
      refine ⟨fun hh => ?_, fun hh => ?_⟩
      · have hh' : ¬ w.length ≤ 1 := by simpa using hh
        obtain ⟨e, t, p, w', rfl⟩ : ∃ e t p w', w = (e, t) :: p :: w' := by
          match w, hh' with
          | (e, t) :: p :: w', _ => exact ⟨e, t, p, w', rfl⟩
          | [_], q => exact absurd (Nat.le_refl _) q
          | [], q => exact absurd (Nat.zero_le _) q
        have he1 : 1 ≤ e := b2.1
        have b2s := b2
        have he3 : e ≤ 3 := (b1 (e, t) (.head _)).1
        obtain ⟨ex1, ex2, ex3⟩ := expB he1 he3
        obtain ⟨pb1, pb2, pb3⟩ := pow_bd ex3
        have hql := quotes_len ex3
        simp only [List.length_cons] at e2 b3
        have hend : endW ((e, t) :: p :: w') = (quotes (e - 1) ++ [13, 10]) ++ endW (p :: w') := rfl
        have b2' : Qw (p :: w') := b2.2
        have hwl : (p :: w').length ≤ 9 := by simp only [List.length_cons]; omega
        have hwl2 : (p :: w').length = w'.length + 1 := rfl
        generalize hw' : p :: w' = w2 at *
        refine tb_cons (ts_aug l3 (te_bin (te_bin (te_bin (te_int (te_bin (te_sub (te_meth (by rfl) (te_name l2 ⟨.builtin "list.pop", [.c st.length], rfl, tgm_cell (get_last st _) PySem.F.slot_list_pop PySem.F.type_list_pop, tcall_pop (xs := wayD w2) (x := .tuple [.int e, .int t]) (by rw [get_last, wayD_cons]) (by rw [wayD_len]; omega) (te_int (tsub_tuple (by decide) (by decide) (j := 0) rfl rfl (te_int (tbin_sub (tbin_pow ex1 ex2 (te_strS hq1 (tbin_repR pb1 pb2 ?_)))))))⟩)))))))))
        rw [pb3]
        refine te_strS hcr (tbin_cat (sz2 (n := 2) hql (by decide)) ?_)
        rw [S_app]
        refine tinp_cat (sz2 (m := 5000) (by clear hql pb1 pb2 ex1 ex2 ex3 he1 he3 b3 hwl hwl2; omega) (la (n := 2) hql (by decide))) ?_
        rw [S_app, set_last]
        refine tb_nil ⟨w2.length, Nat.lt_succ_self _, T ++ (quotes (e - 1) ++ [13, 10]), w2, rfl, ?_, ?_, b1.tail, b2', by omega, ?_, ?_, rfl⟩
        · rw [← e1, hend]; simp
        · simp; omega
        · rw [upd_get]; exact l2
        · rw [upd_get]; rfl
      · have hh' : w.length ≤ 1 := by simpa using hh
        have hend : endW w = [] := by
          match w, hh' with
          | [], _ => rfl
          | [_], _ => rfl
        refine ⟨rfl, ?_, by simp⟩
        rw [l3, ← e1, hend, List.append_nil]
    · rintro _ ρ st' ⟨rfl, l3, e4⟩
      refine tb_cons (ts_ret (te_name l3 ⟨_, rfl, ?_⟩))
      rw [e4]; exact h
end Mine

-- W14
namespace Mine
open PySem PySem.W PySem.Calls PyProof.Rows

variable {cx : Cx} {d : Nat} {env : Env} {ρ : Vars} {st : Store} {pos : Pos} {P : Params}

theorem clip_min (n i : Nat) : clipAt n (i : Int) = min i n := by
  unfold clipAt
  rw [if_neg (by omega)]
  omega
theorem pick_upTo {α : Type} {xs : List α} {i : Nat} : pick xs none (some (i : Int)) = xs.take i := by
  unfold pick
  simp only [Option.elim]
  rw [clip_min]
  simp only [List.drop_zero, Nat.sub_zero]
  exact (List.take_eq_take_min).symm

def drawnL (ns : List Int) : List Int := (ns.take 4).map (· % 1000000) ++ [9, 1013, 311, 1110].drop (ns.take 4).length
theorem drawn_len (ns : List Int) : (drawnL ns).length = 4 := by
  unfold drawnL
  simp
  omega
theorem drawn_bd (ns : List Int) : ∀ v ∈ drawnL ns, 0 ≤ v ∧ v < 1000000 := by
  intro v hv
  unfold drawnL at hv
  rcases List.mem_append.mp hv with hv | hv
  · obtain ⟨x, _, rfl⟩ := List.mem_map.mp hv
    omega
  · have := List.mem_of_mem_drop hv
    simp at this
    omega
def ndOf (dep v : Int) : Nd :=
  { d := dep, name := List.replicate (v / 3 % 3).toNat 46 ++ [[97, 65, 34, 46].getD (v / 9 % 4).toNat 0], text := List.replicate (v / 36 % 3).toNat 34 ++ [(if v / 108 < 95 then v / 108 + 32 else v / 108 + 33).toNat], q := v / 108,
    times := 1 + v / 5 % 2, mark := [124, 46, 58].getD (v % 7 % 3).toNat 0, feed := [[10], [13], [13, 10]].getD (v % 4 % 3).toNat [] }
def nextDep (dep v : Int) : Int := if dep < 0 then 0 else 1 + min dep (v % 3)
def treeF : Int → List Int → List Nd
  | _, [] => []
  | dep, v :: r => ndOf (nextDep dep v) v :: treeF (nextDep dep v) r
theorem fmodE (a : Int) {b : Int} (h : 0 ≤ b) : a.fmod b = a % b := Int.fmod_eq_emod_of_nonneg _ h
theorem fdivE (a : Int) {b : Int} (h : 0 ≤ b) : a.fdiv b = a / b := Int.fdiv_eq_ediv_of_nonneg _ h

theorem modNat {x : Int} (m : Nat) (h : 0 < m) : ∃ a : Nat, x % (m : Int) = (a : Int) ∧ a < m := by
  have h1 := Int.emod_nonneg x (show (m : Int) ≠ 0 by omega)
  have h2 := Int.emod_lt_of_pos x (show (0 : Int) < m by omega)
  exact ⟨(x % (m : Int)).toNat, by omega, by omega⟩
theorem nat3 {a : Nat} (h : a < 3) : a = 0 ∨ a = 1 ∨ a = 2 := by omega
theorem nat4 {a : Nat} (h : a < 4) : a = 0 ∨ a = 1 ∨ a = 2 ∨ a = 3 := by omega
theorem le1000 {a k : Nat} (h : a < k) (hk : k ≤ 1000) : (a : Int) ≤ 1000 := by omega
theorem ge1000 (a : Nat) : -1000 ≤ (a : Int) := by omega
theorem idxLo (a : Nat) : -(2 ^ 63 : Int) ≤ (a : Int) := by omega
theorem idxHi {a k : Nat} (h : a < k) (hk : k ≤ 1000) : (a : Int) < 2 ^ 63 := by omega
theorem repCat {a k c x : Nat} (h : a < k) (hk : k ≤ 100) : (S (List.replicate (a : Int).toNat c)).length + (S [x]).length ≤ sizeLine := by
  have : (1000 : Nat) ≤ sizeLine := by decide
  rw [S_len, S_len, List.length_replicate]
  show (a : Int).toNat + 1 ≤ sizeLine
  omega
theorem divBd {v : Int} (h0 : 0 ≤ v) (h1 : v < 1000000) : 0 ≤ v / 108 ∧ v / 108 ≤ 10000 := by omega
theorem nextDep_le (dep v : Int) : nextDep dep v ≤ 1000 := by unfold nextDep; split <;> omega
theorem chrBd {q : Int} (h0 : 0 ≤ q) (h9 : q ≤ 10000) : (0 ≤ q + 32 ∧ q + 32 ≤ 1114111) ∧ 0 ≤ q + 33 ∧ q + 33 ≤ 1114111 := by omega
theorem take4_len (ns : List Int) : (ns.take 4).length ≤ 4 := by simp; omega

def modD : PyData → PyData
  | .int i => .int (i % 1000000)
  | x => x

set_option maxHeartbeats 8000000 in
theorem f_tree (hK : cx.K = hd.heap_39 P) {ns : List Int} {Post : V → Store → Prop} (hn : ns.length ≤ 1000) (h : Post (.d (.list (nds (treeF (-1) (drawnL ns))))) st) :
    tcall cx (d + 1) (.ext (.ref 248)) [.d (.list (ns.map .int))] [] st Post := by
  have hle : (20002 : Nat) ≤ sizeLine := by decide
  have hdot : ("." : PySem.Str) = S [46] := by decide +kernel
  have hq1 : ("\"" : PySem.Str) = S [34] := by decide +kernel
  have hnm : ("aA\"." : PySem.Str) = S [97, 65, 34, 46] := by decide +kernel
  have hmk : ("|.:" : PySem.Str) = S [124, 46, 58] := by decide +kernel
  have hlf : ("\n" : PySem.Str) = S [10] := by decide +kernel
  have hcr : ("\u000d" : PySem.Str) = S [13] := by decide +kernel
  have hcl : ("\u000d\n" : PySem.Str) = S [13, 10] := by decide +kernel
  refine tcall_def (cx := cx) (f := 248) (names := ["script"]) (ex := []) (exV := []) (ho := by rw [hK]; rfl) (hcd := by rw [hK]; rfl) (hbind := binds1 fun v => rfl) (hex := fun _ _ => .nil) (hco := rfl) (hgen := rfl) (hk := rfl) (hnames := by decide +kernel) (hnn := by decide +kernel) (hnd := by decide +kernel) fun L => ?_
  have epk : pick (ns.map PyData.int) none (some 4) = (ns.map PyData.int).take 4 := pick_upTo (i := 4)
  refine tb_cons (ts_assignComp (cl := []) (fr := []) (f := modD) (te_slice (te_name rfl (te_int ⟨_, rfl, tsl_list (by simp; omega) ⟨_, rfl, ?_, fun x hx => ?_, ?_⟩⟩))) (compOk0 (by decide +kernel)) rfl)
  · rw [epk]; simp; omega
  · rw [epk] at hx
    obtain ⟨i, _, rfl⟩ := List.mem_map.mp (List.mem_of_mem_take hx)
    refine ⟨["x"], [_], .name, by decide, by kernel_rfl, fun C st => te_bin (te_name rfl (te_int (tbin_mod (by decide) ⟨?_, rfl⟩)))⟩
    rw [fmodE _ (by decide)]; rfl
  rw [epk]
  have ed : ((ns.map PyData.int).take 4).map modD = ((ns.take 4).map (· % 1000000)).map .int := by
    rw [← List.map_take, List.map_map, List.map_map]; rfl
  rw [ed]
  have hl4 : ((ns.take 4).map (· % 1000000)).length ≤ 4 := by simp; omega
  have hl4' : (((ns.take 4).map (· % 1000000)).map PyData.int).length = (ns.take 4).length := by simp
  refine tb_cons (ts_assign (te_bin (te_name rfl (te_slice (te_list (by rfl) (te_int (te_int (te_int (te_int ⟨_, rfl, by show 4 ≤ sizeLine; decide, ?_⟩)))))))))
  refine te_call (by rfl) (te_builtin (v := .builtin "len") (by rw [hK]; kernel_rfl) (by kernel_rfl) ⟨_, rfl, rfl, te_name rfl (tcall_lenL (by simp; omega) ⟨_, rfl, ?_⟩)⟩)
  dsimp only [tpart]
  rw [hl4']
  refine tsl_list (by show 4 ≤ sizeLine; decide) ?_
  rw [pick_from (take4_len ns)]
  refine tbin_addL (by simp; omega) ?_
  have ed2 : ((ns.take 4).map (· % 1000000)).map PyData.int ++ ([.int 9, .int 1013, .int 311, .int 1110] : List PyData).drop (ns.take 4).length = (drawnL ns).map .int := by
    unfold drawnL
    rw [List.map_append, List.map_drop]; rfl
  rw [ed2]
  have hdl := drawn_len ns
  have hdb := drawn_bd ns
  generalize drawnL ns = vs at hdl hdb h ⊢
  refine tb_cons (ts_assign (te_listC (by rfl) ⟨[], rfl, by show 0 ≤ sizeLine; decide, ?_⟩))
  refine tb_cons (ts_assign (te_un (te_int (tun_neg ?_))))
  refine tb_cons (ts_for (te_name rfl ⟨_, rfl, fun rest ρ st' => ∃ (r : List Int) (dep : Int) (done : List Nd), rest = r.map .int ∧ (∀ v ∈ r, 0 ≤ v ∧ v < 1000000) ∧ done.length + r.length = 4 ∧ done ++ treeF dep r = treeF (-1) vs ∧ dep ≤ 1000 ∧
    ρ.lookup ("nodes" : PySem.Str) = some (.c st.length) ∧ ρ.lookup ("depth" : PySem.Str) = some (.d (.int dep)) ∧ st' = st ++ [.live (nds done)], ?_, ?_, ?_⟩))
  · exact ⟨vs, -1, [], rfl, hdb, by simpa using hdl, rfl, by decide, rfl, rfl, rfl⟩
  · rintro x rest ρ st' ⟨r, dep, done, e, hb, hl, et, hdep, l1, l2, rfl⟩
    cases r with
    | nil => cases e
    | cons v r =>
      cases e
      obtain ⟨v0, v1⟩ := hb v (.head _)
      have nd2 : Builtin.divisionGoesByPylong v 3 = false := PyProof.noPylong_small (by decide)
      obtain ⟨a1, ha1, hb1⟩ : ∃ a : Nat, v / 3 % 3 = (a : Int) ∧ a < 3 := modNat 3 (by decide)
      obtain ⟨a2, ha2, hb2⟩ : ∃ a : Nat, v / 9 % 4 = (a : Int) ∧ a < 4 := modNat 4 (by decide)
      obtain ⟨a3, ha3, hb3⟩ : ∃ a : Nat, v / 36 % 3 = (a : Int) ∧ a < 3 := modNat 3 (by decide)
      obtain ⟨a4, ha4, hb4⟩ : ∃ a : Nat, v % 7 % 3 = (a : Int) ∧ a < 3 := modNat 3 (by decide)
      obtain ⟨a5, ha5, hb5⟩ : ∃ a : Nat, v % 4 % 3 = (a : Int) ∧ a < 3 := modNat 3 (by decide)
      refine tasg_name ?_
      have m1 : (upd ρ "v" (.d (.int v))).lookup ("nodes" : PySem.Str) = some (.c st.length) := by rw [upd_get]; exact l1
      have m2 : (upd ρ "v" (.d (.int v))).lookup ("depth" : PySem.Str) = some (.d (.int dep)) := by rw [upd_get]; exact l2
      have m3 : (upd ρ "v" (.d (.int v))).lookup ("v" : PySem.Str) = some (.d (.int v)) := by rw [upd_get]; rfl
      generalize upd ρ "v" (.d (.int v)) = ρ1 at m1 m2 m3 ⊢
      refine tb_cons (ts_mono (Post' := fun fl ρ st' => fl = .next ∧ ρ = upd ρ1 "depth" (.d (.int (nextDep dep v))) ∧ st' = st ++ [.live (nds done)]) (ts_assign (te_ifexp (tt_cmp (te_name m2 (te_int (tcmp_ltI (ttr_bool ⟨fun hh => te_int ?_, fun hh => ?_⟩))))))) ?_)
      · have hh' : dep < 0 := by simpa using hh
        exact ⟨rfl, by unfold nextDep; rw [if_pos hh'], rfl⟩
      · have hh' : ¬ dep < 0 := by simpa using hh
        refine te_bin (te_int (te_call (by rfl) (te_builtin (v := .builtin "min") (by rw [hK]; kernel_rfl) (by kernel_rfl) ⟨_, rfl, rfl, te_name m2 (te_bin (te_name m3 (te_int (tbin_mod (by decide) (tcall_min (tbin_add ?_))))))⟩)))
        rw [fmodE _ (by decide)]
        exact ⟨rfl, by unfold nextDep; rw [if_neg hh'], rfl⟩
      rintro _ _ _ ⟨rfl, rfl, rfl⟩
      have hnd : nextDep dep v ≤ 1000 := nextDep_le _ _
      have n1 : (upd ρ1 "depth" (.d (.int (nextDep dep v)))).lookup ("nodes" : PySem.Str) = some (.c st.length) := by rw [upd_get]; exact m1
      have n2 : (upd ρ1 "depth" (.d (.int (nextDep dep v)))).lookup ("depth" : PySem.Str) = some (.d (.int (nextDep dep v))) := by rw [upd_get]; rfl
      have n3 : (upd ρ1 "depth" (.d (.int (nextDep dep v)))).lookup ("v" : PySem.Str) = some (.d (.int v)) := by rw [upd_get]; exact m3
      generalize upd ρ1 "depth" (.d (.int (nextDep dep v))) = ρ2 at n1 n2 n3 ⊢
      refine tb_cons (ts_assign (te_bin (te_bin (te_bin (te_bin (te_name n3 (te_int (tbin_div (by decide) (PyProof.noPylong_small (by decide)) (te_int (tbin_mod (by decide) (te_strS hdot ?_)))))))))) )
      rw [fdivE _ (by decide), fmodE _ (by decide), ha1]
      refine tbin_repR (le1000 hb1 (by decide)) (ge1000 _) (te_sub (te_strS hnm (te_bin (te_bin (te_name n3 (te_int (tbin_div (by decide) (PyProof.noPylong_small (by decide)) (te_int (tbin_mod (by decide) ?_)))))))))
      rw [fdivE _ (by decide), fmodE _ (by decide), ha2]
      refine tsub_at (c := [97, 65, 34, 46].getD a2 0) (by decide) ?_ (tbin_cat (repCat hb1 (by decide)) ?_)
      · rw [List.getD_eq_getElem?_getD, List.getElem?_eq_getElem (by exact hb2)]; rfl
      rw [S_app]
      have p1 : ∀ x, (upd ρ2 "name" x).lookup ("nodes" : PySem.Str) = some (.c st.length) := fun x => by rw [upd_get]; exact n1
      have p2 : ∀ x, (upd ρ2 "name" x).lookup ("depth" : PySem.Str) = some (.d (.int (nextDep dep v))) := fun x => by rw [upd_get]; exact n2
      have p3 : ∀ x, (upd ρ2 "name" x).lookup ("v" : PySem.Str) = some (.d (.int v)) := fun x => by rw [upd_get]; exact n3
      have p4 : ∀ x, (upd ρ2 "name" x).lookup ("name" : PySem.Str) = some x := fun x => by rw [upd_get]; rfl
      have ename : List.replicate (a1 : Int).toNat 46 ++ [[97, 65, 34, 46].getD a2 0] = (ndOf (nextDep dep v) v).name := by
        show _ = List.replicate (v / 3 % 3).toNat 46 ++ [[97, 65, 34, 46].getD (v / 9 % 4).toNat 0]
        rw [ha1, ha2]; rfl
      rw [ename]
      refine tb_cons (ts_assign (te_bin (te_name (p3 _) (te_int (tbin_div (by decide) (PyProof.noPylong_small (by decide)) ?_)))))
      rw [fdivE _ (by decide)]
      have q1 : ∀ x, (upd (upd ρ2 "name" x) "q" (.d (.int (v / 108)))).lookup ("nodes" : PySem.Str) = some (.c st.length) := fun x => by rw [upd_get]; exact p1 x
      have q2 : ∀ x, (upd (upd ρ2 "name" x) "q" (.d (.int (v / 108)))).lookup ("depth" : PySem.Str) = some (.d (.int (nextDep dep v))) := fun x => by rw [upd_get]; exact p2 x
      have q3 : ∀ x, (upd (upd ρ2 "name" x) "q" (.d (.int (v / 108)))).lookup ("v" : PySem.Str) = some (.d (.int v)) := fun x => by rw [upd_get]; exact p3 x
      have q4 : ∀ x, (upd (upd ρ2 "name" x) "q" (.d (.int (v / 108)))).lookup ("name" : PySem.Str) = some x := fun x => by rw [upd_get]; exact p4 x
      have q5 : ∀ x, (upd (upd ρ2 "name" x) "q" (.d (.int (v / 108)))).lookup ("q" : PySem.Str) = some (.d (.int (v / 108))) := fun x => by rw [upd_get]; rfl
      refine tb_cons (ts_mono (Post' := fun fl ρ st' => fl = .next ∧ ρ = upd (upd (upd ρ2 "name" (.d (.str (S (ndOf (nextDep dep v) v).name)))) "q" (.d (.int (v / 108)))) "text" (.d (.str (S (ndOf (nextDep dep v) v).text))) ∧ st' = st ++ [.live (nds done)])
        (ts_assign (te_bin (te_bin (te_bin (te_bin (te_name (q3 _) (te_int (tbin_div (by decide) (PyProof.noPylong_small (by decide)) (te_int (tbin_mod (by decide) (te_strS hq1 ?_)))))))))) ) ?rest)
      case rest => 
        rintro _ _ _ ⟨rfl, rfl, rfl⟩
        have r1 : ∀ x y, (upd (upd (upd ρ2 "name" x) "q" (.d (.int (v / 108)))) "text" y).lookup ("nodes" : PySem.Str) = some (.c st.length) := fun x y => by rw [upd_get]; exact q1 x
        have r2 : ∀ x y, (upd (upd (upd ρ2 "name" x) "q" (.d (.int (v / 108)))) "text" y).lookup ("depth" : PySem.Str) = some (.d (.int (nextDep dep v))) := fun x y => by rw [upd_get]; exact q2 x
        have r3 : ∀ x y, (upd (upd (upd ρ2 "name" x) "q" (.d (.int (v / 108)))) "text" y).lookup ("v" : PySem.Str) = some (.d (.int v)) := fun x y => by rw [upd_get]; exact q3 x
        have r4 : ∀ x y, (upd (upd (upd ρ2 "name" x) "q" (.d (.int (v / 108)))) "text" y).lookup ("name" : PySem.Str) = some x := fun x y => by rw [upd_get]; exact q4 x
        have r5 : ∀ x y, (upd (upd (upd ρ2 "name" x) "q" (.d (.int (v / 108)))) "text" y).lookup ("q" : PySem.Str) = some (.d (.int (v / 108))) := fun x y => by rw [upd_get]; exact q5 x
        have r6 : ∀ x y, (upd (upd (upd ρ2 "name" x) "q" (.d (.int (v / 108)))) "text" y).lookup ("text" : PySem.Str) = some y := fun x y => by rw [upd_get]; rfl
        refine tb_cons (ts_expr (te_meth (by rfl) (te_name (r1 _ _) ⟨.builtin "list.append", [.c st.length], rfl, tgm_cell (get_last st _) PySem.F.slot_list_append PySem.F.type_list_append, te_tuple (by rfl) (te_name (r2 _ _) (te_name (r4 _ _) (te_name (r6 _ _) (te_name (r5 _ _) ?_))))⟩)))
        refine te_bin (te_int (te_bin (te_bin (te_name (r3 _ _) (te_int (tbin_div (by decide) (PyProof.noPylong_small (by decide)) (te_int (tbin_mod (by decide) (tbin_add ?_)))))))))
        rw [fdivE _ (by decide), fmodE _ (by decide)]
        refine te_sub (te_strS hmk (te_bin (te_bin (te_name (r3 _ _) (te_int (tbin_mod (by decide) (te_int (tbin_mod (by decide) ?_))))))))
        rw [fmodE _ (by decide), fmodE _ (by decide), ha4]
        refine tsub_at (c := [124, 46, 58].getD a4 0) (by decide) ?_ ?_
        · rw [List.getD_eq_getElem?_getD, List.getElem?_eq_getElem (by exact hb4)]; rfl
        refine te_sub (te_list (by rfl) (te_strS hlf (te_strS hcr (te_strS hcl ⟨_, rfl, by show 3 ≤ sizeLine; decide, ?_⟩))))
        refine te_bin (te_bin (te_name (r3 _ _) (te_int (tbin_mod (by decide) (te_int (tbin_mod (by decide) ?_))))))
        rw [fmodE _ (by decide), fmodE _ (by decide), ha5]
        refine tsub_list (x := .str (S ([[10], [13], [13, 10]].getD a5 []))) (idxLo _) (idxHi hb5 (by decide)) (j := a5) (idx_ok hb5) ?_ ?_
        · have : a5 = 0 ∨ a5 = 1 ∨ a5 = 2 := nat3 hb5
          rcases this with q | q | q <;> subst q <;> rfl
        refine ⟨_, rfl, by show 7 ≤ sizeLine; decide, ?_⟩
        refine tcall_append (get_last st _) (by simp [nds]; omega) ?_
        rw [set_last]
        have enode : nds done ++ [PyData.tuple [.int (nextDep dep v), .str (S (ndOf (nextDep dep v) v).name), .str (S (ndOf (nextDep dep v) v).text), .int (v / 108), .int (1 + v / 5 % 2), .str (S [[124, 46, 58].getD a4 0]), .str (S ([[10], [13], [13, 10]].getD a5 []))]] = nds (done ++ [ndOf (nextDep dep v) v]) := by
          have e4 : (v % 7 % 3).toNat = a4 := by rw [ha4]; rfl
          have e5 : (v % 4 % 3).toNat = a5 := by rw [ha5]; rfl
          unfold nds
          rw [List.map_append, ← e4, ← e5]
          rfl
        rw [enode]
        refine tb_nil ⟨r, nextDep dep v, done ++ [ndOf (nextDep dep v) v], rfl, fun x hx => hb x (.tail _ hx), by simp at hl ⊢; omega, ?_, hnd, r1 _ _, r2 _ _, rfl⟩
        rw [← et]; simp [treeF]
      rw [fdivE _ (by decide), fmodE _ (by decide), ha3]
      refine tbin_repR (le1000 hb3 (by decide)) (ge1000 _) (te_call (by rfl) (te_builtin (v := .builtin "chr") (by rw [hK]; kernel_rfl) (by kernel_rfl) ⟨_, rfl, rfl, ?_⟩))
      have hq0 := (divBd v0 v1).1
      have hq9 := (divBd v0 v1).2
      have echr : ∀ c : Int, (⟨#[c.toNat]⟩ : PySem.Str) = S [c.toNat] := fun c => rfl
      have etext : List.replicate (a3 : Int).toNat 34 ++ [(if v / 108 < 95 then v / 108 + 32 else v / 108 + 33).toNat] = (ndOf (nextDep dep v) v).text := by
        show _ = List.replicate (v / 36 % 3).toNat 34 ++ [(if v / 108 < 95 then v / 108 + 32 else v / 108 + 33).toNat]
        rw [ha3]
      refine te_ifexp (tt_cmp (te_name (q5 _) (te_int (tcmp_ltI (ttr_bool ⟨fun hh => te_bin (te_name (q5 _) (te_int (tbin_add ?c1))), fun hh => te_bin (te_name (q5 _) (te_int (tbin_add ?c2)))⟩)))))
      case c1 =>
        have hh' : v / 108 < 95 := by simpa using hh
        rw [if_pos hh'] at etext
        refine tcall_chr (chrBd hq0 hq9).1.1 (chrBd hq0 hq9).1.2 ?_
        rw [echr]
        refine tbin_cat (repCat hb3 (by decide)) ?_
        rw [S_app, etext]
        exact ⟨rfl, rfl, rfl⟩
      case c2 =>
        have hh' : ¬ v / 108 < 95 := by simpa using hh
        rw [if_neg hh'] at etext
        refine tcall_chr (chrBd hq0 hq9).2.1 (chrBd hq0 hq9).2.2 ?_
        rw [echr]
        refine tbin_cat (repCat hb3 (by decide)) ?_
        rw [S_app, etext]
        exact ⟨rfl, rfl, rfl⟩
  · rintro ρ st' ⟨r, dep, done, e, hb, hl, et, hdep, l1, l2, rfl⟩
    have hr : r = [] := by cases r with | nil => rfl | cons _ _ => cases e
    subst hr
    simp only [treeF, List.append_nil] at et
    refine tb_cons (ts_ret (te_name l1 ⟨.d (.list (nds done)), ?_, ?_⟩))
    · simp [fin]
    · rw [List.take_left, et]; exact h
end Mine

-- P9
namespace Mine
open PySem PySem.StrLaws PySem.Builtin PySem.Builtin.Str

theorem ndOf_ok (dep : Int) {v : Int} (h0 : 0 ≤ v) (h1 : v < 1000000) : NdOk (ndOf dep v) := by
  refine ⟨⟨(v / 3 % 3).toNat, [97, 65, 34, 46].getD (v / 9 % 4).toNat 0, rfl, by omega, ?_⟩, ⟨(v / 36 % 3).toNat, (if v / 108 < 95 then v / 108 + 32 else v / 108 + 33).toNat, rfl, by omega, ?_⟩, ?_, ?_, ?_, ?_⟩
  · obtain ⟨a, ha, hb⟩ : ∃ a : Nat, v / 9 % 4 = (a : Int) ∧ a < 4 := modNat 4 (by decide)
    rw [ha]
    rcases nat4 hb with e | e | e | e <;> subst e <;> simp
  · have hc : 32 ≤ (if v / 108 < 95 then v / 108 + 32 else v / 108 + 33).toNat ∧ (if v / 108 < 95 then v / 108 + 32 else v / 108 + 33).toNat ≠ 127 := by
      split <;> omega
    generalize (if v / 108 < 95 then v / 108 + 32 else v / 108 + 33).toNat = c at hc
    unfold isCtl
    have a : decide (c ≤ 31) = false := decide_eq_false (by omega)
    have b : (c == 127) = false := by simp; omega
    rw [a, b]; rfl
  · show 0 ≤ v / 108 ∧ v / 108 ≤ 10000
    omega
  · show 1 + v / 5 % 2 = 1 ∨ 1 + v / 5 % 2 = 2
    omega
  · show [124, 46, 58].getD (v % 7 % 3).toNat 0 = 124 ∨ [124, 46, 58].getD (v % 7 % 3).toNat 0 = 46 ∨ [124, 46, 58].getD (v % 7 % 3).toNat 0 = 58
    obtain ⟨a, ha, hb⟩ : ∃ a : Nat, v % 7 % 3 = (a : Int) ∧ a < 3 := modNat 3 (by decide)
    rw [ha]
    rcases nat3 hb with e | e | e <;> subst e <;> simp
  · show Feed ([[10], [13], [13, 10]].getD (v % 4 % 3).toNat [])
    obtain ⟨a, ha, hb⟩ : ∃ a : Nat, v % 4 % 3 = (a : Int) ∧ a < 3 := modNat 3 (by decide)
    rw [ha]
    unfold Feed
    rcases nat3 hb with e | e | e <;> subst e <;> simp

/-! how long a page may be -/
def LB : Fo → Nat
  | .nil => 0
  | .cons _ k s => 94 + 16 * (pre k).length + 2 * LB k + LB s
theorem dq_len2 (l : List Nat) : (dq l).length ≤ 2 * l.length := by
  have := dq_count l
  have := List.count_le_length (a := 34) (l := l)
  omega
theorem dots_len1 (t : Nat) (r : List Nat) : (dots t r).length ≤ r.length + t := by
  unfold dots
  split <;> simp <;> omega
theorem flat_dots_len (t : Nat) : ∀ R : List (List Nat), (flat (R.map (dots t))).length ≤ (flat R).length + t * R.length
  | [] => by simp [flat]
  | r :: R => by
    have := flat_dots_len t R
    have := dots_len1 t r
    rw [List.map_cons, flat_cons, flat_cons, List.length_cons, Nat.mul_succ]
    simp only [List.length_append, List.length_cons]
    omega
theorem qrows_len {R : List (List Nat)} (h : R ≠ []) : (qrows R).length = R.length + 1 := by
  cases R with
  | nil => exact absurd rfl h
  | cons r R => simp [qrows]
theorem kidRows_len : ∀ F : Fo, (kidRows F).length = 4 * (pre F).length
  | .nil => rfl
  | .cons m k s => by
    have e : kidRows (.cons m k s) = qrows (pageRows m k) ++ kidRows s := rfl
    rw [e, List.length_append, qrows_len (pageRows_ne m k), kidRows_len s]
    have : (pageRows m k).length = 3 + 4 * (pre k).length := by
      rw [← kidRows_len k]; simp [pageRows, rawRows, headRows]; omega
    simp [pre]
    omega
theorem headRows_len {m : Nd} (h : NdOk m) {b : Nat} (hb : b ≤ 1000) : (flat (headRows m b)).length ≤ 37 := by
  have h1 := (h.reply hb).2
  have h2 := h.nameRow.2
  have h3 := h.textRow.2
  simp [flat, headRows]
  omega
theorem page_len {m : Nd} {k : Fo} (h : NdOk m) (hb : cnt k ≤ 1000) : (flat (pageRows m k)).length ≤ 43 + 8 * (pre k).length + (flat (kidRows k)).length := by
  have h1 := flat_dots_len m.times.toNat (rawRows m k)
  have h2 := headRows_len h (b := cnt k) hb
  have h3 : (flat (rawRows m k)).length = (flat (headRows m (cnt k))).length + (flat (kidRows k)).length := by unfold rawRows; rw [flat_app]; simp
  have h4 : (rawRows m k).length = 3 + 4 * (pre k).length := by
    rw [← kidRows_len k]; simp [rawRows, headRows]; omega
  rw [h4] at h1
  have h5 : m.times.toNat = 1 ∨ m.times.toNat = 2 := by rcases h.times with e | e <;> rw [e] <;> decide
  unfold pageRows
  rcases h5 with e | e <;> rw [e] at h1 ⊢ <;> omega
theorem kid_len : ∀ {F : Fo}, AllOk F → (pre F).length ≤ 1000 → (flat (kidRows F)).length ≤ LB F
  | .nil, _, _ => Nat.le_refl _
  | .cons m k s, ⟨h1, h2, h3⟩, hl => by
    simp [pre] at hl
    have a := kid_len h2 (by omega)
    have b := kid_len h3 (by omega)
    have c := page_len h1 (k := k) (by have := cnt_le k; omega)
    have e := dq_len2 (flat (pageRows m k))
    rw [kidRows_cons]
    simp only [List.length_append, List.length_cons, List.length_nil, LB]
    omega

theorem dep1 (v : Int) : nextDep 0 v = 1 := by unfold nextDep; rw [if_neg (by decide)]; omega
theorem dep2 (v : Int) : nextDep 1 v = 1 ∨ nextDep 1 v = 2 := by unfold nextDep; rw [if_neg (by decide)]; omega
theorem dep3 (v : Int) : nextDep 2 v = 1 ∨ nextDep 2 v = 2 ∨ nextDep 2 v = 3 := by unfold nextDep; rw [if_neg (by decide)]; omega
theorem page_fin {m : Nd} (o : NdOk m) {K : Fo} (h1 : AllOk K) (h2 : (pre K).length = 3) (h3 : LB K ≤ 4000) : (flat (pageRows m K)).length ≤ 5000 := by
  have a := page_len o (k := K) (by have := cnt_le K; omega)
  have b := kid_len h1 (by omega)
  clear h1 o
  omega
/-- what the tree is like -/
theorem tree_is {vs : List Int} (hl : vs.length = 4) (hb : ∀ v ∈ vs, 0 ≤ v ∧ v < 1000000) : ∃ m K, treeF (-1) vs = m :: pre K ∧ m.d = 0 ∧ NdOk m ∧ AllOk K ∧ Dep 1 K ∧ (pre K).length = 3 ∧ (flat (pageRows m K)).length ≤ 5000 ∧ ∀ n ∈ pre K, 1 ≤ n.d ∧ n.d ≤ 3 := by
  match vs, hl with
  | [v0, v1, v2, v3], _ =>
    have b0 := hb v0 (by simp)
    have b1 := hb v1 (by simp)
    have b2 := hb v2 (by simp)
    have b3 := hb v3 (by simp)
    have e0 : nextDep (-1) v0 = 0 := rfl
    have e1 := dep1 v1
    have e2 := dep2 v2
    have o0 := ndOf_ok 0 b0.1 b0.2
    have o1 := ndOf_ok 1 b1.1 b1.2
    rcases e2 with e2 | e2
    · have e3 := dep2 v3
      have o2 := ndOf_ok 1 b2.1 b2.2
      rcases e3 with e3 | e3
      · have o3 := ndOf_ok 1 b3.1 b3.2
        refine ⟨ndOf 0 v0, .cons (ndOf 1 v1) .nil (.cons (ndOf 1 v2) .nil (.cons (ndOf 1 v3) .nil .nil)), ?_, rfl, o0, ⟨o1, trivial, o2, trivial, o3, trivial, trivial⟩, ⟨rfl, trivial, rfl, trivial, rfl, trivial, trivial⟩, rfl, page_fin o0 ⟨o1, trivial, o2, trivial, o3, trivial, trivial⟩ rfl (by simp [LB, pre]), ?_⟩
        · simp only [treeF, e0, e1, e2, e3, pre]; rfl
        · intro n hn; simp [pre] at hn; rcases hn with rfl | rfl | rfl <;> simp [ndOf]
      · have o3 := ndOf_ok 2 b3.1 b3.2
        refine ⟨ndOf 0 v0, .cons (ndOf 1 v1) .nil (.cons (ndOf 1 v2) (.cons (ndOf 2 v3) .nil .nil) .nil), ?_, rfl, o0, ⟨o1, trivial, o2, ⟨o3, trivial, trivial⟩, trivial⟩, ⟨rfl, trivial, rfl, ⟨rfl, trivial, trivial⟩, trivial⟩, rfl, page_fin o0 ⟨o1, trivial, o2, ⟨o3, trivial, trivial⟩, trivial⟩ rfl (by simp [LB, pre]), ?_⟩
        · simp only [treeF, e0, e1, e2, e3, pre]; rfl
        · intro n hn; simp [pre] at hn; rcases hn with rfl | rfl | rfl <;> simp [ndOf]
    · have e3 := dep3 v3
      have o2 := ndOf_ok 2 b2.1 b2.2
      rcases e3 with e3 | e3 | e3
      · have o3 := ndOf_ok 1 b3.1 b3.2
        refine ⟨ndOf 0 v0, .cons (ndOf 1 v1) (.cons (ndOf 2 v2) .nil .nil) (.cons (ndOf 1 v3) .nil .nil), ?_, rfl, o0, ⟨o1, ⟨o2, trivial, trivial⟩, o3, trivial, trivial⟩, ⟨rfl, ⟨rfl, trivial, trivial⟩, rfl, trivial, trivial⟩, rfl, page_fin o0 ⟨o1, ⟨o2, trivial, trivial⟩, o3, trivial, trivial⟩ rfl (by simp [LB, pre]), ?_⟩
        · simp only [treeF, e0, e1, e2, e3, pre]; rfl
        · intro n hn; simp [pre] at hn; rcases hn with rfl | rfl | rfl <;> simp [ndOf]
      · have o3 := ndOf_ok 2 b3.1 b3.2
        refine ⟨ndOf 0 v0, .cons (ndOf 1 v1) (.cons (ndOf 2 v2) .nil (.cons (ndOf 2 v3) .nil .nil)) .nil, ?_, rfl, o0, ⟨o1, ⟨o2, trivial, o3, trivial, trivial⟩, trivial⟩, ⟨rfl, ⟨rfl, trivial, rfl, trivial, trivial⟩, trivial⟩, rfl, page_fin o0 ⟨o1, ⟨o2, trivial, o3, trivial, trivial⟩, trivial⟩ rfl (by simp [LB, pre]), ?_⟩
        · simp only [treeF, e0, e1, e2, e3, pre]; rfl
        · intro n hn; simp [pre] at hn; rcases hn with rfl | rfl | rfl <;> simp [ndOf]
      · have o3 := ndOf_ok 3 b3.1 b3.2
        refine ⟨ndOf 0 v0, .cons (ndOf 1 v1) (.cons (ndOf 2 v2) (.cons (ndOf 3 v3) .nil .nil) .nil) .nil, ?_, rfl, o0, ⟨o1, ⟨o2, ⟨o3, trivial, trivial⟩, trivial⟩, trivial⟩, ⟨rfl, ⟨rfl, ⟨rfl, trivial, trivial⟩, trivial⟩, trivial⟩, rfl, page_fin o0 ⟨o1, ⟨o2, ⟨o3, trivial, trivial⟩, trivial⟩, trivial⟩ rfl (by simp [LB, pre]), ?_⟩
        · simp only [treeF, e0, e1, e2, e3, pre]; rfl
        · intro n hn; simp [pre] at hn; rcases hn with rfl | rfl | rfl <;> simp [ndOf]
end Mine

-- W15
namespace Mine
open PySem PySem.W PySem.Calls PyProof.Rows

variable {cx : Cx} {d : Nat} {env : Env} {ρ : Vars} {st : Store} {pos : Pos} {P : Params}

theorem law_top {A : Around} {body : List Stmt} {s : Shared} {Q : Flow → Shared → Prop} {E : Value → Shared → Prop} (h : tb cx d env ρ [] body (fun fl _ _ => fl = .ret (.d (.bool true)))) (R : Room A d) (a : At cx env [] [] ρ [] s.heap s.toks)
    (hc : env.cells = []) (k : ∀ h' tk', (∀ b o, b ≠ env.locals → s.heap.get? b = some o → h'.get? b = some o) → Q (.ret (.bool true)) { s with heap := h', toks := tk' }) : wpAny (model cx.prog cx.w) A (execs body env) Q E s := by
  refine h A [] [] s Q E R a fun fl ρ' st' f al' h' tk' n r p => ?_
  subst p
  cases f with
  | ret v =>
    have r' : Rd _ v (.bool true) := r
    rw [rd_bool r']
    refine k h' tk' fun b o hb e => ?_
    have e1 : (vw s.heap (ow env [] ++ [])).get? b = some o := vw_get.mpr ⟨e, by
      intro m
      simp only [ow, hc, List.map_nil, List.nil_append, List.append_nil, List.mem_singleton] at m
      exact hb m⟩
    exact (vw_get.mp (n.vw b o e1)).1
  | next => cases r
  | brk => cases r
  | cont => cases r
theorem ints_rd {g : Heap} {vs : List Value} {ns : List Int} (h : IntsAre vs ns) : RdAll g vs (ns.map .int) := by
  induction h with
  | nil => exact .nil
  | cons n t _ ih => exact .cons (.int n t) ih
theorem At.start {h₁ : Heap} {L : Addr} {tk : Nat} {m : PySem.Str → Option Value} {x : PySem.Str} {a : Addr} {vs : List Value} {ns : List Int} (htk : 0 < tk) (hl : env.locals = L) (hc : env.cells = []) (hfn : env.scope.kind = .function) (hgl : env.globals = mainGlobals) (hbi : env.builtins = builtinsNs)
    (hk : env.kindOf x = some .local) (F : Fr cx.base L h₁ m) (hm : m x = some (.ref a)) (hL : cx.base.IsList a vs.toArray) (hI : IntsAre vs ns) : At cx env [] [] [(x, .d (.list (ns.map .int)))] [] h₁ tk := by
  have eo : ow env [] = [L] := by simp [ow, hl, hc]
  have hst : cx.base.StaysIn (vw h₁ (ow env [] ++ [])) := by
    intro b o e
    refine vw_get.mpr ⟨F.keep b o e, ?_⟩
    rw [eo]
    simp only [List.append_nil, List.mem_singleton]
    exact Nat.ne_of_lt (Nat.lt_of_lt_of_le (Heap.lt_size e) F.above)
  refine ⟨⟨htk, hst, ?_, ?_, ⟨rfl, fun i a c e => by simp at e⟩⟩, hfn, hgl, hbi, m, fun _ => none, ?_, ?_, ?_⟩
  · rw [eo]; simp
  · rw [eo]
    intro b hb
    simp only [List.mem_singleton] at hb
    subst hb
    obtain ⟨o, es, ep, ho, hd', r⟩ := F.ns
    refine ⟨o, ho, fun ⟨vs, n, q⟩ => ?_⟩
    rw [hd'] at q
    cases q
  · rw [hl]; exact F.ns
  · intro n c e; rw [hc] at e; cases e
  · intro y v e
    simp only [List.lookup] at e
    split at e
    · next q =>
      cases e
      have : y = x := eq_of_beq q
      subst this
      obtain ⟨o, q1, q2, n, q3⟩ := hL
      exact ⟨.ref a, .list ⟨o, hst _ _ q1, q2, n, q3⟩ (by rw [List.toList_toArray]; exact ints_rd hI), .inl ⟨hk, hm⟩⟩
    · cases e
/-- each table drawn is as it must be -/
theorem tree_all : ∀ {vs : List Int} {dep : Int}, (∀ v ∈ vs, 0 ≤ v ∧ v < 1000000) → ∀ n ∈ treeF dep vs, NdOk n ∧ PyData.strOk (S n.name) = true ∧ PyData.strOk (S n.text) = true
  | [], _, _, n, hn => by cases hn
  | v :: vs, dep, h, n, hn => by
    obtain ⟨v0, v1⟩ := h v (.head _)
    simp only [treeF] at hn
    rcases List.mem_cons.mp hn with rfl | hn
    · have ok := ndOf_ok (nextDep dep v) v0 v1
      refine ⟨ok, ?_, ?_⟩
      · unfold PyData.strOk
        rw [Array.all_eq_true_iff_forall_mem]
        intro c hc
        have hc' : c ∈ (ndOf (nextDep dep v) v).name := by simpa [S] using hc
        obtain ⟨k, x, e, hk, hx⟩ := ok.name
        rw [e] at hc'
        rcases List.mem_append.mp hc' with q | q
        · have := List.eq_of_mem_replicate q; subst this; decide
        · simp at q; subst q; rcases hx with rfl | rfl | rfl | rfl <;> decide
      · unfold PyData.strOk
        rw [Array.all_eq_true_iff_forall_mem]
        intro c hc
        have hc' : c ∈ (ndOf (nextDep dep v) v).text := by simpa [S] using hc
        have hc2 : c ∈ List.replicate (v / 36 % 3).toNat 34 ++ [(if v / 108 < 95 then v / 108 + 32 else v / 108 + 33).toNat] := hc'
        rcases List.mem_append.mp hc2 with q | q
        · have := List.eq_of_mem_replicate q; subst this; decide
        · simp only [List.mem_singleton] at q
          have : c < 1114112 := by rw [q]; split <;> omega
          exact decide_eq_true this
    · exact tree_all (fun x hx => h x (.tail _ hx)) n hn
theorem quads_shaped : ∀ {ns : List Nd}, (∀ n ∈ ns, PyData.strOk (S n.name) = true ∧ PyData.strOk (S n.text) = true) → PyData.canLayAll0 (ns.map fun n => quad n.d n) = true ∧ PyData.depthAll (ns.map fun n => quad n.d n) ≤ 1
  | [], _ => ⟨rfl, Nat.zero_le _⟩
  | n :: ns, h => by
    obtain ⟨h1, h2⟩ := quads_shaped fun m hm => h m (.tail _ hm)
    obtain ⟨s1, s2⟩ := h n (.head _)
    constructor
    · show (PyData.canLay0 (.tuple [.int n.d, .str (S n.name), .str (S n.text), .int n.q]) && PyData.canLayAll0 (ns.map fun n => quad n.d n)) = true
      rw [h1]
      simp only [PyData.canLayAll0, PyData.canLay0, Bool.and_true, Bool.true_and, s1, s2]
    · show max (PyData.depth (.tuple [.int n.d, .str (S n.name), .str (S n.text), .int n.q])) (PyData.depthAll (ns.map fun n => quad n.d n)) ≤ 1
      have : PyData.depth (.tuple [.int n.d, .str (S n.name), .str (S n.text), .int n.q]) = 1 := rfl
      rw [this]
      omega
def take4 : PyData → PyData
  | .tuple xs => .tuple (xs.take 4)
  | x => x
theorem take4_nds (ns : List Nd) : (nds ns).map take4 = ns.map fun n => quad n.d n := by
  simp only [nds, List.map_map]
  exact List.map_congr_left fun n _ => rfl
theorem none_booked {K : Frag} {h : Heap} (X : K.In h) (hT : ∃ mc, h.Ns cStatics mc ∧ mc "sys.int_max_str_digits" = none) (e : nsIn K cStatics sharingNotToldKey = some none) : NoneBooked h := by
  obtain ⟨mc, G, _⟩ := hT
  refine ⟨mc, G, ?_⟩
  obtain ⟨o, es, ep, ho, hes, _, hf⟩ := G
  cases hK : K.lookup cStatics with
  | none => rw [nsIn, hK] at e; cases e
  | some ob =>
    obtain rfl : ob = o := Option.some.inj ((X _ _ hK).symm.trans ho)
    rw [nsIn, hK] at e
    obtain ⟨c, dd, dt, sl⟩ := ob
    simp only at hes
    subst hes
    simp only at e
    rw [← hf]
    cases hfind : es.toList.find? (fun x => x.key.isStr sharingNotToldKey) with
    | some x => rw [hfind] at e; cases e
    | none =>
      unfold nsFind findBy
      rw [← Array.find?_toList, hfind]
      rfl

structure TreeOk (m : Nd) (K : Fo) : Prop where
  d0 : m.d = 0
  ok : NdOk m
  all : AllOk K
  dep : Dep 1 K
  three : (pre K).length = 3
  len : (flat (pageRows m K)).length ≤ 5000
  low : ∀ n ∈ pre K, 1 ≤ n.d ∧ n.d ≤ 3
  each : ∀ n ∈ m :: pre K, NdOk n ∧ PyData.strOk (S n.name) = true ∧ PyData.strOk (S n.text) = true
theorem tree_ok (ns : List Int) : ∃ m K, treeF (-1) (drawnL ns) = m :: pre K ∧ TreeOk m K := by
  obtain ⟨m, K, et, h1, h2, h3, h4, h5, h6, h7⟩ := tree_is (drawn_len ns) (drawn_bd ns)
  have hall := tree_all (dep := -1) (drawn_bd ns)
  rw [et] at hall
  exact ⟨m, K, et, h1, h2, h3, h4, h5, h6, h7, hall⟩
theorem f_treeOk (hK : cx.K = hd.heap_39 P) {ns : List Int} {Post : V → Store → Prop} (hn : ns.length ≤ 1000) (h : ∀ m K, TreeOk m K → Post (.d (.list (nds (m :: pre K)))) st) : tcall cx (d + 1) (.ext (.ref 248)) [.d (.list (ns.map .int))] [] st Post := by
  obtain ⟨m, K, et, ok⟩ := tree_ok ns
  exact f_tree hK hn (by rw [et]; exact h m K ok)
theorem f_toldOk (hK : cx.K = hd.heap_39 P) {m : Nd} {K : Fo} {Post : V → Store → Prop} (t : TreeOk m K) (h : Post (.d (.str (S (flat (pageRows m K))))) st) : tcall cx (d + 3) (.ext (.ref 274)) [.d (.list (nds (m :: pre K)))] [] st Post := by
  refine f_told hK (by have := t.three; simp; omega) (fun n hn => (t.each n hn).1) ?_ (by rw [told_page t.d0 t.ok t.all t.dep (by have := t.three; omega)]; exact h)
  intro k n hn
  cases k with
  | zero =>
    simp at hn
    subst hn
    exact ⟨by rw [t.d0]; decide, .inl ⟨rfl, t.d0⟩⟩
  | succ k =>
    have := t.low n (List.mem_of_getElem? (by simpa using hn))
    exact ⟨this.2, .inr this.1⟩
theorem home_eq {m : Nd} {K : Fo} (t : TreeOk m K) : quad 0 m :: kidD (0 + 1) K = (m :: pre K).map fun n => quad n.d n := by
  rw [kidD_eq (show Dep (0 + 1) K from t.dep), List.map_cons, t.d0]
theorem home_shaped {m : Nd} {K : Fo} (t : TreeOk m K) : SeqAt.shaped (.list ((m :: pre K).map fun n => quad n.d n)) = true := by
  obtain ⟨h1, h2⟩ := quads_shaped (ns := m :: pre K) fun n hn => (t.each n hn).2
  unfold SeqAt.shaped
  rw [Bool.and_eq_true]
  refine ⟨h1, decide_eq_true ?_⟩
  show PyData.depthAll _ + 1 ≤ 64
  omega
end Mine

-- W16
namespace Mine
open PySem PySem.W PySem.Calls PyProof.Rows PySem.Challenge

theorem room_top {env : Env} : Room (callerA.deeper env) 40 := by
  refine ⟨rfl, ?_, ?_⟩
  · show 1 + claimMargin + 1 + 4 * 40 + 8 < recursionLimit
    decide +kernel
  · show 4 + 3 + 20 * 40 + 200 < cLine
    decide +kernel
theorem law_gen {d : Nat} {env : Env} {ρ : Vars} {body : List Stmt} {Post : Fl → Vars → Store → Prop} (h : ∀ (cx : Cx) (P : Params), cx.K = hd.heap_39 P → cx.hC = 239 → tb cx d env ρ [] body Post) (cx : Cx) {P : Params} (hK : cx.K = hd.heap_39 P) (hC : cx.hC = 239) :
    tb cx d env ρ [] body Post := h cx P hK hC

theorem len63 {ns : List Int} (h : ¬ (63 : Int) < (ns.length : Int)) : ns.length ≤ 63 := by omega

local macro_rules | `(tactic| k_qdec) => `(tactic| decide +kernel)
set_option maxHeartbeats 0 in
theorem cw : rw_tp0033_01.Holds := hd (by
  k_go0
  have KX := ‹Frag.In (hd.heap_39 _) _›
  have T := ‹Top _ _ _ _ _ _›
  have hL := ‹Heap.IsList _ _ _›
  have hI := ‹IntsAre _ _›
  have F := ‹Fr _ _ _ _›
  have hg := ‹Shared.gens _ = #[]›
  have hn := ‹¬ ((63 : Int) < _)›
  have NB := none_booked KX T.nodigits (by kernel_rfl)
  refine law_top (d := 40) (cx := { prog := _, w := _, K := hd.heap_39 _, base := _, p := _, loose := _, mean := _, mg := _, mb := _, hC := 239, X := KX, T := T, nb := NB }) ?_ room_top (At.start (x := "script") (by show 0 < _ + 1; omega) rfl rfl rfl rfl rfl rfl F rfl hL hI) rfl ?_
  · refine law_gen (fun cx P hK hC => ?_) _ rfl rfl
    have hn63 := len63 hn
    clear KX T hL hI F hg NB hn
    dsimp only
    have hle : (20002 : Nat) ≤ sizeLine := by decide
    refine tb_cons (ts_assign (te_call (by rfl) (te_glob (v := .ref 248) (by rw [hK]; kernel_rfl) ⟨_, rfl, by rw [hK]; kernel_rfl, te_name rfl (f_treeOk (d := 39) hK (Nat.le_trans hn63 (by decide)) fun m K t => ?_)⟩)))
    have hlen : (m :: pre K).length = 4 := by have := t.three; simp; omega
    refine tb_cons (ts_assign (te_sub (te_call (by rfl) (te_glob (v := .ref 269) (by rw [hK]; kernel_rfl) ⟨_, rfl, by rw [hK]; kernel_rfl, te_name rfl (te_int ?_)⟩))))
    refine tcall_at (d' := 31 + 6 + (pre K).length) (by rw [t.three]) (f_page hK hC K (ns := m :: pre K) (k := 0) (m := m) (rest := []) t.ok t.all (by rw [t.d0]; exact t.dep) (by omega) (by simp) (fun n hn => by cases hn) t.len ?_)
    refine te_int (tsub_tuple (by decide) (by decide) (j := 0) rfl rfl ?_)
    refine tb_cons (ts_if (tt_cmp (te_name rfl (te_call (by rfl) (te_glob (v := .ref 274) (by rw [hK]; kernel_rfl) ⟨_, rfl, by rw [hK]; kernel_rfl, te_name rfl (f_toldOk (d := 37) hK t (tcmp_neS (ttr_bool ⟨fun hh => absurd hh (by simp), fun _ => tb_nil ?_⟩)))⟩)))))
    refine tb_cons (ts_ret (te_cmp (te_call (by rfl) (te_glob (v := .ref 279) (by rw [hK]; kernel_rfl) ⟨_, rfl, by rw [hK]; kernel_rfl, te_name rfl (te_int ?_)⟩))))
    refine tcall_at (d' := 31 + 6 + (pre K).length) (by rw [t.three]) (f_home hK hC K (m := m) (dep := 0) t.ok t.all (by rw [t.three]; decide) t.len ?_)
    rw [home_eq t]
    refine te_comp (cl := []) (fr := []) (f := take4) (te_name rfl ⟨_, rfl, by have := t.three; simp [nds]; omega, fun x hx => ?_, ?_⟩) (compOk0 (by decide +kernel))
    · obtain ⟨n, _, rfl⟩ := List.mem_map.mp hx
      exact ⟨["node"], [_], .name, by decide, by kernel_rfl, fun C st => te_slice (te_name rfl (te_int ⟨_, rfl, tsl_tupleUpto (b := 4) (by show 4 < 7; decide) (by show 7 ≤ sizeLine; decide) ⟨rfl, rfl⟩⟩))⟩
    · rw [take4_nds]
      refine tcmp_eqD (home_shaped t) (home_shaped t) ?_
      rw [SeqAt.eqv_refl _ (SeqAt.canLay_of_shaped (home_shaped t))]
  · intro h' tk' keep
    refine ⟨.inl ⟨.bool true, .bool true, [], rfl, ?_, .bool true, ?_, ?_⟩, fun b o e => keep b o (Nat.ne_of_lt (Heap.lt_size e)) (F.keep b o e), rfl, hg⟩
    · intro cls; rfl
    · kernel_rfl
    · intro _; exact ⟨List.nodup_nil, fun a ha => by cases ha⟩)
end Mine

theorem PySem.Challenge.cw_tp0033_01_holds : PySem.Challenge.rw_tp0033_01.Holds := by
  exact Mine.cw
