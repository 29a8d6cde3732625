import PyProof.Rows.All
import Wide.All
import OpenK.AllK
import Wide.FinOn
import Lean
import PySem.Challenge.RW_ij0028_01
section
open PySem PySem.W PyProof.Rows
set_option Elab.async false
set_option maxRecDepth 100000
namespace Mine
/-- a def's text: its parameters, body, names -/
structure Txt where
  params : Arguments
  body : List Stmt
  scope : Scope
def nilTxt : Txt := ⟨⟨[], [], none, [], [], none, []⟩, [], { kind := .function, names := [], isGenerator := false, isCoroutine := false, more := [] }⟩
def nth (l : List Stmt) (n : Nat) : Option Stmt := (l.drop n).head?
def defOf' : Option Stmt → Txt
  | some (.FunctionDef _ a b _ _ _ sc _ _ _) => ⟨a, b, sc⟩
  | _ => nilTxt
def bodyOf' : Option Stmt → List Stmt
  | some (.FunctionDef _ _ b _ _ _ _ _ _ _) => b
  | some (.ClassDef _ _ _ b _ _ _ _ _ _ _) => b
  | _ => []
def top : List Stmt := PySem.Challenge.pw_ij0028_01.main.body
def tGt : Txt := defOf' (nth top 2)
def tLe : Txt := defOf' (nth top 3)
def tGe : Txt := defOf' (nth top 4)
def tTold : Txt := defOf' (nth (bodyOf' (nth top 12)) 0)
def tVotes : Txt := defOf' (nth top 13)
def kBody : List Stmt := bodyOf' (nth (bodyOf' (nth top 5)) 0)
def tKlt : Txt := defOf' (nth kBody 3)
def tKgt : Txt := defOf' (nth kBody 4)
def tKeq : Txt := defOf' (nth kBody 5)
def tKle : Txt := defOf' (nth kBody 6)
def tKge : Txt := defOf' (nth kBody 7)
def tBlt : Txt := defOf' (nth (bodyOf' (nth top 7)) 3)
def tRuns : Txt := defOf' (nth top 21)
end Mine
end
section
open PySem PySem.W PyProof.Rows PySem.Calls
set_option Elab.async false
set_option maxRecDepth 100000
namespace Mine
/-! What a heap holds: the base that never turns, the list of what was asked, a frame. -/
def pairObj (i j : Int) (t u : Tok) : Obj := { cls := .type "tuple", data := .seq #[.int i t, .int j u] }
def IsPair (h : Heap) (v : Value) (p : Int × Int) : Prop := ∃ a t u, v = .ref a ∧ h.get? a = some (pairObj p.1 p.2 t u)
inductive Pairs (h : Heap) : List Value → List (Int × Int) → Prop
  | nil : Pairs h [] []
  | cons {v p vs l} : IsPair h v p → Pairs h vs l → Pairs h (v :: vs) (p :: l)
theorem Pairs.snoc {h : Heap} : ∀ {vs l v p}, Pairs h vs l → IsPair h v p → Pairs h (vs ++ [v]) (l ++ [p])
  | _, _, _, _, .nil, x => .cons x .nil
  | _, _, _, _, .cons y z, x => .cons y (z.snoc x)
theorem Pairs.length {h : Heap} : ∀ {vs l}, Pairs h vs l → vs.length = l.length
  | _, _, .nil => rfl
  | _, _, .cons _ z => by simp [z.length]
def isTup (o : Obj) : Bool := match o.cls, o.data with | .type n, .seq _ _ => n == "tuple" | _, _ => false
theorem IsPair.keeps {h h' : Heap} {v p} (x : IsPair h v p) (k : ∀ b o, isTup o = true → h.get? b = some o → h'.get? b = some o) : IsPair h' v p :=
  let ⟨a, t, u, e, g⟩ := x; ⟨a, t, u, e, k _ _ (by rfl) g⟩
theorem Pairs.keeps {h h' : Heap} (k : ∀ b o, isTup o = true → h.get? b = some o → h'.get? b = some o) : ∀ {vs l}, Pairs h vs l → Pairs h' vs l
  | _, _, .nil => .nil
  | _, _, .cons x z => .cons (x.keeps k) (z.keeps k)
def Asked (q : Addr) (l : List (Int × Int)) (h : Heap) : Prop := ∃ vs : List Value, h.PlainList q vs.toArray ∧ Pairs h vs l
theorem Asked.notTup {q l h} (x : Asked q l h) {o : Obj} (e : h.get? q = some o) : isTup o = false := by
  obtain ⟨_, ⟨n, g⟩, _⟩ := x
  obtain rfl := Option.some.inj (g.symm.trans e)
  rfl
/-- the base stands, and what was asked is l -/
structure Ok (B : Heap) (q : Addr) (l : List (Int × Int)) (h : Heap) : Prop where
  keep : ∀ b o, B.get? b = some o → h.get? b = some o
  off : B.get? q = none
  asked : Asked q l h
  few : l.length ≤ 1000
/-- all but q of h stands in h' -/
def But (q : Addr) (h h' : Heap) : Prop := ∀ b o, b ≠ q → h.get? b = some o → h'.get? b = some o
theorem But.refl {q h} : But q h h := fun _ _ _ e => e
theorem But.trans {q h h' h''} (x : But q h h') (y : But q h' h'') : But q h h'' := fun b o n e => y b o n (x b o n e)
/-- a frame L over the heap h₀ at the call -/
structure Fm (B : Heap) (q : Addr) (h₀ : Heap) (l : List (Int × Int)) (L : Addr) (m : Str → Option Value) (h : Heap) : Prop where
  ok : Ok B q l h
  ns : h.Ns L m
  new : h₀.get? L = none
  baseL : B.get? L = none
  ne : L ≠ q
  but : But q h₀ h
theorem Fm.step {B q h₀ l l' L m h h'} (F : Fm B q h₀ l L m h) (o : Ok B q l' h') (b : But q h h') : Fm B q h₀ l' L m h' :=
  ⟨o, let ⟨x, es, ep, e, r⟩ := F.ns; ⟨x, es, ep, b _ _ F.ne e, r⟩, F.new, F.baseL, F.ne, F.but.trans b⟩
theorem Ok.push {B q l h} (O : Ok B q l h) (o : Obj) : Ok B q l (h.push o) :=
  ⟨fun b x e => Heap.get?_push_of_some _ (O.keep b x e), O.off, let ⟨vs, i, p⟩ := O.asked; ⟨vs, i.at fun _ e => Heap.get?_push_of_some _ e, p.keeps fun _ _ _ e => Heap.get?_push_of_some _ e⟩, O.few⟩
theorem But.push {q h} (o : Obj) : But q h (h.push o) := fun _ _ _ e => Heap.get?_push_of_some _ e
theorem Fm.push {B q h₀ l L m h} (F : Fm B q h₀ l L m h) (o : Obj) : Fm B q h₀ l L m (h.push o) := F.step (F.ok.push o) (.push o)
theorem Ok.same {B q l h h'} {a : Addr} (O : Ok B q l h) (s : Heap.SameBut a h h') (ha : B.get? a = none) (hq : a ≠ q) (ht : ∀ o, h.get? a = some o → isTup o = false) : Ok B q l h' :=
  ⟨fun b x e => (s.2 b (fun z => by rw [z, ha] at e; cases e)).trans (O.keep b x e), O.off,
    let ⟨vs, i, p⟩ := O.asked; ⟨vs, i.at fun o e => (s.2 q (Ne.symm hq)).trans e, p.keeps fun b o t e => (s.2 b (fun z => by subst z; rw [ht _ e] at t; cases t)).trans e⟩, O.few⟩
theorem Fm.set {B q h₀ l L m m' h h'} (F : Fm B q h₀ l L m h) (n : h'.Ns L m') (s : Heap.SameBut L h h') : Fm B q h₀ l L m' h' := by
  have ht : ∀ o, h.get? L = some o → isTup o = false := by
    intro o e
    obtain ⟨x, es, ep, g, hd, _⟩ := F.ns
    obtain rfl := Option.some.inj (g.symm.trans e)
    unfold isTup; rw [hd]; split
    · rename_i d; cases d
    · rfl
  exact ⟨F.ok.same s F.baseL F.ne ht, n, F.new, F.baseL, F.ne, fun b o hb e => (s.2 b (fun z => by rw [z, F.new] at e; cases e)).trans (F.but b o hb e)⟩
theorem Fm.start {B q l h h₁} {m} (O : Ok B q l h) (n : h₁.Ns h.objs.size m) (k : ∀ b o, h.get? b = some o → h₁.get? b = some o) : Fm B q h l h.objs.size m h₁ := by
  have hn : h.get? h.objs.size = none := by
    cases e : h.get? h.objs.size with
    | none => rfl
    | some o => exact absurd (Heap.lt_size e) (Nat.lt_irrefl _)
  refine ⟨⟨fun b o e => k b o (O.keep b o e), O.off, ?_, O.few⟩, n, hn, ?_, ?_, fun b o _ e => k b o e⟩
  · obtain ⟨vs, i, p⟩ := O.asked
    exact ⟨vs, i.at (k _), p.keeps fun b o _ e => k b o e⟩
  · cases e : B.get? h.objs.size with
    | none => rfl
    | some o => exact absurd (Heap.lt_size (O.keep _ _ e)) (Nat.lt_irrefl _)
  · rintro e
    obtain ⟨vs, ⟨n, g⟩, p⟩ := O.asked
    rw [← e, hn] at g; cases g
/-- the room that a call has -/
structure Room (n : Nat) (A : Around) : Prop where
  handled : A.handled = none
  depth : A.depth + n ≤ 900
  units : A.units + 10 * n ≤ 9000
theorem Room.deeper {n A env} (r : Room (n + 1) A) : Room n (A.deeper env) := ⟨r.handled, by have := r.depth; show A.depth + 1 + n ≤ 900; omega, by have := r.units; show A.units + 3 + 10 * n ≤ 9000; omega⟩
theorem Room.le {n k A} (r : Room n A) (h : k ≤ n := by omega) : Room k A := ⟨r.handled, by have := r.depth; omega, by have := r.units; omega⟩
theorem Room.calls {n A} (r : Room n A) : A.depth < recursionLimit := by have := r.depth; show A.depth < 1000; omega
theorem Room.room {n A} (r : Room n A) : A.units < cLine := by have := r.units; show A.units < 9900; omega
theorem Room.room1 {n A} (r : Room n A) : A.units + 1 < cLine := by have := r.units; show A.units + 1 < 9900; omega
theorem Room.in1 {n A} (r : Room (n + 1) A) : Room n A.in1 := ⟨r.handled, by have := r.depth; show A.depth + n ≤ 900; omega, by have := r.units; show A.units + 1 + 10 * n ≤ 9000; omega⟩
/-- a call's contract: from any heap over the base it hands back what P says, and asks L -/
def Does (n : Nat) (prog : Program) (w : World) (B : Heap) (q : Addr) (f : Value) (args : List Value) (P : Value → Prop) (L : List (Int × Int)) : Prop :=
  ∀ (A : Around) (E : Value → Shared → Prop) (Q : Value → Shared → Prop) (h : Heap) (g : Array GenState) (d : Drawn) (t : Nat) (os : OsState) (l : List (Int × Int)), Room n A → Ok B q l h → l.length + L.length ≤ 1000 →
    (∀ v h' t', P v → Ok B q (l ++ L) h' → But q h h' → Q v ⟨h', g, d, t', os⟩) → wpAny (model prog w) A (PySem.call f args) Q E ⟨h, g, d, t, os⟩
def DoesOp (n : Nat) (prog : Program) (w : World) (B : Heap) (q : Addr) (op : CmpOp) (a b : Value) (P : Value → Prop) (L : List (Int × Int)) : Prop :=
  ∀ (A : Around) (E : Value → Shared → Prop) (Q : Value → Shared → Prop) (h : Heap) (g : Array GenState) (d : Drawn) (t : Nat) (os : OsState) (l : List (Int × Int)), Room n A → Ok B q l h → l.length + L.length ≤ 1000 →
    (∀ v h' t', P v → Ok B q (l ++ L) h' → But q h h' → Q v ⟨h', g, d, t', os⟩) → wpAny (model prog w) A (compareOp op a b) Q E ⟨h, g, d, t, os⟩
section
variable {prog : Program} {w : World} {A : Around} {E : Value → Shared → Prop} {h : Heap} {g : Array GenState} {d : Drawn} {t : Nat} {os : OsState} {B : Heap} {q L : Addr} {h₀ : Heap} {l : List (Int × Int)} {m : Str → Option Value} {env : Env} {x : Str} {pos : Pos}
structure Glob (B : Heap) (mg mb : Str → Option Value) : Prop where
  g : B.Ns mainGlobals mg
  b : B.Ns builtinsNs mb
  lim : B.NoLimit
theorem n_local {v : Value} {Q : Value → Shared → Prop} (F : Fm B q h₀ l L m h) (hv : m x = some v) (k : Q v ⟨h, g, d, t, os⟩) (hl : env.locals = L := by rfl) (hk : env.scope.kind = .function := by rfl)
    (hx : env.kindOf x = some .local := by rfl) (hd : (x == ("__debug__" : Str)) = false := by decide) : wpAny (model prog w) A (eval (.Name x pos) env) Q E ⟨h, g, d, t, os⟩ :=
  wpAny_Name (wpAny_loadName_local hk hx (hl ▸ F.ns) hv k) hd
theorem n_free {v : Value} {c : Addr} {Q : Value → Shared → Prop} (F : Fm B q h₀ l L m h) (hv : B.IsCell c (some v)) (k : Q v ⟨h, g, d, t, os⟩) (hc : env.cells.lookup x = some c := by rfl) (hk : env.scope.kind = .function := by rfl)
    (hx : env.kindOf x = some .free := by rfl) (hd : (x == ("__debug__" : Str)) = false := by decide) (hn : (x == ("__classdict__" : Str)) = false := by decide) : wpAny (model prog w) A (eval (.Name x pos) env) Q E ⟨h, g, d, t, os⟩ :=
  wpAny_Name (wpAny_loadName_free hk hx hc (hv.keeps F.ok.keep) k hn) hd
theorem n_glob {mg mb : Str → Option Value} {v : Value} {Q : Value → Shared → Prop} (F : Fm B q h₀ l L m h) (G : Glob B mg mb) (hv : mg x = some v) (k : Q v ⟨h, g, d, t, os⟩) (hg : env.globals = mainGlobals := by rfl) (hk : env.scope.kind = .function := by rfl)
    (hx : env.kindOf x = some .globalImplicit := by rfl) (hd : (x == ("__debug__" : Str)) = false := by decide) : wpAny (model prog w) A (eval (.Name x pos) env) Q E ⟨h, g, d, t, os⟩ :=
  Name_function_global hk hx (loadGlobal_global (hg ▸ G.g.keeps F.ok.keep) hv k) hd
theorem n_built {mg mb : Str → Option Value} {v : Value} {Q : Value → Shared → Prop} (F : Fm B q h₀ l L m h) (G : Glob B mg mb) (hn : mg x = none) (hv : mb x = some v) (k : Q v ⟨h, g, d, t, os⟩) (hg : env.globals = mainGlobals := by rfl) (hb : env.builtins = builtinsNs := by rfl)
    (hk : env.scope.kind = .function := by rfl) (hx : env.kindOf x = some .globalImplicit := by rfl) (hd : (x == ("__debug__" : Str)) = false := by decide) : wpAny (model prog w) A (eval (.Name x pos) env) Q E ⟨h, g, d, t, os⟩ :=
  Name_function_global hk hx (loadGlobal_builtin (hg ▸ G.g.keeps F.ok.keep) hn (hb ▸ G.b.keeps F.ok.keep) hv k) hd
theorem n_store {v : Value} {Q : Unit → Shared → Prop} (F : Fm B q h₀ l L m h) (k : ∀ h' t', Fm B q h₀ l L (fun y => if y = x then some v else m y) h' → Q () ⟨h', g, d, t', os⟩)
    (hl : env.locals = L := by rfl) (hx : env.kindOf x = some .local := by rfl) (hp : (env.scope.kind == .class || (env.scope.kind == .module && env.locals != env.globals)) = false := by rfl) : wpAny (model prog w) A (storeName env x v) Q E ⟨h, g, d, t, os⟩ := by
  subst hl
  exact wpAny_storeName_local hx F.ns (fun h' n sb => k h' _ (F.set n sb)) hp
theorem v_int {i : Int} {n : Nat} {Q : Value → Shared → Prop} (k : ∀ u t', Q (.int i u) ⟨h, g, d, t', os⟩) : wpAny (model prog w) A (eval (.Constant (.int i) n pos) env) Q E ⟨h, g, d, t, os⟩ := wpAny_Constant_int (k _ _)
theorem v_bool2int {b : Bool} {Q : Value → Shared → Prop} (k : ∀ u t', Q (.int (if b then 1 else 0) u) ⟨h, g, d, t', os⟩) : wpAny (model prog w) A (PySem.call (.type "int") [.bool b]) Q E ⟨h, g, d, t, os⟩ := call_int_bool (k _ _)
theorem v_add {a b : Int} {u v : Tok} {Q : Value → Shared → Prop} (k : ∀ u t', Q (.int (a + b) u) ⟨h, g, d, t', os⟩) : wpAny (model prog w) A (binaryOp .Add (.int a u) (.int b v)) Q E ⟨h, g, d, t, os⟩ := wpAny_add_int (k _ _)
theorem v_sub {a b : Int} {u v : Tok} {Q : Value → Shared → Prop} (k : ∀ u t', Q (.int (a - b) u) ⟨h, g, d, t', os⟩) : wpAny (model prog w) A (binaryOp .Sub (.int a u) (.int b v)) Q E ⟨h, g, d, t, os⟩ := PyProof.Rows.sub_int (k _ _)
theorem v_mul {a b : Int} {u v : Tok} {Q : Value → Shared → Prop} (k : ∀ u t', Q (.int (a * b) u) ⟨h, g, d, t', os⟩) (hm : IntMulOk a b) : wpAny (model prog w) A (binaryOp .Mult (.int a u) (.int b v)) Q E ⟨h, g, d, t, os⟩ := PyProof.Rows.mul_int (k _ _) hm
/-- a def of the text's is called, and hands a value back -/
theorem in_def {f : Addr} {nm qual : Str} {params : Arguments} {body : List Stmt} {scope : Scope} {cl : List (Str × Addr)} {dV kV doc pm cd ct oc : Value} {an od : Option Addr} {osl : Array (Option Value)} {args : List Value} {binds : List (Str × Value)} {Q : Value → Shared → Prop}
    (hd : A.depth < recursionLimit) (O : Ok B q l h) (lim : B.NoLimit) (ho : B.get? f = some ⟨oc, od, .func (fnX nm qual params body scope cl dV kV doc pm an cd ct), osl⟩) (hcd : B.CodeRec cd qual)
    (hb : bindArgs (fnX nm qual params body scope cl dV kV doc pm an cd ct) ⟨args, []⟩ = pure binds) (hcell : ∀ x ∈ scope.names, x.2 ≠ .cell) (ks : List Str) (hloc : ∀ x ∈ ks, scope.names.lookup x = some .local)
    (k : ∀ L h₁ t', Fm B q h l L (fun x => binds.reverse.lookup x) h₁ → wpAny (model prog w) (A.deeper (envX qual scope L f cd cl)) (execs body (envX qual scope L f cd cl))
      (fun fl s' => Q (match fl with | .ret v => v | _ => .none) s') (fun _ _ => False) ⟨h₁, g, d, t', os⟩)
    (hks : binds.map (·.1) = ks := by rfl) (hco : scope.isCoroutine = false := by rfl) (hgen : scope.isGenerator = false := by rfl) (hk : scope.kind = .function := by rfl) : wpAny (model prog w) A (PySem.call (.ref f) args) Q E ⟨h, g, d, t, os⟩ := by
  subst hks
  refine wpAny_call (codeAny_call_def hd (O.keep _ _ ho) rfl (lim.keeps O.keep) (hcd.keeps O.keep) rfl (BindsTo.of_eq hb) hcell (fun x hx => hloc x.1 (List.mem_map_of_mem hx)) (fun h₁ hns hk₁ => ?_) hco hgen hk)
  exact wpAny_mono (k _ h₁ _ (Fm.start O hns hk₁)) (fun fl s' x => x) fun _ _ x => x.elim
end
end Mine
end
section
open PySem PySem.W PyProof.Rows PySem.Calls
set_option Elab.async false
set_option maxRecDepth 100000
namespace Mine
def z (b : Bool) : Int := if b then 1 else 0
def at2 (a0 a1 a2 a3 : Int) (i j : Bool) : Int := if i then (if j then a3 else a2) else (if j then a1 else a0)
section
variable {prog : Program} {w : World} {A : Around} {E : Value → Shared → Prop} {s : Shared} {h : Heap} {g : Array GenState} {d : Drawn} {t : Nat} {os : OsState} {B : Heap} {q : Addr}
theorem told_binds {nm qual : Str} {cl : List (Str × Addr)} {doc pm cd ct a b : Value} {an : Option Addr} :
    bindArgs (fnX nm qual tTold.params tTold.body tTold.scope cl .none .none doc pm an cd ct) ⟨[a, b], []⟩ = (pure [(("one" : Str), a), (("other" : Str), b)] : Sem _) := by kernel_rfl
/-- what the base says of the comparison -/
structure ToldAt (B : Heap) (q f t0 t1 : Addr) (a0 a1 a2 a3 : Int) : Prop where
  fn : ∃ nm qual cA cQ cT la lt oc od osl doc pm cd ct an u0 u1 u2 u3, B.get? f = some ⟨oc, od, .func (fnX nm qual tTold.params tTold.body tTold.scope [("things", cT), ("asked", cQ), ("answers", cA)] .none .none doc pm an cd ct), osl⟩ ∧
    B.CodeRec cd qual ∧ B.IsCell cA (some (.ref la)) ∧ B.IsCell cQ (some (.ref q)) ∧ B.IsCell cT (some (.ref lt)) ∧ B.IsList la #[.int a0 u0, .int a1 u1, .int a2 u2, .int a3 u3] ∧ B.IsList lt #[.ref t0, .ref t1]
  o0 : ∃ o, B.get? t0 = some o ∧ o.cls ≠ .type "tuple"
  o1 : ∃ o, B.get? t1 = some o ∧ o.cls ≠ .type "tuple"
  ne : t0 ≠ t1
theorem is_thing {t0 t1 : Addr} {i : Bool} {Q : Value → Shared → Prop} (h0 : ∃ o, s.heap.get? t0 = some o ∧ o.cls ≠ .type "tuple") (h1 : ∃ o, s.heap.get? t1 = some o ∧ o.cls ≠ .type "tuple") (ne : t0 ≠ t1)
    (k : Q (.bool i) s) : wpAny (model prog w) A (compareOp .Is (.ref (if i then t1 else t0)) (.ref t1)) Q E s := by
  obtain ⟨o0, e0, n0⟩ := h0
  obtain ⟨o1, e1, n1⟩ := h1
  cases i with
  | true => exact wpAny_is_ref_self k
  | false => exact wpAny_is_ref_other ne e0 e1 n0 k
theorem item_of {a : Addr} {items : Array Value} {k : Int} {t : Tok} {x : Value} {Q : Value → Shared → Prop} (hl : s.heap.IsList a items) (h0 : 0 ≤ k) (hf : k < 2 ^ 63) (hx : items[k.toNat]? = some x) (h : Q x s) :
    ItemOn (model prog w) A E (.ref a) (.int k t) Q s := ⟨"list", _, list_getitem_lookup, hl.typeIs, wpAny_getItem_list hl h0 hf hx h⟩
theorem isList_keeps {h h' : Heap} {a : Addr} {items : Array Value} (x : h.IsList a items) (k : ∀ b o, h.get? b = some o → h'.get? b = some o) : h'.IsList a items := x.at fun o => k a o
/-- one pair more is noted -/
theorem note_pair {h₀ : Heap} {l : List (Int × Int)} {L : Addr} {m : Str → Option Value} {i j : Int} {u v : Tok} {a : Addr} {Q : Value → Shared → Prop} (F : Fm B q h₀ l L m h) (ha : h.get? a = some (pairObj i j u v)) (hl : l.length + 1 ≤ 1000)
    (k : ∀ h', Fm B q h₀ (l ++ [(i, j)]) L m h' → Q .none ⟨h', g, d, t, os⟩) : wpAny (model prog w) A (PySem.call (.builtin "list.append") [.ref q, .ref a]) Q E ⟨h, g, d, t, os⟩ := by
  obtain ⟨vs, il, ps⟩ := F.ok.asked
  refine wpAny_list_append_plain il (fun h' il' sb => ?_) (by rw [List.size_toArray, ps.length]; have := F.ok.few; rw [sizeLine_eq]; omega)
  have bt : But q h h' := fun b o hb e => (sb.2 b hb).trans e
  refine k h' (F.step ⟨fun b o e => (sb.2 b (fun z => by rw [z, F.ok.off] at e; cases e)).trans (F.ok.keep b o e), F.ok.off, ⟨vs ++ [.ref a], by rw [List.push_toArray] at il'; exact il', ?_⟩, by rw [List.length_append]; simpa using hl⟩ bt)
  have hk : ∀ b o, isTup o = true → h.get? b = some o → h'.get? b = some o := fun b o ht e => bt b o (fun z => by
    subst z
    rw [(F.ok.asked).notTup e] at ht; cases ht) e
  exact (ps.keeps hk).snoc ⟨a, u, v, rfl, hk _ _ rfl ha⟩
theorem told_does {f t0 t1 : Addr} {a0 a1 a2 a3 : Int} {mg mb : Str → Option Value} (G : Glob B mg mb) (hi1 : mg "int" = none) (hi2 : mb "int" = some (.type "int")) (T : ToldAt B q f t0 t1 a0 a1 a2 a3) (i j : Bool) :
    Does 2 prog w B q (.ref f) [.ref (if i then t1 else t0), .ref (if j then t1 else t0)] (fun v => ∃ u, v = .int (at2 a0 a1 a2 a3 i j) u) [(z i, z j)] := by
  intro A E Q h g d t os l R O hl hQ
  obtain ⟨⟨nm, qual, cA, cQ, cT, la, lt, oc, od, osl, doc, pm, cd, ct, an, u0, u1, u2, u3, ho, hcd, c1, c2, c3, l1, l3⟩, ho0, ho1, ne⟩ := T
  refine in_def R.calls O G.lim ho hcd told_binds (by decide) ["one", "other"] (by decide) (fun L h₁ k₁ F => ?_)
  have up : ∀ {h h' : Heap} {t : Addr}, (∀ b o, h.get? b = some o → h'.get? b = some o) → (∃ o, h.get? t = some o ∧ o.cls ≠ .type "tuple") → ∃ o, h'.get? t = some o ∧ o.cls ≠ .type "tuple" := fun k ⟨o, e, n⟩ => ⟨o, k _ _ e, n⟩
  -- i = int(one is things[1])
  refine wpAny_execs_cons (wpAny_Assign_Name ?_ rfl)
  refine Call_name1 rfl (n_built F G hi1 hi2 (callWith_type1 ?_))
  refine wpAny_Compare1 (n_local F rfl (Subscript_Constant (n_free F c3 (v_int fun _ _ => ?_))))
  refine item_of (isList_keeps l3 F.ok.keep) (by decide) (by decide) rfl ?_
  refine is_thing (up F.ok.keep ho0) (up F.ok.keep ho1) ne (v_bool2int fun ui _ => n_store F fun h₂ k₂ F => ?_)
  -- j = int(other is things[1])
  refine wpAny_execs_cons (wpAny_Assign_Name ?_ rfl)
  refine Call_name1 rfl (n_built F G hi1 hi2 (callWith_type1 ?_))
  refine wpAny_Compare1 (n_local F rfl (Subscript_Constant (n_free F c3 (v_int fun _ _ => ?_))))
  refine item_of (isList_keeps l3 F.ok.keep) (by decide) (by decide) rfl ?_
  refine is_thing (up F.ok.keep ho0) (up F.ok.keep ho1) ne (v_bool2int fun uj _ => n_store F fun h₃ k₃ F => ?_)
  -- asked.append((i, j))
  obtain ⟨vs, ⟨n, hq⟩, ps⟩ := id F.ok.asked
  refine wpAny_execs_cons (wpAny_Expr ?_ rfl rfl)
  refine wpAny_Call_method1_late rfl rfl rfl (n_free F c2 ⟨"list", "list.append", PySem.F.plainAttrs_list, slot_list_append, type_list_append, ⟨_, hq, rfl⟩, fun a e => ⟨_, by cases e; exact hq, rfl⟩, callWith_builtin rfl (evalArgs_plain (spliced_cons ?_))⟩)
  refine wpAny_Tuple (wpAny_items_cons (n_local F rfl (wpAny_items_cons (n_local F rfl (wpAny_items_nil ⟨by show (2 : Nat) ≤ sizeLine; decide, spliced_nil ?_⟩)))))
  refine note_pair (i := if i then 1 else 0) (j := if j then 1 else 0) (F.push _) (Heap.get?_push_size _ rfl) (by simpa using hl) (fun h₄ F => ?_)
  -- return answers[2*i + j]
  refine wpAny_execs_cons (wpAny_Return_some (Subscript_BinOp (n_free F c1 ?_)))
  refine wpAny_BinOp ?_
  refine wpAny_BinOp (v_int fun _ _ => ?_)
  refine n_local F rfl (v_mul (fun _ _ => ?_) (IntMulOk.of_left (by decide)))
  refine n_local F rfl (v_add (fun _ _ => ?_))
  refine item_of (x := .int (at2 a0 a1 a2 a3 i j) (if i then (if j then u3 else u2) else (if j then u1 else u0))) (isList_keeps l1 F.ok.keep) (by cases i <;> cases j <;> decide) (by cases i <;> cases j <;> decide) (by cases i <;> cases j <;> rfl) ?_
  exact hQ _ _ _ ⟨_, rfl⟩ (by cases i <;> cases j <;> exact F.ok) F.but
end
end Mine
end
section
open PySem PySem.W PyProof.Rows PySem.Calls
set_option Elab.async false
set_option maxRecDepth 100000
namespace Mine
def cmpZ : CmpOp → Int → Bool
  | .Lt, x => decide (x < 0)
  | .Gt, x => decide (x > 0)
  | .Eq, x => x == 0
  | .LtE, x => decide (x ≤ 0)
  | .GtE, x => decide (x ≥ 0)
  | .NotEq, x => x != 0
  | _, _ => false
def isOrd : CmpOp → Bool
  | .Lt | .Gt | .Eq | .LtE | .GtE | .NotEq => true
  | _ => false
section
variable {prog : Program} {w : World} {A : Around} {E : Value → Shared → Prop} {s : Shared} {h : Heap} {g : Array GenState} {d : Drawn} {t : Nat} {os : OsState} {B : Heap} {q : Addr} {K : Frag}
theorem cmp_0 {op : CmpOp} (ho : isOrd op = true) {a : Int} {u v : Tok} {Q : Value → Shared → Prop} (k : Q (.bool (cmpZ op a)) s) : wpAny (model prog w) A (compareOp op (.int a u) (.int 0 v)) Q E s := by
  cases op
  case Lt => exact P.lt_int k
  case Gt => exact P.gt_int k
  case Eq => exact P.eq_int k
  case LtE => exact P.le_int k
  case GtE => exact P.ge_int k
  case NotEq => exact P.ne_int k
  all_goals cases ho
/-- the slot of a key's class is read -/
structure Slotted (K : Frag) (C md : Addr) : Prop where
  hga : findIn K (.ref C) "__getattribute__" = some (some (.builtin "object.__getattribute__"))
  hk : findIn K (.ref C) "__getattr__" = some none
  hf : ∀ od, findObj K C od "obj" = some (.bind (.builtin "member_descriptor.__get__") (.ref md))
  hp : slotIn K md C = some 0
theorem get_obj {C md x v : Addr} {ox : Obj} {od : Option Obj} {expr : Bool} {Q : Value → Shared → Prop} (X : K.In h) (S : Slotted K C md) (I : InstAt h x ox C od) (hv : (ox.slots[0]?).join = some (.ref v)) (k : ∀ t', Q (.ref v) ⟨h, g, d, t', os⟩) :
    wpAny (model prog w) A (getAttr (.ref x) "obj" expr) Q E ⟨h, g, d, t, os⟩ :=
  get_bind X I S.hga (S.hf _) S.hk (wpAny_call (slot_get (s := ⟨h, g, d, t + 1, os⟩) X I S.hp hv (handed_on rfl (k _))))
theorem inst_keeps {h h' : Heap} {x C : Addr} {ox : Obj} {od : Option Obj} (I : InstAt h x ox C od) (k : ∀ b o, h.get? b = some o → h'.get? b = some o) : InstAt h' x ox C od := by
  refine ⟨k _ _ I.at_, I.cls, I.no, ?_⟩
  have z := I.dict
  cases e : ox.dict with
  | none => rw [e] at z; cases od with | none => trivial | some _ => exact z.elim
  | some a => rw [e] at z; cases od with | none => exact z.elim | some o => exact k _ _ z
structure OpTxt (T : Txt) (op : CmpOp) : Prop where
  body : ∃ p1 p2 p3 p4 p5 p6 p7 p8 p9 n, T.body = [.Return (some (.Compare (.Call (.Name "mycmp" p1) [.Attribute (.Name "self" p2) "obj" p3, .Attribute (.Name "other" p4) "obj" p5] [] p6) [op] [.Constant (.int 0) n p7] p8)) p9]
  binds : ∀ nm qual cl doc pm cd ct an a b, bindArgs (fnX nm qual T.params T.body T.scope cl .none .none doc pm an cd ct) ⟨[a, b], []⟩ = (pure [(("self" : Str), a), (("other" : Str), b)] : Sem _)
  self : T.scope.names.lookup ("self" : Str) = some .local
  other : T.scope.names.lookup ("other" : Str) = some .local
  mycmp : T.scope.names.lookup ("mycmp" : Str) = some .free
  noCell : ∀ x ∈ T.scope.names, x.2 ≠ .cell
  co : T.scope.isCoroutine = false
  gen : T.scope.isGenerator = false
  kind : T.scope.kind = .function
theorem txt_lt : OpTxt tKlt .Lt := ⟨⟨_, _, _, _, _, _, _, _, _, _, rfl⟩, by intros; kernel_rfl, rfl, rfl, rfl, by decide, rfl, rfl, rfl⟩
theorem txt_gt : OpTxt tKgt .Gt := ⟨⟨_, _, _, _, _, _, _, _, _, _, rfl⟩, by intros; kernel_rfl, rfl, rfl, rfl, by decide, rfl, rfl, rfl⟩
theorem txt_eq : OpTxt tKeq .Eq := ⟨⟨_, _, _, _, _, _, _, _, _, _, rfl⟩, by intros; kernel_rfl, rfl, rfl, rfl, by decide, rfl, rfl, rfl⟩
theorem txt_le : OpTxt tKle .LtE := ⟨⟨_, _, _, _, _, _, _, _, _, _, rfl⟩, by intros; kernel_rfl, rfl, rfl, rfl, by decide, rfl, rfl, rfl⟩
theorem txt_ge : OpTxt tKge .GtE := ⟨⟨_, _, _, _, _, _, _, _, _, _, rfl⟩, by intros; kernel_rfl, rfl, rfl, rfl, by decide, rfl, rfl, rfl⟩
/-- a function of K's body stands at fn -/
def OpAt (B : Heap) (T : Txt) (fn cM : Addr) : Prop :=
  ∃ nm qual od osl doc pm cd ct an, B.get? fn = some ⟨.type "function", od, .func (fnX nm qual T.params T.body T.scope [("mycmp", cM)] .none .none doc pm an cd ct), osl⟩ ∧ B.CodeRec cd qual
/-- a key -/
def KeyOf (B : Heap) (C k x : Addr) : Prop := ∃ ox od, InstAt B k ox C od ∧ (ox.slots[0]?).join = some (.ref x)
theorem op_does {T : Txt} {op : CmpOp} {n : Nat} {fn cM f C md k1 k2 x1 x2 : Addr} {V : Int} {L : List (Int × Int)} {mg mb : Str → Option Value} (G : Glob B mg mb) (TX : OpTxt T op) (ho : isOrd op = true) (X : K.In B) (S : Slotted K C md)
    (F : OpAt B T fn cM) (c : B.IsCell cM (some (.ref f))) (f1 : ∃ o fd, B.get? f = some o ∧ o.data = .func fd) (I1 : KeyOf B C k1 x1) (I2 : KeyOf B C k2 x2) (D : Does n prog w B q (.ref f) [.ref x1, .ref x2] (fun v => ∃ u, v = .int V u) L) :
    Does (n + 1) prog w B q (.ref fn) [.ref k1, .ref k2] (fun v => v = .bool (cmpZ op V)) L := by
  intro A E Q h g d t os l R O hl hQ
  obtain ⟨nm, qual, od, osl, doc, pm, cd, ct, an, hf, hcd⟩ := F
  obtain ⟨o1, od1, i1, s1⟩ := I1
  obtain ⟨o2, od2, i2, s2⟩ := I2
  obtain ⟨of, fd, hof, hdf⟩ := f1
  obtain ⟨p1, p2, p3, p4, p5, p6, p7, p8, p9, nn, hb⟩ := TX.body
  refine in_def R.calls O G.lim hf hcd (TX.binds ..) TX.noCell ["self", "other"] (by intro x hx; simp only [List.mem_cons, List.not_mem_nil, or_false] at hx; rcases hx with rfl | rfl; exact TX.self; exact TX.other) (fun L h₁ k₁ F => ?_) rfl TX.co TX.gen TX.kind
  rw [hb]
  refine wpAny_execs_cons (wpAny_Return_some (wpAny_Compare1 ?_))
  refine Call_Name2 (n_free F c ?_ rfl TX.kind TX.mycmp)
  refine callWith_function (o := of) (fd := fd) (evalArgs_plain (spliced_cons (Attribute_name (n_local F rfl ?_ rfl TX.kind TX.self))))
  refine get_obj (X.keeps F.ok.keep) S (inst_keeps i1 F.ok.keep) s1 fun _ => ?_
  refine spliced_cons (Attribute_name (n_local F rfl ?_ rfl TX.kind TX.other))
  refine get_obj (X.keeps F.ok.keep) S (inst_keeps i2 F.ok.keep) s2 fun _ => spliced_nil ⟨⟨F.ok.keep _ _ hof, hdf⟩, ?_⟩
  refine D _ _ _ _ _ _ _ _ _ R.deeper F.ok hl (fun v h' t' pv o' b' => ?_)
  obtain ⟨u, rfl⟩ := pv
  exact v_int fun _ _ => cmp_0 ho (hQ _ _ _ rfl o' (F.but.trans b'))
end
end Mine
end
section
open PySem PySem.W PyProof.Rows PySem.Calls Builtin Builtin.ObjectAttr
set_option Elab.async false
set_option maxRecDepth 100000
namespace Mine
section
variable {prog : Program} {w : World} {A : Around} {E : Value → Shared → Prop} {s : Shared} {h : Heap} {g : Array GenState} {d : Drawn} {t : Nat} {os : OsState} {B : Heap} {q : Addr} {K : Frag} {x C f : Addr} {ox : Obj} {od : Option Obj}
theorem entry_hasattr : entryFor table "hasattr" = some Builtin.«hasattr» := entryFor_of_tree (by kernel_rfl)
theorem kind_hasattr : builtinKind "hasattr" = none := by decide +kernel
theorem plain_hasattr : plainId "hasattr" = true := by decide +kernel
theorem args_hasattr (a b : Value) : argsOk "hasattr" ⟨[a, b], []⟩ := by unfold argsOk; kernel_rfl
/-- getAttrBy on an instance of a class of one's own -/
theorem by_open {nm : Str} {u : Tok} {fill : Bool} {ex : Bool} {Q : Value → Shared → Prop} (X : K.In s.heap) (I : InstAt s.heap x ox C od) (hga : findIn K (.ref C) "__getattribute__" = some (some (.builtin "object.__getattribute__")))
    (k : wpAny (model prog w) A.in1 (Builtin.«proto.getattr_hooked» ⟨[.ref x, .str nm u], []⟩)
      (fun fin s' => match fin with | .done (.ret v) => wpAny (model prog w) A (handedOut v) Q E s' | _ => False) (fun e s' => wpAny (model prog w) A (noteIf fill (.ref x) (.str nm u) e) (fun _ s'' => E e s'') E s') s) :
    wpAny (model prog w) A (getAttrBy (.ref x) (.str nm u) fill ex) Q E s := by
  obtain ⟨hh, g, d, t, os⟩ := s
  have L0 := I.type (M := model prog w)
  have L1 := looks_findIn (M := model prog w) X hga
  unfold getAttrBy
  refine wpAny_holding (wpAny_bind (L0.at (wpAny_bind (L1.at ?_))))
  show wpAny _ _ (getAttrEveryday _ _ _) _ _ _
  refine wpAny_bind (wpAny_onRaise (wpAny_runValue (codeAny_builtin PySem.F.plainObj_entry_getattr_hooked (wpAny_mono k (fun fin s' z => ?_) fun _ _ z => z))))
  rcases fin with (_ | _ | _ | _) | _ <;> first | exact z | exact z.elim
theorem hooked_value {nm : Str} {u : Tok} {v : Value} {Q : Fin → Shared → Prop} (X : K.In h) (I : InstAt h x ox C od) (hf : findObj K C od nm = some (.value v)) (k : Q (.done (.ret v)) ⟨h, g, d, t, os⟩) :
    wpAny (model prog w) A (Builtin.«proto.getattr_hooked» ⟨[.ref x, .str nm u], []⟩) Q E ⟨h, g, d, t, os⟩ := by
  have L0 := I.type (M := model prog w)
  have L1 := looks_find (M := model prog w) X I hf
  exact wpAny_bind (wpAny_pure (wpAny_bind (L0.at (wpAny_bind (L1.at (wpAny_pure k))))))
theorem hasattr_by {nm : Str} {u : Tok} {Q : Value → Shared → Prop} (X : K.In h) (I : InstAt h x ox C od) (hm : mroIn K C (.type "module") = some false)
    (k : wpAny (model prog w) A.in1 (getAttrBy? (.ref x) (.str nm u)) (fun r s' => Q (.bool r.isSome) s') E ⟨h, g, d, t, os⟩) :
    wpAny (model prog w) A (PySem.call (.builtin "hasattr") [.ref x, .str nm u]) Q E ⟨h, g, d, t, os⟩ := by
  refine Calls.call_function_entry kind_hasattr plain_hasattr entry_hasattr (args_hasattr _ _) ?_
  have L0 := I.type (M := model prog w)
  have L1 := looks_mroIn (M := model prog w) X hm
  have L2 : Looks (model prog w) h (isInstance (.ref x) (.type "module")) false := L0.andThen L1
  unfold Builtin.«hasattr»
  refine wpAny_bind (m := someArgs "hasattr" 2 2 _) (wpAny_pure ?_)
  dsimp only
  refine wpAny_bind (wpAny_of_eq (a := ()) rfl ?_)
  rw [if_neg (by intro z; cases (beq_iff_eq.mp z))]
  refine wpAny_bind (L0.at ?_)
  dsimp only
  refine wpAny_bind (wpAny_bind (wpAny_pure ?_))
  dsimp only
  refine wpAny_bind (L2.at ?_)
  rw [if_pos (show (!false) = true from rfl)]
  refine wpAny_pure ?_
  rw [if_neg (by decide)]
  refine wpAny_bind (wpAny_mono k (fun r s' hr => ?_) fun _ _ e => e)
  rw [if_neg (by cases r <;> simp)]
  exact wpAny_pure ⟨_, rfl, hr⟩
theorem hasattr_value {nm : Str} {u : Tok} {v : Value} {Q : Value → Shared → Prop} (X : K.In h) (I : InstAt h x ox C od) (hga : findIn K (.ref C) "__getattribute__" = some (some (.builtin "object.__getattribute__"))) (hm : mroIn K C (.type "module") = some false)
    (hf : findObj K C od nm = some (.value v)) (hh : handedIn v = true) (k : Q (.bool true) ⟨h, g, d, t, os⟩) :
    wpAny (model prog w) A (PySem.call (.builtin "hasattr") [.ref x, .str nm u]) Q E ⟨h, g, d, t, os⟩ := by
  refine hasattr_by X I hm ?_
  unfold getAttrBy?
  refine wpAny_bind (wpAny_attempt (by_open X I hga (hooked_value X I hf ?_)))
  refine handed_on hh ?_
  exact wpAny_pure k
theorem hasattr_missing {nm : Str} {u : Tok} {cn : String} {Q : Value → Shared → Prop} (hA : A.handled = none) (X : K.In h) (I : InstAt h x ox C od) (hga : findIn K (.ref C) "__getattribute__" = some (some (.builtin "object.__getattribute__"))) (hk : findIn K (.ref C) "__getattr__" = some none)
    (hm : mroIn K C (.type "module") = some false) (hf : findObj K C od nm = some .missing) (hc : Looks (model prog w) h (typeNameOfCut 100 (.ref x)) cn) (hl : cn.length ≤ 50) (hn : nm.length ≤ 100)
    (k : ∀ h' t', (∀ b o, h.get? b = some o → h'.get? b = some o) → Q (.bool false) ⟨h', g, d, t', os⟩) :
    wpAny (model prog w) A (PySem.call (.builtin "hasattr") [.ref x, .str nm u]) Q E ⟨h, g, d, t, os⟩ := by
  refine hasattr_by X I hm ?_
  unfold getAttrBy?
  have L0 := I.type (M := model prog w)
  have L1 := looks_find (M := model prog w) X I hf
  have L2 := looks_findIn (M := model prog w) X hk
  refine wpAny_bind (wpAny_attempt (by_open X I hga ?_))
  refine wpAny_bind (wpAny_pure (wpAny_bind (L0.at (wpAny_bind (L1.at (wpAny_bind (L2.at ?_)))))))
  show wpAny _ _ (noSuchAttribute _ _) _ _ _
  unfold noSuchAttribute
  refine wpAny_bind (hc.at ?_)
  refine wpAny_raiseAttrError hA (fun h' tk e ne => ?_) ?_
  · show wpAny _ _ (pure ()) _ _ _
    refine wpAny_pure ?_
    obtain ⟨t1, u1, he⟩ := ne.there
    refine wpAny_bind (wpAny_bind (wpAny_typeOf_ref he ?_))
    rw [sub_AttributeError]
    refine wpAny_pure ?_
    exact wpAny_pure (k _ _ ne.keeps)
  · refine attrMsg_fits ?_ (by rw [sizeLine_eq]; omega)
    show ("'" ++ cn ++ "' object has no attribute '").length ≤ 90
    have e1 : "'".length = 1 := by decide
    have e2 : "' object has no attribute '".length ≤ 30 := by decide
    rw [String.length_append, String.length_append]; omega
end
end Mine
end
section
open PySem PySem.W PyProof.Rows PySem.Calls Builtin Builtin.ObjectAttr
set_option Elab.async false
set_option maxRecDepth 100000
namespace Mine
section
variable {prog : Program} {w : World} {A : Around} {E : Value → Shared → Prop} {s : Shared} {h : Heap} {g : Array GenState} {d : Drawn} {t : Nat} {os : OsState} {B : Heap} {q : Addr} {K : Frag} {x C f : Addr} {ox : Obj} {od : Option Obj}
theorem Ok.keeps {l : List (Int × Int)} {h h' : Heap} (O : Ok B q l h) (k : ∀ b o, h.get? b = some o → h'.get? b = some o) : Ok B q l h' :=
  ⟨fun b o e => k _ _ (O.keep b o e), O.off, let ⟨vs, i, p⟩ := O.asked; ⟨vs, i.at (k _), p.keeps fun b o _ e => k b o e⟩, O.few⟩
/-- a plain def of the text stands at fn -/
def DefAt (B : Heap) (T : Txt) (fn : Addr) : Prop :=
  ∃ nm qual od osl doc pm cd ct an, B.get? fn = some ⟨.type "function", od, .func (fnX nm qual T.params T.body T.scope [] .none .none doc pm an cd ct), osl⟩ ∧ B.CodeRec cd qual
/-- an instance whose attribute handler_order is v -/
structure Ordered (K : Frag) (B : Heap) (C x v : Addr) : Prop where
  hga : findIn K (.ref C) "__getattribute__" = some (some (.builtin "object.__getattribute__"))
  hm : mroIn K C (.type "module") = some false
  inst : ∃ ox od, InstAt B x ox C (some od) ∧ findObj K C (some od) "handler_order" = some (.value (.ref v))
theorem get_order {v : Addr} {ex : Bool} {Q : Value → Shared → Prop} (X : K.In B) (F : ∀ b o, B.get? b = some o → h.get? b = some o) (O : Ordered K B C x v) (k : ∀ t', Q (.ref v) ⟨h, g, d, t', os⟩) :
    wpAny (model prog w) A (getAttr (.ref x) "handler_order" ex) Q E ⟨h, g, d, t, os⟩ := by
  obtain ⟨ox, od, I, hf⟩ := O.inst
  exact get_value (X.keeps F) (inst_keeps I F) O.hga hf rfl (k _)
theorem blt_binds {nm qual : Str} {cl : List (Str × Addr)} {doc pm cd ct a b : Value} {an : Option Addr} :
    bindArgs (fnX nm qual tBlt.params tBlt.body tBlt.scope cl .none .none doc pm an cd ct) ⟨[a, b], []⟩ = (pure [(("self" : Str), a), (("other" : Str), b)] : Sem _) := by kernel_rfl
theorem blt_does {n : Nat} {fn C1 C2 x1 x2 k1 k2 : Addr} {P : Value → Prop} {L : List (Int × Int)} {mg mb : Str → Option Value} (G : Glob B mg mb) (i1 : mg "hasattr" = none) (i2 : mb "hasattr" = some (.builtin "hasattr")) (X : K.In B) (D : DefAt B tBlt fn)
    (O1 : Ordered K B C1 x1 k1) (O2 : Ordered K B C2 x2 k2) (H : DoesOp n prog w B q .Lt (.ref k1) (.ref k2) P L) : Does (n + 1) prog w B q (.ref fn) [.ref x1, .ref x2] P L := by
  intro A E Q h g d t os l R O hl hQ
  obtain ⟨nm, qual, od, osl, doc, pm, cd, ct, an, hf, hcd⟩ := D
  refine in_def R.calls O G.lim hf hcd blt_binds (by decide) ["self", "other"] (by decide) (fun L h₁ k₁ F => ?_)
  refine wpAny_execs_cons (wpAny_If (wpAny_isTrue_Not (isTrue_plain ?_)))
  refine Call_Name2 (n_built F G i1 i2 (callWith_builtin rfl (evalArgs_plain (spliced_cons (n_local F rfl (spliced_cons (wpAny_Constant_str (spliced_nil ?_))))))))
  obtain ⟨ox2, od2, I2, hf2⟩ := O2.inst
  refine hasattr_value (X.keeps F.ok.keep) (inst_keeps I2 F.ok.keep) O2.hga O2.hm hf2 rfl ?_
  refine wpAny_truthy_bool ?_
  show wpAny _ _ (execs [] _) _ _ _
  refine wpAny_execs_nil ?_
  refine wpAny_execs_cons (wpAny_Return_some (wpAny_Compare1 ?_))
  refine Attribute_name (n_local F rfl (get_order X F.ok.keep O1 fun _ => ?_))
  refine Attribute_name (n_local F rfl (get_order X F.ok.keep O2 fun _ => ?_))
  exact H _ _ _ _ _ _ _ _ _ R.deeper F.ok hl (fun v h' t' pv o' b' => hQ _ _ _ pv o' (F.but.trans b'))
/-- against what bears no such attribute: True -/
theorem blt_true {fn y x1 : Addr} {cn : String} {mg mb : Str → Option Value} (G : Glob B mg mb) (i1 : mg "hasattr" = none) (i2 : mb "hasattr" = some (.builtin "hasattr")) (X : K.In B) (D : DefAt B tBlt fn)
    (I : InstAt B y ox C od) (hga : findIn K (.ref C) "__getattribute__" = some (some (.builtin "object.__getattribute__"))) (hk : findIn K (.ref C) "__getattr__" = some none)
    (hm : mroIn K C (.type "module") = some false) (hf : findObj K C od "handler_order" = some .missing) (hc : Looks (model prog w) B (typeNameOfCut 100 (.ref y)) cn) (hl : cn.length ≤ 50) : Does 1 prog w B q (.ref fn) [.ref x1, .ref y] (· = .bool true) [] := by
  intro A E Q h g d t os l R O hlen hQ
  obtain ⟨nm, qual, od, osl, doc, pm, cd, ct, an, hfn, hcd⟩ := D
  refine in_def R.calls O G.lim hfn hcd blt_binds (by decide) ["self", "other"] (by decide) (fun L h₁ k₁ F => ?_)
  refine wpAny_execs_cons (wpAny_If (wpAny_isTrue_Not (isTrue_plain ?_)))
  refine Call_Name2 (n_built F G i1 i2 (callWith_builtin rfl (evalArgs_plain (spliced_cons (n_local F rfl (spliced_cons (wpAny_Constant_str (spliced_nil ?_))))))))
  refine hasattr_missing R.handled (X.keeps F.ok.keep) (inst_keeps I F.ok.keep) hga hk hm hf (hc.keeps F.ok.keep) hl (by decide) fun h' t' kp => ?_
  refine wpAny_truthy_bool ?_
  show wpAny _ _ (execs [_] _) _ _ _
  refine wpAny_execs_cons (wpAny_Return_some (wpAny_Constant_bool ?_))
  exact hQ _ _ _ rfl (by rw [List.append_nil]; exact F.ok.keeps kp) (F.but.trans fun b o _ e => kp b o e)
end
end Mine
end
section
open PySem PySem.W PyProof.Rows PySem.Calls Builtin Builtin.ObjectAttr
set_option Elab.async false
set_option maxRecDepth 100000
namespace Mine
section
variable {prog : Program} {w : World} {A : Around} {E : Value → Shared → Prop} {s : Shared} {h : Heap} {g : Array GenState} {d : Drawn} {t : Nat} {os : OsState} {B : Heap} {q : Addr} {K : Frag} {x C f : Addr} {ox : Obj} {od : Option Obj}
theorem rich_of {op : CmpOp} (ho : isOrd op = true) {a b : Value} {Q : Value → Shared → Prop} (k : wpAny (model prog w) A (richCompare op a b) Q E s) : wpAny (model prog w) A (compareOp op a b) Q E s := by
  unfold compareOp
  cases op <;> first | exact k | cases ho
/-- one's own method answers, the right side is of no class below -/
theorem own_op {n : Nat} {op : CmpOp} {x C fn : Addr} {b tb : Value} {P : Value → Prop} {L : List (Int × Int)} (ho : isOrd op = true) (X : K.In B) (I : InstAt B x ox C od) (hb : Looks (model prog w) B (typeOf b) tb) (hn : notFirst K C tb = true)
    (hs : findIn K (.ref C) (cmpInfo op).2.1 = some (some (.ref fn))) (hf : isFn K (.ref fn) = true) (hP : ∀ v, P v → ∃ b, v = .bool b) (D : Does n prog w B q (.ref fn) [.ref x, b] P L) : DoesOp n prog w B q op (.ref x) b P L := by
  intro A E Q h g d t os l R O hl hQ
  refine rich_of ho ?_
  have X' := X.keeps O.keep
  have I' := inst_keeps I O.keep
  have hb' := hb.keeps O.keep
  have one : wpAny (model prog w) A (tryCompare (.ref x) (cmpInfo op).2.1 b) (fun r s' => ∃ v, r = some v ∧ Q v s') E ⟨h, g, d, t, os⟩ := by
    unfold tryCompare
    refine wpAny_bind (ifBound_K X' I' hs hf (D A E _ h g d t os l R O hl fun v h' t' pv o' b' => ?_))
    obtain ⟨bb, rfl⟩ := hP v pv
    exact wpAny_pure ⟨_, rfl, hQ _ _ _ pv o' b'⟩
  unfold richCompare
  simp only [oneThing_ref]
  refine wpAny_holding (wpAny_bind (wpAny_cRoomFor R.room ?_))
  refine wpAny_bind (I'.type.at (wpAny_bind (hb'.at ?_)))
  split
  · rename_i z
    have e : subIn K tb (.ref C) = some false := by
      rcases Bool.or_eq_true_iff.mp hn with e | e
      · rw [beq_iff_eq.mp e] at z; simp at z
      · exact beq_iff_eq.mp e
    refine wpAny_bind ((looks_subIn X' e).at ?_)
    rw [if_neg (by decide)]
    refine wpAny_bind (wpAny_mono one (fun r s' z => ?_) fun _ _ e => e)
    obtain ⟨v, rfl, hq⟩ := z
    exact wpAny_pure hq
  · refine wpAny_bind (wpAny_pure ?_)
    rw [if_neg (by decide)]
    refine wpAny_bind (wpAny_mono one (fun r s' z => ?_) fun _ _ e => e)
    obtain ⟨v, rfl, hq⟩ := z
    exact wpAny_pure hq
/-- a built-in special method of object's, met on an instance -/
theorem ifBound_B {name : Str} {id nn : String} {args : List Value} {Q : Option Value → Shared → Prop} (S : Slot "object" name id) (X : K.In h) (I : InstAt h x ox C od) (hs : findIn K (.ref C) name = some (some (.builtin id)))
    (k : wpAny (model prog w) A (call (.builtin id) (.ref x :: args)) (fun v => Q (some v)) E ⟨h, g, d, t, os⟩) : wpAny (model prog w) A (callSpecialIfBound? (.ref x) name args) Q E ⟨h, g, d, t, os⟩ := by
  simp only [callSpecialIfBound?, bindSpecialIfBound?]
  refine wpAny_holding (wpAny_bind (wpAny_bind (wpAny_bind (I.type.at ((looks_findIn X hs).at ?_)))))
  simp only [S.bind]
  refine wpAny_bind (wpAny_askSetting (wpAny_ite ?_))
  have fin : wpAny (model prog w) A (call (.builtin id) ([.ref x] ++ args) >>= fun v => pure (some v)) Q E ⟨h, g, d, t, os⟩ :=
    wpAny_bind (wpAny_mono k (fun v s' h' => wpAny_pure h') fun _ _ h' => h')
  split
  · exact wpAny_bind (wpAny_pure (wpAny_pure fin))
  · exact wpAny_tryCatch (wpAny_bind (wpAny_pure (wpAny_pure fin)))
theorem call_B {id n : String} {b : Builtin} {args : List Value} {Q : Value → Shared → Prop} (hk : builtinKind id = some .slot) (hs : splitId id = some ("object", n)) (hp : plainId id = true) (he : entryFor table id = some b) (ha : argsOk id ⟨.ref x :: args, []⟩)
    (X : K.In h) (I : InstAt h x ox C od) (hm : mroIn K C (.type "object") = some true)
    (k : wpAny (model prog w) A.in1 (b ⟨.ref x :: args, []⟩) (fun fin s' => ∃ v, fin = .done (.ret v) ∧ Q v s') E ⟨h, g, d, t, os⟩) : wpAny (model prog w) A (call (.builtin id) (.ref x :: args)) Q E ⟨h, g, d, t, os⟩ := by
  refine wpAny_call (codeAny_call_builtin hp he (check_slot hk hs (I.type.andThen (looks_mroIn X hm)) ha ?_))
  refine wpAny_mono k (fun fin s' z => ?_) fun _ _ e => e
  obtain ⟨v, rfl, z⟩ := z
  exact z
theorem slot_obj_gt : Slot "object" "__gt__" "object.__gt__" := .of (owner := "object") (n := "__gt__") (by rw [typeLookup_type, builtinLookup_eq_fast]; kernel_rfl) (by decide +kernel) (by decide +kernel) (by decide +kernel)
    (by first | exact .inl (by decide +kernel) | exact .inr (by decide +kernel)) (by rw [isSubtype_type]; kernel_rfl)
theorem entry_obj_gt : entryFor table "object.__gt__" = some Builtin.«object.__gt__» := entryFor_of_tree (by kernel_rfl)
theorem kind_obj_gt : builtinKind "object.__gt__" = some .slot := by decide +kernel
theorem split_obj_gt : splitId "object.__gt__" = some ("object", "__gt__") := by decide +kernel
theorem args_obj_gt (a b : Value) : argsOk "object.__gt__" ⟨[a, b], []⟩ := by unfold argsOk; kernel_rfl
/-- a try that object's own method declines -/
theorem try_gt {b : Value} {Q : Option Value → Shared → Prop} (X : K.In h) (I : InstAt h x ox C od) (hs : findIn K (.ref C) "__gt__" = some (some (.builtin "object.__gt__"))) (hm : mroIn K C (.type "object") = some true) (k : Q none ⟨h, g, d, t, os⟩) :
    wpAny (model prog w) A (tryCompare (.ref x) "__gt__" b) Q E ⟨h, g, d, t, os⟩ := by
  unfold tryCompare
  refine wpAny_bind (ifBound_B (nn := "") slot_obj_gt X I hs (call_B kind_obj_gt split_obj_gt slot_obj_gt.plain entry_obj_gt (args_obj_gt _ _) X I hm ?_))
  unfold Builtin.«object.__gt__»
  refine wpAny_bind (m := slotArgs "__gt__" 1 _) (wpAny_pure ?_)
  exact wpAny_pure ⟨_, rfl, wpAny_pure k⟩
theorem try_eq {y : Addr} {oy : Obj} {Q : Option Value → Shared → Prop} (X : K.In h) (I : InstAt h x ox C od) (hs : findIn K (.ref C) "__eq__" = some (some (.builtin "object.__eq__"))) (hm : mroIn K C (.type "object") = some true) (hy : h.get? y = some oy) (ne : x ≠ y) (k : Q none ⟨h, g, d, t, os⟩) :
    wpAny (model prog w) A (tryCompare (.ref x) "__eq__" (.ref y)) Q E ⟨h, g, d, t, os⟩ := by
  unfold tryCompare
  refine wpAny_bind (ifBound_B (nn := "") PySem.F.cmp_object.eq X I hs (call_B PySem.F.cmpKind_eq PySem.F.cmpSplit_eq PySem.F.cmp_object.eq.plain PySem.F.cmpEntry_eq (PySem.F.cmpArgs_eq _ _) X I hm ?_))
  refine objEq_entry_other ne I.at_ hy (by rw [I.cls]; intro e; cases e) ?_
  exact ⟨_, rfl, wpAny_pure k⟩
theorem try_eq_same {Q : Option Value → Shared → Prop} (X : K.In h) (I : InstAt h x ox C od) (hs : findIn K (.ref C) "__eq__" = some (some (.builtin "object.__eq__"))) (hm : mroIn K C (.type "object") = some true) (k : Q (some (.bool true)) ⟨h, g, d, t, os⟩) :
    wpAny (model prog w) A (tryCompare (.ref x) "__eq__" (.ref x)) Q E ⟨h, g, d, t, os⟩ := by
  unfold tryCompare
  refine wpAny_bind (ifBound_B (nn := "") PySem.F.cmp_object.eq X I hs (call_B PySem.F.cmpKind_eq PySem.F.cmpSplit_eq PySem.F.cmp_object.eq.plain PySem.F.cmpEntry_eq (PySem.F.cmpArgs_eq _ _) X I hm ?_))
  refine objEq_entry_same ?_
  exact ⟨_, rfl, wpAny_pure k⟩
/-- object.__ne__, by the __eq__ that the class finds -/
theorem try_ne {b : Value} {Q : Option Value → Shared → Prop} (hu : A.units + 1 < cLine) (X : K.In h) (I : InstAt h x ox C od) (hs : findIn K (.ref C) "__ne__" = some (some (.builtin "object.__ne__"))) (hm : mroIn K C (.type "object") = some true)
    (k : wpAny (model prog w) A.in1 (callSpecialIfBound? (.ref x) "__eq__" [b]) (fun r s' => (r = some .notImplemented ∧ Q none s') ∨ ∃ bb, r = some (.bool bb) ∧ Q (some (.bool (!bb))) s') E ⟨h, g, d, t, os⟩) :
    wpAny (model prog w) A (tryCompare (.ref x) "__ne__" b) Q E ⟨h, g, d, t, os⟩ := by
  unfold tryCompare
  refine wpAny_bind (ifBound_B (nn := "") PySem.F.cmp_object.ne X I hs (call_B PySem.F.cmpKind_ne PySem.F.cmpSplit_ne PySem.F.cmp_object.ne.plain PySem.F.cmpEntry_ne (PySem.F.cmpArgs_ne _ _) X I hm ?_))
  unfold Builtin.«object.__ne__»
  refine wpAny_bind (m := slotArgs "__ne__" 1 _) (wpAny_pure ?_)
  dsimp only
  refine wpAny_bind (wpAny_cRoomFor hu (wpAny_bind (wpAny_mono k (fun r s' z => ?_) fun _ _ e => e)))
  rcases z with ⟨rfl, z⟩ | ⟨bb, rfl, z⟩
  · exact wpAny_pure ⟨_, rfl, wpAny_pure z⟩
  · exact wpAny_bind (wpAny_truthy_bool (wpAny_pure ⟨_, rfl, wpAny_pure z⟩))
end
end Mine
end
section
open PySem PySem.W PyProof.Rows PySem.Calls Builtin Builtin.ObjectAttr
set_option Elab.async false
set_option maxRecDepth 100000
namespace Mine
section
variable {prog : Program} {w : World} {A : Around} {E : Value → Shared → Prop} {s : Shared} {h : Heap} {g : Array GenState} {d : Drawn} {t : Nat} {os : OsState} {B : Heap} {q : Addr} {K : Frag} {x C f : Addr} {ox : Obj} {od : Option Obj}
/-- the class of keys -/
structure KeyCls (K : Frag) (C : Addr) (fn : CmpOp → Addr) : Prop where
  own : ∀ op, isOrd op = true → op ≠ .NotEq → findIn K (.ref C) (cmpInfo op).2.1 = some (some (.ref (fn op))) ∧ isFn K (.ref (fn op)) = true
  ne : findIn K (.ref C) "__ne__" = some (some (.builtin "object.__ne__"))
  obj : mroIn K C (.type "object") = some true
theorem same_not {op : CmpOp} {a b : Addr} {Q : Value → Shared → Prop} {C : Addr} {oa ob : Option Obj} {oxa oxb : Obj} (hu : A.units < cLine) (Ia : InstAt h a oxa C oa) (Ib : InstAt h b oxb C ob) {name : Str} (hn : (cmpInfo op).2.1 = name)
    (k : wpAny (model prog w) A (tryCompare (.ref a) name (.ref b)) (fun r s' => ∃ v, r = some v ∧ Q v s') E ⟨h, g, d, t, os⟩) : wpAny (model prog w) A (richCompare op (.ref a) (.ref b)) Q E ⟨h, g, d, t, os⟩ := by
  subst hn
  unfold richCompare
  simp only [oneThing_ref]
  refine wpAny_holding (wpAny_bind (wpAny_cRoomFor hu ?_))
  refine wpAny_bind (Ia.type.at (wpAny_bind (Ib.type.at ?_)))
  rw [if_neg (by simp)]
  refine wpAny_bind (wpAny_pure ?_)
  rw [if_neg (by decide)]
  refine wpAny_bind (wpAny_mono k (fun r s' z => ?_) fun _ _ e => e)
  obtain ⟨v, rfl, hq⟩ := z
  exact wpAny_pure hq
theorem key_op {n : Nat} {op : CmpOp} {C k1 k2 x1 x2 : Addr} {fn : CmpOp → Addr} {V : Int} {L : List (Int × Int)} (ho : isOrd op = true) (X : K.In B) (Y : KeyCls K C fn) (I1 : KeyOf B C k1 x1) (I2 : KeyOf B C k2 x2)
    (D : ∀ op, isOrd op = true → op ≠ .NotEq → Does n prog w B q (.ref (fn op)) [.ref k1, .ref k2] (fun v => v = .bool (cmpZ op V)) L) : DoesOp (n + 1) prog w B q op (.ref k1) (.ref k2) (fun v => v = .bool (cmpZ op V)) L := by
  obtain ⟨o1, od1, i1, _⟩ := I1
  obtain ⟨o2, od2, i2, _⟩ := I2
  by_cases hne : op = .NotEq
  · subst hne
    intro A E Q h g d t os l R O hl hQ
    refine rich_of rfl (same_not R.room (inst_keeps i1 O.keep) (inst_keeps i2 O.keep) rfl (try_ne R.room1 (X.keeps O.keep) (inst_keeps i1 O.keep) Y.ne Y.obj ?_))
    obtain ⟨h1, h2⟩ := Y.own .Eq rfl (by decide)
    refine ifBound_K (X.keeps O.keep) (inst_keeps i1 O.keep) h1 h2 (D .Eq rfl (by decide) _ _ _ _ _ _ _ _ _ R.in1 O hl fun v h' t' pv o' b' => ?_)
    subst pv
    exact .inr ⟨_, rfl, _, rfl, hQ _ _ _ (by rfl) o' b'⟩
  · obtain ⟨h1, h2⟩ := Y.own op ho hne
    have := own_op (prog := prog) (w := w) (q := q) (L := L) (P := fun v => v = .bool (cmpZ op V)) (tb := .ref C) (op := op) ho X i1 i2.type (by unfold notFirst; simp) h1 h2 (fun v pv => ⟨_, pv⟩) (D op ho hne)
    exact fun A E Q h g d t os l R O hl hQ => this A E Q h g d t os l R.le O hl hQ
/-- the handlers -/
structure Hands (K : Frag) (B : Heap) (C x : Bool → Addr) (fn : Addr) : Prop where
  lt : ∀ i, findIn K (.ref (C i)) "__lt__" = some (some (.ref fn))
  gt : ∀ i, findIn K (.ref (C i)) "__gt__" = some (some (.builtin "object.__gt__"))
  eq : ∀ i, findIn K (.ref (C i)) "__eq__" = some (some (.builtin "object.__eq__"))
  ne : ∀ i, findIn K (.ref (C i)) "__ne__" = some (some (.builtin "object.__ne__"))
  obj : ∀ i, mroIn K (C i) (.type "object") = some true
  fn : isFn K (.ref fn) = true
  sub : subIn K (.ref (C true)) (.ref (C false)) = some true
  nsub : subIn K (.ref (C false)) (.ref (C true)) = some false
  apart : C false ≠ C true
  two : x false ≠ x true
  inst : ∀ i, ∃ ox od, InstAt B (x i) ox (C i) (some od)
theorem Hands.diff {C y : Bool → Addr} {fn : Addr} (H : Hands K B C y fn) {i j : Bool} (e : i ≠ j) : y i ≠ y j := by
  cases i <;> cases j <;> first | exact absurd rfl e | exact H.two | exact fun z => H.two z.symm
theorem hand_lt {n : Nat} {C y : Bool → Addr} {fn : Addr} {P : Value → Prop} {L : List (Int × Int)} (X : K.In B) (H : Hands K B C y fn) (hP : ∀ v, P v → ∃ b, v = .bool b) (i j : Bool) (D : Does n prog w B q (.ref fn) [.ref (y i), .ref (y j)] P L) :
    DoesOp n prog w B q .Lt (.ref (y i)) (.ref (y j)) P L := by
  obtain ⟨oi, di, Ii⟩ := H.inst i
  obtain ⟨oj, dj, Ij⟩ := H.inst j
  by_cases hs : i = false ∧ j = true
  · obtain ⟨rfl, rfl⟩ := hs
    intro A E Q h g d t os l R O hl hQ
    refine rich_of rfl ?_
    have X' := X.keeps O.keep
    have Ii' := inst_keeps Ii O.keep
    have Ij' := inst_keeps Ij O.keep
    unfold richCompare
    simp only [oneThing_ref]
    refine wpAny_holding (wpAny_bind (wpAny_cRoomFor R.room ?_))
    refine wpAny_bind (Ii'.type.at (wpAny_bind (Ij'.type.at ?_)))
    rw [if_pos (by simp [H.apart])]
    refine wpAny_bind ((looks_subIn X' H.sub).at ?_)
    rw [if_pos rfl]
    refine wpAny_bind (try_gt X' Ij' (H.gt true) (H.obj true) ?_)
    unfold tryCompare
    refine wpAny_bind (wpAny_bind (ifBound_K X' Ii' (H.lt false) H.fn (D A E _ h g d t os l R O hl fun v h' t' pv o' b' => ?_)))
    obtain ⟨bb, rfl⟩ := hP v pv
    exact wpAny_pure (wpAny_pure (hQ _ _ _ pv o' b'))
  · refine own_op rfl X Ii Ij.type ?_ (H.lt i) H.fn hP D
    unfold notFirst
    cases i <;> cases j
    · simp
    · exact absurd ⟨rfl, rfl⟩ hs
    · rw [H.nsub]; simp
    · simp
theorem hand_eq {C y : Bool → Addr} {fn : Addr} (X : K.In B) (H : Hands K B C y fn) (i j : Bool) : DoesOp 0 prog w B q .Eq (.ref (y i)) (.ref (y j)) (· = .bool (i == j)) [] := by
  obtain ⟨oi, di, Ii⟩ := H.inst i
  obtain ⟨oj, dj, Ij⟩ := H.inst j
  intro A E Q h g d t os l R O hl hQ
  have hQ' := hQ (.bool (i == j)) h t rfl (by rw [List.append_nil]; exact O) .refl
  refine rich_of rfl ?_
  have X' := X.keeps O.keep
  have Ii' := inst_keeps Ii O.keep
  have Ij' := inst_keeps Ij O.keep
  by_cases e : i = j
  · subst e
    rw [beq_self_eq_true] at hQ'
    exact same_not R.room Ii' Ii' rfl (try_eq_same X' Ii' (H.eq i) (H.obj i) ⟨_, rfl, hQ'⟩)
  · rw [beq_false_of_ne e] at hQ'
    unfold richCompare
    simp only [oneThing_ref]
    refine wpAny_holding (wpAny_bind (wpAny_cRoomFor R.room ?_))
    refine wpAny_bind (Ii'.type.at (wpAny_bind (Ij'.type.at ?_)))
    have a1 := H.diff e
    have a2 : y j ≠ y i := fun z => a1 z.symm
    have fin : wpAny (model prog w) A (isSame (.ref (y i)) (.ref (y j)) >>= fun r => pure (Value.bool r)) Q E ⟨h, g, d, t, os⟩ :=
      wpAny_bind (wpAny_isSame_ref_other a1 Ii'.at_ Ij'.at_ (by rw [Ii'.cls]; intro e; cases e) (wpAny_pure hQ'))
    cases i <;> cases j
    · exact absurd rfl e
    · rw [if_pos (by simp [H.apart])]
      refine wpAny_bind ((looks_subIn X' H.sub).at ?_)
      rw [if_pos rfl]
      refine wpAny_bind (try_eq X' Ij' (H.eq _) (H.obj _) Ii'.at_ a2 ?_)
      refine wpAny_bind (try_eq X' Ii' (H.eq _) (H.obj _) Ij'.at_ a1 ?_)
      rw [if_neg (by decide)]
      exact fin
    · rw [if_pos (by simp; exact fun z => H.apart z.symm)]
      refine wpAny_bind ((looks_subIn X' H.nsub).at ?_)
      rw [if_neg (by decide)]
      refine wpAny_bind (try_eq X' Ii' (H.eq _) (H.obj _) Ij'.at_ a1 ?_)
      rw [if_pos (by decide)]
      refine wpAny_bind (try_eq X' Ij' (H.eq _) (H.obj _) Ii'.at_ a2 ?_)
      exact fin
    · exact absurd rfl e
theorem hand_ne {C y : Bool → Addr} {fn : Addr} (X : K.In B) (H : Hands K B C y fn) (i j : Bool) : DoesOp 1 prog w B q .NotEq (.ref (y i)) (.ref (y j)) (· = .bool (i != j)) [] := by
  obtain ⟨oi, di, Ii⟩ := H.inst i
  obtain ⟨oj, dj, Ij⟩ := H.inst j
  intro A E Q h g d t os l R O hl hQ
  have hQ' := hQ (.bool (i != j)) h t rfl (by rw [List.append_nil]; exact O) .refl
  refine rich_of rfl ?_
  have X' := X.keeps O.keep
  have Ii' := inst_keeps Ii O.keep
  have Ij' := inst_keeps Ij O.keep
  have decl : ∀ {i : Bool} {b : Addr} {oi : Obj} {di : Option Obj} {ob : Obj} {Q : Option Value → Shared → Prop}, InstAt h (y i) oi (C i) di → h.get? b = some ob → y i ≠ b → Q none ⟨h, g, d, t, os⟩ →
      wpAny (model prog w) A (tryCompare (.ref (y i)) "__ne__" (.ref b)) Q E ⟨h, g, d, t, os⟩ := by
    intro i b oi di ob Q I hb hne hq
    refine try_ne R.room1 X' I (H.ne i) (H.obj i) ?_
    refine ifBound_B (nn := "") PySem.F.cmp_object.eq X' I (H.eq i) (call_B PySem.F.cmpKind_eq PySem.F.cmpSplit_eq PySem.F.cmp_object.eq.plain PySem.F.cmpEntry_eq (PySem.F.cmpArgs_eq _ _) X' I (H.obj i) ?_)
    refine objEq_entry_other hne I.at_ hb (by rw [I.cls]; intro e; cases e) ?_
    exact ⟨_, rfl, .inl ⟨rfl, hq⟩⟩
  by_cases e : i = j
  · subst e
    rw [show (i != i) = false from by simp] at hQ'
    refine same_not R.room Ii' Ii' rfl (try_ne R.room1 X' Ii' (H.ne i) (H.obj i) ?_)
    refine ifBound_B (nn := "") PySem.F.cmp_object.eq X' Ii' (H.eq i) (call_B PySem.F.cmpKind_eq PySem.F.cmpSplit_eq PySem.F.cmp_object.eq.plain PySem.F.cmpEntry_eq (PySem.F.cmpArgs_eq _ _) X' Ii' (H.obj i) ?_)
    refine objEq_entry_same ?_
    exact ⟨_, rfl, .inr ⟨_, rfl, _, rfl, hQ'⟩⟩
  · rw [show (i != j) = true from by simp [e]] at hQ'
    unfold richCompare
    simp only [oneThing_ref]
    refine wpAny_holding (wpAny_bind (wpAny_cRoomFor R.room ?_))
    refine wpAny_bind (Ii'.type.at (wpAny_bind (Ij'.type.at ?_)))
    have a1 := H.diff e
    have a2 : y j ≠ y i := fun z => a1 z.symm
    have fin : wpAny (model prog w) A (isSame (.ref (y i)) (.ref (y j)) >>= fun r => pure (Value.bool (!r))) Q E ⟨h, g, d, t, os⟩ :=
      wpAny_bind (wpAny_isSame_ref_other a1 Ii'.at_ Ij'.at_ (by rw [Ii'.cls]; intro e; cases e) (wpAny_pure hQ'))
    cases i <;> cases j
    · exact absurd rfl e
    · rw [if_pos (by simp [H.apart])]
      refine wpAny_bind ((looks_subIn X' H.sub).at ?_)
      rw [if_pos rfl]
      refine wpAny_bind (decl Ij' Ii'.at_ a2 ?_)
      refine wpAny_bind (decl Ii' Ij'.at_ a1 ?_)
      rw [if_neg (by decide)]
      exact fin
    · rw [if_pos (by simp; exact fun z => H.apart z.symm)]
      refine wpAny_bind ((looks_subIn X' H.nsub).at ?_)
      rw [if_neg (by decide)]
      refine wpAny_bind (decl Ii' Ij'.at_ a1 ?_)
      rw [if_pos (by decide)]
      refine wpAny_bind (decl Ij' Ii'.at_ a2 ?_)
      exact fin
    · exact absurd rfl e
end
end Mine
end
section
open PySem PySem.W PyProof.Rows PySem.Calls Builtin Builtin.ObjectAttr
set_option Elab.async false
set_option maxRecDepth 100000
namespace Mine
section
variable {prog : Program} {w : World} {A : Around} {E : Value → Shared → Prop} {s : Shared} {h : Heap} {g : Array GenState} {d : Drawn} {t : Nat} {os : OsState} {B : Heap} {q : Addr} {K : Frag} {x C f : Addr} {ox : Obj} {od : Option Obj}
def isB (b : Bool) (v : Value) : Prop := v = .bool b
def isI (i : Int) (v : Value) : Prop := ∃ u, v = .int i u
def bi (b : Bool) : Int := if b then 1 else 0
theorem DefAt.fn {T : Txt} {fn : Addr} (D : DefAt B T fn) : ∃ o fd, B.get? fn = some o ∧ o.data = .func fd := let ⟨_, _, _, _, _, _, _, _, _, e, _⟩ := D; ⟨_, _, e, rfl⟩
theorem votes_binds {nm qual : Str} {cl : List (Str × Addr)} {doc pm cd ct a b : Value} {an : Option Addr} :
    bindArgs (fnX nm qual tVotes.params tVotes.body tVotes.scope cl .none .none doc pm an cd ct) ⟨[a, b], []⟩ = (pure [(("one" : Str), a), (("other" : Str), b)] : Sem _) := by kernel_rfl
theorem votes_does {n : Nat} {fn : Addr} {a b : Value} {b1 b2 : Bool} {L1 L2 : List (Int × Int)} {mg mb : Str → Option Value} (G : Glob B mg mb) (i1 : mg "int" = none) (i2 : mb "int" = some (.type "int")) (D : DefAt B tVotes fn)
    (H1 : DoesOp n prog w B q .Lt b a (isB b1) L1) (H2 : DoesOp n prog w B q .Lt a b (isB b2) L2) : Does (n + 1) prog w B q (.ref fn) [a, b] (isI (bi b1 - bi b2)) (L1 ++ L2) := by
  intro A E Q h g d t os l R O hl hQ
  obtain ⟨nm, qual, od, osl, doc, pm, cd, ct, an, hf, hcd⟩ := D
  rw [List.length_append] at hl
  refine in_def R.calls O G.lim hf hcd votes_binds (by decide) ["one", "other"] (by decide) (fun L h₁ k₁ F => ?_)
  refine wpAny_execs_cons (wpAny_Return_some (wpAny_BinOp ?_))
  refine Call_name1 rfl (n_built F G i1 i2 (callWith_type1 ?_))
  refine wpAny_Compare1 (n_local F rfl (n_local F rfl ?_))
  refine H1 _ _ _ _ _ _ _ _ _ R.deeper F.ok (by omega) (fun v h' t' pv o' b' => ?_)
  cases pv
  replace F := F.step o' b'
  refine v_bool2int fun u1 _ => ?_
  refine Call_name1 rfl (n_built F G i1 i2 (callWith_type1 ?_))
  refine wpAny_Compare1 (n_local F rfl (n_local F rfl ?_))
  refine H2 _ _ _ _ _ _ _ _ _ R.deeper F.ok (by rw [List.length_append]; omega) (fun v h' t' pv o' b' => ?_)
  cases pv
  replace F := F.step o' b'
  refine v_bool2int fun u2 _ => v_sub fun u t' => ?_
  refine hQ _ _ _ ⟨u, rfl⟩ (by rw [← List.append_assoc]; exact F.ok) F.but
/-- type(one).__lt__ is the def at fl -/
structure TypeLt (K : Frag) (B : Heap) (x C fl : Addr) : Prop where
  inst : ∃ ox od, InstAt B x ox C od
  ga : specialIn K (.ref C) "__getattribute__" = some (some (.builtin "type.__getattribute__"))
  reads : readsIn K C (.type "type") = true
  lt : findCls K (.ref C) (.type "type") "__lt__" = some (.val (.ref fl))
  fn : ∃ o fd, B.get? fl = some o ∧ o.data = .func fd
theorem not_bool {M : Model} {b : Bool} {Q : Value → Shared → Prop} (k : Q (.bool (!b)) s) : wpAny M A (unaryOp .Not (.bool b)) Q E s := by
  unfold unaryOp
  refine wpAny_holding (wpAny_bind (wpAny_truthy_bool (wpAny_pure k)))
theorem gtf_binds {nm qual : Str} {cl : List (Str × Addr)} {doc pm cd ct a b : Value} {an : Option Addr} :
    bindArgs (fnX nm qual tGt.params tGt.body tGt.scope cl .none .none doc pm an cd ct) ⟨[a, b], []⟩ = (pure [(("self" : Str), a), (("other" : Str), b)] : Sem _) := by kernel_rfl
theorem gtf_does {n : Nat} {fn x C fl : Addr} {b : Value} {b1 : Bool} {b2 : Bool} {L2 : List (Int × Int)} {L1 : List (Int × Int)} {mg mb : Str → Option Value} (G : Glob B mg mb) (i1 : mg "type" = none) (i2 : mb "type" = some (.type "type")) (i3 : mg "NotImplemented" = none) (i4 : mb "NotImplemented" = some .notImplemented)
    (X : K.In B) (D : DefAt B tGt fn) (T : TypeLt K B x C fl) (H1 : Does n prog w B q (.ref fl) [.ref x, b] (isB b1) L1) (H2 : b1 = false → DoesOp n prog w B q .NotEq (.ref x) b (isB b2) L2) : Does (n + 1) prog w B q (.ref fn) [.ref x, b] (isB (!b1 && b2)) (L1 ++ (if b1 then [] else L2)) := by
  intro A E Q h g d t os l R O hl hQ
  obtain ⟨nm, qual, od, osl, doc, pm, cd, ct, an, hf, hcd⟩ := D
  obtain ⟨⟨ox, oxd, I⟩, ga, reads, lt, ⟨ofl, fd, hofl, hdf⟩⟩ := T
  refine in_def R.calls O G.lim hf hcd gtf_binds (by decide) ["self", "other"] (by decide) (fun L h₁ k₁ F => ?_)
  refine wpAny_execs_cons (wpAny_Assign_Name ?_ rfl)
  refine methodCall_KW ?_
  refine Call_name1 rfl (n_built F G i1 i2 (callWith_type1 (n_local F rfl (kto_own (inst_keeps I F.ok.keep) ?_))))
  refine method_cls (X.keeps F.ok.keep) ga (cls_value (X.keeps F.ok.keep) reads lt rfl ?_)
  refine callWith_function (o := ofl) (fd := fd) (evalArgs_plain (spliced_cons (n_local F rfl (spliced_cons (n_local F rfl (spliced_nil ⟨⟨F.ok.keep _ _ hofl, hdf⟩, ?_⟩))))))
  refine H1 _ _ _ _ _ _ _ _ _ R.deeper F.ok (by rw [List.length_append] at hl; omega) (fun v h' t' pv o' b' => ?_)
  cases pv
  replace F := F.step o' b'
  refine n_store F fun h₂ k₂ F => ?_
  refine wpAny_execs_cons (wpAny_If (wpAny_isTrue_Compare1 (n_local F rfl (n_built F G i3 i4 (wpAny_is_other rfl (fun z => by cases z) (wpAny_truthy_bool ?_))))))
  rw [if_neg (by decide)]
  refine wpAny_execs_nil ?_
  refine wpAny_execs_cons (wpAny_Return_some (BoolOp_and ?_))
  refine wpAny_UnaryOp (n_local F rfl (not_bool (wpAny_truthy_bool ?_)))
  cases b1 with
  | true =>
    rw [if_neg (by decide)]
    exact hQ _ _ _ rfl (by simpa using F.ok) F.but
  | false =>
    rw [if_pos (show (!false) = true from rfl)]
    refine wpAny_Compare1 (n_local F rfl (n_local F rfl ?_))
    refine H2 rfl _ _ _ _ _ _ _ _ _ R.deeper F.ok (by rw [List.length_append] at hl ⊢; simp at hl; omega) (fun v h' t' pv o' b' => ?_)
    cases pv
    exact hQ _ _ _ rfl (by rw [← List.append_assoc]; simpa using o') (F.but.trans b')
theorem lef_binds {nm qual : Str} {cl : List (Str × Addr)} {doc pm cd ct a b : Value} {an : Option Addr} :
    bindArgs (fnX nm qual tLe.params tLe.body tLe.scope cl .none .none doc pm an cd ct) ⟨[a, b], []⟩ = (pure [(("self" : Str), a), (("other" : Str), b)] : Sem _) := by kernel_rfl
theorem lef_does {n : Nat} {fn x C fl : Addr} {b : Value} {b1 : Bool} {b2 : Bool} {L2 : List (Int × Int)} {L1 : List (Int × Int)} {mg mb : Str → Option Value} (G : Glob B mg mb) (i1 : mg "type" = none) (i2 : mb "type" = some (.type "type")) (i3 : mg "NotImplemented" = none) (i4 : mb "NotImplemented" = some .notImplemented)
    (X : K.In B) (D : DefAt B tLe fn) (T : TypeLt K B x C fl) (H1 : Does n prog w B q (.ref fl) [.ref x, b] (isB b1) L1) (H2 : b1 = false → DoesOp n prog w B q .Eq (.ref x) b (isB b2) L2) : Does (n + 1) prog w B q (.ref fn) [.ref x, b] (isB (b1 || b2)) (L1 ++ (if b1 then [] else L2)) := by
  intro A E Q h g d t os l R O hl hQ
  obtain ⟨nm, qual, od, osl, doc, pm, cd, ct, an, hf, hcd⟩ := D
  obtain ⟨⟨ox, oxd, I⟩, ga, reads, lt, ⟨ofl, fd, hofl, hdf⟩⟩ := T
  refine in_def R.calls O G.lim hf hcd lef_binds (by decide) ["self", "other"] (by decide) (fun L h₁ k₁ F => ?_)
  refine wpAny_execs_cons (wpAny_Assign_Name ?_ rfl)
  refine methodCall_KW ?_
  refine Call_name1 rfl (n_built F G i1 i2 (callWith_type1 (n_local F rfl (kto_own (inst_keeps I F.ok.keep) ?_))))
  refine method_cls (X.keeps F.ok.keep) ga (cls_value (X.keeps F.ok.keep) reads lt rfl ?_)
  refine callWith_function (o := ofl) (fd := fd) (evalArgs_plain (spliced_cons (n_local F rfl (spliced_cons (n_local F rfl (spliced_nil ⟨⟨F.ok.keep _ _ hofl, hdf⟩, ?_⟩))))))
  refine H1 _ _ _ _ _ _ _ _ _ R.deeper F.ok (by rw [List.length_append] at hl; omega) (fun v h' t' pv o' b' => ?_)
  cases pv
  replace F := F.step o' b'
  refine n_store F fun h₂ k₂ F => ?_
  refine wpAny_execs_cons (wpAny_If (wpAny_isTrue_Compare1 (n_local F rfl (n_built F G i3 i4 (wpAny_is_other rfl (fun z => by cases z) (wpAny_truthy_bool ?_))))))
  rw [if_neg (by decide)]
  refine wpAny_execs_nil ?_
  refine wpAny_execs_cons (wpAny_Return_some (BoolOp_or ?_))
  refine n_local F rfl (wpAny_truthy_bool ?_)
  cases b1 with
  | true =>
    rw [if_pos rfl]
    exact hQ _ _ _ rfl (by simpa using F.ok) F.but
  | false =>
    rw [if_neg (by decide)]
    refine wpAny_Compare1 (n_local F rfl (n_local F rfl ?_))
    refine H2 rfl _ _ _ _ _ _ _ _ _ R.deeper F.ok (by rw [List.length_append] at hl ⊢; simp at hl; omega) (fun v h' t' pv o' b' => ?_)
    cases pv
    exact hQ _ _ _ rfl (by rw [← List.append_assoc]; simpa using o') (F.but.trans b')
theorem gef_binds {nm qual : Str} {cl : List (Str × Addr)} {doc pm cd ct a b : Value} {an : Option Addr} :
    bindArgs (fnX nm qual tGe.params tGe.body tGe.scope cl .none .none doc pm an cd ct) ⟨[a, b], []⟩ = (pure [(("self" : Str), a), (("other" : Str), b)] : Sem _) := by kernel_rfl
theorem gef_does {n : Nat} {fn x C fl : Addr} {b : Value} {b1 : Bool} {L1 : List (Int × Int)} {mg mb : Str → Option Value} (G : Glob B mg mb) (i1 : mg "type" = none) (i2 : mb "type" = some (.type "type")) (i3 : mg "NotImplemented" = none) (i4 : mb "NotImplemented" = some .notImplemented)
    (X : K.In B) (D : DefAt B tGe fn) (T : TypeLt K B x C fl) (H1 : Does n prog w B q (.ref fl) [.ref x, b] (isB b1) L1) : Does (n + 1) prog w B q (.ref fn) [.ref x, b] (isB (!b1)) (L1) := by
  intro A E Q h g d t os l R O hl hQ
  obtain ⟨nm, qual, od, osl, doc, pm, cd, ct, an, hf, hcd⟩ := D
  obtain ⟨⟨ox, oxd, I⟩, ga, reads, lt, ⟨ofl, fd, hofl, hdf⟩⟩ := T
  refine in_def R.calls O G.lim hf hcd gef_binds (by decide) ["self", "other"] (by decide) (fun L h₁ k₁ F => ?_)
  refine wpAny_execs_cons (wpAny_Assign_Name ?_ rfl)
  refine methodCall_KW ?_
  refine Call_name1 rfl (n_built F G i1 i2 (callWith_type1 (n_local F rfl (kto_own (inst_keeps I F.ok.keep) ?_))))
  refine method_cls (X.keeps F.ok.keep) ga (cls_value (X.keeps F.ok.keep) reads lt rfl ?_)
  refine callWith_function (o := ofl) (fd := fd) (evalArgs_plain (spliced_cons (n_local F rfl (spliced_cons (n_local F rfl (spliced_nil ⟨⟨F.ok.keep _ _ hofl, hdf⟩, ?_⟩))))))
  refine H1 _ _ _ _ _ _ _ _ _ R.deeper F.ok (by omega) (fun v h' t' pv o' b' => ?_)
  cases pv
  replace F := F.step o' b'
  refine n_store F fun h₂ k₂ F => ?_
  refine wpAny_execs_cons (wpAny_If (wpAny_isTrue_Compare1 (n_local F rfl (n_built F G i3 i4 (wpAny_is_other rfl (fun z => by cases z) (wpAny_truthy_bool ?_))))))
  rw [if_neg (by decide)]
  refine wpAny_execs_nil ?_
  refine wpAny_execs_cons (wpAny_Return_some (wpAny_UnaryOp (n_local F rfl (not_bool ?_))))
  exact hQ _ _ _ rfl F.ok F.but
end
end Mine
end
section
open PySem PySem.W PyProof.Rows PySem.Calls Builtin Builtin.ObjectAttr
set_option Elab.async false
set_option maxRecDepth 100000
namespace Mine
structure LTxt where
  params : Arguments
  body : Expr
  scope : Scope
  pos : Pos
def lamOf : Option Expr → LTxt
  | some (.Lambda a b sc p) => ⟨a, b, sc, p⟩
  | _ => ⟨⟨[], [], none, [], [], none, []⟩, .Constant .none 0 ⟨0, 0, 0, 0⟩, { kind := .function, names := [], isGenerator := false, isCoroutine := false, more := [] }, ⟨0, 0, 0, 0⟩⟩
def listOf : Option Stmt → List Expr
  | some (.Return (some (.List es _)) _) => es
  | _ => []
def tMade : Txt := defOf' (nth top 19)
def tMore : Txt := defOf' (nth top 20)
def lamLt : LTxt := lamOf ((listOf (nth tMade.body 0))[0]?)
def lamMore (i : Nat) : LTxt := lamOf ((listOf (nth tMore.body 0))[i]?)
structure LamTxt (T : LTxt) (op : CmpOp) : Prop where
  body : ∃ p1 p2 p3, T.body = .Compare (.Name "one" p1) [op] [.Name "other" p2] p3
  binds : ∀ nm qual cl pm cd ct a b, bindArgs (kla_fn nm qual T.params T.body T.scope cl pm cd ct) ⟨[a, b], []⟩ = (pure [(("one" : Str), a), (("other" : Str), b)] : Sem _)
  one : T.scope.names.lookup ("one" : Str) = some .local
  other : T.scope.names.lookup ("other" : Str) = some .local
  noCell : ∀ x ∈ T.scope.names, x.2 ≠ .cell
  co : T.scope.isCoroutine = false
  gen : T.scope.isGenerator = false
  kind : T.scope.kind = .function
theorem lam_lt : LamTxt lamLt .Lt := ⟨⟨_, _, _, rfl⟩, by intros; kernel_rfl, rfl, rfl, by decide, rfl, rfl, rfl⟩
theorem lam_0 : LamTxt (lamMore 0) .LtE := ⟨⟨_, _, _, rfl⟩, by intros; kernel_rfl, rfl, rfl, by decide, rfl, rfl, rfl⟩
theorem lam_1 : LamTxt (lamMore 1) .Eq := ⟨⟨_, _, _, rfl⟩, by intros; kernel_rfl, rfl, rfl, by decide, rfl, rfl, rfl⟩
theorem lam_2 : LamTxt (lamMore 2) .NotEq := ⟨⟨_, _, _, rfl⟩, by intros; kernel_rfl, rfl, rfl, by decide, rfl, rfl, rfl⟩
theorem lam_3 : LamTxt (lamMore 3) .GtE := ⟨⟨_, _, _, rfl⟩, by intros; kernel_rfl, rfl, rfl, by decide, rfl, rfl, rfl⟩
theorem lam_4 : LamTxt (lamMore 4) .Gt := ⟨⟨_, _, _, rfl⟩, by intros; kernel_rfl, rfl, rfl, by decide, rfl, rfl, rfl⟩
section
variable {prog : Program} {w : World} {A : Around} {E : Value → Shared → Prop} {s : Shared} {h : Heap} {g : Array GenState} {d : Drawn} {t : Nat} {os : OsState} {B : Heap} {q : Addr} {l : List (Int × Int)}
/-- a lambda stands at f -/
def LamAt (B : Heap) (T : LTxt) (f : Addr) : Prop := ∃ nm qual pm cd ct oc od osl, B.get? f = some ⟨oc, od, .func (kla_fn nm qual T.params T.body T.scope [] pm cd ct), osl⟩ ∧ B.CodeRec cd qual
theorem in_lam {f : Addr} {nm qual : Str} {params : Arguments} {body : Expr} {scope : Scope} {cl : List (Str × Addr)} {pm cd ct oc : Value} {od : Option Addr} {osl : Array (Option Value)} {args : List Value} {binds : List (Str × Value)} {Q : Value → Shared → Prop}
    (hd : A.depth < recursionLimit) (O : Ok B q l h) (lim : B.NoLimit) (ho : B.get? f = some ⟨oc, od, .func (kla_fn nm qual params body scope cl pm cd ct), osl⟩) (hcd : B.CodeRec cd qual)
    (hb : bindArgs (kla_fn nm qual params body scope cl pm cd ct) ⟨args, []⟩ = pure binds) (hcell : ∀ x ∈ scope.names, x.2 ≠ .cell) (ks : List Str) (hloc : ∀ x ∈ ks, scope.names.lookup x = some .local)
    (k : ∀ L h₁ t', Fm B q h l L (fun x => binds.reverse.lookup x) h₁ → wpAny (model prog w) (A.deeper (envX qual scope L f cd cl)) (eval body (envX qual scope L f cd cl)) Q (fun _ _ => False) ⟨h₁, g, d, t', os⟩)
    (hks : binds.map (·.1) = ks := by rfl) (hco : scope.isCoroutine = false := by rfl) (hgen : scope.isGenerator = false := by rfl) (hk : scope.kind = .function := by rfl) : wpAny (model prog w) A (PySem.call (.ref f) args) Q E ⟨h, g, d, t, os⟩ := by
  subst hks
  refine wpAny_call (kla_callFunE hd (O.keep _ _ ho) rfl hco hgen rfl (hcd.keeps O.keep) ?_)
  rw [hb]
  refine wpAny_pure (wpAny_newFunctionEnv hcell (fun x hx => hloc x.1 (List.mem_map_of_mem hx)) (fun h₁ hns hsb => ⟨(lim.keeps O.keep).fresh _ hsb, ?_⟩) hk)
  have hk₁ : ∀ b o, h.get? b = some o → h₁.get? b = some o := fun b o e => hsb.extBut b o (Nat.ne_of_lt (Heap.lt_size e)) (Heap.get?_push_of_some _ e)
  exact kla_codeExpr (wpAny_mono (k _ h₁ _ (Fm.start O hns hk₁)) (fun _ _ x => x) fun _ _ x => x.elim)
theorem lam_does {T : LTxt} {op : CmpOp} {n : Nat} {f : Addr} {a b : Value} {P : Value → Prop} {L : List (Int × Int)} {mg mb : Str → Option Value} (G : Glob B mg mb) (TX : LamTxt T op) (D : LamAt B T f) (H : DoesOp n prog w B q op a b P L) :
    Does (n + 1) prog w B q (.ref f) [a, b] P L := by
  intro A E Q h g d t os l R O hl hQ
  obtain ⟨nm, qual, pm, cd, ct, oc, od, osl, hf, hcd⟩ := D
  obtain ⟨p1, p2, p3, hb⟩ := TX.body
  refine in_lam R.calls O G.lim hf hcd (TX.binds ..) TX.noCell ["one", "other"] (by intro x hx; simp only [List.mem_cons, List.not_mem_nil, or_false] at hx; rcases hx with rfl | rfl; exact TX.one; exact TX.other) (fun L h₁ k₁ F => ?_) rfl TX.co TX.gen TX.kind
  rw [hb]
  refine wpAny_Compare1 (n_local F rfl (n_local F rfl ?_ rfl TX.kind TX.other) rfl TX.kind TX.one)
  exact H _ _ _ _ _ _ _ _ _ R.deeper F.ok hl (fun v h' t' pv o' b' => hQ _ _ _ pv o' (F.but.trans b'))
end
end Mine
end
section
open PySem PySem.W PyProof.Rows PySem.Calls Builtin Builtin.ObjectAttr
set_option Elab.async false
set_option maxRecDepth 100000
namespace Mine
section
variable {prog : Program} {w : World} {A : Around} {E : Value → Shared → Prop} {s : Shared} {h h' : Heap} {g : Array GenState} {d : Drawn} {t : Nat} {os : OsState} {B : Heap} {q : Addr} {l l' : List (Int × Int)} {h₀ : Heap} {L : Addr} {m m' : Str → Option Value}
abbrev Row := Bool × List (Int × Int)
def pairD (p : Int × Int) : PyData := .tuple [.int p.1, .int p.2]
def rowD (r : Row) : PyData := .list [.bool true, .bool r.1, .list (r.2.map pairD)]
def rowsD (rs : List Row) : PyData := .list (rs.map rowD)
def RowAt (N : Addr) (h : Heap) (v : Value) (r : Row) : Prop :=
  ∃ a b vs n1 n2, v = .ref a ∧ N ≤ a ∧ h.get? a = some { cls := .type "list", data := .seq #[.bool true, .bool r.1, .ref b] n1 } ∧ N ≤ b ∧ h.get? b = some { cls := .type "list", data := .seq (List.toArray vs) n2 } ∧ Pairs h vs r.2
inductive RowsAt (N : Addr) (h : Heap) : List Value → List Row → Prop
  | nil : RowsAt N h [] []
  | cons {v r vs rs} : RowAt N h v r → RowsAt N h vs rs → RowsAt N h (v :: vs) (r :: rs)
theorem RowsAt.snoc {N : Addr} {h : Heap} : ∀ {vs rs v r}, RowsAt N h vs rs → RowAt N h v r → RowsAt N h (vs ++ [v]) (rs ++ [r])
  | _, _, _, _, .nil, x => .cons x .nil
  | _, _, _, _, .cons y z, x => .cons y (z.snoc x)
theorem RowsAt.length {N : Addr} {h : Heap} : ∀ {vs rs}, RowsAt N h vs rs → vs.length = rs.length
  | _, _, .nil => rfl
  | _, _, .cons _ z => by simp [z.length]
theorem RowAt.keeps {N : Addr} {v r} (x : RowAt N h v r) (k : ∀ b o, (N ≤ b ∨ isTup o = true) → h.get? b = some o → h'.get? b = some o) : RowAt N h' v r :=
  let ⟨a, b, vs, n1, n2, e, la, ga, lb, gb, p⟩ := x; ⟨a, b, vs, n1, n2, e, la, k _ _ (.inl la) ga, lb, k _ _ (.inl lb) gb, p.keeps fun b o t => k b o (.inr t)⟩
theorem RowsAt.keeps {N : Addr} (k : ∀ b o, (N ≤ b ∨ isTup o = true) → h.get? b = some o → h'.get? b = some o) : ∀ {vs rs}, RowsAt N h vs rs → RowsAt N h' vs rs
  | _, _, .nil => .nil
  | _, _, .cons x z => .cons (x.keeps k) (z.keeps k)
theorem reads_pair {v p} (x : IsPair h v p) : Reads h v (pairD p) [] := by
  obtain ⟨a, t, u, rfl, e⟩ := x
  exact Reads.tuple (as := []) e rfl rfl (ReadsAll.cons (as := []) (bs := []) (Reads.int _ _) (ReadsAll.cons (as := []) (bs := []) (Reads.int _ _) .nil))
theorem reads_pairs : ∀ {vs l}, Pairs h vs l → ReadsAll h vs (l.map pairD) []
  | _, _, .nil => .nil
  | _, _, .cons x z => ReadsAll.cons (as := []) (bs := []) (reads_pair x) (reads_pairs z)
theorem reads_row {N : Addr} {v r} (x : RowAt N h v r) : ∃ as, Reads h v (rowD r) as := by
  obtain ⟨a, b, vs, n1, n2, rfl, _, ga, _, gb, p⟩ := x
  exact ⟨_, Reads.list ga rfl rfl (ReadsAll.cons (Reads.bool _) (ReadsAll.cons (Reads.bool _) (ReadsAll.cons (Reads.list gb rfl rfl (by simpa using reads_pairs p)) .nil)))⟩
theorem reads_rows {N : Addr} : ∀ {vs rs}, RowsAt N h vs rs → ∃ as, ReadsAll h vs (rs.map rowD) as
  | _, _, .nil => ⟨_, .nil⟩
  | _, _, .cons x z => let ⟨_, r⟩ := reads_row x; let ⟨_, rs⟩ := reads_rows z; ⟨_, .cons r rs⟩
/-- another object turns: not in the base, not the frame, not what was asked -/
theorem Fm.other {a : Addr} (F : Fm B q h₀ l L m h) (s : Heap.SameBut a h h') (hb : B.get? a = none) (hq : a ≠ q) (hL : a ≠ L) (h0 : h₀.get? a = none) (ht : ∀ o, h.get? a = some o → isTup o = false) : Fm B q h₀ l L m h' :=
  ⟨F.ok.same s hb hq ht, let ⟨x, es, ep, e, r⟩ := F.ns; ⟨x, es, ep, (s.2 L (Ne.symm hL)).trans e, r⟩, F.new, F.baseL, F.ne, fun b o hb' e => (s.2 b (fun z => by rw [z, h0] at e; cases e)).trans (F.but b o hb' e)⟩
theorem Fm.notTup (F : Fm B q h₀ l L m h) {o : Obj} (e : h.get? L = some o) : isTup o = false := by
  obtain ⟨x, es, ep, g, hd, _⟩ := F.ns
  obtain rfl := Option.some.inj (g.symm.trans e)
  unfold isTup; rw [hd]; split
  · rename_i d; cases d
  · rfl
theorem isTup_list {items : Array Value} {n : Nat} : isTup { cls := .type "list", data := .seq items n } = false := rfl
theorem notTup_iter {a x : Addr} {i : Nat} (I : h.IsListIter a x i) : ∀ o, h.get? a = some o → isTup o = false := by
  intro o e
  obtain ⟨o', g, _, hd⟩ := I
  obtain rfl := Option.some.inj (g.symm.trans e)
  unfold isTup; rw [hd]; split
  · rename_i d; cases d
  · rfl
theorem n_storeS {env : Env} {x : Str} {v : Value} {Q : Unit → Shared → Prop} (F : Fm B q h₀ l L m h) (k : ∀ h' t', Heap.SameBut L h h' → Fm B q h₀ l L (fun y => if y = x then some v else m y) h' → Q () ⟨h', g, d, t', os⟩)
    (hl : env.locals = L := by rfl) (hx : env.kindOf x = some .local := by rfl) (hp : (env.scope.kind == .class || (env.scope.kind == .module && env.locals != env.globals)) = false := by rfl) : wpAny (model prog w) A (storeName env x v) Q E ⟨h, g, d, t, os⟩ := by
  subst hl
  exact wpAny_storeName_local hx F.ns (fun h' n sb => k h' _ sb (F.set n sb)) hp
/-- what holds in the loop of _law_runs -/
structure Lp (B h₀ : Heap) (q L D I ld : Addr) (l : List (Int × Int)) (m : Str → Option Value) (k : Nat) (vs : List Value) (rows : List Row) (h : Heap) : Prop where
  F : Fm B q h₀ l L m h
  seen : h.PlainList D vs.toArray
  it : h.IsListIter I ld k
  rows : RowsAt (I + 1) h vs rows
  lt : q < I ∧ L < I ∧ D < I
  ne : D ≠ L ∧ D ≠ q
  bas : B.get? D = none ∧ B.get? I = none
  fresh : h₀.get? D = none ∧ h₀.get? I = none
variable {D I ld : Addr} {k : Nat} {vs : List Value} {rows : List Row}
theorem Lp.move (X : Lp B h₀ q L D I ld l m k vs rows h) (F' : Fm B q h₀ l' L m' h') (mv : ∀ b o, b ≠ q → b ≠ L → h.get? b = some o → h'.get? b = some o) : Lp B h₀ q L D I ld l' m' k vs rows h' := by
  obtain ⟨l1, l2, l3⟩ := X.lt
  refine ⟨F', X.seen.at fun o => mv _ _ X.ne.2 X.ne.1, X.it.at fun o => mv _ _ (Nat.ne_of_gt l1) (Nat.ne_of_gt l2), X.rows.keeps fun b o hb e => mv b o ?_ ?_ e, X.lt, X.ne, X.bas, X.fresh⟩
  · rintro rfl
    rcases hb with hb | hb
    · exact Nat.lt_asymm l1 (Nat.lt_of_lt_of_le (Nat.lt_succ_self I) hb)
    · rw [X.F.ok.asked.notTup e] at hb; cases hb
  · rintro rfl
    rcases hb with hb | hb
    · exact Nat.lt_asymm l2 (Nat.lt_of_lt_of_le (Nat.lt_succ_self I) hb)
    · rw [X.F.notTup e] at hb; cases hb
theorem Lp.push (X : Lp B h₀ q L D I ld l m k vs rows h) (o : Obj) : Lp B h₀ q L D I ld l m k vs rows (h.push o) := X.move (X.F.push o) fun _ _ _ _ e => Heap.get?_push_of_some _ e
theorem Lp.above (X : Lp B h₀ q L D I ld l m k vs rows h) : I + 1 ≤ h.objs.size := let ⟨_, e, _⟩ := X.it; Heap.lt_size e
/-- the list seen grows -/
theorem Lp.grow (X : Lp B h₀ q L D I ld l m k vs rows h) {v : Value} {r : Row} (sb : Heap.SameBut D h h') (pl : h'.PlainList D (vs.toArray.push v)) (x : RowAt (I + 1) h v r) : Lp B h₀ q L D I ld l m k (vs ++ [v]) (rows ++ [r]) h' := by
  obtain ⟨l1, l2, l3⟩ := X.lt
  have nt : ∀ o, h.get? D = some o → isTup o = false := by
    intro o e
    obtain ⟨n, g⟩ := X.seen
    obtain rfl := Option.some.inj (g.symm.trans e); rfl
  have kp : ∀ b o, (I + 1 ≤ b ∨ isTup o = true) → h.get? b = some o → h'.get? b = some o := by
    intro b o hb e
    refine (sb.2 b ?_).trans e
    rintro rfl
    rcases hb with hb | hb
    · exact Nat.lt_asymm l3 (Nat.lt_of_lt_of_le (Nat.lt_succ_self I) hb)
    · rw [nt _ e] at hb; cases hb
  refine ⟨X.F.other sb X.bas.1 X.ne.2 X.ne.1 X.fresh.1 nt, by rw [List.push_toArray] at pl; exact pl, X.it.at fun o e => (sb.2 I (Nat.ne_of_gt l3)).trans e, (X.rows.keeps kp).snoc (x.keeps kp), X.lt, X.ne, X.bas, X.fresh⟩
/-- the iterator goes on -/
theorem Lp.next (X : Lp B h₀ q L D I ld l m k vs rows h) {k' : Nat} (sb : Heap.SameBut I h h') (it : h'.IsListIter I ld k') : Lp B h₀ q L D I ld l m k' vs rows h' := by
  obtain ⟨l1, l2, l3⟩ := X.lt
  have nt := notTup_iter X.it
  have kp : ∀ b o, (I + 1 ≤ b ∨ isTup o = true) → h.get? b = some o → h'.get? b = some o := by
    intro b o hb e
    refine (sb.2 b ?_).trans e
    rintro rfl
    rcases hb with hb | hb
    · exact Nat.not_succ_le_self _ hb
    · rw [nt _ e] at hb; cases hb
  exact ⟨X.F.other sb X.bas.2 (Nat.ne_of_gt l1) (Nat.ne_of_gt l2) X.fresh.2 nt, X.seen.at fun o e => (sb.2 D (Nat.ne_of_lt l3)).trans e, it, X.rows.keeps kp, X.lt, X.ne, X.bas, X.fresh⟩
end
end Mine
end
section
open PySem PySem.W PyProof.Rows PySem.Calls Builtin Builtin.ObjectAttr
set_option Elab.async false
set_option maxRecDepth 100000
namespace Mine
section
variable {prog : Program} {w : World} {A : Around} {E : Value → Shared → Prop} {s : Shared} {h h' : Heap} {g : Array GenState} {d : Drawn} {t : Nat} {os : OsState} {B : Heap} {q : Addr} {l l' : List (Int × Int)} {h₀ : Heap} {L : Addr} {m m' : Str → Option Value}
  {D I ld : Addr} {k : Nat} {vs : List Value} {rows : List Row}
theorem Fm.ext {a : Addr} (F : Fm B q h₀ l L m h) (s : ∀ b o, b ≠ a → h.get? b = some o → h'.get? b = some o) (hb : B.get? a = none) (hq : a ≠ q) (hL : a ≠ L) (h0 : h₀.get? a = none) (ht : ∀ o, h.get? a = some o → isTup o = false) : Fm B q h₀ l L m h' :=
  ⟨⟨fun b x e => s b _ (fun z => by rw [z, hb] at e; cases e) (F.ok.keep b x e), F.ok.off,
    let ⟨vs, i, p⟩ := F.ok.asked; ⟨vs, i.at fun o e => s q _ (Ne.symm hq) e, p.keeps fun b o t e => s b _ (fun z => by subst z; rw [ht _ e] at t; cases t) e⟩, F.ok.few⟩,
   let ⟨x, es, ep, e, r⟩ := F.ns; ⟨x, es, ep, s L _ (Ne.symm hL) e, r⟩, F.new, F.baseL, F.ne, fun b o hb' e => s b _ (fun z => by rw [z, h0] at e; cases e) (F.but b o hb' e)⟩
theorem Lp.last (X : Lp B h₀ q L D I ld l m k vs rows h) (s : Heap.ExtBut I h h') : Fm B q h₀ l L m h' ∧ h'.PlainList D vs.toArray ∧ RowsAt (I + 1) h' vs rows := by
  obtain ⟨l1, l2, l3⟩ := X.lt
  have nt := notTup_iter X.it
  refine ⟨X.F.ext s X.bas.2 (Nat.ne_of_gt l1) (Nat.ne_of_gt l2) X.fresh.2 nt, X.seen.at fun o e => s D _ (Nat.ne_of_lt l3) e, X.rows.keeps fun b o hb e => s b _ ?_ e⟩
  rintro rfl
  rcases hb with hb | hb
  · exact Nat.not_succ_le_self _ hb
  · rw [nt _ e] at hb; cases hb
def Hm (q D : Addr) (one other : Value) (m : Str → Option Value) : Prop := m "asked" = some (.ref q) ∧ m "one" = some one ∧ m "other" = some other ∧ m "seen" = some (.ref D)
theorem Hm.deed {one other v : Value} (X : Hm q D one other m) : Hm q D one other (fun y => if y = "deed" then some v else m y) := ⟨X.1, X.2.1, X.2.2.1, X.2.2.2⟩
theorem Hm.told {one other v : Value} (X : Hm q D one other m) : Hm q D one other (fun y => if y = "told" then some v else m y) := ⟨X.1, X.2.1, X.2.2.1, X.2.2.2⟩
theorem Ok.none_of {a : Addr} (O : Ok B q l h) (ha : h.objs.size ≤ a) : B.get? a = none := by
  cases e : B.get? a with
  | none => rfl
  | some o => exact absurd (Heap.lt_size (O.keep _ _ e)) (Nat.not_lt_of_le ha)
theorem Fm.none_of {a : Addr} (F : Fm B q h₀ l L m h) (ha : h.objs.size ≤ a) : h₀.get? a = none := by
  cases e : h₀.get? a with
  | none => rfl
  | some o =>
    by_cases z : a = q
    · subst z
      obtain ⟨_, ⟨_, g⟩, _⟩ := F.ok.asked
      exact absurd (Heap.lt_size g) (Nat.not_lt_of_le ha)
    · exact absurd (Heap.lt_size (F.but _ _ z e)) (Nat.not_lt_of_le ha)
theorem Fm.qlt (F : Fm B q h₀ l L m h) : q < h.objs.size := by
  obtain ⟨_, ⟨_, g⟩, _⟩ := F.ok.asked
  exact Heap.lt_size g
/-- what was asked is forgotten -/
theorem Fm.clear {items : Array Value} {n : Nat} (F : Fm B q h₀ l L m h) (hq : h.get? q = some { cls := .type "list", data := .seq items n }) : Fm B q h₀ [] L m (h.update q (Obj.mapSeq fun _ => #[])) := by
  have sb : Heap.SameBut q h (h.update q (Obj.mapSeq fun _ => #[])) := Heap.SameBut.update ..
  refine F.step ⟨fun b o e => (sb.2 b (fun z => by rw [z, F.ok.off] at e; cases e)).trans (F.ok.keep b o e), F.ok.off, ⟨[], ⟨_, Heap.get?_update_self _ hq rfl⟩, .nil⟩, Nat.zero_le _⟩ fun b o hb e => (sb.2 b hb).trans e
def RunsDo (n : Nat) (prog : Program) (w : World) (B : Heap) (q fn : Addr) (ld : Addr) (one other : Value) (rows : List Row) : Prop :=
  ∀ (A : Around) (E : Value → Shared → Prop) (Q : Value → Shared → Prop) (h : Heap) (g : Array GenState) (d : Drawn) (t : Nat) (os : OsState) (l : List (Int × Int)), Room n A → Ok B q l h →
    (∀ v h' t' l', Ok B q l' h' → But q h h' → (∃ as, Reads (hideAll h' [q]) v (rowsD rows) as) → Q v ⟨h', g, d, t', os⟩) → wpAny (model prog w) A (PySem.call (.ref fn) [.ref q, .ref ld, one, other]) Q E ⟨h, g, d, t, os⟩
theorem runs_binds {nm qual : Str} {cl : List (Str × Addr)} {doc pm cd ct a b c e : Value} {an : Option Addr} :
    bindArgs (fnX nm qual tRuns.params tRuns.body tRuns.scope cl .none .none doc pm an cd ct) ⟨[a, b, c, e], []⟩ = (pure [(("asked" : Str), a), (("deeds" : Str), b), (("one" : Str), c), (("other" : Str), e)] : Sem _) := by kernel_rfl
structure Names (mg mb : Str → Option Value) : Prop where
  type : mg "type" = none ∧ mb "type" = some (.type "type")
  bool : mg "bool" = none ∧ mb "bool" = some (.type "bool")
  list : mg "list" = none ∧ mb "list" = some (.type "list")
theorem runs_does {n : Nat} {fn : Addr} {one other : Value} {deeds : List Addr} {mg mb : Str → Option Value} (G : Glob B mg mb) (N : Names mg mb) (Df : DefAt B tRuns fn) (hl : B.IsList ld (deeds.map Value.ref).toArray) (hlen : deeds.length = rows.length) (few : rows.length ≤ 1000)
    (H : ∀ (k : Nat) (f : Addr) (r : Row), deeds[k]? = some f → rows[k]? = some r → (∃ o fd, B.get? f = some o ∧ o.data = .func fd) ∧ r.2.length ≤ 1000 ∧ Does n prog w B q (.ref f) [one, other] (isB r.1) r.2) : RunsDo (n + 1) prog w B q fn ld one other rows := by
  intro A E Q h g d t os l R O hQ
  obtain ⟨nm, qual, od, osl, doc, pm, cd, ct, an, hf, hcd⟩ := Df
  refine in_def R.calls O G.lim hf hcd runs_binds (by decide) ["asked", "deeds", "one", "other"] (by decide) (fun L h₁ k₁ F => ?_)
  -- seen = []
  refine wpAny_execs_cons (wpAny_Assign_Name ?_ rfl)
  refine wpAny_List (wpAny_items_nil ⟨by decide, ?_⟩)
  have hD : h₁.objs.size ≠ L := fun e => Nat.lt_irrefl _ (e ▸ F.ns.lt)
  have hDq : h₁.objs.size ≠ q := fun e => Nat.lt_irrefl _ (e ▸ F.qlt)
  have bD := F.ok.none_of (Nat.le_refl _)
  have fD := F.none_of (Nat.le_refl _)
  refine n_storeS (F.push _) fun h₂ k₂ sb F => ?_
  have seen : h₂.PlainList h₁.objs.size (List.toArray []) := ⟨0, (sb.2 _ hD).trans (Heap.get?_push_size _ rfl)⟩
  generalize h₁.objs.size = D at hD hDq bD fD seen F ⊢
  refine wpAny_execs_cons (wpAny_For (n_local F rfl (wpAny_pyIter_list (isList_keeps hl F.ok.keep) ?_)))
  have bI := F.ok.none_of (Nat.le_refl _)
  have fI := F.none_of (Nat.le_refl _)
  have X : Lp B h q L D h₂.objs.size ld l _ 0 [] [] _ := ⟨F.push { cls := .type "list_iterator", data := .fields #[.ref ld, .int 0 0] }, seen.at fun _ e => Heap.get?_push_of_some _ e, ⟨_, Heap.get?_push_size _ rfl, rfl, rfl⟩, .nil,
    ⟨F.qlt, F.ns.lt, by obtain ⟨_, g⟩ := seen; exact Heap.lt_size g⟩, ⟨hD, hDq⟩, ⟨bD, bI⟩, ⟨fD, fI⟩⟩
  have XH : ∃ m, Lp B h q L D h₂.objs.size ld l m 0 [] (rows.take 0) (h₂.push { cls := .type "list_iterator", data := .fields #[.ref ld, .int 0 0] }) ∧ Hm q D one other m := ⟨_, X, rfl, rfl, rfl, rfl⟩
  generalize h₂.objs.size = It at XH ⊢
  clear X
  refine codeAny_forLoop (fun n' s' => ∃ k vs m h' t' l', s' = ⟨h', g, d, t', os⟩ ∧ n' = deeds.length - k ∧ k ≤ deeds.length ∧ Lp B h q L D It ld l' m k vs (rows.take k) h' ∧ Hm q D one other m) ?_ deeds.length
    (by obtain ⟨m, X, M⟩ := XH; exact ⟨0, [], m, _, _, l, rfl, rfl, Nat.zero_le _, X, M⟩)
  rintro n' s' ⟨k, vs, m, h', t', l', rfl, rfl, hk, X, M⟩
  have hl' := isList_keeps hl X.F.ok.keep
  by_cases hlt : k < deeds.length
  · have hlr : k < rows.length := hlen ▸ hlt
    have e1 : deeds[k]? = some deeds[k] := List.getElem?_eq_getElem hlt
    have e2 : rows[k]? = some rows[k] := List.getElem?_eq_getElem hlr
    obtain ⟨⟨of, fd, hof, hdf⟩, fewr, Dk⟩ := H k _ _ e1 e2
    refine wpAny_pyNext_list_item X.it hl' (x := .ref deeds[k]) (by simp [e1]) (fun h' it sb => ?_)
    replace X := X.next sb it
    dsimp only
    refine wpAny_assign_Name (n_storeS X.F fun h' t' sb F => ?_)
    replace X := X.move F fun b o _ hb e => (sb.2 b hb).trans e
    replace M := M.deed (v := .ref deeds[k])
    -- asked.clear()
    obtain ⟨aq, ⟨nq, hq⟩, ps⟩ := id X.F.ok.asked
    refine wpAny_execs_cons (wpAny_Expr ?_ rfl rfl)
    refine wpAny_Call_method0_late rfl rfl (n_local X.F M.1 ⟨"list", "list.clear", PySem.F.plainAttrs_list, PySem.F.slot_list_clear, PySem.F.type_list_clear, ⟨_, hq, rfl⟩, fun a e => ⟨_, by cases e; exact hq, rfl⟩, P.clear_list hq ?_ ?_⟩)
    · have sb2 := Heap.SameBut.update h' q (Obj.mapSeq fun _ => #[])
      replace X := X.move (X.F.clear hq) fun b o hb _ e => (sb2.2 b hb).trans e
      show wpAny (model prog w) _ (execs _ _) _ _ ⟨h'.update q (Obj.mapSeq fun _ => #[]), g, d, t', os⟩
      generalize h'.update q (Obj.mapSeq fun _ => #[]) = h' at X ⊢
      clear sb2
      -- told = deed(one, other)
      refine wpAny_execs_cons (wpAny_Assign_Name ?_ rfl)
      refine Call_Name2 (n_local X.F (v := .ref deeds[k]) (by rfl) ?_)
      refine callWith_function (o := of) (fd := fd) (evalArgs_plain (spliced_cons (n_local X.F M.2.1 (spliced_cons (n_local X.F M.2.2.1 (spliced_nil ⟨⟨X.F.ok.keep _ _ hof, hdf⟩, ?_⟩))))))
      refine Dk _ _ _ _ _ _ _ _ _ R.deeper X.F.ok (by simpa using fewr) (fun v h' t' pv o' b' => ?_)
      cases pv
      replace X := X.move (X.F.step o' b') fun b o hb _ e => b' b o hb e
      refine n_storeS X.F fun h' t' sb F => ?_
      replace X := X.move F fun b o _ hb e => (sb.2 b hb).trans e
      replace M := M.told (v := .bool rows[k].1)
      -- seen.append([type(told) is bool, told, list(asked)])
      refine wpAny_execs_cons (wpAny_Expr ?_ rfl rfl)
      obtain ⟨nD, hD⟩ := id X.seen
      refine wpAny_Call_method1_late rfl rfl rfl (n_local X.F M.2.2.2 ⟨"list", "list.append", PySem.F.plainAttrs_list, slot_list_append, type_list_append, ⟨_, hD, rfl⟩, fun a e => ⟨_, by cases e; exact hD, rfl⟩, callWith_builtin rfl (evalArgs_plain (spliced_cons ?_))⟩)
      refine wpAny_List (wpAny_items_cons ?_)
      refine wpAny_Compare1 ?_
      refine Call_name1 rfl (n_built X.F G N.type.1 N.type.2 (callWith_type1 (n_local X.F (v := .bool rows[k].1) (by rfl) (call_type_of (Tx := "bool") rfl (by decide) ?_))))
      refine n_built X.F G N.bool.1 N.bool.2 (wpAny_is_self rfl ?_)
      refine wpAny_items_cons (n_local X.F (v := .bool rows[k].1) (by rfl) ?_)
      refine wpAny_items_cons ?_
      obtain ⟨aq, ⟨nq, hq⟩, ps⟩ := id X.F.ok.asked
      refine Call_name1 rfl (n_built X.F G N.list.1 N.list.2 (callWith_type1 (n_local X.F M.1 (call_list_seq q (.inl rfl) hq rfl rfl (fun h'' c' kp e => ?_) ?_))))
      · have ab := X.above
        generalize h'.objs.size = a3 at e ab ⊢
        replace X := X.move (X.F.step (X.F.ok.keeps kp) fun b o _ e => kp b o e) fun b o _ _ e => kp b o e
        refine wpAny_items_nil ⟨by show (3 : Nat) ≤ sizeLine; decide, spliced_nil ?_⟩
        have ab2 := X.above
        have ps2 := (ps.keeps (h' := h'') fun b o _ e => kp b o e)
        have X2 := X.push { cls := .type "list", data := .seq [Value.bool true, .bool rows[k].1, .ref a3].toArray }
        have r : RowAt (It + 1) (h''.push { cls := .type "list", data := .seq [Value.bool true, .bool rows[k].1, .ref a3].toArray }) (.ref h''.objs.size) rows[k] :=
          ⟨_, a3, aq, 0, c', rfl, ab2, Heap.get?_push_size _ rfl, ab, Heap.get?_push_of_some _ e, by simpa using ps2.keeps fun b o _ e => Heap.get?_push_of_some _ e⟩
        refine wpAny_list_append_plain X2.seen (fun h₃ pl sb => ?_) ?_
        · replace X2 := X2.grow sb pl r
          refine wpAny_execs_nil ?_
          rw [show rows.take k ++ [rows[k]] = rows.take (k + 1) by rw [List.take_add_one, e2]; rfl] at X2
          exact ⟨deeds.length - (k + 1), by omega, k + 1, _, _, h₃, _, _, rfl, rfl, hlt, X2, M⟩
        · rw [List.size_toArray, X2.rows.length, List.length_take]; rw [sizeLine_eq]; omega
      · rw [List.size_toArray, ps.length]; have := X.F.ok.few; rw [sizeLine_eq]; omega
    · rw [List.size_toArray, ps.length]; have := X.F.ok.few; rw [sizeLine_eq]; omega
  · obtain rfl : k = deeds.length := by omega
    refine wpAny_pyNext_list_end R.handled X.it hl' (by simp) (fun h' eb => ?_)
    have xl := X.lt.1
    have xn := X.ne.2
    obtain ⟨F, seen, rs⟩ := X.last eb
    refine wpAny_execs_nil ?_
    refine wpAny_execs_cons (wpAny_Return_some (n_local F M.2.2.2 ?_))
    rw [hlen, List.take_length] at rs
    obtain ⟨as, ra⟩ := reads_rows (rs.keeps (h' := hideAll h' [q]) fun b o hb e => hideAll_get _ e fun hm => by
      obtain rfl := List.mem_singleton.mp hm
      rcases hb with hb | hb
      · exact Nat.lt_asymm xl (Nat.lt_of_lt_of_le (Nat.lt_succ_self It) hb)
      · rw [F.ok.asked.notTup e] at hb; cases hb)
    obtain ⟨nD, hD⟩ := seen
    exact hQ _ _ _ _ F.ok F.but ⟨_, Reads.list (hideAll_get _ hD fun hm => xn (List.mem_singleton.mp hm)) rfl rfl (by simpa using ra)⟩
end
end Mine
end
section
open PySem PySem.W PyProof.Rows PySem.Calls Builtin Builtin.ObjectAttr
set_option Elab.async false
set_option maxRecDepth 100000
namespace Mine
def tWorth : Txt := defOf' (nth top 18)
def tDueK : Txt := defOf' (nth top 22)
def tDueH : Txt := defOf' (nth top 23)
def tBearer : Txt := defOf' (nth top 15)
def tStrange : Txt := defOf' (nth top 24)
def tAsks : Txt := defOf' (nth top 17)
section
variable {prog : Program} {w : World} {A : Around} {E : Value → Shared → Prop} {s : Shared} {h h' : Heap} {g : Array GenState} {d : Drawn} {t : Nat} {os : OsState} {B : Heap} {q : Addr} {l l' : List (Int × Int)} {h₀ : Heap} {L : Addr} {m m' : Str → Option Value}
/-- a call's contract, of what it hands back in the heap -/
def DoesH (n : Nat) (prog : Program) (w : World) (B : Heap) (q : Addr) (f : Value) (args : List Value) (P : Heap → Value → Prop) : Prop :=
  ∀ (A : Around) (E : Value → Shared → Prop) (Q : Value → Shared → Prop) (h : Heap) (g : Array GenState) (d : Drawn) (t : Nat) (os : OsState) (l : List (Int × Int)), Room n A → Ok B q l h →
    (∀ v h' t', P h' v → Ok B q l h' → But q h h' → Q v ⟨h', g, d, t', os⟩) → wpAny (model prog w) A (PySem.call f args) Q E ⟨h, g, d, t, os⟩
def worthV (r : Nat) (v : Bool → Bool → Int) (i j : Bool) : Int := if r = 0 then v i j else bi (decide (v j i < 0)) - bi (decide (v i j < 0))
theorem worth_binds {nm qual : Str} {cl : List (Str × Addr)} {doc pm cd ct a b c e : Value} {an : Option Addr} :
    bindArgs (fnX nm qual tWorth.params tWorth.body tWorth.scope cl .none .none doc pm an cd ct) ⟨[a, b, c, e], []⟩ = (pure [(("answers" : Str), a), (("i" : Str), b), (("j" : Str), c), (("rounds" : Str), e)] : Sem _) := by kernel_rfl
theorem ans_item {la : Addr} {a0 a1 a2 a3 : Int} {u0 u1 u2 u3 : Tok} {i j : Bool} {u : Tok} {Q : Value → Shared → Prop} (hl : s.heap.IsList la #[.int a0 u0, .int a1 u1, .int a2 u2, .int a3 u3])
    (k : ∀ u', Q (.int (at2 a0 a1 a2 a3 i j) u') s) : ItemOn (model prog w) A E (.ref la) (.int (2 * z i + z j) u) Q s :=
  item_of (x := .int (at2 a0 a1 a2 a3 i j) (if i then (if j then u3 else u2) else (if j then u1 else u0))) hl (by cases i <;> cases j <;> decide) (by cases i <;> cases j <;> decide) (by cases i <;> cases j <;> rfl) (k _)
theorem worth_does {fn la : Addr} {a0 a1 a2 a3 : Int} {u0 u1 u2 u3 ui uj ur : Tok} {i j : Bool} {r : Nat} {mg mb : Str → Option Value} (G : Glob B mg mb) (i1 : mg "int" = none) (i2 : mb "int" = some (.type "int")) (D : DefAt B tWorth fn)
    (hl : B.IsList la #[.int a0 u0, .int a1 u1, .int a2 u2, .int a3 u3]) :
    DoesH 1 prog w B q (.ref fn) [.ref la, .int (z i) ui, .int (z j) uj, .int r ur] (fun _ => isI (worthV r (at2 a0 a1 a2 a3) i j)) := by
  intro A E Q h g d t os l R O hQ
  obtain ⟨nm, qual, od, osl, doc, pm, cd, ct, an, hf, hcd⟩ := D
  refine in_def R.calls O G.lim hf hcd worth_binds (by decide) ["answers", "i", "j", "rounds"] (by decide) (fun L h₁ k₁ F => ?_)
  refine wpAny_execs_cons (wpAny_If (wpAny_isTrue_Compare1 (n_local F rfl (v_int fun _ _ => P.eq_int (wpAny_truthy_bool ?_)))))
  by_cases hr : r = 0
  · subst hr
    rw [if_pos (by decide)]
    refine wpAny_execs_cons (wpAny_Return_some (Subscript_BinOp (n_local F rfl ?_)))
    refine wpAny_BinOp ?_
    refine wpAny_BinOp (v_int fun _ _ => ?_)
    refine n_local F rfl (v_mul (fun _ _ => ?_) (IntMulOk.of_left (by decide)))
    refine n_local F rfl (v_add (fun _ _ => ?_))
    refine ans_item (isList_keeps hl F.ok.keep) fun u' => ?_
    exact hQ _ _ _ ⟨_, by unfold worthV; rw [if_pos rfl]⟩ F.ok F.but
  · rw [if_neg (by simp; exact hr)]
    refine wpAny_execs_nil ?_
    refine wpAny_execs_cons (wpAny_Return_some (wpAny_BinOp ?_))
    refine Call_name1 rfl (n_built F G i1 i2 (callWith_type1 ?_))
    refine wpAny_Compare1 (Subscript_BinOp (n_local F rfl ?_))
    refine wpAny_BinOp ?_
    refine wpAny_BinOp (v_int fun _ _ => ?_)
    refine n_local F rfl (v_mul (fun _ _ => ?_) (IntMulOk.of_left (by decide)))
    refine n_local F rfl (v_add (fun _ _ => ?_))
    refine ans_item (isList_keeps hl F.ok.keep) fun u' => v_int fun _ _ => P.lt_int (v_bool2int fun _ _ => ?_)
    refine Call_name1 rfl (n_built F G i1 i2 (callWith_type1 ?_))
    refine wpAny_Compare1 (Subscript_BinOp (n_local F rfl ?_))
    refine wpAny_BinOp ?_
    refine wpAny_BinOp (v_int fun _ _ => ?_)
    refine n_local F rfl (v_mul (fun _ _ => ?_) (IntMulOk.of_left (by decide)))
    refine n_local F rfl (v_add (fun _ _ => ?_))
    refine ans_item (isList_keeps hl F.ok.keep) fun u' => v_int fun _ _ => P.lt_int (v_bool2int fun _ _ => v_sub fun u2 _ => ?_)
    exact hQ _ _ _ ⟨u2, by unfold worthV bi; rw [if_neg hr]⟩ F.ok F.but
end
end Mine
end
section
open PySem PySem.W PyProof.Rows PySem.Calls Builtin Builtin.ObjectAttr
set_option Elab.async false
set_option maxRecDepth 100000
namespace Mine
/-- all that stood stands, and n objects more -/
structure Add (n : Nat) (h h' : Heap) : Prop where
  keep : ∀ b o, h.get? b = some o → h'.get? b = some o
  size : h'.objs.size = h.objs.size + n
theorem Add.refl {h : Heap} : Add 0 h h := ⟨fun _ _ e => e, rfl⟩
theorem Add.trans {n k : Nat} {h h' h'' : Heap} (x : Add n h h') (y : Add k h' h'') : Add (n + k) h h'' := ⟨fun b o e => y.keep b o (x.keep b o e), by rw [y.size, x.size, Nat.add_assoc]⟩
theorem Add.push {h : Heap} (o : Obj) : Add 1 h (h.push o) := ⟨fun _ _ e => Heap.get?_push_of_some _ e, Heap.size_push ..⟩
/-- an object that is new turns -/
theorem Add.same {n : Nat} {h h' h'' : Heap} {a : Addr} (x : Add n h h') (s : Heap.SameBut a h' h'') (ha : h.objs.size ≤ a) : Add n h h'' :=
  ⟨fun b o e => (s.2 b (Nat.ne_of_lt (Nat.lt_of_lt_of_le (Heap.lt_size e) ha))).trans (x.keep b o e), s.1.trans x.size⟩
theorem Add.ext {n k : Nat} {h h' h'' : Heap} {a : Addr} (x : Add n h h') (s : Heap.ExtBut a h' h'') (e : h''.objs.size = h'.objs.size + k) (ha : h.objs.size ≤ a) : Add (n + k) h h'' :=
  ⟨fun b o e => s b o (Nat.ne_of_lt (Nat.lt_of_lt_of_le (Heap.lt_size e) ha)) (x.keep b o e), by rw [e, x.size, Nat.add_assoc]⟩
def AllInts (items : Array Value) : Prop := ∀ (i : Nat) (v : Value), items[i]? = some v → ∃ n u, v = Value.int n u
section
variable {prog : Program} {w : World} {A : Around} {E : Value → Shared → Prop} {s : Shared} {h h' : Heap} {g : Array GenState} {d : Drawn} {t : Nat} {os : OsState}
theorem end_sz {it l : Addr} {i : Nat} {items : Array Value} {Q : Option Value → Shared → Prop} (hh : A.handled = none)
    (hit : s.heap.IsListIter it l i) (hl : s.heap.IsList l items) (hx : items[i]? = none)
    (hQ : ∀ h', Heap.ExtBut it s.heap h' → h'.objs.size = s.heap.objs.size + 2 → Q none { s with heap := h' }) : wpAny (model prog w) A (pyNext (.ref it)) Q E s := by
  obtain ⟨o, ho, hc, hd⟩ := id hit
  obtain ⟨ol, hol, _, nl, hdl⟩ := hl
  unfold pyNext
  refine wpAny_bind (wpAny_attempt (wpAny_callSpecial?_slot (name := Str.ofString "__next__") hit.typeIs slot_listiter_next
    (wpAny_call_entry slot_listiter_next hit.typeIs entry_listiter_next ?_ (args_listiter_next _))))
  show wpAny _ _ (field (.ref it) 0 >>= _) _ _ s
  refine wpAny_bind (wpAny_field ho hd (x := .ref l) rfl ?_)
  show wpAny _ _ (if (Value.ref l == Value.none) = true then _ else _) _ _ s
  rw [if_neg (show ¬ ((Value.ref l == Value.none) = true) from Bool.false_ne_true)]
  show wpAny _ _ (field (.ref it) 1 >>= _) _ _ s
  refine wpAny_bind (wpAny_field ho hd (x := .int i 0) rfl ?_)
  show wpAny _ _ (seqItems? (.ref l) >>= _) _ _ s
  refine wpAny_bind (wpAny_seqItems hol hdl ?_)
  simp only [Int.toNat_natCast, hx]
  refine wpAny_bind (wpAny_rule (wpAny_bind (wpAny_setField ho hd (by simp) ?_)))
  show wpAny _ _ (newExc (.type "StopIteration") [] >>= _) _ _ _
  refine wpAny_bind ?_
  simp only [newExc, newTuple]
  refine wpAny_bind (wpAny_newObj_type ?_ (by size_fits))
  refine wpAny_bind (m := firstArgMember _ _) (wpAny_of_eq (a := Value.none) (by first | rfl | (simp only [firstArgMember]; rfl)) ?_)
  refine wpAny_newObj_type ?_ (by size_fits)
  simp only [raiseNew]
  refine wpAny_bind (wpAny_handled ?_)
  rw [show A.in1.handled = none from hh]
  refine wpAny_bind (wpAny_pure (wpAny_throw ?_))
  refine wpAny_bind (wpAny_isInstance (T := "StopIteration") (b := true) ⟨_, Heap.get?_push_size _ rfl, rfl⟩ isSubtype_stop ?_)
  refine wpAny_pure (hQ _ (((Heap.SameBut.update ..).extBut.push _).push _) ?_)
  simp only [Heap.size_push]
  rw [(Heap.SameBut.update ..).1]
theorem rend_sz {it : Addr} {x left step : Int} {Q : Option Value → Shared → Prop} (hh : A.handled = none) (hit : IsRangeIter s.heap it x left step) (hleft : left ≤ 0)
    (hQ : ∀ h', Heap.ExtBut it s.heap h' → h'.objs.size = s.heap.objs.size + 2 → Q none { s with heap := h' }) : wpAny (model prog w) A (pyNext (.ref it)) Q E s := by
  have hT : s.TypeIs (.ref it) "range_iterator" := ⟨_, hit, rfl⟩
  unfold pyNext
  refine wpAny_bind (wpAny_attempt (wpAny_callSpecial?_slot (name := Str.ofString "__next__") hT PySem.F.slot_range_iterator_next
    (wpAny_call_entry PySem.F.slot_range_iterator_next hT PySem.F.entry_range_iterator_next ?_ (PySem.F.args_range_iterator_next_1 _))))
  show wpAny _ _ (field (.ref it) 0 >>= _) _ _ s
  refine wpAny_bind (wpAny_field hit rfl (x := rawInt x) rfl ?_)
  show wpAny _ _ (field (.ref it) 1 >>= _) _ _ s
  refine wpAny_bind (wpAny_field hit rfl (x := rawInt left) rfl ?_)
  show wpAny _ _ (field (.ref it) 2 >>= _) _ _ s
  refine wpAny_bind (wpAny_field hit rfl (x := rawInt step) rfl ?_)
  show wpAny _ _ (if left ≤ 0 then _ else _) _ _ s
  rw [if_pos hleft]
  refine wpAny_bind (wpAny_rule ?_)
  refine wpAny_bind ?_
  show wpAny _ _ (newExc (.type "StopIteration") [] >>= _) _ _ _
  refine wpAny_bind ?_
  simp only [newExc, newTuple]
  refine wpAny_bind (wpAny_newObj_type ?_ (by size_fits))
  refine wpAny_bind (m := firstArgMember _ _) (wpAny_of_eq (a := Value.none) (by first | rfl | (simp only [firstArgMember]; rfl)) ?_)
  refine wpAny_newObj_type ?_ (by size_fits)
  simp only [raiseNew]
  refine wpAny_bind (wpAny_handled ?_)
  first | rw [show A.in1.handled = none from hh] | rw [hh]
  refine wpAny_bind (wpAny_pure (wpAny_throw ?_))
  refine wpAny_bind (wpAny_isInstance (T := "StopIteration") (b := true) ⟨_, Heap.get?_push_size _ rfl, rfl⟩ isSubtype_stop ?_)
  exact wpAny_pure (hQ _ (((Heap.ExtBut.refl it s.heap).push _).push _) (by simp only [Heap.size_push]))
/-- sum's own loop, the heap's size in hand -/
theorem sum_loop {l I S : Addr} {items : Array Value} {R : Result → Shared → Prop} (hA : A.handled = none) (val : Nat → Int) (hi : ∀ (i : Nat) (v : Value), items[i]? = some v → ∃ u, v = Value.int (val i) u) (hIS : I ≠ S) (hlI : l ≠ I) (hlS : l ≠ S) :
    ∀ (k i : Nat) (h : Heap) (t : Nat) (st : Int) (tA : Tok) (c : Nat), (st = 0 ∨ st = 2) → items.size - i = k → i ≤ items.size → h.IsList l items → h.IsListIter I l i →
      h.get? S = some { cls := .type "list", dict := none, data := .seq #[.int (preSum val i) tA] c, slots := #[] } →
      (∀ h' u t', (∀ b o, b ≠ I → b ≠ S → h.get? b = some o → h'.get? b = some o) → h'.objs.size = h.objs.size + 2 → R (.ok (.ret (.int (preSum val items.size) u))) ⟨h', g, d, t', os⟩) →
      codeAny (model prog w) A (.builtin "sum.loop" ⟨[.ref I, .ref S, rawInt st, rawInt 0], []⟩) R ⟨h, g, d, t, os⟩ := by
  intro k
  induction k with
  | zero =>
    intro i h t st tA c hst hk hi' hl hI hS hR
    have e : i = items.size := by omega
    refine codeAny_builtin PySem.F.entry_sum_loop ?_
    rw [Around.under_plainId PySem.F.plain_sum_loop _]
    show wpAny _ A.in1 (seqItems? (.ref S) >>= _) _ _ _
    refine wpAny_bind (wpAny_seqItems hS rfl ?_)
    show wpAny _ A.in1 (tryCatch (pyNext (.ref I)) _ >>= _) _ _ _
    refine wpAny_bind (wpAny_tryCatch (end_sz hA hI hl (by rw [e]; simp) fun h' eb sz => ?_))
    rw [e]
    exact wpAny_pure (hR h' tA t (fun b o hb _ e => eb b o hb e) sz)
  | succ k ih =>
    intro i h t st tA c hst hk hi' hl hI hS hR
    have hlt : i < items.size := by omega
    obtain ⟨u, hv⟩ := hi i _ (Array.getElem?_eq_getElem hlt)
    refine codeAny_builtin PySem.F.entry_sum_loop ?_
    rw [Around.under_plainId PySem.F.plain_sum_loop _]
    show wpAny _ A.in1 (seqItems? (.ref S) >>= _) _ _ _
    refine wpAny_bind (wpAny_seqItems hS rfl ?_)
    show wpAny _ A.in1 (tryCatch (pyNext (.ref I)) _ >>= _) _ _ _
    refine wpAny_bind (wpAny_tryCatch (wpAny_pyNext_list_item hI hl (x := .int (val i) u) (by rw [Array.getElem?_eq_getElem hlt, hv]) fun h₁ hI₁ sb => ?_))
    have hS₁ := (sb.2 S (Ne.symm hIS)).trans hS
    have hl₁ : h₁.IsList l items := hl.at fun o e => (sb.2 l hlI).trans e
    have go : ∀ (h₂ : Heap) (t₂ : Nat) (st' : Int) (c' : Nat) (tB : Tok), (st' = 0 ∨ st' = 2) → Heap.SameBut S h₁ h₂ → h₂.get? S = some { cls := .type "list", dict := none, data := .seq #[.int (preSum val i + val i) tB] c', slots := #[] } →
        codeAny (model prog w) A (.builtin "sum.loop" ⟨[.ref I, .ref S, rawInt st', rawInt 0], []⟩) R ⟨h₂, g, d, t₂, os⟩ := by
      intro h₂ t₂ st' c' tB hst' sb₂ hS₂
      refine ih (i + 1) h₂ t₂ st' tB c' hst' (by omega) hlt (hl₁.at fun o e => (sb₂.2 l hlS).trans e) (hI₁.at fun o e => (sb₂.2 I hIS).trans e) hS₂ fun h' u t' kp sz => ?_
      exact hR h' u t' (fun b o h1 h2 e => kp b o h1 h2 ((sb₂.2 b h2).trans ((sb.2 b h1).trans e))) (by rw [sz, sb₂.1, sb.1])
    rcases hst with rfl | rfl
    · show wpAny _ A.in1 (if (_ : Bool) = true then (mkInt (preSum val i + val i) >>= _) else _) _ _ _
      split
      · refine wpAny_bind (wpAny_mkInt ?_)
        show wpAny _ A.in1 (updateSeq S (fun _ => #[.int (preSum val i + val i) t]) >>= _) _ _ _
        refine wpAny_bind (wpAny_updateSeq hS₁ rfl (wpAny_pure ⟨plainId_quiet PySem.F.plain_sum_loop _, ?_⟩))
        exact go _ _ 0 _ _ (.inl rfl) (Heap.SameBut.update ..) (Heap.get?_update_self _ hS₁ rfl)
      · refine wpAny_bind (wpAny_rule ?_)
        refine wpAny_bind (wpAny_attempt (wpAny_holding (wpAny_add_int ?_)))
        show wpAny _ A.in1 (updateSeq S (fun _ => #[.int (preSum val i + val i) t]) >>= _) _ _ _
        refine wpAny_bind (wpAny_updateSeq hS₁ rfl ?_)
        have hS₂ := Heap.get?_update_self (Obj.mapSeq fun _ => #[Value.int (preSum val i + val i) t]) hS₁ rfl
        refine wpAny_bind (wpAny_letGo ?_)
        refine wpAny_bind (wpAny_updateSeq hS₂ rfl (wpAny_pure ⟨plainId_quiet PySem.F.plain_sum_loop _, ?_⟩))
        exact go _ _ 2 _ _ (.inr rfl) ((Heap.SameBut.update ..).trans (Heap.SameBut.update ..)) (Heap.get?_update_self _ hS₂ rfl)
    · show wpAny _ A.in1 ((holding [Value.int (val i) u] (binaryOp .Add (.int (preSum val i) tA) (.int (val i) u))).attempt >>= _) _ _ _
      refine wpAny_bind (wpAny_attempt (wpAny_holding (wpAny_add_int ?_)))
      show wpAny _ A.in1 (updateSeq S (fun _ => #[.int (preSum val i + val i) t]) >>= _) _ _ _
      refine wpAny_bind (wpAny_updateSeq hS₁ rfl ?_)
      have hS₂ := Heap.get?_update_self (Obj.mapSeq fun _ => #[Value.int (preSum val i + val i) t]) hS₁ rfl
      refine wpAny_bind (wpAny_letGo ?_)
      refine wpAny_bind (wpAny_updateSeq hS₂ rfl (wpAny_pure ⟨plainId_quiet PySem.F.plain_sum_loop _, ?_⟩))
      exact go _ _ 2 _ _ (.inr rfl) ((Heap.SameBut.update ..).trans (Heap.SameBut.update ..)) (Heap.get?_update_self _ hS₂ rfl)
theorem sum_val {l : Addr} {items : Array Value} {Q : Value → Shared → Prop} (hA : A.handled = none) (hl : h.IsList l items) (val : Nat → Int) (hi : ∀ (i : Nat) (v : Value), items[i]? = some v → ∃ u, v = Value.int (val i) u)
    (k : ∀ h' u t', Add 4 h h' → Q (.int (preSum val items.size) u) ⟨h', g, d, t', os⟩) : wpAny (model prog w) A (PySem.call (.builtin "sum") [.ref l]) Q E ⟨h, g, d, t, os⟩ := by
  refine call_function_tree PySem.F.kind_sum PySem.F.plain_sum PySem.F.entry_sum (PySem.F.args_sum1 _) ?_
  unfold Builtin.«sum»
  simp only [List.length_cons, List.length_nil]
  rw [if_neg (by decide)]
  refine wpAny_bind (wpAny_of_eq (show Builtin.Builtins.bindParams "sum" ["start"] 0 { } = pure [none] from rfl) ?_)
  refine wpAny_bind (wpAny_pyIter_list hl ?_)
  refine wpAny_bind (wpAny_mkInt ?_)
  refine wpAny_bind (wpAny_pure ?_)
  simp only [List.forIn_cons, List.forIn_nil]
  refine wpAny_bind (wpAny_bind (wpAny_bind (wpAny_isInstance (T := "int") (b := false) (typeIs_int _ _ _) PySem.sub_int_str ?_)))
  simp only [Bool.false_eq_true, if_false]
  refine wpAny_pure (wpAny_bind (wpAny_bind (wpAny_isInstance (T := "int") (b := false) (typeIs_int _ _ _) PySem.sub_int_bytes ?_)))
  simp only [Bool.false_eq_true, if_false]
  refine wpAny_pure (wpAny_bind (wpAny_bind (wpAny_isInstance (T := "int") (b := false) (typeIs_int _ _ _) PySem.sub_int_bytearray ?_)))
  simp only [Bool.false_eq_true, if_false]
  refine wpAny_pure (wpAny_pure ?_)
  refine wpAny_bind (wpAny_newObj_type ?_)
  obtain ⟨ol, hol, _⟩ := id hl
  have hlt := Heap.lt_size hol
  let h₁ := h.push { cls := .type "list_iterator", data := .fields #[.ref l, .int 0 0] }
  have e1 : h₁.objs.size = h.objs.size + 1 := Heap.size_push ..
  refine wpAny_pure ⟨plainId_quiet PySem.F.plain_sum_loop _, sum_loop (l := l) (I := h.objs.size) (S := h₁.objs.size) hA val hi (by rw [e1]; exact Nat.ne_of_lt (Nat.lt_succ_self _)) (Nat.ne_of_lt hlt) (by rw [e1]; exact Nat.ne_of_lt (Nat.lt_succ_of_lt hlt)) items.size 0 _ _ 0 _ 0 (.inl rfl) rfl (Nat.zero_le _)
    ((hl.push _).push _) ⟨_, Heap.get?_push_of_some _ (Heap.get?_push_size _ rfl), rfl, rfl⟩ (Heap.get?_push_size _ rfl) fun h' u t' kp sz => ?_⟩
  refine k h' u t' ⟨fun b o e => kp b o (Nat.ne_of_lt (Heap.lt_size e)) (by rw [e1]; exact Nat.ne_of_lt (Nat.lt_succ_of_lt (Heap.lt_size e))) (Heap.get?_push_of_some _ (Heap.get?_push_of_some _ e)), ?_⟩
  rw [sz, Heap.size_push, Heap.size_push]
theorem sum_adds {l : Addr} {items : Array Value} {Q : Value → Shared → Prop} (hA : A.handled = none) (hl : h.IsList l items) (hi : AllInts items)
    (k : ∀ h' n u t', Add 4 h h' → Q (.int n u) ⟨h', g, d, t', os⟩) : wpAny (model prog w) A (PySem.call (.builtin "sum") [.ref l]) Q E ⟨h, g, d, t, os⟩ :=
  sum_val hA hl (fun i => match items[i]? with | some (.int n _) => n | _ => 0) (fun i v e => by obtain ⟨n, u, rfl⟩ := hi i v e; exact ⟨u, by rw [e]⟩) fun h' u t' ad => k h' _ u t' ad
end
end Mine
end
section
open PySem PySem.W PyProof.Rows PySem.Calls Builtin Builtin.ObjectAttr
set_option Elab.async false
set_option maxRecDepth 100000
namespace Mine
section
variable {prog : Program} {w : World} {A : Around} {E : Value → Shared → Prop} {s : Shared} {h h' : Heap} {g : Array GenState} {d : Drawn} {t : Nat} {os : OsState}
/-- an iterator that hands n items out, at I -/
structure Iter (prog : Program) (w : World) (A : Around) (I : Addr) (fp : List Addr) (n : Nat) (Pv : Nat → Value → Prop) (It : Nat → Heap → Prop) : Prop where
  self : ∀ (E : Value → Shared → Prop) (Q : Value → Shared → Prop) (i : Nat) (s : Shared), It i s.heap → Q (.ref I) s → wpAny (model prog w) A (pyIter (.ref I)) Q E s
  item : ∀ (E : Value → Shared → Prop) (Q : Option Value → Shared → Prop) (i : Nat) (h : Heap) (g : Array GenState) (d : Drawn) (t : Nat) (os : OsState), i < n → It i h →
    (∀ h' v t', It (i + 1) h' → Heap.SameBut I h h' → Pv i v → Q (some v) ⟨h', g, d, t', os⟩) → wpAny (model prog w) A (pyNext (.ref I)) Q E ⟨h, g, d, t, os⟩
  done : ∀ (E : Value → Shared → Prop) (Q : Option Value → Shared → Prop) (h : Heap) (g : Array GenState) (d : Drawn) (t : Nat) (os : OsState), It n h →
    (∀ h', Heap.ExtBut I h h' → h'.objs.size = h.objs.size + 2 → Q none ⟨h', g, d, t, os⟩) → wpAny (model prog w) A (pyNext (.ref I)) Q E ⟨h, g, d, t, os⟩
  keep : ∀ i h h', (∀ b ∈ fp, ∀ o, h.get? b = some o → h'.get? b = some o) → It i h → It i h'
theorem Iter.range (hh : A.handled = none) (I : Addr) (n : Nat) : Iter prog w A I [I] n (fun i v => ∃ u, v = .int (i : Nat) u) (fun i h => IsRangeIter h I (i : Nat) ((n : Int) - (i : Nat)) 1) where
  self _ _ _ _ st hq := wpAny_pyIter_rangeiter st hq
  item _ _ i _ _ _ _ _ hi st k := wpAny_pyNext_range_item st (by omega) fun h' it sb => k h' _ _ (by
    have e1 : ((i + 1 : Nat) : Int) = (i : Int) + 1 := by omega
    have e2 : (n : Int) - ((i + 1 : Nat) : Int) = (n : Int) - (i : Int) - 1 := by omega
    rw [e2, e1]; exact it) sb ⟨_, rfl⟩
  done _ _ _ _ _ _ _ st k := rend_sz hh st (by omega) fun h' eb sz => k h' eb sz
  keep _ _ _ hk st := hk I (by simp) _ st
theorem Iter.list (hh : A.handled = none) (I l : Addr) (items : Array Value) (hne : l ≠ I) : Iter prog w A I [I, l] items.size (fun i v => items[i]? = some v) (fun i h => h.IsListIter I l i ∧ h.IsList l items) where
  self _ _ _ _ st hq := wpAny_pyIter_listiter st.1 hq
  item _ _ i _ _ _ _ _ hi st k := wpAny_pyNext_list_item st.1 st.2 (Array.getElem?_eq_getElem hi) fun h' it sb => k h' _ _ ⟨it, st.2.at fun o e => (sb.2 l hne).trans e⟩ sb (Array.getElem?_eq_getElem hi)
  done _ _ _ _ _ _ _ st k := end_sz hh st.1 st.2 (by simp) fun h' eb sz => k h' eb sz
  keep _ _ _ hk st := ⟨st.1.at fun o e => hk I (by simp) o e, st.2.at fun o e => hk l (by simp) o e⟩
/-- what a comprehension leaves: its list at D, the heap's size -/
structure Made (h : Heap) (I D : Addr) (n e : Nat) (Pe : Nat → Value → Heap → Prop) (ys : List Value) (h' : Heap) : Prop where
  size : h'.objs.size = h.objs.size + 2 + e * n + 2
  keep : ∀ b o, b ≠ I → h.get? b = some o → h'.get? b = some o
  pl : h'.PlainList D ys.toArray
  len : ys.length = n
  pe : ∀ (i : Nat) (y : Value), ys[i]? = some y → Pe i y h'
  is : D = h.objs.size
theorem Made.same {I D : Addr} {n e : Nat} {Pe : Nat → Value → Heap → Prop} {ys : List Value} {a : Addr} {h'' : Heap} (x : Made h I D n e Pe ys h') (hPe : ∀ i y h h', (∀ b o, b ≠ I → b ≠ D → b ≠ D + 1 → h.get? b = some o → h'.get? b = some o) → Pe i y h → Pe i y h')
    (sb : Heap.SameBut a h' h'') (ha : a = D + 1) : Made h I D n e Pe ys h'' := by
  subst ha
  refine ⟨sb.1.trans x.size, fun b o hb e => (sb.2 b ?_).trans (x.keep b o hb e), x.pl.at fun o e => (sb.2 D (Nat.ne_of_lt (Nat.lt_succ_self _))).trans e, x.len, fun i y hy => hPe _ _ _ _ (fun b o _ _ h3 e => (sb.2 b h3).trans e) (x.pe i y hy), x.is⟩
  rw [x.is]
  exact Nat.ne_of_lt (Nat.lt_succ_of_lt (Heap.lt_size e))
/-- a comprehension's turns, each of e objects -/
theorem comp_adds {elt iter : Expr} {x : Str} {px : Pos} {scope : Scope} {cl : List (Str × Addr)} {pos : Pos} {env : Env} {I : Addr} {fp : List Addr} {n e : Nat} {Pv : Nat → Value → Prop} {It : Nat → Heap → Prop} (Pe : Nat → Value → Heap → Prop) {RR : Value → Addr → Result → Shared → Prop}
    (W : Iter prog w A I fp n Pv It) (st : It 0 h) (hfp : ∀ b ∈ fp, b < h.objs.size) (hI : I ∈ fp) (few : n ≤ 1000) (hcell : ∀ y ∈ scope.names, y.2 ≠ .cell) (hkind : scope.kind = .function) (hx : scope.names.lookup x = some .local)
    (hPe : ∀ i y h h', (∀ b o, b ≠ I → b ≠ h₀ → b ≠ h₀ + 1 → h.get? b = some o → h'.get? b = some o) → Pe i y h → Pe i y h') (h0 : h₀ = h.objs.size)
    (he : ∀ (E : Value → Shared → Prop) (Q : Value → Shared → Prop) (i : Nat) (v : Value) (C : Addr) (m : Str → Option Value) (h₁ : Heap) (t : Nat), i < n → Pv i v → h₁.Ns C m → m x = some v → (∀ b o, b ≠ I → h.get? b = some o → h₁.get? b = some o) → C = h₀ + 1 → C + 1 ≤ h₁.objs.size →
      (∀ y h₂ t', Add e h₁ h₂ → Pe i y h₂ → Q y ⟨h₂, g, d, t', os⟩) → wpAny (model prog w) A (eval elt (compEnvC scope cl C env)) Q E ⟨h₁, g, d, t, os⟩)
    (k : ∀ (h' : Heap) (t' : Nat) (ys : List Value) (m : Str → Option Value), h'.Ns (h₀ + 1) m → Made h I h₀ n e Pe ys h' → RR (.ref h₀) (h₀ + 1) (.ok .next) ⟨h', g, d, t', os⟩) :
    wpAny (model prog w) A (newList []) (fun acc s₃ => wpAny (model prog w) A (newFunctionEnv scope env.globals cl [] env.qual none .none (some env)) (fun cenv s₄ =>
      codeAny (model prog w) A (.compStart (.ListComp elt [⟨.Name x px, iter, [], 0⟩] scope pos) 0 (.ref I) acc { cenv with scope := relabel scope env }) (RR acc cenv.locals) s₄) E s₃) E ⟨h, g, d, t, os⟩ := by
  subst h0
  refine wpAny_newObj_type (wpAny_newFunctionEnv hcell (by intro y hy; simp at hy) (fun h₁ hns hsb => ?_) hkind)
  have eC : (h.push { cls := .type "list", data := .seq ([] : List Value).toArray }).objs.size = h.objs.size + 1 := Heap.size_push ..
  dsimp only at hns hsb ⊢
  generalize hH : h.push { cls := .type "list", data := .seq ([] : List Value).toArray } = H at hns hsb eC ⊢
  have hDC : h.objs.size ≠ H.objs.size := by rw [eC]; exact Nat.ne_of_lt (Nat.lt_succ_self _)
  have kp : ∀ b o, h.get? b = some o → h₁.get? b = some o := fun b o e => (hsb.2 b (by rw [eC]; exact Nat.ne_of_lt (Nat.lt_succ_of_lt (Heap.lt_size e)))).trans (Heap.get?_push_of_some _ (hH ▸ Heap.get?_push_of_some _ e))
  have acc : h₁.PlainList h.objs.size (List.toArray []) := ⟨0, (hsb.2 _ hDC).trans (Heap.get?_push_of_some _ (hH ▸ Heap.get?_push_size _ rfl))⟩
  have sz : h₁.objs.size = h.objs.size + 2 := by rw [hsb.1, Heap.size_push, eC]
  have st₁ : It 0 h₁ := W.keep _ _ _ (fun b _ o e => kp b o e) st
  have IDC : I ≠ h.objs.size ∧ I ≠ H.objs.size := ⟨Nat.ne_of_lt (hfp _ hI), by rw [eC]; exact Nat.ne_of_lt (Nat.lt_succ_of_lt (hfp _ hI))⟩
  have loop : codeAny (model prog w) A (.compLoop (.ListComp elt [⟨.Name x px, iter, [], 0⟩] scope pos) 0 (.ref I) (.ref h.objs.size) (compEnvC scope cl H.objs.size env)) (RR (.ref h.objs.size) H.objs.size)
      ⟨h₁, g, d, t + ([] : List (Str × Value)).length, os⟩ := by
    refine codeAny_compLoop_list (fun r s' => ∃ i h' t' m ys, s' = ⟨h', g, d, t', os⟩ ∧ r = n - i ∧ i ≤ n ∧ It i h' ∧ h'.Ns H.objs.size m ∧ h'.PlainList h.objs.size (List.toArray ys) ∧ ys.length = i ∧ (∀ j y, ys[j]? = some y → Pe j y h') ∧
      h'.objs.size = h.objs.size + 2 + e * i ∧ (∀ b o, b ≠ I → h.get? b = some o → h'.get? b = some o)) ?_ n ⟨0, h₁, _, _, [], rfl, rfl, Nat.zero_le _, st₁, hns, acc, rfl, (by intro j y hj; simp at hj), by rw [sz, Nat.mul_zero], fun b o _ e => kp b o e⟩
    rintro r s' ⟨i, h', t', m, ys, rfl, rfl, hi, sti, ns, pl, len, pe, sz', kp'⟩
    by_cases hlt : i < n
    · refine W.item _ _ i h' g d t' os hlt sti fun h₂ v t₂ st₂ sb₂ pv => ?_
      dsimp only
      refine wpAny_assign_Name (wpAny_storeName_local (lookup_relabel_local hx) (ns.sameBut sb₂ (Ne.symm IDC.2)) (fun h₃ ns₃ sb₃ => ?_) (by simp [compEnvC, relabel, hkind]))
      have kp₃ : ∀ b o, b ≠ I → h.get? b = some o → h₃.get? b = some o := fun b o hb e =>
        (sb₃.2 b (by rw [show (compEnvC scope cl H.objs.size env).locals = H.objs.size from rfl, eC]; exact Nat.ne_of_lt (Nat.lt_succ_of_lt (Heap.lt_size e)))).trans ((sb₂.2 b hb).trans (kp' b o hb e))
      refine he _ _ i v H.objs.size _ h₃ _ hlt pv ns₃ (if_pos rfl) kp₃ eC (by show H.objs.size + 1 ≤ h₃.objs.size; rw [sb₃.1, sb₂.1, sz', eC]; exact Nat.le_add_right _ _) fun y h₄ t₄ ad pey => ?_
      have pl₄ : h₄.PlainList h.objs.size (List.toArray ys) := pl.at fun o e => ad.keep _ _ ((sb₃.2 _ hDC).trans ((sb₂.2 _ (Ne.symm IDC.1)).trans e))
      refine wpAny_list_append_plain pl₄ (fun h₅ pl₅ sb₅ => ?_) (by rw [List.size_toArray, len, sizeLine_eq]; omega)
      rw [List.push_toArray] at pl₅
      have step : ∀ b o, b ≠ I → b ≠ h.objs.size → b ≠ h.objs.size + 1 → h'.get? b = some o → h₅.get? b = some o := fun b o h1 h2 h3 e =>
        (sb₅.2 b h2).trans (ad.keep _ _ ((sb₃.2 b (by rw [show (compEnvC scope cl H.objs.size env).locals = H.objs.size from rfl, eC]; exact h3)).trans ((sb₂.2 b h1).trans e)))
      refine ⟨n - (i + 1), by omega, i + 1, h₅, _, _, ys ++ [y], rfl, rfl, hlt, W.keep _ _ _ (fun b hb o e => ?_) st₂, (ns₃.keeps ad.keep).sameBut sb₅ (Ne.symm hDC), pl₅, by simp [len], ?_, ?_, fun b o hb e => ?_⟩
      · have hb' := hfp b hb
        refine (sb₅.2 b (Nat.ne_of_lt hb')).trans (ad.keep _ _ ((sb₃.2 b ?_).trans e))
        rw [show (compEnvC scope cl H.objs.size env).locals = H.objs.size from rfl, eC]; exact Nat.ne_of_lt (Nat.lt_succ_of_lt hb')
      · intro j z hz
        by_cases hj : j < ys.length
        · rw [List.getElem?_append_left hj] at hz
          exact hPe _ _ _ _ step (pe j z hz)
        · rw [List.getElem?_append_right (by omega)] at hz
          have hj0 : j - ys.length = 0 := by
            cases q : j - ys.length with
            | zero => rfl
            | succ a => rw [q] at hz; simp at hz
          rw [hj0] at hz
          cases hz
          have : j = i := by omega
          subst this
          exact hPe _ _ _ _ (fun b o _ h2 _ e => (sb₅.2 b h2).trans e) pey
      · rw [sb₅.1, ad.size, sb₃.1, sb₂.1, sz', Nat.mul_add]; omega
      · exact (sb₅.2 b (Nat.ne_of_lt (Heap.lt_size e))).trans (ad.keep _ _ (kp₃ b o hb e))
    · obtain rfl : i = n := by omega
      refine W.done _ _ h' g d t' os sti fun h₂ eb sz₂ => ?_
      have step : ∀ b o, b ≠ I → h'.get? b = some o → h₂.get? b = some o := fun b o h1 e => eb b o h1 e
      rw [eC]
      exact k h₂ t' ys m (eC ▸ ns.extBut eb (Ne.symm IDC.2)) ⟨by rw [sz₂, sz'], fun b o hb e => step b o hb (kp' b o hb e), pl.at fun o e => step _ _ (Ne.symm IDC.1) e, len, fun j y hj => hPe _ _ _ _ (fun b o h1 _ _ e => step b o h1 e) (pe j y hj), rfl⟩
  exact codeAny_compStart_list loop (W.self _ _ 0 _ st₁ loop)
theorem comp_ret {elt iter : Expr} {x : Str} {px : Pos} {scope : Scope} {cl : List (Str × Addr)} {pos : Pos} {env : Env} {Q : Value → Shared → Prop} (hclos : closureFor scope env = pure cl) (hkind : scope.kind = .function)
    (hnames : ∀ y ∈ scope.names, y.2 = .local → scope.names.lookup y.1 = some .local)
    (k : wpAny (model prog w) A (eval iter env) (fun xv s₁ => wpAny (model prog w) A (pyIter xv) (fun it s₂ => wpAny (model prog w) A (newList []) (fun acc s₃ => wpAny (model prog w) A (newFunctionEnv scope env.globals cl [] env.qual none .none (some env)) (fun cenv s₄ =>
      codeAny (model prog w) A (.compStart (.ListComp elt [⟨.Name x px, iter, [], 0⟩] scope pos) 0 it acc { cenv with scope := relabel scope env }) (compPost (model prog w) A E none Q acc cenv.locals) s₄) E s₃) E s₂) E s₁) E s)
    (hs : ∀ x, foldedSetIterable iter env x = pure x := by intro _; rfl) : wpAny (model prog w) A (eval (.ListComp elt [⟨.Name x px, iter, [], 0⟩] scope pos) env) Q E s := by
  rw [eval_ListComp]
  exact wpAny_comprehension_free (use := none) rfl hs hclos hkind hnames k
theorem comp_asg {elt iter : Expr} {x y : Str} {px py : Pos} {scope : Scope} {cl : List (Str × Addr)} {pos spos : Pos} {env : Env} {Q : Flow → Shared → Prop}
    (hsw : swapsWith (.ListComp elt [⟨.Name x px, iter, [], 0⟩] scope pos) (some (.Name y py)) spos.line env = pure true) (hclos : closureFor scope env = pure cl) (hkind : scope.kind = .function)
    (hnames : ∀ y ∈ scope.names, y.2 = .local → scope.names.lookup y.1 = some .local)
    (k : wpAny (model prog w) A (eval iter env) (fun xv s₁ => wpAny (model prog w) A (pyIter xv) (fun it s₂ => wpAny (model prog w) A (newList []) (fun acc s₃ => wpAny (model prog w) A (newFunctionEnv scope env.globals cl [] env.qual none .none (some env)) (fun cenv s₄ =>
      codeAny (model prog w) A (.compStart (.ListComp elt [⟨.Name x px, iter, [], 0⟩] scope pos) 0 it acc { cenv with scope := relabel scope env }) (compPost (model prog w) A E (some (assign (.Name y py) env)) (fun _ s' => Q .next s') acc cenv.locals) s₄) E s₃) E s₂) E s₁) E s)
    (hs : ∀ x, foldedSetIterable iter env x = pure x := by intro _; rfl) : wpAny (model prog w) A (exec (.Assign [.Name y py] (.ListComp elt [⟨.Name x px, iter, [], 0⟩] scope pos) spos) env) Q E s := by
  rw [exec_Assign_Name_used _ _ _ _ hsw]
  refine wpAny_bind (wpAny_standAt (wpAny_bind ?_))
  show wpAny _ A (do let _ ← comprehension (.ListComp elt [⟨.Name x px, iter, [], 0⟩] scope pos) scope env _ (newList []) false (eval iter env) (some (assign (.Name y py) env))) _ _ s
  exact wpAny_bind (wpAny_mono (wpAny_comprehension_free (use := some (assign (.Name y py) env)) (Q := fun _ s' => Q .next s') rfl hs hclos hkind hnames k) (fun _ s' hq => wpAny_pure (wpAny_pure hq)) fun _ _ e => e)
end
end Mine
end
section
open PySem PySem.W PyProof.Rows PySem.Calls Builtin Builtin.ObjectAttr
set_option Elab.async false
set_option maxRecDepth 100000
namespace Mine
def tAnswers : Txt := defOf' (nth top 11)
section
variable {prog : Program} {w : World} {A : Around} {E : Value → Shared → Prop} {s : Shared} {h h' h₀ : Heap} {g : Array GenState} {d : Drawn} {t : Nat} {os : OsState} {env : Env} {x : Str} {pos : Pos}
theorem b_glob {mg mb : Str → Option Value} {v : Value} {Q : Value → Shared → Prop} (G : Glob h₀ mg mb) (kp : ∀ b o, h₀.get? b = some o → h.get? b = some o) (hv : mg x = some v) (k : Q v ⟨h, g, d, t, os⟩) (hg : env.globals = mainGlobals := by rfl) (hk : env.scope.kind = .function := by rfl)
    (hx : env.kindOf x = some .globalImplicit := by rfl) (hd : (x == ("__debug__" : Str)) = false := by decide) : wpAny (model prog w) A (eval (.Name x pos) env) Q E ⟨h, g, d, t, os⟩ :=
  Name_function_global hk hx (loadGlobal_global (hg ▸ G.g.keeps kp) hv k) hd
theorem b_built {mg mb : Str → Option Value} {v : Value} {Q : Value → Shared → Prop} (G : Glob h₀ mg mb) (kp : ∀ b o, h₀.get? b = some o → h.get? b = some o) (hn : mg x = none) (hv : mb x = some v) (k : Q v ⟨h, g, d, t, os⟩) (hg : env.globals = mainGlobals := by rfl) (hb : env.builtins = builtinsNs := by rfl)
    (hk : env.scope.kind = .function := by rfl) (hx : env.kindOf x = some .globalImplicit := by rfl) (hd : (x == ("__debug__" : Str)) = false := by decide) : wpAny (model prog w) A (eval (.Name x pos) env) Q E ⟨h, g, d, t, os⟩ :=
  Name_function_global hk hx (loadGlobal_builtin (hg ▸ G.g.keeps kp) hn (hb ▸ G.b.keeps kp) hv k) hd
theorem allInts_pick {items : Array Value} {lo hi st : Option Int} (hi' : AllInts items) : AllInts (slicePick items lo hi st) := by
  intro i v e
  have hm : v ∈ slicePick items lo hi st := Array.mem_of_getElem? e
  unfold slicePick at hm
  simp only [List.mem_toArray, List.mem_filterMap] at hm
  obtain ⟨j, _, hj⟩ := hm
  exact hi' _ _ hj
/-- a function's room, its one parameter a cell's -/
theorem env_cell {scope : Scope} {v : Value} {qual : Str} {globals builtins : Addr} {func : Option Addr} {code : Value} {Q : Env → Shared → Prop} (hk : scope.kind = .function) (hx : scope.names.lookup x = some .cell)
    (hc : ∀ n, cellsFrom n scope.names [] = [(x, n)]) (hp : ∀ H : Heap, pushCells H scope.names = H.push { cls := .type "cell", data := .cell none })
    (k : ∀ h' t', h'.Ns h.objs.size (fun _ => none) → h'.IsCell (h.objs.size + 1) (some v) → Add 2 h h' → Q (newEnv scope h.objs.size globals [(x, h.objs.size + 1)] qual func code none builtins) ⟨h', g, d, t', os⟩) :
    wpAny (model prog w) A (newFunctionEnv scope globals [] [(x, v)] qual func code none builtins) Q E ⟨h, g, d, t, os⟩ := by
  simp only [newFunctionEnv, Option.isSome_none, Bool.false_eq_true, if_false]
  refine wpAny_bind (wpAny_alloc ?_)
  refine wpAny_bind (wpAny_layCells _ (fun name kind cells => by cases hkc : kind == NameKind.cell <;> simp [hkc]) _ _ _ _ ?_)
  rw [hc, hp]
  rw [show ({ heap := h.push { cls := .type "frame", data := .dict #[] }, gens := g, drawn := d, toks := t, os := os } : Shared).heap.objs.size = h.objs.size + 1 from Heap.size_push ..]
  dsimp only
  have ad : Add 2 h ((h.push { cls := .type "frame", data := .dict #[] }).push { cls := .type "cell", data := .cell none }) := (Add.push _).trans (Add.push _)
  have ns : ((h.push { cls := .type "frame", data := .dict #[] }).push { cls := .type "cell", data := .cell none }).Ns h.objs.size (fun _ => none) := (Heap.Ns.new h (.type "frame")).keeps fun _ _ e => Heap.get?_push_of_some _ e
  have ic : ((h.push { cls := .type "frame", data := .dict #[] }).push { cls := .type "cell", data := .cell none }).IsCell (h.objs.size + 1) none := ⟨_, by rw [← Heap.size_push h { cls := .type "frame", data := .dict #[] }]; exact Heap.get?_push_size _ rfl, rfl⟩
  generalize (h.push { cls := .type "frame", data := .dict #[] }).push { cls := .type "cell", data := .cell none } = h₁ at ad ns ic ⊢
  refine wpAny_bind ?_
  rw [List.forIn_cons]
  refine wpAny_bind (wpAny_bind (wpAny_storeName_cell (c := h.objs.size + 1) hk hx (by simp [List.lookup]) ic (fun h₂ ic₂ sb => wpAny_pure ?_)))
  dsimp only
  rw [List.forIn_nil]
  refine wpAny_pure (wpAny_pure ?_)
  exact k h₂ _ (ns.sameBut sb (Nat.ne_of_lt (Nat.lt_succ_self _))) ic₂ (ad.same sb (Nat.le_succ _))
theorem range_it {n : Nat} {u : Tok} {Q : Value → Shared → Prop} (hn : n ≤ 1000) (k : ∀ h' t', Add 2 h h' → IsRangeIter h' (h.objs.size + 1) ((0 : Nat) : Int) ((n : Int) - ((0 : Nat) : Int)) 1 → Q (.ref (h.objs.size + 1)) ⟨h', g, d, t', os⟩) :
    wpAny (model prog w) A (PySem.call (.type "range") [.int (n : Int) u]) (fun xv s₁ => wpAny (model prog w) A (pyIter xv) Q E s₁) E ⟨h, g, d, t, os⟩ := by
  refine call_range_1 (wpAny_pyIter_range (IsRange.new ..) (small_one (by decide) (by decide) (by omega) (by omega)) ?_)
  dsimp only
  rw [Heap.size_push]
  refine k _ _ ((Add.push _).trans (Add.push _)) ?_
  have e : Builtin.Range.rangeSize 0 (n : Int) 1 = (n : Int) - ((0 : Nat) : Int) := by rw [rangeSize_one]; split <;> omega
  rw [← e]
  rw [← Heap.size_push h { cls := .type "range", data := .fields #[.int 0 t, .int n u, .int 1 (t + 1)] }]
  exact Heap.get?_push_size _ rfl
theorem answers_binds {nm qual : Str} {cl : List (Str × Addr)} {doc pm cd ct a : Value} {an : Option Addr} :
    bindArgs (fnX nm qual tAnswers.params tAnswers.body tAnswers.scope cl .none .none doc pm an cd ct) ⟨[a], []⟩ = (pure [(("script" : Str), a)] : Sem _) := by kernel_rfl
/-- what the text's globals are, for the laying out -/
structure Names2 (mg mb : Str → Option Value) : Prop where
  sum : mg "sum" = none ∧ mb "sum" = some (.builtin "sum")
  range : mg "range" = none ∧ mb "range" = some (.type "range")
theorem answers_adds {fn ls : Addr} {items : Array Value} {mg mb : Str → Option Value} {Q : Value → Shared → Prop} (hd : A.depth < recursionLimit) (hh : A.handled = none) (G : Glob h mg mb) (N : Names2 mg mb) (Df : DefAt h tAnswers fn) (hl : h.IsList ls items) (hi : AllInts items) (hsz : items.size ≤ sizeLine)
    (k : ∀ h' t' a0 a1 a2 a3 u0 u1 u2 u3, Add 38 h h' → h'.PlainList (h.objs.size + 34) #[.int a0 u0, .int a1 u1, .int a2 u2, .int a3 u3] → Q (.ref (h.objs.size + 34)) ⟨h', g, d, t', os⟩) :
    wpAny (model prog w) A (PySem.call (.ref fn) [.ref ls]) Q E ⟨h, g, d, t, os⟩ := by
  obtain ⟨nm, qual, od, osl, doc, pm, cd, ct, an, hf, hcd⟩ := Df
  refine wpAny_call (codeAny_call_function hd hf rfl rfl rfl rfl hcd ?_)
  rw [answers_binds]
  refine wpAny_pure (env_cell (x := "script") rfl rfl (fun n => rfl) (fun H => rfl) fun h₁ t₁ ns₁ ic₁ ad₁ => ⟨G.lim.keeps ad₁.keep, codeAny_func ?_⟩)
  generalize hL : h.objs.size = L at ns₁ ic₁ k ⊢
  refine wpAny_mono (Q := fun fl s' => Q (match fl with | .ret v => v | _ => .none) s') (E := fun _ _ => False) ?_ (fun fl s' x => x) (fun _ _ x => x.elim)
  show wpAny _ (A.deeper (envX qual tAnswers.scope L fn cd [("script", L + 1)])) (execs tAnswers.body (envX qual tAnswers.scope L fn cd [("script", L + 1)])) _ _ _
  have hh' : (A.deeper (envX qual tAnswers.scope L fn cd [("script", L + 1)])).handled = none := hh
  generalize A.deeper (envX qual tAnswers.scope L fn cd [("script", L + 1)]) = A' at hh' ⊢
  -- heaps = [sum(script[place::4]) for place in range(4)]
  refine wpAny_execs_cons (comp_asg (cl := [("script", L + 1)]) rfl rfl rfl (by decide) ?_)
  refine Call_name1 rfl (b_built G ad₁.keep N.range.1 N.range.2 (callWith_type1 (v_int fun _ _ => ?_)))
  refine range_it (n := 4) (by decide) fun h₂ t₂ ad₂ it => ?_
  have A2 := ad₁.trans ad₂
  have e1 : h₁.objs.size = L + 2 := by rw [ad₁.size, hL]
  have e2 : h₂.objs.size = L + 4 := by rw [A2.size, hL]
  rw [e1] at it ⊢
  refine comp_adds (h₀ := L + 4) (e := 6) (fp := [L + 2 + 1]) (fun _ y _ => ∃ n u, y = .int n u) (Iter.range hh' (L + 2 + 1) 4) it (by intro b hb; rw [List.mem_singleton.mp hb, e2]; exact Nat.lt_succ_self _) (by simp) (by decide) (by decide) rfl rfl (fun _ _ _ _ _ x => x) e2.symm ?_ ?_
  · intro E Q i v C m h₃ t₃ hi3 pv ns hm kp3 _ hC k3
    obtain ⟨u, rfl⟩ := pv
    have lt : ∀ b o, h.get? b = some o → b < L := fun b o e => hL ▸ Heap.lt_size e
    have kp : ∀ b o, h.get? b = some o → h₃.get? b = some o := fun b o e => kp3 b o (Nat.ne_of_lt (Nat.lt_of_lt_of_le (lt b o e) (Nat.le_add_right L 3))) (A2.keep b o e)
    refine Call_name1 rfl (b_built G kp N.sum.1 N.sum.2 (callWith_builtin1 ?_))
    have ic₃ : h₃.IsCell (L + 1) (some (.ref ls)) := let ⟨o, e, r⟩ := ic₁; ⟨o, kp3 _ _ (by intro z; have : L + 1 = L + 3 := z; omega) (ad₂.keep _ _ e), r⟩
    refine wpAny_Subscript_Slice_step (T := "list") list_getitem_lookup ?_
    refine wpAny_Name (wpAny_loadName_cell rfl rfl rfl ic₃ ?_) (by decide)
    refine wpAny_Slice ?_
    refine wpAny_evalPart_some (wpAny_Name (wpAny_loadName_local rfl rfl ns hm ?_) (by decide))
    refine wpAny_evalPart_none (wpAny_evalPart_some (v_int fun _ _ => ?_))
    have hl3 := isList_keeps hl kp
    refine ⟨(hl3.push _).typeIs, wpAny_getItem_list_slice (hl3.push _) (Heap.IsSliceOf.new ..) (.int _ _) .none (.int 4 _) (by simp) ?_ hsz⟩
    refine sum_adds hh' ⟨_, Heap.get?_push_size _ rfl, rfl, _, rfl⟩ (allInts_pick hi) fun h' n u t' ad => ?_
    exact k3 _ _ _ ((Add.push _).trans ((Add.push _).trans ad)) ⟨n, u, rfl⟩
  · intro h₃ t₃ ys m ns M
    have ns2 : h₂.Ns L (fun _ => none) := ns₁.keeps ad₂.keep
    have ns3 : h₃.Ns L (fun _ => none) := let ⟨o, es, ep, e, r⟩ := ns2; ⟨o, es, ep, M.keep _ _ (by intro z; have : L = L + 3 := z; omega) e, r⟩
    show wpAny _ _ (assign (.Name "heaps" _) _ (.ref (L + 4))) _ _ _
    refine wpAny_assign_Name (wpAny_storeName_local rfl ns3 (fun h₄ ns₄ sb₄ => ⟨m, ns.sameBut sb₄ (by intro z; have : L + 5 = L := z; omega), fun h₅ sb₅ => ?_⟩) rfl)
    have A5 : Add 32 h h₅ := by
      refine ⟨fun b o e => ?_, by rw [sb₅.1, sb₄.1, M.size, e2, hL]⟩
      have lt := hL ▸ Heap.lt_size e
      refine (sb₅.2 b (Nat.ne_of_lt (Nat.lt_of_lt_of_le lt (Nat.le_add_right L 5)))).trans ((sb₄.2 b (Nat.ne_of_lt lt)).trans (M.keep b o (Nat.ne_of_lt (Nat.lt_of_lt_of_le lt (Nat.le_add_right L 3))) (A2.keep b o e)))
    have ns5 := ns₄.sameBut sb₅ (by intro z; have : L = L + 5 := z; omega)
    have hp : h₅.PlainList (L + 4) ys.toArray := M.pl.at fun o e => (sb₅.2 _ (by intro z; have : L + 4 = L + 5 := z; omega)).trans ((sb₄.2 _ (by intro z; have : L + 4 = L := z; omega)).trans e)
    have len := M.len
    have allI := M.pe
    clear M ns3 ns2 sb₅ sb₄ ns₄ ns e1 e2 A2 it ad₂ ic₁ ns₁ ad₁
    match ys, len, allI with
    | [y0, y1, y2, y3], _, allI =>
    obtain ⟨n0, v0, rfl⟩ := allI 0 y0 rfl
    obtain ⟨n1, v1, rfl⟩ := allI 1 y1 rfl
    obtain ⟨n2, v2, rfl⟩ := allI 2 y2 rfl
    obtain ⟨n3, v3, rfl⟩ := allI 3 y3 rfl
    -- row = [heaps[0] + 2, heaps[1] + 1, heaps[2] + 8, heaps[3] + 3]
    have hl5 := hp.isList
    have nmH : ∀ {Q : Value → Shared → Prop} {t : Nat} {p : Pos}, Q (.ref (L + 4)) ⟨h₅, g, d, t, os⟩ → wpAny (model prog w) A' (eval (.Name "heaps" p) (envX qual tAnswers.scope L fn cd [("script", L + 1)])) Q (fun _ _ => False) ⟨h₅, g, d, t, os⟩ :=
      fun q => wpAny_Name (wpAny_loadName_local rfl rfl ns5 (if_pos rfl) q) (by decide)
    dsimp only
    refine wpAny_execs_cons (wpAny_Assign_Name ?_ rfl)
    refine wpAny_List (wpAny_items_cons (wpAny_BinOp (Subscript_Constant (nmH (v_int fun _ _ => item_of hl5 (by decide) (by decide) rfl ?_)))))
    refine v_int fun _ _ => v_add fun pA _ => ?_
    refine wpAny_items_cons (wpAny_BinOp (Subscript_Constant (nmH (v_int fun _ _ => item_of hl5 (by decide) (by decide) rfl ?_))))
    refine v_int fun _ _ => v_add fun pB _ => ?_
    refine wpAny_items_cons (wpAny_BinOp (Subscript_Constant (nmH (v_int fun _ _ => item_of hl5 (by decide) (by decide) rfl ?_))))
    refine v_int fun _ _ => v_add fun pC _ => ?_
    refine wpAny_items_cons (wpAny_BinOp (Subscript_Constant (nmH (v_int fun _ _ => item_of hl5 (by decide) (by decide) rfl ?_))))
    refine v_int fun _ _ => v_add fun pD _ => wpAny_items_nil ⟨by show (4 : Nat) ≤ sizeLine; decide, ?_⟩
    have A6 := A5.trans (Add.push { cls := .type "list", data := .seq [Value.int (n0 + 2) pA, .int (n1 + 1) pB, .int (n2 + 8) pC, .int (n3 + 3) pD].toArray })
    have e5 : h₅.objs.size = L + 32 := by rw [A5.size, hL]
    have row : (h₅.push { cls := .type "list", data := .seq [Value.int (n0 + 2) pA, .int (n1 + 1) pB, .int (n2 + 8) pC, .int (n3 + 3) pD].toArray }).PlainList (L + 32) [Value.int (n0 + 2) pA, .int (n1 + 1) pB, .int (n2 + 8) pC, .int (n3 + 3) pD].toArray := ⟨0, by rw [← e5]; exact Heap.get?_push_size _ rfl⟩
    have ns6 := ns5.push { cls := .type "list", data := .seq [Value.int (n0 + 2) pA, .int (n1 + 1) pB, .int (n2 + 8) pC, .int (n3 + 3) pD].toArray }
    dsimp only
    rw [e5]
    generalize h₅.push { cls := .type "list", data := .seq [Value.int (n0 + 2) pA, .int (n1 + 1) pB, .int (n2 + 8) pC, .int (n3 + 3) pD].toArray } = h₆ at A6 row ns6 ⊢
    refine wpAny_storeName_local rfl ns6 (fun h₇ ns₇ sb₇ => ?_) rfl
    have A7 := A6.same sb₇ (Nat.le_of_eq hL)
    have row7 := row.at (h' := h₇) fun o e => (sb₇.2 _ (by intro z; have : L + 32 = L := z; omega)).trans e
    have e7 : h₇.objs.size = L + 33 := by rw [A7.size, hL]
    refine wpAny_execs_cons (wpAny_Return_some (comp_ret (cl := []) rfl rfl (by decide) ?_))
    refine wpAny_Name (wpAny_loadName_local rfl rfl ns₇ (if_pos rfl) ?_) (by decide)
    refine wpAny_pyIter_list row7.isList ?_
    have A8 := A7.trans (Add.push { cls := .type "list_iterator", data := .fields #[.ref (L + 32), .int 0 0] })
    have it8 : (h₇.push { cls := .type "list_iterator", data := .fields #[.ref (L + 32), .int 0 0] }).IsListIter (L + 33) (L + 32) 0 := ⟨_, by rw [← e7]; exact Heap.get?_push_size _ rfl, rfl, rfl⟩
    have row8 := row7.isList.push { cls := .type "list_iterator", data := .fields #[.ref (L + 32), .int 0 0] }
    dsimp only
    rw [e7]
    generalize h₇.push { cls := .type "list_iterator", data := .fields #[.ref (L + 32), .int 0 0] } = h₈ at A8 it8 row8 ⊢
    have e8 : h₈.objs.size = L + 34 := by rw [A8.size, hL]
    refine comp_adds (h₀ := L + 34) (e := 0) (fun _ y _ => ∃ n u, y = .int n u) (Iter.list hh' (L + 33) (L + 32) _ (by intro z; have : L + 32 = L + 33 := z; omega)) ⟨it8, row8⟩
      (by intro b hb; rw [e8]; rcases List.mem_cons.mp hb with rfl | hb; exact Nat.lt_succ_self _; rw [List.mem_singleton.mp hb]; exact Nat.lt_succ_of_lt (Nat.lt_succ_self _)) (by simp) (by show (4 : Nat) ≤ 1000; decide) (by decide) rfl rfl (fun _ _ _ _ _ x => x) e8.symm ?_ ?_
    · intro E Q i v C m h₃ t₃ hi3 pv ns hm kp3 _ hC k3
      have hv : ∃ n u, v = .int n u := by
        match i, hi3, pv with
        | 0, _, pv => exact ⟨_, _, (Option.some.inj pv).symm⟩
        | 1, _, pv => exact ⟨_, _, (Option.some.inj pv).symm⟩
        | 2, _, pv => exact ⟨_, _, (Option.some.inj pv).symm⟩
        | 3, _, pv => exact ⟨_, _, (Option.some.inj pv).symm⟩
      obtain ⟨n, u, rfl⟩ := hv
      have nx : ∀ {E : Value → Shared → Prop} {Q : Value → Shared → Prop} {t : Nat} {p : Pos} {cl : List (Str × Addr)} {sc : Scope} (_ : sc.kind = .function) (_ : sc.names.lookup ("x" : Str) = some .local), Q (.int n u) ⟨h₃, g, d, t, os⟩ →
          wpAny (model prog w) A' (eval (.Name "x" p) (compEnvC sc cl C (envX qual tAnswers.scope L fn cd [("script", L + 1)]))) Q E ⟨h₃, g, d, t, os⟩ :=
        fun hk hl q => wpAny_Name (wpAny_loadName_local hk (lookup_relabel_local hl) ns hm q) (by decide)
      refine wpAny_IfExp (wpAny_isTrue_Compare1 (wpAny_BinOp (nx rfl rfl (v_int fun _ _ => mod_int (by decide) (v_int fun _ _ => P.eq_int (wpAny_truthy_bool ?_))))))
      split
      · refine wpAny_BinOp (nx rfl rfl (v_int fun _ _ => floordiv_int (by decide) ?_))
        exact k3 _ _ _ .refl ⟨_, _, rfl⟩
      · refine wpAny_BinOp (wpAny_BinOp (nx rfl rfl (v_int fun _ _ => mod_int (by decide) (v_int fun _ _ => v_sub fun _ _ => ?_))))
        exact k3 _ _ _ .refl ⟨_, _, rfl⟩
    · intro h₃ t₃ ys m ns M
      refine ⟨m, ns, fun h₉ sb₉ => ?_⟩
      have M' := M.same (fun _ _ _ _ _ x => x) sb₉ rfl
      have len : ys.length = 4 := M'.len
      have A9 : Add 38 h h₉ := by
        refine ⟨fun b o e => M'.keep b o ?_ (A8.keep b o e), by rw [M'.size, e8, hL]; rfl⟩
        exact Nat.ne_of_lt (Nat.lt_of_lt_of_le (hL ▸ Heap.lt_size e) (Nat.le_add_right L 33))
      have pe := M'.pe
      have pl := M'.pl
      match ys, len, pe, pl with
      | [y0, y1, y2, y3], _, pe, pl =>
      obtain ⟨m0, w0, rfl⟩ := pe 0 y0 rfl
      obtain ⟨m1, w1, rfl⟩ := pe 1 y1 rfl
      obtain ⟨m2, w2, rfl⟩ := pe 2 y2 rfl
      obtain ⟨m3, w3, rfl⟩ := pe 3 y3 rfl
      exact k h₉ _ _ _ _ _ _ _ _ _ A9 pl
end
end Mine
end
section
open PySem PySem.W PyProof.Rows PySem.Calls Builtin Builtin.ObjectAttr
set_option Elab.async false
set_option maxRecDepth 100000
namespace Mine
section
variable {prog : Program} {w : World} {A : Around} {E : Value → Shared → Prop} {s : Shared} {h h' : Heap} {g : Array GenState} {d : Drawn} {t : Nat} {os : OsState} {B : Heap} {q : Addr} {l l' : List (Int × Int)} {h₀ : Heap} {L : Addr} {m m' : Str → Option Value}
/-- the pairs asked stand as a list at a -/
def PairsAt (B : Heap) (a : Addr) (l : List (Int × Int)) : Prop := ∃ vs n, B.get? a = some { cls := .type "list", data := .seq (List.toArray vs) n } ∧ Pairs B vs l
theorem PairsAt.reads {a : Addr} (x : PairsAt B a l) : Reads B (.ref a) (.list (l.map pairD)) [a] := by
  obtain ⟨vs, n, e, p⟩ := x
  exact Reads.list (as := []) e rfl rfl (by simpa using reads_pairs p)
/-- a row of the law's due stands at v -/
def DueAt (B : Heap) (v : Value) (r : Row) : Prop := ∃ a x n, v = .ref a ∧ B.get? a = some { cls := .type "list", data := .seq #[.bool true, .bool r.1, .ref x] n } ∧ PairsAt B x r.2
theorem DueAt.reads {v : Value} {r : Row} (x : DueAt B v r) : ∃ as, Reads B v (rowD r) as := by
  obtain ⟨a, x, n, rfl, e, p⟩ := x
  exact ⟨_, Reads.list e rfl rfl (.cons (.bool _) (.cons (.bool _) (.cons p.reads .nil)))⟩
theorem PairsAt.keeps {a : Addr} (x : PairsAt h a l) (k : ∀ b o, h.get? b = some o → h'.get? b = some o) : PairsAt h' a l := let ⟨vs, n, e, p⟩ := x; ⟨vs, n, k _ _ e, p.keeps fun b o _ e => k b o e⟩
theorem DueAt.keeps {v : Value} {r : Row} (x : DueAt h v r) (k : ∀ b o, h.get? b = some o → h'.get? b = some o) : DueAt h' v r := let ⟨a, x, n, e1, e, p⟩ := x; ⟨a, x, n, e1, k _ _ e, p.keeps k⟩
inductive DuesAt (B : Heap) : List Value → List Row → Prop
  | nil : DuesAt B [] []
  | cons {v r vs rs} : DueAt B v r → DuesAt B vs rs → DuesAt B (v :: vs) (r :: rs)
theorem DuesAt.reads : ∀ {vs rs}, DuesAt B vs rs → ∃ as, ReadsAll B vs (rs.map rowD) as
  | _, _, .nil => ⟨_, .nil⟩
  | _, _, .cons x z => let ⟨_, r⟩ := x.reads; let ⟨_, rs⟩ := z.reads; ⟨_, .cons r rs⟩
theorem DuesAt.keeps (k : ∀ b o, h.get? b = some o → h'.get? b = some o) : ∀ {vs rs}, DuesAt h vs rs → DuesAt h' vs rs
  | _, _, .nil => .nil
  | _, _, .cons x z => .cons (x.keeps k) (z.keeps k)
theorem DuesAt.list {vs : List Value} {rs : List Row} {a : Addr} {n : Nat} (x : DuesAt h vs rs) (e : h.get? a = some { cls := .type "list", data := .seq (List.toArray vs) n }) : ∃ as, Reads h (.ref a) (rowsD rs) as := by
  obtain ⟨as, r⟩ := x.reads
  exact ⟨_, Reads.list e rfl rfl (by simpa using r)⟩
/-- a row is laid: [True, e, x], the e told -/
theorem v_row {env : Env} {e1 e2 : Expr} {b : Bool} {a : Addr} {n : Nat} {p1 pos : Pos} {Q : Value → Shared → Prop} (F : Fm B q h₀ l L m h) (P : PairsAt h a l')
    (h1 : ∀ {Q : Value → Shared → Prop} {t : Nat}, (∀ t', Q (.bool b) ⟨h, g, d, t', os⟩) → wpAny (model prog w) A (eval e1 env) Q E ⟨h, g, d, t, os⟩) (h2 : ∀ {Q : Value → Shared → Prop} {t : Nat}, (∀ t', Q (.ref a) ⟨h, g, d, t', os⟩) → wpAny (model prog w) A (eval e2 env) Q E ⟨h, g, d, t, os⟩)
    (k : ∀ h' t' v, Fm B q h₀ l L m h' → (∀ b o, h.get? b = some o → h'.get? b = some o) → DueAt h' v (b, l') → Q v ⟨h', g, d, t', os⟩)
    (hs : starEach [.Constant (.bool true) n p1, e1, e2] env = [(false, eval (.Constant (.bool true) n p1) env), (false, eval e1 env), (false, eval e2 env)] := by rfl) :
    wpAny (model prog w) A (eval (.List [.Constant (.bool true) n p1, e1, e2] pos) env) Q E ⟨h, g, d, t, os⟩ := by
  refine wpAny_List ?_
  rw [hs, show backTo pos [(false, eval (.Constant (.bool true) n p1) env), (false, eval e1 env), (false, eval e2 env)] = [(false, eval (.Constant (.bool true) n p1) env), (false, eval e1 env), (false, eval e2 env)] from rfl]
  refine spliced_cons (wpAny_Constant_bool (spliced_cons (h1 fun _ => spliced_cons (h2 fun _ => spliced_nil ⟨by show (3 : Nat) ≤ sizeLine; decide, ?_⟩))))
  exact k _ _ _ (F.push _) (fun _ _ e => Heap.get?_push_of_some _ e) ⟨_, a, 0, rfl, Heap.get?_push_size h (o := { cls := .type "list", data := .seq [Value.bool true, .bool b, .ref a].toArray }) rfl, P.keeps fun _ _ e => Heap.get?_push_of_some _ e⟩
theorem dueh_binds {nm qual : Str} {cl : List (Str × Addr)} {doc pm cd ct a b c : Value} {an : Option Addr} :
    bindArgs (fnX nm qual tDueH.params tDueH.body tDueH.scope cl .none .none doc pm an cd ct) ⟨[a, b, c], []⟩ = (pure [(("less" : Str), a), (("same" : Str), b), (("asks" : Str), c)] : Sem _) := by kernel_rfl
def dueH (less same : Bool) (l : List (Int × Int)) : List Row := [(less, l), (!less && !same, l), (less || same, l), (!less, l)]
theorem dueh_does {fn a : Addr} {less same : Bool} {mg mb : Str → Option Value} (G : Glob B mg mb) (D : DefAt B tDueH fn) (P : PairsAt B a l') :
    DoesH 1 prog w B q (.ref fn) [.bool less, .bool same, .ref a] (fun h v => ∃ as, Reads h v (rowsD (dueH less same l')) as) := by
  intro A E Q h g d t os l R O hQ
  obtain ⟨nm, qual, od, osl, doc, pm, cd, ct, an, hf, hcd⟩ := D
  refine in_def R.calls O G.lim hf hcd dueh_binds (by decide) ["less", "same", "asks"] (by decide) (fun L h₁ k₁ F => ?_)
  have P1 := P.keeps F.ok.keep
  refine wpAny_execs_cons (wpAny_Return_some (wpAny_List ?_))
  -- [True, less, asks]
  refine wpAny_items_cons (v_row F P1 (fun k => n_local F rfl (k _)) (fun k => n_local F rfl (k _)) fun h₂ _ v1 F kp r1 => ?_)
  replace P1 := P1.keeps kp
  refine wpAny_items_cons (v_row F P1 (b := !less && !same) (fun k => ?_) (fun k => n_local F rfl (k _)) fun h₃ _ v2 F kp2 r2 => ?_)
  · refine BoolOp_and (wpAny_UnaryOp (n_local F rfl (not_bool (wpAny_truthy_bool ?_))))
    cases less with
    | true => exact k _
    | false => exact wpAny_UnaryOp (n_local F rfl (not_bool (k _)))
  replace P1 := P1.keeps kp2
  replace r1 := r1.keeps kp2
  refine wpAny_items_cons (v_row F P1 (b := less || same) (fun k => ?_) (fun k => n_local F rfl (k _)) fun h₄ _ v3 F kp3 r3 => ?_)
  · refine BoolOp_or (n_local F rfl (wpAny_truthy_bool ?_))
    cases less with
    | true => exact k _
    | false => exact n_local F rfl (k _)
  replace P1 := P1.keeps kp3
  replace r1 := r1.keeps kp3
  replace r2 := r2.keeps kp3
  refine wpAny_items_cons (v_row F P1 (b := !less) (fun k => wpAny_UnaryOp (n_local F rfl (not_bool (k _)))) (fun k => n_local F rfl (k _)) fun h₅ _ v4 F kp4 r4 => ?_)
  replace r1 := r1.keeps kp4
  replace r2 := r2.keeps kp4
  replace r3 := r3.keeps kp4
  refine wpAny_items_nil ⟨by show (4 : Nat) ≤ sizeLine; decide, ?_⟩
  have all : DuesAt h₅ [v1, v2, v3, v4] (dueH less same l') := .cons r1 (.cons r2 (.cons r3 (.cons r4 .nil)))
  exact hQ _ _ _ ((all.keeps fun _ _ e => Heap.get?_push_of_some _ e).list (Heap.get?_push_size h₅ (o := { cls := .type "list", data := .seq [v1, v2, v3, v4].toArray }) rfl)) (F.ok.push _) (F.but.trans (.push _))
end
end Mine
end
section
open PySem PySem.W PyProof.Rows PySem.Calls Builtin Builtin.ObjectAttr
set_option Elab.async false
set_option maxRecDepth 100000
namespace Mine
section
variable {prog : Program} {w : World} {A : Around} {E : Value → Shared → Prop} {s : Shared} {h h' : Heap} {g : Array GenState} {d : Drawn} {t : Nat} {os : OsState} {B : Heap} {q : Addr} {l l' : List (Int × Int)} {h₀ : Heap} {L : Addr} {m m' : Str → Option Value}
theorem v_row0 {env : Env} {e1 e2 : Expr} {b : Bool} {a : Addr} {n : Nat} {p1 pos : Pos} {Q : Value → Shared → Prop} (P : PairsAt h a l')
    (h1 : ∀ {Q : Value → Shared → Prop} {t : Nat}, (∀ t', Q (.bool b) ⟨h, g, d, t', os⟩) → wpAny (model prog w) A (eval e1 env) Q E ⟨h, g, d, t, os⟩) (h2 : ∀ {Q : Value → Shared → Prop} {t : Nat}, (∀ t', Q (.ref a) ⟨h, g, d, t', os⟩) → wpAny (model prog w) A (eval e2 env) Q E ⟨h, g, d, t, os⟩)
    (k : ∀ h' t' v, Add 1 h h' → DueAt h' v (b, l') → v = .ref h.objs.size → h'.get? h.objs.size = some { cls := .type "list", data := .seq #[.bool true, .bool b, .ref a] } → Q v ⟨h', g, d, t', os⟩)
    (hs : starEach [.Constant (.bool true) n p1, e1, e2] env = [(false, eval (.Constant (.bool true) n p1) env), (false, eval e1 env), (false, eval e2 env)] := by rfl) :
    wpAny (model prog w) A (eval (.List [.Constant (.bool true) n p1, e1, e2] pos) env) Q E ⟨h, g, d, t, os⟩ := by
  refine wpAny_List ?_
  rw [hs, show backTo pos [(false, eval (.Constant (.bool true) n p1) env), (false, eval e1 env), (false, eval e2 env)] = [(false, eval (.Constant (.bool true) n p1) env), (false, eval e1 env), (false, eval e2 env)] from rfl]
  refine spliced_cons (wpAny_Constant_bool (spliced_cons (h1 fun _ => spliced_cons (h2 fun _ => spliced_nil ⟨by show (3 : Nat) ≤ sizeLine; decide, ?_⟩))))
  exact k _ _ _ (Add.push _) ⟨_, a, 0, rfl, Heap.get?_push_size h (o := { cls := .type "list", data := .seq [Value.bool true, .bool b, .ref a].toArray }) rfl, P.keeps fun _ _ e => Heap.get?_push_of_some _ e⟩
    rfl (Heap.get?_push_size h (o := { cls := .type "list", data := .seq [Value.bool true, .bool b, .ref a].toArray }) rfl)
theorem Pairs.append : ∀ {vs us l k}, Pairs h vs l → Pairs h us k → Pairs h (vs ++ us) (l ++ k)
  | _, _, _, _, .nil, y => y
  | _, _, _, _, .cons x z, y => .cons x (z.append y)
theorem DuesAt.append : ∀ {vs us l k}, DuesAt h vs l → DuesAt h us k → DuesAt h (vs ++ us) (l ++ k)
  | _, _, _, _, .nil, y => y
  | _, _, _, _, .cons x z, y => .cons x (z.append y)
def isLT (o : Obj) : Bool := match o.cls, o.data with | .type n, .seq _ _ => n == "tuple" || n == "list" | _, _ => false
theorem isLT_tup {o : Obj} (h : isTup o = true) : isLT o = true := by
  unfold isTup at h; unfold isLT
  split at h
  · rename_i e1 e2; first | (rw [e1, e2]; simp only [h, Bool.true_or]) | simp only [h, Bool.true_or]
  · cases h
theorem PairsAt.lt {a : Addr} (x : PairsAt h a l) (k : ∀ b o, isLT o = true → h.get? b = some o → h'.get? b = some o) : PairsAt h' a l :=
  let ⟨vs, n, e, p⟩ := x; ⟨vs, n, k _ _ rfl e, p.keeps fun b o t e => k b o (isLT_tup t) e⟩
theorem DueAt.lt {v : Value} {r : Row} (x : DueAt h v r) (k : ∀ b o, isLT o = true → h.get? b = some o → h'.get? b = some o) : DueAt h' v r :=
  let ⟨a, x, n, e1, e, p⟩ := x; ⟨a, x, n, e1, k _ _ rfl e, p.lt k⟩
theorem DuesAt.lt (k : ∀ b o, isLT o = true → h.get? b = some o → h'.get? b = some o) : ∀ {vs rs}, DuesAt h vs rs → DuesAt h' vs rs
  | _, _, .nil => .nil
  | _, _, .cons x z => .cons (x.lt k) (z.lt k)
theorem notLT_ns {a : Addr} (n : h.Ns a m) {o : Obj} (e : h.get? a = some o) : isLT o = false := by
  obtain ⟨x, es, ep, g, hd, _⟩ := n
  obtain rfl := Option.some.inj (g.symm.trans e)
  unfold isLT; rw [hd]; split
  · rename_i d; cases d
  · rfl
theorem keepLT {a : Addr} (n : h.Ns a m) (s : Heap.SameBut a h h') : ∀ b o, isLT o = true → h.get? b = some o → h'.get? b = some o :=
  fun b o t e => (s.2 b (fun z => by subst z; rw [notLT_ns n e] at t; cases t)).trans e
theorem duek_binds {nm qual : Str} {cl : List (Str × Addr)} {doc pm cd ct a b : Value} {an : Option Addr} :
    bindArgs (fnX nm qual tDueK.params tDueK.body tDueK.scope cl .none .none doc pm an cd ct) ⟨[a, b], []⟩ = (pure [(("worth" : Str), a), (("asks" : Str), b)] : Sem _) := by kernel_rfl
def dueK (x : Int) (l : List (Int × Int)) : List Row :=
  let twice := if x < 0 then l else l ++ l
  [(decide (x < 0), l), (decide (x > 0), twice), (decide (x ≤ 0), twice), (decide (x ≥ 0), l)] ++ [(decide (x ≤ 0), l), (x == 0, l), (x != 0, l), (decide (x ≥ 0), l), (decide (x > 0), l)]
theorem duek_does {fn a : Addr} {x : Int} {u : Tok} {mg mb : Str → Option Value} (G : Glob B mg mb) (D : DefAt B tDueK fn) (P : PairsAt B a l') (few : l'.length ≤ 400) :
    DoesH 1 prog w B q (.ref fn) [.int x u, .ref a] (fun h v => ∃ as, Reads h v (rowsD (dueK x l')) as) := by
  intro A E Q h g d t os l R O hQ
  obtain ⟨nm, qual, od, osl, doc, pm, cd, ct, an, hf, hcd⟩ := D
  refine wpAny_call (codeAny_call_cells R.calls (O.keep _ _ hf) rfl (G.lim.keeps O.keep) (hcd.keeps O.keep) rfl duek_binds rfl (by
    intro x hx
    simp only [List.mem_cons, List.not_mem_nil, or_false] at hx
    rcases hx with rfl | rfl
    · exact .inl rfl
    · exact .inr ⟨rfl, rfl⟩) (fun s₁ X => ?_))
  have ns := X.toInCall.ns
  have kp := X.toInCall.keep
  have ic := X.cell "asks" (h.objs.size + 1) rfl
  obtain ⟨h₁, k₁, rfl⟩ := X.toInCall.same
  clear X
  dsimp only at ns kp ic
  have F := Fm.start (m := fun y => if y = "worth" then some (.int x u) else none) O ns kp
  have hc : h₁.IsCell (h.objs.size + 1) (some (.ref a)) := ic
  clear ic ns kp
  refine wpAny_mono (Q := fun fl s' => Q (match fl with | .ret v => v | _ => .none) s') (E := fun _ _ => False) ?_ (fun fl s' x => x) (fun _ _ x => x.elim)
  show wpAny _ (A.deeper (envX qual tDueK.scope h.objs.size fn cd [("asks", h.objs.size + 1)])) (execs tDueK.body (envX qual tDueK.scope h.objs.size fn cd [("asks", h.objs.size + 1)])) _ _ _
  have R' := R.deeper (env := envX qual tDueK.scope h.objs.size fn cd [("asks", h.objs.size + 1)])
  generalize A.deeper (envX qual tDueK.scope h.objs.size fn cd [("asks", h.objs.size + 1)]) = A' at R' ⊢
  generalize hL : h.objs.size = L at F hc ⊢
  show wpAny _ _ _ _ _ ⟨h₁, g, d, k₁, os⟩
  have nmA : ∀ {h' : Heap} {t : Nat} {p : Pos} {Q : Value → Shared → Prop}, (∀ b o, h₁.get? b = some o → b ≠ L → h'.get? b = some o) → Q (.ref a) ⟨h', g, d, t, os⟩ →
      wpAny (model prog w) A' (eval (.Name "asks" p) (envX qual tDueK.scope L fn cd [("asks", L + 1)])) Q (fun _ _ => False) ⟨h', g, d, t, os⟩ :=
    fun kp q => wpAny_Name (wpAny_loadName_cell (c := L + 1) rfl rfl rfl (let ⟨o, e, r⟩ := hc; ⟨o, kp _ _ e (by intro z; exact Nat.succ_ne_self _ z), r⟩) q) (by decide)
  obtain ⟨vs, na, ea, ps⟩ := id (P.keeps F.ok.keep)
  have lv : vs.length ≤ 400 := by rw [ps.length]; exact few
  -- the rest, once twice is told
  have rest : ∀ (h₃ : Heap) (k₃ : Nat) (m : Str → Option Value) (tv : Addr), Fm B q h l L m h₃ → m "worth" = some (.int x u) → m "twice" = some (.ref tv) → (∀ b o, h₁.get? b = some o → b ≠ L → h₃.get? b = some o) → PairsAt h₃ a l' → PairsAt h₃ tv (if x < 0 then l' else l' ++ l') →
      wpAny (model prog w) A' (execs (tDueK.body.drop 2) (envX qual tDueK.scope L fn cd [("asks", L + 1)])) (fun fl s' => Q (match fl with | .ret v => v | _ => .none) s') (fun _ _ => False) ⟨h₃, g, d, k₃, os⟩ := by
    intro h₃ k₃ m tv F hw ht kp Pa Pt
    refine wpAny_execs_cons (wpAny_Assign_Name (wpAny_List ?_) rfl)
    have cmp : ∀ {h₃ : Heap} {op : CmpOp} {n : Nat} {p1 p2 p3 : Pos} {Q : Value → Shared → Prop} {t : Nat}, Fm B q h l L m h₃ → isOrd op = true → (∀ t', Q (.bool (cmpZ op x)) ⟨h₃, g, d, t', os⟩) →
        wpAny (model prog w) A' (eval (.Compare (.Name "worth" p1) [op] [.Constant (.int 0) n p2] p3) (envX qual tDueK.scope L fn cd [("asks", L + 1)])) Q (fun _ _ => False) ⟨h₃, g, d, t, os⟩ :=
      fun F ho k => wpAny_Compare1 (n_local F hw (v_int fun _ _ => cmp_0 ho (k _)))
    refine wpAny_items_cons (v_row F Pa (b := decide (x < 0)) (fun k => cmp F rfl k) (fun k => nmA kp (k _)) fun h₄ _ v1 F kp1 r1 => ?_)
    replace Pa := Pa.keeps kp1
    replace Pt := Pt.keeps kp1
    replace kp : ∀ b o, h₁.get? b = some o → b ≠ L → h₄.get? b = some o := fun b o e hb => kp1 _ _ (kp b o e hb)
    refine wpAny_items_cons (v_row F Pt (b := decide (x > 0)) (fun k => cmp F rfl k) (fun k => n_local F ht (k _)) fun h₅ _ v2 F kp1 r2 => ?_)
    replace Pa := Pa.keeps kp1
    replace Pt := Pt.keeps kp1
    replace kp : ∀ b o, h₁.get? b = some o → b ≠ L → h₅.get? b = some o := fun b o e hb => kp1 _ _ (kp b o e hb)
    replace r1 := r1.keeps kp1
    refine wpAny_items_cons (v_row F Pt (b := decide (x ≤ 0)) (fun k => cmp F rfl k) (fun k => n_local F ht (k _)) fun h₆ _ v3 F kp1 r3 => ?_)
    replace Pa := Pa.keeps kp1
    replace Pt := Pt.keeps kp1
    replace kp : ∀ b o, h₁.get? b = some o → b ≠ L → h₆.get? b = some o := fun b o e hb => kp1 _ _ (kp b o e hb)
    replace r1 := r1.keeps kp1
    replace r2 := r2.keeps kp1
    refine wpAny_items_cons (v_row F Pa (b := decide (x ≥ 0)) (fun k => cmp F rfl k) (fun k => nmA kp (k _)) fun h₇ _ v4 F kp1 r4 => ?_)
    replace Pa := Pa.keeps kp1
    replace kp : ∀ b o, h₁.get? b = some o → b ≠ L → h₇.get? b = some o := fun b o e hb => kp1 _ _ (kp b o e hb)
    replace r1 := r1.keeps kp1
    replace r2 := r2.keeps kp1
    replace r3 := r3.keeps kp1
    refine wpAny_items_nil ⟨by show (4 : Nat) ≤ sizeLine; decide, ?_⟩
    have all : DuesAt h₇ [v1, v2, v3, v4] [(decide (x < 0), l'), (decide (x > 0), if x < 0 then l' else l' ++ l'), (decide (x ≤ 0), if x < 0 then l' else l' ++ l'), (decide (x ≥ 0), l')] := .cons r1 (.cons r2 (.cons r3 (.cons r4 .nil)))
    clear r1 r2 r3 r4 Pt ht
    have made := Heap.get?_push_size h₇ (o := { cls := .type "list", data := .seq [v1, v2, v3, v4].toArray }) rfl
    have F8 := F.push { cls := .type "list", data := .seq [v1, v2, v3, v4].toArray }
    have pu : ∀ b o, h₇.get? b = some o → (h₇.push { cls := .type "list", data := .seq [v1, v2, v3, v4].toArray }).get? b = some o := fun b o e => Heap.get?_push_of_some _ e
    replace all := all.keeps pu
    replace Pa := Pa.keeps pu
    replace kp : ∀ b o, h₁.get? b = some o → b ≠ L → (h₇.push { cls := .type "list", data := .seq [v1, v2, v3, v4].toArray }).get? b = some o := fun b o e hb => pu _ _ (kp b o e hb)
    have mL : h₇.objs.size ≠ L := fun e => Nat.lt_irrefl _ (e ▸ F.ns.lt)
    dsimp only
    generalize h₇.objs.size = M at made mL ⊢
    generalize h₇.push { cls := .type "list", data := .seq [v1, v2, v3, v4].toArray } = h₈ at made F8 all Pa kp ⊢
    clear pu F
    refine n_storeS F8 fun h₉ _ sb F => ?_
    have lt := keepLT F8.ns sb
    replace made := (sb.2 M mL).trans made
    replace all := all.lt lt
    replace Pa := Pa.lt lt
    replace kp : ∀ b o, h₁.get? b = some o → b ≠ L → h₉.get? b = some o := fun b o e hb => (sb.2 b hb).trans (kp b o e hb)
    clear lt sb F8 h₈
    -- return made + [...]
    refine wpAny_execs_cons (wpAny_Return_some (wpAny_BinOp (n_local F rfl (comp_ret (cl := [("asks", L + 1)]) rfl rfl (by decide) ?_))))
    have cmp9 : ∀ {op : CmpOp} {n : Nat} {p1 p2 p3 : Pos} {Q : Value → Shared → Prop} {t : Nat}, isOrd op = true → (∀ t', Q (.bool (cmpZ op x)) ⟨h₉, g, d, t', os⟩) →
        wpAny (model prog w) A' (eval (.Compare (.Name "worth" p1) [op] [.Constant (.int 0) n p2] p3) (envX qual tDueK.scope L fn cd [("asks", L + 1)])) Q (fun _ _ => False) ⟨h₉, g, d, t, os⟩ :=
      fun ho k => wpAny_Compare1 (n_local F hw (v_int fun _ _ => cmp_0 ho (k _)))
    refine wpAny_List (wpAny_items_cons (cmp9 rfl fun _ => wpAny_items_cons (cmp9 rfl fun _ => wpAny_items_cons (cmp9 rfl fun _ => wpAny_items_cons (cmp9 rfl fun _ => wpAny_items_cons (cmp9 rfl fun _ => wpAny_items_nil ⟨by show (5 : Nat) ≤ sizeLine; decide, ?_⟩))))))
    have sg := Heap.get?_push_size h₉ (o := { cls := .type "list", data := .seq [Value.bool (cmpZ .LtE x), .bool (cmpZ .Eq x), .bool (cmpZ .NotEq x), .bool (cmpZ .GtE x), .bool (cmpZ .Gt x)].toArray }) rfl
    have a1 : Add 1 h₉ _ := Add.push { cls := .type "list", data := .seq [Value.bool (cmpZ .LtE x), .bool (cmpZ .Eq x), .bool (cmpZ .NotEq x), .bool (cmpZ .GtE x), .bool (cmpZ .Gt x)].toArray }
    dsimp only
    generalize hN : h₉.objs.size = N at sg ⊢
    generalize h₉.push { cls := .type "list", data := .seq [Value.bool (cmpZ .LtE x), .bool (cmpZ .Eq x), .bool (cmpZ .NotEq x), .bool (cmpZ .GtE x), .bool (cmpZ .Gt x)].toArray } = hA at sg a1 ⊢
    have lA : hA.IsList N [Value.bool (cmpZ .LtE x), .bool (cmpZ .Eq x), .bool (cmpZ .NotEq x), .bool (cmpZ .GtE x), .bool (cmpZ .Gt x)].toArray := ⟨_, sg, rfl, _, rfl⟩
    refine wpAny_pyIter_list lA ?_
    have eA : hA.objs.size = N + 1 := by rw [a1.size, hN]
    have it := Heap.get?_push_size hA (o := { cls := .type "list_iterator", data := .fields #[.ref N, .int 0 0] }) rfl
    have a2 := a1.trans (Add.push (h := hA) { cls := .type "list_iterator", data := .fields #[.ref N, .int 0 0] })
    have lB := lA.push { cls := .type "list_iterator", data := .fields #[.ref N, .int 0 0] }
    dsimp only
    rw [eA] at it ⊢
    generalize hA.push { cls := .type "list_iterator", data := .fields #[.ref N, .int 0 0] } = hB at it a2 lB ⊢
    have eB : hB.objs.size = N + 2 := by rw [a2.size, hN]
    have nI : ∀ b o, isLT o = true → hB.get? b = some o → b ≠ N + 1 := fun b o t e z => by
      rw [z, it] at e; cases e; cases t
    replace Pa := Pa.keeps a2.keep
    refine comp_adds (h₀ := N + 2) (e := 1) (fun i y h => ∃ r ad, [cmpZ .LtE x, cmpZ .Eq x, cmpZ .NotEq x, cmpZ .GtE x, cmpZ .Gt x][i]? = some r ∧ y = .ref ad ∧ N + 4 ≤ ad ∧ h.get? ad = some { cls := .type "list", data := .seq #[.bool true, .bool r, .ref a] })
      (Iter.list R'.handled (N + 1) N _ (Nat.ne_of_lt (Nat.lt_succ_self _))) ⟨⟨_, it, rfl, rfl⟩, lB⟩
      (by intro b hb; rw [eB]; rcases List.mem_cons.mp hb with rfl | hb; exact Nat.lt_succ_self _; rw [List.mem_singleton.mp hb]; exact Nat.lt_succ_of_lt (Nat.lt_succ_self _)) (by simp) (by show (5 : Nat) ≤ 1000; decide) (by decide) rfl rfl
      (fun i y h h' k ⟨r, ad, e1, e2, e3, e4⟩ => ⟨r, ad, e1, e2, e3, k _ _ (Nat.ne_of_gt (Nat.lt_of_lt_of_le (Nat.lt_add_of_pos_right (k := 3) (by decide)) e3)) (Nat.ne_of_gt (Nat.lt_of_lt_of_le (Nat.lt_add_of_pos_right (k := 2) (by decide)) e3)) (Nat.ne_of_gt (Nat.lt_of_lt_of_le (Nat.lt_succ_self _) e3)) e4⟩) eB.symm ?_ ?_
    · intro E Q i v C m h₃ t₃ hi3 pv ns hm kp3 hCe hC k3
      have hv : ∃ r, [cmpZ .LtE x, cmpZ .Eq x, cmpZ .NotEq x, cmpZ .GtE x, cmpZ .Gt x][i]? = some r ∧ v = .bool r := by
        match i, hi3, pv with
        | 0, _, pv => exact ⟨_, rfl, (Option.some.inj pv).symm⟩
        | 1, _, pv => exact ⟨_, rfl, (Option.some.inj pv).symm⟩
        | 2, _, pv => exact ⟨_, rfl, (Option.some.inj pv).symm⟩
        | 3, _, pv => exact ⟨_, rfl, (Option.some.inj pv).symm⟩
        | 4, _, pv => exact ⟨_, rfl, (Option.some.inj pv).symm⟩
      obtain ⟨r, hr, rfl⟩ := hv
      have P3 := Pa.lt fun b o t e => kp3 b o (nI b o t e) e
      subst hCe
      have hc3 : h₃.IsCell (L + 1) (some (.ref a)) := by
        obtain ⟨o, e, r⟩ := hc
        have e9 := kp _ _ e (by intro z; exact Nat.succ_ne_self _ z)
        refine ⟨o, kp3 _ _ (fun z => ?_) (a2.keep _ _ e9), r⟩
        exact Nat.lt_irrefl _ (Nat.lt_of_lt_of_le (hN ▸ Heap.lt_size e9) (z ▸ Nat.le_succ N))
      refine v_row0 P3 (fun k => wpAny_Name (wpAny_loadName_local rfl rfl ns hm (k _)) (by decide)) (fun k => wpAny_Name (wpAny_loadName_cell (c := L + 1) rfl rfl rfl hc3 (k _)) (by decide)) fun h' t' v ad _ ev eo => ?_
      exact k3 _ _ _ ad ⟨r, _, hr, ev, hC, eo⟩
    · intro h₃ t₃ ys m ns M3
      refine ⟨m, ns, fun h₄ sb₄ => ?_⟩
      have hPe : ∀ (i : Nat) (y : Value) (h h' : Heap), (∀ b o, b ≠ N + 1 → b ≠ N + 2 → b ≠ N + 2 + 1 → h.get? b = some o → h'.get? b = some o) → (∃ (r : Bool) (ad : Addr), [cmpZ .LtE x, cmpZ .Eq x, cmpZ .NotEq x, cmpZ .GtE x, cmpZ .Gt x][i]? = some r ∧ y = Value.ref ad ∧ N + 4 ≤ ad ∧ h.get? ad = some { cls := .type "list", data := .seq #[.bool true, .bool r, .ref a] }) →
          ∃ (r : Bool) (ad : Addr), [cmpZ .LtE x, cmpZ .Eq x, cmpZ .NotEq x, cmpZ .GtE x, cmpZ .Gt x][i]? = some r ∧ y = Value.ref ad ∧ N + 4 ≤ ad ∧ h'.get? ad = some { cls := .type "list", data := .seq #[.bool true, .bool r, .ref a] } :=
        fun i y h h' k hx => let ⟨r, ad, e1, e2, e3, e4⟩ := hx; ⟨r, ad, e1, e2, e3, k _ _ (Nat.ne_of_gt (Nat.lt_of_lt_of_le (Nat.lt_add_of_pos_right (k := 3) (by decide)) e3)) (Nat.ne_of_gt (Nat.lt_of_lt_of_le (Nat.lt_add_of_pos_right (k := 2) (by decide)) e3)) (Nat.ne_of_gt (Nat.lt_of_lt_of_le (Nat.lt_succ_self _) e3)) e4⟩
      have M4 := M3.same hPe sb₄ rfl
      have kp4 : ∀ b o, h₉.get? b = some o → h₄.get? b = some o := fun b o e => M4.keep b o (Nat.ne_of_lt (Nat.lt_succ_of_lt (hN ▸ Heap.lt_size e))) (a2.keep _ _ e)
      have F4 := F.step (F.ok.keeps kp4) fun b o _ e => kp4 b o e
      have all4 := all.keeps kp4
      have made4 := kp4 _ _ made
      have P4 : PairsAt h₄ a l' := Pa.lt fun b o t e => M4.keep b o (nI b o t e) e
      have pe := M4.pe
      have pl := M4.pl
      have len : ys.length = 5 := M4.len
      clear M4 M3 hPe sb₄
      match ys, len, pe, pl with
      | [y0, y1, y2, y3, y4], _, pe, pl =>
      have one : ∀ (i : Nat) (y : Value) (r : Bool), [cmpZ .LtE x, cmpZ .Eq x, cmpZ .NotEq x, cmpZ .GtE x, cmpZ .Gt x][i]? = some r → [y0, y1, y2, y3, y4][i]? = some y → DueAt h₄ y (r, l') := by
        intro i y r hr hy
        obtain ⟨r', ad, e1, e2, e3, e4⟩ := pe i y hy
        rw [hr] at e1; cases e1
        exact ⟨ad, a, 0, e2, e4, P4⟩
      have all5 : DuesAt h₄ [y0, y1, y2, y3, y4] [(cmpZ .LtE x, l'), (cmpZ .Eq x, l'), (cmpZ .NotEq x, l'), (cmpZ .GtE x, l'), (cmpZ .Gt x, l')] :=
        .cons (one 0 _ _ rfl rfl) (.cons (one 1 _ _ rfl rfl) (.cons (one 2 _ _ rfl rfl) (.cons (one 3 _ _ rfl rfl) (.cons (one 4 _ _ rfl rfl) .nil))))
      obtain ⟨n4, e4⟩ := pl
      refine _root_.PySem.P.add_list made4 e4 ?_ (by show (4 + 5 : Nat) ≤ sizeLine; decide)
      refine hQ _ _ _ (((all4.append all5).keeps fun _ _ e => Heap.get?_push_of_some _ e).list (Heap.get?_push_size h₄ (o := { cls := .type "list", data := .seq ([v1, v2, v3, v4] ++ [y0, y1, y2, y3, y4]).toArray }) rfl)) (F4.ok.push _) (F4.but.trans (.push _))
  -- twice = asks + asks
  refine wpAny_execs_cons (wpAny_Assign_Name ?_ rfl)
  refine wpAny_BinOp (nmA (fun _ _ e _ => e) (nmA (fun _ _ e _ => e) (_root_.PySem.P.add_list ea ea ?_ ?_)))
  · have hT : h₁.objs.size ≠ L := fun e => Nat.lt_irrefl _ (e ▸ F.ns.lt)
    have tw : PairsAt (h₁.push { cls := .type "list", data := .seq (vs.toArray ++ vs.toArray) }) h₁.objs.size (l' ++ l') :=
      ⟨vs ++ vs, 0, by rw [Heap.get?_push_size _ rfl]; simp, (ps.append ps).keeps fun b o _ e => Heap.get?_push_of_some _ e⟩
    have Pa : PairsAt (h₁.push { cls := .type "list", data := .seq (vs.toArray ++ vs.toArray) }) a l' := PairsAt.keeps ⟨vs, na, ea, ps⟩ fun _ _ e => Heap.get?_push_of_some _ e
    have F2 := F.push { cls := .type "list", data := .seq (vs.toArray ++ vs.toArray) }
    have kp : ∀ b o, h₁.get? b = some o → b ≠ L → (h₁.push { cls := .type "list", data := .seq (vs.toArray ++ vs.toArray) }).get? b = some o := fun b o e _ => Heap.get?_push_of_some _ e
    dsimp only
    generalize h₁.objs.size = tv at hT tw ⊢
    generalize h₁.push { cls := .type "list", data := .seq (vs.toArray ++ vs.toArray) } = h₂ at tw Pa F2 kp ⊢
    refine n_storeS F2 fun h₃ _ sb F3 => ?_
    have lt := keepLT F2.ns sb
    replace tw := tw.lt lt
    replace Pa := Pa.lt lt
    replace kp : ∀ b o, h₁.get? b = some o → b ≠ L → h₃.get? b = some o := fun b o e hb => (sb.2 b hb).trans (kp b o e hb)
    refine wpAny_execs_cons (wpAny_If (wpAny_isTrue_Compare1 (n_local F3 rfl (v_int fun _ _ => _root_.PySem.P.lt_int (wpAny_truthy_bool ?_)))))
    by_cases hx : x < 0
    · rw [if_pos (by simpa using hx)]
      refine wpAny_execs_cons (wpAny_Assign_Name (nmA kp ?_) rfl)
      refine n_storeS F3 fun h₄ _ sb4 F4 => wpAny_execs_nil ?_
      have lt4 := keepLT F3.ns sb4
      refine rest h₄ _ _ a F4 rfl rfl (fun b o e hb => (sb4.2 b hb).trans (kp b o e hb)) (Pa.lt lt4) ?_
      rw [if_pos hx]; exact Pa.lt lt4
    · rw [if_neg (by simpa using hx)]
      refine wpAny_execs_nil ?_
      refine rest h₃ _ _ tv F3 rfl rfl kp Pa ?_
      rw [if_neg hx]; exact tw
  · show vs.toArray.size + vs.toArray.size ≤ sizeLine; rw [List.size_toArray, sizeLine_eq]; omega
end
end Mine
end
section
open PySem PySem.W PyProof.Rows PySem.Calls Builtin Builtin.ObjectAttr
set_option Elab.async false
set_option maxRecDepth 100000
namespace Mine
/-- the noughts that the law counts -/
def bitsOf (k : Nat) (r : Nat) : Int := preSum (fun d => ((k : Int).fdiv (2 ^ d)).fmod 2) r
def askOf (r : Nat) (p : Int × Int) (k : Nat) : Int × Int := if ((r : Int) - bitsOf k r).fmod 2 == 0 then p else (p.2, p.1)
def asksOf (r : Nat) (p : Int × Int) : List (Int × Int) := (List.range (2 ^ r)).map (askOf r p)
section
variable {prog : Program} {w : World} {A : Around} {E : Value → Shared → Prop} {s : Shared} {h h' : Heap} {g : Array GenState} {d : Drawn} {t : Nat} {os : OsState} {B : Heap} {q : Addr} {l l' : List (Int × Int)} {h₀ : Heap} {L : Addr} {m m' : Str → Option Value}
/-- what holds in the loop of _law_asks -/
structure Al (B h₀ : Heap) (q L D I : Addr) (l : List (Int × Int)) (n : Nat) (m : Str → Option Value) (k : Nat) (vs : List Value) (ps : List (Int × Int)) (h : Heap) : Prop where
  F : Fm B q h₀ l L m h
  row : h.PlainList D vs.toArray
  it : IsRangeIter h I ((k : Nat) : Int) ((n : Int) - ((k : Nat) : Int)) 1
  cell : ∃ v, h.IsCell (L + 1) v
  ps : Pairs h vs ps
structure Apart (B h₀ : Heap) (q L D I : Addr) : Prop where
  d : D ≠ L ∧ D ≠ q ∧ D ≠ L + 1 ∧ D ≠ I
  i : I ≠ L ∧ I ≠ q ∧ I ≠ L + 1
  c : L + 1 ≠ q
  b : B.get? D = none ∧ B.get? I = none ∧ B.get? (L + 1) = none
  f : h₀.get? D = none ∧ h₀.get? I = none ∧ h₀.get? (L + 1) = none
variable {D I : Addr} {n k : Nat} {vs : List Value} {ps : List (Int × Int)}
theorem Al.adds (X : Al B h₀ q L D I l n m k vs ps h) (kp : ∀ b o, h.get? b = some o → h'.get? b = some o) : Al B h₀ q L D I l n m k vs ps h' :=
  ⟨X.F.step (X.F.ok.keeps kp) fun b o _ e => kp b o e, X.row.at fun o e => kp _ _ e, kp _ _ X.it, let ⟨v, o, e, r⟩ := X.cell; ⟨v, o, kp _ _ e, r⟩, X.ps.keeps fun b o _ e => kp b o e⟩
theorem Al.store (X : Al B h₀ q L D I l n m k vs ps h) (Y : Apart B h₀ q L D I) (sb : Heap.SameBut L h h') (F : Fm B q h₀ l L m' h') : Al B h₀ q L D I l n m' k vs ps h' :=
  ⟨F, X.row.at fun o e => (sb.2 _ Y.d.1).trans e, (sb.2 _ Y.i.1).trans X.it, let ⟨v, o, e, r⟩ := X.cell; ⟨v, o, (sb.2 _ (Nat.succ_ne_self L)).trans e, r⟩,
    X.ps.keeps fun b o t e => (sb.2 b (fun z => by subst z; rw [X.F.notTup e] at t; cases t)).trans e⟩
theorem Al.cellS (X : Al B h₀ q L D I l n m k vs ps h) (Y : Apart B h₀ q L D I) {v : Option Value} (sb : Heap.SameBut (L + 1) h h') (ic : h'.IsCell (L + 1) v) : Al B h₀ q L D I l n m k vs ps h' := by
  have nt : ∀ o, h.get? (L + 1) = some o → isTup o = false := by
    intro o e
    obtain ⟨v, o', e', hd⟩ := X.cell
    obtain rfl := Option.some.inj (e'.symm.trans e)
    unfold isTup; rw [hd]; split
    · rename_i d; cases d
    · rfl
  exact ⟨X.F.other sb Y.b.2.2 Y.c (Nat.succ_ne_self L) Y.f.2.2 nt, X.row.at fun o e => (sb.2 _ Y.d.2.2.1).trans e, (sb.2 _ Y.i.2.2).trans X.it, ⟨v, ic⟩,
    X.ps.keeps fun b o t e => (sb.2 b (fun z => by subst z; rw [nt _ e] at t; cases t)).trans e⟩
theorem Al.next (X : Al B h₀ q L D I l n m k vs ps h) (Y : Apart B h₀ q L D I) {k' : Nat} (sb : Heap.SameBut I h h') (it : IsRangeIter h' I ((k' : Nat) : Int) ((n : Int) - ((k' : Nat) : Int)) 1) : Al B h₀ q L D I l n m k' vs ps h' := by
  have nt : ∀ o, h.get? I = some o → isTup o = false := fun o e => by
    obtain rfl := Option.some.inj (X.it.symm.trans e); rfl
  exact ⟨X.F.other sb Y.b.2.1 Y.i.2.1 Y.i.1 Y.f.2.1 nt, X.row.at fun o e => (sb.2 _ Y.d.2.2.2).trans e, it, let ⟨v, o, e, r⟩ := X.cell; ⟨v, o, (sb.2 _ (Ne.symm Y.i.2.2)).trans e, r⟩,
    X.ps.keeps fun b o t e => (sb.2 b (fun z => by subst z; rw [nt _ e] at t; cases t)).trans e⟩
theorem Al.grow (X : Al B h₀ q L D I l n m k vs ps h) (Y : Apart B h₀ q L D I) {v : Value} {p : Int × Int} (sb : Heap.SameBut D h h') (pl : h'.PlainList D (vs.toArray.push v)) (x : IsPair h v p) : Al B h₀ q L D I l n m k (vs ++ [v]) (ps ++ [p]) h' := by
  have nt : ∀ o, h.get? D = some o → isTup o = false := fun o e => by
    obtain ⟨_, g⟩ := X.row
    obtain rfl := Option.some.inj (g.symm.trans e); rfl
  have kp : ∀ b o, isTup o = true → h.get? b = some o → h'.get? b = some o := fun b o t e => (sb.2 b (fun z => by subst z; rw [nt _ e] at t; cases t)).trans e
  exact ⟨X.F.other sb Y.b.1 Y.d.2.1 Y.d.1 Y.f.1 nt, by rw [List.push_toArray] at pl; exact pl, (sb.2 _ (Ne.symm Y.d.2.2.2)).trans X.it, let ⟨v, o, e, r⟩ := X.cell; ⟨v, o, (sb.2 _ (Ne.symm Y.d.2.2.1)).trans e, r⟩, (X.ps.keeps kp).snoc (x.keeps kp)⟩
theorem Al.last (X : Al B h₀ q L D I l n m k vs ps h) (Y : Apart B h₀ q L D I) (eb : Heap.ExtBut I h h') : Fm B q h₀ l L m h' ∧ h'.PlainList D vs.toArray ∧ Pairs h' vs ps := by
  have nt : ∀ o, h.get? I = some o → isTup o = false := fun o e => by
    obtain rfl := Option.some.inj (X.it.symm.trans e); rfl
  exact ⟨X.F.ext eb Y.b.2.1 Y.i.2.1 Y.i.1 Y.f.2.1 nt, X.row.at fun o e => eb _ _ Y.d.2.2.2 e, X.ps.keeps fun b o t e => eb b _ (fun z => by subst z; rw [nt _ e] at t; cases t) e⟩
theorem asks_binds {nm qual : Str} {cl : List (Str × Addr)} {doc pm cd ct a b c : Value} {an : Option Addr} :
    bindArgs (fnX nm qual tAsks.params tAsks.body tAsks.scope cl .none .none doc pm an cd ct) ⟨[a, b, c], []⟩ = (pure [(("i" : Str), a), (("j" : Str), b), (("rounds" : Str), c)] : Sem _) := by kernel_rfl
theorem asks_does {fn : Addr} {a b : Int} {r : Nat} {ua ub ur : Tok} {mg mb : Str → Option Value} (G : Glob B mg mb) (N : Names2 mg mb) (D : DefAt B tAsks fn) (hr : r ≤ 2) :
    DoesH 1 prog w B q (.ref fn) [.int a ua, .int b ub, .int r ur] (fun h v => ∃ x, v = .ref x ∧ PairsAt h x (asksOf r (a, b)) ∧ x ≠ q) := by
  intro A E Q h g d t os l R O hQ
  obtain ⟨nm, qual, od, osl, doc, pm, cd, ct, an, hf, hcd⟩ := D
  refine wpAny_call (codeAny_call_cells R.calls (O.keep _ _ hf) rfl (G.lim.keeps O.keep) (hcd.keeps O.keep) rfl asks_binds rfl (by
    intro x hx
    simp only [List.mem_cons, List.not_mem_nil, or_false] at hx
    rcases hx with rfl | rfl | rfl
    · exact .inl rfl
    · exact .inl rfl
    · exact .inl rfl) (fun s₁ X => ?_))
  have ns := X.toInCall.ns
  have kp := X.toInCall.keep
  have ic := X.cell "k" (h.objs.size + 1) rfl
  obtain ⟨h₁, k₁, rfl⟩ := X.toInCall.same
  clear X
  dsimp only at ns kp ic
  have F := Fm.start (m := fun y => if y = "rounds" then some (.int r ur) else if y = "j" then some (.int b ub) else if y = "i" then some (.int a ua) else none) O ns kp
  have hc : h₁.IsCell (h.objs.size + 1) none := ic
  clear ic ns kp
  refine wpAny_mono (Q := fun fl s' => Q (match fl with | .ret v => v | _ => .none) s') (E := fun _ _ => False) ?_ (fun fl s' x => x) (fun _ _ x => x.elim)
  show wpAny _ (A.deeper (envX qual tAsks.scope h.objs.size fn cd [("k", h.objs.size + 1)])) (execs tAsks.body (envX qual tAsks.scope h.objs.size fn cd [("k", h.objs.size + 1)])) _ _ _
  have R' := R.deeper (env := envX qual tAsks.scope h.objs.size fn cd [("k", h.objs.size + 1)])
  generalize A.deeper (envX qual tAsks.scope h.objs.size fn cd [("k", h.objs.size + 1)]) = A' at R' ⊢
  have cq : h.objs.size + 1 ≠ q := by
    intro z
    obtain ⟨_, ⟨_, gq⟩, _⟩ := O.asked
    exact Nat.lt_irrefl _ (Nat.lt_of_lt_of_le (z ▸ Heap.lt_size gq) (Nat.le_succ _))
  have bC : B.get? (h.objs.size + 1) = none := O.none_of (Nat.le_succ _)
  have fC : h.get? (h.objs.size + 1) = none := by
    cases e : h.get? (h.objs.size + 1) with
    | none => rfl
    | some o => exact absurd (Heap.lt_size e) (Nat.not_lt_of_le (Nat.le_succ _))
  generalize hL : h.objs.size = L at F hc cq bC fC ⊢
  show wpAny _ _ _ _ _ ⟨h₁, g, d, k₁, os⟩
  -- row = []
  refine wpAny_execs_cons (wpAny_Assign_Name (wpAny_List (wpAny_items_nil ⟨by decide, ?_⟩)) rfl)
  have hD : h₁.objs.size ≠ L := fun e => Nat.lt_irrefl _ (e ▸ F.ns.lt)
  have hDq : h₁.objs.size ≠ q := fun e => Nat.lt_irrefl _ (e ▸ F.qlt)
  have hDc : h₁.objs.size ≠ L + 1 := fun e => Nat.lt_irrefl _ (e ▸ hc.lt)
  have bD := F.ok.none_of (Nat.le_refl _)
  have fD := F.none_of (Nat.le_refl _)
  have cL : L + 1 ≠ L := Nat.succ_ne_self L
  refine n_storeS (F.push _) fun h₂ k₂ sb F => ?_
  have seen : h₂.PlainList h₁.objs.size (List.toArray []) := ⟨0, (sb.2 _ hD).trans (Heap.get?_push_size _ rfl)⟩
  replace hc : h₂.IsCell (L + 1) none := let ⟨o, e, r⟩ := hc; ⟨o, (sb.2 _ cL).trans (Heap.get?_push_of_some _ e), r⟩
  generalize h₁.objs.size = D at hD hDq hDc bD fD seen F ⊢
  clear sb
  -- for k in range(2 ** rounds)
  refine wpAny_execs_cons (wpAny_For ?_)
  refine Call_name1 rfl (n_built F G N.range.1 N.range.2 (callWith_type1 (wpAny_BinOp (v_int fun _ _ => n_local F rfl (pow_int_small (by omega) (by omega) (by decide) ?_)))))
  rw [show ((2 : Int) ^ ((r : Int).toNat)) = ((2 ^ r : Nat) : Int) by rw [Int.toNat_natCast]; simp]
  refine range_it (by have hr' : r = 0 ∨ r = 1 ∨ r = 2 := (by omega); rcases hr' with rfl | rfl | rfl <;> decide) fun h₃ t₃ ad it => ?_
  have hI : h₂.objs.size + 1 ≠ L ∧ h₂.objs.size + 1 ≠ q ∧ h₂.objs.size + 1 ≠ L + 1 := by
    refine ⟨fun z => ?_, fun z => ?_, fun z => ?_⟩
    · exact Nat.not_succ_le_self _ (Nat.le_of_lt (z ▸ F.ns.lt : h₂.objs.size + 1 < h₂.objs.size))
    · exact Nat.not_succ_le_self _ (Nat.le_of_lt (z ▸ F.qlt : h₂.objs.size + 1 < h₂.objs.size))
    · exact Nat.not_succ_le_self _ (Nat.le_of_lt (z ▸ hc.lt : h₂.objs.size + 1 < h₂.objs.size))
  have Y : Apart B h q L D (h₂.objs.size + 1) := ⟨⟨hD, hDq, hDc, fun z => by
      obtain ⟨_, g⟩ := seen
      exact Nat.not_succ_le_self _ (Nat.le_of_lt (z ▸ Heap.lt_size g : h₂.objs.size + 1 < h₂.objs.size))⟩, hI, cq, ⟨bD, F.ok.none_of (Nat.le_succ _), bC⟩, ⟨fD, F.none_of (Nat.le_succ _), fC⟩⟩
  generalize h₂.objs.size + 1 = I at it Y ⊢
  have X : Al B h q L D I l (2 ^ r) _ 0 [] [] h₃ := ⟨F.step (F.ok.keeps ad.keep) fun b o _ e => ad.keep b o e, seen.at fun _ e => ad.keep _ _ e, it, ⟨_, hc.keeps ad.keep⟩, .nil⟩
  have XH : ∃ m, Al B h q L D I l (2 ^ r) m 0 [] [] h₃ ∧ (m "i" = some (.int a ua) ∧ m "j" = some (.int b ub) ∧ m "rounds" = some (.int r ur) ∧ m "row" = some (.ref D)) := ⟨_, X, rfl, rfl, rfl, rfl⟩
  clear X it hI hc ad seen fC bC hD hDq hDc bD fD cq cL F
  refine codeAny_forLoop (fun n' s' => ∃ k vs m h' t', s' = ⟨h', g, d, t', os⟩ ∧ n' = 2 ^ r - k ∧ k ≤ 2 ^ r ∧ Al B h q L D I l (2 ^ r) m k vs ((List.range k).map (askOf r (a, b))) h' ∧ (m "i" = some (.int a ua) ∧ m "j" = some (.int b ub) ∧ m "rounds" = some (.int r ur) ∧ m "row" = some (.ref D))) ?_ (2 ^ r)
    (by obtain ⟨m, X, M⟩ := XH; exact ⟨0, [], m, _, _, rfl, rfl, Nat.zero_le _, X, M⟩)
  rintro n' s' ⟨k, vs, m, h', t', rfl, rfl, hk, X, mi, mj, mr, mrow⟩
  by_cases hlt : k < 2 ^ r
  · refine wpAny_pyNext_range_item X.it (by omega) fun h₄ it4 sb4 => ?_
    replace X := X.next Y (k' := k + 1) sb4 (by
      have e1 : ((k + 1 : Nat) : Int) = (k : Int) + 1 := by omega
      have e2 : ((2 ^ r : Nat) : Int) - ((k + 1 : Nat) : Int) = ((2 ^ r : Nat) : Int) - (k : Int) - 1 := by omega
      rw [e2, e1]; exact it4)
    clear sb4 it4
    dsimp only
    obtain ⟨v0, ic0⟩ := X.cell
    refine wpAny_assign_Name (wpAny_storeName_cell (c := L + 1) rfl rfl rfl ic0 fun h₅ ic5 sb5 => ?_)
    replace X := X.cellS Y sb5 ic5
    -- noughts = rounds - sum([k // 2 ** d % 2 for d in range(rounds)])
    refine wpAny_execs_cons (wpAny_Assign_Name (wpAny_BinOp (n_local X.F mr ?_)) rfl)
    obtain ⟨ku, hku⟩ : ∃ ku, h₅.IsCell (L + 1) (some (.int (k : Int) ku)) := ⟨_, ic5⟩
    refine Call_name1 rfl (n_built X.F G N.sum.1 N.sum.2 (callWith_builtin1 (comp_ret (cl := [("k", L + 1)]) rfl rfl (by decide) ?_)))
    refine Call_name1 rfl (n_built X.F G N.range.1 N.range.2 (callWith_type1 (n_local X.F mr ?_)))
    refine range_it (n := r) (by omega) fun h₆ t₆ ad6 it6 => ?_
    have lt5 : ∀ b o, h₅.get? b = some o → b ≠ h₅.objs.size + 1 := fun b o e => Nat.ne_of_lt (Nat.lt_succ_of_lt (Heap.lt_size e))
    have eI : h₅.objs.size + 1 < h₆.objs.size := by rw [ad6.size]; exact Nat.lt_succ_self _
    generalize h₅.objs.size + 1 = I2 at it6 lt5 eI ⊢
    refine comp_adds (h₀ := h₆.objs.size) (e := 0) (fun dd y _ => ∃ u, y = .int (((k : Int).fdiv (2 ^ dd)).fmod 2) u) (Iter.range R'.handled I2 r) it6 (by intro b hb; rw [List.mem_singleton.mp hb]; exact eI) (by simp) (by omega) (by decide) rfl rfl (fun _ _ _ _ _ x => x) rfl ?_ ?_
    · intro E Q i v C m3 h₃ t₃ hi3 pv ns hm kp3 _ hC k3
      obtain ⟨u, rfl⟩ := pv
      have hk3 : h₃.IsCell (L + 1) (some (.int (k : Int) ku)) := let ⟨o, e, r⟩ := hku; ⟨o, kp3 _ _ (lt5 _ _ e) (ad6.keep _ _ e), r⟩
      refine wpAny_BinOp (wpAny_BinOp (wpAny_Name (wpAny_loadName_cell (c := L + 1) rfl rfl rfl hk3 ?_) (by decide)))
      refine wpAny_BinOp (v_int fun _ _ => wpAny_Name (wpAny_loadName_local rfl rfl ns hm ?_) (by decide))
      refine pow_int_small (by omega) (by omega) (by decide) ?_
      rw [Int.toNat_natCast]
      refine floordiv_int (Int.ne_of_gt (Int.pow_pos (by decide))) ?_ (.inl (PyProof.noPylong_small (by rcases (show i = 0 ∨ i = 1 by omega) with rfl | rfl <;> decide)))
      exact v_int fun _ _ => mod_int (by decide) (k3 _ _ _ .refl ⟨_, rfl⟩)
    · intro h₇ t₇ ys m7 ns7 M7
      refine ⟨m7, ns7, fun h₈ sb8 => ?_⟩
      have M8 := M7.same (fun _ _ _ _ _ x => x) sb8 rfl
      have kp8 : ∀ b o, h₅.get? b = some o → h₈.get? b = some o := fun b o e => M8.keep b o (lt5 b o e) (ad6.keep b o e)
      replace X := X.adds kp8
      refine sum_val R'.handled M8.pl.isList (fun dd => ((k : Int).fdiv (2 ^ dd)).fmod 2) (fun i v e => M8.pe i v (by simpa using e)) fun h₉ u9 t₉ ad9 => ?_
      replace X := X.adds ad9.keep
      rw [List.size_toArray, M8.len, show preSum (fun dd => ((k : Int).fdiv (2 ^ dd)).fmod 2) r = bitsOf k r from rfl]
      refine v_sub fun u10 t10 => ?_
      refine n_storeS X.F fun h₁₀ _ sb10 F10 => ?_
      replace X := X.store Y sb10 F10
      -- row.append((i, j) if noughts % 2 == 0 else (j, i))
      refine wpAny_execs_cons (wpAny_Expr ?_ rfl rfl)
      obtain ⟨nD, hD⟩ := id X.row
      refine wpAny_Call_method1_late rfl rfl rfl (n_local X.F mrow ⟨"list", "list.append", PySem.F.plainAttrs_list, slot_list_append, type_list_append, ⟨_, hD, rfl⟩, fun a e => ⟨_, by cases e; exact hD, rfl⟩, callWith_builtin rfl (evalArgs_plain (spliced_cons ?_))⟩)
      have ask : askOf r (a, b) k = if ((r : Int) - bitsOf k r).fmod 2 == 0 then (a, b) else (b, a) := rfl
      have few : vs.toArray.size ≤ sizeLine := by
        rw [List.size_toArray, X.ps.length, List.length_map, List.length_range, sizeLine_eq]
        have : 2 ^ r ≤ 4 := by rcases (show r = 0 ∨ r = 1 ∨ r = 2 by omega) with rfl | rfl | rfl <;> decide
        omega
      have grown : ∀ (mm : Str → Option Value) (p : Int × Int) (h11 h12 : Heap) (tk : Nat) (v : Value), (mm "i" = some (.int a ua) ∧ mm "j" = some (.int b ub) ∧ mm "rounds" = some (.int r ur) ∧ mm "row" = some (.ref D)) → p = askOf r (a, b) k → Al B h q L D I l (2 ^ r) mm (k + 1) vs ((List.range k).map (askOf r (a, b))) h11 → IsPair h11 v p → h12.PlainList D (vs.toArray.push v) → Heap.SameBut D h11 h12 →
          ∃ m, m < 2 ^ r - k ∧ ∃ k' vs m' h' t', (⟨h12, g, d, tk, os⟩ : Shared) = ⟨h', g, d, t', os⟩ ∧ m = 2 ^ r - k' ∧ k' ≤ 2 ^ r ∧ Al B h q L D I l (2 ^ r) m' k' vs ((List.range k').map (askOf r (a, b))) h' ∧ (m' "i" = some (.int a ua) ∧ m' "j" = some (.int b ub) ∧ m' "rounds" = some (.int r ur) ∧ m' "row" = some (.ref D)) := by
        intro mm p h11 h12 tk v M hp X ip pl sb
        have X2 := X.grow Y sb pl ip
        rw [hp, show (List.range k).map (askOf r (a, b)) ++ [askOf r (a, b) k] = (List.range (k + 1)).map (askOf r (a, b)) by rw [List.range_succ, List.map_append]; rfl] at X2
        exact ⟨2 ^ r - (k + 1), by omega, k + 1, _, _, h12, tk, rfl, rfl, hlt, X2, M⟩
      refine wpAny_IfExp (wpAny_isTrue_Compare1 (wpAny_BinOp (n_local X.F rfl (v_int fun _ _ => mod_int (by decide) (v_int fun _ _ => P.eq_int (wpAny_truthy_bool ?_))))))
      by_cases hz : (((r : Int) - bitsOf k r).fmod 2 == 0) = true
      · rw [if_pos hz]
        refine wpAny_Tuple (wpAny_items_cons (n_local X.F mi (wpAny_items_cons (n_local X.F mj (wpAny_items_nil ⟨by show (2 : Nat) ≤ sizeLine; decide, spliced_nil ?_⟩)))))
        have X2 := X.adds (h' := h₁₀.push (pairObj a b ua ub)) fun _ _ e => Heap.get?_push_of_some _ e
        refine wpAny_list_append_plain X2.row (fun h12 pl sb => wpAny_execs_nil (grown (fun y => if y = "noughts" then some (.int ((r : Int) - bitsOf k r) u10) else m y) (a, b) _ h12 _ _ ⟨mi, mj, mr, mrow⟩ (by rw [ask, if_pos hz]) X2 ⟨_, ua, ub, rfl, Heap.get?_push_size _ rfl⟩ pl sb)) few
      · rw [if_neg hz]
        refine wpAny_Tuple (wpAny_items_cons (n_local X.F mj (wpAny_items_cons (n_local X.F mi (wpAny_items_nil ⟨by show (2 : Nat) ≤ sizeLine; decide, spliced_nil ?_⟩)))))
        have X2 := X.adds (h' := h₁₀.push (pairObj b a ub ua)) fun _ _ e => Heap.get?_push_of_some _ e
        refine wpAny_list_append_plain X2.row (fun h12 pl sb => wpAny_execs_nil (grown (fun y => if y = "noughts" then some (.int ((r : Int) - bitsOf k r) u10) else m y) (b, a) _ h12 _ _ ⟨mi, mj, mr, mrow⟩ (by rw [ask, if_neg hz]) X2 ⟨_, ub, ua, rfl, Heap.get?_push_size _ rfl⟩ pl sb)) few
  · obtain rfl : k = 2 ^ r := by omega
    refine wpAny_pyNext_range_end R'.handled X.it (by omega) (fun h' eb => ?_)
    obtain ⟨F, ⟨nD, row⟩, ps⟩ := X.last Y eb
    refine wpAny_execs_nil ?_
    refine wpAny_execs_cons (wpAny_Return_some (n_local F mrow ?_))
    exact hQ _ _ _ ⟨D, rfl, ⟨vs, nD, row, ps⟩, Y.d.2.1⟩ F.ok F.but
end
end Mine
end
section
open PySem PySem.W PyProof.Rows PySem.Calls Builtin Builtin.ObjectAttr
set_option Elab.async false
set_option maxRecDepth 100000
namespace Mine
theorem among_append (pos : Pos) (a b : Int) (c : Value) (l : List Value) (h : TriplesOk l) : codeAmong pos (l ++ [rawInt a, rawInt b, c]) = (codeAmong pos l).or (if a == pos.line && b == pos.col then some c else none) := by
  fun_induction TriplesOk l with
  | case1 => simp [codeAmong, rawInt]
  | case2 a' t b' u x rest ih =>
    simp only [List.cons_append, codeAmong]
    split
    · rfl
    · exact ih h
  | case3 l h1 h2 => exact h.elim
theorem tri_no {l : List Value} (h : TriplesOk l) {q : Str} {t : Tok} : l[1]? ≠ some (.str q t) := by
  intro e
  match l, h, e with
  | [], _, e => cases e
  | .int _ _ :: .int _ _ :: _, _, e => cases e
/-- a code table, all of whose codes are of one name -/
def TabAll (h : Heap) (P : Addr) (qual : Str) (ps : Array Value) : Prop :=
  h.get? P = some (tabObj ps) ∧ TriplesOk ps.toList ∧ ∀ pos, codeAmong pos ps.toList = none ∨ ∃ c', codeAmong pos ps.toList = some (.ref c') ∧ h.CodeRec (.ref c') qual
theorem TabAll.empty {h : Heap} {P : Addr} {qual : Str} (e : h.get? P = some (tabObj #[])) : TabAll h P qual #[] := ⟨e, trivial, fun _ => .inl rfl⟩
theorem TabAll.keeps {h h' : Heap} {P : Addr} {qual : Str} {ps : Array Value} (x : TabAll h P qual ps) (k : ∀ b o, h.get? b = some o → h'.get? b = some o) : TabAll h' P qual ps :=
  ⟨k _ _ x.1, x.2.1, fun pos => (x.2.2 pos).imp id fun ⟨c, e, r⟩ => ⟨c, e, r.keeps k⟩⟩
theorem TabAll.but {h h' : Heap} {P q : Addr} {qual : Str} {ps : Array Value} {items : Array Value} {n : Nat} (x : TabAll h P qual ps) (hq : h.get? q = some { cls := .type "list", data := .seq items n }) (k : ∀ b o, b ≠ q → h.get? b = some o → h'.get? b = some o) : TabAll h' P qual ps := by
  refine ⟨k _ _ (fun z => by subst z; rw [x.1] at hq; cases hq) x.1, x.2.1, fun pos => (x.2.2 pos).imp id fun ⟨c, e, c1, o, vs, t, e1, e2, e3, e4⟩ => ⟨c, e, c1, o, vs, t, e1, k _ _ (fun z => by subst z; rw [e2] at hq; cases hq; cases e3) e2, e3, e4⟩⟩
section
variable {prog : Program} {w : World} {A : Around} {E : Value → Shared → Prop} {s : Shared} {h h' : Heap} {g : Array GenState} {d : Drawn} {t : Nat} {os : OsState}
/-- what a def that makes lambdas needs of the heap -/
structure Maker (B : Heap) (mg : Str → Option Value) (c P : Addr) : Prop where
  hd : CodeHd B c P
  ns : B.Ns mainGlobals mg
  gP : mainGlobals ≠ P
  bi : ∃ bm ob, mg "__builtins__" = some (.ref bm) ∧ bm ≠ builtinsNs ∧ bm ≠ mainGlobals ∧ bm ≠ P ∧ B.get? bm = some ob ∧ ob.cls = .type "module" ∧ ob.dict = some builtinsNs ∧ ob.data = .plain
theorem lam_made {B : Heap} {mg : Str → Option Value} {c P : Addr} {T : LTxt} {env : Env} {ps : Array Value} {Q : Value → Shared → Prop} (M : Maker B mg c P) (kp : ∀ b o, B.get? b = some o → h.get? b = some o) (he : env.globals = mainGlobals) (hc : env.code = .ref c)
    (hcl : closureFor T.scope env = pure []) (hdf : defaultsOf T.params env = ([], [])) (X : TabAll h P (env.qual ++ "<lambda>") ps)
    (k : ∀ h' t' f more, (∀ b o, b ≠ P → h.get? b = some o → h'.get? b = some o) → LamAt h' T f → f ≠ P → TabAll h' P (env.qual ++ "<lambda>") (ps ++ more) → Q (.ref f) ⟨h', g, d, t', os⟩) :
    wpAny (model prog w) A (eval (.Lambda T.params T.body T.scope T.pos) env) Q E ⟨h, g, d, t, os⟩ := by
  obtain ⟨hP, tr, am⟩ := X
  obtain ⟨bm, ob, b1, b2, b3, b4, b5, b6, b7, b8⟩ := M.bi
  have hPlt := Heap.lt_size hP
  refine kla_eval hdf ?_
  rcases am T.pos with hn | ⟨c', hs, hr⟩
  · refine kla_makeFunction (mg := mg) hcl he (M.ns.keeps kp) hc (M.hd.keeps kp) hP tr hn M.gP ⟨bm, ob, b1, b2, b3, b4, kp _ _ b5, b6, b7, b8⟩ fun c' ctv h' tk hx hge hlt hrec htb => ?_
    have fP : h'.objs.size ≠ P := fun z => Nat.lt_irrefl _ (z ▸ Heap.lt_size htb)
    have cP : c' ≠ P := fun z => Nat.lt_irrefl _ (Nat.lt_of_lt_of_le (z ▸ hPlt) hge)
    refine k _ _ _ #[rawInt T.pos.line, rawInt T.pos.col, .ref c'] (fun b o hb e => Heap.get?_push_of_some _ (hx b o hb e)) ⟨_, _, _, _, _, _, _, _, Heap.get?_push_size _ rfl, hrec.push _⟩ fP ⟨Heap.get?_push_of_some _ htb, by rw [Array.toList_append]; exact TriplesOk_snoc _ _ _ _ tr, fun pos => ?_⟩
    rw [Array.toList_append, show (#[rawInt T.pos.line, rawInt T.pos.col, Value.ref c'] : Array Value).toList = [rawInt T.pos.line, rawInt T.pos.col, .ref c'] from rfl, among_append _ _ _ _ _ tr]
    rcases am pos with hn' | ⟨c2, hs2, c3, o, vs, tq, e1, e2, e3⟩
    · rw [hn']
      by_cases z : (((T.pos.line : Int) == pos.line) && ((T.pos.col : Int) == pos.col)) = true
      · rw [if_pos z]; exact .inr ⟨c', rfl, hrec.push _⟩
      · rw [if_neg z]; exact .inl rfl
    · rw [hs2]
      refine .inr ⟨c2, rfl, c3, o, vs, tq, e1, Heap.get?_push_of_some _ (hx _ _ (fun z => ?_) e2), e3⟩
      subst z; rw [hP] at e2; cases e2
      obtain ⟨e3, e4⟩ := e3
      cases e3
      exact tri_no tr (by rw [Array.getElem?_toList]; exact e4)
  · refine kla_makeFunctionHit (mg := mg) hcl he (M.ns.keeps kp) hc (M.hd.keeps kp) hP tr hs ⟨bm, ob, b1, b2, b3, b4, kp _ _ b5, b6, b7, b8⟩ fun ctv h' tk hx hsz => ?_
    have fP : h'.objs.size ≠ P := fun z => Nat.lt_irrefl _ (Nat.lt_of_lt_of_le (z ▸ hPlt) hsz)
    have kp2 : ∀ b o, h.get? b = some o → (h'.push { cls := .type "function", data := .func (kla_fn "<lambda>" (env.qual ++ "<lambda>") T.params T.body T.scope [] ((mg "__name__").getD .none) (.ref c') ctv) }).get? b = some o := fun b o e => Heap.get?_push_of_some _ (hx b o e)
    refine k _ _ _ #[] (fun b o _ e => kp2 b o e) ⟨_, _, _, _, _, _, _, _, Heap.get?_push_size _ rfl, hr.keeps kp2⟩ fP ?_
    rw [Array.append_empty]
    exact TabAll.keeps ⟨hP, tr, am⟩ kp2
end
end Mine
end
section
open PySem PySem.W PyProof.Rows PySem.Calls Builtin Builtin.ObjectAttr
set_option Elab.async false
set_option maxRecDepth 100000
namespace Mine
section
variable {prog : Program} {w : World} {A : Around} {E : Value → Shared → Prop} {s : Shared} {h h' B : Heap} {g : Array GenState} {d : Drawn} {t : Nat} {os : OsState}
/-- a def without parameters, its code at c -/
def DefC (B : Heap) (T : Txt) (fn c : Addr) (qual : Str) : Prop :=
  ∃ nm od osl doc pm ct an, B.get? fn = some ⟨.type "function", od, .func (fnX nm qual T.params T.body T.scope [] .none .none doc pm an (.ref c) ct), osl⟩ ∧ B.CodeRec (.ref c) qual
theorem made_binds {nm qual : Str} {cl : List (Str × Addr)} {doc pm cd ct : Value} {an : Option Addr} :
    bindArgs (fnX nm qual tMade.params tMade.body tMade.scope cl .none .none doc pm an cd ct) ⟨[], []⟩ = (pure [] : Sem _) := by kernel_rfl
theorem more_binds {nm qual : Str} {cl : List (Str × Addr)} {doc pm cd ct : Value} {an : Option Addr} :
    bindArgs (fnX nm qual tMore.params tMore.body tMore.scope cl .none .none doc pm an cd ct) ⟨[], []⟩ = (pure [] : Sem _) := by kernel_rfl
theorem made_does {fn c P gt le ge : Addr} {qual : Str} {mg mb : Str → Option Value} {ps : Array Value} {Q : Value → Shared → Prop} (G : Glob B mg mb) (M : Maker B mg c P) (D : DefC B tMade fn c qual) (i1 : mg "_gt_from_lt" = some (.ref gt)) (i2 : mg "_le_from_lt" = some (.ref le)) (i3 : mg "_ge_from_lt" = some (.ref ge))
    (hd : A.depth < recursionLimit) (kp : ∀ b o, B.get? b = some o → h.get? b = some o) (hB : B.get? P = none) (X : TabAll h P (qual ++ ".<locals>." ++ "<lambda>") ps)
    (k : ∀ h' t' a f more, (∀ b o, b ≠ P → h.get? b = some o → h'.get? b = some o) → LamAt h' lamLt f → f ≠ P → TabAll h' P (qual ++ ".<locals>." ++ "<lambda>") (ps ++ more) → h'.PlainList a #[.ref f, .ref gt, .ref le, .ref ge] → a ≠ P → h.get? a = none → Q (.ref a) ⟨h', g, d, t', os⟩) :
    wpAny (model prog w) A (PySem.call (.ref fn) []) Q E ⟨h, g, d, t, os⟩ := by
  obtain ⟨nm, od, osl, doc, pm, ct, an, hf, hcd⟩ := D
  refine wpAny_call (codeAny_call_def hd (kp _ _ hf) rfl (G.lim.keeps kp) (hcd.keeps kp) rfl (BindsTo.of_eq made_binds) (show ∀ x ∈ tMade.scope.names, x.2 ≠ .cell by decide) (by intro x hx; cases hx) (fun h₁ hns hk₁ => ?_))
  refine wpAny_mono (Q := fun fl s' => Q (match fl with | .ret v => v | _ => .none) s') (E := fun _ _ => False) ?_ (fun fl s' x => x) (fun _ _ x => x.elim)
  have kp1 : ∀ b o, B.get? b = some o → h₁.get? b = some o := fun b o e => hk₁ _ _ (kp b o e)
  show wpAny _ _ (execs tMade.body (envX qual tMade.scope h.objs.size fn (.ref c) [])) _ _ _
  refine wpAny_execs_cons (wpAny_Return_some (wpAny_List (wpAny_items_cons ?_)))
  refine lam_made (T := lamLt) M kp1 rfl rfl rfl rfl (X.keeps hk₁) fun h₂ t₂ f more kp2 lf fP X2 => ?_
  have kp3 : ∀ b o, B.get? b = some o → h₂.get? b = some o := fun b o e => kp2 b o (fun z => by subst z; rw [hB] at e; cases e) (kp1 b o e)
  refine wpAny_items_cons (b_glob G kp3 i1 (wpAny_items_cons (b_glob G kp3 i2 (wpAny_items_cons (b_glob G kp3 i3 (wpAny_items_nil ⟨by show (4 : Nat) ≤ sizeLine; decide, ?_⟩))))))
  have pu : ∀ b o, h₂.get? b = some o → (h₂.push { cls := .type "list", data := .seq [Value.ref f, .ref gt, .ref le, .ref ge].toArray }).get? b = some o := fun _ _ e => Heap.get?_push_of_some _ e
  refine k _ _ _ f more (fun b o hb e => pu _ _ (kp2 b o hb (hk₁ b o e))) ?_ fP (X2.keeps pu) ⟨0, Heap.get?_push_size _ rfl⟩ (fun z => Nat.lt_irrefl _ (z ▸ Heap.lt_size X2.1)) (by
    cases e : h.get? h₂.objs.size with
    | none => rfl
    | some o => exact absurd (Heap.lt_size (kp2 _ _ (fun z => Nat.lt_irrefl _ (z ▸ Heap.lt_size X2.1)) (hk₁ _ _ e))) (Nat.lt_irrefl _))
  obtain ⟨nm', q', pm', cd', ct', oc', od', osl', e1, e2⟩ := lf
  exact ⟨nm', q', pm', cd', ct', oc', od', osl', pu _ _ e1, e2.keeps pu⟩
theorem LamAt.keeps {T : LTxt} {f P : Addr} (x : LamAt h T f) (fP : f ≠ P) (hP : ∃ ps, h.get? P = some (tabObj ps) ∧ TriplesOk ps.toList) (k : ∀ b o, b ≠ P → h.get? b = some o → h'.get? b = some o) : LamAt h' T f := by
  obtain ⟨nm', q', pm', cd', ct', oc', od', osl', e1, c3, o, vs, tq, e2, e3, e4, e5⟩ := x
  obtain ⟨ps, hP, tr⟩ := hP
  refine ⟨nm', q', pm', cd', ct', oc', od', osl', k _ _ fP e1, c3, o, vs, tq, e2, k _ _ (fun z => ?_) e3, e4, e5⟩
  subst z; rw [hP] at e3; cases e3; cases e4
  exact tri_no tr (by rw [Array.getElem?_toList]; exact e5)
theorem more_does {fn c P : Addr} {qual : Str} {mg mb : Str → Option Value} {ps : Array Value} {Q : Value → Shared → Prop} (G : Glob B mg mb) (M : Maker B mg c P) (D : DefC B tMore fn c qual)
    (hd : A.depth < recursionLimit) (kp : ∀ b o, B.get? b = some o → h.get? b = some o) (hB : B.get? P = none) (X : TabAll h P (qual ++ ".<locals>." ++ "<lambda>") ps)
    (k : ∀ h' t' a f0 f1 f2 f3 f4 more, (∀ b o, b ≠ P → h.get? b = some o → h'.get? b = some o) → LamAt h' (lamMore 0) f0 → LamAt h' (lamMore 1) f1 → LamAt h' (lamMore 2) f2 → LamAt h' (lamMore 3) f3 → LamAt h' (lamMore 4) f4 → (f0 ≠ P ∧ f1 ≠ P ∧ f2 ≠ P ∧ f3 ≠ P ∧ f4 ≠ P) →
      TabAll h' P (qual ++ ".<locals>." ++ "<lambda>") (ps ++ more) → h'.PlainList a #[.ref f0, .ref f1, .ref f2, .ref f3, .ref f4] → a ≠ P → h.get? a = none → Q (.ref a) ⟨h', g, d, t', os⟩) :
    wpAny (model prog w) A (PySem.call (.ref fn) []) Q E ⟨h, g, d, t, os⟩ := by
  obtain ⟨nm, od, osl, doc, pm, ct, an, hf, hcd⟩ := D
  refine wpAny_call (codeAny_call_def hd (kp _ _ hf) rfl (G.lim.keeps kp) (hcd.keeps kp) rfl (BindsTo.of_eq more_binds) (show ∀ x ∈ tMore.scope.names, x.2 ≠ .cell by decide) (by intro x hx; cases hx) (fun h₁ hns hk₁ => ?_))
  refine wpAny_mono (Q := fun fl s' => Q (match fl with | .ret v => v | _ => .none) s') (E := fun _ _ => False) ?_ (fun fl s' x => x) (fun _ _ x => x.elim)
  have kp1 : ∀ b o, B.get? b = some o → h₁.get? b = some o := fun b o e => hk₁ _ _ (kp b o e)
  show wpAny _ _ (execs tMore.body (envX qual tMore.scope h.objs.size fn (.ref c) [])) _ _ _
  have up : ∀ {h h' : Heap}, (∀ b o, B.get? b = some o → h.get? b = some o) → (∀ b o, b ≠ P → h.get? b = some o → h'.get? b = some o) → ∀ b o, B.get? b = some o → h'.get? b = some o :=
    fun k1 k2 b o e => k2 b o (fun z => by subst z; rw [hB] at e; cases e) (k1 b o e)
  refine wpAny_execs_cons (wpAny_Return_some (wpAny_List (wpAny_items_cons ?_)))
  refine lam_made (T := lamMore 0) M kp1 rfl rfl rfl rfl (X.keeps hk₁) fun h₂ t₂ f0 m0 k2 l0 n0 X => ?_
  replace kp1 := up kp1 k2
  refine wpAny_items_cons (lam_made (T := lamMore 1) M kp1 rfl rfl rfl rfl X fun h₃ t₃ f1 m1 k3 l1 n1 X' => ?_)
  replace kp1 := up kp1 k3
  replace l0 := l0.keeps n0 ⟨_, X.1, X.2.1⟩ k3
  refine wpAny_items_cons (lam_made (T := lamMore 2) M kp1 rfl rfl rfl rfl X' fun h₄ t₄ f2 m2 k4 l2 n2 X => ?_)
  replace kp1 := up kp1 k4
  replace l0 := l0.keeps n0 ⟨_, X'.1, X'.2.1⟩ k4
  replace l1 := l1.keeps n1 ⟨_, X'.1, X'.2.1⟩ k4
  refine wpAny_items_cons (lam_made (T := lamMore 3) M kp1 rfl rfl rfl rfl X fun h₅ t₅ f3 m3 k5 l3 n3 X' => ?_)
  replace kp1 := up kp1 k5
  replace l0 := l0.keeps n0 ⟨_, X.1, X.2.1⟩ k5
  replace l1 := l1.keeps n1 ⟨_, X.1, X.2.1⟩ k5
  replace l2 := l2.keeps n2 ⟨_, X.1, X.2.1⟩ k5
  refine wpAny_items_cons (lam_made (T := lamMore 4) M kp1 rfl rfl rfl rfl X' fun h₆ t₆ f4 m4 k6 l4 n4 X => ?_)
  replace l0 := l0.keeps n0 ⟨_, X'.1, X'.2.1⟩ k6
  replace l1 := l1.keeps n1 ⟨_, X'.1, X'.2.1⟩ k6
  replace l2 := l2.keeps n2 ⟨_, X'.1, X'.2.1⟩ k6
  replace l3 := l3.keeps n3 ⟨_, X'.1, X'.2.1⟩ k6
  refine wpAny_items_nil ⟨by show (5 : Nat) ≤ sizeLine; decide, ?_⟩
  have pu : ∀ b o, h₆.get? b = some o → (h₆.push { cls := .type "list", data := .seq [Value.ref f0, .ref f1, .ref f2, .ref f3, .ref f4].toArray }).get? b = some o := fun _ _ e => Heap.get?_push_of_some _ e
  have pt : ∀ {T f}, f ≠ P → LamAt h₆ T f → LamAt (h₆.push { cls := .type "list", data := .seq [Value.ref f0, .ref f1, .ref f2, .ref f3, .ref f4].toArray }) T f := fun n x => x.keeps n ⟨_, X.1, X.2.1⟩ fun b o _ e => pu b o e
  refine k _ _ _ f0 f1 f2 f3 f4 (m0 ++ (m1 ++ (m2 ++ (m3 ++ m4)))) (fun b o hb e => pu _ _ (k6 _ _ hb (k5 _ _ hb (k4 _ _ hb (k3 _ _ hb (k2 b o hb (hk₁ b o e))))))) (pt n0 l0) (pt n1 l1) (pt n2 l2) (pt n3 l3) (pt n4 l4) ⟨n0, n1, n2, n3, n4⟩ ?_ ⟨0, Heap.get?_push_size _ rfl⟩ (fun z => Nat.lt_irrefl _ (z ▸ Heap.lt_size X.1)) (by
    have hb : h₆.objs.size ≠ P := fun z => Nat.lt_irrefl _ (z ▸ Heap.lt_size X.1)
    cases e : h.get? h₆.objs.size with
    | none => rfl
    | some o => exact absurd (Heap.lt_size (k6 _ _ hb (k5 _ _ hb (k4 _ _ hb (k3 _ _ hb (k2 _ _ hb (hk₁ _ _ e))))))) (Nat.lt_irrefl _))
  have := X.keeps pu
  simpa only [Array.append_assoc] using this
end
end Mine
end
section
open PySem PySem.W PySem.W.X PyProof.Rows PySem.Calls Builtin Builtin.ObjectAttr
set_option Elab.async false
set_option maxRecDepth 100000
namespace Mine
def tKinit : Txt := defOf' (nth kBody 2)
/-- what a run leaves, as a list of objects -/
def fragOf (n : Nat) (T : BT) (m : Nat) (K : KT) (as : List Nat) : Frag := ((List.range m).filterMap fun i => (T.get i).map fun o => (n + i, o)) ++ as.filterMap fun a => (K.get a).map fun o => (a, o)
theorem lookup_mem {K : Frag} {a : Addr} {o : Obj} (e : K.lookup a = some o) : (a, o) ∈ K := by
  induction K with
  | nil => cases e
  | cons p r ih =>
    obtain ⟨b, x⟩ := p
    simp only [List.lookup] at e
    split at e
    · rename_i q; cases e; rw [beq_iff_eq.mp q]; exact .head _
    · exact .tail _ (ih e)
theorem chNone : ∀ {ch : Ch} {a : Addr}, a ∉ ch.map (·.1) → chLook ch a = none
  | [], _, _ => rfl
  | p :: l, a, h => by
    have h1 : p.1 ≠ a := fun e => h (by rw [← e]; exact .head _)
    have h2 : Nat.beq p.1 a = false := by
      cases q : Nat.beq p.1 a with
      | false => rfl
      | true => exact absurd (Nat.eq_of_beq_eq_true q) h1
    show (match Nat.beq p.1 a with | true => some p.2 | false => chLook l a) = none
    rw [h2]
    exact chNone fun hm => h (.tail _ hm)
section
variable {V : XV} {h h' : Heap} {T : BT} {m : Nat} {ch : Ch} {K : KT}
theorem frag_in (D : Rep V h T m ch) (H : KT.Holds V.h₀ 1 0 K) (as : List Nat) (e : as.all (fun a => !(ch.map (·.1)).contains a) = true) : (fragOf V.n₁ T m K as).In h := by
  intro a o hl
  have hm := lookup_mem hl
  unfold fragOf at hm
  rcases List.mem_append.mp hm with hm | hm
  · obtain ⟨i, _, hi⟩ := List.mem_filterMap.mp hm
    obtain ⟨o', e1, e2⟩ := Option.map_eq_some_iff.mp hi
    cases e2
    exact (D.own i _ e1).2
  · obtain ⟨i, hi1, hi⟩ := List.mem_filterMap.mp hm
    obtain ⟨o', e1, e2⟩ := Option.map_eq_some_iff.mp hi
    cases e2
    have := H.get e1
    rw [Nat.one_mul, Nat.add_zero] at this
    refine D.keep _ _ this (chNone fun hc => ?_)
    have z := List.all_eq_true.mp e _ hi1
    rw [List.contains_iff_mem.mpr hc] at z; cases z
theorem rep_keeps (D : Rep V h T m ch) (S : List Nat) (e : ch.map (·.1) = S) : ∀ b o, b ∉ S → V.h₀.get? b = some o → h.get? b = some o := fun b o hb he => D.keep b o he (chNone (e ▸ hb))
end
def fdOf (K : Frag) (a : Addr) : FuncData := match K.lookup a with
  | some ⟨_, _, .func fd, _⟩ => fd
  | _ => default
def codeName (K : Frag) (v : Value) : Option Str := match v with
  | .ref c => match (K.lookup c : Option Obj) with
    | some ⟨_, _, .fields vs, _⟩ => match (vs[1]? : Option Value) with
      | some (.str q _) => some q
      | _ => none
    | _ => none
  | _ => none
/-- the def of text T stands at a, with the cells cl -/
def FnIs (K : Frag) (T : Txt) (cl : List (Str × Addr)) (a : Addr) : Prop :=
  K.lookup a = some { cls := .type "function", data := .func (fnX (fdOf K a).name (fdOf K a).qualname T.params T.body T.scope cl .none .none (fdOf K a).doc (fdOf K a).pyModule (fdOf K a).annotations (fdOf K a).code (fdOf K a).closureTuple) } ∧
    codeName K (fdOf K a).code = some (fdOf K a).qualname
theorem FnIs.rec {K : Frag} {T : Txt} {cl : List (Str × Addr)} {a : Addr} {h : Heap} (x : FnIs K T cl a) (X : K.In h) : h.CodeRec (fdOf K a).code (fdOf K a).qualname := by
  have z := x.2
  unfold codeName at z
  split at z
  · rename_i c hc
    split at z
    · rename_i cc dd vs sl hl
      split at z
      · rename_i q t hv; cases z; exact ⟨c, _, vs, t, hc, X _ _ hl, rfl, hv⟩
      · cases z
    · cases z
  · cases z
theorem FnIs.opAt {K : Frag} {T : Txt} {cM a : Addr} {h : Heap} (x : FnIs K T [("mycmp", cM)] a) (X : K.In h) : OpAt h T a cM := ⟨_, _, _, _, _, _, _, _, _, X _ _ x.1, x.rec X⟩
theorem FnIs.defAt {K : Frag} {T : Txt} {a : Addr} {h : Heap} (x : FnIs K T [] a) (X : K.In h) : DefAt h T a := ⟨_, _, _, _, _, _, _, _, _, X _ _ x.1, x.rec X⟩
/-- what the class statement of cmp_to_key leaves -/
structure KGood (K : Frag) (C md ini : Addr) (fn : CmpOp → Addr) (cM f : Addr) : Prop where
  slotted : Slotted K C md
  keys : KeyCls K C fn
  lt : FnIs K tKlt [("mycmp", cM)] (fn .Lt)
  gt : FnIs K tKgt [("mycmp", cM)] (fn .Gt)
  eq : FnIs K tKeq [("mycmp", cM)] (fn .Eq)
  le : FnIs K tKle [("mycmp", cM)] (fn .LtE)
  ge : FnIs K tKge [("mycmp", cM)] (fn .GtE)
  cell : ∃ o, K.lookup cM = some o ∧ o.data = .cell (some (.ref f))
  init : FnIs K tKinit [] ini
def fnOf (b : Nat) : CmpOp → Addr
  | .Lt => b + 24
  | .Gt => b + 32
  | .Eq => b + 40
  | .LtE => b + 48
  | .GtE => b + 56
  | _ => 0
/-- what comes after a class is made, at the heap's size b -/
def AfterK (hh : Heap) (d : Drawn) (os : OsState) (b f : Nat) (S : List Nat) (Q : Value → Shared → Prop) : Prop :=
  ∀ (h' : Heap) (t' : Nat) (K : Frag), K.In h' → KGood K (b + 60) (b + 61) (b + 16) (fnOf b) (b + 1) f → h'.objs.size = b + 64 → (∀ x o, x ∉ S → hh.get? x = some o → h'.get? x = some o) → 500 ≤ t' → Q (.ref (b + 60)) ⟨h', #[], d, t', os⟩
end Mine
end
section
open PySem PySem.W PySem.W.X PyProof.Rows PySem.Calls Builtin Builtin.ObjectAttr
set_option Elab.async false
set_option maxRecDepth 100000
namespace Mine
section
variable {prog : Program} {w : World} {A : Around} {E : Value → Shared → Prop} {s : Shared} {h h' B : Heap} {g : Array GenState} {d : Drawn} {t : Nat} {os : OsState} {K : Frag}
/-- what is wanted of a class to make a key of it -/
structure KMake (K : Frag) (C md ini : Addr) : Prop where
  makes : makesIn K C = true
  init : findIn K (.ref C) "__init__" = some (some (.ref ini))
  fn : typeIn K (.ref ini) = some (.type "function")
  set : findIn K (.ref C) "__setattr__" = some (some (.builtin "object.__setattr__"))
  over : plainOver K C = true
  taker : takerIn K C "obj" = some (some (.ref md))
  slot : slotIn K md C = some 0
  md : typeIn K (.ref md) = some (.type "member_descriptor")
/-- a slot is filled, the heap told -/
theorem slot_filled {x C p : Addr} {ox : Obj} {od : Option Obj} {v : Value} {i : Nat} {R : Result → Shared → Prop} (X : K.In h) (I : InstAt h x ox C od) (hp : slotIn K p C = some i) (hi : i < 1000)
    (k : ∀ h', Heap.SameBut x h h' → h'.get? x = some { ox with slots := (ox.slots ++ Array.replicate (i + 1 - ox.slots.size) none).setIfInBounds i (some v) } → R (.ok (.ret .none)) ⟨h', g, d, t, os⟩) :
    codeAny (model prog w) A (.call (.builtin "member_descriptor.__set__") ⟨[.ref p, .ref x, v], []⟩) R ⟨h, g, d, t, os⟩ := by
  obtain ⟨n, tn, owner, behind, tb, dd, sl, cd, ho, hc, hm, hb, rfl⟩ := slot_of X hp
  have L0 := I.type (M := model prog w)
  have L1 := looks_mroIn (M := model prog w) X hm
  have L2 : Looks (model prog w) h (Slots.slotNamesOf (.ref C)) cd.slotNames := (looks_clsIn X hc).andThen .now
  have hx := I.at_
  have f0 := looks_field (M := model prog w) ho 0 (v := .str n tn) rfl
  have f1 := looks_field (M := model prog w) ho 1 (v := owner) rfl
  have f3 := looks_field (M := model prog w) ho 3 (v := .builtin "proto.slot#set") rfl
  have f4 := looks_field (M := model prog w) ho 4 (v := .int behind tb) rfl
  refine codeAny_call_builtin KF.slot_mset.plain KF.entry_mset (KF.slot_mset.check _ _ _ _ _ _ _ _ ⟨_, ho, rfl⟩ (KF.args_mset _ _ _) ?_)
  unfold Builtin.«member_descriptor.__set__» Builtin.Getset_descriptor.descrSet Builtin.Getset_descriptor.descrStoreThrough Builtin.Getset_descriptor.descrCheckInstance Builtin.Getset_descriptor.descrNameAndClass isInstance
  have f5 : Looks (model prog w) h (Builtin.Getset_descriptor.descrItself (.ref p)) [.ref p] := ((Looks.ld (part := none) ho).andThen .now).andThen (Looks.of_pure (by kernel_rfl))
  repeat lk
  refine ⟨Code.quiet_builtin _ (by decide +kernel), codeAny_builtin KF.entry_slotset ?_⟩
  unfold Builtin.«proto.slot#set» Slots.target
  repeat lk
  rw [if_neg hb]
  refine wpAny_pure (wpAny_bind ?_)
  unfold setSlotAt
  dsimp only
  rw [if_neg (by rw [sizeLine_eq]; omega)]
  refine wpAny_updatePart hx (wpAny_pure (k _ (Heap.SameBut.update ..) (Heap.get?_update_self _ hx ?_)))
  have hz := (Heap.get?_some_iff.mp hx).2
  obtain ⟨oc, od, oda, osl⟩ := ox
  cases oda <;> first | rfl | exact hz
theorem kinit_binds {nm qual : Str} {cl : List (Str × Addr)} {doc pm cd ct a b : Value} {an : Option Addr} :
    bindArgs (fnX nm qual tKinit.params tKinit.body tKinit.scope cl .none .none doc pm an cd ct) ⟨[a, b], []⟩ = (pure [(("self" : Str), a), (("obj" : Str), b)] : Sem _) := by kernel_rfl
/-- maker(x): a key is made, three objects more -/
theorem key_made {C md ini x : Addr} {Q : Value → Shared → Prop} (X : K.In h) (lim : h.NoLimit) (Y : KMake K C md ini) (I : FnIs K tKinit [] ini) (hd : (A.under (.builtin "type.__call__" ⟨[.ref C, .ref x], []⟩)).depth < recursionLimit)
    (k : ∀ h' t' dx, Add 3 h h' → dx = h.objs.size → h'.get? (h.objs.size + 1) = some { cls := .ref C, dict := some dx, data := .plain, slots := #[some (.ref x)] } → h'.get? dx = some emptyDict → Q (.ref (h.objs.size + 1)) ⟨h', g, d, t', os⟩) :
    wpAny (model prog w) A (PySem.call (.ref C) [.ref x]) Q E ⟨h, g, d, t, os⟩ := by
  refine wpAny_call (make_core (makes_of X Y.makes) (looks_findIn X Y.init) (fun self => bind_fn X self Y.fn) (.inl rfl) ?_)
  obtain ⟨hf, hcn⟩ := I
  have kp : ∀ b o, h.get? b = some o → ((h.push emptyDict).push (instObj C h.objs.size)).get? b = some o := fun b o e => Heap.get?_push_of_some _ (Heap.get?_push_of_some _ e)
  have hrec := FnIs.rec ⟨hf, hcn⟩ X
  have hx : ((h.push emptyDict).push (instObj C h.objs.size)).get? (h.objs.size + 1) = some (instObj C h.objs.size) := by heap_get
  have hdx : ((h.push emptyDict).push (instObj C h.objs.size)).get? h.objs.size = some emptyDict := Heap.get?_push_of_some _ (Heap.get?_push_size _ rfl)
  have ad : Add 2 h ((h.push emptyDict).push (instObj C h.objs.size)) := (Add.push _).trans (Add.push _)
  generalize (h.push emptyDict).push (instObj C h.objs.size) = h₁ at kp hx hdx ad ⊢
  have hfn := kp _ _ (X _ _ hf)
  generalize A.under (.builtin "type.__call__" ⟨[.ref C, .ref x], []⟩) = A' at hd ⊢
  refine codeAny_call_function hd hfn rfl rfl rfl rfl (hrec.keeps kp) ?_
  rw [kinit_binds]
  refine wpAny_pure (wpAny_newFunctionEnv (show ∀ x ∈ tKinit.scope.names, x.2 ≠ .cell by decide) (by
    intro y hy
    simp only [List.mem_cons, List.not_mem_nil, or_false] at hy
    rcases hy with rfl | rfl <;> rfl) (fun h₂ hns hsb => ⟨(lim.keeps kp).fresh _ hsb, codeAny_func ?_⟩) rfl)
  have InB : InitBack (h.objs.size + 1) = InitBack (h.objs.size + 1) := rfl
  refine wpAny_mono (Q := fun fl s' => (match fl with | .ret v => v | _ => .none) = Value.none ∧ Q (.ref (h.objs.size + 1)) s') (E := fun _ _ => False) ?_ (fun fl s' x => by cases fl <;> exact x) (fun _ _ x => x.elim)
  show wpAny _ (A'.deeper (envX (fdOf K ini).qualname tKinit.scope h₁.objs.size ini (fdOf K ini).code [])) (execs tKinit.body (envX (fdOf K ini).qualname tKinit.scope h₁.objs.size ini (fdOf K ini).code [])) _ _ _
  have kp2 : ∀ b o, h₁.get? b = some o → h₂.get? b = some o := fun b o e => (hsb.2 b (Nat.ne_of_lt (Heap.lt_size e))).trans (Heap.get?_push_of_some _ e)
  have kp' : ∀ b o, h.get? b = some o → h₂.get? b = some o := fun b o e => kp2 _ _ (kp b o e)
  have X2 := X.keeps kp'
  have ad2 : Add 3 h h₂ := ⟨kp', by rw [hsb.1, Heap.size_push, ad.size]⟩
  have hx2 := kp2 _ _ hx
  have hdx2 := kp2 _ _ hdx
  clear kp kp2 hx hdx ad hfn hsb
  refine wpAny_execs_cons (plainObj_wpAny_Assign_Attribute ?_ rfl)
  refine wpAny_Name (wpAny_loadName_local rfl rfl hns rfl ?_) (by decide)
  refine wpAny_Name (wpAny_loadName_local rfl rfl hns rfl ?_) (by decide)
  have I2 : InstAt h₂ (h.objs.size + 1) (instObj C h.objs.size) C (some emptyDict) := ⟨hx2, rfl, rfl, hdx2⟩
  refine set_plain (s := ⟨h₂, g, d, _, os⟩) X2 I2 Y.set (osa_descr (s := ⟨h₂, g, d, _, os⟩) KF.slot_mset X2 I2 Y.over Y.taker ?_ (slot_filled X2 I2 Y.slot (by decide) fun h₃ sb₃ e₃ => ?_))
  · exact Y.md
  · refine wpAny_execs_nil ⟨rfl, k h₃ _ _ ?_ rfl e₃ ((sb₃.2 _ (Nat.ne_of_lt (Nat.lt_succ_self _))).trans hdx2)⟩
    exact ad2.same sb₃ (Nat.le_succ _)
end
end Mine
end
section
open PySem PySem.W PyProof.Rows PySem.Calls
set_option Elab.async false
set_option maxRecDepth 100000
namespace Mine
/-! The plain law: what the levels of keys come to. -/
noncomputable def lvlV : Nat → (Bool → Bool → Int) → Bool → Bool → Int
  | 0, v => v
  | n + 1, v => fun i j => bi (decide (lvlV n v j i < 0)) - bi (decide (lvlV n v i j < 0))
noncomputable def lvlA : Nat → Bool → Bool → List (Int × Int)
  | 0 => fun i j => [(z i, z j)]
  | n + 1 => fun i j => lvlA n j i ++ lvlA n i j
theorem lvl_worth (r : Nat) (hr : r ≤ 2) (v : Bool → Bool → Int) (i j : Bool) : lvlV r v i j = worthV r v i j := by
  rcases (show r = 0 ∨ r = 1 ∨ r = 2 by omega) with rfl | rfl | rfl
  · rfl
  · rfl
  · show bi (decide (bi (decide (v i j < 0)) - bi (decide (v j i < 0)) < 0)) - bi (decide (bi (decide (v j i < 0)) - bi (decide (v i j < 0)) < 0)) = bi (decide (v j i < 0)) - bi (decide (v i j < 0))
    cases decide (v i j < 0) <;> cases decide (v j i < 0) <;> decide
theorem lvl_asks (r : Nat) (hr : r ≤ 2) (i j : Bool) : lvlA r i j = asksOf r (z i, z j) := by
  rcases (show r = 0 ∨ r = 1 ∨ r = 2 by omega) with rfl | rfl | rfl <;> cases i <;> cases j <;> decide
theorem lvl_few (r : Nat) (hr : r ≤ 2) (i j : Bool) : (lvlA r i j).length ≤ 4 := by
  rcases (show r = 0 ∨ r = 1 ∨ r = 2 by omega) with rfl | rfl | rfl <;> cases i <;> cases j <;> decide
/-- what the nine deeds tell of two keys -/
def rowsK (V : Int) (L : List (Int × Int)) : List Row :=
  [(cmpZ .Lt V, L), (!cmpZ .Lt V && cmpZ .NotEq V, L ++ (if cmpZ .Lt V then [] else L)), (cmpZ .Lt V || cmpZ .Eq V, L ++ (if cmpZ .Lt V then [] else L)), (!cmpZ .Lt V, L)] ++
    [(cmpZ .LtE V, L), (cmpZ .Eq V, L), (cmpZ .NotEq V, L), (cmpZ .GtE V, L), (cmpZ .Gt V, L)]
theorem rowsK_due (V : Int) (L : List (Int × Int)) : rowsK V L = dueK V L := by
  have e2 : (!cmpZ .Lt V && cmpZ .NotEq V) = decide (V > 0) := by
    show (!decide (V < 0) && (V != 0)) = decide (V > 0)
    rw [Bool.eq_iff_iff]; simp; omega
  have e3 : (cmpZ .Lt V || cmpZ .Eq V) = decide (V ≤ 0) := by
    show (decide (V < 0) || (V == 0)) = decide (V ≤ 0)
    rw [Bool.eq_iff_iff]; simp; omega
  have e4 : (!cmpZ .Lt V) = decide (V ≥ 0) := by
    show (!decide (V < 0)) = decide (V ≥ 0)
    rw [Bool.eq_iff_iff]; simp
  have e5 : (L ++ (if cmpZ .Lt V then [] else L)) = if V < 0 then L else L ++ L := by
    show (L ++ (if decide (V < 0) = true then [] else L)) = if V < 0 then L else L ++ L
    by_cases h : V < 0
    · rw [decide_eq_true h, if_pos rfl, if_pos h, List.append_nil]
    · rw [decide_eq_false h, if_neg h]; rfl
  unfold rowsK dueK
  rw [e2, e3, e4, e5]
  rfl
def rowsH (less same : Bool) (L : List (Int × Int)) : List Row := [(less, L), (!less && !same, L ++ (if less then [] else [])), (less || same, L ++ (if less then [] else [])), (!less, L)]
theorem rowsH_due (less same : Bool) (L : List (Int × Int)) : rowsH less same L = dueH less same L := by
  unfold rowsH dueH
  cases less <;> simp
/-- the data are shaped, and equal to themselves -/
theorem eqv_pair (p : Int × Int) : PyData.eqv (pairD p) (pairD p) = true := by simp [pairD, PyData.eqv, PyData.eqvAll]
theorem eqv_pairs : ∀ l : List (Int × Int), PyData.eqvAll (l.map pairD) (l.map pairD) = true
  | [] => by simp [PyData.eqvAll]
  | p :: l => by simp only [List.map_cons, PyData.eqvAll, eqv_pair, eqv_pairs l, Bool.and_true]
theorem eqv_row (r : Row) : PyData.eqv (rowD r) (rowD r) = true := by simp [rowD, PyData.eqv, PyData.eqvAll, eqv_pairs]
theorem eqv_rowsAll : ∀ l : List Row, PyData.eqvAll (l.map rowD) (l.map rowD) = true
  | [] => by simp [PyData.eqvAll]
  | p :: l => by simp only [List.map_cons, PyData.eqvAll, eqv_row, eqv_rowsAll l, Bool.and_true]
theorem eqv_rows (l : List Row) : PyData.eqv (rowsD l) (rowsD l) = true := by simp [rowsD, PyData.eqv, eqv_rowsAll]
theorem lay_pairs : ∀ l : List (Int × Int), PyData.canLayAll0 (l.map pairD) = true
  | [] => by simp [PyData.canLayAll0]
  | p :: l => by simp [PyData.canLayAll0, pairD, PyData.canLay0, lay_pairs l]
theorem lay_rows : ∀ l : List Row, PyData.canLayAll0 (l.map rowD) = true
  | [] => by simp [PyData.canLayAll0]
  | p :: l => by simp [PyData.canLayAll0, rowD, PyData.canLay0, lay_pairs, lay_rows l]
theorem dep_pairs : ∀ l : List (Int × Int), PyData.depthAll (l.map pairD) ≤ 3
  | [] => by simp [PyData.depthAll]
  | p :: l => by have := dep_pairs l; simp [PyData.depthAll, pairD, PyData.depth]; omega
theorem dep_rows : ∀ l : List Row, PyData.depthAll (l.map rowD) ≤ 6
  | [] => by simp [PyData.depthAll]
  | p :: l => by have := dep_rows l; have := dep_pairs p.2; simp [PyData.depthAll, rowD, PyData.depth]; omega
theorem shaped_rows (l : List Row) : SeqAt.shaped (rowsD l) = true := by
  unfold SeqAt.shaped
  have := dep_rows l
  simp [rowsD, PyData.canLay0, lay_rows, PyData.depth]
  omega
end Mine
end
section
open PySem PySem.W PyProof.Rows PySem.Calls Builtin Builtin.ObjectAttr
set_option Elab.async false
set_option maxRecDepth 100000
namespace Mine
section
variable {prog : Program} {w : World} {B : Heap} {q : Addr} {K : Frag}
def Level (prog : Program) (w : World) (B : Heap) (q : Addr) (n : Nat) (v : Bool → Bool → Int) (a : Bool → Bool → List (Int × Int)) (k : Bool → Addr) : Prop :=
  ∀ op, isOrd op = true → ∀ i j, DoesOp n prog w B q op (.ref (k i)) (.ref (k j)) (fun x => x = .bool (cmpZ op (v i j))) (a i j)
theorem FnIs.fnd {T : Txt} {cl : List (Str × Addr)} {a : Addr} (x : FnIs K T cl a) (X : K.In B) : ∃ o fd, B.get? a = some o ∧ o.data = .func fd := ⟨_, _, X _ _ x.1, rfl⟩
theorem level_cmp {n : Nat} {v : Bool → Bool → Int} {a : Bool → Bool → List (Int × Int)} {k x : Bool → Addr} {C md ini cM f : Addr} {fn : CmpOp → Addr} {mg mb : Str → Option Value} (G : Glob B mg mb) (X : K.In B) (Y : KGood K C md ini fn cM f)
    (f1 : ∃ o fd, B.get? f = some o ∧ o.data = .func fd) (I : ∀ i, KeyOf B C (k i) (x i)) (D : ∀ i j, Does n prog w B q (.ref f) [.ref (x i), .ref (x j)] (isI (v i j)) (a i j)) : Level prog w B q (n + 2) v a k := by
  intro op ho i j
  have c : B.IsCell cM (some (.ref f)) := let ⟨o, e, r⟩ := Y.cell; ⟨o, X _ _ e, r⟩
  refine key_op ho X Y.keys (I i) (I j) fun op ho hn => ?_
  cases op with
  | Lt => exact op_does G txt_lt rfl X Y.slotted (Y.lt.opAt X) c f1 (I i) (I j) (D i j)
  | Gt => exact op_does G txt_gt rfl X Y.slotted (Y.gt.opAt X) c f1 (I i) (I j) (D i j)
  | Eq => exact op_does G txt_eq rfl X Y.slotted (Y.eq.opAt X) c f1 (I i) (I j) (D i j)
  | LtE => exact op_does G txt_le rfl X Y.slotted (Y.le.opAt X) c f1 (I i) (I j) (D i j)
  | GtE => exact op_does G txt_ge rfl X Y.slotted (Y.ge.opAt X) c f1 (I i) (I j) (D i j)
  | NotEq => exact absurd rfl hn
  | _ => cases ho
theorem hands_lt {n : Nat} {v : Bool → Bool → Int} {a : Bool → Bool → List (Int × Int)} {k y C : Bool → Addr} {bl : Addr} {mg mb : Str → Option Value} (G : Glob B mg mb) (i1 : mg "hasattr" = none) (i2 : mb "hasattr" = some (.builtin "hasattr")) (X : K.In B) (D : DefAt B tBlt bl)
    (H : Hands K B C y bl) (O : ∀ i, Ordered K B (C i) (y i) (k i)) (V : Level prog w B q n v a k) (i j : Bool) : DoesOp (n + 1) prog w B q .Lt (.ref (y i)) (.ref (y j)) (isB (cmpZ .Lt (v i j))) (a i j) :=
  hand_lt X H (fun _ e => ⟨_, e⟩) i j (blt_does G i1 i2 X D (O i) (O j) (V .Lt rfl i j))
theorem hands_votes {n : Nat} {v : Bool → Bool → Int} {a : Bool → Bool → List (Int × Int)} {k y C : Bool → Addr} {bl vt : Addr} {mg mb : Str → Option Value} (G : Glob B mg mb) (i1 : mg "hasattr" = none) (i2 : mb "hasattr" = some (.builtin "hasattr")) (i3 : mg "int" = none) (i4 : mb "int" = some (.type "int")) (X : K.In B) (D : DefAt B tBlt bl) (D2 : DefAt B tVotes vt)
    (H : Hands K B C y bl) (O : ∀ i, Ordered K B (C i) (y i) (k i)) (V : Level prog w B q n v a k) (i j : Bool) : Does (n + 2) prog w B q (.ref vt) [.ref (y i), .ref (y j)] (isI (bi (decide (v j i < 0)) - bi (decide (v i j < 0)))) (a j i ++ a i j) :=
  votes_does G i3 i4 D2 (hands_lt G i1 i2 X D H O V j i) (hands_lt G i1 i2 X D H O V i j)
theorem Does.le {n k : Nat} {f : Value} {args : List Value} {P : Value → Prop} {L : List (Int × Int)} (x : Does n prog w B q f args P L) (h : n ≤ k) : Does k prog w B q f args P L :=
  fun A E Q hh g d t os l R O hl hQ => x A E Q hh g d t os l (R.le h) O hl hQ
theorem DoesOp.le {n k : Nat} {op : CmpOp} {a b : Value} {P : Value → Prop} {L : List (Int × Int)} (x : DoesOp n prog w B q op a b P L) (h : n ≤ k) : DoesOp k prog w B q op a b P L :=
  fun A E Q hh g d t os l R O hl hQ => x A E Q hh g d t os l (R.le h) O hl hQ
/-- the names that the deeds ask for -/
structure Names3 (mg mb : Str → Option Value) : Prop where
  type : mg "type" = none ∧ mb "type" = some (.type "type")
  ni : mg "NotImplemented" = none ∧ mb "NotImplemented" = some .notImplemented
/-- the four deeds of _law_made, the five of _law_more, on two keys -/
theorem deeds_keys {n : Nat} {v : Bool → Bool → Int} {a : Bool → Bool → List (Int × Int)} {k : Bool → Addr} {C fl gt le ge f f0 f1 f2 f3 f4 : Addr} {mg mb : Str → Option Value} (G : Glob B mg mb) (N : Names3 mg mb) (X : K.In B) (V : Level prog w B q n v a k)
    (T : ∀ i, TypeLt K B (k i) C fl) (Dl : ∀ i j, Does n prog w B q (.ref fl) [.ref (k i), .ref (k j)] (isB (cmpZ .Lt (v i j))) (a i j)) (D1 : DefAt B tGt gt) (D2 : DefAt B tLe le) (D3 : DefAt B tGe ge)
    (l : LamAt B lamLt f) (l0 : LamAt B (lamMore 0) f0) (l1 : LamAt B (lamMore 1) f1) (l2 : LamAt B (lamMore 2) f2) (l3 : LamAt B (lamMore 3) f3) (l4 : LamAt B (lamMore 4) f4) (few : ∀ i j, (a i j).length ≤ 400) (i j : Bool) :
    ∀ (x : Nat) (d : Addr) (r : Row), [f, gt, le, ge, f0, f1, f2, f3, f4][x]? = some d → (rowsK (v i j) (a i j))[x]? = some r → (∃ o fd, B.get? d = some o ∧ o.data = .func fd) ∧ r.2.length ≤ 1000 ∧ Does (n + 1) prog w B q (.ref d) [.ref (k i), .ref (k j)] (isB r.1) r.2 := by
  have lf : ∀ {T : LTxt} {f : Addr}, LamAt B T f → ∃ o fd, B.get? f = some o ∧ o.data = .func fd := fun ⟨_, _, _, _, _, _, _, _, e, _⟩ => ⟨_, _, e, rfl⟩
  have fw := few i j
  have fw2 : (a i j ++ (if cmpZ .Lt (v i j) then [] else a i j)).length ≤ 1000 := by
    rw [List.length_append]
    split
    · show (a i j).length + 0 ≤ 1000; omega
    · omega
  intro x d r hd hr
  match x, hd, hr with
  | 0, hd, hr => cases hd; cases hr; exact ⟨lf l, by show (a i j).length ≤ 1000; omega, lam_does G lam_lt l (V .Lt rfl i j)⟩
  | 1, hd, hr => cases hd; cases hr; exact ⟨D1.fn, fw2, gtf_does G N.type.1 N.type.2 N.ni.1 N.ni.2 X D1 (T i) (Dl i j) fun _ => V .NotEq rfl i j⟩
  | 2, hd, hr => cases hd; cases hr; exact ⟨D2.fn, fw2, lef_does G N.type.1 N.type.2 N.ni.1 N.ni.2 X D2 (T i) (Dl i j) fun _ => V .Eq rfl i j⟩
  | 3, hd, hr => cases hd; cases hr; exact ⟨D3.fn, by show (a i j).length ≤ 1000; omega, gef_does G N.type.1 N.type.2 N.ni.1 N.ni.2 X D3 (T i) (Dl i j)⟩
  | 4, hd, hr => cases hd; cases hr; exact ⟨lf l0, by show (a i j).length ≤ 1000; omega, lam_does G lam_0 l0 (V .LtE rfl i j)⟩
  | 5, hd, hr => cases hd; cases hr; exact ⟨lf l1, by show (a i j).length ≤ 1000; omega, lam_does G lam_1 l1 (V .Eq rfl i j)⟩
  | 6, hd, hr => cases hd; cases hr; exact ⟨lf l2, by show (a i j).length ≤ 1000; omega, lam_does G lam_2 l2 (V .NotEq rfl i j)⟩
  | 7, hd, hr => cases hd; cases hr; exact ⟨lf l3, by show (a i j).length ≤ 1000; omega, lam_does G lam_3 l3 (V .GtE rfl i j)⟩
  | 8, hd, hr => cases hd; cases hr; exact ⟨lf l4, by show (a i j).length ≤ 1000; omega, lam_does G lam_4 l4 (V .Gt rfl i j)⟩
  | x + 9, hd, hr => cases hd
end
end Mine
end
section
open PySem PySem.W PySem.W.X PyProof.Rows PySem.Calls Builtin Builtin.ObjectAttr
set_option Elab.async false
set_option maxRecDepth 100000
namespace Mine
def tHands : Txt := defOf' (nth top 14)
def tLast : Txt := defOf' (nth top 16)
section
variable {prog : Program} {w : World} {A : Around} {E : Value → Shared → Prop} {s : Shared} {h h' B : Heap} {g : Array GenState} {d : Drawn} {t : Nat} {os : OsState} {K : Frag}
/-- an instance of a class without a maker of its own: two objects more -/
theorem plain_made {C : Addr} {R : Result → Shared → Prop} (X : K.In h) (hm : makesIn K C = true) (hi : findIn K (.ref C) "__init__" = some (some (.builtin "object.__init__")))
    (k : ∀ h', Add 2 h h' → h'.get? (h.objs.size + 1) = some (instObj C h.objs.size) → h'.get? h.objs.size = some emptyDict → R (.ok (.ret (.ref (h.objs.size + 1)))) ⟨h', g, d, t, os⟩) :
    codeAny (model prog w) A (.call (.ref C) ⟨[], []⟩) R ⟨h, g, d, t, os⟩ := by
  have Y := makes_of (M := model prog w) X hm
  refine make_core Y (looks_findIn X hi) (fun self => Looks.of_pure (oi_bind self)) (.inr ⟨rfl, rfl⟩) ?_
  have kp : ∀ b o, h.get? b = some o → ((h.push emptyDict).push (instObj C h.objs.size)).get? b = some o := fun b o e => Heap.get?_push_of_some _ (Heap.get?_push_of_some _ e)
  have hx : ((h.push emptyDict).push (instObj C h.objs.size)).get? (h.objs.size + 1) = some (instObj C h.objs.size) := by heap_get
  have hdx : ((h.push emptyDict).push (instObj C h.objs.size)).get? h.objs.size = some emptyDict := Heap.get?_push_of_some _ (Heap.get?_push_size _ rfl)
  have ad : Add 2 h ((h.push emptyDict).push (instObj C h.objs.size)) := (Add.push _).trans (Add.push _)
  have t1 : Looks (model prog w) ((h.push emptyDict).push (instObj C h.objs.size)) (typeOf (.ref (h.objs.size + 1))) (.ref C) := (Looks.ld hx).andThen .now
  have t2 : Looks (model prog w) ((h.push emptyDict).push (instObj C h.objs.size)) (isInstance (.ref (h.objs.size + 1)) (.type "object")) true := t1.andThen (Y.top.keeps kp)
  refine codeAny_call_builtin oi_plain entry_oi (@check_slot (model prog w) _ _ _ "object.__init__" "object" "__init__" (.ref (h.objs.size + 1)) [] [] _ oi_kind oi_split t2 (oi_args (.ref (h.objs.size + 1))) ?_)
  rw [oi_run]
  exact wpAny_pure (And.intro rfl (k _ ad hx hdx))
/-- an attribute is stored in an empty dict of one's own, the heap told -/
theorem dict_stored {x C dx : Addr} {ox : Obj} {name : Str} {tk : Tok} {v : Value} {R : Result → Shared → Prop} (X : K.In h) (I : InstAt h x ox C (some emptyDict)) (hd : ox.dict = some dx) (hp : plainOver K C = true) (ht : takerIn K C name = some none) (hh : (clsIn K C).any (·.hasDict) = true)
    (k : ∀ h' od', Heap.SameBut dx h h' → h'.get? dx = some od' → od' = Obj.putName name (PyData.keyHash w.params name) (.str name t) v emptyDict → R (.ok (.ret .none)) ⟨h', g, d, t + 1, os⟩) :
    codeAny (model prog w) A (.call (.builtin "object.__setattr__") ⟨[.ref x, .str name tk, v], []⟩) R ⟨h, g, d, t, os⟩ := by
  refine osa_open (s := ⟨h, g, d, t, os⟩) X I hp ht fun b => ?_
  obtain ⟨cd, hc, hd'⟩ := any_some hh
  obtain ⟨hx, hcl, hn, hdx⟩ := I
  rw [hd] at hdx
  obtain ⟨oc, odi, oda, osl⟩ := ox
  dsimp only at hcl hd
  subst hcl hd
  have hdx : h.get? dx = some emptyDict := hdx
  refine wpAny_bind (wpAny_pure (wpAny_bind (wpAny_bind (wpAny_loadPart hx (wpAny_bind ((looks_clsIn X hc).at ?_))))))
  rw [hd']
  refine wpAny_pure (a := some dx) (wpAny_bind (wpAny_pure (wpAny_bind ?_)))
  unfold nsSet
  refine wpAny_bind (wpAny_bind (wpAny_askSetting (wpAny_pure (wpAny_bind (wpAny_mkText (wpAny_bind (wpAny_loadPart hdx ?_)))))))
  dsimp only
  have upd := Heap.get?_update_self (Obj.putName name (PyData.keyHash w.params name) (.str name t) v) hdx rfl
  rw [aRefKeyMayBeTheName_at]
  rw [if_neg (by simp)]
  refine wpAny_updatePart hdx ?_
  refine wpAny_bind (wpAny_lookBehind upd (by show _ = _; first | rfl | exact pastItsLine_dict (by decide)) ?_)
  exact wpAny_pure (k _ _ (Heap.SameBut.update ..) upd rfl)
end
end Mine
end
section
open PySem PySem.W PySem.W.X PyProof.Rows PySem.Calls Builtin Builtin.ObjectAttr
set_option Elab.async false
set_option maxRecDepth 100000
namespace Mine
section
variable {prog : Program} {w : World} {A : Around} {E : Value → Shared → Prop} {s : Shared} {h h' B : Heap} {g : Array GenState} {d : Drawn} {t : Nat} {os : OsState} {K : Frag}
/-- a class of handlers, as its making wants it -/
structure HMake (K : Frag) (C : Addr) : Prop where
  makes : makesIn K C = true
  init : findIn K (.ref C) "__init__" = some (some (.builtin "object.__init__"))
  set : findIn K (.ref C) "__setattr__" = some (some (.builtin "object.__setattr__"))
  over : plainOver K C = true
  taker : takerIn K C "handler_order" = some none
  dict : (clsIn K C).any (·.hasDict) = true
  keep : keepIn K (.ref C) = true
def orderDict (w : World) (t : Tok) (v : Value) : Obj := Obj.putName "handler_order" (PyData.keyHash w.params "handler_order") (.str "handler_order" t) v emptyDict
theorem hands_binds {nm qual : Str} {cl : List (Str × Addr)} {doc pm cd ct a : Value} {an : Option Addr} :
    bindArgs (fnX nm qual tHands.params tHands.body tHands.scope cl .none .none doc pm an cd ct) ⟨[a], []⟩ = (pure [(("keys" : Str), a)] : Sem _) := by kernel_rfl
/-- x.handler_order = v -/
theorem order_set {C x dx : Addr} {v : Value} {Q : Unit → Shared → Prop} (X : K.In h) (Y : HMake K C) (hx : h.get? x = some (instObj C dx)) (hdx : h.get? dx = some emptyDict)
    (k : ∀ h' t', Heap.SameBut dx h h' → (∃ u, h'.get? dx = some (orderDict w u v)) → Q () ⟨h', g, d, t', os⟩) : wpAny (model prog w) A (setAttr (.ref x) "handler_order" v) Q E ⟨h, g, d, t, os⟩ := by
  have I : InstAt h x (instObj C dx) C (some emptyDict) := ⟨hx, rfl, rfl, hdx⟩
  exact set_plain (s := ⟨h, g, d, t, os⟩) X I Y.set (dict_stored X I rfl Y.over Y.taker Y.dict fun h' od sb e eo => k h' _ sb ⟨_, eo ▸ e⟩)
theorem handlers_made {fn la C0 C1 k0 k1 : Addr} {mg mb : Str → Option Value} {Q : Value → Shared → Prop} (hd : A.depth < recursionLimit) (G : Glob h mg mb) (i0 : mg "BaseHandler" = some (.ref C0)) (i1 : mg "HTTPErrorProcessor" = some (.ref C1)) (X : K.In h) (Y0 : HMake K C0) (Y1 : HMake K C1)
    (Df : DefAt h tHands fn) (hl : h.IsList la #[.ref k0, .ref k1])
    (k : ∀ h' t', Add 6 h h' → h'.get? (h.objs.size + 2) = some (instObj C0 (h.objs.size + 1)) → h'.get? (h.objs.size + 4) = some (instObj C1 (h.objs.size + 3)) → (∃ u, h'.get? (h.objs.size + 1) = some (orderDict w u (.ref k0))) → (∃ u, h'.get? (h.objs.size + 3) = some (orderDict w u (.ref k1))) →
      h'.PlainList (h.objs.size + 5) #[.ref (h.objs.size + 2), .ref (h.objs.size + 4)] → Q (.ref (h.objs.size + 5)) ⟨h', g, d, t', os⟩) :
    wpAny (model prog w) A (PySem.call (.ref fn) [.ref la]) Q E ⟨h, g, d, t, os⟩ := by
  obtain ⟨nm, qual, od, osl, doc, pm, cd, ct, an, hf, hcd⟩ := Df
  refine wpAny_call (codeAny_call_function hd hf rfl rfl rfl rfl hcd ?_)
  rw [hands_binds]
  refine wpAny_pure (wpAny_newFunctionEnv (show ∀ x ∈ tHands.scope.names, x.2 ≠ .cell by decide) (by
    intro y hy
    simp only [List.mem_cons, List.not_mem_nil, or_false] at hy
    rcases hy with rfl; rfl) (fun h₁ hns hsb => ⟨(G.lim).fresh _ hsb, codeAny_func ?_⟩) rfl)
  refine wpAny_mono (Q := fun fl s' => Q (match fl with | .ret v => v | _ => .none) s') (E := fun _ _ => False) ?_ (fun fl s' x => x) (fun _ _ x => x.elim)
  show wpAny _ (A.deeper (envX qual tHands.scope h.objs.size fn cd [])) (execs tHands.body (envX qual tHands.scope h.objs.size fn cd [])) _ _ _
  generalize A.deeper (envX qual tHands.scope h.objs.size fn cd []) = A'
  have a1 : Add 1 h h₁ := ⟨fun b o e => (hsb.2 b (Nat.ne_of_lt (Heap.lt_size e))).trans (Heap.get?_push_of_some _ e), by rw [hsb.1, Heap.size_push]⟩
  dsimp only at hns
  generalize hL : h.objs.size = L at hns k ⊢
  clear hsb
  -- made = [BaseHandler(), HTTPErrorProcessor()]
  refine wpAny_execs_cons (wpAny_Assign_Name (wpAny_List (wpAny_items_cons ?_)) rfl)
  refine Call_Name0 (b_glob G a1.keep i0 (callWith_K0 (env := envX qual tHands.scope L fn cd []) (X.keeps a1.keep) Y0.keep (wpAny_call (plain_made (X.keeps a1.keep) Y0.makes Y0.init fun h₂ a2 x2 d2 => ?_))))
  have e1 : h₁.objs.size = L + 1 := by rw [a1.size, hL]
  rw [e1] at x2 d2 ⊢
  have A2 := a1.trans a2
  refine wpAny_items_cons ?_
  refine Call_Name0 (b_glob G A2.keep i1 (callWith_K0 (env := envX qual tHands.scope L fn cd []) (X.keeps A2.keep) Y1.keep (wpAny_call (plain_made (X.keeps A2.keep) Y1.makes Y1.init fun h₃ a3 x3 d3 => ?_))))
  have e2 : h₂.objs.size = L + 3 := by rw [A2.size, hL]
  rw [e2] at x3 d3 ⊢
  have A3 := A2.trans a3
  have e3 : h₃.objs.size = L + 5 := by rw [A3.size, hL]
  refine wpAny_items_nil ⟨by show (2 : Nat) ≤ sizeLine; decide, ?_⟩
  have lp : (h₃.push { cls := .type "list", data := .seq [Value.ref (L + 2), .ref (L + 4)].toArray }).PlainList (L + 5) [Value.ref (L + 2), .ref (L + 4)].toArray := ⟨0, by rw [← e3]; exact Heap.get?_push_size _ rfl⟩
  have A4 := A3.trans (Add.push { cls := .type "list", data := .seq [Value.ref (L + 2), .ref (L + 4)].toArray })
  have ns4 := ((hns.keeps a2.keep).keeps a3.keep).push { cls := .type "list", data := .seq [Value.ref (L + 2), .ref (L + 4)].toArray }
  have pu : ∀ b o, h₃.get? b = some o → (h₃.push { cls := .type "list", data := .seq [Value.ref (L + 2), .ref (L + 4)].toArray }).get? b = some o := fun _ _ e => Heap.get?_push_of_some _ e
  replace x2 := pu _ _ (a3.keep _ _ x2)
  replace d2 := pu _ _ (a3.keep _ _ d2)
  replace x3 := pu _ _ x3
  replace d3 := pu _ _ d3
  dsimp only
  rw [e3]
  clear pu a2 a3 A2 A3 a1 e1 e2 hns
  generalize h₃.push { cls := .type "list", data := .seq [Value.ref (L + 2), .ref (L + 4)].toArray } = h₄ at lp A4 ns4 x2 d2 x3 d3 ⊢
  clear e3
  refine wpAny_storeName_local rfl ns4 (fun h₅ ns5 sb5 => ?_) rfl
  have nL : ∀ i : Nat, L + (i + 1) ≠ L := fun i z => by have z : L + (i + 1) = L := z; omega
  have A5 := A4.same sb5 (Nat.le_of_eq hL)
  replace lp := lp.at (h' := h₅) fun o e => (sb5.2 _ (nL 4)).trans e
  replace x2 := (sb5.2 _ (nL 1)).trans x2
  replace d2 := (sb5.2 _ (nL 0)).trans d2
  replace x3 := (sb5.2 _ (nL 3)).trans x3
  replace d3 := (sb5.2 _ (nL 2)).trans d3
  clear sb5 ns4
  -- made[0].handler_order = keys[0]
  have nm : ∀ {h' : Heap} {x : Str} {a : Addr} {pos : Pos} {t : Nat} {Q : Value → Shared → Prop} {m : Str → Option Value} (_ : h'.Ns L m) (_ : tHands.scope.names.lookup x = some .local) (_ : m x = some (.ref a)) (_ : (x == ("__debug__" : Str)) = false), Q (.ref a) ⟨h', g, d, t, os⟩ →
      wpAny (model prog w) A' (eval (.Name x pos) (envX qual tHands.scope L fn cd [])) Q (fun _ _ => False) ⟨h', g, d, t, os⟩ := fun n hl hv hd q => wpAny_Name (wpAny_loadName_local rfl hl n hv q) hd
  refine wpAny_execs_cons (plainObj_wpAny_Assign_Attribute (Subscript_Constant (nm ns5 rfl rfl (by decide) (v_int fun _ _ => item_of (isList_keeps hl A5.keep) (by decide) (by decide) rfl ?_))) rfl)
  refine Subscript_Constant (nm ns5 rfl rfl (by decide) (v_int fun _ _ => item_of lp.isList (by decide) (by decide) rfl ?_))
  refine order_set (X.keeps A5.keep) Y0 x2 d2 fun h₆ t₆ sb6 d2 => ?_
  have A6 := A5.same sb6 (by rw [hL]; exact Nat.le_succ _)
  have n1 : ∀ i : Nat, L + (i + 2) ≠ L + 1 := fun i z => by have z : L + (i + 2) = L + 1 := z; omega
  replace lp := lp.at (h' := h₆) fun o e => (sb6.2 _ (n1 3)).trans e
  replace x2 := (sb6.2 _ (n1 0)).trans x2
  replace x3 := (sb6.2 _ (n1 2)).trans x3
  replace d3 := (sb6.2 _ (n1 1)).trans d3
  replace ns5 := ns5.sameBut sb6 (fun z => nL 0 z.symm)
  clear sb6
  refine wpAny_execs_cons (plainObj_wpAny_Assign_Attribute (Subscript_Constant (nm ns5 rfl rfl (by decide) (v_int fun _ _ => item_of (isList_keeps hl A6.keep) (by decide) (by decide) rfl ?_))) rfl)
  refine Subscript_Constant (nm ns5 rfl rfl (by decide) (v_int fun _ _ => item_of lp.isList (by decide) (by decide) rfl ?_))
  refine order_set (X.keeps A6.keep) Y1 x3 d3 fun h₇ t₇ sb7 d3 => ?_
  have A7 := A6.same sb7 (by rw [hL]; exact Nat.le_add_right _ _)
  have n3 : ∀ i : Nat, L + (i + 4) ≠ L + 3 := fun i z => by have z : L + (i + 4) = L + 3 := z; omega
  replace lp := lp.at (h' := h₇) fun o e => (sb7.2 _ (n3 1)).trans e
  replace x2 := (sb7.2 _ (n1 0 |> fun _ z => by have z : L + 2 = L + 3 := z; omega)).trans x2
  replace x3 := (sb7.2 _ (n3 0)).trans x3
  replace d2 : ∃ u, h₇.get? (L + 1) = some (orderDict w u (.ref k0)) := let ⟨u, e⟩ := d2; ⟨u, (sb7.2 _ (fun z => by have z : L + 1 = L + 3 := z; omega)).trans e⟩
  replace ns5 := ns5.sameBut sb7 (fun z => nL 2 z.symm)
  refine wpAny_execs_cons (wpAny_Return_some (nm ns5 rfl rfl (by decide) ?_))
  exact k h₇ _ A7 x2 x3 d2 d3 lp
end
end Mine
end
section
open PySem PySem.W PySem.W.X PyProof.Rows PySem.Calls Builtin Builtin.ObjectAttr
set_option Elab.async false
set_option maxRecDepth 100000
namespace Mine
theorem holds_of : ∀ {t : KT} {h : Heap} {s b : Nat}, (∀ j o, t.get j = some o → h.get? (s * j + b) = some o) → KT.Holds h s b t
  | .nil, _, _, _, _ => trivial
  | .node v l r, h, s, b, k => by
    refine ⟨fun o e => ?_, holds_of fun j o e => ?_, holds_of fun j o e => ?_⟩
    · have := k 0 o (by rw [KT.get_node, if_pos rfl]; exact e)
      rwa [Nat.mul_zero, Nat.zero_add] at this
    · have := k (2 * j + 1) o (by rw [KT.get_node, if_neg (by omega), if_pos (by omega), show (2 * j + 1) / 2 = j by omega]; exact e)
      rw [show 2 * s * j + (s + b) = s * (2 * j + 1) + b by rw [Nat.mul_add, Nat.mul_one, ← Nat.mul_assoc, Nat.mul_comm s 2]; omega]
      exact this
    · have := k (2 * j + 2) o (by rw [KT.get_node, if_neg (by omega), if_neg (by omega), show (2 * j + 2) / 2 - 1 = j by omega]; exact e)
      rw [show 2 * s * j + (2 * s + b) = s * (2 * j + 2) + b by rw [Nat.mul_add, ← Nat.mul_assoc, Nat.mul_comm s 2]; omega]
      exact this
/-- a tree of objects holds on, but for what it does not name -/
theorem holds_keep {h h' : Heap} {K : KT} (H : KT.Holds h 1 0 K) (S : List Nat) (hk : ∀ b o, b ∉ S → h.get? b = some o → h'.get? b = some o) (e : S.all (fun a => (K.get a).isNone) = true) : KT.Holds h' 1 0 K := by
  refine holds_of fun j o hj => ?_
  have := H.get hj
  rw [Nat.one_mul, Nat.add_zero] at this ⊢
  refine hk _ _ (fun hm => ?_) this
  have z := List.all_eq_true.mp e _ hm
  rw [hj] at z; cases z
theorem kt_at {h : Heap} {K : KT} (H : KT.Holds h 1 0 K) (a : Addr) (e : (K.get a).isSome = true) : h.get? a = some ⟨((K.get a).getD default).cls, ((K.get a).getD default).dict, ((K.get a).getD default).data, ((K.get a).getD default).slots⟩ := by
  obtain ⟨o, ho⟩ := Option.isSome_iff_exists.mp e
  rw [ho]
  have := H.get ho
  rwa [Nat.one_mul, Nat.add_zero] at this
theorem left0 {P : Prop} (h : P) (_ : (0 : Nat) ≤ 0) : P := h
abbrev AX : Around := { depth := 320, units := 3000 }
theorem widen {α : Type} {M : Model} {A : Around} {t : Sem α} {Q : α → Shared → Prop} {E : Value → Shared → Prop} {s : Shared} (hh : A.handled = none) (hd : A.depth ≤ 320) (hu : A.units ≤ 3000) (x : wpAny M AX t Q E s) : wpAny M A t Q E s :=
  fun Γ p hΓ => x Γ p ⟨hΓ.1.trans hh, Nat.le_trans hΓ.2.1 hd, fun _ e => (nomatch e), fun _ e => (nomatch e), Nat.le_trans hΓ.2.2.2.2 hu⟩
/-- what comes after _law_comparison, called at the heap's size 299 -/
def AfterC (hh : Heap) (d : Drawn) (os : OsState) (Q : Value → Shared → Prop) : Prop :=
  ∀ (h' : Heap) (t' : Nat) (K : Frag), K.In h' → FnIs K tTold [("things", 302), ("asked", 301), ("answers", 300)] 310 → (fdOf K 310).code = .ref 309 →
    K.lookup 302 = some { cls := .type "cell", data := .cell (some (.ref 256)) } → K.lookup 301 = some { cls := .type "cell", data := .cell (some (.ref 253)) } → K.lookup 300 = some { cls := .type "cell", data := .cell (some (.ref 291)) } →
    h'.objs.size = 311 → (∀ x o, x ∉ [160] → hh.get? x = some o → h'.get? x = some o) → (∃ vs, h'.get? 160 = some (tableObj vs)) → Q (.ref 310) ⟨h', #[], d, t', os⟩
end Mine
end
section
open PySem PySem.W PySem.W.X PyProof.Rows PySem.Calls Builtin Builtin.ObjectAttr
set_option Elab.async false
set_option maxRecDepth 100000
namespace Mine
def fld (K : Frag) (a i : Nat) : Value := match (K.lookup a : Option Obj) with
  | some ⟨_, _, .fields vs, _⟩ => vs.getD i .none
  | _ => .none
/-- the code of K's class statement, once it is made -/
def codeK (v : Nat → Value) : Obj := { cls := .type "code", data := .fields #[v 0, v 1, v 2, v 3, v 4, v 5, v 6, v 7, v 8, v 9, v 10, .ref 317, v 12, v 13, v 14, v 15, v 16, v 17, v 18] }
def tabK : Obj := { cls := .none, data := .fields #[.int 26 0, .int 8 0, .ref 326, .int 29 0, .int 8 0, .ref 334, .int 32 0, .int 8 0, .ref 342, .int 35 0, .int 8 0, .ref 350, .int 38 0, .int 8 0, .ref 358, .int 41 0, .int 8 0, .ref 366] }
/-- the code of a def, of the qualified name q -/
def codeQ (q : Str) (t : Nat) (v : Nat → Value) : Obj := { cls := .type "code", data := .fields #[v 0, .str q t, v 2, v 3, v 4, v 5, v 6, v 7, v 8, v 9, v 10, v 11, v 12, v 13, v 14, v 15, v 16, v 17, v 18] }
def qK (s : Str) : Str := ("cmp_to_key.<locals>.K." : Str) ++ s
def strTok (K : Frag) (a : Nat) : Nat := match fld K a 1 with
  | .str _ t => t
  | _ => 0
def QsAt (h : Heap) (t : Nat → Nat) (v : Nat → Nat → Value) : Prop := h.get? 326 = some (codeQ (qK "__init__") (t 0) (v 0)) ∧ h.get? 334 = some (codeQ (qK "__lt__") (t 1) (v 1)) ∧ h.get? 342 = some (codeQ (qK "__gt__") (t 2) (v 2)) ∧ h.get? 350 = some (codeQ (qK "__eq__") (t 3) (v 3)) ∧ h.get? 358 = some (codeQ (qK "__le__") (t 4) (v 4)) ∧ h.get? 366 = some (codeQ (qK "__ge__") (t 5) (v 5))
def CodeQs (h : Heap) : Prop := ∃ (t : Nat → Nat) (v : Nat → Nat → Value), QsAt h t v
def codesK (t : Nat → Nat) (v : Nat → Nat → Value) : Frag := [(326, codeQ (qK "__init__") (t 0) (v 0)), (334, codeQ (qK "__lt__") (t 1) (v 1)), (342, codeQ (qK "__gt__") (t 2) (v 2)), (350, codeQ (qK "__eq__") (t 3) (v 3)), (358, codeQ (qK "__le__") (t 4) (v 4)), (366, codeQ (qK "__ge__") (t 5) (v 5))]
theorem QsAt.keeps {h h' : Heap} {t : Nat → Nat} {v : Nat → Nat → Value} (x : QsAt h t v) (k : ∀ b o, h.get? b = some o → h'.get? b = some o) : QsAt h' t v := ⟨k _ _ x.1, k _ _ x.2.1, k _ _ x.2.2.1, k _ _ x.2.2.2.1, k _ _ x.2.2.2.2.1, k _ _ x.2.2.2.2.2⟩
theorem in_append {K L : Frag} {h : Heap} (x : K.In h) (y : L.In h) : Frag.In (K ++ L) h := by
  intro a o e
  rw [List.lookup_append] at e
  cases q : List.lookup a K with
  | none => rw [q] at e; exact y _ _ e
  | some z => rw [q] at e; cases e; exact x _ _ q
theorem codes_in {h : Heap} {t : Nat → Nat} {v : Nat → Nat → Value} (x : QsAt h t v) : (codesK t v).In h := by
  obtain ⟨e0, e1, e2, e3, e4, e5⟩ := x
  intro a o e
  have hm := lookup_mem e
  simp only [codesK, List.mem_cons, List.not_mem_nil, or_false, Prod.mk.injEq] at hm
  rcases hm with ⟨rfl, rfl⟩ | ⟨rfl, rfl⟩ | ⟨rfl, rfl⟩ | ⟨rfl, rfl⟩ | ⟨rfl, rfl⟩ | ⟨rfl, rfl⟩ <;> assumption
theorem codeQsMk {K : Frag} {h : Heap} (X : K.In h) (e : ([(326, ("__init__" : Str)), (334, "__lt__"), (342, "__gt__"), (350, "__eq__"), (358, "__le__"), (366, "__ge__")] : List (Addr × Str)).map (fun p => K.lookup p.1) = ([(326, ("__init__" : Str)), (334, "__lt__"), (342, "__gt__"), (350, "__eq__"), (358, "__le__"), (366, "__ge__")] : List (Addr × Str)).map (fun p => some (codeQ (qK p.2) (strTok K p.1) (fld K p.1)))) : CodeQs h := by
  simp only [List.map, List.cons.injEq, and_true] at e
  obtain ⟨e0, e1, e2, e3, e4, e5⟩ := e
  exact ⟨fun i => strTok K (326 + 8 * i), fun i => fld K (326 + 8 * i), X _ _ e0, X _ _ e1, X _ _ e2, X _ _ e3, X _ _ e4, X _ _ e5⟩
def CodesAt (h : Heap) : Prop := CodeQs h ∧ h.get? 44 = some { cls := .none, data := .fields #[.int 22 0, .int 4 0, .ref 318] } ∧ (∃ v, h.get? 318 = some (codeK v)) ∧ h.get? 317 = some tabK
theorem codesMk {K : Frag} {h : Heap} (X : K.In h) (e44 : h.get? 44 = some (tableObj #[.int 22 0, .int 4 0, .ref 318])) (e1 : K.lookup 318 = some (codeK (fld K 318))) (e2 : K.lookup 317 = some tabK) (e3 : ([(326, ("__init__" : Str)), (334, "__lt__"), (342, "__gt__"), (350, "__eq__"), (358, "__le__"), (366, "__ge__")] : List (Addr × Str)).map (fun p => K.lookup p.1) = ([(326, ("__init__" : Str)), (334, "__lt__"), (342, "__gt__"), (350, "__eq__"), (358, "__le__"), (366, "__ge__")] : List (Addr × Str)).map (fun p => some (codeQ (qK p.2) (strTok K p.1) (fld K p.1)))) : CodesAt h := ⟨codeQsMk X e3, e44, ⟨_, X _ _ e1⟩, X _ _ e2⟩
/-- more that is wanted of a class of keys -/
structure KXtra (K : Frag) (C : Addr) : Prop where
  sub0 : subIn K (.ref C) (.ref 80) = some false
  sub1 : subIn K (.ref C) (.ref 101) = some false
  miss : findObj K C (some emptyDict) "handler_order" = some .missing
  name : (clsIn K C).map (·.name) = some "K"
  nf : notFirst K C (.type "int") = true
  hid : [252, 253, 207, 214, 382, 390].all (fun a => (K.lookup a).isNone) = true
/-- what comes after the first class is made -/
def AfterK1 (hh : Heap) (d : Drawn) (os : OsState) (Q : Value → Shared → Prop) : Prop :=
  ∀ (h' : Heap) (t' : Nat) (K : Frag), K.In h' → KGood K 371 372 327 (fnOf 311) 312 310 → KMake K 371 372 327 → KXtra K 371 → keepIn K (.ref 371) = true → specialIn K (.ref 371) "__getattribute__" = some (some (.builtin "type.__getattribute__")) → readsIn K 371 (.type "type") = true →
    findCls K (.ref 371) (.type "type") "__lt__" = some (.val (.ref 335)) → mroIn K 371 (.type "module") = some false → CodesAt h' → h'.objs.size = 375 → (∀ x o, x ∉ [44] → hh.get? x = some o → h'.get? x = some o) → Q (.ref 371) ⟨h', #[], d, t', os⟩
end Mine
end
section
open PySem PySem.W PySem.W.X PyProof.Rows PySem.Calls Builtin Builtin.ObjectAttr
set_option Elab.async false
set_option maxRecDepth 100000
namespace Mine
def fnOf2 (b : Nat) : CmpOp → Addr
  | .Lt => b + 9
  | .Gt => b + 11
  | .Eq => b + 13
  | .LtE => b + 15
  | .GtE => b + 17
  | _ => 0
/-- what comes after a later class is made, at the heap's size b -/
def AfterK2 (hh : Heap) (d : Drawn) (os : OsState) (b : Nat) (Q : Value → Shared → Prop) : Prop :=
  ∀ (h' : Heap) (t' : Nat) (K : Frag), K.In h' → KGood K (b + 21) (b + 22) (b + 7) (fnOf2 b) (b + 1) 172 → KMake K (b + 21) (b + 22) (b + 7) → KXtra K (b + 21) → keepIn K (.ref (b + 21)) = true → specialIn K (.ref (b + 21)) "__getattribute__" = some (some (.builtin "type.__getattribute__")) → readsIn K (b + 21) (.type "type") = true →
    findCls K (.ref (b + 21)) (.type "type") "__lt__" = some (.val (.ref (b + 9))) → mroIn K (b + 21) (.type "module") = some false → h'.objs.size = b + 25 → (∀ x o, hh.get? x = some o → h'.get? x = some o) → Q (.ref (b + 21)) ⟨h', #[], d, t', os⟩
theorem rep_all {V : XV} {h : Heap} {T : BT} {m : Nat} {ch : Ch} (D : Rep V h T m ch) (e : ch = []) : ∀ b o, V.h₀.get? b = some o → h.get? b = some o := fun b o he => D.keep b o he (by subst e; rfl)
end Mine
end
section
open PySem PySem.W PySem.W.X PyProof.Rows PySem.Calls Builtin Builtin.ObjectAttr
set_option Elab.async false
set_option maxRecDepth 100000
namespace Mine
section
variable {prog : Program} {w : World} {A : Around} {E : Value → Shared → Prop} {s : Shared} {h h' B B' : Heap} {g : Array GenState} {d : Drawn} {t : Nat} {os : OsState} {K : Frag} {q : Addr} {l l' : List (Int × Int)}
theorem Ok.sub (O : Ok B' q l h) (k : ∀ b o, B.get? b = some o → B'.get? b = some o) : Ok B q l h :=
  ⟨fun b o e => O.keep b o (k b o e), (by
    cases e : B.get? q with
    | none => rfl
    | some o => have := k _ _ e; rw [O.off] at this; exact (nomatch this)), O.asked, O.few⟩
theorem Ok.lift (O : Ok B' q l h) (O' : Ok B q l' h') (bt : But q h h') : Ok B' q l' h' :=
  ⟨fun b o e => bt b o (fun z => by subst z; exact (nomatch (O.off.symm.trans e))) (O.keep b o e), O.off, O'.asked, O'.few⟩
theorem Does.base {n : Nat} {f : Value} {args : List Value} {P : Value → Prop} {L : List (Int × Int)} (x : Does n prog w B q f args P L) (k : ∀ b o, B.get? b = some o → B'.get? b = some o) : Does n prog w B' q f args P L :=
  fun A E Q h g d t os l R O hl hQ => x A E Q h g d t os l R (O.sub k) hl fun v h' t' pv o' b' => hQ v h' t' pv (O.lift o' b') b'
theorem DoesOp.base {n : Nat} {op : CmpOp} {a b : Value} {P : Value → Prop} {L : List (Int × Int)} (x : DoesOp n prog w B q op a b P L) (k : ∀ b o, B.get? b = some o → B'.get? b = some o) : DoesOp n prog w B' q op a b P L :=
  fun A E Q h g d t os l R O hl hQ => x A E Q h g d t os l R (O.sub k) hl fun v h' t' pv o' b' => hQ v h' t' pv (O.lift o' b') b'
/-- an attribute is stored in a dict of one's own -/
theorem dict_storedG {x C dx : Addr} {ox od : Obj} {name : Str} {tk : Tok} {v : Value} {es : Array DictEntry} {n : Nat} {R : Result → Shared → Prop} (X : K.In h) (I : InstAt h x ox C (some od)) (hd : ox.dict = some dx) (hp : plainOver K C = true) (ht : takerIn K C name = some none) (hh : (clsIn K C).any (·.hasDict) = true)
    (hdd : od.data = .dict es n) (hr : (!es.any (·.key.isStr name) && es.any (·.refKey)) = false) (hz : (Obj.putName name (PyData.keyHash w.params name) (.str name t) v od).data.pastItsLine = none) (hf : (Obj.putName name (PyData.keyHash w.params name) (.str name t) v od).isFreed = false)
    (k : ∀ h', Heap.SameBut dx h h' → h'.get? dx = some (Obj.putName name (PyData.keyHash w.params name) (.str name t) v od) → R (.ok (.ret .none)) ⟨h', g, d, t + 1, os⟩) :
    codeAny (model prog w) A (.call (.builtin "object.__setattr__") ⟨[.ref x, .str name tk, v], []⟩) R ⟨h, g, d, t, os⟩ := by
  refine osa_open (s := ⟨h, g, d, t, os⟩) X I hp ht fun b => ?_
  obtain ⟨cd, hc, hd'⟩ := any_some hh
  obtain ⟨hx, hcl, hn, hdx⟩ := I
  rw [hd] at hdx
  obtain ⟨oc, odi, oda, osl⟩ := ox
  dsimp only at hcl hd
  subst hcl hd
  have hdx : h.get? dx = some od := hdx
  refine wpAny_bind (wpAny_pure (wpAny_bind (wpAny_bind (wpAny_loadPart hx (wpAny_bind ((looks_clsIn X hc).at ?_))))))
  rw [hd']
  refine wpAny_pure (a := some dx) (wpAny_bind (wpAny_pure (wpAny_bind ?_)))
  unfold nsSet
  refine wpAny_bind (wpAny_bind (wpAny_askSetting (wpAny_pure (wpAny_bind (wpAny_mkText (wpAny_bind (wpAny_loadPart hdx ?_)))))))
  rw [hdd]
  dsimp only
  have upd := Heap.get?_update_self (Obj.putName name (PyData.keyHash w.params name) (.str name t) v) hdx hf
  rw [aRefKeyMayBeTheName_at, hr]
  rw [if_neg (by simp)]
  refine wpAny_updatePart hdx ?_
  refine wpAny_bind (wpAny_lookBehind upd hz ?_)
  exact wpAny_pure (k _ (Heap.SameBut.update ..) upd)
structure BMake (K : Frag) (C ini : Addr) : Prop where
  makes : makesIn K C = true
  init : findIn K (.ref C) "__init__" = some (some (.ref ini))
  fn : typeIn K (.ref ini) = some (.type "function")
  set : findIn K (.ref C) "__setattr__" = some (some (.builtin "object.__setattr__"))
  over : plainOver K C = true
  takerP : takerIn K C "passwd" = some none
  takerO : takerIn K C "handler_order" = some none
  dict : (clsIn K C).any (·.hasDict) = true
  keep : keepIn K (.ref C) = true
def passDict (w : World) (t : Tok) (v : Value) : Obj := Obj.putName "passwd" (PyData.keyHash w.params "passwd") (.str "passwd" t) v emptyDict
def bearerDict (w : World) (t t' : Tok) (p v : Value) : Obj := Obj.putName "handler_order" (PyData.keyHash w.params "handler_order") (.str "handler_order" t') v (passDict w t p)
def tMgrInit : Txt := defOf' (nth (bodyOf' (nth top 9)) 0)
theorem mgr_binds {nm qual : Str} {cl : List (Str × Addr)} {doc pm cd ct a : Value} {an : Option Addr} :
    bindArgs (fnX nm qual tMgrInit.params tMgrInit.body tMgrInit.scope cl .none .none doc pm an cd ct) ⟨[a], []⟩ = (pure [(("self" : Str), a)] : Sem _) := by kernel_rfl
/-- HTTPPasswordMgr(): four objects more -/
theorem mgr_made {C ini : Addr} {Q : Value → Shared → Prop} (X : K.In h) (lim : h.NoLimit) (Y : BMake K C ini) (I : FnIs K tMgrInit [] ini) (hd : (A.under (.builtin "type.__call__" ⟨[.ref C], []⟩)).depth < recursionLimit)
    (k : ∀ h' t' t1 p, Add 4 h h' → h'.get? (h.objs.size + 1) = some (instObj C h.objs.size) → h'.get? h.objs.size = some (passDict w t1 (.ref p)) → Q (.ref (h.objs.size + 1)) ⟨h', g, d, t', os⟩) :
    wpAny (model prog w) A (PySem.call (.ref C) []) Q E ⟨h, g, d, t, os⟩ := by
  refine wpAny_call (make_core (makes_of X Y.makes) (looks_findIn X Y.init) (fun self => bind_fn X self Y.fn) (.inl rfl) ?_)
  obtain ⟨hf, hcn⟩ := I
  have kp : ∀ b o, h.get? b = some o → ((h.push emptyDict).push (instObj C h.objs.size)).get? b = some o := fun b o e => Heap.get?_push_of_some _ (Heap.get?_push_of_some _ e)
  have hrec := FnIs.rec ⟨hf, hcn⟩ X
  have hx : ((h.push emptyDict).push (instObj C h.objs.size)).get? (h.objs.size + 1) = some (instObj C h.objs.size) := by heap_get
  have hdx : ((h.push emptyDict).push (instObj C h.objs.size)).get? h.objs.size = some emptyDict := Heap.get?_push_of_some _ (Heap.get?_push_size _ rfl)
  have ad : Add 2 h ((h.push emptyDict).push (instObj C h.objs.size)) := (Add.push _).trans (Add.push _)
  generalize (h.push emptyDict).push (instObj C h.objs.size) = h₁ at kp hx hdx ad ⊢
  have hfn := kp _ _ (X _ _ hf)
  generalize A.under (.builtin "type.__call__" ⟨[.ref C], []⟩) = A' at hd ⊢
  refine codeAny_call_function hd hfn rfl rfl rfl rfl (hrec.keeps kp) ?_
  rw [mgr_binds]
  refine wpAny_pure (wpAny_newFunctionEnv (show ∀ x ∈ tMgrInit.scope.names, x.2 ≠ .cell by decide) (by
    intro y hy
    simp only [List.mem_cons, List.not_mem_nil, or_false] at hy
    rcases hy with rfl; rfl) (fun h₂ hns hsb => ⟨(lim.keeps kp).fresh _ hsb, codeAny_func ?_⟩) rfl)
  refine wpAny_mono (Q := fun fl s' => (match fl with | .ret v => v | _ => .none) = Value.none ∧ Q (.ref (h.objs.size + 1)) s') (E := fun _ _ => False) ?_ (fun fl s' x => by cases fl <;> exact x) (fun _ _ x => x.elim)
  show wpAny _ (A'.deeper (envX (fdOf K ini).qualname tMgrInit.scope h₁.objs.size ini (fdOf K ini).code [])) (execs tMgrInit.body (envX (fdOf K ini).qualname tMgrInit.scope h₁.objs.size ini (fdOf K ini).code [])) _ _ _
  have kp2 : ∀ b o, h₁.get? b = some o → h₂.get? b = some o := fun b o e => (hsb.2 b (Nat.ne_of_lt (Heap.lt_size e))).trans (Heap.get?_push_of_some _ e)
  have ad2 : Add 3 h h₂ := ⟨fun b o e => kp2 _ _ (kp b o e), by rw [hsb.1, Heap.size_push, ad.size]⟩
  have hx2 := kp2 _ _ hx
  have hdx2 := kp2 _ _ hdx
  clear kp kp2 hx hdx ad hfn hsb
  refine wpAny_execs_cons (plainObj_wpAny_Assign_Attribute ?_ rfl)
  refine wpAny_Dict_empty ?_
  have ad3 := ad2.trans (Add.push { cls := .type "dict", data := .dict #[] })
  have hx3 := Heap.get?_push_of_some { cls := .type "dict", data := .dict #[] } hx2
  have hdx3 := Heap.get?_push_of_some { cls := .type "dict", data := .dict #[] } hdx2
  have ns3 := hns.push { cls := .type "dict", data := .dict #[] }
  dsimp only at ns3 ⊢
  generalize h₂.objs.size = p
  generalize h₂.push { cls := .type "dict", data := .dict #[] } = h₃ at ad3 hx3 hdx3 ns3 ⊢
  refine wpAny_Name (wpAny_loadName_local rfl rfl ns3 rfl ?_) (by decide)
  have X3 := X.keeps ad3.keep
  have I3 : InstAt h₃ (h.objs.size + 1) (instObj C h.objs.size) C (some emptyDict) := ⟨hx3, rfl, rfl, hdx3⟩
  refine set_plain (s := ⟨h₃, g, d, _, os⟩) X3 I3 Y.set (dict_storedG X3 I3 rfl Y.over Y.takerP Y.dict rfl (by simp) (pastItsLine_dict (by show 1 ≤ sizeLine + 1; decide)) rfl fun h₄ sb e => ?_)
  refine wpAny_execs_nil ⟨rfl, k h₄ _ _ p (ad3.same sb (Nat.le_refl _)) ((sb.2 _ (Nat.ne_of_gt (Nat.lt_succ_self _))).trans hx3) e⟩
end
end Mine
end
section
open PySem PySem.W PySem.W.X PyProof.Rows PySem.Calls Builtin Builtin.ObjectAttr
set_option Elab.async false
set_option maxRecDepth 100000
namespace Mine
section
variable {prog : Program} {w : World} {A : Around} {E : Value → Shared → Prop} {s : Shared} {h h' B B' : Heap} {g : Array GenState} {d : Drawn} {t : Nat} {os : OsState} {K : Frag} {q : Addr} {l l' : List (Int × Int)}
theorem bearer_binds {nm qual : Str} {cl : List (Str × Addr)} {doc pm cd ct a : Value} {an : Option Addr} :
    bindArgs (fnX nm qual tBearer.params tBearer.body tBearer.scope cl .none .none doc pm an cd ct) ⟨[a], []⟩ = (pure [(("key" : Str), a)] : Sem _) := by kernel_rfl
theorem notTup_dict {a : Addr} {o : Obj} (g : h.get? a = some o) (c : o.cls = .type "dict") : ∀ x, h.get? a = some x → isTup x = false := by
  intro x e
  obtain rfl := Option.some.inj (g.symm.trans e)
  unfold isTup; rw [c]; split
  · rename_i n _ _ e1 _; cases e1; rfl
  · rfl
theorem bearer_does {fn C ini kx : Addr} {mg mb : Str → Option Value} (G : Glob B mg mb) (i1 : mg "HTTPPasswordMgr" = some (.ref C)) (X : K.In B) (Y : BMake K C ini) (I : FnIs K tMgrInit [] ini) (D : DefAt B tBearer fn) :
    DoesH 3 prog w B q (.ref fn) [.ref kx] (fun h v => ∃ x dx t1 t2 p, v = .ref x ∧ h.get? x = some (instObj C dx) ∧ h.get? dx = some (bearerDict w t1 t2 (.ref p) (.ref kx))) := by
  intro A E Q h g d t os l R O hQ
  obtain ⟨nm, qual, od, osl, doc, pm, cd, ct, an, hf, hcd⟩ := D
  refine in_def R.calls O G.lim hf hcd bearer_binds (by decide) ["key"] (by decide) (fun L h₁ k₁ F => ?_)
  have R' := R.deeper (env := envX qual tBearer.scope L fn cd [])
  generalize A.deeper (envX qual tBearer.scope L fn cd []) = A' at R' ⊢
  -- bearer = HTTPPasswordMgr()
  refine wpAny_execs_cons (wpAny_Assign_Name ?_ rfl)
  refine Call_Name0 (n_glob F G i1 (callWith_K0 (env := envX qual tBearer.scope L fn cd []) (X.keeps F.ok.keep) Y.keep (mgr_made (X.keeps F.ok.keep) (G.lim.keeps F.ok.keep) Y I (by have := R'.depth; rw [depth_under_make]; show A'.depth + 1 < 1000; omega) fun h₂ t₂ t1 p a2 x2 d2 => ?_)))
  have F2 := F.step (F.ok.keeps a2.keep) (fun b o _ e => a2.keep b o e)
  have Ll : L < h₁.objs.size := F.ns.lt
  have bd := F.ok.none_of (Nat.le_refl _)
  have fd := F.none_of (Nat.le_refl _)
  have ql := F.qlt
  clear F
  generalize h₁.objs.size = x at a2 x2 d2 Ll bd fd ql ⊢
  refine n_storeS F2 fun h₃ k₃ sb F => ?_
  replace x2 := (sb.2 _ (Nat.ne_of_gt (Nat.lt_succ_of_lt Ll))).trans x2
  replace d2 := (sb.2 _ (Nat.ne_of_gt Ll)).trans d2
  clear sb F2 a2
  -- bearer.handler_order = key
  refine wpAny_execs_cons (plainObj_wpAny_Assign_Attribute (n_local F rfl (n_local F rfl ?_)) rfl)
  have X3 := X.keeps F.ok.keep
  have I3 : InstAt h₃ (x + 1) (instObj C x) C (some (passDict w t1 (.ref p))) := ⟨x2, rfl, rfl, d2⟩
  refine set_plain (s := ⟨h₃, g, d, _, os⟩) X3 I3 Y.set (dict_storedG X3 I3 rfl Y.over Y.takerO Y.dict rfl (by kernel_rfl) (pastItsLine_dict (by show 2 ≤ sizeLine + 1; decide)) rfl fun h₄ sb e => ?_)
  replace F := F.other sb bd (Nat.ne_of_gt ql) (Nat.ne_of_gt Ll) fd (notTup_dict d2 rfl)
  refine wpAny_execs_cons (wpAny_Return_some (n_local F rfl ?_))
  exact hQ _ _ _ ⟨x + 1, x, t1, _, p, rfl, (sb.2 _ (Nat.ne_of_gt (Nat.lt_succ_self _))).trans x2, e⟩ F.ok F.but
end
end Mine
end
section
open PySem PySem.W PySem.W.X PyProof.Rows PySem.Calls Builtin Builtin.ObjectAttr
set_option Elab.async false
set_option maxRecDepth 100000
namespace Mine
section
variable {prog : Program} {w : World} {A : Around} {E : Value → Shared → Prop} {s : Shared} {h h' B B' : Heap} {g : Array GenState} {d : Drawn} {t : Nat} {os : OsState} {K : Frag} {q : Addr} {l l' : List (Int × Int)}
theorem in_nil : Frag.In [] h := fun _ _ e => by cases e
theorem ty_int {M : Model} : Looks M h (typeOf (.type "int")) (.type "type") := Looks.of_pure (by kernel_rfl)
/-- type(0).__lt__ -/
theorem int_meth {pl : Sem Bool} {Q : Value × List Value → Shared → Prop} (k : ∀ t', Q (.builtin "int.__lt__", []) ⟨h, g, d, t', os⟩) : wpAny (model prog w) A (getMethod (.type "int") "__lt__" pl) Q E ⟨h, g, d, t, os⟩ := by
  unfold getMethod
  have L : Looks (model prog w) h (specialOf (.type "int") "__getattribute__") (some (.builtin "type.__getattribute__")) := ty_int.andThen (looks_findIn (K := []) in_nil (by kernel_rfl))
  refine wpAny_bind (L.at ?_)
  dsimp only
  rw [if_pos canon_tga]
  refine wpAny_bind (wpAny_mono (Q := fun v => Q (v, [])) ?_ (fun _ _ z => wpAny_pure z) fun _ _ z => z)
  refine cls_open (s := ⟨h, g, d, t, os⟩) (K := []) (c := .type "int") (mc := .type "type") (hook := none) (r := .val (.builtin "int.__lt__")) in_nil (Looks.of_pure (by kernel_rfl)) ty_int (by kernel_rfl) (looks_hook (K := []) in_nil (by kernel_rfl)) (by kernel_rfl) (by kernel_rfl) ?_
  exact wpAny_pure (by show wpAny _ _ (handedOut _) _ _ _; rw [handedOut_of rfl]; exact wpAny_pure (k _))
theorem int_lt_other {u : Tok} {y : Addr} {oy : Obj} {Q : Value → Shared → Prop} (hy : h.get? y = some oy) (hp : oy.data = .plain) (k : Q .notImplemented ⟨h, g, d, t, os⟩) :
    wpAny (model prog w) A (PySem.call (.builtin "int.__lt__") [.int 0 u, .ref y]) Q E ⟨h, g, d, t, os⟩ := by
  refine wpAny_call_entry slot_int_lt (typeIs_int _ _ _) entry_int_lt ?_ (args_int_lt _ _)
  show wpAny _ _ (Builtin.Int.intBinary "__lt__" (fun x y => ret (.bool (decide (x < y)))) false ⟨[.int 0 u, .ref y], []⟩) _ _ _
  unfold Builtin.Int.intBinary
  refine wpAny_bind (m := slotArgs "__lt__" 1 _) (wpAny_pure ?_)
  dsimp only
  refine wpAny_bind (m := Builtin.Int.intOfSelf _) (wpAny_pure ?_)
  show wpAny _ _ (asInt? (.ref y) >>= _) _ _ _
  unfold asInt?
  refine wpAny_bind (wpAny_bind (wpAny_load hy ?_))
  rw [hp]
  refine wpAny_pure ?_
  dsimp only
  exact wpAny_bind (wpAny_rule (wpAny_pure ⟨_, rfl, k⟩))
end
end Mine
end
section
open PySem PySem.W PySem.W.X PyProof.Rows PySem.Calls Builtin Builtin.ObjectAttr
set_option Elab.async false
set_option maxRecDepth 100000
namespace Mine
section
variable {prog : Program} {w : World} {A : Around} {E : Value → Shared → Prop} {s : Shared} {h h' B B' : Heap} {g : Array GenState} {d : Drawn} {t : Nat} {os : OsState} {K : Frag} {q : Addr} {l l' : List (Int × Int)}
structure LtTxt (T : Txt) : Prop where
  body : ∃ p1 p2 p3 p4 p5 p6 p7 p8 p9 p10 p11 p12 p13 p14 p15 rest, T.body = .Assign [.Name "op_result" p1] (.Call (.Attribute (.Call (.Name "type" p2) [.Name "self" p3] [] p4) "__lt__" p5) [.Name "self" p6, .Name "other" p7] [] p8) p9 ::
    .If (.Compare (.Name "op_result" p10) [.Is] [.Name "NotImplemented" p11] p12) [.Return (some (.Name "op_result" p13)) p14] [] p15 :: rest ∧
    ∀ qual L f cd, ∃ pl : Sem Bool, eval (.Call (.Attribute (.Call (.Name "type" p2) [.Name "self" p3] [] p4) "__lt__" p5) [.Name "self" p6, .Name "other" p7] [] p8) (envX qual T.scope L f cd []) = (do
      let ov ← eval (.Call (.Name "type" p2) [.Name "self" p3] [] p4) (envX qual T.scope L f cd [])
      standAt p5.atName
      let (f', first) ← holding [ov] (getMethod ov "__lt__" pl)
      callWith p8 f' first (backTo p8 (starEach [.Name "self" p6, .Name "other" p7] (envX qual T.scope L f cd []))) (backToKw p8 (keywordEach [] (envX qual T.scope L f cd []))))
  binds : ∀ nm qual cl doc pm cd ct an a b, bindArgs (fnX nm qual T.params T.body T.scope cl .none .none doc pm an cd ct) ⟨[a, b], []⟩ = (pure [(("self" : Str), a), (("other" : Str), b)] : Sem _)
  self : T.scope.names.lookup ("self" : Str) = some .local
  other : T.scope.names.lookup ("other" : Str) = some .local
  res : T.scope.names.lookup ("op_result" : Str) = some .local
  type : T.scope.names.lookup ("type" : Str) = some .globalImplicit
  ni : T.scope.names.lookup ("NotImplemented" : Str) = some .globalImplicit
  noCell : ∀ x ∈ T.scope.names, x.2 ≠ .cell
  co : T.scope.isCoroutine = false
  gen : T.scope.isGenerator = false
  kind : T.scope.kind = .function
theorem ltTxt_gt : LtTxt tGt := ⟨⟨_, _, _, _, _, _, _, _, _, _, _, _, _, _, _, _, rfl, fun _ _ _ _ => ⟨_, rfl⟩⟩, by intros; kernel_rfl, rfl, rfl, rfl, rfl, rfl, by decide, rfl, rfl, rfl⟩
theorem ltTxt_le : LtTxt tLe := ⟨⟨_, _, _, _, _, _, _, _, _, _, _, _, _, _, _, _, rfl, fun _ _ _ _ => ⟨_, rfl⟩⟩, by intros; kernel_rfl, rfl, rfl, rfl, rfl, rfl, by decide, rfl, rfl, rfl⟩
theorem ltTxt_ge : LtTxt tGe := ⟨⟨_, _, _, _, _, _, _, _, _, _, _, _, _, _, _, _, rfl, fun _ _ _ _ => ⟨_, rfl⟩⟩, by intros; kernel_rfl, rfl, rfl, rfl, rfl, rfl, by decide, rfl, rfl, rfl⟩
/-- a whole number beside what is none: NotImplemented is handed on -/
theorem deed_int {T : Txt} {fn y : Addr} {u : Tok} {oy : Obj} {mg mb : Str → Option Value} {Q : Value → Shared → Prop} (TX : LtTxt T) (hd : A.depth < recursionLimit) (G : Glob B mg mb) (N : Names3 mg mb) (kp : ∀ b o, B.get? b = some o → h.get? b = some o) (D : DefAt B T fn)
    (hy : h.get? y = some oy) (hp : oy.data = .plain) (k : ∀ h' t', Add 1 h h' → Q .notImplemented ⟨h', g, d, t', os⟩) : wpAny (model prog w) A (PySem.call (.ref fn) [.int 0 u, .ref y]) Q E ⟨h, g, d, t, os⟩ := by
  obtain ⟨nm, qual, od, osl, doc, pm, cd, ct, an, hf, hcd⟩ := D
  obtain ⟨p1, p2, p3, p4, p5, p6, p7, p8, p9, p10, p11, p12, p13, p14, p15, rest, hb, hm⟩ := TX.body
  obtain ⟨pl, hm⟩ := hm qual h.objs.size fn cd
  refine wpAny_call (codeAny_call_function hd (kp _ _ hf) rfl TX.co TX.gen rfl (hcd.keeps kp) ?_)
  rw [TX.binds]
  refine wpAny_pure (wpAny_newFunctionEnv TX.noCell (by
    intro y hy
    simp only [List.mem_cons, List.not_mem_nil, or_false] at hy
    rcases hy with rfl | rfl
    · exact TX.self
    · exact TX.other) (fun h₁ hns hsb => ⟨(G.lim.keeps kp).fresh _ hsb, codeAny_func ?_⟩) TX.kind)
  refine wpAny_mono (Q := fun fl s' => Q (match fl with | .ret v => v | _ => .none) s') (E := fun _ _ => False) ?_ (fun fl s' x => x) (fun _ _ x => x.elim)
  show wpAny _ (A.deeper (envX qual T.scope h.objs.size fn cd [])) (execs T.body (envX qual T.scope h.objs.size fn cd [])) _ _ _
  generalize A.deeper (envX qual T.scope h.objs.size fn cd []) = A'
  have a1 : Add 1 h h₁ := ⟨fun b o e => (hsb.2 b (Nat.ne_of_lt (Heap.lt_size e))).trans (Heap.get?_push_of_some _ e), by rw [hsb.1, Heap.size_push]⟩
  dsimp only at hns
  have kp1 : ∀ b o, B.get? b = some o → h₁.get? b = some o := fun b o e => a1.keep _ _ (kp b o e)
  rw [hb]
  clear hsb hf hb
  refine wpAny_execs_cons (wpAny_Assign_Name ?_ rfl)
  refine methodCall_KW (pl := pl) ?_ hm
  refine Call_name1 rfl (b_built G kp1 N.type.1 N.type.2 (callWith_type1 (wpAny_Name (wpAny_loadName_local TX.kind TX.self hns rfl (call_type_of (typeIs_int _ _ _) (by decide +kernel) ?_)) (by decide))) rfl rfl TX.kind TX.type)
  refine int_meth fun t₂ => ?_
  refine callWith_builtin rfl (evalArgs_plain (spliced_cons (wpAny_Name (wpAny_loadName_local TX.kind TX.self hns rfl (spliced_cons (wpAny_Name (wpAny_loadName_local TX.kind TX.other hns rfl (spliced_nil ?_)) (by decide)))) (by decide))))
  refine int_lt_other (a1.keep _ _ hy) hp ?_
  refine wpAny_storeName_local TX.res hns (fun h₂ ns₂ sb₂ => ?_) (by show (T.scope.kind == .class || (T.scope.kind == .module && _)) = false; rw [TX.kind]; rfl)
  have a2 := a1.same sb₂ (Nat.le_refl _)
  have kp2 : ∀ b o, B.get? b = some o → h₂.get? b = some o := fun b o e => a2.keep _ _ (kp b o e)
  refine wpAny_execs_cons (wpAny_If (wpAny_isTrue_Compare1 (wpAny_Name (wpAny_loadName_local TX.kind TX.res ns₂ (if_pos rfl) ?_) (by decide))))
  refine b_built G kp2 N.ni.1 N.ni.2 (wpAny_is_self rfl (wpAny_truthy_bool ?_)) rfl rfl TX.kind TX.ni
  rw [if_pos rfl]
  refine wpAny_execs_cons (wpAny_Return_some (wpAny_Name (wpAny_loadName_local TX.kind TX.res ns₂ (if_pos rfl) ?_) (by decide)))
  exact k h₂ _ a2
end
end Mine
end
section
open PySem PySem.W PySem.W.X PyProof.Rows PySem.Calls Builtin Builtin.ObjectAttr
set_option Elab.async false
set_option maxRecDepth 100000
namespace Mine
section
variable {prog : Program} {w : World} {A : Around} {E : Value → Shared → Prop} {s : Shared} {h h' B B' : Heap} {g : Array GenState} {d : Drawn} {t : Nat} {os : OsState} {K : Frag} {q : Addr} {l l' : List (Int × Int)} {outer : List Env}
/-- one's own method is called, whatever comes of it -/
theorem own_any {op : CmpOp} {x C fn : Addr} {ox : Obj} {od : Option Obj} {b tb : Value} {Q : Value → Shared → Prop} (ho : isOrd op = true) (hu : A.units < cLine) (X : K.In h) (I : InstAt h x ox C od) (hb : Looks (model prog w) h (typeOf b) tb) (hn : notFirst K C tb = true)
    (hs : findIn K (.ref C) (cmpInfo op).2.1 = some (some (.ref fn))) (hf : isFn K (.ref fn) = true) (k : wpAny (model prog w) A (call (.ref fn) [.ref x, b]) (fun v s' => (∃ bb, v = .bool bb) ∧ Q v s') E ⟨h, g, d, t, os⟩) :
    wpAny (model prog w) A (compareOp op (.ref x) b) Q E ⟨h, g, d, t, os⟩ := by
  refine rich_of ho ?_
  have one : wpAny (model prog w) A (tryCompare (.ref x) (cmpInfo op).2.1 b) (fun r s' => ∃ v, r = some v ∧ Q v s') E ⟨h, g, d, t, os⟩ := by
    unfold tryCompare
    refine wpAny_bind (ifBound_K X I hs hf (wpAny_mono k (fun v s' z => ?_) fun _ _ e => e))
    obtain ⟨⟨bb, rfl⟩, z⟩ := z
    exact wpAny_pure ⟨_, rfl, z⟩
  unfold richCompare
  simp only [oneThing_ref]
  refine wpAny_holding (wpAny_bind (wpAny_cRoomFor hu ?_))
  refine wpAny_bind (I.type.at (wpAny_bind (hb.at ?_)))
  split
  · rename_i z
    have e : subIn K tb (.ref C) = some false := by
      rcases Bool.or_eq_true_iff.mp hn with e | e
      · rw [beq_iff_eq.mp e] at z; simp at z
      · exact beq_iff_eq.mp e
    refine wpAny_bind ((looks_subIn X e).at ?_)
    rw [if_neg (by decide)]
    refine wpAny_bind (wpAny_mono one (fun r s' z => ?_) fun _ _ e => e)
    obtain ⟨v, rfl, hq⟩ := z
    exact wpAny_pure hq
  · refine wpAny_bind (wpAny_pure ?_)
    rw [if_neg (by decide)]
    refine wpAny_bind (wpAny_mono one (fun r s' z => ?_) fun _ _ e => e)
    obtain ⟨v, rfl, hq⟩ := z
    exact wpAny_pure hq
theorem miss_int : typeLookup (.type "int") "obj" = pure none := by rw [typeLookup_type, builtinLookup_eq_fast]; kernel_rfl
/-- a key's method beside a whole number: the AttributeError comes out -/
theorem op_raises {T : Txt} {op : CmpOp} {fn cM f C md k1 x1 : Addr} {n : Int} {u : Tok} {mg mb : Str → Option Value} {Q : Value → Shared → Prop} (hd : A.depth < recursionLimit) (hh : A.handled = none) (hfr : A.frames = some outer) (hl : h.FunFrames B outer) (kp : ∀ b o, B.get? b = some o → h.get? b = some o)
    (G : Glob B mg mb) (TX : OpTxt T op) (X : K.In B) (S : Slotted K C md) (F : OpAt B T fn cM) (c : B.IsCell cM (some (.ref f))) (f1 : ∃ o fd, B.get? f = some o ∧ o.data = .func fd) (I1 : KeyOf B C k1 x1)
    (hE : ∀ h' tk e a0, Heap.FlyingW B outer e (.type "AttributeError") a0 h' → h.UpToSlots h' → E (.ref e) ⟨h', g, d, tk, os⟩) : wpAny (model prog w) A (PySem.call (.ref fn) [.ref k1, .int n u]) Q E ⟨h, g, d, t, os⟩ := by
  obtain ⟨nm, qual, od, osl, doc, pm, cd, ct, an, hf, hcd⟩ := F
  obtain ⟨o1, od1, i1, s1⟩ := I1
  obtain ⟨of, fd, hof, hdf⟩ := f1
  obtain ⟨p1, p2, p3, p4, p5, p6, p7, p8, p9, nn, hb⟩ := TX.body
  refine wpAny_call (codeAny_call_def hd (kp _ _ hf) rfl (G.lim.keeps kp) (hcd.keeps kp) rfl (BindsTo.of_eq (TX.binds ..)) TX.noCell (by
    intro y hy
    simp only [List.mem_cons, List.not_mem_nil, or_false] at hy
    rcases hy with rfl | rfl
    · exact TX.self
    · exact TX.other) (fun h₁ hns hk₁ => ?_) TX.co TX.gen TX.kind)
  have kp1 : ∀ b o, B.get? b = some o → h₁.get? b = some o := fun b o e => hk₁ _ _ (kp b o e)
  have hfr1 := Around.frames_deeper (env := envX qual T.scope h.objs.size fn cd [("mycmp", cM)]) hfr
  have hn : B.get? h.objs.size = none := Heap.StaysIn.fresh (base := B) (h := h) kp
  have hl1 : h₁.FunFrames B (envX qual T.scope h.objs.size fn cd [("mycmp", cM)] :: outer) := Heap.FunFrames.cons (by show T.scope.kind ≠ .module; rw [TX.kind]; decide) rfl hns hn (hl.of_keeps fun b o e _ => ⟨o, hk₁ b o e, rfl⟩)
  show wpAny _ (A.deeper (envX qual T.scope h.objs.size fn cd [("mycmp", cM)])) (execs T.body (envX qual T.scope h.objs.size fn cd [("mycmp", cM)])) _ _ _
  rw [hb]
  refine wpAny_execs_cons (wpAny_Return_some (wpAny_Compare1 ?_))
  refine Call_Name2 (wpAny_Name (wpAny_loadName_free TX.kind TX.mycmp (c := cM) rfl (c.keeps kp1) ?_ (by decide)) (by decide))
  refine callWith_function (o := of) (fd := fd) (evalArgs_plain (spliced_cons (Attribute_name (wpAny_Name (wpAny_loadName_local TX.kind TX.self hns rfl ?_) (by decide)))))
  refine get_obj (X.keeps kp1) S (inst_keeps i1 kp1) s1 fun _ => ?_
  refine spliced_cons (Attribute_name (wpAny_Name (wpAny_loadName_local TX.kind TX.other hns rfl ?_) (by decide)))
  refine getAttr_miss_int miss_int hh fun h₂ tk e nx => ?_
  dsimp only at nx ⊢
  obtain ⟨ob, vs, he, hc, hdv, hv1⟩ := nx.there
  have hen : B.get? e = none := by
    cases z : B.get? e with
    | none => rfl
    | some o => have := kp1 _ _ z; rw [nx.new] at this; cases this
  have h0 : ∃ a0, vs[0]? = some a0 := by
    have := (Array.getElem?_eq_some_iff.mp hv1).1
    exact ⟨vs[0], Array.getElem?_eq_getElem (by omega)⟩
  obtain ⟨a0, h0⟩ := h0
  refine wpAny_leaving_firstW (a0 := a0) hfr1 (hl1.of_keeps fun b o e _ => ⟨o, nx.keeps b o e, rfl⟩) rfl he (fun b o e => nx.keeps _ _ (kp1 b o e)) hen hdv hv1 h0 fun h₃ L => ?_
  obtain ⟨l1, ⟨_, _, l2⟩, l3, l4⟩ := L
  refine hE h₃ tk e a0 ⟨l1, hen, l2, by rw [← hc]; exact l3⟩ (((Heap.UpToSlots.of_keeps hk₁).trans (Heap.UpToSlots.of_keeps nx.keeps)).trans l4)
end
end Mine
end
section
open PySem PySem.W PySem.W.X PyProof.Rows PySem.Calls Builtin Builtin.ObjectAttr
set_option Elab.async false
set_option maxRecDepth 100000
namespace Mine
section
variable {prog : Program} {w : World} {A : Around} {E : Value → Shared → Prop} {s : Shared} {h h' B B' : Heap} {g : Array GenState} {d : Drawn} {t : Nat} {os : OsState} {K : Frag} {q : Addr} {l l' : List (Int × Int)} {outer : List Env}
/-- a comparison of which an AttributeError comes out -/
def OpRaises (n : Nat) (prog : Program) (w : World) (B : Heap) (op : CmpOp) (a b : Value) : Prop :=
  ∀ (A : Around) (E : Value → Shared → Prop) (Q : Value → Shared → Prop) (h : Heap) (g : Array GenState) (d : Drawn) (t : Nat) (os : OsState) (outer : List Env), Room n A → A.frames = some outer → h.FunFrames B outer → (∀ b o, B.get? b = some o → h.get? b = some o) →
    (∀ h' tk e a0, Heap.FlyingW B outer e (.type "AttributeError") a0 h' → h.UpToSlots h' → E (.ref e) ⟨h', g, d, tk, os⟩) → wpAny (model prog w) A (compareOp op a b) Q E ⟨h, g, d, t, os⟩
theorem key_raises {C md ini cM f k1 x1 : Addr} {fn : CmpOp → Addr} {n : Int} {u : Tok} {mg mb : Str → Option Value} (G : Glob B mg mb) (X : K.In B) (Y : KGood K C md ini fn cM f) (f1 : ∃ o fd, B.get? f = some o ∧ o.data = .func fd) (I : KeyOf B C k1 x1) (hn : notFirst K C (.type "int") = true) :
    OpRaises 1 prog w B .Lt (.ref k1) (.int n u) := by
  intro A E Q h g d t os outer R hfr hl kp hE
  obtain ⟨o1, od1, i1, _⟩ := id I
  have c : B.IsCell cM (some (.ref f)) := let ⟨o, e, r⟩ := Y.cell; ⟨o, X _ _ e, r⟩
  obtain ⟨h1, h2⟩ := Y.keys.own .Lt rfl (by decide)
  exact own_any rfl R.room (X.keeps kp) (inst_keeps i1 kp) (Looks.of_pure (by kernel_rfl)) hn h1 h2 (op_raises R.calls R.handled hfr hl kp G txt_lt X Y.slotted (Y.lt.opAt X) c f1 I hE)
/-- BaseHandler.__lt__ hands the exception on -/
theorem blt_raises {n : Nat} {fn C1 C2 y x kx : Addr} {ox : Obj} {od : Option Obj} {v : Value} {mg mb : Str → Option Value} {Q : Value → Shared → Prop} (R : Room (n + 1) A) (hfr : A.frames = some outer) (hl : h.FunFrames B outer) (kp : ∀ b o, B.get? b = some o → h.get? b = some o)
    (G : Glob B mg mb) (i1 : mg "hasattr" = none) (i2 : mb "hasattr" = some (.builtin "hasattr")) (X : K.In B) (D : DefAt B tBlt fn) (O1 : Ordered K B C1 y kx) (I : InstAt B x ox C2 od)
    (hga : findIn K (.ref C2) "__getattribute__" = some (some (.builtin "object.__getattribute__"))) (hm : mroIn K C2 (.type "module") = some false) (hf : findObj K C2 od "handler_order" = some (.value v)) (hv : handedIn v = true)
    (H : OpRaises n prog w B .Lt (.ref kx) v)
    (hE : ∀ h' tk e a0, Heap.FlyingW B outer e (.type "AttributeError") a0 h' → h.UpToSlots h' → E (.ref e) ⟨h', g, d, tk, os⟩) : wpAny (model prog w) A (PySem.call (.ref fn) [.ref y, .ref x]) Q E ⟨h, g, d, t, os⟩ := by
  obtain ⟨nm, qual, odf, osl, doc, pm, cd, ct, an, hfn, hcd⟩ := D
  refine wpAny_call (codeAny_call_def R.calls (kp _ _ hfn) rfl (G.lim.keeps kp) (hcd.keeps kp) rfl (BindsTo.of_eq blt_binds) (show ∀ x ∈ tBlt.scope.names, x.2 ≠ .cell by decide) (by
    intro y hy
    simp only [List.mem_cons, List.not_mem_nil, or_false] at hy
    rcases hy with rfl | rfl <;> rfl) (fun h₁ hns hk₁ => ?_))
  have kp1 : ∀ b o, B.get? b = some o → h₁.get? b = some o := fun b o e => hk₁ _ _ (kp b o e)
  have hfr1 := Around.frames_deeper (env := envX qual tBlt.scope h.objs.size fn cd []) hfr
  have hn : B.get? h.objs.size = none := Heap.StaysIn.fresh (base := B) (h := h) kp
  have hl1 : h₁.FunFrames B (envX qual tBlt.scope h.objs.size fn cd [] :: outer) := Heap.FunFrames.cons (by show tBlt.scope.kind ≠ .module; decide) rfl hns hn (hl.of_keeps fun b o e _ => ⟨o, hk₁ b o e, rfl⟩)
  have R' := R.deeper (env := envX qual tBlt.scope h.objs.size fn cd [])
  show wpAny _ (A.deeper (envX qual tBlt.scope h.objs.size fn cd [])) (execs tBlt.body (envX qual tBlt.scope h.objs.size fn cd [])) _ _ _
  have nl : ∀ {x : Str} {v : Value} {p : Pos} {t : Nat} {Q : Value → Shared → Prop} {E : Value → Shared → Prop}, tBlt.scope.names.lookup x = some .local → List.lookup x [(("self" : Str), Value.ref y), (("other" : Str), .ref _)].reverse = some v → (x == ("__debug__" : Str)) = false → Q v ⟨h₁, g, d, t, os⟩ →
      wpAny (model prog w) (A.deeper (envX qual tBlt.scope h.objs.size fn cd [])) (eval (.Name x p) (envX qual tBlt.scope h.objs.size fn cd [])) Q E ⟨h₁, g, d, t, os⟩ := fun a b c q => wpAny_Name (wpAny_loadName_local rfl a hns b q) c
  refine wpAny_execs_cons (wpAny_If (wpAny_isTrue_Not (isTrue_plain ?_)))
  refine Call_Name2 (b_built G kp1 i1 i2 (callWith_builtin rfl (evalArgs_plain (spliced_cons (nl rfl rfl (by decide) (spliced_cons (wpAny_Constant_str (spliced_nil ?_))))))))
  refine hasattr_value (X.keeps kp1) (inst_keeps I kp1) hga hm hf hv ?_
  refine wpAny_truthy_bool ?_
  show wpAny _ _ (execs [] _) _ _ _
  refine wpAny_execs_nil ?_
  refine wpAny_execs_cons (wpAny_Return_some (wpAny_Compare1 ?_))
  refine Attribute_name (nl rfl rfl (by decide) (get_order X kp1 O1 fun _ => ?_))
  refine Attribute_name (nl rfl rfl (by decide) (get_value (X.keeps kp1) (inst_keeps I kp1) hga hf hv ?_))
  refine H _ _ _ _ _ _ _ _ _ R' hfr1 hl1 kp1 fun h₂ tk e a0 fl up => ?_
  exact wpAny_leaves_onW hfr1 rfl fl fun h₃ fl3 up3 => hE h₃ tk e a0 fl3 (((Heap.UpToSlots.of_keeps hk₁).trans up).trans up3)
end
end Mine
end
section
open PySem PySem.W PySem.W.X PyProof.Rows PySem.Calls Builtin Builtin.ObjectAttr
set_option Elab.async false
set_option maxRecDepth 100000
namespace Mine
section
variable {prog : Program} {w : World} {A : Around} {E : Value → Shared → Prop} {s : Shared} {h h' B B' : Heap} {g : Array GenState} {d : Drawn} {t : Nat} {os : OsState} {K : Frag} {q : Addr} {l l' : List (Int × Int)}
theorem strange_binds {nm qual : Str} {cl : List (Str × Addr)} {doc pm cd ct a : Value} {an : Option Addr} :
    bindArgs (fnX nm qual tStrange.params tStrange.body tStrange.scope cl .none .none doc pm an cd ct) ⟨[a], []⟩ = (pure [(("handler" : Str), a)] : Sem _) := by kernel_rfl
theorem ae_isExc : isSubtype (.type "AttributeError") (.type "BaseException") = pure true := by rw [isSubtype_type]; kernel_rfl
theorem ae_notTuple : isSubtype (.type ((Manifest.find? "AttributeError").elim "type" fun x => x.metatype)) (.type "tuple") = pure false := by
  rw [show ((Manifest.find? "AttributeError").elim "type" fun x => x.metatype) = "type" from by kernel_rfl, isSubtype_type]; kernel_rfl
theorem ae_self : isSubtype (.type "AttributeError") (.type "AttributeError") = pure true := by rw [isSubtype_type]; kernel_rfl
theorem Glob.keeps {mg mb : Str → Option Value} (G : Glob B mg mb) (k : ∀ b o, B.get? b = some o → B'.get? b = some o) : Glob B' mg mb := ⟨G.g.keeps k, G.b.keeps k, G.lim.keeps k⟩
theorem DefAt.keeps {T : Txt} {fn : Addr} (D : DefAt B T fn) (k : ∀ b o, B.get? b = some o → B'.get? b = some o) : DefAt B' T fn :=
  let ⟨nm, qual, od, osl, doc, pm, cd, ct, an, e, r⟩ := D; ⟨nm, qual, od, osl, doc, pm, cd, ct, an, k _ _ e, r.keeps k⟩
theorem Ordered.keeps {C x v : Addr} (O : Ordered K B C x v) (k : ∀ b o, B.get? b = some o → B'.get? b = some o) : Ordered K B' C x v :=
  ⟨O.hga, O.hm, let ⟨ox, od, I, e⟩ := O.inst; ⟨ox, od, inst_keeps I k, e⟩⟩
/-- [deed(0, handler) is NotImplemented for deed in ..]'s turn -/
structure Strange (K : Frag) (B : Heap) (mg mb : Str → Option Value) (gt le ge bl C0 : Addr) (v0 : Value) : Prop where
  gt : mg "_gt_from_lt" = some (.ref gt) ∧ DefAt B tGt gt
  le : mg "_le_from_lt" = some (.ref le) ∧ DefAt B tLe le
  ge : mg "_ge_from_lt" = some (.ref ge) ∧ DefAt B tGe ge
  base : mg "BaseHandler" = some (.ref C0)
  hasattr : mg "hasattr" = none ∧ mb "hasattr" = some (.builtin "hasattr")
  ae : mg "AttributeError" = none ∧ mb "AttributeError" = some (.type "AttributeError")
  make : HMake K C0
  blt : DefAt B tBlt bl
  hga : findIn K (.ref C0) "__getattribute__" = some (some (.builtin "object.__getattribute__"))
  hm : mroIn K C0 (.type "module") = some false
  hf : findObj K C0 (some emptyDict) "handler_order" = some (.value v0)
  hv : handedIn v0 = true
theorem handed_turn {env : Env} {f y : Addr} {T : Txt} {oy : Obj} {mg mb : Str → Option Value} {Q : Value → Shared → Prop} {x : Str} {n : Nat} {p0 p1 p2 p3 p4 p5 : Pos} (TX : LtTxt T) (hd : A.depth < recursionLimit) (G : Glob B mg mb) (N : Names3 mg mb) (kp : ∀ b o, B.get? b = some o → h.get? b = some o) (D : DefAt B T f)
    (hy : h.get? y = some oy) (hp : oy.data = .plain) (h1 : ∀ {Q : Value → Shared → Prop} {t : Nat}, Q (.ref f) ⟨h, g, d, t, os⟩ → wpAny (model prog w) A (eval (.Name x p0) env) Q E ⟨h, g, d, t, os⟩)
    (h2 : ∀ {Q : Value → Shared → Prop} {t : Nat}, Q (.ref y) ⟨h, g, d, t, os⟩ → wpAny (model prog w) A (eval (.Name "handler" p2) env) Q E ⟨h, g, d, t, os⟩)
    (k : ∀ h' t', Add 1 h h' → Q (.bool true) ⟨h', g, d, t', os⟩) (hg : env.globals = mainGlobals := by rfl) (hb : env.builtins = builtinsNs := by rfl) (hk : env.scope.kind = .function := by rfl) (hx : env.kindOf "NotImplemented" = some .globalImplicit := by rfl) :
    wpAny (model prog w) A (eval (.Compare (.Call (.Name x p0) [.Constant (.int 0) n p1, .Name "handler" p2] [] p3) [.Is] [.Name "NotImplemented" p4] p5) env) Q E ⟨h, g, d, t, os⟩ := by
  obtain ⟨of, fd, hof, hdf⟩ := D.fn
  refine wpAny_Compare1 (Call_Name2 (h1 ?_))
  refine callWith_function (o := of) (fd := fd) (evalArgs_plain (spliced_cons (v_int fun _ _ => spliced_cons (h2 (spliced_nil ⟨⟨kp _ _ hof, hdf⟩, ?_⟩)))))
  refine deed_int TX hd G N kp D hy hp fun h₅ t₅ a5 => ?_
  exact b_built G (fun b o e => a5.keep _ _ (kp b o e)) N.ni.1 N.ni.2 (wpAny_is_self rfl (k _ _ a5)) hg hb hk hx
def sStrange0 : Stmt := (nth tStrange.body 0).getD (.Pass ⟨0, 0, 0, 0⟩)
theorem handed_made {L : Nat} {gt le ge bl C0 y : Addr} {qual : Str} {f : Addr} {cd v0 : Value} {oy : Obj} {mg mb : Str → Option Value} {Q : Flow → Shared → Prop} (R : Room 2 A) (G : Glob B mg mb) (N : Names3 mg mb) (Z : Strange K B mg mb gt le ge bl C0 v0) (kp : ∀ b o, B.get? b = some o → h.get? b = some o) (hB : ∀ (b : Nat) o, B.get? b = some o → b < L)
    (hy : B.get? y = some oy) (hp : oy.data = .plain) (ns : h.Ns L (fun _ => none)) (ic : h.IsCell (L + 1) (some (.ref y))) (sz : h.objs.size = L + 2)
    (k : ∀ h' t', (∀ (b : Nat) o, b ≠ L → h.get? b = some o → h'.get? b = some o) → h'.Ns L (fun y => if y = "handed" then some (.ref (L + 4)) else none) → h'.PlainList (L + 4) #[.bool true, .bool true, .bool true] → Q .next ⟨h', g, d, t', os⟩) :
    wpAny (model prog w) A (exec sStrange0 (envX qual tStrange.scope L f cd [("handler", L + 1)])) Q E ⟨h, g, d, t, os⟩ := by
  refine comp_asg (cl := [("handler", L + 1)]) rfl rfl rfl (by decide) ?_
  refine wpAny_List (wpAny_items_cons (b_glob G kp Z.gt.1 (wpAny_items_cons (b_glob G kp Z.le.1 (wpAny_items_cons (b_glob G kp Z.ge.1 (wpAny_items_nil ⟨by show (3 : Nat) ≤ sizeLine; decide, ?_⟩)))))))
  have sg := Heap.get?_push_size h (o := { cls := .type "list", data := .seq [Value.ref gt, .ref le, .ref ge].toArray }) rfl
  have a1 : Add 1 h _ := Add.push { cls := .type "list", data := .seq [Value.ref gt, .ref le, .ref ge].toArray }
  dsimp only
  rw [sz] at sg ⊢
  generalize h.push { cls := .type "list", data := .seq [Value.ref gt, .ref le, .ref ge].toArray } = hA at sg a1 ⊢
  have lA : hA.IsList (L + 2) [Value.ref gt, .ref le, .ref ge].toArray := ⟨_, sg, rfl, _, rfl⟩
  refine wpAny_pyIter_list lA ?_
  have eA : hA.objs.size = L + 3 := by rw [a1.size, sz]
  have it := Heap.get?_push_size hA (o := { cls := .type "list_iterator", data := .fields #[.ref (L + 2), .int 0 0] }) rfl
  have a2 := a1.trans (Add.push (h := hA) { cls := .type "list_iterator", data := .fields #[.ref (L + 2), .int 0 0] })
  have lB := lA.push { cls := .type "list_iterator", data := .fields #[.ref (L + 2), .int 0 0] }
  dsimp only
  rw [eA] at it ⊢
  generalize hA.push { cls := .type "list_iterator", data := .fields #[.ref (L + 2), .int 0 0] } = hB2 at it a2 lB ⊢
  have eB : hB2.objs.size = L + 4 := by rw [a2.size, sz]
  clear sg a1 lA eA
  refine comp_adds (h₀ := L + 4) (e := 1) (fun _ y _ => y = .bool true) (Iter.list R.handled (L + 3) (L + 2) _ (Nat.ne_of_lt (Nat.lt_succ_self _))) ⟨⟨_, it, rfl, rfl⟩, lB⟩
    (by intro b hb; rw [eB]; rcases List.mem_cons.mp hb with rfl | hb; exact Nat.lt_succ_self _; rw [List.mem_singleton.mp hb]; exact Nat.lt_succ_of_lt (Nat.lt_succ_self _)) (by simp) (by show (3 : Nat) ≤ 1000; decide) (by decide) rfl rfl (fun _ _ _ _ _ x => x) eB.symm ?_ ?_
  · intro E Q i v C m h₃ t₃ hi3 pv ns₃ hm kp3 _ hC k3
    have hv : ∃ T f, v = .ref f ∧ LtTxt T ∧ DefAt B T f := by
      match i, hi3, pv with
      | 0, _, pv => exact ⟨_, _, (Option.some.inj pv).symm, ltTxt_gt, Z.gt.2⟩
      | 1, _, pv => exact ⟨_, _, (Option.some.inj pv).symm, ltTxt_le, Z.le.2⟩
      | 2, _, pv => exact ⟨_, _, (Option.some.inj pv).symm, ltTxt_ge, Z.ge.2⟩
    obtain ⟨T, f, rfl, TX, Df⟩ := hv
    have kpB : ∀ b o, B.get? b = some o → h₃.get? b = some o := fun (b : Nat) o e => kp3 b o (by have := hB b o e; show b ≠ L + 3; omega) (a2.keep _ _ (kp b o e))
    have ic₃ : h₃.IsCell (L + 1) (some (.ref y)) := let ⟨o, e, r⟩ := ic; ⟨o, kp3 _ _ (by intro z; have : L + 1 = L + 3 := z; omega) (a2.keep _ _ e), r⟩
    exact handed_turn TX R.calls G N kpB Df (kpB _ _ hy) hp (fun q => wpAny_Name (wpAny_loadName_local rfl rfl ns₃ hm q) (by decide)) (fun q => wpAny_Name (wpAny_loadName_cell rfl rfl rfl ic₃ q) (by decide)) fun h' t' a => k3 _ _ _ a rfl
  · intro h₃ t₃ ys m ns₃ M
    have nsL : h₃.Ns L (fun _ => none) := let ⟨o, es, ep, e, r⟩ := ns; ⟨o, es, ep, M.keep _ _ (by intro z; have : L = L + 3 := z; omega) (a2.keep _ _ e), r⟩
    show wpAny _ _ (assign (.Name "handed" _) _ (.ref (L + 4))) _ _ _
    refine wpAny_assign_Name (wpAny_storeName_local rfl nsL (fun h₄ ns₄ sb₄ => ⟨m, ns₃.sameBut sb₄ (by intro z; have : L + 5 = L := z; omega), fun h₅ sb₅ => ?_⟩) rfl)
    have nlt : ∀ (b : Nat) o, h.get? b = some o → b < L + 2 := fun b o e => sz ▸ Heap.lt_size e
    refine k h₅ _ (fun b o hb e => ?_) (ns₄.sameBut sb₅ (by intro z; have : L = L + 5 := z; omega)) ?_
    · have := nlt b o e
      exact (sb₅.2 b (by show b ≠ L + 5; omega)).trans ((sb₄.2 b hb).trans (M.keep b o (by show b ≠ L + 3; omega) (a2.keep _ _ e)))
    · have hp : h₅.PlainList (L + 4) ys.toArray := M.pl.at fun o e => (sb₅.2 _ (by intro z; have : L + 4 = L + 5 := z; omega)).trans ((sb₄.2 _ (by intro z; have : L + 4 = L := z; omega)).trans e)
      have len := M.len
      have all := M.pe
      clear M
      match ys, len, all, hp with
      | [y0, y1, y2], _, all, hp =>
      obtain rfl := all 0 y0 rfl
      obtain rfl := all 1 y1 rfl
      obtain rfl := all 2 y2 rfl
      exact hp
end
end Mine
end
section
open PySem PySem.W PySem.W.X PyProof.Rows PySem.Calls Builtin Builtin.ObjectAttr
set_option Elab.async false
set_option maxRecDepth 100000
namespace Mine
section
variable {prog : Program} {w : World} {A : Around} {E : Value → Shared → Prop} {s : Shared} {h h' B B' : Heap} {g : Array GenState} {d : Drawn} {t : Nat} {os : OsState} {K : Frag} {q : Addr} {l l' : List (Int × Int)}
def sStrange1 : Stmt := (nth tStrange.body 1).getD (.Pass ⟨0, 0, 0, 0⟩)
theorem hide_fun {Ls : List Addr} : ∀ {l : List Env}, h.FunFrames B l → (∀ env ∈ l, ∀ a, env.frame = some a → a ∈ Ls) → h.FunFrames (hideAll h Ls) l
  | [], _, _ => trivial
  | _ :: _, ⟨hk, ⟨L, o, hf, _, ho, hd⟩, hr⟩, hin => ⟨hk, ⟨L, o, hf, hideAll_none _ (hin _ (.head _) L hf), ho, hd⟩, hide_fun hr fun e he => hin e (.tail _ he)⟩
/-- try: told = [handler < BaseHandler()]; except AttributeError: told = [] -/
theorem strange_try {L Lw : Nat} {n : Nat} {gt le ge bl C0 Cy y kx : Addr} {qual : Str} {f : Addr} {cd v0 : Value} {envL : Env} {oy : Obj} {ody : Option Obj} {m m' : Str → Option Value} {mg mb : Str → Option Value} {Q : Flow → Shared → Prop} (R : Room (n + 2) A) (hfr : A.frames = some (envX qual tStrange.scope L f cd [("handler", L + 1)] :: [envL]))
    (hfk : envL.scope.kind ≠ .module) (hff : envL.frame = some Lw) (nsL : h.Ns Lw m) (bL : B.get? Lw = none) (bS : B.get? L = none) (hLL : Lw ≠ L) (G : Glob B mg mb) (Z : Strange K B mg mb gt le ge bl C0 v0) (X : K.In B) (kp : ∀ b o, B.get? b = some o → h.get? b = some o)
    (I : InstAt B y oy Cy ody) (hlt : findIn K (.ref Cy) "__lt__" = some (some (.ref bl))) (hfn : isFn K (.ref bl) = true) (hnf : notFirst K Cy (.ref C0) = true) (O1 : Ordered K B Cy y kx)
    (H : ∀ B', (∀ b o, B.get? b = some o → B'.get? b = some o) → OpRaises n prog w B' .Lt (.ref kx) v0)
    (ns : h.Ns L m') (ic : h.IsCell (L + 1) (some (.ref y)))
    (k : ∀ h' t' D, (∀ (b : Nat) o, b ≠ L → b ≠ Lw → h.get? b = some o → h'.get? b = some o) → (∀ b o, b ≠ L → h.get? b = some o → (∀ vs, o.data ≠ .fields vs) → ∃ sl, h'.get? b = some { o with slots := sl }) → h'.Ns L (fun y => if y = "told" then some (.ref D) else m' y) → h'.PlainList D #[] → Q .next ⟨h', g, d, t', os⟩) :
    wpAny (model prog w) A (exec sStrange1 (envX qual tStrange.scope L f cd [("handler", L + 1)])) Q (fun _ _ => False) ⟨h, g, d, t, os⟩ := by
  refine wpAny_Try_except ?_
  refine wpAny_execs_cons (wpAny_Assign_Name (wpAny_List (wpAny_items_cons ?_)) rfl)
  refine wpAny_Compare1 (wpAny_Name (wpAny_loadName_cell rfl rfl rfl ic ?_) (by decide))
  refine Call_Name0 (b_glob G kp Z.base (callWith_K0 (env := envX qual tStrange.scope L f cd [("handler", L + 1)]) (X.keeps kp) Z.make.keep (wpAny_call (plain_made (X.keeps kp) Z.make.makes Z.make.init fun h₁ a1 x1 d1 => ?_))))
  have kp1 : ∀ b o, B.get? b = some o → h₁.get? b = some o := fun b o e => a1.keep _ _ (kp b o e)
  have zL : L < h.objs.size := ns.lt
  have zLw : Lw < h.objs.size := nsL.lt
  generalize h.objs.size = z at x1 d1 zL zLw ⊢
  have kBs : ∀ b o, B.get? b = some o → (hideAll h₁ [L, Lw]).get? b = some o := fun b o e => hideAll_get _ (kp1 _ _ e) (by
    intro hm
    rcases List.mem_cons.mp hm with rfl | hm
    · rw [bS] at e; cases e
    · rw [List.mem_singleton.mp hm, bL] at e; cases e)
  have nsL1 := nsL.keeps a1.keep
  have ns1 := ns.keeps a1.keep
  have hl : h₁.FunFrames (hideAll h₁ [L, Lw]) (envX qual tStrange.scope L f cd [("handler", L + 1)] :: [envL]) := Heap.FunFrames.cons (by show tStrange.scope.kind ≠ .module; decide) rfl ns1 (hideAll_none _ (by simp))
    ⟨hfk, let ⟨o, es, ep, e, hd, _⟩ := nsL1; ⟨Lw, o, hff, hideAll_none _ (by simp), e, fun vs q => by rw [hd] at q; cases q⟩, trivial⟩
  have I0 : InstAt h₁ (z + 1) (instObj C0 z) C0 (some emptyDict) := ⟨x1, rfl, rfl, d1⟩
  have hid : ∀ (b : Nat) o, b ≠ L → b ≠ Lw → h₁.get? b = some o → (hideAll h₁ [L, Lw]).get? b = some o := fun b o n1 n2 e => hideAll_get _ e (by
    intro hm
    rcases List.mem_cons.mp hm with e | hm
    · exact n1 e
    · exact n2 (List.mem_singleton.mp hm))
  have Is : InstAt (hideAll h₁ [L, Lw]) (z + 1) (instObj C0 z) C0 (some emptyDict) := ⟨hid (z + 1) _ (by omega) (by omega) x1, rfl, rfl, hid z _ (by omega) (by omega) d1⟩
  have kof : ∀ b o, (hideAll h₁ [L, Lw]).get? b = some o → h₁.get? b = some o := fun b o e => of_hideAll _ e
  refine own_any rfl R.room (X.keeps kp1) (inst_keeps I kp1) I0.type hnf hlt hfn (blt_raises (n := n) (R.le) hfr hl kof (G.keeps kBs) Z.hasattr.1 Z.hasattr.2 (X.keeps kBs) (Z.blt.keeps kBs) (O1.keeps kBs) Is Z.hga Z.hm Z.hf Z.hv (H _ kBs) fun h₂ tk e a0 fl up => ?_)
  -- the clause takes it
  refine wpAny_looks_onW hfr rfl fl fun h₃ held up3 => ?_
  refine wpAny_landsW held fun h₄ fl4 up4 => ?_
  obtain ⟨ob, hob, hobc⟩ := fl4.there
  have kp4 : ∀ b o, B.get? b = some o → h₄.get? b = some o := fun b o e => fl4.1 _ _ (kBs _ _ e)
  refine wpAny_handleBy_builtin (X := "AttributeError") (T := "AttributeError") (b := true) ae_isExc ae_notTuple ae_self (b_built G kp4 Z.ae.1 Z.ae.2 ⟨rfl, ⟨ob, hob, hobc⟩, ?_⟩)
  refine lands_againW fl4 fun h₅ fl5 up5 => ?_
  refine wpAny_passesOwnAt .never ?_
  have up15 := ((up.trans up3).trans up4).trans up5
  have ns5 := up15.ns ns1
  have st5 : ∀ b o, (hideAll h₁ [L, Lw]).get? b = some o → h₅.get? b = some o := fl5.1
  clear fl fl4 fl5 held up up3 up4 up5 hob hobc kp4
  -- told = []
  refine wpAny_execs_cons (wpAny_Assign_Name ?_ rfl)
  refine wpAny_List (wpAny_items_nil ⟨by decide, ?_⟩)
  refine wpAny_storeName_local rfl (ns5.push _) (fun h₆ ns6 sb6 => ?_) rfl
  refine wpAny_execs_nil ?_
  have nL5 : h₅.objs.size ≠ L := fun z => Nat.lt_irrefl _ (z ▸ ns5.lt)
  refine k h₆ _ h₅.objs.size (fun b o n1 n2 e => (sb6.2 b n1).trans (Heap.get?_push_of_some _ (st5 _ _ (hid b o n1 n2 (a1.keep _ _ e))))) (fun b o n1 e hd => ?_) ns6 ⟨0, (sb6.2 _ nL5).trans (Heap.get?_push_size _ rfl)⟩
  obtain ⟨sl, e'⟩ := up15 b o (a1.keep _ _ e) hd
  exact ⟨sl, (sb6.2 b n1).trans (Heap.get?_push_of_some _ e')⟩
end
end Mine
end
section
open PySem PySem.W PySem.W.X PyProof.Rows PySem.Calls Builtin Builtin.ObjectAttr
set_option Elab.async false
set_option maxRecDepth 100000
namespace Mine
section
variable {prog : Program} {w : World} {A : Around} {E : Value → Shared → Prop} {s : Shared} {h h' B B' : Heap} {g : Array GenState} {d : Drawn} {t : Nat} {os : OsState} {K : Frag} {q : Addr} {l l' : List (Int × Int)}
theorem strange_does {Lw : Nat} {n : Nat} {fn gt le ge bl C0 Cy y kx : Addr} {v0 : Value} {envL : Env} {oy : Obj} {ody : Option Obj} {m : Str → Option Value} {mg mb : Str → Option Value} {Q : Value → Shared → Prop} (R : Room (n + 3) A) (hfr : A.frames = some [envL])
    (hfk : envL.scope.kind ≠ .module) (hff : envL.frame = some Lw) (nsL : h.Ns Lw m) (bL : B.get? Lw = none) (G : Glob B mg mb) (N : Names3 mg mb) (Z : Strange K B mg mb gt le ge bl C0 v0) (X : K.In B) (kp : ∀ b o, B.get? b = some o → h.get? b = some o)
    (D : DefAt B tStrange fn) (I : InstAt B y oy Cy ody) (hp : oy.data = .plain) (hlt : findIn K (.ref Cy) "__lt__" = some (some (.ref bl))) (hfn : isFn K (.ref bl) = true) (hnf : notFirst K Cy (.ref C0) = true) (O1 : Ordered K B Cy y kx)
    (H : ∀ B', (∀ b o, B.get? b = some o → B'.get? b = some o) → OpRaises n prog w B' .Lt (.ref kx) v0)
    (k : ∀ h' t', (∀ (b : Nat) o, b ≠ Lw → h.get? b = some o → h'.get? b = some o) → h'.Ns Lw m → Q (.bool true) ⟨h', g, d, t', os⟩) :
    wpAny (model prog w) A (PySem.call (.ref fn) [.ref y]) Q E ⟨h, g, d, t, os⟩ := by
  obtain ⟨nm, qual, od, osl, doc, pm, cd, ct, an, hf, hcd⟩ := D
  refine wpAny_call (codeAny_call_function R.calls (kp _ _ hf) rfl rfl rfl rfl (hcd.keeps kp) ?_)
  rw [strange_binds]
  refine wpAny_pure (env_cell (x := "handler") rfl rfl (fun n => rfl) (fun H => rfl) fun h₁ t₁ ns₁ ic₁ ad₁ => ⟨(G.lim.keeps kp).keeps ad₁.keep, codeAny_func ?_⟩)
  have lt : ∀ (b : Nat) o, h.get? b = some o → b < h.objs.size := fun b o e => Heap.lt_size e
  have sz := ad₁.size
  generalize h.objs.size = L at ns₁ ic₁ lt sz ⊢
  refine wpAny_mono (Q := fun fl s' => Q (match fl with | .ret v => v | _ => .none) s') (E := fun _ _ => False) ?_ (fun fl s' x => x) (fun _ _ x => x.elim)
  show wpAny _ (A.deeper (envX qual tStrange.scope L fn cd [("handler", L + 1)])) (execs tStrange.body (envX qual tStrange.scope L fn cd [("handler", L + 1)])) _ _ _
  have R' := R.deeper (env := envX qual tStrange.scope L fn cd [("handler", L + 1)])
  have hfr' := Around.frames_deeper (env := envX qual tStrange.scope L fn cd [("handler", L + 1)]) hfr
  generalize A.deeper (envX qual tStrange.scope L fn cd [("handler", L + 1)]) = A' at R' hfr' ⊢
  clear hfr R
  have hB : ∀ (b : Nat) o, B.get? b = some o → b < L := fun b o e => lt b o (kp b o e)
  have kp1 : ∀ b o, B.get? b = some o → h₁.get? b = some o := fun b o e => ad₁.keep _ _ (kp b o e)
  have lw : Lw < L := by
    obtain ⟨o, _, _, e, _⟩ := id nsL
    exact lt _ _ e
  refine wpAny_execs_cons (handed_made (h := h₁) R'.le G N Z kp1 hB I.at_ hp ns₁ ic₁ sz fun h₂ t₂ kp2 ns₂ pl₂ => ?_)
  have kB2 : ∀ (b : Nat) o, B.get? b = some o → h₂.get? b = some o := fun b o e => kp2 b o (by have := hB b o e; omega) (kp1 b o e)
  have nsL2 : h₂.Ns Lw m := let ⟨o, es, ep, e, r⟩ := nsL; ⟨o, es, ep, kp2 _ _ (by omega) (ad₁.keep _ _ e), r⟩
  have ic₂ : h₂.IsCell (L + 1) (some (.ref y)) := let ⟨o, e, r⟩ := ic₁; ⟨o, kp2 _ _ (by omega) e, r⟩
  have bS : B.get? L = none := by
    cases z : B.get? L with
    | none => rfl
    | some o => exact absurd (hB _ _ z) (Nat.lt_irrefl _)
  refine wpAny_execs_cons (strange_try (n := n) R' hfr' hfk hff nsL2 bL bS (by omega) G Z X kB2 I hlt hfn hnf O1 H ns₂ ic₂ fun h₃ t₃ D kp3 up3 ns₃ plD => ?_)
  have pl₃ : h₃.PlainList (L + 4) #[.bool true, .bool true, .bool true] := pl₂.at fun o e => kp3 _ _ (by show L + 4 ≠ L; omega) (by show L + 4 ≠ Lw; omega) e
  have nsL3 : h₃.Ns Lw m := by
    obtain ⟨o, es, ep, e, hd, r⟩ := nsL2
    obtain ⟨sl, e'⟩ := up3 _ _ (by show Lw ≠ L; omega) e (fun vs q => by rw [hd] at q; cases q)
    exact ⟨_, es, ep, e', hd, r⟩
  have kpF : ∀ (b : Nat) o, b ≠ Lw → h.get? b = some o → h₃.get? b = some o := fun b o nb e => kp3 b o (by have := lt b o e; omega) nb (kp2 b o (by have := lt b o e; omega) (ad₁.keep _ _ e))
  clear kp2 kp3 up3 ns₂ pl₂ nsL2 ic₂ kp1 ns₁ ic₁ ad₁ kB2
  -- return handed == [True, True, True] and told == []
  refine wpAny_execs_cons (wpAny_Return_some (BoolOp_and ?_))
  refine wpAny_Compare1 (wpAny_Name (wpAny_loadName_local rfl rfl ns₃ rfl ?_) (by decide))
  refine wpAny_List (wpAny_items_cons (wpAny_Constant_bool (wpAny_items_cons (wpAny_Constant_bool (wpAny_items_cons (wpAny_Constant_bool (wpAny_items_nil ⟨by show (3 : Nat) ≤ sizeLine; decide, ?_⟩)))))))
  obtain ⟨nh, eh⟩ := pl₃
  obtain ⟨nd, ed⟩ := plD
  have pu : ∀ b o, h₃.get? b = some o → (h₃.push { cls := .type "list", data := .seq [Value.bool true, .bool true, .bool true].toArray }).get? b = some o := fun b o e => Heap.get?_push_of_some _ e
  refine eq_dataH (da := .list [.bool true, .bool true, .bool true]) (db := .list [.bool true, .bool true, .bool true]) (Reads.list (pu _ _ eh) rfl rfl (ReadsAll.cons (Reads.bool _) (ReadsAll.cons (Reads.bool _) (ReadsAll.cons (Reads.bool _) .nil))))
    (Reads.list (Heap.get?_push_size h₃ (o := { cls := .type "list", data := .seq [Value.bool true, .bool true, .bool true].toArray }) rfl) rfl rfl (ReadsAll.cons (Reads.bool _) (ReadsAll.cons (Reads.bool _) (ReadsAll.cons (Reads.bool _) .nil)))) (by decide) (by decide) (by have := R'.units; show A'.units + 64 < 9900; omega) ?_
  rw [show PyData.eqv (.list [.bool true, .bool true, .bool true]) (.list [.bool true, .bool true, .bool true]) = true from by decide]
  refine wpAny_truthy_bool ?_
  rw [if_pos rfl]
  have ns₄ := ns₃.push { cls := .type "list", data := .seq [Value.bool true, .bool true, .bool true].toArray }
  refine wpAny_Compare1 (wpAny_Name (wpAny_loadName_local rfl rfl ns₄ rfl ?_) (by decide))
  refine wpAny_List (wpAny_items_nil ⟨by decide, ?_⟩)
  have nsL4 := nsL3.push { cls := .type "list", data := .seq [Value.bool true, .bool true, .bool true].toArray }
  have kpG : ∀ (b : Nat) o, b ≠ Lw → h.get? b = some o → (h₃.push { cls := .type "list", data := .seq [Value.bool true, .bool true, .bool true].toArray }).get? b = some o := fun b o nb e => pu _ _ (kpF b o nb e)
  have ed4 := pu _ _ ed
  dsimp only
  generalize h₃.push { cls := .type "list", data := .seq [Value.bool true, .bool true, .bool true].toArray } = h₄ at nsL4 kpG ed4 ⊢
  refine eq_dataH (da := .list []) (db := .list []) (Reads.list (Heap.get?_push_of_some _ ed4) rfl rfl .nil) (Reads.list (Heap.get?_push_size h₄ (o := { cls := .type "list", data := .seq ([] : List Value).toArray }) rfl) rfl rfl .nil) (by decide) (by decide) (by have := R'.units; show A'.units + 64 < 9900; omega) ?_
  rw [show PyData.eqv (.list []) (.list []) = true from by decide]
  exact k _ _ (fun b o nb e => Heap.get?_push_of_some _ (kpG b o nb e)) (nsL4.push _)
end
end Mine
end
section
open PySem PySem.W PySem.W.X PyProof.Rows PySem.Calls Builtin Builtin.ObjectAttr
set_option Elab.async false
set_option maxRecDepth 100000
namespace Mine
theorem TabAll.ne {h h' : Heap} {P a : Addr} {n : Str} {ps : Array Value} (x : TabAll h P n ps) (ha : ∀ o, h.get? a = some o → ∀ vs, o.data ≠ .fields vs) (k : ∀ b o, b ≠ a → h.get? b = some o → h'.get? b = some o) : TabAll h' P n ps := by
  refine ⟨k _ _ (fun z => by subst z; exact ha _ x.1 _ rfl) x.1, x.2.1, fun pos => (x.2.2 pos).imp id fun ⟨c, e, c1, o, vs, t, e1, e2, e3, e4⟩ => ⟨c, e, c1, o, vs, t, e1, k _ _ (fun z => by subst z; exact ha _ e2 _ e3) e2, e3, e4⟩⟩
theorem TabAll.tab {h h' : Heap} {P R : Addr} {n n' : Str} {ps rs : Array Value} (x : TabAll h P n ps) (y : TabAll h R n' rs) (ne : P ≠ R) (k : ∀ b o, b ≠ R → h.get? b = some o → h'.get? b = some o) : TabAll h' P n ps := by
  refine ⟨k _ _ ne x.1, x.2.1, fun pos => (x.2.2 pos).imp id fun ⟨c, e, c1, o, vs, t, e1, e2, e3, e4⟩ => ⟨c, e, c1, o, vs, t, e1, k _ _ (fun z => ?_) e2, e3, e4⟩⟩
  subst z; rw [y.1] at e2; cases e2; cases e3
  exact tri_no y.2.1 (by rw [Array.getElem?_toList]; exact e4)
/-- where the law's frame, what was asked and the two tables lie -/
structure Ap (B : Heap) (q Lw P1 P2 : Addr) : Prop where
  b0 : B.get? q = none
  b1 : B.get? Lw = none
  b2 : B.get? P1 = none
  b3 : B.get? P2 = none
  qL : Lw ≠ q
  q1 : P1 ≠ q
  q2 : P2 ≠ q
  L1 : P1 ≠ Lw
  L2 : P2 ≠ Lw
  p12 : P1 ≠ P2
/-- how the law stands between its statements -/
structure St (B : Heap) (q Lw P1 P2 : Addr) (n1 n2 : Str) (m : Str → Option Value) (h : Heap) : Prop where
  ok : ∃ l, Ok B q l h
  ns : h.Ns Lw m
  t1 : ∃ ps, TabAll h P1 n1 ps
  t2 : ∃ ps, TabAll h P2 n2 ps
abbrev hid4 (q Lw P1 P2 : Addr) (h : Heap) : Heap := hideAll h [q, Lw, P1, P2]
section
variable {B h h' : Heap} {q Lw P1 P2 : Addr} {n1 n2 : Str} {m m' : Str → Option Value}
theorem St.qs (S : St B q Lw P1 P2 n1 n2 m h) : ∃ vs n, h.get? q = some { cls := .type "list", data := .seq (List.toArray vs) n } := let ⟨_, O⟩ := S.ok; let ⟨vs, ⟨n, e⟩, _⟩ := O.asked; ⟨vs, n, e⟩
theorem St.adds (S : St B q Lw P1 P2 n1 n2 m h) (k : ∀ b o, h.get? b = some o → h'.get? b = some o) : St B q Lw P1 P2 n1 n2 m h' :=
  ⟨let ⟨l, O⟩ := S.ok; ⟨l, O.keeps k⟩, S.ns.keeps k, let ⟨p, x⟩ := S.t1; ⟨p, x.keeps k⟩, let ⟨p, x⟩ := S.t2; ⟨p, x.keeps k⟩⟩
theorem St.but (S : St B q Lw P1 P2 n1 n2 m h) (Y : Ap B q Lw P1 P2) {B' : Heap} {l' : List (Int × Int)} (kB : ∀ b o, B.get? b = some o → B'.get? b = some o) (O : Ok B' q l' h') (bt : But q h h') : St B q Lw P1 P2 n1 n2 m h' := by
  obtain ⟨vs, n, e⟩ := S.qs
  exact ⟨⟨l', O.sub kB⟩, let ⟨x, es, ep, e, r⟩ := S.ns; ⟨x, es, ep, bt _ _ Y.qL e, r⟩, let ⟨p, x⟩ := S.t1; ⟨p, x.but e bt⟩, let ⟨p, x⟩ := S.t2; ⟨p, x.but e bt⟩⟩
theorem ns_data {a : Addr} (n : h.Ns a m) : ∀ o, h.get? a = some o → ∀ vs, o.data ≠ .fields vs := by
  intro o e vs hd
  obtain ⟨x, es, ep, g, hd', _⟩ := n
  obtain rfl := Option.some.inj (g.symm.trans e)
  rw [hd'] at hd; cases hd
theorem ns_notTup {a : Addr} (n : h.Ns a m) : ∀ o, h.get? a = some o → isTup o = false := by
  intro o e
  obtain ⟨x, es, ep, g, hd', _⟩ := n
  obtain rfl := Option.some.inj (g.symm.trans e)
  unfold isTup; rw [hd']; split
  · rename_i d; cases d
  · rfl
/-- the law's frame turns -/
theorem St.frame (S : St B q Lw P1 P2 n1 n2 m h) (Y : Ap B q Lw P1 P2) (n : h'.Ns Lw m') (k : ∀ b o, b ≠ Lw → h.get? b = some o → h'.get? b = some o) : St B q Lw P1 P2 n1 n2 m' h' := by
  refine ⟨?_, n, let ⟨p, x⟩ := S.t1; ⟨p, x.ne (ns_data S.ns) k⟩, let ⟨p, x⟩ := S.t2; ⟨p, x.ne (ns_data S.ns) k⟩⟩
  obtain ⟨l, O⟩ := S.ok
  obtain ⟨vs, i, p⟩ := O.asked
  exact ⟨l, fun b o e => k b o (fun z => by rw [z, Y.b1] at e; cases e) (O.keep b o e), O.off, ⟨vs, i.at fun o => k _ _ (Ne.symm Y.qL), p.keeps fun b o t e => k b o (fun z => by subst z; rw [ns_notTup S.ns _ e] at t; cases t) e⟩, O.few⟩
/-- a table grows -/
theorem Ok.tab {l : List (Int × Int)} {P : Addr} {n : Str} {ps : Array Value} (O : Ok B q l h) (hb : B.get? P = none) (hq : P ≠ q) (x : TabAll h P n ps) (k : ∀ b o, b ≠ P → h.get? b = some o → h'.get? b = some o) : Ok B q l h' := by
  obtain ⟨vs, i, p⟩ := O.asked
  exact ⟨fun b o e => k b o (fun z => by rw [z, hb] at e; cases e) (O.keep b o e), O.off, ⟨vs, i.at fun o => k _ _ (Ne.symm hq), p.keeps fun b o t e => k b o (fun z => by subst z; rw [x.1] at e; cases e; cases t) e⟩, O.few⟩
theorem St.tab1 (S : St B q Lw P1 P2 n1 n2 m h) (Y : Ap B q Lw P1 P2) {ps : Array Value} (x : TabAll h' P1 n1 ps) (k : ∀ b o, b ≠ P1 → h.get? b = some o → h'.get? b = some o) : St B q Lw P1 P2 n1 n2 m h' :=
  let ⟨_, y⟩ := S.t1
  ⟨let ⟨l, O⟩ := S.ok; ⟨l, O.tab Y.b2 Y.q1 y k⟩, let ⟨x, es, ep, e, r⟩ := S.ns; ⟨x, es, ep, k _ _ (Ne.symm Y.L1) e, r⟩, ⟨ps, x⟩, let ⟨p, z⟩ := S.t2; ⟨p, z.tab y (Ne.symm Y.p12) k⟩⟩
theorem St.tab2 (S : St B q Lw P1 P2 n1 n2 m h) (Y : Ap B q Lw P1 P2) {ps : Array Value} (x : TabAll h' P2 n2 ps) (k : ∀ b o, b ≠ P2 → h.get? b = some o → h'.get? b = some o) : St B q Lw P1 P2 n1 n2 m h' :=
  let ⟨_, y⟩ := S.t2
  ⟨let ⟨l, O⟩ := S.ok; ⟨l, O.tab Y.b3 Y.q2 y k⟩, let ⟨x, es, ep, e, r⟩ := S.ns; ⟨x, es, ep, k _ _ (Ne.symm Y.L2) e, r⟩, let ⟨p, z⟩ := S.t1; ⟨p, z.tab y Y.p12 k⟩, ⟨ps, x⟩⟩
/-! The heap without the four, as a base. -/
theorem St.sub (S : St B q Lw P1 P2 n1 n2 m h) (Y : Ap B q Lw P1 P2) : ∀ b o, B.get? b = some o → (hid4 q Lw P1 P2 h).get? b = some o := fun b o e => by
  obtain ⟨l, O⟩ := S.ok
  refine hideAll_get _ (O.keep _ _ e) fun hm => ?_
  simp only [List.mem_cons, List.not_mem_nil, or_false] at hm
  rcases hm with rfl | rfl | rfl | rfl
  · rw [Y.b0] at e; cases e
  · rw [Y.b1] at e; cases e
  · rw [Y.b2] at e; cases e
  · rw [Y.b3] at e; cases e
theorem hid_in {S : List Addr} : ∀ b o, (hideAll h S).get? b = some o → h.get? b = some o := fun _ _ e => of_hideAll _ e
theorem St.okH (S : St B q Lw P1 P2 n1 n2 m h) : ∃ l, Ok (hid4 q Lw P1 P2 h) q l h := let ⟨l, O⟩ := S.ok; ⟨l, hid_in, hideAll_none _ (.head _), O.asked, O.few⟩
theorem St.hid (S : St B q Lw P1 P2 n1 n2 m h) {a : Addr} {o : Obj} (e : h.get? a = some o) (hq : a ≠ q) (hd : ∀ es n, o.data ≠ .dict es n) (ht : ∀ ps, o = tabObj ps → ¬ TriplesOk ps.toList) : (hid4 q Lw P1 P2 h).get? a = some o := by
  refine hideAll_get _ e fun hm => ?_
  simp only [List.mem_cons, List.not_mem_nil, or_false] at hm
  rcases hm with rfl | rfl | rfl | rfl
  · exact hq rfl
  · obtain ⟨x, es, ep, g, hd', _⟩ := S.ns
    obtain rfl := Option.some.inj (g.symm.trans e)
    exact hd _ _ hd'
  · obtain ⟨ps, x⟩ := S.t1
    exact ht ps (Option.some.inj (e.symm.trans x.1)) x.2.1
  · obtain ⟨ps, x⟩ := S.t2
    exact ht ps (Option.some.inj (e.symm.trans x.1)) x.2.1
theorem St.hidF (S : St B q Lw P1 P2 n1 n2 m h) {a : Addr} {o : Obj} {fd : FuncData} (e : h.get? a = some o) (hf : o.data = .func fd) : (hid4 q Lw P1 P2 h).get? a = some o := by
  obtain ⟨vs, n, eq⟩ := S.qs
  exact S.hid e (fun z => by subst z; rw [eq] at e; cases e; cases hf) (fun es n z => by rw [hf] at z; cases z) fun ps z _ => by rw [z] at hf; cases hf
theorem St.hidL (S : St B q Lw P1 P2 n1 n2 m h) {a : Addr} {vs : Array Value} (e : h.PlainList a vs) (hq : a ≠ q) : (hid4 q Lw P1 P2 h).PlainList a vs :=
  let ⟨n, e⟩ := e; ⟨n, S.hid e hq (fun es n z => by cases z) fun ps z _ => by cases z⟩
theorem St.hidC (S : St B q Lw P1 P2 n1 n2 m h) {cd : Value} {n : Str} (x : h.CodeRec cd n) : (hid4 q Lw P1 P2 h).CodeRec cd n := by
  obtain ⟨c, o, vs, t, e1, e2, e3, e4⟩ := x
  obtain ⟨qs, nq, eq⟩ := S.qs
  exact ⟨c, o, vs, t, e1, S.hid e2 (fun z => by subst z; rw [eq] at e2; cases e2; cases e3) (fun es n z => by rw [e3] at z; cases z) fun ps z tr => by
    rw [z] at e3; cases e3
    exact tri_no tr (by rw [Array.getElem?_toList]; exact e4), e3, e4⟩
theorem St.hidLam (S : St B q Lw P1 P2 n1 n2 m h) {T : LTxt} {f : Addr} (x : LamAt h T f) : LamAt (hid4 q Lw P1 P2 h) T f :=
  let ⟨nm, qual, pm, cd, ct, oc, od, osl, e, r⟩ := x; ⟨nm, qual, pm, cd, ct, oc, od, osl, S.hidF e rfl, S.hidC r⟩
theorem St.hidP (S : St B q Lw P1 P2 n1 n2 m h) {a : Addr} {l : List (Int × Int)} (x : PairsAt h a l) (hq : a ≠ q) : PairsAt (hid4 q Lw P1 P2 h) a l := by
  obtain ⟨vs, n, e, p⟩ := x
  obtain ⟨qs, nq, eq⟩ := S.qs
  refine ⟨vs, n, S.hid e hq (fun es n z => by cases z) (fun ps z _ => by cases z), p.keeps fun b o t e => S.hid e (fun z => by subst z; rw [eq] at e; cases e; cases t) (fun es n z => ?_) fun ps z _ => by subst z; cases t⟩
  unfold isTup at t; rw [z] at t
  split at t
  · rename_i d; cases d
  · cases t
end
end Mine
end
section
open PySem PySem.W PySem.W.X PyProof.Rows PySem.Calls Builtin Builtin.ObjectAttr
set_option Elab.async false
set_option maxRecDepth 100000
namespace Mine
section
variable {prog : Program} {w : World} {A : Around} {E : Value → Shared → Prop} {s : Shared} {h h' B B' : Heap} {g : Array GenState} {d : Drawn} {t : Nat} {os : OsState} {K : Frag} {q : Addr} {l l' : List (Int × Int)}
theorem key_name {M : Model} {x C : Addr} {ox : Obj} {od : Option Obj} {cd : ClassData} (X : K.In h) (I : InstAt h x ox C od) (hc : clsIn K C = some cd) (hn : cd.name = "K") : Looks M h (typeNameOfCut 100 (.ref x)) "K" := by
  have L0 := I.type (M := M)
  have L1 := looks_clsIn (M := M) X hc
  have L2 : Looks M h (shownTypeOf (.ref x)) (.ref C) := by
    unfold shownTypeOf
    exact L0.andThen (Looks.of_pure (by kernel_rfl))
  refine L2.andThen ?_
  show Looks M h (typeNameCut 100 (.ref C)) "K"
  unfold typeNameCut
  refine L1.andThen ?_
  rw [hn]
  exact Looks.of_pure (by kernel_rfl)
/-- own_op, the right side's class told apart in another way -/
theorem own_op2 {n : Nat} {op : CmpOp} {x C fn : Addr} {ox : Obj} {od : Option Obj} {b tb : Value} {P : Value → Prop} {L : List (Int × Int)} (ho : isOrd op = true) (X : K.In B) (I : InstAt B x ox C od) (hb : Looks (model prog w) B (typeOf b) tb) (hn : Looks (model prog w) B (isSubtype tb (.ref C)) false)
    (hs : findIn K (.ref C) (cmpInfo op).2.1 = some (some (.ref fn))) (hf : isFn K (.ref fn) = true) (hP : ∀ v, P v → ∃ b, v = .bool b) (D : Does n prog w B q (.ref fn) [.ref x, b] P L) : DoesOp n prog w B q op (.ref x) b P L := by
  intro A E Q h g d t os l R O hl hQ
  refine rich_of ho ?_
  have X' := X.keeps O.keep
  have I' := inst_keeps I O.keep
  have hb' := hb.keeps O.keep
  have hn' := hn.keeps O.keep
  have one : wpAny (model prog w) A (tryCompare (.ref x) (cmpInfo op).2.1 b) (fun r s' => ∃ v, r = some v ∧ Q v s') E ⟨h, g, d, t, os⟩ := by
    unfold tryCompare
    refine wpAny_bind (ifBound_K X' I' hs hf (D A E _ h g d t os l R O hl fun v h' t' pv o' b' => ?_))
    obtain ⟨bb, rfl⟩ := hP v pv
    exact wpAny_pure ⟨_, rfl, hQ _ _ _ pv o' b'⟩
  unfold richCompare
  simp only [oneThing_ref]
  refine wpAny_holding (wpAny_bind (wpAny_cRoomFor R.room ?_))
  refine wpAny_bind (I'.type.at (wpAny_bind (hb'.at ?_)))
  split
  · refine wpAny_bind (hn'.at ?_)
    rw [if_neg (by decide)]
    refine wpAny_bind (wpAny_mono one (fun r s' z => ?_) fun _ _ e => e)
    obtain ⟨v, rfl, hq⟩ := z
    exact wpAny_pure hq
  · refine wpAny_bind (wpAny_pure ?_)
    rw [if_neg (by decide)]
    refine wpAny_bind (wpAny_mono one (fun r s' z => ?_) fun _ _ e => e)
    obtain ⟨v, rfl, hq⟩ := z
    exact wpAny_pure hq
/-- the four deeds of _law_made on a handler -/
theorem deeds4 {n : Nat} {less same : Bool} {L : List (Int × Int)} {x C fl gt le ge f : Addr} {b : Value} {mg mb : Str → Option Value} (G : Glob B mg mb) (N : Names3 mg mb) (X : K.In B) (T : TypeLt K B x C fl)
    (V : DoesOp n prog w B q .Lt (.ref x) b (isB less) L) (Dl : Does n prog w B q (.ref fl) [.ref x, b] (isB less) L) (DN : less = false → DoesOp n prog w B q .NotEq (.ref x) b (isB (!same)) []) (DE : less = false → DoesOp n prog w B q .Eq (.ref x) b (isB same) [])
    (D1 : DefAt B tGt gt) (D2 : DefAt B tLe le) (D3 : DefAt B tGe ge) (l : LamAt B lamLt f) (few : L.length ≤ 1000) :
    ∀ (i : Nat) (d : Addr) (r : Row), [f, gt, le, ge][i]? = some d → (rowsH less same L)[i]? = some r → (∃ o fd, B.get? d = some o ∧ o.data = .func fd) ∧ r.2.length ≤ 1000 ∧ Does (n + 1) prog w B q (.ref d) [.ref x, b] (isB r.1) r.2 := by
  have lf : ∀ {T : LTxt} {f : Addr}, LamAt B T f → ∃ o fd, B.get? f = some o ∧ o.data = .func fd := fun ⟨_, _, _, _, _, _, _, _, e, _⟩ => ⟨_, _, e, rfl⟩
  have fw2 : (L ++ (if less then ([] : List (Int × Int)) else [])).length ≤ 1000 := by cases less <;> simpa using few
  intro i d r hd hr
  match i, hd, hr with
  | 0, hd, hr => cases hd; cases hr; exact ⟨lf l, few, lam_does G lam_lt l V⟩
  | 1, hd, hr => cases hd; cases hr; exact ⟨D1.fn, fw2, gtf_does G N.type.1 N.type.2 N.ni.1 N.ni.2 X D1 T Dl DN⟩
  | 2, hd, hr => cases hd; cases hr; exact ⟨D2.fn, fw2, lef_does G N.type.1 N.type.2 N.ni.1 N.ni.2 X D2 T Dl DE⟩
  | 3, hd, hr => cases hd; cases hr; exact ⟨D3.fn, few, gef_does G N.type.1 N.type.2 N.ni.1 N.ni.2 X D3 T Dl⟩
  | i + 4, hd, hr => cases hd
end
end Mine
end
section
open PySem PySem.W PySem.W.X PyProof.Rows PySem.Calls Builtin Builtin.ObjectAttr
set_option Elab.async false
set_option maxRecDepth 100000
namespace Mine
def tLaw : Txt := defOf' (nth top 25)
def forBody : Option Stmt → List Stmt
  | some (.For _ _ b _ _) => b
  | _ => []
def iBody : List Stmt := forBody (nth tLaw.body 6)
def jBody : List Stmt := forBody (nth iBody 2)
def stAt (l : List Stmt) (i : Nat) : Stmt := (nth l i).getD (.Pass ⟨0, 0, 0, 0⟩)
abbrev EL (Lw fl : Addr) (cd : Value) : Env := envX "law" tLaw.scope Lw fl cd []
abbrev lamName (s : Str) : Str := s ++ ".<locals>." ++ "<lambda>"
/-- what the base knows of the text -/
structure Lw0 (K : Frag) (B : Heap) (mg mb : Str → Option Value) (v0 : Value) : Prop where
  G : Glob B mg mb
  N : Names mg mb
  N2 : Names2 mg mb
  N3 : Names3 mg mb
  int : mg "int" = none ∧ mb "int" = some (.type "int")
  X : K.In B
  runs : mg "_law_runs" = some (.ref 226) ∧ DefAt B tRuns 226
  made : mg "_law_made" = some (.ref 212) ∧ DefC B tMade 212 211 "_law_made" ∧ Maker B mg 211 207
  more : mg "_law_more" = some (.ref 219) ∧ DefC B tMore 219 218 "_law_more" ∧ Maker B mg 218 214
  dueK : mg "_law_due_of_keys" = some (.ref 231) ∧ DefAt B tDueK 231
  dueH : mg "_law_due_of_handlers" = some (.ref 238) ∧ DefAt B tDueH 238
  asks : mg "_law_asks" = some (.ref 198) ∧ DefAt B tAsks 198
  worth : mg "_law_worth" = some (.ref 205) ∧ DefAt B tWorth 205
  bearer : mg "_law_bearer" = some (.ref 186) ∧ DefAt B tBearer 186
  strange : mg "_law_strange" = some (.ref 243) ∧ DefAt B tStrange 243
  Z : Strange K B mg mb 28 35 42 77 80 v0
  mgr : mg "HTTPPasswordMgr" = some (.ref 149) ∧ BMake K 149 117 ∧ FnIs K tMgrInit [] 117
  bga : findIn K (.ref 149) "__getattribute__" = some (some (.builtin "object.__getattribute__"))
  bm : mroIn K 149 (.type "module") = some false
  bo : ∀ (w : World) t1 t2 p k, findObj K 149 (some (bearerDict w t1 t2 (.ref p) (.ref k))) "handler_order" = some (.value (.ref k))
/-- what the law's names are -/
structure Mp (m : Str → Option Value) (q lk lh la : Addr) (r : Nat) : Prop where
  asked : m "asked" = some (.ref q)
  keys : m "keys" = some (.ref lk)
  handlers : m "handlers" = some (.ref lh)
  answers : m "answers" = some (.ref la)
  rounds : ∃ u, m "rounds" = some (.int (r : Nat) u)
section
variable {prog : Program} {w : World} {A : Around} {E : Value → Shared → Prop} {s : Shared} {h h' B B' : Heap} {g : Array GenState} {d : Drawn} {t : Nat} {os : OsState} {K : Frag} {q Lw P1 P2 : Addr} {l l' : List (Int × Int)} {n1 n2 : Str} {m m' : Str → Option Value} {env : Env}
theorem Call_Name3 {x : Str} {p pos : Pos} {e₁ e₂ e₃ : Expr} {Q : Value → Shared → Prop} {M : Model} (h : wpAny M A (eval (.Name x p) env) (fun f s₁ => wpAny M A (callWith pos f [] [(false, eval e₁ env), (false, eval e₂ env), (false, eval e₃ env)] []) Q E s₁) E s)
    (hs : starEach [e₁, e₂, e₃] env = [(false, eval e₁ env), (false, eval e₂ env), (false, eval e₃ env)] := by rfl) : wpAny M A (eval (.Call (.Name x p) [e₁, e₂, e₃] [] pos) env) Q E s := Call_Name (by rw [hs]; rfl) h
theorem Call_Name4 {x : Str} {p pos : Pos} {e₁ e₂ e₃ e₄ : Expr} {Q : Value → Shared → Prop} {M : Model} (h : wpAny M A (eval (.Name x p) env) (fun f s₁ => wpAny M A (callWith pos f [] [(false, eval e₁ env), (false, eval e₂ env), (false, eval e₃ env), (false, eval e₄ env)] []) Q E s₁) E s)
    (hs : starEach [e₁, e₂, e₃, e₄] env = [(false, eval e₁ env), (false, eval e₂ env), (false, eval e₃ env), (false, eval e₄ env)] := by rfl) : wpAny M A (eval (.Call (.Name x p) [e₁, e₂, e₃, e₄] [] pos) env) Q E s := Call_Name (by rw [hs]; rfl) h
theorem callWith_fn0 {pos : Pos} {a : Addr} {o : Obj} {fd : FuncData} {Q : Value → Shared → Prop} {M : Model} (ho : s.heap.get? a = some o) (hf : o.data = .func fd) (h : wpAny M A (call (.ref a) []) Q E s) : wpAny M A (callWith pos (.ref a) [] [] []) Q E s :=
  callWith_function (o := o) (fd := fd) (evalArgs_nil3 ⟨⟨ho, hf⟩, h⟩)
theorem l_loc {x : Str} {p : Pos} {v : Value} {fl : Addr} {cd : Value} {Q : Value → Shared → Prop} (n : h.Ns Lw m) (hv : m x = some v) (k : Q v ⟨h, g, d, t, os⟩) (hx : tLaw.scope.names.lookup x = some .local := by rfl) (hd : (x == ("__debug__" : Str)) = false := by decide) :
    wpAny (model prog w) A (eval (.Name x p) (EL Lw fl cd)) Q E ⟨h, g, d, t, os⟩ := wpAny_Name (wpAny_loadName_local rfl hx n hv k) hd
/-- l[i], of two -/
theorem two_item {a : Addr} {x : Bool → Addr} {i : Bool} {u : Tok} {Q : Value → Shared → Prop} (hl : s.heap.IsList a #[.ref (x false), .ref (x true)]) (k : Q (.ref (x i)) s) : ItemOn (model prog w) A E (.ref a) (.int (z i) u) Q s :=
  item_of hl (by cases i <;> decide) (by cases i <;> decide) (by cases i <;> rfl) k
theorem St.keepB (S : St B q Lw P1 P2 n1 n2 m h) : ∀ b o, B.get? b = some o → h.get? b = some o := let ⟨_, O⟩ := S.ok; O.keep
theorem DefC.fn {T : Txt} {fn c : Addr} {ql : Str} (D : DefC B T fn c ql) : ∃ o fd, B.get? fn = some o ∧ o.data = .func fd := let ⟨_, _, _, _, _, _, _, e, _⟩ := D; ⟨_, _, e, rfl⟩
theorem list_ne (S : St B q Lw P1 P2 n1 n2 m h) {a : Addr} (e : h.get? a = none) : a ≠ q := by
  obtain ⟨vs, n, eq⟩ := S.qs
  rintro rfl; rw [eq] at e; cases e
/-- lists and tuples other than q stand -/
def Kept (q : Addr) (h h' : Heap) : Prop := ∀ b o, b ≠ q → isLT o = true → h.get? b = some o → h'.get? b = some o
theorem Kept.trans {h'' : Heap} (x : Kept q h h') (y : Kept q h' h'') : Kept q h h'' := fun b o nb t e => y b o nb t (x b o nb t e)
theorem Kept.of (k : ∀ b o, h.get? b = some o → h'.get? b = some o) : Kept q h h' := fun b o _ _ e => k b o e
theorem Kept.but (k : But q h h') : Kept q h h' := fun b o nb _ e => k b o nb e
theorem Kept.tab {P : Addr} {n : Str} {ps : Array Value} (x : TabAll h P n ps) (k : ∀ b o, b ≠ P → h.get? b = some o → h'.get? b = some o) : Kept q h h' := fun b o _ t e => k b o (fun z => by subst z; rw [x.1] at e; cases e; cases t) e
theorem Kept.frame (n : h.Ns Lw m) (k : ∀ b o, b ≠ Lw → h.get? b = some o → h'.get? b = some o) : Kept q h h' := fun b o _ t e => k b o (fun z => by subst z; rw [notLT_ns n e] at t; cases t) e
theorem Kept.pairs {a : Addr} {L : List (Int × Int)} (x : Kept q h h') (hq : ∃ vs n, h.get? q = some { cls := .type "list", data := .seq (List.toArray vs) n }) (ne : a ≠ q) (p : PairsAt h a L) : PairsAt h' a L := by
  obtain ⟨vs, n, e, ps⟩ := p
  obtain ⟨qs, nq, eq⟩ := hq
  exact ⟨vs, n, x _ _ ne rfl e, ps.keeps fun b o t e => x b o (fun z => by subst z; rw [eq] at e; cases e; cases t) (isLT_tup t) e⟩
theorem LamAt.tab {T : LTxt} {f P : Addr} {n : Str} {ps : Array Value} (x : LamAt h T f) (y : TabAll h P n ps) (k : ∀ b o, b ≠ P → h.get? b = some o → h'.get? b = some o) : LamAt h' T f := by
  refine x.keeps (fun z => ?_) ⟨ps, y.1, y.2.1⟩ k
  obtain ⟨_, _, _, _, _, _, _, _, e, _⟩ := x
  subst z; rw [y.1] at e; cases e
theorem LamAt.up {T : LTxt} {f : Addr} (x : LamAt h T f) (k : ∀ b o, h.get? b = some o → h'.get? b = some o) : LamAt h' T f :=
  let ⟨nm, qual, pm, cd, ct, oc, od, osl, e, r⟩ := x; ⟨nm, qual, pm, cd, ct, oc, od, osl, k _ _ e, r.keeps k⟩
theorem plain_kept {a : Addr} {vs : Array Value} (x : Kept q h h') (ne : a ≠ q) (p : h.PlainList a vs) : h'.PlainList a vs := let ⟨n, e⟩ := p; ⟨n, x _ _ ne rfl e⟩
/-- _law_made() in the law -/
theorem made_in {fl : Addr} {cd v0 : Value} {p pos : Pos} {mg mb : Str → Option Value} {Q : Value → Shared → Prop} (hd : A.depth < recursionLimit) (F : Lw0 K B mg mb v0) (Y : Ap B q Lw 207 214) (S : St B q Lw 207 214 (lamName "_law_made") (lamName "_law_more") m h)
    (k : ∀ h' t' a f, St B q Lw 207 214 (lamName "_law_made") (lamName "_law_more") m h' → Kept q h h' → LamAt h' lamLt f → h'.PlainList a #[.ref f, .ref 28, .ref 35, .ref 42] → a ≠ q → Q (.ref a) ⟨h', g, d, t', os⟩) :
    wpAny (model prog w) A (eval (.Call (.Name "_law_made" p) [] [] pos) (EL Lw fl cd)) Q E ⟨h, g, d, t, os⟩ := by
  obtain ⟨of, fd, hof, hdf⟩ := F.made.2.1.fn
  refine Call_Name0 (b_glob F.G S.keepB F.made.1 (callWith_fn0 (S.keepB _ _ hof) hdf ?_))
  obtain ⟨ps, T⟩ := S.t1
  refine made_does F.G F.made.2.2 F.made.2.1 F.Z.gt.1 F.Z.le.1 F.Z.ge.1 hd S.keepB Y.b2 T fun h' t' a f more kp lf fP T' pl aP fr => ?_
  exact k h' t' a f (S.tab1 Y T' kp) (.tab T kp) lf pl (list_ne S fr)
/-- _law_more() in the law -/
theorem more_in {fl : Addr} {cd v0 : Value} {p pos : Pos} {mg mb : Str → Option Value} {Q : Value → Shared → Prop} (hd : A.depth < recursionLimit) (F : Lw0 K B mg mb v0) (Y : Ap B q Lw 207 214) (S : St B q Lw 207 214 (lamName "_law_made") (lamName "_law_more") m h)
    (k : ∀ h' t' a f0 f1 f2 f3 f4, St B q Lw 207 214 (lamName "_law_made") (lamName "_law_more") m h' → Kept q h h' → (∀ f, LamAt h lamLt f → LamAt h' lamLt f) → LamAt h' (lamMore 0) f0 → LamAt h' (lamMore 1) f1 → LamAt h' (lamMore 2) f2 → LamAt h' (lamMore 3) f3 → LamAt h' (lamMore 4) f4 →
      h'.PlainList a #[.ref f0, .ref f1, .ref f2, .ref f3, .ref f4] → a ≠ q → Q (.ref a) ⟨h', g, d, t', os⟩) :
    wpAny (model prog w) A (eval (.Call (.Name "_law_more" p) [] [] pos) (EL Lw fl cd)) Q E ⟨h, g, d, t, os⟩ := by
  obtain ⟨of, fd, hof, hdf⟩ := F.more.2.1.fn
  refine Call_Name0 (b_glob F.G S.keepB F.more.1 (callWith_fn0 (S.keepB _ _ hof) hdf ?_))
  obtain ⟨ps, T⟩ := S.t2
  refine more_does F.G F.more.2.2 F.more.2.1 hd S.keepB Y.b3 T fun h' t' a f0 f1 f2 f3 f4 more kp l0 l1 l2 l3 l4 _ T' pl aP fr => ?_
  exact k h' t' a f0 f1 f2 f3 f4 (S.tab2 Y T' kp) (.tab T kp) (fun f x => x.tab T kp) l0 l1 l2 l3 l4 pl (list_ne S fr)
end
end Mine
end
section
open PySem PySem.W PySem.W.X PyProof.Rows PySem.Calls Builtin Builtin.ObjectAttr
set_option Elab.async false
set_option maxRecDepth 100000
namespace Mine
/-- the keys and the handlers that the law ends with -/
structure Sg (prog : Program) (w : World) (K : Frag) (B : Heap) (q : Addr) (n : Nat) (v : Bool → Bool → Int) (a : Bool → Bool → List (Int × Int)) (k y C : Bool → Addr) (KK : Frag) (Ck fl lk lh la : Addr) (a0 a1 a2 a3 : Int) (r : Nat) (v0 : Value) : Prop where
  vdef : ∀ i j, v i j = worthV r (at2 a0 a1 a2 a3) i j
  adef : ∀ i j, a i j = asksOf r (z i, z j)
  few : ∀ i j, (a i j).length ≤ 4
  rr : r ≤ 2
  lk : B.IsList lk #[.ref (k false), .ref (k true)]
  lh : B.IsList lh #[.ref (y false), .ref (y true)]
  la : ∃ u0 u1 u2 u3, B.IsList la #[.int a0 u0, .int a1 u1, .int a2 u2, .int a3 u3]
  V : Level prog w B q n v a k
  X2 : KK.In B
  T : ∀ i, TypeLt KK B (k i) Ck fl
  Dl : ∀ i j, Does n prog w B q (.ref fl) [.ref (k i), .ref (k j)] (isB (cmpZ .Lt (v i j))) (a i j)
  H : Hands K B C y 77
  O : ∀ i, Ordered K B (C i) (y i) (k i)
  pl : ∀ i, ∃ ox od, InstAt B (y i) ox (C i) od ∧ ox.data = .plain
  TH : ∀ i, TypeLt K B (y i) (C i) 77
  nfK : ∀ i, Looks (model prog w) B (isSubtype (.ref Ck) (.ref (C i))) false
  nfB : ∀ i, notFirst K (C i) (.ref 149) = true
  nf0 : ∀ i, notFirst K (C i) (.ref 80) = true
  HK : ∀ i j, Does 1 prog w B q (.ref 77) [.ref (y i), .ref (k j)] (· = .bool true) []
  kin : ∀ i, ∃ ox od, InstAt B (k i) ox Ck od
  raise : ∀ i B', (∀ b o, B.get? b = some o → B'.get? b = some o) → OpRaises 1 prog w B' .Lt (.ref (k i)) v0
theorem TypeLt.keeps {K : Frag} {B B' : Heap} {x C fl : Addr} (T : TypeLt K B x C fl) (k : ∀ b o, B.get? b = some o → B'.get? b = some o) : TypeLt K B' x C fl :=
  ⟨let ⟨ox, od, I⟩ := T.inst; ⟨ox, od, inst_keeps I k⟩, T.ga, T.reads, T.lt, let ⟨o, fd, e, r⟩ := T.fn; ⟨o, fd, k _ _ e, r⟩⟩
theorem Hands.keeps {K : Frag} {B B' : Heap} {C y : Bool → Addr} {fn : Addr} (H : Hands K B C y fn) (k : ∀ b o, B.get? b = some o → B'.get? b = some o) : Hands K B' C y fn :=
  { H with inst := fun i => let ⟨ox, od, I⟩ := H.inst i; ⟨ox, od, inst_keeps I k⟩ }
abbrev StL (B : Heap) (q Lw : Addr) := St B q Lw 207 214 (lamName "_law_made") (lamName "_law_more")
section
variable {prog : Program} {w : World} {A : Around} {E : Value → Shared → Prop} {s : Shared} {h h' B B' : Heap} {g : Array GenState} {d : Drawn} {t : Nat} {os : OsState} {K KK : Frag} {q Lw : Addr} {m m' : Str → Option Value} {env : Env} {v0 : Value} {mg mb : Str → Option Value}
  {n : Nat} {v : Bool → Bool → Int} {a : Bool → Bool → List (Int × Int)} {k y C : Bool → Addr} {Ck fl lk lh la fa : Addr} {a0 a1 a2 a3 : Int} {r : Nat} {cd : Value}
theorem runs_call {N : Nat} {deeds : List Addr} {rows : List Row} {one other : Value} {ld : Addr} {Q : Value → Shared → Prop} (F : Lw0 K B mg mb v0) (Y : Ap B q Lw 207 214) (S : StL B q Lw m h) (R : Room (N + 1) A) (hl : (hid4 q Lw 207 214 h).IsList ld (deeds.map Value.ref).toArray) (hlen : deeds.length = rows.length) (few : rows.length ≤ 1000)
    (H : ∀ (i : Nat) (f : Addr) (r : Row), deeds[i]? = some f → rows[i]? = some r → (∃ o fd, (hid4 q Lw 207 214 h).get? f = some o ∧ o.data = .func fd) ∧ r.2.length ≤ 1000 ∧ Does N prog w (hid4 q Lw 207 214 h) q (.ref f) [one, other] (isB r.1) r.2)
    (k : ∀ v h' t', StL B q Lw m h' → But q h h' → (∃ as, Reads (hideAll h' [q]) v (rowsD rows) as) → Q v ⟨h', g, d, t', os⟩) : wpAny (model prog w) A (PySem.call (.ref 226) [.ref q, .ref ld, one, other]) Q E ⟨h, g, d, t, os⟩ := by
  obtain ⟨l, O⟩ := S.okH
  exact runs_does (F.G.keeps (S.sub Y)) F.N (F.runs.2.keeps (S.sub Y)) hl hlen few H A E Q h g d t os l R O fun v h' t' l' O' bt rd => k v h' t' (S.but Y (S.sub Y) O' bt) bt rd
theorem ne_end {x1 x2 : Value} {rows : List Row} {Q : Value → Shared → Prop} (hu : A.units + 64 < cLine) (rd : ∃ as, Reads (hideAll h [q]) x1 (rowsD rows) as) (bt : ∀ b o, b ≠ q → h.get? b = some o → h'.get? b = some o) (rd2 : ∃ as, Reads h' x2 (rowsD rows) as) (k : Q (.bool false) ⟨h', g, d, t, os⟩) :
    wpAny (model prog w) A (compareOp .NotEq x1 x2) Q E ⟨h', g, d, t, os⟩ := by
  obtain ⟨as, rd⟩ := rd
  obtain ⟨bs, rd2⟩ := rd2
  refine ne_dataH (s := ⟨h', g, d, t, os⟩) (PyProof.Rows.Reads.keeps (h' := h') (fun b o e => bt b o (fun z => ?_) (of_hideAll _ e)) rd) rd2 (shaped_rows _) (shaped_rows _) hu ?_
  · subst z; rw [hideAll_none [b] (.head _)] at e; cases e
  · rw [eqv_rows]; exact k
theorem hid_mono {S : List Addr} (k : ∀ b o, (hideAll h S).get? b = some o → h'.get? b = some o) : ∀ b o, (hideAll h S).get? b = some o → (hideAll h' S).get? b = some o := fun b o e => hideAll_get _ (k b o e) fun hm => by
  rw [hideAll_none S hm] at e; cases e
/-- _law_due_of_handlers(less, same, asks) -/
theorem dueh_in {aa : Addr} {L : List (Int × Int)} {less same : Bool} {Q : Value → Shared → Prop} (F : Lw0 K B mg mb v0) (Y : Ap B q Lw 207 214) (S : StL B q Lw m h) (R : Room 1 A) (P : PairsAt (hid4 q Lw 207 214 h) aa L)
    (k : ∀ v h' t', StL B q Lw m h' → But q h h' → (∃ as, Reads h' v (rowsD (dueH less same L)) as) → Q v ⟨h', g, d, t', os⟩) : wpAny (model prog w) A (PySem.call (.ref 238) [.bool less, .bool same, .ref aa]) Q E ⟨h, g, d, t, os⟩ := by
  obtain ⟨l, O⟩ := S.okH
  exact dueh_does (F.G.keeps (S.sub Y)) (F.dueH.2.keeps (S.sub Y)) P A E Q h g d t os l R O fun v h' t' p O' bt => k v h' t' (S.but Y (S.sub Y) O' bt) bt p
/-- if _law_runs(asked, _law_made(), handlers[i], keys[i]) != _law_due_of_handlers(True, False, []): return False -/
theorem st_hk {i : Bool} {ui : Tok} {Q : Flow → Shared → Prop} (F : Lw0 K B mg mb v0) (Y : Ap B q Lw 207 214) (Z : Sg prog w K B q n v a k y C KK Ck fl lk lh la a0 a1 a2 a3 r v0) (R : Room 8 A) (M : Mp m q lk lh la r) (mi : m "i" = some (.int (z i) ui)) (S : StL B q Lw m h)
    (kk : ∀ h' t', StL B q Lw m h' → Q .next ⟨h', g, d, t', os⟩) : wpAny (model prog w) A (exec (stAt iBody 0) (EL Lw fa cd)) Q E ⟨h, g, d, t, os⟩ := by
  obtain ⟨of, fd, hof, hdf⟩ := F.runs.2.fn
  obtain ⟨oh, fh, hoh, hdh⟩ := F.dueH.2.fn
  refine wpAny_If (wpAny_isTrue_Compare1 ?_)
  refine Call_Name4 (b_glob F.G S.keepB F.runs.1 ?_)
  refine callWith_function (o := of) (fd := fd) (evalArgs_plain (spliced_cons (l_loc S.ns M.asked (spliced_cons ?_))))
  refine made_in R.calls F Y S fun h₁ t₁ ld f S _ lf pl nq => ?_
  refine spliced_cons (Subscript_Name (l_loc S.ns M.handlers (l_loc S.ns mi (two_item (x := y) (isList_keeps Z.lh S.keepB) ?_))))
  refine spliced_cons (Subscript_Name (l_loc S.ns M.keys (l_loc S.ns mi (two_item (x := k) (isList_keeps Z.lk S.keepB) ?_))))
  refine spliced_nil ⟨⟨S.keepB _ _ hof, hdf⟩, ?_⟩
  have kB := S.sub Y
  obtain ⟨ox, od, Iy⟩ := Z.H.inst i
  obtain ⟨okx, okd, Ik⟩ := Z.kin i
  have D0 := (Z.HK i i).base kB
  have V0 : DoesOp 1 prog w (hid4 q Lw 207 214 h₁) q .Lt (.ref (y i)) (.ref (k i)) (isB true) [] := own_op2 rfl (F.X.keeps kB) (inst_keeps Iy kB) (inst_keeps Ik kB).type ((Z.nfK i).keeps kB) (Z.H.lt i) Z.H.fn (fun _ e => ⟨_, e⟩) D0
  refine runs_call (N := 2) (deeds := [f, 28, 35, 42]) (rows := rowsH true false []) F Y S R.le (S.hidL pl nq).isList rfl (by decide) (deeds4 (n := 1) (F.G.keeps kB) F.N3 (F.X.keeps kB) ((Z.TH i).keeps kB) V0 D0 (fun e => by cases e) (fun e => by cases e) (F.Z.gt.2.keeps kB) (F.Z.le.2.keeps kB) (F.Z.ge.2.keeps kB) (S.hidLam lf) (by decide)) fun v1 h₂ t₂ S bt rd => ?_
  rw [rowsH_due] at rd
  clear V0 D0 kB lf pl nq
  -- _law_due_of_handlers(True, False, [])
  refine Call_Name3 (b_glob F.G S.keepB F.dueH.1 ?_)
  refine callWith_function (o := oh) (fd := fh) (evalArgs_plain (spliced_cons (wpAny_Constant_bool (spliced_cons (wpAny_Constant_bool (spliced_cons (wpAny_List (wpAny_items_nil ⟨by decide, ?_⟩))))))))
  have S3 := S.adds (h' := h₂.push { cls := .type "list", data := .seq ([] : List Value).toArray }) fun _ _ e => Heap.get?_push_of_some _ e
  have nq : h₂.objs.size ≠ q := by
    obtain ⟨vs, nn, eq⟩ := S.qs
    exact fun z => Nat.lt_irrefl _ (z ▸ Heap.lt_size eq)
  refine spliced_nil ⟨⟨S3.keepB _ _ hoh, hdh⟩, ?_⟩
  refine dueh_in F Y S3 R.le (S3.hidP ⟨[], _, Heap.get?_push_size h₂ (o := { cls := .type "list", data := .seq ([] : List Value).toArray }) rfl, .nil⟩ nq) fun v2 h₃ t₃ S bt2 rd2 => ?_
  refine ne_end (by have := R.units; show A.units + 64 < 9900; omega) rd (fun b o nb e => bt2 b o nb (Heap.get?_push_of_some _ e)) rd2 (wpAny_truthy_bool ?_)
  rw [if_neg (by decide)]
  exact wpAny_execs_nil (kk _ _ S)
end
end Mine
end
section
open PySem PySem.W PySem.W.X PyProof.Rows PySem.Calls Builtin Builtin.ObjectAttr
set_option Elab.async false
set_option maxRecDepth 100000
namespace Mine
section
variable {prog : Program} {w : World} {A : Around} {E : Value → Shared → Prop} {s : Shared} {h h' B B' : Heap} {g : Array GenState} {d : Drawn} {t : Nat} {os : OsState} {K KK : Frag} {q Lw : Addr} {m m' : Str → Option Value} {env : Env} {v0 : Value} {mg mb : Str → Option Value}
  {n : Nat} {v : Bool → Bool → Int} {a : Bool → Bool → List (Int × Int)} {k y C : Bool → Addr} {Ck fl lk lh la fa : Addr} {a0 a1 a2 a3 : Int} {r : Nat} {cd : Value}
/-- if not _law_strange(handlers[i]): return False -/
theorem st_strange {i : Bool} {ui : Tok} {Q : Flow → Shared → Prop} (F : Lw0 K B mg mb v0) (Y : Ap B q Lw 207 214) (Z : Sg prog w K B q n v a k y C KK Ck fl lk lh la a0 a1 a2 a3 r v0) (R : Room 8 A) (hfr : A.frames = some [EL Lw fa cd]) (M : Mp m q lk lh la r) (mi : m "i" = some (.int (z i) ui)) (S : StL B q Lw m h)
    (kk : ∀ h' t', StL B q Lw m h' → Q .next ⟨h', g, d, t', os⟩) : wpAny (model prog w) A (exec (stAt iBody 1) (EL Lw fa cd)) Q E ⟨h, g, d, t, os⟩ := by
  obtain ⟨of, fd, hof, hdf⟩ := F.strange.2.fn
  obtain ⟨ox, od, I, hp⟩ := Z.pl i
  refine wpAny_If (wpAny_isTrue_Not (isTrue_plain ?_))
  refine Call_name1 rfl (b_glob F.G S.keepB F.strange.1 (callWith_function (o := of) (fd := fd) (evalArgs_plain (spliced_cons ?_))))
  refine Subscript_Name (l_loc S.ns M.handlers (l_loc S.ns mi (two_item (x := y) (isList_keeps Z.lh S.keepB) ?_)))
  refine spliced_nil ⟨⟨S.keepB _ _ hof, hdf⟩, ?_⟩
  refine strange_does (n := 1) (envL := EL Lw fa cd) (Lw := Lw) R.le hfr (by show tLaw.scope.kind ≠ .module; decide) rfl S.ns Y.b1 F.G F.N3 F.Z F.X S.keepB F.strange.2 I hp (Z.H.lt i) Z.H.fn (Z.nf0 i) (Z.O i) (Z.raise i) fun h₁ t₁ kp ns => ?_
  refine wpAny_truthy_bool ?_
  show wpAny _ _ (execs [] _) _ _ _
  exact wpAny_execs_nil (kk _ _ (S.frame Y ns kp))
theorem pairs_store {aa : Addr} {L : List (Int × Int)} (n : h.Ns Lw m) (sb : Heap.SameBut Lw h h') (x : PairsAt h aa L) : PairsAt h' aa L := x.lt (keepLT n sb)
/-- asks = _law_asks(i, j, rounds) -/
theorem st_asks {i j : Bool} {ui uj : Tok} {Q : Flow → Shared → Prop} (F : Lw0 K B mg mb v0) (Y : Ap B q Lw 207 214) (Z : Sg prog w K B q n v a k y C KK Ck fl lk lh la a0 a1 a2 a3 r v0) (R : Room 8 A) (M : Mp m q lk lh la r) (mi : m "i" = some (.int (z i) ui)) (mj : m "j" = some (.int (z j) uj)) (S : StL B q Lw m h)
    (kk : ∀ h' t' xa, StL B q Lw (fun y => if y = "asks" then some (.ref xa) else m y) h' → PairsAt h' xa (a i j) → xa ≠ q → Q .next ⟨h', g, d, t', os⟩) : wpAny (model prog w) A (exec (stAt jBody 0) (EL Lw fa cd)) Q E ⟨h, g, d, t, os⟩ := by
  obtain ⟨of, fd, hof, hdf⟩ := F.asks.2.fn
  obtain ⟨ur, mr⟩ := M.rounds
  refine wpAny_Assign_Name ?_ rfl
  refine Call_Name3 (b_glob F.G S.keepB F.asks.1 ?_)
  refine callWith_function (o := of) (fd := fd) (evalArgs_plain (spliced_cons (l_loc S.ns mi (spliced_cons (l_loc S.ns mj (spliced_cons (l_loc S.ns mr ?_)))))))
  refine spliced_nil ⟨⟨S.keepB _ _ hof, hdf⟩, ?_⟩
  obtain ⟨l, O⟩ := S.ok
  refine asks_does F.G F.N2 F.asks.2 Z.rr A E _ h g d t os l R.le O fun v h₁ t₁ p O' bt => ?_
  obtain ⟨xa, rfl, px, nx⟩ := p
  replace S := S.but Y (fun _ _ e => e) O' bt
  refine wpAny_storeName_local rfl S.ns (fun h₂ ns₂ sb => ?_) rfl
  rw [← Z.adef] at px
  exact kk h₂ _ xa (S.frame Y ns₂ fun b o nb e => (sb.2 b nb).trans e) (pairs_store S.ns sb px) nx
/-- worth = _law_worth(answers, i, j, rounds) -/
theorem st_worth {i j : Bool} {ui uj : Tok} {xa : Addr} {L : List (Int × Int)} {Q : Flow → Shared → Prop} (F : Lw0 K B mg mb v0) (Y : Ap B q Lw 207 214) (Z : Sg prog w K B q n v a k y C KK Ck fl lk lh la a0 a1 a2 a3 r v0) (R : Room 8 A) (M : Mp m q lk lh la r) (mi : m "i" = some (.int (z i) ui)) (mj : m "j" = some (.int (z j) uj)) (S : StL B q Lw m h) (P : PairsAt h xa L) (nx : xa ≠ q)
    (kk : ∀ h' t' u, StL B q Lw (fun y => if y = "worth" then some (.int (v i j) u) else m y) h' → PairsAt h' xa L → Q .next ⟨h', g, d, t', os⟩) : wpAny (model prog w) A (exec (stAt jBody 1) (EL Lw fa cd)) Q E ⟨h, g, d, t, os⟩ := by
  obtain ⟨of, fd, hof, hdf⟩ := F.worth.2.fn
  obtain ⟨ur, mr⟩ := M.rounds
  obtain ⟨u0, u1, u2, u3, hl⟩ := Z.la
  refine wpAny_Assign_Name ?_ rfl
  refine Call_Name4 (b_glob F.G S.keepB F.worth.1 ?_)
  refine callWith_function (o := of) (fd := fd) (evalArgs_plain (spliced_cons (l_loc S.ns M.answers (spliced_cons (l_loc S.ns mi (spliced_cons (l_loc S.ns mj (spliced_cons (l_loc S.ns mr ?_)))))))))
  refine spliced_nil ⟨⟨S.keepB _ _ hof, hdf⟩, ?_⟩
  obtain ⟨l, O⟩ := S.ok
  refine worth_does F.G F.int.1 F.int.2 F.worth.2 hl A E _ h g d t os l R.le O fun v h₁ t₁ p O' bt => ?_
  obtain ⟨u, rfl⟩ := p
  replace P := (Kept.but bt).pairs S.qs nx P
  replace S := S.but Y (fun _ _ e => e) O' bt
  refine wpAny_storeName_local rfl S.ns (fun h₂ ns₂ sb => ?_) rfl
  rw [← Z.vdef] at ns₂
  exact kk h₂ _ u (S.frame Y ns₂ fun b o nb e => (sb.2 b nb).trans e) (pairs_store S.ns sb P)
/-- if _law_runs(asked, _law_made() + _law_more(), keys[i], keys[j]) != _law_due_of_keys(worth, asks): return False -/
theorem st_kk {i j : Bool} {ui uj uw : Tok} {xa : Addr} {Q : Flow → Shared → Prop} (F : Lw0 K B mg mb v0) (Y : Ap B q Lw 207 214) (Z : Sg prog w K B q n v a k y C KK Ck fl lk lh la a0 a1 a2 a3 r v0) (R : Room (n + 4) A) (M : Mp m q lk lh la r) (mi : m "i" = some (.int (z i) ui)) (mj : m "j" = some (.int (z j) uj))
    (mw : m "worth" = some (.int (v i j) uw)) (ma : m "asks" = some (.ref xa)) (S : StL B q Lw m h) (P : PairsAt h xa (a i j)) (nx : xa ≠ q)
    (kk : ∀ h' t', StL B q Lw m h' → PairsAt h' xa (a i j) → Q .next ⟨h', g, d, t', os⟩) : wpAny (model prog w) A (exec (stAt jBody 2) (EL Lw fa cd)) Q E ⟨h, g, d, t, os⟩ := by
  obtain ⟨of, fd, hof, hdf⟩ := F.runs.2.fn
  obtain ⟨oh, fh, hoh, hdh⟩ := F.dueK.2.fn
  refine wpAny_If (wpAny_isTrue_Compare1 ?_)
  refine Call_Name4 (b_glob F.G S.keepB F.runs.1 ?_)
  refine callWith_function (o := of) (fd := fd) (evalArgs_plain (spliced_cons (l_loc S.ns M.asked (spliced_cons (wpAny_BinOp ?_)))))
  refine made_in R.calls F Y S fun h₁ t₁ l1 f S1 kp1 lf pl1 nq1 => ?_
  replace P := kp1.pairs S.qs nx P
  clear S kp1
  refine more_in R.calls F Y S1 fun h₂ t₂ l2 f0 f1 f2 f3 f4 S kp2 up m0 m1 m2 m3 m4 pl2 nq2 => ?_
  replace P := kp2.pairs S1.qs nx P
  replace lf := up f lf
  obtain ⟨c1, e1⟩ := plain_kept kp2 nq1 pl1
  obtain ⟨c2, e2⟩ := pl2
  clear kp2 up S1 pl1
  refine _root_.PySem.P.add_list e1 e2 ?_ (by show (4 + 5 : Nat) ≤ sizeLine; decide)
  have nq : h₂.objs.size ≠ q := by
    obtain ⟨vs, nn, eq⟩ := S.qs
    exact fun z => Nat.lt_irrefl _ (z ▸ Heap.lt_size eq)
  have pl := Heap.get?_push_size h₂ (o := { cls := .type "list", data := .seq (#[Value.ref f, .ref 28, .ref 35, .ref 42] ++ #[Value.ref f0, .ref f1, .ref f2, .ref f3, .ref f4]) }) rfl
  have pu : ∀ b o, h₂.get? b = some o → (h₂.push { cls := .type "list", data := .seq (#[Value.ref f, .ref 28, .ref 35, .ref 42] ++ #[Value.ref f0, .ref f1, .ref f2, .ref f3, .ref f4]) }).get? b = some o := fun _ _ e => Heap.get?_push_of_some _ e
  replace S := S.adds pu
  replace P := P.keeps pu
  replace lf := lf.up pu
  replace m0 := m0.up pu
  replace m1 := m1.up pu
  replace m2 := m2.up pu
  replace m3 := m3.up pu
  replace m4 := m4.up pu
  clear pu e1 e2
  dsimp only
  generalize h₂.objs.size = ld at pl nq ⊢
  generalize h₂.push { cls := .type "list", data := .seq (#[Value.ref f, .ref 28, .ref 35, .ref 42] ++ #[Value.ref f0, .ref f1, .ref f2, .ref f3, .ref f4]) } = h₃ at S P lf m0 m1 m2 m3 m4 pl ⊢
  refine spliced_cons (Subscript_Name (l_loc S.ns M.keys (l_loc S.ns mi (two_item (x := k) (isList_keeps Z.lk S.keepB) ?_))))
  refine spliced_cons (Subscript_Name (l_loc S.ns M.keys (l_loc S.ns mj (two_item (x := k) (isList_keeps Z.lk S.keepB) ?_))))
  refine spliced_nil ⟨⟨S.keepB _ _ hof, hdf⟩, ?_⟩
  have kB := S.sub Y
  refine runs_call (N := n + 1) (deeds := [f, 28, 35, 42, f0, f1, f2, f3, f4]) (rows := rowsK (v i j) (a i j)) F Y S R.le (S.hidL (vs := #[.ref f, .ref 28, .ref 35, .ref 42, .ref f0, .ref f1, .ref f2, .ref f3, .ref f4]) ⟨_, pl⟩ nq).isList rfl (by show (9 : Nat) ≤ 1000; decide)
    (deeds_keys (F.G.keeps kB) F.N3 (Z.X2.keeps kB) (fun op ho i j => (Z.V op ho i j).base kB) (fun i => (Z.T i).keeps kB) (fun i j => (Z.Dl i j).base kB) (F.Z.gt.2.keeps kB) (F.Z.le.2.keeps kB) (F.Z.ge.2.keeps kB) (S.hidLam lf) (S.hidLam m0) (S.hidLam m1) (S.hidLam m2) (S.hidLam m3) (S.hidLam m4) (fun i j => by have := Z.few i j; omega) i j) fun v1 h₄ t₄ S4 bt rd => ?_
  rw [rowsK_due] at rd
  replace P := (Kept.but bt).pairs S.qs nx P
  clear kB lf m0 m1 m2 m3 m4 pl bt S
  refine Call_Name2 (b_glob F.G S4.keepB F.dueK.1 ?_)
  refine callWith_function (o := oh) (fd := fh) (evalArgs_plain (spliced_cons (l_loc S4.ns mw (spliced_cons (l_loc S4.ns ma ?_)))))
  refine spliced_nil ⟨⟨S4.keepB _ _ hoh, hdh⟩, ?_⟩
  obtain ⟨l, O⟩ := S4.okH
  refine duek_does (F.G.keeps (S4.sub Y)) (F.dueK.2.keeps (S4.sub Y)) (S4.hidP P nx) (by have := Z.few i j; omega) A E _ h₄ g d _ os l R.le O fun v2 h₅ t₅ rd2 O' bt2 => ?_
  refine ne_end (by have := R.units; show A.units + 64 < 9900; omega) rd bt2 rd2 (wpAny_truthy_bool ?_)
  rw [if_neg (by decide)]
  exact wpAny_execs_nil (kk _ _ (S4.but Y (S4.sub Y) O' bt2) ((Kept.but bt2).pairs S4.qs nx P))
end
end Mine
end
section
open PySem PySem.W PySem.W.X PyProof.Rows PySem.Calls Builtin Builtin.ObjectAttr
set_option Elab.async false
set_option maxRecDepth 100000
namespace Mine
section
variable {prog : Program} {w : World} {A : Around} {E : Value → Shared → Prop} {s : Shared} {h h' B B' : Heap} {g : Array GenState} {d : Drawn} {t : Nat} {os : OsState} {K KK : Frag} {q Lw : Addr} {m m' : Str → Option Value} {env : Env} {v0 : Value} {mg mb : Str → Option Value}
  {n : Nat} {v : Bool → Bool → Int} {a : Bool → Bool → List (Int × Int)} {k y C : Bool → Addr} {Ck fl lk lh la fa : Addr} {a0 a1 a2 a3 : Int} {r : Nat} {cd : Value}
theorem Sg.blt (F : Lw0 K B mg mb v0) (Z : Sg prog w K B q n v a k y C KK Ck fl lk lh la a0 a1 a2 a3 r v0) (i j : Bool) : Does (n + 1) prog w B q (.ref 77) [.ref (y i), .ref (y j)] (isB (cmpZ .Lt (v i j))) (a i j) :=
  blt_does F.G F.Z.hasattr.1 F.Z.hasattr.2 F.X F.Z.blt (Z.O i) (Z.O j) (Z.V .Lt rfl i j)
/-- if _law_runs(asked, _law_made(), handlers[i], handlers[j]) != _law_due_of_handlers(worth < 0, i == j, asks): return False -/
theorem st_hh {i j : Bool} {ui uj uw : Tok} {xa : Addr} {Q : Flow → Shared → Prop} (F : Lw0 K B mg mb v0) (Y : Ap B q Lw 207 214) (Z : Sg prog w K B q n v a k y C KK Ck fl lk lh la a0 a1 a2 a3 r v0) (R : Room (n + 5) A) (M : Mp m q lk lh la r) (mi : m "i" = some (.int (z i) ui)) (mj : m "j" = some (.int (z j) uj))
    (mw : m "worth" = some (.int (v i j) uw)) (ma : m "asks" = some (.ref xa)) (S : StL B q Lw m h) (P : PairsAt h xa (a i j)) (nx : xa ≠ q)
    (kk : ∀ h' t', StL B q Lw m h' → PairsAt h' xa (a i j) → Q .next ⟨h', g, d, t', os⟩) : wpAny (model prog w) A (exec (stAt jBody 3) (EL Lw fa cd)) Q E ⟨h, g, d, t, os⟩ := by
  obtain ⟨of, fd, hof, hdf⟩ := F.runs.2.fn
  obtain ⟨oh, fh, hoh, hdh⟩ := F.dueH.2.fn
  refine wpAny_If (wpAny_isTrue_Compare1 ?_)
  refine Call_Name4 (b_glob F.G S.keepB F.runs.1 ?_)
  refine callWith_function (o := of) (fd := fd) (evalArgs_plain (spliced_cons (l_loc S.ns M.asked (spliced_cons ?_))))
  refine made_in R.calls F Y S fun h₁ t₁ ld f S1 kp1 lf pl nq => ?_
  replace P := kp1.pairs S.qs nx P
  clear S kp1
  refine spliced_cons (Subscript_Name (l_loc S1.ns M.handlers (l_loc S1.ns mi (two_item (x := y) (isList_keeps Z.lh S1.keepB) ?_))))
  refine spliced_cons (Subscript_Name (l_loc S1.ns M.handlers (l_loc S1.ns mj (two_item (x := y) (isList_keeps Z.lh S1.keepB) ?_))))
  refine spliced_nil ⟨⟨S1.keepB _ _ hof, hdf⟩, ?_⟩
  have kB := S1.sub Y
  refine runs_call (N := n + 2) (deeds := [f, 28, 35, 42]) (rows := rowsH (cmpZ .Lt (v i j)) (i == j) (a i j)) F Y S1 R.le (S1.hidL pl nq).isList rfl (by show (4 : Nat) ≤ 1000; decide)
    (deeds4 (n := n + 1) (F.G.keeps kB) F.N3 (F.X.keeps kB) ((Z.TH i).keeps kB) ((hands_lt F.G F.Z.hasattr.1 F.Z.hasattr.2 F.X F.Z.blt Z.H Z.O Z.V i j).base kB) ((Z.blt F i j).base kB)
      (fun _ => (((hand_ne F.X Z.H i j).le (by omega)).base kB)) (fun _ => (((hand_eq F.X Z.H i j).le (by omega)).base kB)) (F.Z.gt.2.keeps kB) (F.Z.le.2.keeps kB) (F.Z.ge.2.keeps kB) (S1.hidLam lf) (by have := Z.few i j; omega)) fun v1 h₄ t₄ S4 bt rd => ?_
  rw [rowsH_due] at rd
  replace P := (Kept.but bt).pairs S1.qs nx P
  clear kB lf pl bt S1
  refine Call_Name3 (b_glob F.G S4.keepB F.dueH.1 ?_)
  refine callWith_function (o := oh) (fd := fh) (evalArgs_plain (spliced_cons (wpAny_Compare1 (l_loc S4.ns mw (v_int fun _ _ => _root_.PySem.P.lt_int ?_)))))
  refine spliced_cons (wpAny_Compare1 (l_loc S4.ns mi (l_loc S4.ns mj (_root_.PySem.P.eq_int ?_))))
  refine spliced_cons (l_loc S4.ns ma ?_)
  refine spliced_nil ⟨⟨S4.keepB _ _ hoh, hdh⟩, ?_⟩
  rw [show (z i == z j) = (i == j) by cases i <;> cases j <;> rfl]
  refine dueh_in F Y S4 R.le (S4.hidP P nx) fun v2 h₅ t₅ S5 bt2 rd2 => ?_
  refine ne_end (by have := R.units; show A.units + 64 < 9900; omega) rd bt2 rd2 (wpAny_truthy_bool ?_)
  rw [if_neg (by decide)]
  exact wpAny_execs_nil (kk _ _ S5 ((Kept.but bt2).pairs S4.qs nx P))
theorem Subscript_SliceT {value : Expr} {lower upper : Option Expr} {p pos : Pos} {Q : Value → Shared → Prop}
    (h : wpAny (model prog w) A (eval value env) (fun o s₁ => wpAny (model prog w) A (eval (.Slice lower upper none p) env) (fun i s₂ => ItemOn (model prog w) A E o i Q s₂) E s₁) E s) :
    wpAny (model prog w) A (eval (.Subscript value (.Slice lower upper none p) pos) env) Q E s := by
  rw [eval_Subscript]
  refine wpAny_bind (wpAny_mono h (fun o s₁ h₁ => wpAny_bind (wpAny_holding (wpAny_mono h₁ (fun i s₂ h₂ => wpAny_bind (wpAny_standAt ?_)) fun _ _ x => x)))
    fun _ _ x => x)
  obtain ⟨T, id, hl, hT, hg⟩ := h₂
  first
    | (refine wpAny_bind ?_; rw [getitemInPython_of_ne hT.not_modules]; refine wpAny_bind (wpAny_specialOf hT hl ?_))
    | refine wpAny_bind (wpAny_specialOf hT hl ?_)
  have fin : wpAny (model prog w) A (operate [i, o] (getItem o i)) (fun r s₃ => wpAny (model prog w) A (letTemporaryGo value o r >>= fun _ => pure r) Q E s₃) E s₂ :=
    wpAny_operating (wpAny_mono hg (fun r s₃ h₃ => wpAny_bind (wpAny_letTemporaryGo (wpAny_pure h₃))) fun _ _ x => x)
  first
    | exact wpAny_pure (wpAny_bind fin)
    | exact wpAny_bind (wpAny_pure (wpAny_bind fin))
    | exact wpAny_bind fin
end
end Mine
end
section
open PySem PySem.W PySem.W.X PyProof.Rows PySem.Calls Builtin Builtin.ObjectAttr
set_option Elab.async false
set_option maxRecDepth 100000
namespace Mine
section
variable {prog : Program} {w : World} {A : Around} {E : Value → Shared → Prop} {s : Shared} {h h' B B' : Heap} {g : Array GenState} {d : Drawn} {t : Nat} {os : OsState} {K KK : Frag} {q Lw : Addr} {m m' : Str → Option Value} {env : Env} {v0 : Value} {mg mb : Str → Option Value}
  {n : Nat} {v : Bool → Bool → Int} {a : Bool → Bool → List (Int × Int)} {k y C : Bool → Addr} {Ck fl lk lh la fa : Addr} {a0 a1 a2 a3 : Int} {r : Nat} {cd : Value}
theorem bearer_asked (w : World) (t1 t2 : Tok) (p v : Value) : ∀ es ep, (bearerDict w t1 t2 p v).data = .dict es ep → nsFind es "asked" = none := by
  intro es ep e
  cases e
  kernel_rfl
theorem bearer_hid (S : StL B q Lw m h) (M : Mp m q lk lh la r) {dx : Addr} {t1 t2 : Tok} {p v : Value} (ed : h.get? dx = some (bearerDict w t1 t2 p v)) : (hid4 q Lw 207 214 h).get? dx = some (bearerDict w t1 t2 p v) := by
  refine hideAll_get _ ed fun hm => ?_
  simp only [List.mem_cons, List.not_mem_nil, or_false] at hm
  rcases hm with rfl | rfl | rfl | rfl
  · obtain ⟨vs, nn, eq⟩ := S.qs
    rw [eq] at ed
    have hd : (bearerDict w t1 t2 p v).data = .seq (List.toArray vs) nn := (congrArg Obj.data (Option.some.inj ed)).symm
    cases hd
  · obtain ⟨o, es, ep, e, hd, _, fm⟩ := S.ns
    obtain rfl := Option.some.inj (e.symm.trans ed)
    have := fm "asked"
    rw [bearer_asked _ _ _ _ _ _ _ hd, M.asked] at this
    cases this
  · obtain ⟨ps, x⟩ := S.t1
    rw [x.1] at ed; cases ed
  · obtain ⟨ps, x⟩ := S.t2
    rw [x.1] at ed; cases ed
/-- if _law_runs(asked, _law_made()[:1], handlers[i], _law_bearer(keys[j])) != [[True, worth < 0, asks]]: return False -/
theorem st_hb {i j : Bool} {ui uj uw : Tok} {xa : Addr} {Q : Flow → Shared → Prop} (F : Lw0 K B mg mb v0) (Y : Ap B q Lw 207 214) (Z : Sg prog w K B q n v a k y C KK Ck fl lk lh la a0 a1 a2 a3 r v0) (R : Room (n + 5) A) (M : Mp m q lk lh la r) (mi : m "i" = some (.int (z i) ui)) (mj : m "j" = some (.int (z j) uj))
    (mw : m "worth" = some (.int (v i j) uw)) (ma : m "asks" = some (.ref xa)) (S : StL B q Lw m h) (P : PairsAt h xa (a i j)) (nx : xa ≠ q)
    (kk : ∀ h' t', StL B q Lw m h' → Q .next ⟨h', g, d, t', os⟩) : wpAny (model prog w) A (exec (stAt jBody 4) (EL Lw fa cd)) Q E ⟨h, g, d, t, os⟩ := by
  obtain ⟨of, fd, hof, hdf⟩ := F.runs.2.fn
  obtain ⟨oh, fh, hoh, hdh⟩ := F.bearer.2.fn
  refine wpAny_If (wpAny_isTrue_Compare1 ?_)
  refine Call_Name4 (b_glob F.G S.keepB F.runs.1 ?_)
  refine callWith_function (o := of) (fd := fd) (evalArgs_plain (spliced_cons (l_loc S.ns M.asked (spliced_cons (Subscript_SliceT ?_)))))
  refine made_in R.calls F Y S fun h₁ t₁ l1 f S1 kp1 lf pl1 nq1 => ?_
  replace P := kp1.pairs S.qs nx P
  clear S kp1
  -- [:1]
  refine wpAny_Slice (wpAny_evalPart_none (wpAny_evalPart_some (v_int fun u1 t2 => wpAny_evalPart_none ?_)))
  have hl := pl1.isList.push (h := h₁) { cls := .type "slice", data := .fields #[.none, .int 1 u1, .none] }
  refine ⟨"list", _, list_getitem_lookup, hl.typeIs, wpAny_getItem_list_slice hl (Heap.IsSliceOf.new ..) .none (.int 1 _) .none (by simp) ?_ (by show (4 : Nat) ≤ sizeLine; decide)⟩
  rw [show slicePick #[Value.ref f, .ref 28, .ref 35, .ref 42] none (some 1) none = #[.ref f] from rfl]
  have pu0 : ∀ b o, h₁.get? b = some o → (h₁.push { cls := .type "slice", data := .fields #[.none, .int 1 u1, .none] }).get? b = some o := fun _ _ e => Heap.get?_push_of_some _ e
  replace S1 := S1.adds pu0
  replace P := P.keeps pu0
  replace lf := lf.up pu0
  clear pu0 hl pl1 nq1
  dsimp only at S1 P lf ⊢
  generalize h₁.push { cls := .type "slice", data := .fields #[.none, .int 1 u1, .none] } = h₂ at S1 P lf ⊢
  have nq : h₂.objs.size ≠ q := by
    obtain ⟨vs, nn, eq⟩ := S1.qs
    exact fun z => Nat.lt_irrefl _ (z ▸ Heap.lt_size eq)
  have pl := Heap.get?_push_size h₂ (o := { cls := .type "list", data := .seq #[Value.ref f] }) rfl
  have pu : ∀ b o, h₂.get? b = some o → (h₂.push { cls := .type "list", data := .seq #[Value.ref f] }).get? b = some o := fun _ _ e => Heap.get?_push_of_some _ e
  have S := S1.adds pu
  replace P := P.keeps pu
  replace lf := lf.up pu
  clear pu S1
  generalize h₂.objs.size = ld at pl nq ⊢
  generalize h₂.push { cls := .type "list", data := .seq #[Value.ref f] } = h₃ at S P lf pl ⊢
  refine spliced_cons (Subscript_Name (l_loc S.ns M.handlers (l_loc S.ns mi (two_item (x := y) (isList_keeps Z.lh S.keepB) ?_))))
  -- _law_bearer(keys[j])
  refine spliced_cons (Call_name1 rfl (b_glob F.G S.keepB F.bearer.1 (callWith_function (o := oh) (fd := fh) (evalArgs_plain (spliced_cons ?_)))))
  refine Subscript_Name (l_loc S.ns M.keys (l_loc S.ns mj (two_item (x := k) (isList_keeps Z.lk S.keepB) ?_)))
  refine spliced_nil ⟨⟨S.keepB _ _ hoh, hdh⟩, ?_⟩
  have kB := S.sub Y
  obtain ⟨l, O⟩ := S.okH
  refine bearer_does (F.G.keeps kB) F.mgr.1 (F.X.keeps kB) F.mgr.2.1 F.mgr.2.2 (F.bearer.2.keeps kB) A E _ h₃ g d _ os l R.le O fun vb h₄ t₄ p O' bt => ?_
  obtain ⟨x, dx, u2, u3, pp, rfl, ex, ed⟩ := p
  have S4 := S.but Y kB O' bt
  replace P := (Kept.but bt).pairs S.qs nx P
  have mono := hid_mono O'.keep
  have lf4 := (S.hidLam lf).up mono
  have pl4 := isList_keeps (S.hidL (vs := #[.ref f]) ⟨_, pl⟩ nq).isList mono
  clear lf pl mono O O' bt kB S
  refine spliced_nil ⟨⟨S4.keepB _ _ hof, hdf⟩, ?_⟩
  have kB := S4.sub Y
  have ed4 := bearer_hid S4 M ed
  have ex4 : (hid4 q Lw 207 214 h₄).get? x = some (instObj 149 dx) := by
    obtain ⟨vs, nn, eq⟩ := S4.qs
    exact S4.hid ex (fun z => by subst z; rw [eq] at ex; cases ex) (fun es n z => by cases z) fun ps z _ => by cases z
  have Ib : InstAt (hid4 q Lw 207 214 h₄) x (instObj 149 dx) 149 (some (bearerDict w u2 u3 (.ref pp) (.ref (k j)))) := ⟨ex4, rfl, rfl, ed4⟩
  obtain ⟨ox, od, Iy⟩ := Z.H.inst i
  have V1 : DoesOp (n + 1) prog w (hid4 q Lw 207 214 h₄) q .Lt (.ref (y i)) (.ref x) (isB (cmpZ .Lt (v i j))) (a i j) :=
    own_op rfl (F.X.keeps kB) (inst_keeps Iy kB) Ib.type (Z.nfB i) (Z.H.lt i) Z.H.fn (fun _ e => ⟨_, e⟩)
      (blt_does (F.G.keeps kB) F.Z.hasattr.1 F.Z.hasattr.2 (F.X.keeps kB) (F.Z.blt.keeps kB) ((Z.O i).keeps kB) ⟨F.bga, F.bm, _, _, Ib, F.bo w u2 u3 pp (k j)⟩ ((Z.V .Lt rfl i j).base kB))
  have few : (a i j).length ≤ 1000 := by have := Z.few i j; omega
  refine runs_call (N := n + 2) (deeds := [f]) (rows := [(cmpZ .Lt (v i j), a i j)]) F Y S4 R.le pl4 rfl (by show (1 : Nat) ≤ 1000; decide) (fun i' d' r' hd' hr' => by
    match i', hd', hr' with
    | 0, hd', hr' => cases hd'; cases hr'; exact ⟨let ⟨_, _, _, _, _, _, _, _, e, _⟩ := lf4; ⟨_, _, e, rfl⟩, few, lam_does (F.G.keeps kB) lam_lt lf4 V1⟩
    | i' + 1, hd', hr' => cases hd') fun v1 h₅ t₅ S5 bt rd => ?_
  replace P := (Kept.but bt).pairs S4.qs nx P
  clear V1 Ib ex4 ed4 kB lf4 pl4 bt S4 ex ed
  -- [[True, worth < 0, asks]]
  refine wpAny_List (wpAny_items_cons (v_row0 P (b := cmpZ .Lt (v i j)) (fun k => wpAny_Compare1 (l_loc S5.ns mw (v_int fun _ _ => _root_.PySem.P.lt_int (k _)))) (fun k => l_loc S5.ns ma (k _)) fun h₆ t₆ v6 a6 r6 _ _ => ?_))
  refine wpAny_items_nil ⟨by show (1 : Nat) ≤ sizeLine; decide, ?_⟩
  have pu : ∀ b o, h₆.get? b = some o → (h₆.push { cls := .type "list", data := .seq [v6].toArray }).get? b = some o := fun _ _ e => Heap.get?_push_of_some _ e
  have rd2 : ∃ as, Reads (h₆.push { cls := .type "list", data := .seq [v6].toArray }) (.ref h₆.objs.size) (rowsD [(cmpZ .Lt (v i j), a i j)]) as := ((DuesAt.cons r6 .nil).keeps pu).list (Heap.get?_push_size h₆ (o := { cls := .type "list", data := .seq [v6].toArray }) rfl)
  refine ne_end (by have := R.units; show A.units + 64 < 9900; omega) rd (fun b o _ e => pu _ _ (a6.keep _ _ e)) rd2 (wpAny_truthy_bool ?_)
  rw [if_neg (by decide)]
  exact wpAny_execs_nil (kk _ _ (S5.adds fun b o e => pu _ _ (a6.keep _ _ e)))
end
end Mine
end
section
open PySem PySem.W PySem.W.X PyProof.Rows PySem.Calls Builtin Builtin.ObjectAttr
set_option Elab.async false
set_option maxRecDepth 100000
namespace Mine
section
variable {prog : Program} {w : World} {A : Around} {E : Value → Shared → Prop} {s : Shared} {h h' B B' : Heap} {g : Array GenState} {d : Drawn} {t : Nat} {os : OsState} {K KK : Frag} {q Lw : Addr} {m m' : Str → Option Value} {env : Env} {v0 : Value} {mg mb : Str → Option Value}
  {n : Nat} {v : Bool → Bool → Int} {a : Bool → Bool → List (Int × Int)} {k y C : Bool → Addr} {Ck fl lk lh la fa : Addr} {a0 a1 a2 a3 : Int} {r : Nat} {cd : Value}
theorem TabAll.other {P a : Addr} {n : Str} {ps : Array Value} (x : TabAll h P n ps) (hP : P ≠ a) (ha : ∀ o, h.get? a = some o → ∀ vs, o.data = .fields vs → ∀ s t, vs[1]? ≠ some (.str s t)) (k : ∀ b o, b ≠ a → h.get? b = some o → h'.get? b = some o) : TabAll h' P n ps :=
  ⟨k _ _ hP x.1, x.2.1, fun pos => (x.2.2 pos).imp id fun ⟨c, e, c1, o, vs, t, e1, e2, e3, e4⟩ => ⟨c, e, c1, o, vs, t, e1, k _ _ (fun z => by subst z; exact ha _ e2 _ e3 _ _ e4) e2, e3, e4⟩⟩
/-- the loop's iterator turns -/
theorem St.iter {I : Addr} {x left step : Int} (S : StL B q Lw m h) (it : IsRangeIter h I x left step) (hB : B.get? I = none) (nq : I ≠ q) (nL : I ≠ Lw) (n1 : I ≠ 207) (n2 : I ≠ 214) (k : ∀ b o, b ≠ I → h.get? b = some o → h'.get? b = some o) : StL B q Lw m h' := by
  have ha : ∀ o, h.get? I = some o → ∀ vs, o.data = .fields vs → ∀ s t, vs[1]? ≠ some (.str s t) := by
    intro o e vs hd s t e1
    obtain rfl := Option.some.inj (it.symm.trans e)
    cases hd; cases e1
  have nt : ∀ o, h.get? I = some o → isTup o = false := fun o e => by
    obtain rfl := Option.some.inj (it.symm.trans e); rfl
  refine ⟨?_, let ⟨x, es, ep, e, r⟩ := S.ns; ⟨x, es, ep, k _ _ (Ne.symm nL) e, r⟩, let ⟨p, x⟩ := S.t1; ⟨p, x.other (Ne.symm n1) ha k⟩, let ⟨p, x⟩ := S.t2; ⟨p, x.other (Ne.symm n2) ha k⟩⟩
  obtain ⟨l, O⟩ := S.ok
  obtain ⟨vs, i, p⟩ := O.asked
  exact ⟨l, fun b o e => k b o (fun z => by rw [z, hB] at e; cases e) (O.keep b o e), O.off, ⟨vs, i.at fun o => k _ _ (Ne.symm nq), p.keeps fun b o t e => k b o (fun z => by subst z; rw [nt _ e] at t; cases t) e⟩, O.few⟩
theorem Ap.hid (Y : Ap B q Lw 207 214) : Ap (hid4 q Lw 207 214 h) q Lw 207 214 :=
  { Y with b0 := hideAll_none _ (.head _), b1 := hideAll_none _ (.tail _ (.head _)), b2 := hideAll_none _ (.tail _ (.tail _ (.head _))), b3 := hideAll_none _ (.tail _ (.tail _ (.tail _ (.head _)))) }
theorem St.up (S : StL B q Lw m h) : StL (hid4 q Lw 207 214 h) q Lw m h := ⟨S.okH, S.ns, S.t1, S.t2⟩
theorem St.down (S : StL B' q Lw m h) (k : ∀ b o, B.get? b = some o → B'.get? b = some o) : StL B q Lw m h := ⟨let ⟨l, O⟩ := S.ok; ⟨l, O.sub k⟩, S.ns, S.t1, S.t2⟩
/-- for x in range(2) -/
theorem for_two {x : Str} {bd : List Stmt} {p p1 p2 p3 p4 : Pos} {nn : Nat} {Q : Flow → Shared → Prop} (Mok : (Str → Option Value) → Prop) (hx : tLaw.scope.names.lookup x = some .local) (hh : A.handled = none) (F : Lw0 K B mg mb v0) (Y : Ap B q Lw 207 214) (S : StL B q Lw m h) (M0 : Mok m)
    (hM : ∀ m v, Mok m → Mok (fun y => if y = x then some v else m y))
    (body : ∀ (i : Bool) (B₁ : Heap) (Q' : Flow → Shared → Prop) (E' : Value → Shared → Prop) h₁ t₁ u m₁, (∀ b o, B.get? b = some o → B₁.get? b = some o) → Ap B₁ q Lw 207 214 → StL B₁ q Lw m₁ h₁ → m₁ x = some (.int (z i) u) → Mok m₁ →
      (∀ h₂ t₂ m₂, StL B₁ q Lw m₂ h₂ → Mok m₂ → Q' .next ⟨h₂, g, d, t₂, os⟩) → wpAny (model prog w) A (execs bd (EL Lw fa cd)) Q' E' ⟨h₁, g, d, t₁, os⟩)
    (k : ∀ h' t' m', StL B q Lw m' h' → Mok m' → Q .next ⟨h', g, d, t', os⟩) (hs : ∀ v, foldedSetIterable (.Call (.Name "range" p1) [.Constant (.int 2) nn p2] [] p3) (EL Lw fa cd) v = pure v := by intro _; rfl) :
    wpAny (model prog w) A (exec (.For (.Name x p) (.Call (.Name "range" p1) [.Constant (.int 2) nn p2] [] p3) bd [] p4) (EL Lw fa cd)) Q E ⟨h, g, d, t, os⟩ := by
  refine wpAny_For ?_ hs
  refine Call_name1 rfl (b_built F.G S.keepB F.N2.range.1 F.N2.range.2 (callWith_type1 (v_int fun _ _ => ?_)))
  refine range_it (n := 2) (by decide) fun h₁ t₁ ad it => ?_
  have S1 := S.adds ad.keep
  have sz : ∀ (b : Nat) o, h.get? b = some o → b ≠ h.objs.size + 1 := fun b o e z => by
    have := Heap.lt_size e
    rw [z] at this
    exact Nat.lt_irrefl _ (Nat.lt_of_succ_lt this)
  have nB : B.get? (h.objs.size + 1) = none := by
    cases e : B.get? (h.objs.size + 1) with
    | none => rfl
    | some o => exact absurd rfl (sz _ _ (S.keepB _ _ e))
  have nq : h.objs.size + 1 ≠ q := by
    obtain ⟨vs, c, e⟩ := S.qs
    exact fun z => sz _ _ e z.symm
  have nL : h.objs.size + 1 ≠ Lw := by
    obtain ⟨o, es, ep, e, _⟩ := S.ns
    exact fun z => sz _ _ e z.symm
  have n1 : h.objs.size + 1 ≠ 207 := by
    obtain ⟨ps, e, _⟩ := S.t1
    exact fun z => sz _ _ e z.symm
  have n2 : h.objs.size + 1 ≠ 214 := by
    obtain ⟨ps, e, _⟩ := S.t2
    exact fun z => sz _ _ e z.symm
  generalize h.objs.size + 1 = I at it nB nq nL n1 n2 ⊢
  clear sz ad S
  refine codeAny_forLoop (fun n' s' => ∃ (c : Nat) (m : Str → Option Value) (h' : Heap) (t' : Nat), s' = ⟨h', g, d, t', os⟩ ∧ n' = 2 - c ∧ c ≤ 2 ∧ StL B q Lw m h' ∧ Mok m ∧ IsRangeIter h' I ((c : Nat) : Int) ((2 : Int) - ((c : Nat) : Int)) 1) ?_ 2 ⟨0, m, h₁, t₁, rfl, rfl, by omega, S1, M0, it⟩
  clear S1 it M0
  rintro n' s' ⟨c, m, h', t', rfl, rfl, hc, S, M, it⟩
  by_cases hlt : c < 2
  · refine wpAny_pyNext_range_item it (by omega) fun h₂ it2 sb2 => ?_
    have S2 := S.iter it nB nq nL n1 n2 fun b o nb e => (sb2.2 b nb).trans e
    dsimp only
    refine wpAny_assign_Name (wpAny_storeName_local hx S2.ns (fun h₃ ns₃ sb₃ => ?_) rfl)
    have S3 := S2.frame Y ns₃ fun b o nb e => (sb₃.2 b nb).trans e
    have it3 := (sb₃.2 I nL).trans it2
    have itB : (hid4 q Lw 207 214 h₃).get? I = _ := S3.hid it3 nq (fun es n z => by cases z) fun ps z _ => by cases z
    have hv : ∃ i, (c : Int) = z i := by
      rcases (show c = 0 ∨ c = 1 by omega) with rfl | rfl
      · exact ⟨false, rfl⟩
      · exact ⟨true, rfl⟩
    obtain ⟨i, hi⟩ := hv
    refine body i _ _ _ h₃ _ _ _ (S3.sub Y) Y.hid S3.up (by show (if x = x then some _ else _) = _; rw [if_pos rfl, hi]) (hM _ _ M) fun h₄ t₄ m₄ S4 M4 => ?_
    refine ⟨2 - (c + 1), by omega, c + 1, m₄, h₄, t₄, rfl, rfl, hlt, S4.down (S3.sub Y), M4, ?_⟩
    have := S4.keepB _ _ itB
    have e1 : ((c + 1 : Nat) : Int) = (c : Int) + 1 := by omega
    have e2 : (2 : Int) - ((c + 1 : Nat) : Int) = (2 : Int) - (c : Int) - 1 := by omega
    rw [e2, e1]; exact this
  · obtain rfl : c = 2 := by omega
    refine wpAny_pyNext_range_end hh it (by omega) fun h₂ eb => ?_
    refine wpAny_execs_nil ?_
    exact k h₂ _ m (S.iter it nB nq nL n1 n2 fun b o nb e => eb b o nb e) M
end
end Mine
end
section
open PySem PySem.W PySem.W.X PyProof.Rows PySem.Calls Builtin Builtin.ObjectAttr
set_option Elab.async false
set_option maxRecDepth 100000
namespace Mine
section
variable {prog : Program} {w : World} {A : Around} {E : Value → Shared → Prop} {s : Shared} {h h' B B' : Heap} {g : Array GenState} {d : Drawn} {t : Nat} {os : OsState} {K KK : Frag} {q Lw : Addr} {m m' : Str → Option Value} {env : Env} {v0 : Value} {mg mb : Str → Option Value}
  {n : Nat} {v : Bool → Bool → Int} {a : Bool → Bool → List (Int × Int)} {k y C : Bool → Addr} {Ck fl lk lh la fa : Addr} {a0 a1 a2 a3 : Int} {r : Nat} {cd : Value}
theorem DefC.keeps {T : Txt} {fn c : Addr} {ql : Str} (D : DefC B T fn c ql) (k : ∀ b o, B.get? b = some o → B'.get? b = some o) : DefC B' T fn c ql :=
  let ⟨nm, od, osl, doc, pm, ct, an, e, r⟩ := D; ⟨nm, od, osl, doc, pm, ct, an, k _ _ e, r.keeps k⟩
theorem Maker.keeps {c P : Addr} (M : Maker B mg c P) (k : ∀ b o, B.get? b = some o → B'.get? b = some o) : Maker B' mg c P :=
  ⟨M.hd.keeps k, M.ns.keeps k, M.gP, let ⟨bm, ob, b1, b2, b3, b4, b5, r⟩ := M.bi; ⟨bm, ob, b1, b2, b3, b4, k _ _ b5, r⟩⟩
theorem Strange.keeps {gt le ge bl C0 : Addr} (Z : Strange K B mg mb gt le ge bl C0 v0) (k : ∀ b o, B.get? b = some o → B'.get? b = some o) : Strange K B' mg mb gt le ge bl C0 v0 :=
  { Z with gt := ⟨Z.gt.1, Z.gt.2.keeps k⟩, le := ⟨Z.le.1, Z.le.2.keeps k⟩, ge := ⟨Z.ge.1, Z.ge.2.keeps k⟩, blt := Z.blt.keeps k }
theorem Lw0.keeps (F : Lw0 K B mg mb v0) (k : ∀ b o, B.get? b = some o → B'.get? b = some o) : Lw0 K B' mg mb v0 :=
  { F with
    G := F.G.keeps k, X := F.X.keeps k, runs := ⟨F.runs.1, F.runs.2.keeps k⟩, made := ⟨F.made.1, F.made.2.1.keeps k, F.made.2.2.keeps k⟩, more := ⟨F.more.1, F.more.2.1.keeps k, F.more.2.2.keeps k⟩
    dueK := ⟨F.dueK.1, F.dueK.2.keeps k⟩, dueH := ⟨F.dueH.1, F.dueH.2.keeps k⟩, asks := ⟨F.asks.1, F.asks.2.keeps k⟩, worth := ⟨F.worth.1, F.worth.2.keeps k⟩, bearer := ⟨F.bearer.1, F.bearer.2.keeps k⟩, strange := ⟨F.strange.1, F.strange.2.keeps k⟩, Z := F.Z.keeps k }
theorem Sg.keeps (Z : Sg prog w K B q n v a k y C KK Ck fl lk lh la a0 a1 a2 a3 r v0) (kp : ∀ b o, B.get? b = some o → B'.get? b = some o) : Sg prog w K B' q n v a k y C KK Ck fl lk lh la a0 a1 a2 a3 r v0 :=
  { Z with
    lk := isList_keeps Z.lk kp, lh := isList_keeps Z.lh kp, la := let ⟨u0, u1, u2, u3, x⟩ := Z.la; ⟨u0, u1, u2, u3, isList_keeps x kp⟩, V := fun op ho i j => (Z.V op ho i j).base kp, X2 := Z.X2.keeps kp, T := fun i => (Z.T i).keeps kp
    Dl := fun i j => (Z.Dl i j).base kp, H := Z.H.keeps kp, O := fun i => (Z.O i).keeps kp, pl := fun i => let ⟨ox, od, I, e⟩ := Z.pl i; ⟨ox, od, inst_keeps I kp, e⟩, TH := fun i => (Z.TH i).keeps kp, nfK := fun i => (Z.nfK i).keeps kp
    HK := fun i j => (Z.HK i j).base kp, kin := fun i => let ⟨ox, od, I⟩ := Z.kin i; ⟨ox, od, inst_keeps I kp⟩, raise := fun i B2 k2 => Z.raise i B2 fun b o e => k2 b o (kp b o e) }
theorem j_rest {i j : Bool} {ui uj uw : Tok} {xa : Addr} {Q : Flow → Shared → Prop} (F : Lw0 K B mg mb v0) (Y : Ap B q Lw 207 214) (Z : Sg prog w K B q n v a k y C KK Ck fl lk lh la a0 a1 a2 a3 r v0) (R : Room (n + 8) A) (M : Mp m q lk lh la r) (mi : m "i" = some (.int (z i) ui)) (mj : m "j" = some (.int (z j) uj))
    (mw : m "worth" = some (.int (v i j) uw)) (ma : m "asks" = some (.ref xa)) (S : StL B q Lw m h) (P : PairsAt h xa (a i j)) (nx : xa ≠ q)
    (kk : ∀ h' t', StL B q Lw m h' → Q .next ⟨h', g, d, t', os⟩) : wpAny (model prog w) A (execs (jBody.drop 2) (EL Lw fa cd)) Q E ⟨h, g, d, t, os⟩ := by
  refine wpAny_execs_cons (st_kk F Y Z R.le M mi mj mw ma S P nx fun h₃ t₃ S P => ?_)
  refine wpAny_execs_cons (st_hh F Y Z R.le M mi mj mw ma S P nx fun h₄ t₄ S P => ?_)
  refine wpAny_execs_cons (st_hb F Y Z R.le M mi mj mw ma S P nx fun h₅ t₅ S => ?_)
  exact wpAny_execs_nil (kk _ _ S)
/-- the inner loop's turn -/
theorem j_turn {i j : Bool} {ui uj : Tok} {Q : Flow → Shared → Prop} (F : Lw0 K B mg mb v0) (Y : Ap B q Lw 207 214) (Z : Sg prog w K B q n v a k y C KK Ck fl lk lh la a0 a1 a2 a3 r v0) (R : Room (n + 8) A) (M : Mp m q lk lh la r) (mi : m "i" = some (.int (z i) ui)) (mj : m "j" = some (.int (z j) uj)) (S : StL B q Lw m h)
    (kk : ∀ h' t' m', StL B q Lw m' h' → Mp m' q lk lh la r → (∃ u, m' "i" = some (.int (z i) u)) → Q .next ⟨h', g, d, t', os⟩) : wpAny (model prog w) A (execs jBody (EL Lw fa cd)) Q E ⟨h, g, d, t, os⟩ := by
  refine wpAny_execs_cons (st_asks F Y Z R.le M mi mj S fun h₁ t₁ xa S P nx => ?_)
  have M1 : Mp (fun y => if y = "asks" then some (.ref xa) else m y) q lk lh la r := ⟨M.asked, M.keys, M.handlers, M.answers, M.rounds⟩
  refine wpAny_execs_cons (st_worth F Y Z R.le M1 mi mj S P nx fun h₂ t₂ uw S P => ?_)
  have M2 : Mp (fun y => if y = "worth" then some (.int (v i j) uw) else if y = "asks" then some (.ref xa) else m y) q lk lh la r := ⟨M.asked, M.keys, M.handlers, M.answers, M.rounds⟩
  exact j_rest F Y Z R M2 mi mj rfl rfl S P nx fun h₅ t₅ S => kk _ _ _ S M2 ⟨_, mi⟩
/-- the law, behind its laying out -/
theorem law_tail {Q : Flow → Shared → Prop} (F : Lw0 K B mg mb v0) (Y : Ap B q Lw 207 214) (Z : Sg prog w K B q n v a k y C KK Ck fl lk lh la a0 a1 a2 a3 r v0) (R : Room (n + 8) A) (hfr : A.frames = some [EL Lw fa cd]) (M : Mp m q lk lh la r) (S : StL B q Lw m h)
    (kk : ∀ h' t' m', StL B q Lw m' h' → Q (.ret (.bool true)) ⟨h', g, d, t', os⟩) : wpAny (model prog w) A (execs (tLaw.body.drop 6) (EL Lw fa cd)) Q E ⟨h, g, d, t, os⟩ := by
  refine wpAny_execs_cons (for_two (x := "i") (fun m => Mp m q lk lh la r) rfl R.handled F Y S M (fun m v M => ⟨M.asked, M.keys, M.handlers, M.answers, M.rounds⟩) (fun i B₁ Q₁ E₁ h₁ t₁ u₁ m₁ kB Y₁ S₁ mi M₁ k₁ => ?_) fun h' t' m' S' M' => ?_)
  · have F₁ := F.keeps kB
    have Z₁ := Z.keeps kB
    refine wpAny_execs_cons (st_hk F₁ Y₁ Z₁ R.le M₁ mi S₁ fun h₂ t₂ S₂ => ?_)
    refine wpAny_execs_cons (st_strange F₁ Y₁ Z₁ R.le hfr M₁ mi S₂ fun h₃ t₃ S₃ => ?_)
    refine wpAny_execs_cons (for_two (x := "j") (fun m => Mp m q lk lh la r ∧ ∃ u, m "i" = some (.int (z i) u)) rfl R.handled F₁ Y₁ S₃ ⟨M₁, _, mi⟩ (fun m v M => ⟨⟨M.1.asked, M.1.keys, M.1.handlers, M.1.answers, M.1.rounds⟩, M.2⟩) (fun j B₂ Q₂ E₂ h₄ t₄ u₄ m₄ kB₂ Y₂ S₄ mj M₄ k₄ => ?_) fun h₄ t₄ m₄ S₄ M₄ => ?_)
    · obtain ⟨M₄, ui, mi₄⟩ := M₄
      exact j_turn (F₁.keeps kB₂) Y₂ (Z₁.keeps kB₂) R M₄ mi₄ mj S₄ fun h₅ t₅ m₅ S₅ M₅ e₅ => k₄ h₅ t₅ m₅ S₅ ⟨M₅, e₅⟩
    · exact wpAny_execs_nil (k₁ _ _ _ S₄ M₄.1)
  · refine wpAny_execs_cons (wpAny_Return_some (wpAny_Constant_bool ?_))
    exact kk _ _ _ S'
end
end Mine
end
section
open PySem PySem.W PySem.W.X PyProof.Rows PySem.Calls Builtin Builtin.ObjectAttr
set_option Elab.async false
set_option maxRecDepth 100000
namespace Mine
def hcls (i : Bool) : Addr := if i then 101 else 80
/-- not among the things that turn -/
def Far (a : Nat) : Prop := 300 ≤ a ∧ a ≠ 382 ∧ a ≠ 390
/-- two keys of one class, made by cmp_to_key(f), of the things x -/
structure Lev (K : Frag) (h : Heap) (C fl f : Addr) (k x : Bool → Nat) : Prop where
  X : K.In h
  good : ∃ md ini fn cM, KGood K C md ini fn cM f ∧ fn .Lt = fl
  xtra : KXtra K C
  ga : specialIn K (.ref C) "__getattribute__" = some (some (.builtin "type.__getattribute__"))
  reads : readsIn K C (.type "type") = true
  lt : findCls K (.ref C) (.type "type") "__lt__" = some (.val (.ref fl))
  md : mroIn K C (.type "module") = some false
  at_ : ∀ i, ∃ dx : Nat, h.get? (k i) = some { cls := .ref C, dict := some dx, data := .plain, slots := #[some (.ref (x i))] } ∧ h.get? dx = some emptyDict ∧ Far dx ∧ Far (k i)
/-- the two handlers that have the keys k for their orders -/
def HLev (w : World) (h : Heap) (y k : Bool → Nat) : Prop := ∀ i, ∃ (dx : Nat) (u : Tok), h.get? (y i) = some (instObj (hcls i) dx) ∧ h.get? dx = some (orderDict w u (.ref (k i))) ∧ Far dx ∧ Far (y i)
abbrev hidL : List Addr := [253, 252, 207, 214]
section
variable {prog : Program} {w : World} {h h' B : Heap} {K KK : Frag} {C fl f : Addr} {k x y : Bool → Nat} {q : Addr} {mg mb : Str → Option Value} {v0 : Value}
theorem Lev.keeps (L : Lev K h C fl f k x) (kp : ∀ b o, h.get? b = some o → h'.get? b = some o) : Lev K h' C fl f k x :=
  { L with X := L.X.keeps kp, at_ := fun i => let ⟨dx, e1, e2, r⟩ := L.at_ i; ⟨dx, kp _ _ e1, kp _ _ e2, r⟩ }
theorem HLev.keeps (L : HLev w h y k) (kp : ∀ b o, h.get? b = some o → h'.get? b = some o) : HLev w h' y k := fun i => let ⟨dx, u, e1, e2, r⟩ := L i; ⟨dx, u, kp _ _ e1, kp _ _ e2, r⟩
theorem hid_big {a : Nat} {o : Obj} (e : h.get? a = some o) (ha : 300 ≤ a) : (hideAll h hidL).get? a = some o := hideAll_get _ e fun hm => by
  simp only [List.mem_cons, List.not_mem_nil, or_false] at hm
  rcases hm with rfl | rfl | rfl | rfl <;> exact absurd ha (by decide)
theorem Lev.hid (L : Lev K h C fl f k x) : Lev K (hideAll h hidL) C fl f k x := by
  refine { L with X := fun a o e => hideAll_get _ (L.X a o e) fun hm => ?_, at_ := fun i => let ⟨dx, e1, e2, g1, g2⟩ := L.at_ i; ⟨dx, hid_big e1 g2.1, hid_big e2 g1.1, g1, g2⟩ }
  have z := List.all_eq_true.mp L.xtra.hid
  simp only [List.mem_cons, List.not_mem_nil, or_false] at hm
  have : (K.lookup a).isNone = true := by rcases hm with rfl | rfl | rfl | rfl <;> exact z _ (by simp)
  rw [e] at this; cases this
theorem HLev.hid (L : HLev w h y k) : HLev w (hideAll h hidL) y k := fun i => let ⟨dx, u, e1, e2, g1, g2⟩ := L i; ⟨dx, u, hid_big e1 g2.1, hid_big e2 g1.1, g1, g2⟩
theorem Lev.inst (L : Lev K B C fl f k x) (i : Bool) : ∃ ox, InstAt B (k i) ox C (some emptyDict) ∧ (ox.slots[0]?).join = some (.ref (x i)) :=
  let ⟨_, e1, e2, _⟩ := L.at_ i; ⟨_, ⟨e1, rfl, rfl, e2⟩, rfl⟩
theorem Lev.key (L : Lev K B C fl f k x) (i : Bool) : KeyOf B C (k i) (x i) := let ⟨ox, I, e⟩ := L.inst i; ⟨ox, _, I, e⟩
theorem Lev.level {n : Nat} {v : Bool → Bool → Int} {a : Bool → Bool → List (Int × Int)} (G : Glob B mg mb) (L : Lev K B C fl f k x) (f1 : ∃ o fd, B.get? f = some o ∧ o.data = .func fd) (D : ∀ i j, Does n prog w B q (.ref f) [.ref (x i), .ref (x j)] (isI (v i j)) (a i j)) :
    Level prog w B q (n + 2) v a (fun i => k i) ∧ (∀ i j, Does (n + 2) prog w B q (.ref fl) [.ref (k i), .ref (k j)] (isB (cmpZ .Lt (v i j))) (a i j)) := by
  obtain ⟨md, ini, fn, cM, Y, rfl⟩ := L.good
  have c : B.IsCell cM (some (.ref f)) := let ⟨o, e, r⟩ := Y.cell; ⟨o, L.X _ _ e, r⟩
  exact ⟨level_cmp G L.X Y f1 L.key D, fun i j => Does.le (op_does G txt_lt rfl L.X Y.slotted (Y.lt.opAt L.X) c f1 (L.key i) (L.key j) (D i j)) (Nat.le_succ _)⟩
theorem Lev.typeLt (L : Lev K B C fl f k x) (i : Bool) : TypeLt K B (k i) C fl := by
  obtain ⟨md, ini, fn, cM, Y, rfl⟩ := L.good
  obtain ⟨ox, I, _⟩ := L.inst i
  exact ⟨⟨_, _, I⟩, L.ga, L.reads, L.lt, _, _, L.X _ _ Y.lt.1, rfl⟩
theorem HLev.ordered (hga : ∀ i, findIn K (.ref (hcls i)) "__getattribute__" = some (some (.builtin "object.__getattribute__"))) (hm : ∀ i, mroIn K (hcls i) (.type "module") = some false)
    (hf : ∀ i (w : World) u k, findObj K (hcls i) (some (orderDict w u (.ref k))) "handler_order" = some (.value (.ref k))) (L : HLev w B y k) (i : Bool) : Ordered K B (hcls i) (y i) (k i) :=
  let ⟨_, u, e1, e2, _⟩ := L i; ⟨hga i, hm i, _, _, ⟨e1, rfl, rfl, e2⟩, hf i w u (k i)⟩
end
end Mine
end
section
open PySem PySem.W PySem.W.X PyProof.Rows PySem.Calls Builtin Builtin.ObjectAttr
set_option Elab.async false
set_option maxRecDepth 100000
namespace Mine
/-- the classes of handlers -/
structure HFacts (K : Frag) : Prop where
  lt : ∀ i, findIn K (.ref (hcls i)) "__lt__" = some (some (.ref 77))
  gt : ∀ i, findIn K (.ref (hcls i)) "__gt__" = some (some (.builtin "object.__gt__"))
  eq : ∀ i, findIn K (.ref (hcls i)) "__eq__" = some (some (.builtin "object.__eq__"))
  ne : ∀ i, findIn K (.ref (hcls i)) "__ne__" = some (some (.builtin "object.__ne__"))
  obj : ∀ i, mroIn K (hcls i) (.type "object") = some true
  fn : isFn K (.ref 77) = true
  sub : subIn K (.ref 101) (.ref 80) = some true
  nsub : subIn K (.ref 80) (.ref 101) = some false
  hga : ∀ i, findIn K (.ref (hcls i)) "__getattribute__" = some (some (.builtin "object.__getattribute__"))
  hm : ∀ i, mroIn K (hcls i) (.type "module") = some false
  hf : ∀ i (w : World) u k, findObj K (hcls i) (some (orderDict w u (.ref k))) "handler_order" = some (.value (.ref k))
  ga : ∀ i, specialIn K (.ref (hcls i)) "__getattribute__" = some (some (.builtin "type.__getattribute__"))
  reads : ∀ i, readsIn K (hcls i) (.type "type") = true
  flt : ∀ i, findCls K (.ref (hcls i)) (.type "type") "__lt__" = some (.val (.ref 77))
  nfB : ∀ i, notFirst K (hcls i) (.ref 149) = true
  nf0 : ∀ i, notFirst K (hcls i) (.ref 80) = true
section
variable {prog : Program} {w : World} {h h' B : Heap} {K KK : Frag} {C fl f : Addr} {k x y : Bool → Nat} {q : Addr} {mg mb : Str → Option Value} {n0 : Int} {u0 : Tok}
theorem HLev.ord (HF : HFacts K) (L : HLev w B y k) (i : Bool) : Ordered K B (hcls i) (y i) (k i) := L.ordered HF.hga HF.hm HF.hf i
theorem HLev.hands (HF : HFacts K) (L : HLev w B y k) (two : y false ≠ y true) : Hands K B hcls (fun i => y i) 77 :=
  { HF with apart := by decide, two := two, inst := fun i => let ⟨_, _, e1, e2, _⟩ := L i; ⟨_, _, e1, rfl, rfl, e2⟩ }
/-- one round more -/
theorem Lev.step {n c : Nat} {v : Bool → Bool → Int} {k' : Bool → Nat} (F : Lw0 K B mg mb (.int n0 u0)) (HF : HFacts K) (V : Level prog w B q n (lvlV c v) (lvlA c) (fun i => k i)) (H : HLev w B y k) (two : y false ≠ y true) (Dv : DefAt B tVotes 172) (L : Lev KK B C fl 172 k' y) :
    Level prog w B q (n + 4) (lvlV (c + 1) v) (lvlA (c + 1)) (fun i => k' i) ∧ (∀ i j, Does (n + 4) prog w B q (.ref fl) [.ref (k' i), .ref (k' j)] (isB (cmpZ .Lt (lvlV (c + 1) v i j))) (lvlA (c + 1) i j)) :=
  L.level F.G Dv.fn fun i j => hands_votes F.G F.Z.hasattr.1 F.Z.hasattr.2 F.int.1 F.int.2 F.X F.Z.blt Dv (H.hands HF two) (H.ord HF) V i j
theorem sg_of {n r : Nat} {a0 a1 a2 a3 : Int} {lk lh la : Addr} (F : Lw0 K B mg mb (.int n0 u0)) (HF : HFacts K) (hr : r ≤ 2) (L : Lev KK B C fl f k x) (f1 : ∃ o fd, B.get? f = some o ∧ o.data = .func fd) (H : HLev w B y k) (two : y false ≠ y true)
    (V : Level prog w B q n (lvlV r (at2 a0 a1 a2 a3)) (lvlA r) (fun i => k i) ∧ (∀ i j, Does n prog w B q (.ref fl) [.ref (k i), .ref (k j)] (isB (cmpZ .Lt (lvlV r (at2 a0 a1 a2 a3) i j))) (lvlA r i j)))
    (elk : B.IsList lk #[.ref (k false), .ref (k true)]) (elh : B.IsList lh #[.ref (y false), .ref (y true)]) (ela : ∃ u0 u1 u2 u3, B.IsList la #[.int a0 u0, .int a1 u1, .int a2 u2, .int a3 u3]) :
    Sg prog w K B q n (lvlV r (at2 a0 a1 a2 a3)) (lvlA r) (fun i => k i) (fun i => y i) hcls KK C fl lk lh la a0 a1 a2 a3 r (.int n0 u0) := by
  obtain ⟨md, ini, fn, cM, Y, e⟩ := id L.good
  refine { vdef := lvl_worth r hr _, adef := lvl_asks r hr, few := lvl_few r hr, rr := hr, lk := elk, lh := elh, la := ela, V := V.1, X2 := L.X, T := L.typeLt, Dl := V.2, H := H.hands HF two, O := H.ord HF, pl := fun i => ?_, TH := fun i => ?_, nfK := fun i => ?_, nfB := HF.nfB, nf0 := HF.nf0, HK := fun i j => ?_, kin := fun i => ?_, raise := fun i B' k' => ?_ }
  · obtain ⟨dx, u, e1, e2, _⟩ := H i
    exact ⟨_, some (orderDict w u (.ref (k i))), ⟨e1, rfl, rfl, e2⟩, rfl⟩
  · obtain ⟨dx, u, e1, e2, _⟩ := H i
    exact ⟨⟨_, some (orderDict w u (.ref (k i))), e1, rfl, rfl, e2⟩, HF.ga i, HF.reads i, HF.flt i, F.Z.blt.fn⟩
  · cases i
    · exact looks_subIn L.X L.xtra.sub0
    · exact looks_subIn L.X L.xtra.sub1
  · obtain ⟨ox, I, _⟩ := L.inst j
    obtain ⟨cd, hc, hn⟩ := Option.map_eq_some_iff.mp L.xtra.name
    exact blt_true F.G F.Z.hasattr.1 F.Z.hasattr.2 L.X F.Z.blt I Y.slotted.hga Y.slotted.hk L.md L.xtra.miss (key_name L.X I hc hn) (by decide)
  · obtain ⟨ox, I, _⟩ := L.inst i
    exact ⟨_, _, I⟩
  · obtain ⟨o, fd, e1, e2⟩ := f1
    have L' := L.keeps k'
    exact key_raises (F.G.keeps k') L'.X Y ⟨o, fd, k' _ _ e1, e2⟩ (L'.key i) L.xtra.nf
end
end Mine
end
section
open PySem PySem.W PySem.W.X PyProof.Rows PySem.Calls Builtin Builtin.ObjectAttr
set_option Elab.async false
set_option maxRecDepth 100000
namespace Mine
/-- the law's frame stands at 252, the heap is of N objects, what stood stands (but for S) -/
structure Ps (h0 : Heap) (S : List Nat) (N : Nat) (m : Str → Option Value) (h : Heap) : Prop where
  keep : ∀ (b : Nat) o, b ∉ S → h0.get? b = some o → h.get? b = some o
  size : h.objs.size = N
  ns : h.Ns 252 m
  old : h0.objs.size = 252
/-- all but the law's frame and two tables stands -/
def Kp (h h' : Heap) : Prop := ∀ (b : Nat) o, b ≠ 252 → b ≠ 160 → b ≠ 44 → h.get? b = some o → h'.get? b = some o
section
variable {prog : Program} {w : World} {A : Around} {E : Value → Shared → Prop} {h0 h h' h'' : Heap} {S : List Nat} {N k : Nat} {m m' : Str → Option Value} {g : Array GenState} {d : Drawn} {t : Nat} {os : OsState} {mg mb : Str → Option Value}
theorem Kp.trans (x : Kp h h') (y : Kp h' h'') : Kp h h'' := fun b o n1 n2 n3 e => y b o n1 n2 n3 (x b o n1 n2 n3 e)
theorem Kp.add (x : Add k h h') : Kp h h' := fun _ _ _ _ _ e => x.keep _ _ e
theorem Kp.frame (x : Heap.SameBut 252 h h') : Kp h h' := fun b _ n1 _ _ e => (x.2 b n1).trans e
theorem Ps.adds (P : Ps h0 S N m h) (a : Add k h h') : Ps h0 S (N + k) m h' := ⟨fun b o n e => a.keep _ _ (P.keep b o n e), by rw [a.size, P.size], P.ns.keeps a.keep, P.old⟩
theorem Ps.store (P : Ps h0 S N m h) (sb : Heap.SameBut 252 h h') (ns : h'.Ns 252 m') : Ps h0 S N m' h' :=
  ⟨fun b o n e => (sb.2 b (fun z => by have := Heap.lt_size e; rw [z, P.old] at this; exact Nat.lt_irrefl _ this)).trans (P.keep b o n e), sb.1.trans P.size, ns, P.old⟩
theorem p_store {x : Str} {v : Value} {cd : Value} {Q : Unit → Shared → Prop} (P : Ps h0 S N m h) (k : ∀ h' t', Heap.SameBut 252 h h' → Ps h0 S N (fun y => if y = x then some v else m y) h' → Q () ⟨h', g, d, t', os⟩) (hx : tLaw.scope.names.lookup x = some .local := by rfl) :
    wpAny (model prog w) A (storeName (EL 252 250 cd) x v) Q E ⟨h, g, d, t, os⟩ := wpAny_storeName_local hx P.ns (fun h' n sb => k h' _ sb (P.store sb n)) rfl
/-- what the law's first three statements lay -/
structure LA (a0 a1 a2 a3 : Int) (h : Heap) : Prop where
  asked : h.PlainList 253 #[]
  t0 : h.PlainList 254 #[]
  t1 : h.PlainList 255 #[]
  things : h.PlainList 256 #[.ref 254, .ref 255]
  ans : ∃ u0 u1 u2 u3, h.PlainList 291 #[.int a0 u0, .int a1 u1, .int a2 u2, .int a3 u3]
theorem pl_kp {a : Nat} {vs : Array Value} (x : Kp h h') (n1 : a ≠ 252 := by decide) (n2 : a ≠ 160 := by decide) (n3 : a ≠ 44 := by decide) (p : h.PlainList a vs) : h'.PlainList a vs := let ⟨n, e⟩ := p; ⟨n, x _ _ n1 n2 n3 e⟩
theorem LA.kp {a0 a1 a2 a3 : Int} (x : Kp h h') (L : LA a0 a1 a2 a3 h) : LA a0 a1 a2 a3 h' :=
  ⟨pl_kp x (p := L.asked), pl_kp x (p := L.t0), pl_kp x (p := L.t1), pl_kp x (p := L.things), let ⟨u0, u1, u2, u3, p⟩ := L.ans; ⟨u0, u1, u2, u3, pl_kp x (p := p)⟩⟩
theorem push_at {vs : List Value} {a : Nat} (e : h.objs.size = a) : (h.push { cls := .type "list", data := .seq vs.toArray }).PlainList a vs.toArray := ⟨0, by rw [← e]; exact Heap.get?_push_size _ rfl⟩
/-- asked = []; things = [[], []]; answers = _law_answers(script); rounds = (sum(script) + 1) % 3 -/
theorem pre_a {items : Array Value} {cd : Value} {Q : Flow → Shared → Prop} (R : Room 8 A) (G : Glob h0 mg mb) (N2 : Names2 mg mb) (ians : mg "_law_answers" = some (.ref 158)) (Da : DefAt h0 tAnswers 158) (hl : h0.IsList 251 items) (hi : AllInts items) (hz : items.size ≤ sizeLine)
    (P : Ps h0 [] 253 m h) (hs : m "script" = some (.ref 251))
    (kk : ∀ h' t' m' a0 a1 a2 a3 (r : Nat) u, Ps h0 [] 299 m' h' → LA a0 a1 a2 a3 h' → m' "asked" = some (.ref 253) → m' "things" = some (.ref 256) → m' "answers" = some (.ref 291) → m' "rounds" = some (.int (r : Nat) u) → r ≤ 2 →
      wpAny (model prog w) A (execs (tLaw.body.drop 4) (EL 252 250 cd)) Q E ⟨h', g, d, t', os⟩) :
    wpAny (model prog w) A (execs tLaw.body (EL 252 250 cd)) Q E ⟨h, g, d, t, os⟩ := by
  have keep : ∀ {N m h}, Ps h0 [] N m h → ∀ b o, h0.get? b = some o → h.get? b = some o := fun P b o e => P.keep b o (by simp) e
  -- asked = []
  refine wpAny_execs_cons (wpAny_Assign_Name (wpAny_List (wpAny_items_nil ⟨by decide, ?_⟩)) rfl)
  have e1 := push_at (vs := []) P.size
  have P1 := P.adds (Add.push { cls := .type "list", data := .seq ([] : List Value).toArray })
  dsimp only
  rw [P.size]
  generalize h.push { cls := .type "list", data := .seq ([] : List Value).toArray } = h₁ at e1 P1 ⊢
  clear P
  refine p_store P1 fun h₂ t₂ sb P => ?_
  replace e1 := pl_kp (.frame sb) (p := e1)
  clear sb P1
  -- things = [[], []]
  refine wpAny_execs_cons (wpAny_Assign_Name (wpAny_List (wpAny_items_cons (wpAny_List (wpAny_items_nil ⟨by decide, ?_⟩)))) rfl)
  have e2 := push_at (vs := []) P.size
  have P1 := P.adds (Add.push { cls := .type "list", data := .seq ([] : List Value).toArray })
  replace e1 := pl_kp (.add (Add.push { cls := .type "list", data := .seq ([] : List Value).toArray })) (p := e1)
  dsimp only
  rw [P.size]
  generalize h₂.push { cls := .type "list", data := .seq ([] : List Value).toArray } = h₃ at e1 e2 P1 ⊢
  clear P
  refine wpAny_items_cons (wpAny_List (wpAny_items_nil ⟨by decide, ?_⟩))
  have e3 := push_at (vs := []) P1.size
  have P2 := P1.adds (Add.push { cls := .type "list", data := .seq ([] : List Value).toArray })
  replace e1 := pl_kp (.add (Add.push { cls := .type "list", data := .seq ([] : List Value).toArray })) (p := e1)
  replace e2 := pl_kp (.add (Add.push { cls := .type "list", data := .seq ([] : List Value).toArray })) (p := e2)
  dsimp only
  rw [P1.size]
  generalize h₃.push { cls := .type "list", data := .seq ([] : List Value).toArray } = h₄ at e1 e2 e3 P2 ⊢
  clear P1
  refine wpAny_items_nil ⟨by show (2 : Nat) ≤ sizeLine; decide, ?_⟩
  have e4 := push_at (vs := [.ref 254, .ref 255]) P2.size
  have P3 := P2.adds (Add.push { cls := .type "list", data := .seq [Value.ref 254, .ref 255].toArray })
  replace e1 := pl_kp (.add (Add.push { cls := .type "list", data := .seq [Value.ref 254, .ref 255].toArray })) (p := e1)
  replace e2 := pl_kp (.add (Add.push { cls := .type "list", data := .seq [Value.ref 254, .ref 255].toArray })) (p := e2)
  replace e3 := pl_kp (.add (Add.push { cls := .type "list", data := .seq [Value.ref 254, .ref 255].toArray })) (p := e3)
  dsimp only
  rw [P2.size]
  show wpAny (model prog w) A (storeName (EL 252 250 cd) "things" (.ref 256)) _ _ ⟨h₄.push { cls := .type "list", data := .seq [Value.ref 254, .ref 255].toArray }, g, d, t₂, os⟩
  generalize h₄.push { cls := .type "list", data := .seq [Value.ref 254, .ref 255].toArray } = h₅ at e1 e2 e3 e4 P3 ⊢
  clear P2
  refine p_store P3 fun h₆ t₆ sb P => ?_
  replace e1 := pl_kp (.frame sb) (p := e1)
  replace e2 := pl_kp (.frame sb) (p := e2)
  replace e3 := pl_kp (.frame sb) (p := e3)
  replace e4 := pl_kp (.frame sb) (p := e4)
  clear sb P3
  -- answers = _law_answers(script)
  have kp := keep P
  obtain ⟨of, fd, hof, hdf⟩ := Da.fn
  refine wpAny_execs_cons (wpAny_Assign_Name ?_ rfl)
  refine Call_name1 rfl (b_glob G kp ians (callWith_function (o := of) (fd := fd) (evalArgs_plain (spliced_cons (l_loc P.ns hs (spliced_nil ⟨⟨kp _ _ hof, hdf⟩, ?_⟩))))))
  refine answers_adds R.calls R.handled (G.keeps kp) N2 (Da.keeps kp) (isList_keeps hl kp) hi hz fun h₇ t₇ a0 a1 a2 a3 u0 u1 u2 u3 ad e5 => ?_
  rw [P.size] at e5 ⊢
  have P7 := P.adds ad
  replace e1 := pl_kp (.add ad) (p := e1)
  replace e2 := pl_kp (.add ad) (p := e2)
  replace e3 := pl_kp (.add ad) (p := e3)
  replace e4 := pl_kp (.add ad) (p := e4)
  clear P ad kp
  refine p_store P7 fun h₈ t₈ sb P => ?_
  have L : LA a0 a1 a2 a3 h₈ := ⟨pl_kp (.frame sb) (p := e1), pl_kp (.frame sb) (p := e2), pl_kp (.frame sb) (p := e3), pl_kp (.frame sb) (p := e4), u0, u1, u2, u3, pl_kp (.frame sb) (p := e5)⟩
  clear sb P7 e1 e2 e3 e4 e5
  -- rounds = (sum(script) + 1) % 3
  have kp := keep P
  refine wpAny_execs_cons (wpAny_Assign_Name (wpAny_BinOp (wpAny_BinOp ?_)) rfl)
  refine Call_name1 rfl (b_built G kp N2.sum.1 N2.sum.2 (callWith_builtin1 (l_loc P.ns hs ?_)))
  refine sum_adds R.handled (isList_keeps hl kp) hi fun h₉ n u t₉ ad => ?_
  replace L := L.kp (.add ad)
  have P9 := P.adds ad
  clear P ad kp
  refine v_int fun _ _ => v_add fun _ _ => v_int fun _ _ => mod_int (by decide) ?_
  have hr : ∃ r : Nat, (n + 1).fmod 3 = (r : Int) ∧ r ≤ 2 := by
    have h1 := Int.fmod_nonneg_of_pos (n + 1) (show (0 : Int) < 3 by decide)
    have h2 := Int.fmod_lt_of_pos (n + 1) (show (0 : Int) < 3 by decide)
    exact ⟨((n + 1).fmod 3).toNat, by omega, by omega⟩
  obtain ⟨r, hr, hr2⟩ := hr
  rw [hr]
  refine p_store P9 fun h₁₀ t₁₀ sb P => ?_
  exact kk h₁₀ t₁₀ _ a0 a1 a2 a3 r _ P (L.kp (.frame sb)) rfl rfl rfl rfl hr2
end
end Mine
end
section
open PySem PySem.W PySem.W.X PyProof.Rows PySem.Calls Builtin Builtin.ObjectAttr
set_option Elab.async false
set_option maxRecDepth 100000
namespace Mine
/-- a class that cmp_to_key made -/
structure Cls (K : Frag) (h : Heap) (C md ini cM f : Addr) (fn : CmpOp → Addr) : Prop where
  X : K.In h
  good : KGood K C md ini fn cM f
  make : KMake K C md ini
  xtra : KXtra K C
  keep : keepIn K (.ref C) = true
  ga : specialIn K (.ref C) "__getattribute__" = some (some (.builtin "type.__getattribute__"))
  reads : readsIn K C (.type "type") = true
  lt : findCls K (.ref C) (.type "type") "__lt__" = some (.val (.ref (fn .Lt)))
  md : mroIn K C (.type "module") = some false
/-- all but the law's frame, that of _law_last and its iterator stands -/
def Kq (h h' : Heap) : Prop := ∀ (b : Nat) o, b ≠ 252 → b ≠ 382 → b ≠ 390 → h.get? b = some o → h'.get? b = some o
def cellO (a : Addr) : Obj := { cls := .type "cell", data := .cell (some (.ref a)) }
/-- the comparison, as it stands -/
structure Told1 (a0 a1 a2 a3 : Int) (h : Heap) : Prop where
  fn : ∃ nm qual od osl doc pm ct an oc, h.get? 310 = some ⟨oc, od, .func (fnX nm qual tTold.params tTold.body tTold.scope [("things", 302), ("asked", 301), ("answers", 300)] .none .none doc pm an (.ref 309) ct), osl⟩ ∧ ∃ o vs t, h.get? 309 = some o ∧ o.data = .fields vs ∧ vs[1]? = some (.str qual t)
  c0 : h.get? 300 = some (cellO 291)
  c1 : h.get? 301 = some (cellO 253)
  c2 : h.get? 302 = some (cellO 256)
  t0 : h.PlainList 254 #[]
  t1 : h.PlainList 255 #[]
  things : h.PlainList 256 #[.ref 254, .ref 255]
  ans : ∃ u0 u1 u2 u3, h.PlainList 291 #[.int a0 u0, .int a1 u1, .int a2 u2, .int a3 u3]
theorem Told1.up {a0 a1 a2 a3 : Int} {h h' : Heap} (T : Told1 a0 a1 a2 a3 h) (k : ∀ a ∈ [310, 309, 300, 301, 302, 254, 255, 256, 291], ∀ o, h.get? a = some o → h'.get? a = some o) : Told1 a0 a1 a2 a3 h' := by
  obtain ⟨⟨nm, qual, od, osl, doc, pm, ct, an, oc, e1, o, vs, t, e2, r⟩, c0, c1, c2, ⟨n0, t0⟩, ⟨n1, t1⟩, ⟨n2, th⟩, u0, u1, u2, u3, n3, an'⟩ := T
  exact ⟨⟨nm, qual, od, osl, doc, pm, ct, an, oc, k _ (by decide) _ e1, o, vs, t, k _ (by decide) _ e2, r⟩, k _ (by decide) _ c0, k _ (by decide) _ c1, k _ (by decide) _ c2, ⟨n0, k _ (by decide) _ t0⟩, ⟨n1, k _ (by decide) _ t1⟩, ⟨n2, k _ (by decide) _ th⟩, u0, u1, u2, u3, n3, k _ (by decide) _ an'⟩
theorem Told1.at_ {a0 a1 a2 a3 : Int} {h : Heap} (T : Told1 a0 a1 a2 a3 h) : ToldAt h 253 310 254 255 a0 a1 a2 a3 := by
  obtain ⟨⟨nm, qual, od, osl, doc, pm, ct, an, oc, e1, o, vs, t, e2, r⟩, c0, c1, c2, ⟨n0, t0⟩, ⟨n1, t1⟩, th, u0, u1, u2, u3, an'⟩ := T
  exact ⟨⟨nm, qual, 300, 301, 302, 291, 256, oc, od, osl, doc, pm, .ref 309, ct, an, u0, u1, u2, u3, e1, ⟨309, o, vs, t, rfl, e2, r⟩, ⟨_, c0, rfl⟩, ⟨_, c1, rfl⟩, ⟨_, c2, rfl⟩, an'.isList, th.isList⟩, ⟨_, t0, by show Value.type "list" ≠ .type "tuple"; decide⟩, ⟨_, t1, by show Value.type "list" ≠ .type "tuple"; decide⟩, by decide⟩
section
variable {prog : Program} {w : World} {A : Around} {E : Value → Shared → Prop} {h0 h h' h'' : Heap} {S : List Nat} {N k : Nat} {m m' : Str → Option Value} {g : Array GenState} {d : Drawn} {t : Nat} {os : OsState} {mg mb : Str → Option Value} {K : Frag}
theorem Kq.trans (x : Kq h h') (y : Kq h' h'') : Kq h h'' := fun b o n1 n2 n3 e => y b o n1 n2 n3 (x b o n1 n2 n3 e)
theorem Kq.add (x : Add k h h') : Kq h h' := fun _ _ _ _ _ e => x.keep _ _ e
theorem Kq.frame (x : Heap.SameBut 252 h h') : Kq h h' := fun b _ n _ _ e => (x.2 b n).trans e
theorem Kq.frame2 (x : Heap.SameBut 382 h h') : Kq h h' := fun b _ _ n _ e => (x.2 b n).trans e
theorem Kq.iter (x : ∀ (b : Nat) o, b ≠ 390 → h.get? b = some o → h'.get? b = some o) : Kq h h' := fun b _ _ _ n e => x b _ n e
theorem Kq.all (x : ∀ b o, h.get? b = some o → h'.get? b = some o) : Kq h h' := fun b o _ _ _ e => x b o e
theorem Told1.kq {a0 a1 a2 a3 : Int} (T : Told1 a0 a1 a2 a3 h) (x : Kq h h') : Told1 a0 a1 a2 a3 h' := T.up fun a hm o e => x a o (fun z => by rw [z] at hm; revert hm; decide) (fun z => by rw [z] at hm; revert hm; decide) (fun z => by rw [z] at hm; revert hm; decide) e
theorem Cls.kq {C md ini cM f : Addr} {fn : CmpOp → Addr} (L : Cls K h C md ini cM f fn) (x : Kq h h') : Cls K h' C md ini cM f fn :=
  have n : ∀ b ∈ [252, 382, 390], ∀ a o, K.lookup a = some o → a ≠ b := fun b hb a o e z => by
    have := List.all_eq_true.mp L.xtra.hid b (by
      simp only [List.mem_cons, List.not_mem_nil, or_false] at hb
      rcases hb with rfl | rfl | rfl <;> decide)
    rw [z] at e; rw [e] at this; cases this
  { L with X := fun a o e => x a o (n 252 (by simp) a o e) (n 382 (by simp) a o e) (n 390 (by simp) a o e) (L.X a o e) }
theorem CodesAt.kq (C : CodesAt h) (x : Kq h h') : CodesAt h' := by
  obtain ⟨⟨t, v, q0, q1, q2, q3, q4, q5⟩, e44, ⟨v', e318⟩, e317⟩ := C
  exact ⟨⟨t, v, x _ _ (by decide) (by decide) (by decide) q0, x _ _ (by decide) (by decide) (by decide) q1, x _ _ (by decide) (by decide) (by decide) q2, x _ _ (by decide) (by decide) (by decide) q3, x _ _ (by decide) (by decide) (by decide) q4, x _ _ (by decide) (by decide) (by decide) q5⟩, x _ _ (by decide) (by decide) (by decide) e44, ⟨v', x _ _ (by decide) (by decide) (by decide) e318⟩, x _ _ (by decide) (by decide) (by decide) e317⟩
/-! The four runs, as they are wanted. -/
def RunC (prog : Program) (w : World) (h0 : Heap) : Prop := ∀ (hh : Heap) (d : Drawn) (t : Nat) (os : OsState) (Q : Value → Shared → Prop) (E : Value → Shared → Prop), hh.objs.size = 299 → (∀ b o, h0.get? b = some o → hh.get? b = some o) → AfterC hh d os Q →
  wpAny (model prog w) AX (PySem.call (.ref 165) [.ref 291, .ref 253, .ref 256] []) Q E ⟨hh, #[], d, t, os⟩
def RunB (prog : Program) (w : World) (h0 : Heap) : Prop := ∀ (hh : Heap) (d : Drawn) (t : Nat) (os : OsState) (Q : Value → Shared → Prop) (E : Value → Shared → Prop), hh.objs.size = 311 → (∀ (b : Nat) o, b ∉ [160] → h0.get? b = some o → hh.get? b = some o) → AfterK1 hh d os Q →
  wpAny (model prog w) AX (PySem.call (.ref 49) [.ref 310] []) Q E ⟨hh, #[], d, t, os⟩
def RunK (prog : Program) (w : World) (h0 : Heap) (b : Nat) : Prop := ∀ (hh : Heap) (d : Drawn) (t : Nat) (os : OsState) (Q : Value → Shared → Prop) (E : Value → Shared → Prop), hh.objs.size = b → (∀ (b : Nat) o, b ∉ [160, 44] → h0.get? b = some o → hh.get? b = some o) → CodesAt hh → AfterK2 hh d os b Q →
  wpAny (model prog w) AX (PySem.call (.ref 49) [.ref 172] []) Q E ⟨hh, #[], d, t, os⟩
abbrev hidZ : List Addr := [160, 44, 207, 214]
theorem Ps.base (P : Ps h0 [160, 44] N m h) : ∀ b o, (hideAll h0 hidZ).get? b = some o → h.get? b = some o := fun b o e => P.keep b o (fun hm => by
  have := hideAll_none (h := h0) hidZ (b := b) (by
    simp only [List.mem_cons, List.not_mem_nil, or_false] at hm ⊢
    rcases hm with h | h
    · exact .inl h
    · exact .inr (.inl h))
  rw [e] at this; cases this) (of_hideAll _ e)
/-- maker = cmp_to_key(_law_comparison(answers, asked, things)) -/
theorem pre_b {a0 a1 a2 a3 : Int} {cd : Value} {Q : Flow → Shared → Prop} (hh : A.handled = none) (hd : A.depth ≤ 320) (hu : A.units ≤ 3000) (G : Glob (hideAll h0 hidZ) mg mb) (icmp : mg "cmp_to_key" = some (.ref 49)) (icom : mg "_law_comparison" = some (.ref 165))
    (f49 : ∃ o fd, (hideAll h0 hidZ).get? 49 = some o ∧ o.data = .func fd) (f165 : ∃ o fd, (hideAll h0 hidZ).get? 165 = some o ∧ o.data = .func fd) (HC : RunC prog w h0) (HB : RunB prog w h0)
    (P : Ps h0 [] 299 m h) (L : LA a0 a1 a2 a3 h) (mq : m "asked" = some (.ref 253)) (mt : m "things" = some (.ref 256)) (ma : m "answers" = some (.ref 291))
    (kk : ∀ h' t' K, Ps h0 [160, 44] 375 (fun y => if y = "maker" then some (.ref 371) else m y) h' → LA a0 a1 a2 a3 h' → Told1 a0 a1 a2 a3 h' → Cls K h' 371 372 327 312 310 (fnOf 311) → CodesAt h' → (∃ vs, h'.get? 160 = some (tableObj vs)) →
      wpAny (model prog w) A (execs (tLaw.body.drop 5) (EL 252 250 cd)) Q E ⟨h', #[], d, t', os⟩) :
    wpAny (model prog w) A (execs (tLaw.body.drop 4) (EL 252 250 cd)) Q E ⟨h, #[], d, t, os⟩ := by
  have P0 : Ps h0 [160, 44] 299 m h := ⟨fun b o _ e => P.keep b o (by simp) e, P.size, P.ns, P.old⟩
  obtain ⟨o1, d1, g1, r1⟩ := f49
  obtain ⟨o2, d2, g2, r2⟩ := f165
  refine wpAny_execs_cons (wpAny_Assign_Name ?_ rfl)
  refine Call_name1 rfl (b_glob G P0.base icmp (callWith_function (o := o1) (fd := d1) (evalArgs_plain (spliced_cons ?_))))
  refine Call_Name3 (b_glob G P0.base icom ?_)
  refine callWith_function (o := o2) (fd := d2) (evalArgs_plain (spliced_cons (l_loc P.ns ma (spliced_cons (l_loc P.ns mq (spliced_cons (l_loc P.ns mt (spliced_nil ⟨⟨P0.base _ _ g2, r2⟩, ?_⟩))))))))
  refine widen hh hd hu (HC h d _ os _ _ P.size (fun b o e => P.keep b o (by simp) e) ?_)
  intro h₁ t₁ K₀ X₀ F₀ c309 l302 l301 l300 sz kp ⟨vs, e160⟩
  have P1 : Ps h0 [160, 44] 311 m h₁ := ⟨fun b o n e => kp b o (by simp at n ⊢; exact n.1) (P.keep b o (by simp) e), sz, let ⟨o, es, ep, e, r⟩ := P.ns; ⟨o, es, ep, kp _ _ (by decide) e, r⟩, P.old⟩
  have L1 : LA a0 a1 a2 a3 h₁ := L.kp fun b o n1 n2 n3 e => kp b o (by simpa using n2) e
  have T1 : Told1 a0 a1 a2 a3 h₁ := by
    obtain ⟨c, oc, vs, tq, ec, e1, e2, e3⟩ := F₀.rec X₀
    rw [c309] at ec
    cases ec
    have eF := X₀ _ _ F₀.1
    rw [c309] at eF
    exact ⟨⟨_, _, _, _, _, _, _, _, _, eF, oc, vs, tq, e1, e2, e3⟩, X₀ _ _ l300, X₀ _ _ l301, X₀ _ _ l302, L1.t0, L1.t1, L1.things, L1.ans⟩
  clear X₀ F₀ c309 l302 l301 l300
  refine spliced_nil ⟨⟨P1.base _ _ g1, r1⟩, ?_⟩
  refine widen hh hd hu (HB h₁ d _ os _ _ sz (fun b o n e => kp b o n (P.keep b o (by simp) e)) ?_)
  intro h₂ t₂ K X good make xtra keep ga reads lt md co sz2 kp2
  have P2 : Ps h0 [160, 44] 375 m h₂ := ⟨fun b o n e => kp2 b o (by simp at n ⊢; exact n.2) (P1.keep b o n e), sz2, let ⟨o, es, ep, e, r⟩ := P1.ns; ⟨o, es, ep, kp2 _ _ (by decide) e, r⟩, P.old⟩
  have L2 : LA a0 a1 a2 a3 h₂ := L1.kp fun b o n1 n2 n3 e => kp2 b o (by simpa using n3) e
  have T2 : Told1 a0 a1 a2 a3 h₂ := T1.up fun a hm o e => kp2 a o (fun z => by rw [List.mem_singleton.mp z] at hm; revert hm; decide) e
  have e160' := kp2 _ _ (by decide) e160
  refine p_store P2 fun h₃ t₃ sb P3 => ?_
  have q : Kq h₂ h₃ := .frame sb
  exact kk h₃ t₃ K P3 (L2.kp (.frame sb)) (T2.kq q) (Cls.kq ⟨X, good, make, xtra, keep, ga, reads, lt, md⟩ q) (co.kq q) ⟨vs, q _ _ (by decide) (by decide) (by decide) e160'⟩
end
end Mine
end
section
open PySem PySem.W PySem.W.X PyProof.Rows PySem.Calls Builtin Builtin.ObjectAttr
set_option Elab.async false
set_option maxRecDepth 100000
namespace Mine
def keyO (C : Addr) (dx : Addr) (x : Addr) : Obj := { cls := .ref C, dict := some dx, data := .plain, slots := #[some (.ref x)] }
section
variable {prog : Program} {w : World} {A : Around} {E : Value → Shared → Prop} {h0 h h' h'' : Heap} {S : List Nat} {N k : Nat} {m m' : Str → Option Value} {g : Array GenState} {d : Drawn} {t : Nat} {os : OsState} {mg mb : Str → Option Value} {K : Frag} {env : Env}
/-- [maker(l[0]), maker(l[1])] -/
theorem two_keys {C md ini cM f la x0 x1 : Addr} {b : Nat} {fn : CmpOp → Addr} {nm : Str} {p1 p2 p3 p4 p5 p6 p7 p8 p9 p10 p11 : Pos} {c0 c1 : Nat} {Q : Value → Shared → Prop} (L : Cls K h C md ini cM f fn) (lim : h.NoLimit) (hd : A.depth + 1 < recursionLimit) (sz : h.objs.size = b)
    (hl : h.IsList la #[.ref x0, .ref x1]) (n1 : ∀ {h' : Heap} {t : Nat} {p : Pos} {Q : Value → Shared → Prop}, (∀ b o, h.get? b = some o → h'.get? b = some o) → Q (.ref C) ⟨h', g, d, t, os⟩ → wpAny (model prog w) A (eval (.Name "maker" p) env) Q E ⟨h', g, d, t, os⟩)
    (n2 : ∀ {h' : Heap} {t : Nat} {p : Pos} {Q : Value → Shared → Prop}, (∀ b o, h.get? b = some o → h'.get? b = some o) → Q (.ref la) ⟨h', g, d, t, os⟩ → wpAny (model prog w) A (eval (.Name nm p) env) Q E ⟨h', g, d, t, os⟩)
    (kk : ∀ h' t', Add 7 h h' → h'.get? (b + 1) = some (keyO C b x0) → h'.get? b = some emptyDict → h'.get? (b + 4) = some (keyO C (b + 3) x1) → h'.get? (b + 3) = some emptyDict → h'.PlainList (b + 6) #[.ref (b + 1), .ref (b + 4)] → Q (.ref (b + 6)) ⟨h', g, d, t', os⟩) :
    wpAny (model prog w) A (eval (.List [.Call (.Name "maker" p1) [.Subscript (.Name nm p2) (.Constant (.int 0) c0 p3) p4] [] p5, .Call (.Name "maker" p6) [.Subscript (.Name nm p7) (.Constant (.int 1) c1 p8) p9] [] p10] p11) env) Q E ⟨h, g, d, t, os⟩ := by
  refine wpAny_List (wpAny_items_cons ?_)
  refine Call_Name rfl (n1 (fun _ _ e => e) (callWith_K L.X L.keep (spliced_cons (Subscript_Constant (n2 (fun _ _ e => e) (v_int fun _ _ => item_of hl (by decide) (by decide) rfl (spliced_nil ⟨L.X, ?_⟩)))))))
  refine key_made L.X lim L.make L.good.init (by rw [depth_under_make]; exact hd) fun h₁ t₁ dx a1 hdx e1 e2 => ?_
  subst hdx
  rw [sz] at e1 e2 ⊢
  have X1 := L.X.keeps a1.keep
  have s1 : h₁.objs.size = b + 3 := by rw [a1.size, sz]
  refine wpAny_items_cons ?_
  refine Call_Name rfl (n1 a1.keep (callWith_K X1 L.keep (spliced_cons (Subscript_Constant (n2 a1.keep (v_int fun _ _ => item_of (isList_keeps hl a1.keep) (by decide) (by decide) rfl (spliced_nil ⟨X1, ?_⟩)))))))
  refine key_made X1 (lim.keeps a1.keep) L.make L.good.init (by rw [depth_under_make]; exact hd) fun h₂ t₂ dx a2 hdx e3 e4 => ?_
  subst hdx
  rw [s1] at e3 e4 ⊢
  have A2 := a1.trans a2
  have s2 : h₂.objs.size = b + 6 := by rw [A2.size, sz]
  refine wpAny_items_nil ⟨by show (2 : Nat) ≤ sizeLine; decide, ?_⟩
  have pl := push_at (vs := [.ref (b + 1), .ref (b + 4)]) s2
  have A3 := A2.trans (Add.push { cls := .type "list", data := .seq [Value.ref (b + 1), .ref (b + 4)].toArray })
  have pu : ∀ b' o, h₂.get? b' = some o → (h₂.push { cls := .type "list", data := .seq [Value.ref (b + 1), .ref (b + 4)].toArray }).get? b' = some o := fun _ _ e => Heap.get?_push_of_some _ e
  dsimp only
  rw [s2]
  exact kk _ _ A3 (pu _ _ (a2.keep _ _ e1)) (pu _ _ (a2.keep _ _ e2)) (pu _ _ e3) (pu _ _ e4) pl
end
end Mine
end
section
open PySem PySem.W PySem.W.X PyProof.Rows PySem.Calls Builtin Builtin.ObjectAttr
set_option Elab.async false
set_option maxRecDepth 100000
namespace Mine
def kAt : Nat → Bool → Nat
  | 0, i => if i then 379 else 376
  | c + 1, i => 391 + 38 * c + (if i then 29 else 26)
def yAt : Nat → Bool → Nat
  | 0, i => if i then 387 else 385
  | c + 1, i => 391 + 38 * c + (if i then 36 else 34)
def klAt : Nat → Nat
  | 0 => 381
  | c + 1 => 391 + 38 * c + 31
def hlAt : Nat → Nat
  | 0 => 388
  | c + 1 => 391 + 38 * c + 37
def clsAt : Nat → Nat
  | 0 => 371
  | c + 1 => 391 + 38 * c + 21
def flAt : Nat → Nat
  | 0 => 335
  | c + 1 => 391 + 38 * c + 9
def fAt : Nat → Nat
  | 0 => 310
  | _ + 1 => 172
def xAt : Nat → Bool → Nat
  | 0, i => if i then 255 else 254
  | c + 1, i => yAt c i
/-- the levels up to c -/
structure Tw (w : World) (h : Heap) (c : Nat) : Prop where
  lev : ∀ j, j ≤ c → ∃ K, Lev K h (clsAt j) (flAt j) (fAt j) (kAt j) (xAt j)
  hlev : ∀ j, j ≤ c → HLev w h (yAt j) (kAt j)
  kl : h.PlainList (klAt c) #[.ref (kAt c false), .ref (kAt c true)]
  hl : h.PlainList (hlAt c) #[.ref (yAt c false), .ref (yAt c true)]
/-- what else must stand -/
structure Wd (h0 : Heap) (a0 a1 a2 a3 : Int) (ml : Str → Option Value) (h : Heap) : Prop where
  keep : ∀ (b : Nat) o, b ∉ [160, 44] → h0.get? b = some o → h.get? b = some o
  old : h0.objs.size = 252
  ns : h.Ns 252 ml
  co : CodesAt h
  told : Told1 a0 a1 a2 a3 h
  asked : h.PlainList 253 #[]
  t160 : ∃ vs, h.get? 160 = some (tableObj vs)
/-- all but the frame and the iterator of _law_last stands -/
def Kr (h h' : Heap) : Prop := ∀ (b : Nat) o, b ≠ 382 → b ≠ 390 → h.get? b = some o → h'.get? b = some o
/-- all but the frame of _law_last stands -/
def K2 (h h' : Heap) : Prop := ∀ (b : Nat) o, b ≠ 382 → h.get? b = some o → h'.get? b = some o
theorem klFar : ∀ c, klAt c ≠ 252 ∧ klAt c ≠ 382 ∧ klAt c ≠ 390
  | 0 => by decide
  | c + 1 => by show 391 + 38 * c + 31 ≠ 252 ∧ 391 + 38 * c + 31 ≠ 382 ∧ 391 + 38 * c + 31 ≠ 390; omega
theorem hlFar : ∀ c, hlAt c ≠ 252 ∧ hlAt c ≠ 382 ∧ hlAt c ≠ 390
  | 0 => by decide
  | c + 1 => by show 391 + 38 * c + 37 ≠ 252 ∧ 391 + 38 * c + 37 ≠ 382 ∧ 391 + 38 * c + 37 ≠ 390; omega
section
variable {prog : Program} {w : World} {A : Around} {E : Value → Shared → Prop} {h0 h h' h'' : Heap} {S : List Nat} {N k c : Nat} {m m' ml : Str → Option Value} {g : Array GenState} {d : Drawn} {t : Nat} {os : OsState} {mg mb : Str → Option Value} {K KH : Frag} {env : Env} {a0 a1 a2 a3 : Int}
theorem Kr.kq (x : Kr h h') : Kq h h' := fun b o _ n1 n2 e => x b o n1 n2 e
theorem Kr.trans (x : Kr h h') (y : Kr h' h'') : Kr h h'' := fun b o n1 n2 e => y b o n1 n2 (x b o n1 n2 e)
theorem Kr.add (x : Add k h h') : Kr h h' := fun _ _ _ _ e => x.keep _ _ e
theorem Kr.all (x : ∀ b o, h.get? b = some o → h'.get? b = some o) : Kr h h' := fun b o _ _ e => x b o e
theorem Kr.frame (x : Heap.SameBut 382 h h') : Kr h h' := fun b _ n _ e => (x.2 b n).trans e
theorem Kr.iter (x : ∀ (b : Nat) o, b ≠ 390 → h.get? b = some o → h'.get? b = some o) : Kr h h' := fun b _ _ n e => x b _ n e
theorem K2.kr (x : K2 h h') : Kr h h' := fun b o n _ e => x b o n e
theorem K2.trans (x : K2 h h') (y : K2 h' h'') : K2 h h'' := fun b o n1 e => y b o n1 (x b o n1 e)
theorem K2.add (x : Add k h h') : K2 h h' := fun _ _ _ e => x.keep _ _ e
theorem K2.all (x : ∀ b o, h.get? b = some o → h'.get? b = some o) : K2 h h' := fun b o _ e => x b o e
theorem K2.frame (x : Heap.SameBut 382 h h') : K2 h h' := fun b _ n e => (x.2 b n).trans e
theorem Wd.kr (W : Wd h0 a0 a1 a2 a3 ml h) (x : Kr h h') : Wd h0 a0 a1 a2 a3 ml h' := by
  have lt : ∀ (b : Nat) o, h0.get? b = some o → b < 252 := fun b o e => by have := Heap.lt_size e; rwa [W.old] at this
  exact ⟨fun b o n e => x b o (by have := lt b o e; omega) (by have := lt b o e; omega) (W.keep b o n e), W.old, let ⟨o, es, ep, e, r⟩ := W.ns; ⟨o, es, ep, x _ _ (by decide) (by decide) e, r⟩, W.co.kq x.kq, W.told.kq x.kq, let ⟨n, e⟩ := W.asked; ⟨n, x _ _ (by decide) (by decide) e⟩,
    let ⟨vs, e⟩ := W.t160; ⟨vs, x _ _ (by decide) (by decide) e⟩⟩
theorem Lev.kq {C fl f : Addr} {k x : Bool → Nat} (L : Lev K h C fl f k x) (r : Kq h h') : Lev K h' C fl f k x := by
  have n : ∀ b ∈ [252, 382, 390], ∀ a o, K.lookup a = some o → a ≠ b := fun b hb a o e z => by
    have := List.all_eq_true.mp L.xtra.hid b (by
      simp only [List.mem_cons, List.not_mem_nil, or_false] at hb
      rcases hb with rfl | rfl | rfl <;> decide)
    rw [z] at e; rw [e] at this; cases this
  have g : ∀ {a : Nat} {o : Obj}, Far a → h.get? a = some o → h'.get? a = some o := fun f e => r _ _ (by have := f.1; omega) f.2.1 f.2.2 e
  exact { L with X := fun a o e => r a o (n 252 (by simp) a o e) (n 382 (by simp) a o e) (n 390 (by simp) a o e) (L.X a o e), at_ := fun i => let ⟨dx, e1, e2, f1, f2⟩ := L.at_ i; ⟨dx, g f2 e1, g f1 e2, f1, f2⟩ }
theorem HLev.kq {y k : Bool → Nat} (L : HLev w h y k) (r : Kq h h') : HLev w h' y k := by
  have g : ∀ {a : Nat} {o : Obj}, Far a → h.get? a = some o → h'.get? a = some o := fun f e => r _ _ (by have := f.1; omega) f.2.1 f.2.2 e
  exact fun i => let ⟨dx, u, e1, e2, f1, f2⟩ := L i; ⟨dx, u, g f2 e1, g f1 e2, f1, f2⟩
theorem Tw.kq (T : Tw w h c) (r : Kq h h') : Tw w h' c :=
  ⟨fun j hj => let ⟨K, L⟩ := T.lev j hj; ⟨K, L.kq r⟩, fun j hj => (T.hlev j hj).kq r, let ⟨n, e⟩ := T.kl; ⟨n, r _ _ (klFar c).1 (klFar c).2.1 (klFar c).2.2 e⟩, let ⟨n, e⟩ := T.hl; ⟨n, r _ _ (hlFar c).1 (hlFar c).2.1 (hlFar c).2.2 e⟩⟩
theorem Lev.kr {C fl f : Addr} {k x : Bool → Nat} (L : Lev K h C fl f k x) (r : Kr h h') : Lev K h' C fl f k x := L.kq r.kq
theorem Tw.kr (T : Tw w h c) (r : Kr h h') : Tw w h' c := T.kq r.kq
theorem Wd.base (W : Wd h0 a0 a1 a2 a3 ml h) : ∀ b o, (hideAll h0 hidZ).get? b = some o → h.get? b = some o := fun b o e => W.keep b o (fun hm => by
  have := hideAll_none (h := h0) hidZ (b := b) (by
    simp only [List.mem_cons, List.not_mem_nil, or_false] at hm ⊢
    rcases hm with h | h
    · exact .inl h
    · exact .inr (.inl h))
  rw [e] at this; cases this) (of_hideAll _ e)
end
end Mine
end
section
open PySem PySem.W PySem.W.X PyProof.Rows PySem.Calls Builtin Builtin.ObjectAttr
set_option Elab.async false
set_option maxRecDepth 100000
namespace Mine
/-- what _law_last needs of the text -/
structure LF (KH : Frag) (B0 : Heap) (mg mb : Str → Option Value) : Prop where
  G : Glob B0 mg mb
  N2 : Names2 mg mb
  cmp : mg "cmp_to_key" = some (.ref 49)
  votes : mg "_law_votes" = some (.ref 172)
  hands : mg "_law_handlers" = some (.ref 179)
  b80 : mg "BaseHandler" = some (.ref 80)
  b101 : mg "HTTPErrorProcessor" = some (.ref 101)
  f49 : ∃ o fd, B0.get? 49 = some o ∧ o.data = .func fd
  Dh : DefAt B0 tHands 179
  X : KH.In B0
  Y0 : HMake KH 80
  Y1 : HMake KH 101
def lastFor : List Stmt := forBody (nth tLast.body 2)
section
variable {prog : Program} {w : World} {A : Around} {E : Value → Shared → Prop} {h0 h h' h'' : Heap} {N k c b : Nat} {m m' ml : Str → Option Value} {d : Drawn} {t : Nat} {os : OsState} {mg mb : Str → Option Value} {K KH : Frag} {env : Env} {a0 a1 a2 a3 : Int} {qual : Str} {cd : Value}
abbrev ES (qual : Str) (cd : Value) : Env := envX qual tLast.scope 382 193 cd []
theorem s_loc {x : Str} {p : Pos} {v : Value} {g : Array GenState} {Q : Value → Shared → Prop} (n : h.Ns 382 m) (hv : m x = some v) (k : Q v ⟨h, g, d, t, os⟩) (hx : tLast.scope.names.lookup x = some .local := by rfl) (hd : (x == ("__debug__" : Str)) = false := by decide) :
    wpAny (model prog w) A (eval (.Name x p) (ES qual cd)) Q E ⟨h, g, d, t, os⟩ := wpAny_Name (wpAny_loadName_local rfl hx n hv k) hd
/-- handlers = _law_handlers(keys) -/
theorem last_hands {kl k0 k1 : Nat} {p1 p2 p3 p4 p5 : Pos} {Q : Flow → Shared → Prop} (hd : A.depth < recursionLimit) (F : LF KH (hideAll h0 hidZ) mg mb) (W : Wd h0 a0 a1 a2 a3 ml h) (ns : h.Ns 382 m) (sz : h.objs.size = b) (mk : m "keys" = some (.ref kl)) (pk : h.PlainList kl #[.ref k0, .ref k1])
    (kk : ∀ h' t', K2 h h' → h'.objs.size = b + 6 → h'.Ns 382 (fun y => if y = "handlers" then some (.ref (b + 5)) else m y) → h'.get? (b + 2) = some (instObj 80 (b + 1)) → h'.get? (b + 4) = some (instObj 101 (b + 3)) → (∃ u, h'.get? (b + 1) = some (orderDict w u (.ref k0))) → (∃ u, h'.get? (b + 3) = some (orderDict w u (.ref k1))) →
      h'.PlainList (b + 5) #[.ref (b + 2), .ref (b + 4)] → Q .next ⟨h', #[], d, t', os⟩) (hb : 383 ≤ b) :
    wpAny (model prog w) A (exec (.Assign [.Name "handlers" p1] (.Call (.Name "_law_handlers" p2) [.Name "keys" p3] [] p4) p5) (ES qual cd)) Q E ⟨h, #[], d, t, os⟩ := by
  obtain ⟨o1, d1, g1, r1⟩ := F.Dh.fn
  refine wpAny_Assign_Name ?_ rfl
  refine Call_name1 rfl (b_glob F.G W.base F.hands (callWith_function (o := o1) (fd := d1) (evalArgs_plain (spliced_cons (s_loc ns mk (spliced_nil ⟨⟨W.base _ _ g1, r1⟩, ?_⟩))))))
  refine handlers_made hd (F.G.keeps W.base) F.b80 F.b101 (F.X.keeps W.base) F.Y0 F.Y1 (F.Dh.keeps W.base) pk.isList fun h₁ t₁ a1 e2 e4 e1 e3 pl => ?_
  rw [sz] at e1 e2 e3 e4 pl ⊢
  refine wpAny_storeName_local rfl (ns.keeps a1.keep) (fun h₂ ns₂ sb => ?_) rfl
  have r := K2.frame sb
  have g : ∀ {i : Nat} {o : Obj}, h₁.get? (b + i) = some o → h₂.get? (b + i) = some o := fun {i o} e => (sb.2 _ (by show b + i ≠ 382; omega)).trans e
  exact kk h₂ _ ((K2.add a1).trans r) (by rw [sb.1, a1.size, sz]) ns₂ (g e2) (g e4) (let ⟨u, e⟩ := e1; ⟨u, g e⟩) (let ⟨u, e⟩ := e3; ⟨u, g e⟩) (let ⟨n, e⟩ := pl; ⟨n, g e⟩)
/-- a turn of _law_last -/
theorem last_turn {Q : Flow → Shared → Prop} (hh : A.handled = none) (hd : A.depth ≤ 320) (hu : A.units ≤ 3000) (F : LF KH (hideAll h0 hidZ) mg mb) (HK : RunK prog w h0 (391 + 38 * c)) (W : Wd h0 a0 a1 a2 a3 ml h) (T : Tw w h c) (ns : h.Ns 382 m) (sz : h.objs.size = 391 + 38 * c) (mh : m "handlers" = some (.ref (hlAt c)))
    (kk : ∀ h' t' m', K2 h h' → Wd h0 a0 a1 a2 a3 ml h' → Tw w h' (c + 1) → h'.Ns 382 m' → h'.objs.size = 391 + 38 * (c + 1) → m' "handlers" = some (.ref (hlAt (c + 1))) → m' "keys" = some (.ref (klAt (c + 1))) → Q .next ⟨h', #[], d, t', os⟩) :
    wpAny (model prog w) A (execs lastFor (ES qual cd)) Q E ⟨h, #[], d, t, os⟩ := by
  obtain ⟨o1, d1, g1, r1⟩ := F.f49
  -- maker = cmp_to_key(_law_votes)
  refine wpAny_execs_cons (wpAny_Assign_Name ?_ rfl)
  refine Call_name1 rfl (b_glob F.G W.base F.cmp (callWith_function (o := o1) (fd := d1) (evalArgs_plain (spliced_cons (b_glob F.G W.base F.votes (spliced_nil ⟨⟨W.base _ _ g1, r1⟩, ?_⟩))))))
  refine widen hh hd hu (HK h d _ os _ _ sz W.keep W.co ?_)
  intro h₁ t₁ K X good make xtra keep ga reads lt md sz1 kp1
  have L1 : Cls K h₁ (391 + 38 * c + 21) (391 + 38 * c + 22) (391 + 38 * c + 7) (391 + 38 * c + 1) 172 (fnOf2 (391 + 38 * c)) := ⟨X, good, make, xtra, keep, ga, reads, lt, md⟩
  refine wpAny_storeName_local rfl (ns.keeps kp1) (fun h₂ ns₂ sb => ?_) rfl
  have k2 : K2 h h₂ := (K2.all kp1).trans (.frame sb)
  have L2 := L1.kq (K2.frame sb).kr.kq
  have s2 : h₂.objs.size = 391 + 38 * c + 25 := by rw [sb.1, sz1]
  clear X good make xtra keep ga reads lt md L1 sz1 kp1 sb
  have W2 := W.kr k2.kr
  have T2 := T.kr k2.kr
  -- keys = [maker(handlers[0]), maker(handlers[1])]
  refine wpAny_execs_cons (wpAny_Assign_Name ?_ rfl)
  refine two_keys L2 (F.G.lim.keeps W2.base) (by show A.depth + 1 < 1000; omega) s2 T2.hl.isList (fun kp q => s_loc (ns₂.keeps kp) rfl q) (fun kp q => s_loc (ns₂.keeps kp) mh q) fun h₃ t₃ a3 e1 e2 e3 e4 pl => ?_
  refine wpAny_storeName_local rfl (ns₂.keeps a3.keep) (fun h₄ ns₄ sb => ?_) rfl
  have k4 : K2 h₂ h₄ := (K2.add a3).trans (.frame sb)
  have s4 : h₄.objs.size = 391 + 38 * c + 32 := by rw [sb.1, a3.size, s2]
  have gg : ∀ {i : Nat} {o : Obj}, h₃.get? (391 + 38 * c + 25 + i) = some o → h₄.get? (391 + 38 * c + 25 + i) = some o := fun {i o} e => (sb.2 _ (by show 391 + 38 * c + 25 + i ≠ 382; omega)).trans e
  replace e1 := gg e1
  replace e2 := gg (i := 0) e2
  replace e3 := gg e3
  replace e4 := gg e4
  replace pl : h₄.PlainList (391 + 38 * c + 25 + 6) _ := let ⟨n, e⟩ := pl; ⟨n, gg e⟩
  have L4 := L2.kq k4.kr.kq
  have W4 := W2.kr k4.kr
  have T4 := T2.kr k4.kr
  clear gg L2 W2 T2 a3 sb
  -- handlers = _law_handlers(keys)
  refine wpAny_execs_cons (last_hands (by show A.depth < 1000; omega) F W4 ns₄ s4 rfl pl (fun h₅ t₅ k5 s5 ns5 y2 y4 y1 y3 ply => ?_) (by omega))
  refine wpAny_execs_nil (kk h₅ t₅ _ (k2.trans (k4.trans k5)) (W4.kr k5.kr) ?_ ns5 (by rw [s5]; omega) rfl rfl)
  have L5 := L4.kq k5.kr.kq
  have T5 := T4.kr k5.kr
  have far : ∀ i : Nat, 0 < i → Far (391 + 38 * c + i) := fun i hi => ⟨by omega, by omega, by omega⟩
  have up : ∀ {i : Nat} {o : Obj}, 0 < i → h₄.get? (391 + 38 * c + i) = some o → h₅.get? (391 + 38 * c + i) = some o := fun {i o} hi e => k5 _ _ (by omega) e
  have lev : Lev K h₅ (clsAt (c + 1)) (flAt (c + 1)) (fAt (c + 1)) (kAt (c + 1)) (xAt (c + 1)) :=
    ⟨L5.X, ⟨_, _, _, _, L5.good, rfl⟩, L5.xtra, L5.ga, L5.reads, L5.lt, L5.md, fun i => by
      cases i
      · exact ⟨391 + 38 * c + 25, up (i := 26) (by decide) e1, up (i := 25) (by decide) e2, far 25 (by decide), far 26 (by decide)⟩
      · exact ⟨391 + 38 * c + 28, up (i := 29) (by decide) e3, up (i := 28) (by decide) e4, far 28 (by decide), far 29 (by decide)⟩⟩
  have hlev : HLev w h₅ (yAt (c + 1)) (kAt (c + 1)) := fun i => by
    cases i
    · obtain ⟨u, e⟩ := y1
      exact ⟨391 + 38 * c + 33, u, y2, e, far 33 (by decide), far 34 (by decide)⟩
    · obtain ⟨u, e⟩ := y3
      exact ⟨391 + 38 * c + 35, u, y4, e, far 35 (by decide), far 36 (by decide)⟩
  refine ⟨fun j hj => ?_, fun j hj => ?_, let ⟨n, e⟩ := pl; ⟨n, up (i := 31) (by decide) e⟩, ply⟩
  · by_cases z : j ≤ c
    · exact T5.lev j z
    · obtain rfl : j = c + 1 := by omega
      exact ⟨K, lev⟩
  · by_cases z : j ≤ c
    · exact T5.hlev j z
    · obtain rfl : j = c + 1 := by omega
      exact hlev
end
end Mine
end
section
open PySem PySem.W PySem.W.X PyProof.Rows PySem.Calls Builtin Builtin.ObjectAttr
set_option Elab.async false
set_option maxRecDepth 100000
namespace Mine
section
variable {prog : Program} {w : World} {A : Around} {E : Value → Shared → Prop} {h0 h h' h'' : Heap} {N k c b : Nat} {m m' ml : Str → Option Value} {d : Drawn} {t : Nat} {os : OsState} {mg mb : Str → Option Value} {K KH : Frag} {env : Env} {a0 a1 a2 a3 : Int} {qual : Str} {cd : Value}
theorem last_binds {nm qual : Str} {cl : List (Str × Addr)} {doc pm cd ct a b : Value} {an : Option Addr} :
    bindArgs (fnX nm qual tLast.params tLast.body tLast.scope cl .none .none doc pm an cd ct) ⟨[a, b], []⟩ = (pure [(("first" : Str), a), (("rounds" : Str), b)] : Sem _) := by kernel_rfl
/-- for turn in range(rounds) -/
theorem last_for {r : Nat} {u : Tok} {Q : Flow → Shared → Prop} (hr : r ≤ 2) (hh : A.handled = none) (hd : A.depth ≤ 320) (hu : A.units ≤ 3000) (F : LF KH (hideAll h0 hidZ) mg mb) (HK : ∀ c, c < 2 → RunK prog w h0 (391 + 38 * c)) (W : Wd h0 a0 a1 a2 a3 ml h) (T : Tw w h 0) (ns : h.Ns 382 m) (sz : h.objs.size = 389)
    (mr : m "rounds" = some (.int (r : Nat) u)) (mh : m "handlers" = some (.ref (hlAt 0))) (mk : m "keys" = some (.ref (klAt 0)))
    (kk : ∀ h' t' m', Wd h0 a0 a1 a2 a3 ml h' → Tw w h' r → h'.Ns 382 m' → m' "handlers" = some (.ref (hlAt r)) → m' "keys" = some (.ref (klAt r)) → Q .next ⟨h', #[], d, t', os⟩) :
    wpAny (model prog w) A (exec (stAt tLast.body 2) (ES qual cd)) Q E ⟨h, #[], d, t, os⟩ := by
  refine wpAny_For ?_
  refine Call_name1 rfl (b_built F.G W.base F.N2.range.1 F.N2.range.2 (callWith_type1 (s_loc ns mr ?_)))
  refine range_it (n := r) (by omega) fun h₁ t₁ ad it => ?_
  rw [sz] at it ⊢
  have s1 : h₁.objs.size = 391 := by rw [ad.size, sz]
  refine codeAny_forLoop (fun n' s' => ∃ (c : Nat) (m : Str → Option Value) (h' : Heap) (t' : Nat), s' = ⟨h', #[], d, t', os⟩ ∧ n' = r - c ∧ c ≤ r ∧ Wd h0 a0 a1 a2 a3 ml h' ∧ Tw w h' c ∧ h'.Ns 382 m ∧ h'.objs.size = 391 + 38 * c ∧ m "handlers" = some (.ref (hlAt c)) ∧ m "keys" = some (.ref (klAt c)) ∧
    IsRangeIter h' 390 ((c : Nat) : Int) ((r : Int) - ((c : Nat) : Int)) 1) ?_ r ⟨0, m, h₁, t₁, rfl, rfl, by omega, W.kr (.add ad), T.kr (.add ad), ns.keeps ad.keep, s1, mh, mk, it⟩
  clear s1 it ad W T ns sz mr mh mk
  rintro n' s' ⟨c, m, h', t', rfl, rfl, hc, W, T, ns, sz, mh, mk, it⟩
  by_cases hlt : c < r
  · refine wpAny_pyNext_range_item it (by omega) fun h₂ it2 sb2 => ?_
    have r2 : Kr h' h₂ := .iter fun b o n e => (sb2.2 b n).trans e
    have ns2 := ns.sameBut sb2 (by decide)
    dsimp only
    refine wpAny_assign_Name (wpAny_storeName_local rfl ns2 (fun h₃ ns₃ sb₃ => ?_) rfl)
    have r3 := r2.trans (.frame sb₃)
    have it3 := (sb₃.2 390 (by show (390 : Nat) ≠ 382; decide)).trans it2
    refine last_turn hh hd hu F (HK c (by omega)) (W.kr r3) (T.kr r3) ns₃ (by rw [sb₃.1, sb2.1, sz]) mh fun h₄ t₄ m₄ k4 W4 T4 ns4 s4 mh4 mk4 => ?_
    refine ⟨r - (c + 1), by omega, c + 1, m₄, h₄, t₄, rfl, rfl, hlt, W4, T4, ns4, s4, mh4, mk4, ?_⟩
    have := k4 _ _ (by decide) it3
    have e1 : ((c + 1 : Nat) : Int) = (c : Int) + 1 := by omega
    have e2 : (r : Int) - ((c + 1 : Nat) : Int) = (r : Int) - (c : Int) - 1 := by omega
    rw [e2, e1]; exact this
  · obtain rfl : c = r := by omega
    refine wpAny_pyNext_range_end hh it (by omega) fun h₂ eb => ?_
    have r2 : Kr h' h₂ := .iter fun b o n e => eb b o n e
    refine wpAny_execs_nil ?_
    exact kk h₂ _ m (W.kr r2) (T.kr r2) (ns.extBut eb (by decide)) mh mk
/-- _law_last(keys, rounds), called at the heap's size 382 -/
theorem last_does {r : Nat} {u : Tok} {Q : Value → Shared → Prop} (hr : r ≤ 2) (hh : A.handled = none) (hd : A.depth < 320) (hu : A.units + 3 ≤ 3000) (F : LF KH (hideAll h0 hidZ) mg mb) (Dl : DefAt (hideAll h0 hidZ) tLast 193) (HK : ∀ c, c < 2 → RunK prog w h0 (391 + 38 * c)) (W : Wd h0 a0 a1 a2 a3 ml h)
    (L : Lev K h 371 335 310 (kAt 0) (xAt 0)) (pk : h.PlainList 381 #[.ref 376, .ref 379]) (sz : h.objs.size = 382)
    (kk : ∀ h' t' x, Wd h0 a0 a1 a2 a3 ml h' → Tw w h' r → h'.PlainList x #[.ref (klAt r), .ref (hlAt r)] → Q (.ref x) ⟨h', #[], d, t', os⟩) :
    wpAny (model prog w) A (PySem.call (.ref 193) [.ref 381, .int (r : Nat) u]) Q E ⟨h, #[], d, t, os⟩ := by
  obtain ⟨nm, qual, od, osl, doc, pm, cd, ct, an, hf, hcd⟩ := Dl
  refine wpAny_call (codeAny_call_function (by show A.depth < 1000; omega) (W.base _ _ hf) rfl rfl rfl rfl (hcd.keeps W.base) ?_)
  rw [last_binds]
  refine wpAny_pure (wpAny_newFunctionEnv (show ∀ x ∈ tLast.scope.names, x.2 ≠ .cell by decide) (by
    intro y hy
    simp only [List.mem_cons, List.not_mem_nil, or_false] at hy
    rcases hy with rfl | rfl <;> rfl) (fun h₁ hns hsb => ⟨(F.G.lim.keeps W.base).fresh _ hsb, codeAny_func ?_⟩) rfl)
  refine wpAny_mono (Q := fun fl s' => Q (match fl with | .ret v => v | _ => .none) s') (E := fun _ _ => False) ?_ (fun fl s' x => x) (fun _ _ x => x.elim)
  dsimp only at hns hsb
  rw [sz] at hns hsb
  show wpAny _ (A.deeper (envX qual tLast.scope h.objs.size 193 cd [])) (execs tLast.body (envX qual tLast.scope h.objs.size 193 cd [])) _ _ _
  rw [sz]
  have hh' : (A.deeper (ES qual cd)).handled = none := hh
  have hd' : (A.deeper (ES qual cd)).depth ≤ 320 := hd
  have hu' : (A.deeper (ES qual cd)).units ≤ 3000 := hu
  generalize A.deeper (ES qual cd) = A' at hh' hd' hu' ⊢
  have s1 : h₁.objs.size = 383 := by rw [hsb.1, Heap.size_push, sz]
  have r1 : Kr h h₁ := fun b o n _ e => (hsb.2 b n).trans (Heap.get?_push_of_some _ e)
  -- keys = first
  refine wpAny_execs_cons (wpAny_Assign_Name (s_loc hns rfl ?_) rfl)
  refine wpAny_storeName_local rfl hns (fun h₂ ns₂ sb => ?_) rfl
  have r2 := r1.trans (.frame sb)
  have W2 := W.kr r2
  have L2 := L.kr r2
  have pk2 : h₂.PlainList 381 #[.ref 376, .ref 379] := let ⟨n, e⟩ := pk; ⟨n, r2 _ _ (by decide) (by decide) e⟩
  have s2 : h₂.objs.size = 383 := sb.1.trans s1
  clear hsb hns r1 r2 sb s1
  -- handlers = _law_handlers(keys)
  refine wpAny_execs_cons (last_hands (by show A'.depth < 1000; omega) F W2 ns₂ s2 rfl pk2 (fun h₃ t₃ k3 s3 ns₃ y2 y4 y1 y3 ply => ?_) (by decide))
  have pk3 : h₃.PlainList 381 #[.ref 376, .ref 379] := let ⟨n, e⟩ := pk2; ⟨n, k3 _ _ (by decide) e⟩
  have T3 : Tw w h₃ 0 := ⟨fun j hj => by
      obtain rfl : j = 0 := by omega
      exact ⟨K, L2.kr k3.kr⟩, fun j hj i => by
      obtain rfl : j = 0 := by omega
      cases i
      · obtain ⟨u, e⟩ := y1
        exact ⟨384, u, y2, e, ⟨by decide, by decide, by decide⟩, ⟨by decide, by decide, by decide⟩⟩
      · obtain ⟨u, e⟩ := y3
        exact ⟨386, u, y4, e, ⟨by decide, by decide, by decide⟩, ⟨by decide, by decide, by decide⟩⟩, pk3, ply⟩
  refine wpAny_execs_cons (last_for hr hh' hd' hu' F HK (W2.kr k3.kr) T3 ns₃ s3 rfl rfl rfl fun h₄ t₄ m₄ W4 T4 ns4 mh mk => ?_)
  -- return [keys, handlers]
  refine wpAny_execs_cons (wpAny_Return_some (wpAny_List (wpAny_items_cons (s_loc ns4 mk (wpAny_items_cons (s_loc ns4 mh (wpAny_items_nil ⟨by show (2 : Nat) ≤ sizeLine; decide, ?_⟩)))))))
  have pu : Kr h₄ (h₄.push { cls := .type "list", data := .seq [Value.ref (klAt r), .ref (hlAt r)].toArray }) := .all fun _ _ e => Heap.get?_push_of_some _ e
  exact kk _ _ h₄.objs.size (W4.kr pu) (T4.kr pu) (push_at (vs := [.ref (klAt r), .ref (hlAt r)]) rfl)
end
end Mine
end
section
open PySem PySem.W PySem.W.X PyProof.Rows PySem.Calls Builtin Builtin.ObjectAttr
set_option Elab.async false
set_option maxRecDepth 100000
namespace Mine
section
variable {prog : Program} {w : World} {A : Around} {E : Value → Shared → Prop} {h0 h h' h'' : Heap} {N k c b : Nat} {m m' ml : Str → Option Value} {g : Array GenState} {d : Drawn} {t : Nat} {os : OsState} {mg mb : Str → Option Value} {K KH : Frag} {env : Env} {a0 a1 a2 a3 : Int} {qual : Str} {cd : Value}
theorem unpack2 {l : Addr} {x0 x1 : Value} {Q : List Value → Shared → Prop} (hh : A.handled = none) (hl : h.IsList l #[x0, x1]) (kk : ∀ h', (∀ b o, h.get? b = some o → h'.get? b = some o) → Q [x0, x1] ⟨h', g, d, t, os⟩) :
    wpAny (model prog w) A (unpackItems (.ref l) 2 none) Q E ⟨h, g, d, t, os⟩ := by
  have ne : l ≠ h.objs.size := by obtain ⟨o, ho, _⟩ := hl; exact Nat.ne_of_lt (Heap.lt_size ho)
  unfold unpackItems
  refine wpAny_bind ?_
  unfold notIterableAtAll
  refine wpAny_bind (wpAny_specialOf (s := ⟨h, g, d, t, os⟩) hl.typeIs slot_list_iter.lookup ?_)
  refine wpAny_pure ?_
  simp only [Bool.false_eq_true, if_false]
  refine wpAny_bind (wpAny_holding (wpAny_pyIter_list hl ?_))
  have it := Heap.get?_push_size h (o := { cls := .type "list_iterator", data := .fields #[.ref l, .int 0 0] }) rfl
  have hl1 := hl.push { cls := .type "list_iterator", data := .fields #[.ref l, .int 0 0] }
  have kp : ∀ b o, h.get? b = some o → b ≠ h.objs.size ∧ (h.push { cls := .type "list_iterator", data := .fields #[.ref l, .int 0 0] }).get? b = some o := fun b o e => ⟨Nat.ne_of_lt (Heap.lt_size e), Heap.get?_push_of_some _ e⟩
  have isit : (h.push { cls := .type "list_iterator", data := .fields #[.ref l, .int 0 0] }).IsListIter h.objs.size l 0 := ⟨_, it, rfl, rfl⟩
  dsimp only
  generalize h.objs.size = I at ne kp isit ⊢
  generalize h.push { cls := .type "list_iterator", data := .fields #[.ref l, .int 0 0] } = h₁ at hl1 kp isit ⊢
  clear it
  have at_ : ∀ {h' h'' : Heap}, h'.IsList l #[x0, x1] → Heap.SameBut I h' h'' → h''.IsList l #[x0, x1] := fun x sb => x.at fun o e => (sb.2 l ne).trans e
  refine wpAny_bind (wpAny_holding ?_)
  show wpAny _ _ (pyNext (.ref I) >>= _) _ _ _
  refine wpAny_bind (wpAny_pyNext_list_item isit hl1 (x := x0) rfl fun h₂ it₂ sb₂ => ?_)
  have hl2 := at_ hl1 sb₂
  refine wpAny_bind (wpAny_holding ?_)
  show wpAny _ _ (pyNext (.ref I) >>= _) _ _ _
  refine wpAny_bind (wpAny_pyNext_list_item it₂ hl2 (x := x1) rfl fun h₃ it₃ sb₃ => ?_)
  have hl3 := at_ hl2 sb₃
  refine wpAny_bind (wpAny_holding ?_)
  show wpAny _ _ (pure []) _ _ _
  refine wpAny_pure (wpAny_pure (wpAny_pure ?_))
  rw [if_neg (show ¬ ([x0, x1].length < 2) from Nat.lt_irrefl 2)]
  refine wpAny_bind (wpAny_holding (wpAny_pyNext_list_end hh it₃ hl3 rfl fun h₄ eb => ?_))
  simp only [Option.isSome_none, Bool.false_eq_true, if_false]
  exact wpAny_pure (kk h₄ fun b o e => eb b o (kp b o e).1 ((sb₃.2 b (kp b o e).1).trans ((sb₂.2 b (kp b o e).1).trans (kp b o e).2)))
theorem Wd.law (W : Wd h0 a0 a1 a2 a3 ml h) (sb : Heap.SameBut 252 h h') (n : h'.Ns 252 m') : Wd h0 a0 a1 a2 a3 m' h' := by
  have lt : ∀ (b : Nat) o, h0.get? b = some o → b < 252 := fun b o e => by have := Heap.lt_size e; rwa [W.old] at this
  have q : Kq h h' := .frame sb
  exact ⟨fun b o n e => (sb.2 b (by have := lt b o e; show b ≠ 252; omega)).trans (W.keep b o n e), W.old, n, W.co.kq q, W.told.kq q, pl_kp (.frame sb) (p := W.asked), let ⟨vs, e⟩ := W.t160; ⟨vs, (sb.2 _ (by decide)).trans e⟩⟩
/-- keys, handlers = _law_last([maker(things[0]), maker(things[1])], rounds) -/
theorem pre_c {r : Nat} {u : Tok} {Q : Flow → Shared → Prop} (hr : r ≤ 2) (hh : A.handled = none) (hd : A.depth < 320) (hu : A.units + 3 ≤ 3000) (F : LF KH (hideAll h0 hidZ) mg mb) (il : mg "_law_last" = some (.ref 193)) (Dl : DefAt (hideAll h0 hidZ) tLast 193) (HK : ∀ c, c < 2 → RunK prog w h0 (391 + 38 * c))
    (P : Ps h0 [160, 44] 375 m h) (L : LA a0 a1 a2 a3 h) (T : Told1 a0 a1 a2 a3 h) (C : Cls K h 371 372 327 312 310 (fnOf 311)) (co : CodesAt h) (t160 : ∃ vs, h.get? 160 = some (tableObj vs)) (mm : m "maker" = some (.ref 371)) (mt : m "things" = some (.ref 256)) (mr : m "rounds" = some (.int (r : Nat) u))
    (kk : ∀ h' t' , Wd h0 a0 a1 a2 a3 (fun y => if y = "handlers" then some (.ref (hlAt r)) else if y = "keys" then some (.ref (klAt r)) else m y) h' → Tw w h' r → wpAny (model prog w) A (execs (tLaw.body.drop 6) (EL 252 250 cd)) Q E ⟨h', #[], d, t', os⟩) :
    wpAny (model prog w) A (execs (tLaw.body.drop 5) (EL 252 250 cd)) Q E ⟨h, #[], d, t, os⟩ := by
  obtain ⟨o1, d1, g1, r1⟩ := Dl.fn
  refine wpAny_execs_cons (Assign_Tuple ?_)
  refine Call_Name2 (b_glob F.G P.base il ?_)
  refine callWith_function (o := o1) (fd := d1) (evalArgs_plain (spliced_cons ?_))
  refine two_keys C (F.G.lim.keeps P.base) (by show A.depth + 1 < 1000; omega) P.size L.things.isList (fun kp q => l_loc (P.ns.keeps kp) mm q) (fun kp q => l_loc (P.ns.keeps kp) mt q) fun h₁ t₁ ad e1 e2 e3 e4 pl => ?_
  have W : Wd h0 a0 a1 a2 a3 m h₁ := ⟨fun b o n e => ad.keep _ _ (P.keep b o n e), P.old, P.ns.keeps ad.keep, co.kq (.add ad), T.kq (.add ad), pl_kp (.add ad) (p := L.asked), let ⟨vs, e⟩ := t160; ⟨vs, ad.keep _ _ e⟩⟩
  have s1 : h₁.objs.size = 382 := by rw [ad.size, P.size]
  have C1 := C.kq (.add ad)
  have lev : Lev K h₁ 371 335 310 (kAt 0) (xAt 0) := ⟨C1.X, ⟨_, _, _, _, C1.good, rfl⟩, C1.xtra, C1.ga, C1.reads, C1.lt, C1.md, fun i => by
    cases i
    · exact ⟨375, e1, e2, ⟨by decide, by decide, by decide⟩, ⟨by decide, by decide, by decide⟩⟩
    · exact ⟨378, e3, e4, ⟨by decide, by decide, by decide⟩, ⟨by decide, by decide, by decide⟩⟩⟩
  clear C1 C co T t160 ad e1 e2 e3 e4
  refine spliced_cons (l_loc W.ns mr (spliced_nil ⟨⟨W.base _ _ g1, r1⟩, ?_⟩))
  refine last_does hr hh hd hu F Dl HK W lev pl s1 fun h₂ t₂ x W2 T2 px => ?_
  clear W lev pl s1 P L
  rw [assign_Tuple]
  refine wpAny_bind (wpAny_standAt ?_)
  unfold unpack
  refine wpAny_bind (wpAny_holding (unpack2 hh px.isList fun h₃ kp => ?_))
  have W3 := W2.kr (.all kp)
  have T3 := T2.kr (.all kp)
  clear W2 T2 px kp
  refine assignInOrder_cons (assign_Name (wpAny_storeName_local rfl W3.ns (fun h₄ ns₄ sb₄ => ?_) rfl))
  have W4 := W3.law sb₄ ns₄
  have T4 := T3.kq (.frame sb₄)
  clear W3 T3 sb₄ ns₄
  refine assignInOrder_cons (assign_Name (wpAny_storeName_local rfl W4.ns (fun h₅ ns₅ sb₅ => ?_) rfl))
  exact assignInOrder_nil (kk h₅ _ (W4.law sb₅ ns₅) (T4.kq (.frame sb₅)))
end
end Mine
end
section
open PySem PySem.W PySem.W.X PyProof.Rows PySem.Calls Builtin Builtin.ObjectAttr
set_option Elab.async false
set_option maxRecDepth 100000
namespace Mine
section
variable {prog : Program} {w : World} {A : Around} {E : Value → Shared → Prop} {h0 h h' h'' B : Heap} {N k c b : Nat} {m m' ml : Str → Option Value} {g : Array GenState} {d : Drawn} {t : Nat} {os : OsState} {mg mb : Str → Option Value} {K KH : Frag} {env : Env} {a0 a1 a2 a3 : Int} {qual : Str} {cd : Value} {n0 : Int} {u0 : Tok}
theorem hid_at {a : Nat} {o : Obj} (n : a ∉ hidL) (e : h.get? a = some o) : (hideAll h hidL).get? a = some o := hideAll_get _ e n
/-- the keys and the handlers of c rounds, in the base -/
theorem tower {n0 : Int} {u0 : Tok} (F : Lw0 KH (hideAll h hidL) mg mb (.int n0 u0)) (HF : HFacts KH) (Dv : DefAt (hideAll h hidL) tVotes 172) (W : Wd h0 a0 a1 a2 a3 ml h) (T : Tw w h c) (hc : c ≤ 2) :
    ∃ KK, Sg prog w KH (hideAll h hidL) 253 12 (lvlV c (at2 a0 a1 a2 a3)) (lvlA c) (fun i => kAt c i) (fun i => yAt c i) hcls KK (clsAt c) (flAt c) (klAt c) (hlAt c) 291 a0 a1 a2 a3 c (.int n0 u0) := by
  have told : ToldAt (hideAll h hidL) 253 310 254 255 a0 a1 a2 a3 := (W.told.up fun a hm o e => hid_at (by
    simp only [List.mem_cons, List.not_mem_nil, or_false] at hm
    rcases hm with rfl | rfl | rfl | rfl | rfl | rfl | rfl | rfl | rfl <;> decide) e).at_
  have f310 : ∃ o fd, (hideAll h hidL).get? 310 = some o ∧ o.data = .func fd := by
    obtain ⟨⟨_, _, _, _, _, _, _, _, _, _, _, _, _, _, _, _, _, _, _, e, _⟩, _⟩ := told
    exact ⟨_, _, e, rfl⟩
  have lv : ∀ j, j ≤ c → ∃ K, Lev K (hideAll h hidL) (clsAt j) (flAt j) (fAt j) (kAt j) (xAt j) := fun j hj => let ⟨K, L⟩ := T.lev j hj; ⟨K, L.hid⟩
  have hl : ∀ j, j ≤ c → HLev w (hideAll h hidL) (yAt j) (kAt j) := fun j hj => (T.hlev j hj).hid
  have two : ∀ j, yAt j false ≠ yAt j true := fun j => by
    cases j with
    | zero => decide
    | succ j => show 391 + 38 * j + 34 ≠ 391 + 38 * j + 36; omega
  have V0 : ∃ K, Lev K (hideAll h hidL) (clsAt 0) (flAt 0) (fAt 0) (kAt 0) (xAt 0) ∧ Level prog w (hideAll h hidL) 253 4 (lvlV 0 (at2 a0 a1 a2 a3)) (lvlA 0) (fun i => kAt 0 i) ∧ (∀ i j, Does 4 prog w (hideAll h hidL) 253 (.ref (flAt 0)) [.ref (kAt 0 i), .ref (kAt 0 j)] (isB (cmpZ .Lt (lvlV 0 (at2 a0 a1 a2 a3) i j))) (lvlA 0 i j)) := by
    obtain ⟨K, L⟩ := lv 0 (Nat.zero_le _)
    exact ⟨K, L, L.level F.G f310 fun i j => told_does F.G F.int.1 F.int.2 told i j⟩
  have V : ∀ j, j ≤ c → ∃ K, Lev K (hideAll h hidL) (clsAt j) (flAt j) (fAt j) (kAt j) (xAt j) ∧ Level prog w (hideAll h hidL) 253 (4 + 4 * j) (lvlV j (at2 a0 a1 a2 a3)) (lvlA j) (fun i => kAt j i) ∧ (∀ i i', Does (4 + 4 * j) prog w (hideAll h hidL) 253 (.ref (flAt j)) [.ref (kAt j i), .ref (kAt j i')] (isB (cmpZ .Lt (lvlV j (at2 a0 a1 a2 a3) i i'))) (lvlA j i i')) := by
    intro j
    induction j with
    | zero => exact fun _ => V0
    | succ j ih =>
      intro hj
      obtain ⟨_, _, V, _⟩ := ih (by omega)
      obtain ⟨K, L⟩ := lv (j + 1) hj
      exact ⟨K, L, Lev.step F HF V (hl j (by omega)) (two j) Dv L⟩
  obtain ⟨KK, L, V1, V2⟩ := V c (Nat.le_refl _)
  have f1 : ∃ o fd, (hideAll h hidL).get? (fAt c) = some o ∧ o.data = .func fd := by
    cases c with
    | zero => exact f310
    | succ c => exact Dv.fn
  have big : ∀ {a : Nat} {vs : Array Value}, 300 ≤ a → h.PlainList a vs → (hideAll h hidL).IsList a vs := fun ha ⟨n, e⟩ => ⟨_, hid_big e ha, rfl, n, rfl⟩
  have kl : 300 ≤ klAt c := by
    cases c with
    | zero => decide
    | succ c => show 300 ≤ 391 + 38 * c + 31; omega
  have hll : 300 ≤ hlAt c := by
    cases c with
    | zero => decide
    | succ c => show 300 ≤ 391 + 38 * c + 37; omega
  refine ⟨KK, sg_of F HF hc L f1 (hl c (Nat.le_refl _)) (two c) ⟨fun op ho i j => (V1 op ho i j).le (by omega), fun i j => (V2 i j).le (by omega)⟩ (big kl T.kl) (big hll T.hl) ?_⟩
  obtain ⟨v0, v1, v2, v3, n, e⟩ := W.told.ans
  exact ⟨v0, v1, v2, v3, _, hid_at (by decide) e, rfl, n, rfl⟩
/-- what stood stands, but that four tables grew -/
theorem old_of {S : List Nat} (k : ∀ (b : Nat) o, b ∉ S → h0.get? b = some o → h.get? b = some o) (x : ∀ b ∈ S, (∃ c, h0.TableAt c b #[]) ∧ ∃ vs, h.get? b = some (tableObj vs)) : OldK h0 h := by
  have e0 : ∀ (b : Nat) o, b ∈ S → h0.get? b = some o → o = tableObj #[] := fun b o hb e => by
    obtain ⟨⟨c, tt⟩, _⟩ := x b hb
    exact Option.some.inj (e.symm.trans tt.2)
  refine ⟨fun b o e => ?_, fun b o e => ?_⟩
  · by_cases hb : b ∈ S
    · obtain ⟨⟨c, tt⟩, vs, e2⟩ := x b hb
      obtain rfl := e0 b o hb e
      exact .inr (.inl ⟨tt.isCodeTable, rfl, #[], vs, rfl, by rw [e2, Array.empty_append]; rfl⟩)
    · exact .inl (k b o hb e)
  · by_cases hb : b ∈ S
    · obtain ⟨_, vs, e2⟩ := x b hb
      exact ⟨_, e2⟩
    · exact ⟨o, k b o hb e⟩
end
end Mine
end
section
open PySem PySem.W PySem.W.X PyProof.Rows PySem.Calls Builtin Builtin.ObjectAttr
set_option Elab.async false
set_option maxRecDepth 100000
namespace Mine
section
variable {prog : Program} {w : World} {E : Value → Shared → Prop} {h0 h h' : Heap} {m m' : Str → Option Value} {d : Drawn} {t : Nat} {os : OsState} {mg mb : Str → Option Value} {K : Frag} {n0 : Int} {u0 : Tok} {a0 a1 a2 a3 : Int}
theorem law_binds {nm qual : Str} {cl : List (Str × Addr)} {doc pm cd ct a : Value} {an : Option Addr} :
    bindArgs (fnX nm qual tLaw.params tLaw.body tLaw.scope cl .none .none doc pm an cd ct) ⟨[a], []⟩ = (pure [(("script" : Str), a)] : Sem _) := by kernel_rfl
/-- from the laying out to the end -/
theorem law_end {r : Nat} {fl : Addr} {cd : Value} {A : Around} {Q : Flow → Shared → Prop} (R : Room 20 A) (hfr : A.frames = some [EL 252 fl cd]) (F0 : Lw0 K (hideAll h0 hidZ) mg mb (.int n0 u0)) (HF : HFacts K) (Dv : DefAt (hideAll h0 hidZ) tVotes 172) (hT : ∀ b ∈ hidZ, ∃ c, h0.TableAt c b #[])
    (W : Wd h0 a0 a1 a2 a3 m h) (T : Tw w h r) (hr : r ≤ 2) (M : Mp m 253 (klAt r) (hlAt r) 291 r) (kk : ∀ h' t', OldK h0 h' → Q (.ret (.bool true)) ⟨h', #[], d, t', os⟩) :
    wpAny (model prog w) A (execs (tLaw.body.drop 6) (EL 252 fl cd)) Q E ⟨h, #[], d, t, os⟩ := by
  have no : ∀ b, 252 ≤ b → (hideAll h0 hidZ).get? b = none := fun b hb => by
    cases e : (hideAll h0 hidZ).get? b with
    | none => rfl
    | some o =>
      have := Heap.lt_size (of_hideAll _ e)
      rw [W.old] at this
      exact absurd this (Nat.not_lt_of_le hb)
  have tab : ∀ b ∈ hidZ, b ≠ 160 → b ≠ 44 → h.get? b = some (tabObj #[]) := fun b hb n1 n2 => by
    obtain ⟨c, tt⟩ := hT b hb
    exact W.keep b _ (by simp only [List.mem_cons, List.not_mem_nil, or_false]; exact fun z => z.elim n1 n2) tt.2
  have Y0 : Ap (hideAll h0 hidZ) 253 252 207 214 := ⟨no _ (by decide), no _ (by decide), hideAll_none _ (by simp), hideAll_none _ (by simp), by decide, by decide, by decide, by decide, by decide, by decide⟩
  have S0 : StL (hideAll h0 hidZ) 253 252 m h := ⟨⟨[], W.base, no _ (by decide), ⟨[], W.asked, .nil⟩, Nat.zero_le _⟩, W.ns, ⟨#[], .empty (tab 207 (by simp) (by decide) (by decide))⟩, ⟨#[], .empty (tab 214 (by simp) (by decide) (by decide))⟩⟩
  have kB := S0.sub Y0
  have F := F0.keeps kB
  obtain ⟨KK, Z⟩ := tower (prog := prog) F HF (Dv.keeps kB) W T hr
  refine law_tail F Y0.hid Z R hfr M S0.up fun h₁ t₁ m₁ S1 => kk h₁ t₁ ?_
  have up : ∀ (b : Nat) o, b ∉ hidL → h.get? b = some o → h₁.get? b = some o := fun b o n e => S1.keepB _ _ (hideAll_get _ e n)
  refine old_of (S := hidZ) (fun b o hb e => S1.keepB _ _ (kB _ _ (hideAll_get _ e hb))) fun b hb => ⟨hT b hb, ?_⟩
  simp only [List.mem_cons, List.not_mem_nil, or_false] at hb
  rcases hb with rfl | rfl | rfl | rfl
  · obtain ⟨vs, e⟩ := W.t160
    exact ⟨vs, up _ _ (by decide) e⟩
  · exact ⟨_, up _ _ (by decide) W.co.2.1⟩
  · obtain ⟨ps, x⟩ := S1.t1
    exact ⟨ps, x.1⟩
  · obtain ⟨ps, x⟩ := S1.t2
    exact ⟨ps, x.1⟩
/-- law(script) -/
theorem law_whole {items : Array Value} {Q : Value → Shared → Prop} (F0 : Lw0 K (hideAll h0 hidZ) mg mb (.int n0 u0)) (HF : HFacts K) (F : LF K (hideAll h0 hidZ) mg mb) (Dv : DefAt (hideAll h0 hidZ) tVotes 172) (hT : ∀ b ∈ hidZ, ∃ c, h0.TableAt c b #[]) (old : h0.objs.size = 252)
    (ians : mg "_law_answers" = some (.ref 158)) (Da : DefAt (hideAll h0 hidZ) tAnswers 158) (icom : mg "_law_comparison" = some (.ref 165)) (f165 : ∃ o fd, (hideAll h0 hidZ).get? 165 = some o ∧ o.data = .func fd) (il : mg "_law_last" = some (.ref 193)) (Dl : DefAt (hideAll h0 hidZ) tLast 193)
    (Dw : ∃ nm od osl doc pm cd ct an, h0.get? 250 = some ⟨.type "function", od, .func (fnX nm "law" tLaw.params tLaw.body tLaw.scope [] .none .none doc pm an cd ct), osl⟩ ∧ h0.CodeRec cd "law") (hl : h0.IsList 251 items) (hi : AllInts items) (hz : items.size ≤ sizeLine)
    (HC : RunC prog w h0) (HB : RunB prog w h0) (HK : ∀ c, c < 2 → RunK prog w h0 (391 + 38 * c)) (kk : ∀ h' t', OldK h0 h' → Q (.bool true) ⟨h', #[], d, t', os⟩) :
    wpAny (model prog w) callerA (PySem.call (.ref 250) [.ref 251]) Q E ⟨h0, #[], d, t, os⟩ := by
  obtain ⟨nm, od, osl, doc, pm, cd, ct, an, hf, hcd⟩ := Dw
  have kz : ∀ b o, (hideAll h0 hidZ).get? b = some o → h0.get? b = some o := fun b o e => of_hideAll _ e
  refine wpAny_call (codeAny_call_function (by decide) hf rfl rfl rfl rfl hcd ?_)
  rw [law_binds]
  refine wpAny_pure (wpAny_newFunctionEnv (show ∀ x ∈ tLaw.scope.names, x.2 ≠ .cell by decide) (by
    intro y hy
    simp only [List.mem_cons, List.not_mem_nil, or_false] at hy
    rcases hy with rfl; rfl) (fun h₁ hns hsb => ⟨(F.G.lim.keeps kz).fresh _ hsb, codeAny_func ?_⟩) rfl)
  refine wpAny_mono (Q := fun fl s' => Q (match fl with | .ret v => v | _ => .none) s') (E := fun _ _ => False) ?_ (fun fl s' x => x) (fun _ _ x => x.elim)
  dsimp only at hns hsb
  rw [old] at hns hsb
  show wpAny _ (callerA.deeper (envX "law" tLaw.scope h0.objs.size 250 cd [])) (execs tLaw.body (envX "law" tLaw.scope h0.objs.size 250 cd [])) _ _ _
  rw [old]
  have R : Room 20 (callerA.deeper (EL 252 250 cd)) := ⟨rfl, Nat.le_of_ble_eq_true rfl, Nat.le_of_ble_eq_true rfl⟩
  have hfr : (callerA.deeper (EL 252 250 cd)).frames = some [EL 252 250 cd] := rfl
  have hd : (callerA.deeper (EL 252 250 cd)).depth < 320 := Nat.le_of_ble_eq_true rfl
  have hu : (callerA.deeper (EL 252 250 cd)).units + 3 ≤ 3000 := Nat.le_of_ble_eq_true rfl
  generalize callerA.deeper (EL 252 250 cd) = A at R hfr hd hu ⊢
  have P : Ps h0 [] 253 _ h₁ := ⟨fun b o _ e => (hsb.2 b (fun z => by have := Heap.lt_size e; rw [z, old] at this; exact Nat.lt_irrefl _ this)).trans (Heap.get?_push_of_some _ e), by rw [hsb.1, Heap.size_push, old], hns, old⟩
  refine pre_a R.le (F.G.keeps kz) F.N2 ians (Da.keeps kz) hl hi hz P rfl fun h₂ t₂ m₂ a0 a1 a2 a3 r u P2 L2 mq mt ma mr hr => ?_
  refine pre_b R.handled (Nat.le_of_lt hd) (by omega) F.G F.cmp icom F.f49 f165 HC HB P2 L2 mq mt ma fun h₃ t₃ K₃ P3 L3 T3 C3 co3 t160 => ?_
  refine pre_c hr R.handled hd hu F il Dl HK P3 L3 T3 C3 co3 t160 rfl mt mr fun h₄ t₄ W T => ?_
  refine law_end R hfr F0 HF Dv hT W T hr ⟨mq, rfl, rfl, ma, u, mr⟩ fun h₅ t₅ ok => ?_
  exact kk h₅ t₅ ok
end
end Mine
end
section
open PySem PySem.W PySem.W.X PyProof.Rows PySem.Calls
set_option Elab.async false
set_option maxRecDepth 100000
namespace Mine
/-! the program's text, told as the kit's quick form of it -/
theorem quick_form : (!PySem.Challenge.pw_ij0028_01.main.body.isEmpty) = true := by k_qdec
noncomputable def topF : List Stmt := PySem.W.Fast.tw4143398806694328638.main.body
noncomputable def gF (i : Nat) : Txt := defOf' (nth topF i)
noncomputable def gM (i j : Nat) : Txt := defOf' (nth (bodyOf' (nth topF i)) j)
noncomputable def dE (P : Params) (s : Str) (t : Tok) (v : Value) : DictEntry := ⟨PyData.keyHash P s, .str s t, v⟩
/-! the objects that the text's top leaves (printed by Gobj.lean) -/
noncomputable def z0 : Str := ⟨⟨[95, 95, 110, 97, 109, 101, 95, 95]⟩⟩
noncomputable def z1 : Str := ⟨⟨[98, 117, 105, 108, 116, 105, 110, 115]⟩⟩
noncomputable def z2 : Str := ⟨⟨[95, 95, 100, 111, 99, 95, 95]⟩⟩
noncomputable def z3 : Str := ⟨⟨[95, 95, 112, 97, 99, 107, 97, 103, 101, 95, 95]⟩⟩
noncomputable def z4 : Str := ⟨⟨[95, 95, 108, 111, 97, 100, 101, 114, 95, 95]⟩⟩
noncomputable def z5 : Str := ⟨⟨[95, 95, 115, 112, 101, 99, 95, 95]⟩⟩
noncomputable def z6 : Str := ⟨⟨[95, 95, 98, 117, 105, 108, 100, 95, 99, 108, 97, 115, 115, 95, 95]⟩⟩
noncomputable def z7 : Str := ⟨⟨[95, 95, 105, 109, 112, 111, 114, 116, 95, 95]⟩⟩
noncomputable def z8 : Str := ⟨⟨[97, 98, 115]⟩⟩
noncomputable def z9 : Str := ⟨⟨[97, 108, 108]⟩⟩
noncomputable def z10 : Str := ⟨⟨[97, 110, 121]⟩⟩
noncomputable def z11 : Str := ⟨⟨[97, 115, 99, 105, 105]⟩⟩
noncomputable def z12 : Str := ⟨⟨[98, 105, 110]⟩⟩
noncomputable def z13 : Str := ⟨⟨[98, 114, 101, 97, 107, 112, 111, 105, 110, 116]⟩⟩
noncomputable def z14 : Str := ⟨⟨[99, 97, 108, 108, 97, 98, 108, 101]⟩⟩
noncomputable def z15 : Str := ⟨⟨[99, 104, 114]⟩⟩
noncomputable def z16 : Str := ⟨⟨[99, 111, 109, 112, 105, 108, 101]⟩⟩
noncomputable def z17 : Str := ⟨⟨[100, 101, 108, 97, 116, 116, 114]⟩⟩
noncomputable def z18 : Str := ⟨⟨[100, 105, 114]⟩⟩
noncomputable def z19 : Str := ⟨⟨[100, 105, 118, 109, 111, 100]⟩⟩
noncomputable def z20 : Str := ⟨⟨[101, 118, 97, 108]⟩⟩
noncomputable def z21 : Str := ⟨⟨[101, 120, 101, 99]⟩⟩
noncomputable def z22 : Str := ⟨⟨[102, 111, 114, 109, 97, 116]⟩⟩
noncomputable def z23 : Str := ⟨⟨[103, 101, 116, 97, 116, 116, 114]⟩⟩
noncomputable def z24 : Str := ⟨⟨[103, 108, 111, 98, 97, 108, 115]⟩⟩
noncomputable def z25 : Str := ⟨⟨[104, 97, 115, 97, 116, 116, 114]⟩⟩
noncomputable def z26 : Str := ⟨⟨[104, 97, 115, 104]⟩⟩
noncomputable def z27 : Str := ⟨⟨[104, 101, 120]⟩⟩
noncomputable def z28 : Str := ⟨⟨[105, 100]⟩⟩
noncomputable def z29 : Str := ⟨⟨[105, 110, 112, 117, 116]⟩⟩
noncomputable def z30 : Str := ⟨⟨[105, 115, 105, 110, 115, 116, 97, 110, 99, 101]⟩⟩
noncomputable def z31 : Str := ⟨⟨[105, 115, 115, 117, 98, 99, 108, 97, 115, 115]⟩⟩
noncomputable def z32 : Str := ⟨⟨[105, 116, 101, 114]⟩⟩
noncomputable def z33 : Str := ⟨⟨[97, 105, 116, 101, 114]⟩⟩
noncomputable def z34 : Str := ⟨⟨[108, 101, 110]⟩⟩
noncomputable def z35 : Str := ⟨⟨[108, 111, 99, 97, 108, 115]⟩⟩
noncomputable def z36 : Str := ⟨⟨[109, 97, 120]⟩⟩
noncomputable def z37 : Str := ⟨⟨[109, 105, 110]⟩⟩
noncomputable def z38 : Str := ⟨⟨[110, 101, 120, 116]⟩⟩
noncomputable def z39 : Str := ⟨⟨[97, 110, 101, 120, 116]⟩⟩
noncomputable def z40 : Str := ⟨⟨[111, 99, 116]⟩⟩
noncomputable def z41 : Str := ⟨⟨[111, 114, 100]⟩⟩
noncomputable def z42 : Str := ⟨⟨[112, 111, 119]⟩⟩
noncomputable def z43 : Str := ⟨⟨[112, 114, 105, 110, 116]⟩⟩
noncomputable def z44 : Str := ⟨⟨[114, 101, 112, 114]⟩⟩
noncomputable def z45 : Str := ⟨⟨[114, 111, 117, 110, 100]⟩⟩
noncomputable def z46 : Str := ⟨⟨[115, 101, 116, 97, 116, 116, 114]⟩⟩
noncomputable def z47 : Str := ⟨⟨[115, 111, 114, 116, 101, 100]⟩⟩
noncomputable def z48 : Str := ⟨⟨[115, 117, 109]⟩⟩
noncomputable def z49 : Str := ⟨⟨[118, 97, 114, 115]⟩⟩
noncomputable def z50 : Str := ⟨⟨[78, 111, 110, 101]⟩⟩
noncomputable def z51 : Str := ⟨⟨[69, 108, 108, 105, 112, 115, 105, 115]⟩⟩
noncomputable def z52 : Str := ⟨⟨[78, 111, 116, 73, 109, 112, 108, 101, 109, 101, 110, 116, 101, 100]⟩⟩
noncomputable def z53 : Str := ⟨⟨[70, 97, 108, 115, 101]⟩⟩
noncomputable def z54 : Str := ⟨⟨[84, 114, 117, 101]⟩⟩
noncomputable def z55 : Str := ⟨⟨[98, 111, 111, 108]⟩⟩
noncomputable def z56 : Str := ⟨⟨[109, 101, 109, 111, 114, 121, 118, 105, 101, 119]⟩⟩
noncomputable def z57 : Str := ⟨⟨[98, 121, 116, 101, 97, 114, 114, 97, 121]⟩⟩
noncomputable def z58 : Str := ⟨⟨[98, 121, 116, 101, 115]⟩⟩
noncomputable def z59 : Str := ⟨⟨[99, 108, 97, 115, 115, 109, 101, 116, 104, 111, 100]⟩⟩
noncomputable def z60 : Str := ⟨⟨[99, 111, 109, 112, 108, 101, 120]⟩⟩
noncomputable def z61 : Str := ⟨⟨[100, 105, 99, 116]⟩⟩
noncomputable def z62 : Str := ⟨⟨[101, 110, 117, 109, 101, 114, 97, 116, 101]⟩⟩
noncomputable def z63 : Str := ⟨⟨[102, 105, 108, 116, 101, 114]⟩⟩
noncomputable def z64 : Str := ⟨⟨[102, 108, 111, 97, 116]⟩⟩
noncomputable def z65 : Str := ⟨⟨[102, 114, 111, 122, 101, 110, 115, 101, 116]⟩⟩
noncomputable def z66 : Str := ⟨⟨[112, 114, 111, 112, 101, 114, 116, 121]⟩⟩
noncomputable def z67 : Str := ⟨⟨[105, 110, 116]⟩⟩
noncomputable def z68 : Str := ⟨⟨[108, 105, 115, 116]⟩⟩
noncomputable def z69 : Str := ⟨⟨[109, 97, 112]⟩⟩
noncomputable def z70 : Str := ⟨⟨[111, 98, 106, 101, 99, 116]⟩⟩
noncomputable def z71 : Str := ⟨⟨[114, 97, 110, 103, 101]⟩⟩
noncomputable def z72 : Str := ⟨⟨[114, 101, 118, 101, 114, 115, 101, 100]⟩⟩
noncomputable def z73 : Str := ⟨⟨[115, 101, 116]⟩⟩
noncomputable def z74 : Str := ⟨⟨[115, 108, 105, 99, 101]⟩⟩
noncomputable def z75 : Str := ⟨⟨[115, 116, 97, 116, 105, 99, 109, 101, 116, 104, 111, 100]⟩⟩
noncomputable def z76 : Str := ⟨⟨[115, 116, 114]⟩⟩
noncomputable def z77 : Str := ⟨⟨[115, 117, 112, 101, 114]⟩⟩
noncomputable def z78 : Str := ⟨⟨[116, 117, 112, 108, 101]⟩⟩
noncomputable def z79 : Str := ⟨⟨[116, 121, 112, 101]⟩⟩
noncomputable def z80 : Str := ⟨⟨[122, 105, 112]⟩⟩
noncomputable def z81 : Str := ⟨⟨[95, 95, 100, 101, 98, 117, 103, 95, 95]⟩⟩
noncomputable def z82 : Str := ⟨⟨[66, 97, 115, 101, 69, 120, 99, 101, 112, 116, 105, 111, 110]⟩⟩
noncomputable def z83 : Str := ⟨⟨[66, 97, 115, 101, 69, 120, 99, 101, 112, 116, 105, 111, 110, 71, 114, 111, 117, 112]⟩⟩
noncomputable def z84 : Str := ⟨⟨[69, 120, 99, 101, 112, 116, 105, 111, 110]⟩⟩
noncomputable def z85 : Str := ⟨⟨[71, 101, 110, 101, 114, 97, 116, 111, 114, 69, 120, 105, 116]⟩⟩
noncomputable def z86 : Str := ⟨⟨[75, 101, 121, 98, 111, 97, 114, 100, 73, 110, 116, 101, 114, 114, 117, 112, 116]⟩⟩
noncomputable def z87 : Str := ⟨⟨[83, 121, 115, 116, 101, 109, 69, 120, 105, 116]⟩⟩
noncomputable def z88 : Str := ⟨⟨[65, 114, 105, 116, 104, 109, 101, 116, 105, 99, 69, 114, 114, 111, 114]⟩⟩
noncomputable def z89 : Str := ⟨⟨[65, 115, 115, 101, 114, 116, 105, 111, 110, 69, 114, 114, 111, 114]⟩⟩
noncomputable def z90 : Str := ⟨⟨[65, 116, 116, 114, 105, 98, 117, 116, 101, 69, 114, 114, 111, 114]⟩⟩
noncomputable def z91 : Str := ⟨⟨[66, 117, 102, 102, 101, 114, 69, 114, 114, 111, 114]⟩⟩
noncomputable def z92 : Str := ⟨⟨[69, 79, 70, 69, 114, 114, 111, 114]⟩⟩
noncomputable def z93 : Str := ⟨⟨[73, 109, 112, 111, 114, 116, 69, 114, 114, 111, 114]⟩⟩
noncomputable def z94 : Str := ⟨⟨[76, 111, 111, 107, 117, 112, 69, 114, 114, 111, 114]⟩⟩
noncomputable def z95 : Str := ⟨⟨[77, 101, 109, 111, 114, 121, 69, 114, 114, 111, 114]⟩⟩
noncomputable def z96 : Str := ⟨⟨[78, 97, 109, 101, 69, 114, 114, 111, 114]⟩⟩
noncomputable def z97 : Str := ⟨⟨[79, 83, 69, 114, 114, 111, 114]⟩⟩
noncomputable def z98 : Str := ⟨⟨[82, 101, 102, 101, 114, 101, 110, 99, 101, 69, 114, 114, 111, 114]⟩⟩
noncomputable def z99 : Str := ⟨⟨[82, 117, 110, 116, 105, 109, 101, 69, 114, 114, 111, 114]⟩⟩
noncomputable def z100 : Str := ⟨⟨[83, 116, 111, 112, 65, 115, 121, 110, 99, 73, 116, 101, 114, 97, 116, 105, 111, 110]⟩⟩
noncomputable def z101 : Str := ⟨⟨[83, 116, 111, 112, 73, 116, 101, 114, 97, 116, 105, 111, 110]⟩⟩
noncomputable def z102 : Str := ⟨⟨[83, 121, 110, 116, 97, 120, 69, 114, 114, 111, 114]⟩⟩
noncomputable def z103 : Str := ⟨⟨[83, 121, 115, 116, 101, 109, 69, 114, 114, 111, 114]⟩⟩
noncomputable def z104 : Str := ⟨⟨[84, 121, 112, 101, 69, 114, 114, 111, 114]⟩⟩
noncomputable def z105 : Str := ⟨⟨[86, 97, 108, 117, 101, 69, 114, 114, 111, 114]⟩⟩
noncomputable def z106 : Str := ⟨⟨[87, 97, 114, 110, 105, 110, 103]⟩⟩
noncomputable def z107 : Str := ⟨⟨[70, 108, 111, 97, 116, 105, 110, 103, 80, 111, 105, 110, 116, 69, 114, 114, 111, 114]⟩⟩
noncomputable def z108 : Str := ⟨⟨[79, 118, 101, 114, 102, 108, 111, 119, 69, 114, 114, 111, 114]⟩⟩
noncomputable def z109 : Str := ⟨⟨[90, 101, 114, 111, 68, 105, 118, 105, 115, 105, 111, 110, 69, 114, 114, 111, 114]⟩⟩
noncomputable def z110 : Str := ⟨⟨[66, 121, 116, 101, 115, 87, 97, 114, 110, 105, 110, 103]⟩⟩
noncomputable def z111 : Str := ⟨⟨[68, 101, 112, 114, 101, 99, 97, 116, 105, 111, 110, 87, 97, 114, 110, 105, 110, 103]⟩⟩
noncomputable def z112 : Str := ⟨⟨[69, 110, 99, 111, 100, 105, 110, 103, 87, 97, 114, 110, 105, 110, 103]⟩⟩
noncomputable def z113 : Str := ⟨⟨[70, 117, 116, 117, 114, 101, 87, 97, 114, 110, 105, 110, 103]⟩⟩
noncomputable def z114 : Str := ⟨⟨[73, 109, 112, 111, 114, 116, 87, 97, 114, 110, 105, 110, 103]⟩⟩
noncomputable def z115 : Str := ⟨⟨[80, 101, 110, 100, 105, 110, 103, 68, 101, 112, 114, 101, 99, 97, 116, 105, 111, 110, 87, 97, 114, 110, 105, 110, 103]⟩⟩
noncomputable def z116 : Str := ⟨⟨[82, 101, 115, 111, 117, 114, 99, 101, 87, 97, 114, 110, 105, 110, 103]⟩⟩
noncomputable def z117 : Str := ⟨⟨[82, 117, 110, 116, 105, 109, 101, 87, 97, 114, 110, 105, 110, 103]⟩⟩
noncomputable def z118 : Str := ⟨⟨[83, 121, 110, 116, 97, 120, 87, 97, 114, 110, 105, 110, 103]⟩⟩
noncomputable def z119 : Str := ⟨⟨[85, 110, 105, 99, 111, 100, 101, 87, 97, 114, 110, 105, 110, 103]⟩⟩
noncomputable def z120 : Str := ⟨⟨[85, 115, 101, 114, 87, 97, 114, 110, 105, 110, 103]⟩⟩
noncomputable def z121 : Str := ⟨⟨[66, 108, 111, 99, 107, 105, 110, 103, 73, 79, 69, 114, 114, 111, 114]⟩⟩
noncomputable def z122 : Str := ⟨⟨[67, 104, 105, 108, 100, 80, 114, 111, 99, 101, 115, 115, 69, 114, 114, 111, 114]⟩⟩
noncomputable def z123 : Str := ⟨⟨[67, 111, 110, 110, 101, 99, 116, 105, 111, 110, 69, 114, 114, 111, 114]⟩⟩
noncomputable def z124 : Str := ⟨⟨[70, 105, 108, 101, 69, 120, 105, 115, 116, 115, 69, 114, 114, 111, 114]⟩⟩
noncomputable def z125 : Str := ⟨⟨[70, 105, 108, 101, 78, 111, 116, 70, 111, 117, 110, 100, 69, 114, 114, 111, 114]⟩⟩
noncomputable def z126 : Str := ⟨⟨[73, 110, 116, 101, 114, 114, 117, 112, 116, 101, 100, 69, 114, 114, 111, 114]⟩⟩
noncomputable def z127 : Str := ⟨⟨[73, 115, 65, 68, 105, 114, 101, 99, 116, 111, 114, 121, 69, 114, 114, 111, 114]⟩⟩
noncomputable def z128 : Str := ⟨⟨[78, 111, 116, 65, 68, 105, 114, 101, 99, 116, 111, 114, 121, 69, 114, 114, 111, 114]⟩⟩
noncomputable def z129 : Str := ⟨⟨[80, 101, 114, 109, 105, 115, 115, 105, 111, 110, 69, 114, 114, 111, 114]⟩⟩
noncomputable def z130 : Str := ⟨⟨[80, 114, 111, 99, 101, 115, 115, 76, 111, 111, 107, 117, 112, 69, 114, 114, 111, 114]⟩⟩
noncomputable def z131 : Str := ⟨⟨[84, 105, 109, 101, 111, 117, 116, 69, 114, 114, 111, 114]⟩⟩
noncomputable def z132 : Str := ⟨⟨[73, 110, 100, 101, 110, 116, 97, 116, 105, 111, 110, 69, 114, 114, 111, 114]⟩⟩
noncomputable def z133 : Str := ⟨⟨[95, 73, 110, 99, 111, 109, 112, 108, 101, 116, 101, 73, 110, 112, 117, 116, 69, 114, 114, 111, 114]⟩⟩
noncomputable def z134 : Str := ⟨⟨[73, 110, 100, 101, 120, 69, 114, 114, 111, 114]⟩⟩
noncomputable def z135 : Str := ⟨⟨[75, 101, 121, 69, 114, 114, 111, 114]⟩⟩
noncomputable def z136 : Str := ⟨⟨[77, 111, 100, 117, 108, 101, 78, 111, 116, 70, 111, 117, 110, 100, 69, 114, 114, 111, 114]⟩⟩
noncomputable def z137 : Str := ⟨⟨[78, 111, 116, 73, 109, 112, 108, 101, 109, 101, 110, 116, 101, 100, 69, 114, 114, 111, 114]⟩⟩
noncomputable def z138 : Str := ⟨⟨[80, 121, 116, 104, 111, 110, 70, 105, 110, 97, 108, 105, 122, 97, 116, 105, 111, 110, 69, 114, 114, 111, 114]⟩⟩
noncomputable def z139 : Str := ⟨⟨[82, 101, 99, 117, 114, 115, 105, 111, 110, 69, 114, 114, 111, 114]⟩⟩
noncomputable def z140 : Str := ⟨⟨[85, 110, 98, 111, 117, 110, 100, 76, 111, 99, 97, 108, 69, 114, 114, 111, 114]⟩⟩
noncomputable def z141 : Str := ⟨⟨[85, 110, 105, 99, 111, 100, 101, 69, 114, 114, 111, 114]⟩⟩
noncomputable def z142 : Str := ⟨⟨[66, 114, 111, 107, 101, 110, 80, 105, 112, 101, 69, 114, 114, 111, 114]⟩⟩
noncomputable def z143 : Str := ⟨⟨[67, 111, 110, 110, 101, 99, 116, 105, 111, 110, 65, 98, 111, 114, 116, 101, 100, 69, 114, 114, 111, 114]⟩⟩
noncomputable def z144 : Str := ⟨⟨[67, 111, 110, 110, 101, 99, 116, 105, 111, 110, 82, 101, 102, 117, 115, 101, 100, 69, 114, 114, 111, 114]⟩⟩
noncomputable def z145 : Str := ⟨⟨[67, 111, 110, 110, 101, 99, 116, 105, 111, 110, 82, 101, 115, 101, 116, 69, 114, 114, 111, 114]⟩⟩
noncomputable def z146 : Str := ⟨⟨[84, 97, 98, 69, 114, 114, 111, 114]⟩⟩
noncomputable def z147 : Str := ⟨⟨[85, 110, 105, 99, 111, 100, 101, 68, 101, 99, 111, 100, 101, 69, 114, 114, 111, 114]⟩⟩
noncomputable def z148 : Str := ⟨⟨[85, 110, 105, 99, 111, 100, 101, 69, 110, 99, 111, 100, 101, 69, 114, 114, 111, 114]⟩⟩
noncomputable def z149 : Str := ⟨⟨[85, 110, 105, 99, 111, 100, 101, 84, 114, 97, 110, 115, 108, 97, 116, 101, 69, 114, 114, 111, 114]⟩⟩
noncomputable def z150 : Str := ⟨⟨[69, 120, 99, 101, 112, 116, 105, 111, 110, 71, 114, 111, 117, 112]⟩⟩
noncomputable def z151 : Str := ⟨⟨[69, 110, 118, 105, 114, 111, 110, 109, 101, 110, 116, 69, 114, 114, 111, 114]⟩⟩
noncomputable def z152 : Str := ⟨⟨[73, 79, 69, 114, 114, 111, 114]⟩⟩
noncomputable def z153 : Str := ⟨⟨[111, 112, 101, 110]⟩⟩
noncomputable def z154 : Str := ⟨⟨[113, 117, 105, 116]⟩⟩
noncomputable def z155 : Str := ⟨⟨[101, 120, 105, 116]⟩⟩
noncomputable def z156 : Str := ⟨⟨[99, 111, 112, 121, 114, 105, 103, 104, 116]⟩⟩
noncomputable def z157 : Str := ⟨⟨[99, 114, 101, 100, 105, 116, 115]⟩⟩
noncomputable def z158 : Str := ⟨⟨[108, 105, 99, 101, 110, 115, 101]⟩⟩
noncomputable def z159 : Str := ⟨⟨[104, 101, 108, 112]⟩⟩
noncomputable def z160 : Str := ⟨⟨[95, 95, 109, 97, 105, 110, 95, 95]⟩⟩
noncomputable def z161 : Str := ⟨⟨[108, 97, 119, 95, 105, 106, 48, 48, 50, 56, 95, 48, 49]⟩⟩
noncomputable def z162 : Str := ⟨⟨[95, 95, 97, 110, 110, 111, 116, 97, 116, 105, 111, 110, 115, 95, 95]⟩⟩
noncomputable def z163 : Str := ⟨⟨[95, 95, 98, 117, 105, 108, 116, 105, 110, 115, 95, 95]⟩⟩
noncomputable def z164 : Str := ⟨⟨[95, 95, 102, 105, 108, 101, 95, 95]⟩⟩
noncomputable def z165 : Str := ⟨⟨[47, 99, 108, 97, 105, 109, 47, 99, 117, 116, 46, 112, 121]⟩⟩
noncomputable def z166 : Str := ⟨⟨[95, 95, 99, 97, 99, 104, 101, 100, 95, 95]⟩⟩
noncomputable def z167 : Str := ⟨⟨[95, 119, 97, 108, 108]⟩⟩
noncomputable def z168 : Str := ⟨⟨[95, 103, 116, 95, 102, 114, 111, 109, 95, 108, 116]⟩⟩
noncomputable def z169 : Str := ⟨⟨[95, 108, 101, 95, 102, 114, 111, 109, 95, 108, 116]⟩⟩
noncomputable def z170 : Str := ⟨⟨[95, 103, 101, 95, 102, 114, 111, 109, 95, 108, 116]⟩⟩
noncomputable def z171 : Str := ⟨⟨[99, 109, 112, 95, 116, 111, 95, 107, 101, 121]⟩⟩
noncomputable def z172 : Str := ⟨⟨[66, 97, 115, 101, 72, 97, 110, 100, 108, 101, 114]⟩⟩
noncomputable def z173 : Str := ⟨⟨[72, 84, 84, 80, 69, 114, 114, 111, 114, 80, 114, 111, 99, 101, 115, 115, 111, 114]⟩⟩
noncomputable def z174 : Str := ⟨⟨[72, 84, 84, 80, 80, 97, 115, 115, 119, 111, 114, 100, 77, 103, 114]⟩⟩
noncomputable def z175 : Str := ⟨⟨[95, 108, 97, 119, 95, 97, 110, 115, 119, 101, 114, 115]⟩⟩
noncomputable def z176 : Str := ⟨⟨[95, 108, 97, 119, 95, 99, 111, 109, 112, 97, 114, 105, 115, 111, 110]⟩⟩
noncomputable def z177 : Str := ⟨⟨[95, 108, 97, 119, 95, 118, 111, 116, 101, 115]⟩⟩
noncomputable def z178 : Str := ⟨⟨[95, 108, 97, 119, 95, 104, 97, 110, 100, 108, 101, 114, 115]⟩⟩
noncomputable def z179 : Str := ⟨⟨[95, 108, 97, 119, 95, 98, 101, 97, 114, 101, 114]⟩⟩
noncomputable def z180 : Str := ⟨⟨[95, 108, 97, 119, 95, 108, 97, 115, 116]⟩⟩
noncomputable def z181 : Str := ⟨⟨[95, 108, 97, 119, 95, 97, 115, 107, 115]⟩⟩
noncomputable def z182 : Str := ⟨⟨[95, 108, 97, 119, 95, 119, 111, 114, 116, 104]⟩⟩
noncomputable def z183 : Str := ⟨⟨[95, 108, 97, 119, 95, 109, 97, 100, 101]⟩⟩
noncomputable def z184 : Str := ⟨⟨[95, 108, 97, 119, 95, 109, 111, 114, 101]⟩⟩
noncomputable def z185 : Str := ⟨⟨[95, 108, 97, 119, 95, 114, 117, 110, 115]⟩⟩
noncomputable def z186 : Str := ⟨⟨[95, 108, 97, 119, 95, 100, 117, 101, 95, 111, 102, 95, 107, 101, 121, 115]⟩⟩
noncomputable def z187 : Str := ⟨⟨[95, 108, 97, 119, 95, 100, 117, 101, 95, 111, 102, 95, 104, 97, 110, 100, 108, 101, 114, 115]⟩⟩
noncomputable def z188 : Str := ⟨⟨[95, 108, 97, 119, 95, 115, 116, 114, 97, 110, 103, 101]⟩⟩
noncomputable def z189 : Str := ⟨⟨[108, 97, 119]⟩⟩
noncomputable def z190 : Str := ⟨⟨[60, 109, 111, 100, 117, 108, 101, 62]⟩⟩
noncomputable def z191 : Str := ⟨⟨[107]⟩⟩
noncomputable def z192 : Str := ⟨⟨[115, 101, 108, 102]⟩⟩
noncomputable def z193 : Str := ⟨⟨[111, 116, 104, 101, 114]⟩⟩
noncomputable def z194 : Str := ⟨⟨[111, 112, 95, 114, 101, 115, 117, 108, 116]⟩⟩
noncomputable def z195 : Str := ⟨⟨[99, 112, 121, 51, 49, 51, 46, 102, 117, 110, 99, 116, 111, 111, 108, 115]⟩⟩
noncomputable def z196 : Str := ⟨⟨[109, 121, 99, 109, 112]⟩⟩
noncomputable def z197 : Str := ⟨⟨[75]⟩⟩
noncomputable def z198 : Str := ⟨⟨[95, 95, 109, 111, 100, 117, 108, 101, 95, 95]⟩⟩
noncomputable def z199 : Str := ⟨⟨[99, 112, 121, 51, 49, 51, 46, 117, 114, 108, 108, 105, 98, 46, 114, 101, 113, 117, 101, 115, 116]⟩⟩
noncomputable def z200 : Str := ⟨⟨[95, 95, 113, 117, 97, 108, 110, 97, 109, 101, 95, 95]⟩⟩
noncomputable def z201 : Str := ⟨⟨[95, 95, 102, 105, 114, 115, 116, 108, 105, 110, 101, 110, 111, 95, 95]⟩⟩
noncomputable def z202 : Str := ⟨⟨[104, 97, 110, 100, 108, 101, 114, 95, 111, 114, 100, 101, 114]⟩⟩
noncomputable def z203 : Str := ⟨⟨[97, 100, 100, 95, 112, 97, 114, 101, 110, 116]⟩⟩
noncomputable def z204 : Str := ⟨⟨[99, 108, 111, 115, 101]⟩⟩
noncomputable def z205 : Str := ⟨⟨[95, 95, 108, 116, 95, 95]⟩⟩
noncomputable def z206 : Str := ⟨⟨[95, 95, 115, 116, 97, 116, 105, 99, 95, 97, 116, 116, 114, 105, 98, 117, 116, 101, 115, 95, 95]⟩⟩
noncomputable def z207 : Str := ⟨⟨[112, 97, 114, 101, 110, 116]⟩⟩
noncomputable def z208 : Str := ⟨⟨[66, 97, 115, 101, 72, 97, 110, 100, 108, 101, 114, 46, 97, 100, 100, 95, 112, 97, 114, 101, 110, 116]⟩⟩
noncomputable def z209 : Str := ⟨⟨[66, 97, 115, 101, 72, 97, 110, 100, 108, 101, 114, 46, 99, 108, 111, 115, 101]⟩⟩
noncomputable def z210 : Str := ⟨⟨[66, 97, 115, 101, 72, 97, 110, 100, 108, 101, 114, 46, 95, 95, 108, 116, 95, 95]⟩⟩
noncomputable def z211 : Str := ⟨⟨[95, 95, 100, 105, 99, 116, 95, 95]⟩⟩
noncomputable def z212 : Str := ⟨⟨[95, 95, 119, 101, 97, 107, 114, 101, 102, 95, 95]⟩⟩
noncomputable def z213 : Str := ⟨⟨[104, 116, 116, 112, 95, 114, 101, 115, 112, 111, 110, 115, 101]⟩⟩
noncomputable def z214 : Str := ⟨⟨[104, 116, 116, 112, 115, 95, 114, 101, 115, 112, 111, 110, 115, 101]⟩⟩
noncomputable def z215 : Str := ⟨⟨[114, 101, 113, 117, 101, 115, 116]⟩⟩
noncomputable def z216 : Str := ⟨⟨[114, 101, 115, 112, 111, 110, 115, 101]⟩⟩
noncomputable def z217 : Str := ⟨⟨[99, 111, 100, 101]⟩⟩
noncomputable def z218 : Str := ⟨⟨[109, 115, 103]⟩⟩
noncomputable def z219 : Str := ⟨⟨[104, 100, 114, 115]⟩⟩
noncomputable def z220 : Str := ⟨⟨[72, 84, 84, 80, 69, 114, 114, 111, 114, 80, 114, 111, 99, 101, 115, 115, 111, 114, 46, 104, 116, 116, 112, 95, 114, 101, 115, 112, 111, 110, 115, 101]⟩⟩
noncomputable def z221 : Str := ⟨⟨[95, 95, 105, 110, 105, 116, 95, 95]⟩⟩
noncomputable def z222 : Str := ⟨⟨[97, 100, 100, 95, 112, 97, 115, 115, 119, 111, 114, 100]⟩⟩
noncomputable def z223 : Str := ⟨⟨[102, 105, 110, 100, 95, 117, 115, 101, 114, 95, 112, 97, 115, 115, 119, 111, 114, 100]⟩⟩
noncomputable def z224 : Str := ⟨⟨[114, 101, 100, 117, 99, 101, 95, 117, 114, 105]⟩⟩
noncomputable def z225 : Str := ⟨⟨[105, 115, 95, 115, 117, 98, 117, 114, 105]⟩⟩
noncomputable def z226 : Str := ⟨⟨[72, 84, 84, 80, 80, 97, 115, 115, 119, 111, 114, 100, 77, 103, 114, 46, 95, 95, 105, 110, 105, 116, 95, 95]⟩⟩
noncomputable def z227 : Str := ⟨⟨[114, 101, 97, 108, 109]⟩⟩
noncomputable def z228 : Str := ⟨⟨[117, 114, 105]⟩⟩
noncomputable def z229 : Str := ⟨⟨[117, 115, 101, 114]⟩⟩
noncomputable def z230 : Str := ⟨⟨[112, 97, 115, 115, 119, 100]⟩⟩
noncomputable def z231 : Str := ⟨⟨[72, 84, 84, 80, 80, 97, 115, 115, 119, 111, 114, 100, 77, 103, 114, 46, 97, 100, 100, 95, 112, 97, 115, 115, 119, 111, 114, 100]⟩⟩
noncomputable def z232 : Str := ⟨⟨[97, 117, 116, 104, 117, 114, 105]⟩⟩
noncomputable def z233 : Str := ⟨⟨[72, 84, 84, 80, 80, 97, 115, 115, 119, 111, 114, 100, 77, 103, 114, 46, 102, 105, 110, 100, 95, 117, 115, 101, 114, 95, 112, 97, 115, 115, 119, 111, 114, 100]⟩⟩
noncomputable def z234 : Str := ⟨⟨[100, 101, 102, 97, 117, 108, 116, 95, 112, 111, 114, 116]⟩⟩
noncomputable def z235 : Str := ⟨⟨[72, 84, 84, 80, 80, 97, 115, 115, 119, 111, 114, 100, 77, 103, 114, 46, 114, 101, 100, 117, 99, 101, 95, 117, 114, 105]⟩⟩
noncomputable def z236 : Str := ⟨⟨[98, 97, 115, 101]⟩⟩
noncomputable def z237 : Str := ⟨⟨[116, 101, 115, 116]⟩⟩
noncomputable def z238 : Str := ⟨⟨[72, 84, 84, 80, 80, 97, 115, 115, 119, 111, 114, 100, 77, 103, 114, 46, 105, 115, 95, 115, 117, 98, 117, 114, 105]⟩⟩
noncomputable def z239 : Str := ⟨⟨[97, 110, 115, 119, 101, 114, 115]⟩⟩
noncomputable def z240 : Str := ⟨⟨[97, 115, 107, 101, 100]⟩⟩
noncomputable def z241 : Str := ⟨⟨[116, 104, 105, 110, 103, 115]⟩⟩
noncomputable def z242 : Str := ⟨⟨[116, 111, 108, 100]⟩⟩
noncomputable def z243 : Str := ⟨⟨[111, 110, 101]⟩⟩
noncomputable def z244 : Str := ⟨⟨[107, 101, 121, 115]⟩⟩
noncomputable def z245 : Str := ⟨⟨[109, 97, 100, 101]⟩⟩
noncomputable def z246 : Str := ⟨⟨[107, 101, 121]⟩⟩
noncomputable def z247 : Str := ⟨⟨[98, 101, 97, 114, 101, 114]⟩⟩
noncomputable def z248 : Str := ⟨⟨[102, 105, 114, 115, 116]⟩⟩
noncomputable def z249 : Str := ⟨⟨[114, 111, 117, 110, 100, 115]⟩⟩
noncomputable def z250 : Str := ⟨⟨[104, 97, 110, 100, 108, 101, 114, 115]⟩⟩
noncomputable def z251 : Str := ⟨⟨[116, 117, 114, 110]⟩⟩
noncomputable def z252 : Str := ⟨⟨[109, 97, 107, 101, 114]⟩⟩
noncomputable def z253 : Str := ⟨⟨[105]⟩⟩
noncomputable def z254 : Str := ⟨⟨[106]⟩⟩
noncomputable def z255 : Str := ⟨⟨[100, 101, 101, 100, 115]⟩⟩
noncomputable def z256 : Str := ⟨⟨[115, 101, 101, 110]⟩⟩
noncomputable def z257 : Str := ⟨⟨[100, 101, 101, 100]⟩⟩
noncomputable def z258 : Str := ⟨⟨[108, 101, 115, 115]⟩⟩
noncomputable def z259 : Str := ⟨⟨[115, 97, 109, 101]⟩⟩
noncomputable def z260 : Str := ⟨⟨[97, 115, 107, 115]⟩⟩
noncomputable def z261 : Str := ⟨⟨[115, 99, 114, 105, 112, 116]⟩⟩
noncomputable def z262 : Str := ⟨⟨[119, 111, 114, 116, 104]⟩⟩
noncomputable def ob0 (P : Params) : Obj := ⟨(.type PySem.W.SZ.s14018661285674007319x4), none, (.dict #[dE P z0 1 (.str z1 160), dE P z2 2 (.builtin "builtins.__doc__:str#opaque"), dE P z3 3 (.builtin "builtins.__package__:str#opaque"), dE P z4 4 (.builtin "builtins.__loader__:shared#opaque"), dE P z5 5 (.builtin PySem.W.SZ.s11665532747177232413x24), dE P z6 6 (.builtin PySem.W.SZ.s15183661809925369436x15), dE P z7 7 (.builtin PySem.W.SZ.s13915890719876406383x10), dE P z8 8 (.builtin PySem.W.SZ.s13459172003223722735x3), dE P z9 9 (.builtin PySem.W.SZ.s10557405761357834076x3), dE P z10 10 (.builtin PySem.W.SZ.s4233737765568776869x3), dE P z11 11 (.builtin PySem.W.SZ.s2508922471967985374x5), dE P z12 12 (.builtin PySem.W.SZ.s15574269061696679450x3), dE P z13 13 (.builtin PySem.W.SZ.s6016482663378992977x10), dE P z14 14 (.builtin PySem.W.SZ.s5596568736180474577x8), dE P z15 15 (.builtin PySem.W.SZ.s2839554839881490554x3), dE P z16 16 (.builtin PySem.W.SZ.s725004073602090463x7), dE P z17 17 (.builtin PySem.W.SZ.s9436932552931045734x7), dE P z18 18 (.builtin PySem.W.SZ.s2754603736356183583x3), dE P z19 19 (.builtin PySem.W.SZ.s15185746759980889043x6), dE P z20 20 (.builtin PySem.W.SZ.s8192189862530294059x4), dE P z21 21 (.builtin PySem.W.SZ.s7038307821325472102x4), dE P z22 22 (.builtin PySem.W.SZ.s5662562618415449548x6), dE P z23 23 (.builtin PySem.W.SZ.s15281542589158584767x7), dE P z24 24 (.builtin PySem.W.SZ.s17651547275483570877x7), dE P z25 25 (.builtin PySem.W.SZ.s4036449017235975746x7), dE P z26 26 (.builtin PySem.W.SZ.s8879979712987360175x4), dE P z27 27 (.builtin PySem.W.SZ.s1801250619170735830x3), dE P z28 28 (.builtin PySem.W.SZ.s17659931425627118568x2), dE P z29 29 (.builtin PySem.W.SZ.s6063217899685152688x5), dE P z30 30 (.builtin PySem.W.SZ.s8008927332132565319x10), dE P z31 31 (.builtin PySem.W.SZ.s3544116645089599534x10), dE P z32 32 (.builtin PySem.W.SZ.s13761710972054866084x4), dE P z33 33 (.builtin PySem.W.SZ.s12896375587409280029x5), dE P z34 34 (.builtin PySem.W.SZ.s13014049009108672802x3), dE P z35 35 (.builtin PySem.W.SZ.s13935586738268321596x6), dE P z36 36 (.builtin PySem.W.SZ.s8200498257699607233x3), dE P z37 37 (.builtin PySem.W.SZ.s14114244577727609259x3), dE P z38 38 (.builtin PySem.W.SZ.s1499430450269397089x4), dE P z39 39 (.builtin PySem.W.SZ.s8755793994789770505x5), dE P z40 40 (.builtin PySem.W.SZ.s15725212667919936108x3), dE P z41 41 (.builtin PySem.W.SZ.s15791221867095933363x3), dE P z42 42 (.builtin PySem.W.SZ.s81309575031448614x3), dE P z43 43 (.builtin PySem.W.SZ.s8069831620301644142x5), dE P z44 44 (.builtin PySem.W.SZ.s10061844253413749634x4), dE P z45 45 (.builtin PySem.W.SZ.s9496514870978017513x5), dE P z46 46 (.builtin PySem.W.SZ.s8899691144933366716x7), dE P z47 47 (.builtin PySem.W.SZ.s15201008993051130160x6), dE P z48 48 (.builtin PySem.W.SZ.s741896355592496720x3), dE P z49 49 (.builtin PySem.W.SZ.s17925004256654032244x4), dE P z50 50 .none, dE P z51 51 .ellipsis, dE P z52 52 .notImplemented, dE P z53 53 (.bool false), dE P z54 54 (.bool true), dE P z55 55 (.type PySem.W.SZ.s11695548795398191787x4), dE P z56 56 (.type PySem.W.SZ.s4156966113859768872x10), dE P z57 57 (.type PySem.W.SZ.s9501651726347032510x9), dE P z58 58 (.type PySem.W.SZ.s15722918466584999320x5), dE P z59 59 (.type PySem.W.SZ.s591115383303110208x11), dE P z60 60 (.type PySem.W.SZ.s15721156781594690315x7), dE P z61 61 (.type PySem.W.SZ.s14018661285674007319x4), dE P z62 62 (.type PySem.W.SZ.s14340494229221121180x9), dE P z63 63 (.type PySem.W.SZ.s13429844117177748173x6), dE P z64 64 (.type PySem.W.SZ.s16463266125957815391x5), dE P z65 65 (.type PySem.W.SZ.s4922535414793169389x9), dE P z66 66 (.type PySem.W.SZ.s8101838861749082086x8), dE P z67 67 (.type PySem.W.SZ.s7066276694103001551x3), dE P z68 68 (.type PySem.W.SZ.s9222952809800978799x4), dE P z69 69 (.type PySem.W.SZ.s462964344163437139x3), dE P z70 70 (.type PySem.W.SZ.s2742458400755230247x6), dE P z71 71 (.type PySem.W.SZ.s1438033511350832697x5), dE P z72 72 (.type PySem.W.SZ.s14365286008749172514x8), dE P z73 73 (.type PySem.W.SZ.s3642769012341782148x3), dE P z74 74 (.type PySem.W.SZ.s4674234679698826739x5), dE P z75 75 (.type PySem.W.SZ.s16656946322747308186x12), dE P z76 76 (.type PySem.W.SZ.s10796804682411823810x3), dE P z77 77 (.type PySem.W.SZ.s4290257624100764138x5), dE P z78 78 (.type PySem.W.SZ.s2766695959194262286x5), dE P z79 79 (.type PySem.W.SZ.s17162191345867700912x4), dE P z80 80 (.type PySem.W.SZ.s14339709457334898076x3), dE P z81 81 (.bool true), dE P z82 82 (.type PySem.W.SZ.s4278001404047624695x13), dE P z83 83 (.type PySem.W.SZ.s6585700554429387442x18), dE P z84 84 (.type PySem.W.SZ.s5946037652744460706x9), dE P z85 85 (.type PySem.W.SZ.s7410770068591931388x13), dE P z86 86 (.type PySem.W.SZ.s11817881795495490833x17), dE P z87 87 (.type PySem.W.SZ.s15679963881808890155x10), dE P z88 88 (.type PySem.W.SZ.s3871700062485845797x15), dE P z89 89 (.type PySem.W.SZ.s7689518266570723881x14), dE P z90 90 (.type PySem.W.SZ.s9001593270443806431x14), dE P z91 91 (.type PySem.W.SZ.s6882542574934516792x11), dE P z92 92 (.type PySem.W.SZ.s14403400214490484960x8), dE P z93 93 (.type PySem.W.SZ.s14457978657717015782x11), dE P z94 94 (.type PySem.W.SZ.s1753610191782819921x11), dE P z95 95 (.type PySem.W.SZ.s14119380538032626715x11), dE P z96 96 (.type PySem.W.SZ.s11437920000406562045x9), dE P z97 97 (.type PySem.W.SZ.s10852414792293593619x7), dE P z98 98 (.type PySem.W.SZ.s14816307405966870543x14), dE P z99 99 (.type PySem.W.SZ.s8682627914449686677x12), dE P z100 100 (.type PySem.W.SZ.s4428170145600203450x18), dE P z101 101 (.type PySem.W.SZ.s5991306692159431302x13), dE P z102 102 (.type PySem.W.SZ.s16067994140765818257x11), dE P z103 103 (.type PySem.W.SZ.s2327743974964600596x11), dE P z104 104 (.type PySem.W.SZ.s2804747833354056582x9), dE P z105 105 (.type PySem.W.SZ.s6070975301684473832x10), dE P z106 106 (.type PySem.W.SZ.s14270485950484850486x7), dE P z107 107 (.type PySem.W.SZ.s12041534306414923332x18), dE P z108 108 (.type PySem.W.SZ.s2531307568338490285x13), dE P z109 109 (.type PySem.W.SZ.s631175304937289666x17), dE P z110 110 (.type PySem.W.SZ.s5144983644357021410x12), dE P z111 111 (.type PySem.W.SZ.s18039099521571816885x18), dE P z112 112 (.type PySem.W.SZ.s6011586214260557989x15), dE P z113 113 (.type PySem.W.SZ.s5430567037509283100x13), dE P z114 114 (.type PySem.W.SZ.s8117915138073963741x13), dE P z115 115 (.type PySem.W.SZ.s3423317712779056401x25), dE P z116 116 (.type PySem.W.SZ.s2007317383269046180x15), dE P z117 117 (.type PySem.W.SZ.s17481586968713580700x14), dE P z118 118 (.type PySem.W.SZ.s2450899226349176912x13), dE P z119 119 (.type PySem.W.SZ.s16626165730633575011x14), dE P z120 120 (.type PySem.W.SZ.s14288496050688921416x11), dE P z121 121 (.type PySem.W.SZ.s5735081916595925998x15), dE P z122 122 (.type PySem.W.SZ.s3865607918536308442x17), dE P z123 123 (.type PySem.W.SZ.s13337502604062700212x15), dE P z124 124 (.type PySem.W.SZ.s13114017843053701147x15), dE P z125 125 (.type PySem.W.SZ.s17467278006356818441x17), dE P z126 126 (.type PySem.W.SZ.s17722149559621369488x16), dE P z127 127 (.type PySem.W.SZ.s7855274175708717672x17), dE P z128 128 (.type PySem.W.SZ.s13351283678309829046x18), dE P z129 129 (.type PySem.W.SZ.s6668348653404991179x15), dE P z130 130 (.type PySem.W.SZ.s12913350958174193794x18), dE P z131 131 (.type PySem.W.SZ.s16115879512475548326x12), dE P z132 132 (.type PySem.W.SZ.s15920661018069861047x16), dE P z133 133 (.type PySem.W.SZ.s10779130036587390575x21), dE P z134 134 (.type PySem.W.SZ.s7801419657504700863x10), dE P z135 135 (.type PySem.W.SZ.s1688129525768580628x8), dE P z136 136 (.type PySem.W.SZ.s1031832959479892071x19), dE P z137 137 (.type PySem.W.SZ.s8991790508128307865x19), dE P z138 138 (.type PySem.W.SZ.s14539662485746970245x23), dE P z139 139 (.type PySem.W.SZ.s11643622729373238714x14), dE P z140 140 (.type PySem.W.SZ.s3386828779285465597x17), dE P z141 141 (.type PySem.W.SZ.s13042696260734638735x12), dE P z142 142 (.type PySem.W.SZ.s18239426817015966623x15), dE P z143 143 (.type PySem.W.SZ.s1270395311379034370x22), dE P z144 144 (.type PySem.W.SZ.s10696252587037064777x22), dE P z145 145 (.type PySem.W.SZ.s7852717498200857586x20), dE P z146 146 (.type PySem.W.SZ.s6377248116197321094x8), dE P z147 147 (.type PySem.W.SZ.s3834378056692298002x18), dE P z148 148 (.type PySem.W.SZ.s17586630440231065808x18), dE P z149 149 (.type PySem.W.SZ.s15234114252648025395x21), dE P z150 150 (.type PySem.W.SZ.s8496462677383758984x14), dE P z151 151 (.type PySem.W.SZ.s10852414792293593619x7), dE P z152 152 (.type PySem.W.SZ.s10852414792293593619x7), dE P z153 153 (.builtin PySem.W.SZ.s16789243406116112673x4), dE P z154 154 (.builtin PySem.W.SZ.s14400166428656793546x20), dE P z155 155 (.builtin PySem.W.SZ.s5857708277339239366x20), dE P z156 156 (.builtin "builtins.copyright#opaque"), dE P z157 157 (.builtin "builtins.credits#opaque"), dE P z158 158 (.builtin "builtins.license#opaque"), dE P z159 159 (.builtin PySem.W.SZ.s7804999707787243718x20)] 159), #[]⟩
noncomputable def ob1 (P : Params) : Obj := ⟨(.type PySem.W.SZ.s14018661285674007319x4), none, (.dict #[dE P z1 162 (.ref 4), dE P z160 163 (.ref 5)] 2), #[]⟩
noncomputable def ob2 (P : Params) : Obj := ⟨.none, none, (.dict #[] 0), #[]⟩
noncomputable def ob3 (P : Params) : Obj := ⟨(.type PySem.W.SZ.s14018661285674007319x4), none, (.dict #[dE P z0 165 (.str z161 376), dE P z2 166 .none, dE P z3 167 .none, dE P z4 168 (.builtin PySem.W.SZ.s7097527257260152453x26), dE P z5 169 .none, dE P z162 170 (.ref 6), dE P z163 171 (.ref 4), dE P z164 173 (.str z165 172), dE P z166 174 .none, dE P z167 193 (.ref 21), dE P z168 204 (.ref 28), dE P z169 213 (.ref 35), dE P z170 222 (.ref 42), dE P z171 231 (.ref 49), dE P z172 278 (.ref 80), dE P z173 309 (.ref 101), dE P z174 375 (.ref 149), dE P z175 383 (.ref 158), dE P z176 396 (.ref 165), dE P z177 404 (.ref 172), dE P z178 412 (.ref 179), dE P z179 420 (.ref 186), dE P z180 432 (.ref 193), dE P z181 438 (.ref 198), dE P z182 448 (.ref 205), dE P z183 454 (.ref 212), dE P z184 460 (.ref 219), dE P z185 473 (.ref 226), dE P z186 479 (.ref 231), dE P z187 488 (.ref 238), dE P z188 494 (.ref 243), dE P z189 512 (.ref 250)] 32), #[]⟩
noncomputable def ob4 (P : Params) : Obj := ⟨(.type PySem.W.SZ.s6658869562736209489x6), (some 0), .plain, #[]⟩
noncomputable def ob5 (P : Params) : Obj := ⟨(.type PySem.W.SZ.s6658869562736209489x6), (some 3), .plain, #[]⟩
noncomputable def ob6 (P : Params) : Obj := ⟨(.type PySem.W.SZ.s14018661285674007319x4), none, (.dict #[] 0), #[]⟩
noncomputable def ob7 (P : Params) : Obj := ⟨(.type PySem.W.SZ.s2766695959194262286x5), none, (.seq #[] 0), #[]⟩
noncomputable def ob8 (P : Params) : Obj := ⟨.none, none, (.fields #[]), #[]⟩
noncomputable def ob9 (P : Params) : Obj := ⟨(.type PySem.W.SZ.s5856160107412720595x4), none, (.fields #[(.str z190 176), (.str z190 177), (.str z165 178), (.int (1) 0), (.int (0) 0), (.int (0) 0), (.int (0) 0), (.int (0) 0), (.ref 7), (.bool false), (.int (175) 0), (.ref 8), .none, .none, .none, .none, (.int (179) 0), (.int (1) 0), (.str z165 180)]), #[]⟩
noncomputable def ob10 (P : Params) : Obj := ⟨(.type PySem.W.SZ.s658472552662922059x5), none, .plain, #[some (.ref 9), some (.ref 3), some (.ref 3), none, some (.str z160 164), none, some (.ref 0)]⟩
noncomputable def ob11 (P : Params) : Obj := ⟨(.type PySem.W.SZ.s2766695959194262286x5), none, (.seq #[] 0), #[]⟩
noncomputable def ob12 (P : Params) : Obj := ⟨.none, none, (.fields #[(.int (1) 0), (.int (0) 0), (.ref 20), (.int (5) 0), (.int (0) 0), (.ref 27), (.int (10) 0), (.int (0) 0), (.ref 34), (.int (15) 0), (.int (0) 0), (.ref 41), (.int (20) 0), (.int (0) 0), (.ref 48), (.int (46) 0), (.int (0) 0), (.ref 55), (.int (59) 0), (.int (0) 0), (.ref 90), (.int (68) 0), (.int (0) 0), (.ref 109), (.int (85) 0), (.int (0) 0), (.ref 157), (.int (89) 0), (.int (0) 0), (.ref 164), (.int (97) 0), (.int (0) 0), (.ref 171), (.int (99) 0), (.int (0) 0), (.ref 178), (.int (104) 0), (.int (0) 0), (.ref 185), (.int (108) 0), (.int (0) 0), (.ref 192), (.int (116) 0), (.int (0) 0), (.ref 197), (.int (122) 0), (.int (0) 0), (.ref 204), (.int (126) 0), (.int (0) 0), (.ref 211), (.int (128) 0), (.int (0) 0), (.ref 218), (.int (135) 0), (.int (0) 0), (.ref 225), (.int (142) 0), (.int (0) 0), (.ref 230), (.int (148) 0), (.int (0) 0), (.ref 237), (.int (150) 0), (.int (0) 0), (.ref 242), (.int (157) 0), (.int (0) 0), (.ref 249)]), #[]⟩
noncomputable def ob13 (P : Params) : Obj := ⟨(.type PySem.W.SZ.s5856160107412720595x4), none, (.fields #[(.str z190 182), (.str z190 183), (.str z165 184), (.int (1) 0), (.int (0) 0), (.int (0) 0), (.int (0) 0), (.int (0) 0), (.ref 11), (.bool false), (.int (181) 0), (.ref 12), .none, .none, .none, .none, (.int (185) 0), (.int (1) 0), (.str z165 186)]), #[]⟩
noncomputable def ob14 (P : Params) : Obj := ⟨(.type PySem.W.SZ.s658472552662922059x5), none, .plain, #[some (.ref 13), some (.ref 3), some (.ref 3), none, some (.str z160 164), none, some (.ref 0)]⟩
noncomputable def ob15 (P : Params) : Obj := ⟨(.type PySem.W.SZ.s2766695959194262286x5), none, (.seq #[] 0), #[]⟩
noncomputable def ob16 (P : Params) : Obj := ⟨.none, none, (.fields #[]), #[]⟩
noncomputable def ob17 (P : Params) : Obj := ⟨(.type PySem.W.SZ.s2766695959194262286x5), none, (.seq #[(.str z191 190)] 0), #[]⟩
noncomputable def ob18 (P : Params) : Obj := ⟨(.type PySem.W.SZ.s2766695959194262286x5), none, (.seq #[] 0), #[]⟩
noncomputable def ob19 (P : Params) : Obj := ⟨.none, none, (.func { (fnX z167 z167 (gF 0).params (gF 0).body (gF 0).scope [] .none .none .none .none none .none .none) with globals := 0, builtins := 0 }), #[]⟩
noncomputable def ob20 (P : Params) : Obj := ⟨(.type PySem.W.SZ.s5856160107412720595x4), none, (.fields #[(.str z167 187), (.str z167 188), (.str z165 189), (.int (1) 0), (.int (1) 0), (.int (0) 0), (.int (0) 0), (.int (3) 0), (.ref 15), (.bool true), (.int (181) 0), (.ref 16), .none, (.ref 17), (.ref 18), (.ref 19), (.int (191) 0), (.int (1) 0), (.str z165 192)]), #[]⟩
noncomputable def ob21 (P : Params) : Obj := ⟨(.type PySem.W.SZ.s7174869446012820540x8), none, (.func (fnX z167 z167 (gF 0).params (gF 0).body (gF 0).scope [] .none .none .none (.str z160 164) none (.ref 20) .none)), #[]⟩
noncomputable def ob22 (P : Params) : Obj := ⟨(.type PySem.W.SZ.s2766695959194262286x5), none, (.seq #[] 0), #[]⟩
noncomputable def ob23 (P : Params) : Obj := ⟨.none, none, (.fields #[]), #[]⟩
noncomputable def ob24 (P : Params) : Obj := ⟨(.type PySem.W.SZ.s2766695959194262286x5), none, (.seq #[(.str z192 199), (.str z193 200), (.str z194 201)] 0), #[]⟩
noncomputable def ob25 (P : Params) : Obj := ⟨(.type PySem.W.SZ.s2766695959194262286x5), none, (.seq #[] 0), #[]⟩
noncomputable def ob26 (P : Params) : Obj := ⟨.none, none, (.func { (fnX z168 z168 (gF 2).params (gF 2).body (gF 2).scope [] .none .none .none .none none .none .none) with globals := 0, builtins := 0 }), #[]⟩
noncomputable def ob27 (P : Params) : Obj := ⟨(.type PySem.W.SZ.s5856160107412720595x4), none, (.fields #[(.str z168 196), (.str z168 197), (.str z165 198), (.int (5) 0), (.int (2) 0), (.int (0) 0), (.int (0) 0), (.int (3) 0), (.ref 22), (.bool true), (.int (181) 0), (.ref 23), .none, (.ref 24), (.ref 25), (.ref 26), (.int (202) 0), (.int (5) 0), (.str z165 203)]), #[]⟩
noncomputable def ob28 (P : Params) : Obj := ⟨(.type PySem.W.SZ.s7174869446012820540x8), none, (.func (fnX z168 z168 (gF 2).params (gF 2).body (gF 2).scope [] .none .none .none (.str z195 194) none (.ref 27) .none)), #[]⟩
noncomputable def ob29 (P : Params) : Obj := ⟨(.type PySem.W.SZ.s2766695959194262286x5), none, (.seq #[] 0), #[]⟩
noncomputable def ob30 (P : Params) : Obj := ⟨.none, none, (.fields #[]), #[]⟩
noncomputable def ob31 (P : Params) : Obj := ⟨(.type PySem.W.SZ.s2766695959194262286x5), none, (.seq #[(.str z192 208), (.str z193 209), (.str z194 210)] 0), #[]⟩
noncomputable def ob32 (P : Params) : Obj := ⟨(.type PySem.W.SZ.s2766695959194262286x5), none, (.seq #[] 0), #[]⟩
noncomputable def ob33 (P : Params) : Obj := ⟨.none, none, (.func { (fnX z169 z169 (gF 3).params (gF 3).body (gF 3).scope [] .none .none .none .none none .none .none) with globals := 0, builtins := 0 }), #[]⟩
noncomputable def ob34 (P : Params) : Obj := ⟨(.type PySem.W.SZ.s5856160107412720595x4), none, (.fields #[(.str z169 205), (.str z169 206), (.str z165 207), (.int (10) 0), (.int (2) 0), (.int (0) 0), (.int (0) 0), (.int (3) 0), (.ref 29), (.bool true), (.int (181) 0), (.ref 30), .none, (.ref 31), (.ref 32), (.ref 33), (.int (211) 0), (.int (10) 0), (.str z165 212)]), #[]⟩
noncomputable def ob35 (P : Params) : Obj := ⟨(.type PySem.W.SZ.s7174869446012820540x8), none, (.func (fnX z169 z169 (gF 3).params (gF 3).body (gF 3).scope [] .none .none .none (.str z195 194) none (.ref 34) .none)), #[]⟩
noncomputable def ob36 (P : Params) : Obj := ⟨(.type PySem.W.SZ.s2766695959194262286x5), none, (.seq #[] 0), #[]⟩
noncomputable def ob37 (P : Params) : Obj := ⟨.none, none, (.fields #[]), #[]⟩
noncomputable def ob38 (P : Params) : Obj := ⟨(.type PySem.W.SZ.s2766695959194262286x5), none, (.seq #[(.str z192 217), (.str z193 218), (.str z194 219)] 0), #[]⟩
noncomputable def ob39 (P : Params) : Obj := ⟨(.type PySem.W.SZ.s2766695959194262286x5), none, (.seq #[] 0), #[]⟩
noncomputable def ob40 (P : Params) : Obj := ⟨.none, none, (.func { (fnX z170 z170 (gF 4).params (gF 4).body (gF 4).scope [] .none .none .none .none none .none .none) with globals := 0, builtins := 0 }), #[]⟩
noncomputable def ob41 (P : Params) : Obj := ⟨(.type PySem.W.SZ.s5856160107412720595x4), none, (.fields #[(.str z170 214), (.str z170 215), (.str z165 216), (.int (15) 0), (.int (2) 0), (.int (0) 0), (.int (0) 0), (.int (3) 0), (.ref 36), (.bool true), (.int (181) 0), (.ref 37), .none, (.ref 38), (.ref 39), (.ref 40), (.int (220) 0), (.int (15) 0), (.str z165 221)]), #[]⟩
noncomputable def ob42 (P : Params) : Obj := ⟨(.type PySem.W.SZ.s7174869446012820540x8), none, (.func (fnX z170 z170 (gF 4).params (gF 4).body (gF 4).scope [] .none .none .none (.str z195 194) none (.ref 41) .none)), #[]⟩
noncomputable def ob43 (P : Params) : Obj := ⟨(.type PySem.W.SZ.s2766695959194262286x5), none, (.seq #[] 0), #[]⟩
noncomputable def ob44 (P : Params) : Obj := ⟨.none, none, (.fields #[]), #[]⟩
noncomputable def ob45 (P : Params) : Obj := ⟨(.type PySem.W.SZ.s2766695959194262286x5), none, (.seq #[(.str z196 226), (.str z197 227)] 0), #[]⟩
noncomputable def ob46 (P : Params) : Obj := ⟨(.type PySem.W.SZ.s2766695959194262286x5), none, (.seq #[(.str z196 228)] 0), #[]⟩
noncomputable def ob47 (P : Params) : Obj := ⟨.none, none, (.func { (fnX z171 z171 (gF 5).params (gF 5).body (gF 5).scope [] .none .none .none .none none .none .none) with globals := 0, builtins := 0 }), #[]⟩
noncomputable def ob48 (P : Params) : Obj := ⟨(.type PySem.W.SZ.s5856160107412720595x4), none, (.fields #[(.str z171 223), (.str z171 224), (.str z165 225), (.int (20) 0), (.int (1) 0), (.int (0) 0), (.int (0) 0), (.int (3) 0), (.ref 43), (.bool true), (.int (181) 0), (.ref 44), .none, (.ref 45), (.ref 46), (.ref 47), (.int (229) 0), (.int (20) 0), (.str z165 230)]), #[]⟩
noncomputable def ob49 (P : Params) : Obj := ⟨(.type PySem.W.SZ.s7174869446012820540x8), none, (.func (fnX z171 z171 (gF 5).params (gF 5).body (gF 5).scope [] .none .none .none (.str z195 194) none (.ref 48) .none)), #[]⟩
noncomputable def ob50 (P : Params) : Obj := ⟨(.type PySem.W.SZ.s2766695959194262286x5), none, (.seq #[] 0), #[]⟩
noncomputable def ob51 (P : Params) : Obj := ⟨(.type PySem.W.SZ.s11030030927630378310x26), none, (.fields #[(.builtin PySem.W.SZ.s10062305145149207511x16), (.type PySem.W.SZ.s17162191345867700912x4)]), #[]⟩
noncomputable def ob52 (P : Params) : Obj := ⟨(.type PySem.W.SZ.s14018661285674007319x4), none, (.dict #[dE P z198 241 (.str z199 232), dE P z200 243 (.str z172 242), dE P z201 245 (.int (46) 244), dE P z202 247 (.int (500) 246), dE P z203 255 (.ref 63), dE P z204 262 (.ref 70), dE P z205 270 (.ref 77), dE P z206 271 (.ref 78)] 8), #[]⟩
noncomputable def ob53 (P : Params) : Obj := ⟨(.type PySem.W.SZ.s2766695959194262286x5), none, (.seq #[] 0), #[]⟩
noncomputable def ob54 (P : Params) : Obj := ⟨.none, none, (.fields #[(.int (49) 0), (.int (4) 0), (.ref 62), (.int (52) 0), (.int (4) 0), (.ref 69), (.int (55) 0), (.int (4) 0), (.ref 76)]), #[]⟩
noncomputable def ob55 (P : Params) : Obj := ⟨(.type PySem.W.SZ.s5856160107412720595x4), none, (.fields #[(.str z172 236), (.str z172 237), (.str z165 238), (.int (46) 0), (.int (0) 0), (.int (0) 0), (.int (0) 0), (.int (0) 0), (.ref 53), (.bool false), (.int (181) 0), (.ref 54), .none, .none, .none, .none, (.int (239) 0), (.int (46) 0), (.str z165 240)]), #[]⟩
noncomputable def ob56 (P : Params) : Obj := ⟨(.type PySem.W.SZ.s658472552662922059x5), none, .plain, #[some (.ref 55), some (.ref 3), some (.ref 52), none, some (.str z199 232), none, some (.ref 0)]⟩
noncomputable def ob57 (P : Params) : Obj := ⟨(.type PySem.W.SZ.s2766695959194262286x5), none, (.seq #[] 0), #[]⟩
noncomputable def ob58 (P : Params) : Obj := ⟨.none, none, (.fields #[]), #[]⟩
noncomputable def ob59 (P : Params) : Obj := ⟨(.type PySem.W.SZ.s2766695959194262286x5), none, (.seq #[(.str z192 251), (.str z207 252)] 0), #[]⟩
noncomputable def ob60 (P : Params) : Obj := ⟨(.type PySem.W.SZ.s2766695959194262286x5), none, (.seq #[] 0), #[]⟩
noncomputable def ob61 (P : Params) : Obj := ⟨.none, none, (.func { (fnX z203 z208 (gM 7 1).params (gM 7 1).body (gM 7 1).scope [] .none .none .none .none none .none .none) with globals := 0, builtins := 0 }), #[]⟩
noncomputable def ob62 (P : Params) : Obj := ⟨(.type PySem.W.SZ.s5856160107412720595x4), none, (.fields #[(.str z203 248), (.str z208 249), (.str z165 250), (.int (49) 0), (.int (2) 0), (.int (0) 0), (.int (0) 0), (.int (3) 0), (.ref 57), (.bool true), (.int (181) 0), (.ref 58), .none, (.ref 59), (.ref 60), (.ref 61), (.int (253) 0), (.int (49) 0), (.str z165 254)]), #[]⟩
noncomputable def ob63 (P : Params) : Obj := ⟨(.type PySem.W.SZ.s7174869446012820540x8), none, (.func (fnX z203 z208 (gM 7 1).params (gM 7 1).body (gM 7 1).scope [] .none .none .none (.str z199 232) none (.ref 62) .none)), #[]⟩
noncomputable def ob64 (P : Params) : Obj := ⟨(.type PySem.W.SZ.s2766695959194262286x5), none, (.seq #[] 0), #[]⟩
noncomputable def ob65 (P : Params) : Obj := ⟨.none, none, (.fields #[]), #[]⟩
noncomputable def ob66 (P : Params) : Obj := ⟨(.type PySem.W.SZ.s2766695959194262286x5), none, (.seq #[(.str z192 259)] 0), #[]⟩
noncomputable def ob67 (P : Params) : Obj := ⟨(.type PySem.W.SZ.s2766695959194262286x5), none, (.seq #[] 0), #[]⟩
noncomputable def ob68 (P : Params) : Obj := ⟨.none, none, (.func { (fnX z204 z209 (gM 7 2).params (gM 7 2).body (gM 7 2).scope [] .none .none .none .none none .none .none) with globals := 0, builtins := 0 }), #[]⟩
noncomputable def ob69 (P : Params) : Obj := ⟨(.type PySem.W.SZ.s5856160107412720595x4), none, (.fields #[(.str z204 256), (.str z209 257), (.str z165 258), (.int (52) 0), (.int (1) 0), (.int (0) 0), (.int (0) 0), (.int (3) 0), (.ref 64), (.bool true), (.int (181) 0), (.ref 65), .none, (.ref 66), (.ref 67), (.ref 68), (.int (260) 0), (.int (52) 0), (.str z165 261)]), #[]⟩
noncomputable def ob70 (P : Params) : Obj := ⟨(.type PySem.W.SZ.s7174869446012820540x8), none, (.func (fnX z204 z209 (gM 7 2).params (gM 7 2).body (gM 7 2).scope [] .none .none .none (.str z199 232) none (.ref 69) .none)), #[]⟩
noncomputable def ob71 (P : Params) : Obj := ⟨(.type PySem.W.SZ.s2766695959194262286x5), none, (.seq #[] 0), #[]⟩
noncomputable def ob72 (P : Params) : Obj := ⟨.none, none, (.fields #[]), #[]⟩
noncomputable def ob73 (P : Params) : Obj := ⟨(.type PySem.W.SZ.s2766695959194262286x5), none, (.seq #[(.str z192 266), (.str z193 267)] 0), #[]⟩
noncomputable def ob74 (P : Params) : Obj := ⟨(.type PySem.W.SZ.s2766695959194262286x5), none, (.seq #[] 0), #[]⟩
noncomputable def ob75 (P : Params) : Obj := ⟨.none, none, (.func { (fnX z205 z210 (gM 7 3).params (gM 7 3).body (gM 7 3).scope [] .none .none .none .none none .none .none) with globals := 0, builtins := 0 }), #[]⟩
noncomputable def ob76 (P : Params) : Obj := ⟨(.type PySem.W.SZ.s5856160107412720595x4), none, (.fields #[(.str z205 263), (.str z210 264), (.str z165 265), (.int (55) 0), (.int (2) 0), (.int (0) 0), (.int (0) 0), (.int (3) 0), (.ref 71), (.bool true), (.int (181) 0), (.ref 72), .none, (.ref 73), (.ref 74), (.ref 75), (.int (268) 0), (.int (55) 0), (.str z165 269)]), #[]⟩
noncomputable def ob77 (P : Params) : Obj := ⟨(.type PySem.W.SZ.s7174869446012820540x8), none, (.func (fnX z205 z210 (gM 7 3).params (gM 7 3).body (gM 7 3).scope [] .none .none .none (.str z199 232) none (.ref 76) .none)), #[]⟩
noncomputable def ob78 (P : Params) : Obj := ⟨(.type PySem.W.SZ.s2766695959194262286x5), none, (.seq #[] 0), #[]⟩
noncomputable def ob79 (P : Params) : Obj := ⟨(.type PySem.W.SZ.s14018661285674007319x4), none, (.dict #[dE P z198 241 (.str z199 232), dE P z201 245 (.int (46) 244), dE P z202 247 (.int (500) 246), dE P z203 255 (.ref 63), dE P z204 262 (.ref 70), dE P z205 270 (.ref 77), dE P z206 271 (.ref 78), dE P z211 273 (.ref 81), dE P z212 275 (.ref 82), dE P z2 276 .none] 4), #[]⟩
noncomputable def ob80 (P : Params) : Obj := ⟨(.type PySem.W.SZ.s17162191345867700912x4), none, (.cls { name := z172, bases := [(.type PySem.W.SZ.s2742458400755230247x6)], mro := [(.ref 80), (.type PySem.W.SZ.s2742458400755230247x6)], ns := 79, qualname := z172, hasDict := true, slotNames := [], subclasses := [(.ref 101)], abstract := false, collection := none, hasDel := false }), #[none, none, some (.str z172 234), some (.str z172 242), some (.builtin PySem.W.SZ.s11443829558043349243x14), some (.bool true)]⟩
noncomputable def ob81 (P : Params) : Obj := ⟨(.type PySem.W.SZ.s14755015743595814543x17), none, (.fields #[(.str z211 272), (.ref 80), (.builtin PySem.W.SZ.s6511155373996960695x17), (.builtin PySem.W.SZ.s12411053484034534018x21)]), #[]⟩
noncomputable def ob82 (P : Params) : Obj := ⟨(.type PySem.W.SZ.s14755015743595814543x17), none, (.fields #[(.str z212 274), (.ref 80), (.builtin PySem.W.SZ.s10220274742760427390x26), .none]), #[]⟩
noncomputable def ob83 (P : Params) : Obj := ⟨(.type PySem.W.SZ.s4290257624100764138x5), none, (.fields #[(.ref 80), (.ref 80), (.ref 80)]), #[]⟩
noncomputable def ob84 (P : Params) : Obj := ⟨(.type PySem.W.SZ.s11030030927630378310x26), none, (.fields #[(.builtin PySem.W.SZ.s4860613602091757760x24), (.ref 80)]), #[]⟩
noncomputable def ob85 (P : Params) : Obj := ⟨(.type PySem.W.SZ.s2766695959194262286x5), none, (.seq #[(.ref 80)] 0), #[]⟩
noncomputable def ob86 (P : Params) : Obj := ⟨(.type PySem.W.SZ.s11030030927630378310x26), none, (.fields #[(.builtin PySem.W.SZ.s10062305145149207511x16), (.type PySem.W.SZ.s17162191345867700912x4)]), #[]⟩
noncomputable def ob87 (P : Params) : Obj := ⟨(.type PySem.W.SZ.s14018661285674007319x4), none, (.dict #[dE P z198 286 (.str z199 232), dE P z200 288 (.str z173 287), dE P z201 290 (.int (59) 289), dE P z202 292 (.int (1000) 291), dE P z213 304 (.ref 98), dE P z214 305 (.ref 98), dE P z206 306 (.ref 99)] 7), #[]⟩
noncomputable def ob88 (P : Params) : Obj := ⟨(.type PySem.W.SZ.s2766695959194262286x5), none, (.seq #[] 0), #[]⟩
noncomputable def ob89 (P : Params) : Obj := ⟨.none, none, (.fields #[(.int (62) 0), (.int (4) 0), (.ref 97)]), #[]⟩
noncomputable def ob90 (P : Params) : Obj := ⟨(.type PySem.W.SZ.s5856160107412720595x4), none, (.fields #[(.str z173 281), (.str z173 282), (.str z165 283), (.int (59) 0), (.int (0) 0), (.int (0) 0), (.int (0) 0), (.int (0) 0), (.ref 88), (.bool false), (.int (181) 0), (.ref 89), .none, .none, .none, .none, (.int (284) 0), (.int (59) 0), (.str z165 285)]), #[]⟩
noncomputable def ob91 (P : Params) : Obj := ⟨(.type PySem.W.SZ.s658472552662922059x5), none, .plain, #[some (.ref 90), some (.ref 3), some (.ref 87), none, some (.str z199 232), none, some (.ref 0)]⟩
noncomputable def ob92 (P : Params) : Obj := ⟨(.type PySem.W.SZ.s2766695959194262286x5), none, (.seq #[] 0), #[]⟩
noncomputable def ob93 (P : Params) : Obj := ⟨.none, none, (.fields #[]), #[]⟩
noncomputable def ob94 (P : Params) : Obj := ⟨(.type PySem.W.SZ.s2766695959194262286x5), none, (.seq #[(.str z192 296), (.str z215 297), (.str z216 298), (.str z217 299), (.str z218 300), (.str z219 301)] 0), #[]⟩
noncomputable def ob95 (P : Params) : Obj := ⟨(.type PySem.W.SZ.s2766695959194262286x5), none, (.seq #[] 0), #[]⟩
noncomputable def ob96 (P : Params) : Obj := ⟨.none, none, (.func { (fnX z213 z220 (gM 8 1).params (gM 8 1).body (gM 8 1).scope [] .none .none .none .none none .none .none) with globals := 0, builtins := 0 }), #[]⟩
noncomputable def ob97 (P : Params) : Obj := ⟨(.type PySem.W.SZ.s5856160107412720595x4), none, (.fields #[(.str z213 293), (.str z220 294), (.str z165 295), (.int (62) 0), (.int (3) 0), (.int (0) 0), (.int (0) 0), (.int (3) 0), (.ref 92), (.bool true), (.int (181) 0), (.ref 93), .none, (.ref 94), (.ref 95), (.ref 96), (.int (302) 0), (.int (62) 0), (.str z165 303)]), #[]⟩
noncomputable def ob98 (P : Params) : Obj := ⟨(.type PySem.W.SZ.s7174869446012820540x8), none, (.func (fnX z213 z220 (gM 8 1).params (gM 8 1).body (gM 8 1).scope [] .none .none .none (.str z199 232) none (.ref 97) .none)), #[]⟩
noncomputable def ob99 (P : Params) : Obj := ⟨(.type PySem.W.SZ.s2766695959194262286x5), none, (.seq #[] 0), #[]⟩
noncomputable def ob100 (P : Params) : Obj := ⟨(.type PySem.W.SZ.s14018661285674007319x4), none, (.dict #[dE P z198 286 (.str z199 232), dE P z201 290 (.int (59) 289), dE P z202 292 (.int (1000) 291), dE P z213 304 (.ref 98), dE P z214 305 (.ref 98), dE P z206 306 (.ref 99), dE P z2 307 .none] 2), #[]⟩
noncomputable def ob101 (P : Params) : Obj := ⟨(.type PySem.W.SZ.s17162191345867700912x4), none, (.cls { name := z173, bases := [(.ref 80)], mro := [(.ref 101), (.ref 80), (.type PySem.W.SZ.s2742458400755230247x6)], ns := 100, qualname := z173, hasDict := true, slotNames := [], subclasses := [], abstract := false, collection := none, hasDel := false }), #[some (.ref 85), none, some (.str z173 279), some (.str z173 287), some (.builtin PySem.W.SZ.s11443829558043349243x14), some (.bool true)]⟩
noncomputable def ob102 (P : Params) : Obj := ⟨(.type PySem.W.SZ.s4290257624100764138x5), none, (.fields #[(.ref 101), (.ref 101), (.ref 101)]), #[]⟩
noncomputable def ob103 (P : Params) : Obj := ⟨(.type PySem.W.SZ.s11030030927630378310x26), none, (.fields #[(.builtin PySem.W.SZ.s4860613602091757760x24), (.ref 101)]), #[]⟩
noncomputable def ob104 (P : Params) : Obj := ⟨(.type PySem.W.SZ.s2766695959194262286x5), none, (.seq #[] 0), #[]⟩
noncomputable def ob105 (P : Params) : Obj := ⟨(.type PySem.W.SZ.s11030030927630378310x26), none, (.fields #[(.builtin PySem.W.SZ.s10062305145149207511x16), (.type PySem.W.SZ.s17162191345867700912x4)]), #[]⟩
noncomputable def ob106 (P : Params) : Obj := ⟨(.type PySem.W.SZ.s14018661285674007319x4), none, (.dict #[dE P z198 317 (.str z199 232), dE P z200 319 (.str z174 318), dE P z201 321 (.int (68) 320), dE P z221 328 (.ref 117), dE P z222 339 (.ref 124), dE P z223 348 (.ref 131), dE P z224 357 (.ref 139), dE P z225 366 (.ref 146), dE P z206 368 (.ref 147)] 9), #[]⟩
noncomputable def ob107 (P : Params) : Obj := ⟨(.type PySem.W.SZ.s2766695959194262286x5), none, (.seq #[] 0), #[]⟩
noncomputable def ob108 (P : Params) : Obj := ⟨.none, none, (.fields #[(.int (70) 0), (.int (4) 0), (.ref 116), (.int (73) 0), (.int (4) 0), (.ref 123), (.int (76) 0), (.int (4) 0), (.ref 130), (.int (79) 0), (.int (4) 0), (.ref 138), (.int (82) 0), (.int (4) 0), (.ref 145)]), #[]⟩
noncomputable def ob109 (P : Params) : Obj := ⟨(.type PySem.W.SZ.s5856160107412720595x4), none, (.fields #[(.str z174 312), (.str z174 313), (.str z165 314), (.int (68) 0), (.int (0) 0), (.int (0) 0), (.int (0) 0), (.int (0) 0), (.ref 107), (.bool false), (.int (181) 0), (.ref 108), .none, .none, .none, .none, (.int (315) 0), (.int (68) 0), (.str z165 316)]), #[]⟩
noncomputable def ob110 (P : Params) : Obj := ⟨(.type PySem.W.SZ.s658472552662922059x5), none, .plain, #[some (.ref 109), some (.ref 3), some (.ref 106), none, some (.str z199 232), none, some (.ref 0)]⟩
noncomputable def ob111 (P : Params) : Obj := ⟨(.type PySem.W.SZ.s2766695959194262286x5), none, (.seq #[] 0), #[]⟩
noncomputable def ob112 (P : Params) : Obj := ⟨.none, none, (.fields #[]), #[]⟩
noncomputable def ob113 (P : Params) : Obj := ⟨(.type PySem.W.SZ.s2766695959194262286x5), none, (.seq #[(.str z192 325)] 0), #[]⟩
noncomputable def ob114 (P : Params) : Obj := ⟨(.type PySem.W.SZ.s2766695959194262286x5), none, (.seq #[] 0), #[]⟩
noncomputable def ob115 (P : Params) : Obj := ⟨.none, none, (.func { (fnX z221 z226 (gM 9 0).params (gM 9 0).body (gM 9 0).scope [] .none .none .none .none none .none .none) with globals := 0, builtins := 0 }), #[]⟩
noncomputable def ob116 (P : Params) : Obj := ⟨(.type PySem.W.SZ.s5856160107412720595x4), none, (.fields #[(.str z221 322), (.str z226 323), (.str z165 324), (.int (70) 0), (.int (1) 0), (.int (0) 0), (.int (0) 0), (.int (3) 0), (.ref 111), (.bool true), (.int (181) 0), (.ref 112), .none, (.ref 113), (.ref 114), (.ref 115), (.int (326) 0), (.int (70) 0), (.str z165 327)]), #[]⟩
noncomputable def ob117 (P : Params) : Obj := ⟨(.type PySem.W.SZ.s7174869446012820540x8), none, (.func (fnX z221 z226 (gM 9 0).params (gM 9 0).body (gM 9 0).scope [] .none .none .none (.str z199 232) none (.ref 116) .none)), #[]⟩
noncomputable def ob118 (P : Params) : Obj := ⟨(.type PySem.W.SZ.s2766695959194262286x5), none, (.seq #[] 0), #[]⟩
noncomputable def ob119 (P : Params) : Obj := ⟨.none, none, (.fields #[]), #[]⟩
noncomputable def ob120 (P : Params) : Obj := ⟨(.type PySem.W.SZ.s2766695959194262286x5), none, (.seq #[(.str z192 332), (.str z227 333), (.str z228 334), (.str z229 335), (.str z230 336)] 0), #[]⟩
noncomputable def ob121 (P : Params) : Obj := ⟨(.type PySem.W.SZ.s2766695959194262286x5), none, (.seq #[] 0), #[]⟩
noncomputable def ob122 (P : Params) : Obj := ⟨.none, none, (.func { (fnX z222 z231 (gM 9 1).params (gM 9 1).body (gM 9 1).scope [] .none .none .none .none none .none .none) with globals := 0, builtins := 0 }), #[]⟩
noncomputable def ob123 (P : Params) : Obj := ⟨(.type PySem.W.SZ.s5856160107412720595x4), none, (.fields #[(.str z222 329), (.str z231 330), (.str z165 331), (.int (73) 0), (.int (5) 0), (.int (0) 0), (.int (0) 0), (.int (3) 0), (.ref 118), (.bool true), (.int (181) 0), (.ref 119), .none, (.ref 120), (.ref 121), (.ref 122), (.int (337) 0), (.int (73) 0), (.str z165 338)]), #[]⟩
noncomputable def ob124 (P : Params) : Obj := ⟨(.type PySem.W.SZ.s7174869446012820540x8), none, (.func (fnX z222 z231 (gM 9 1).params (gM 9 1).body (gM 9 1).scope [] .none .none .none (.str z199 232) none (.ref 123) .none)), #[]⟩
noncomputable def ob125 (P : Params) : Obj := ⟨(.type PySem.W.SZ.s2766695959194262286x5), none, (.seq #[] 0), #[]⟩
noncomputable def ob126 (P : Params) : Obj := ⟨.none, none, (.fields #[]), #[]⟩
noncomputable def ob127 (P : Params) : Obj := ⟨(.type PySem.W.SZ.s2766695959194262286x5), none, (.seq #[(.str z192 343), (.str z227 344), (.str z232 345)] 0), #[]⟩
noncomputable def ob128 (P : Params) : Obj := ⟨(.type PySem.W.SZ.s2766695959194262286x5), none, (.seq #[] 0), #[]⟩
noncomputable def ob129 (P : Params) : Obj := ⟨.none, none, (.func { (fnX z223 z233 (gM 9 2).params (gM 9 2).body (gM 9 2).scope [] .none .none .none .none none .none .none) with globals := 0, builtins := 0 }), #[]⟩
noncomputable def ob130 (P : Params) : Obj := ⟨(.type PySem.W.SZ.s5856160107412720595x4), none, (.fields #[(.str z223 340), (.str z233 341), (.str z165 342), (.int (76) 0), (.int (3) 0), (.int (0) 0), (.int (0) 0), (.int (3) 0), (.ref 125), (.bool true), (.int (181) 0), (.ref 126), .none, (.ref 127), (.ref 128), (.ref 129), (.int (346) 0), (.int (76) 0), (.str z165 347)]), #[]⟩
noncomputable def ob131 (P : Params) : Obj := ⟨(.type PySem.W.SZ.s7174869446012820540x8), none, (.func (fnX z223 z233 (gM 9 2).params (gM 9 2).body (gM 9 2).scope [] .none .none .none (.str z199 232) none (.ref 130) .none)), #[]⟩
noncomputable def ob132 (P : Params) : Obj := ⟨(.type PySem.W.SZ.s2766695959194262286x5), none, (.seq #[(.bool true)] 0), #[]⟩
noncomputable def ob133 (P : Params) : Obj := ⟨(.type PySem.W.SZ.s2766695959194262286x5), none, (.seq #[] 0), #[]⟩
noncomputable def ob134 (P : Params) : Obj := ⟨.none, none, (.fields #[]), #[]⟩
noncomputable def ob135 (P : Params) : Obj := ⟨(.type PySem.W.SZ.s2766695959194262286x5), none, (.seq #[(.str z192 352), (.str z228 353), (.str z234 354)] 0), #[]⟩
noncomputable def ob136 (P : Params) : Obj := ⟨(.type PySem.W.SZ.s2766695959194262286x5), none, (.seq #[] 0), #[]⟩
noncomputable def ob137 (P : Params) : Obj := ⟨.none, none, (.func { (fnX z224 z235 (gM 9 3).params (gM 9 3).body (gM 9 3).scope [] .none .none .none .none none .none .none) with globals := 0, builtins := 0 }), #[]⟩
noncomputable def ob138 (P : Params) : Obj := ⟨(.type PySem.W.SZ.s5856160107412720595x4), none, (.fields #[(.str z224 349), (.str z235 350), (.str z165 351), (.int (79) 0), (.int (3) 0), (.int (0) 0), (.int (0) 0), (.int (3) 0), (.ref 133), (.bool true), (.int (181) 0), (.ref 134), .none, (.ref 135), (.ref 136), (.ref 137), (.int (355) 0), (.int (79) 0), (.str z165 356)]), #[]⟩
noncomputable def ob139 (P : Params) : Obj := ⟨(.type PySem.W.SZ.s7174869446012820540x8), none, (.func (fnX z224 z235 (gM 9 3).params (gM 9 3).body (gM 9 3).scope [] (.ref 132) .none .none (.str z199 232) none (.ref 138) .none)), #[]⟩
noncomputable def ob140 (P : Params) : Obj := ⟨(.type PySem.W.SZ.s2766695959194262286x5), none, (.seq #[] 0), #[]⟩
noncomputable def ob141 (P : Params) : Obj := ⟨.none, none, (.fields #[]), #[]⟩
noncomputable def ob142 (P : Params) : Obj := ⟨(.type PySem.W.SZ.s2766695959194262286x5), none, (.seq #[(.str z192 361), (.str z236 362), (.str z237 363)] 0), #[]⟩
noncomputable def ob143 (P : Params) : Obj := ⟨(.type PySem.W.SZ.s2766695959194262286x5), none, (.seq #[] 0), #[]⟩
noncomputable def ob144 (P : Params) : Obj := ⟨.none, none, (.func { (fnX z225 z238 (gM 9 4).params (gM 9 4).body (gM 9 4).scope [] .none .none .none .none none .none .none) with globals := 0, builtins := 0 }), #[]⟩
noncomputable def ob145 (P : Params) : Obj := ⟨(.type PySem.W.SZ.s5856160107412720595x4), none, (.fields #[(.str z225 358), (.str z238 359), (.str z165 360), (.int (82) 0), (.int (3) 0), (.int (0) 0), (.int (0) 0), (.int (3) 0), (.ref 140), (.bool true), (.int (181) 0), (.ref 141), .none, (.ref 142), (.ref 143), (.ref 144), (.int (364) 0), (.int (82) 0), (.str z165 365)]), #[]⟩
noncomputable def ob146 (P : Params) : Obj := ⟨(.type PySem.W.SZ.s7174869446012820540x8), none, (.func (fnX z225 z238 (gM 9 4).params (gM 9 4).body (gM 9 4).scope [] .none .none .none (.str z199 232) none (.ref 145) .none)), #[]⟩
noncomputable def ob147 (P : Params) : Obj := ⟨(.type PySem.W.SZ.s2766695959194262286x5), none, (.seq #[(.str z230 367)] 0), #[]⟩
noncomputable def ob148 (P : Params) : Obj := ⟨(.type PySem.W.SZ.s14018661285674007319x4), none, (.dict #[dE P z198 317 (.str z199 232), dE P z201 321 (.int (68) 320), dE P z221 328 (.ref 117), dE P z222 339 (.ref 124), dE P z223 348 (.ref 131), dE P z224 357 (.ref 139), dE P z225 366 (.ref 146), dE P z206 368 (.ref 147), dE P z211 370 (.ref 150), dE P z212 372 (.ref 151), dE P z2 373 .none] 4), #[]⟩
noncomputable def ob149 (P : Params) : Obj := ⟨(.type PySem.W.SZ.s17162191345867700912x4), none, (.cls { name := z174, bases := [(.type PySem.W.SZ.s2742458400755230247x6)], mro := [(.ref 149), (.type PySem.W.SZ.s2742458400755230247x6)], ns := 148, qualname := z174, hasDict := true, slotNames := [], subclasses := [], abstract := false, collection := none, hasDel := false }), #[none, none, some (.str z174 310), some (.str z174 318), some (.builtin PySem.W.SZ.s11443829558043349243x14), some (.bool true)]⟩
noncomputable def ob150 (P : Params) : Obj := ⟨(.type PySem.W.SZ.s14755015743595814543x17), none, (.fields #[(.str z211 369), (.ref 149), (.builtin PySem.W.SZ.s6511155373996960695x17), (.builtin PySem.W.SZ.s12411053484034534018x21)]), #[]⟩
noncomputable def ob151 (P : Params) : Obj := ⟨(.type PySem.W.SZ.s14755015743595814543x17), none, (.fields #[(.str z212 371), (.ref 149), (.builtin PySem.W.SZ.s10220274742760427390x26), .none]), #[]⟩
noncomputable def ob152 (P : Params) : Obj := ⟨(.type PySem.W.SZ.s4290257624100764138x5), none, (.fields #[(.ref 149), (.ref 149), (.ref 149)]), #[]⟩
noncomputable def ob153 (P : Params) : Obj := ⟨(.type PySem.W.SZ.s11030030927630378310x26), none, (.fields #[(.builtin PySem.W.SZ.s4860613602091757760x24), (.ref 149)]), #[]⟩
noncomputable def ob154 (P : Params) : Obj := ⟨(.type PySem.W.SZ.s2766695959194262286x5), none, (.seq #[] 0), #[]⟩
noncomputable def ob155 (P : Params) : Obj := ⟨.none, none, (.fields #[]), #[]⟩
noncomputable def ob156 (P : Params) : Obj := ⟨.none, none, (.func { (fnX z175 z175 (gF 11).params (gF 11).body (gF 11).scope [] .none .none .none .none none .none .none) with globals := 0, builtins := 0 }), #[]⟩
noncomputable def ob157 (P : Params) : Obj := ⟨(.type PySem.W.SZ.s5856160107412720595x4), none, (.fields #[(.str z175 378), (.str z175 379), (.str z165 380), (.int (85) 0), (.int (1) 0), (.int (0) 0), (.int (0) 0), (.int (3) 0), (.ref 154), (.bool true), (.int (181) 0), (.ref 155), .none, .none, .none, (.ref 156), (.int (381) 0), (.int (85) 0), (.str z165 382)]), #[]⟩
noncomputable def ob158 (P : Params) : Obj := ⟨(.type PySem.W.SZ.s7174869446012820540x8), none, (.func (fnX z175 z175 (gF 11).params (gF 11).body (gF 11).scope [] .none .none .none (.str z161 376) none (.ref 157) .none)), #[]⟩
noncomputable def ob159 (P : Params) : Obj := ⟨(.type PySem.W.SZ.s2766695959194262286x5), none, (.seq #[] 0), #[]⟩
noncomputable def ob160 (P : Params) : Obj := ⟨.none, none, (.fields #[]), #[]⟩
noncomputable def ob161 (P : Params) : Obj := ⟨(.type PySem.W.SZ.s2766695959194262286x5), none, (.seq #[(.str z239 387), (.str z240 388), (.str z241 389), (.str z242 390)] 0), #[]⟩
noncomputable def ob162 (P : Params) : Obj := ⟨(.type PySem.W.SZ.s2766695959194262286x5), none, (.seq #[(.str z239 391), (.str z240 392), (.str z241 393)] 0), #[]⟩
noncomputable def ob163 (P : Params) : Obj := ⟨.none, none, (.func { (fnX z176 z176 (gF 12).params (gF 12).body (gF 12).scope [] .none .none .none .none none .none .none) with globals := 0, builtins := 0 }), #[]⟩
noncomputable def ob164 (P : Params) : Obj := ⟨(.type PySem.W.SZ.s5856160107412720595x4), none, (.fields #[(.str z176 384), (.str z176 385), (.str z165 386), (.int (89) 0), (.int (3) 0), (.int (0) 0), (.int (0) 0), (.int (3) 0), (.ref 159), (.bool true), (.int (181) 0), (.ref 160), .none, (.ref 161), (.ref 162), (.ref 163), (.int (394) 0), (.int (89) 0), (.str z165 395)]), #[]⟩
noncomputable def ob165 (P : Params) : Obj := ⟨(.type PySem.W.SZ.s7174869446012820540x8), none, (.func (fnX z176 z176 (gF 12).params (gF 12).body (gF 12).scope [] .none .none .none (.str z161 376) none (.ref 164) .none)), #[]⟩
noncomputable def ob166 (P : Params) : Obj := ⟨(.type PySem.W.SZ.s2766695959194262286x5), none, (.seq #[] 0), #[]⟩
noncomputable def ob167 (P : Params) : Obj := ⟨.none, none, (.fields #[]), #[]⟩
noncomputable def ob168 (P : Params) : Obj := ⟨(.type PySem.W.SZ.s2766695959194262286x5), none, (.seq #[(.str z243 400), (.str z193 401)] 0), #[]⟩
noncomputable def ob169 (P : Params) : Obj := ⟨(.type PySem.W.SZ.s2766695959194262286x5), none, (.seq #[] 0), #[]⟩
noncomputable def ob170 (P : Params) : Obj := ⟨.none, none, (.func { (fnX z177 z177 (gF 13).params (gF 13).body (gF 13).scope [] .none .none .none .none none .none .none) with globals := 0, builtins := 0 }), #[]⟩
noncomputable def ob171 (P : Params) : Obj := ⟨(.type PySem.W.SZ.s5856160107412720595x4), none, (.fields #[(.str z177 397), (.str z177 398), (.str z165 399), (.int (97) 0), (.int (2) 0), (.int (0) 0), (.int (0) 0), (.int (3) 0), (.ref 166), (.bool true), (.int (181) 0), (.ref 167), .none, (.ref 168), (.ref 169), (.ref 170), (.int (402) 0), (.int (97) 0), (.str z165 403)]), #[]⟩
noncomputable def ob172 (P : Params) : Obj := ⟨(.type PySem.W.SZ.s7174869446012820540x8), none, (.func (fnX z177 z177 (gF 13).params (gF 13).body (gF 13).scope [] .none .none .none (.str z161 376) none (.ref 171) .none)), #[]⟩
noncomputable def ob173 (P : Params) : Obj := ⟨(.type PySem.W.SZ.s2766695959194262286x5), none, (.seq #[] 0), #[]⟩
noncomputable def ob174 (P : Params) : Obj := ⟨.none, none, (.fields #[]), #[]⟩
noncomputable def ob175 (P : Params) : Obj := ⟨(.type PySem.W.SZ.s2766695959194262286x5), none, (.seq #[(.str z244 408), (.str z245 409)] 0), #[]⟩
noncomputable def ob176 (P : Params) : Obj := ⟨(.type PySem.W.SZ.s2766695959194262286x5), none, (.seq #[] 0), #[]⟩
noncomputable def ob177 (P : Params) : Obj := ⟨.none, none, (.func { (fnX z178 z178 (gF 14).params (gF 14).body (gF 14).scope [] .none .none .none .none none .none .none) with globals := 0, builtins := 0 }), #[]⟩
noncomputable def ob178 (P : Params) : Obj := ⟨(.type PySem.W.SZ.s5856160107412720595x4), none, (.fields #[(.str z178 405), (.str z178 406), (.str z165 407), (.int (99) 0), (.int (1) 0), (.int (0) 0), (.int (0) 0), (.int (3) 0), (.ref 173), (.bool true), (.int (181) 0), (.ref 174), .none, (.ref 175), (.ref 176), (.ref 177), (.int (410) 0), (.int (99) 0), (.str z165 411)]), #[]⟩
noncomputable def ob179 (P : Params) : Obj := ⟨(.type PySem.W.SZ.s7174869446012820540x8), none, (.func (fnX z178 z178 (gF 14).params (gF 14).body (gF 14).scope [] .none .none .none (.str z161 376) none (.ref 178) .none)), #[]⟩
noncomputable def ob180 (P : Params) : Obj := ⟨(.type PySem.W.SZ.s2766695959194262286x5), none, (.seq #[] 0), #[]⟩
noncomputable def ob181 (P : Params) : Obj := ⟨.none, none, (.fields #[]), #[]⟩
noncomputable def ob182 (P : Params) : Obj := ⟨(.type PySem.W.SZ.s2766695959194262286x5), none, (.seq #[(.str z246 416), (.str z247 417)] 0), #[]⟩
noncomputable def ob183 (P : Params) : Obj := ⟨(.type PySem.W.SZ.s2766695959194262286x5), none, (.seq #[] 0), #[]⟩
noncomputable def ob184 (P : Params) : Obj := ⟨.none, none, (.func { (fnX z179 z179 (gF 15).params (gF 15).body (gF 15).scope [] .none .none .none .none none .none .none) with globals := 0, builtins := 0 }), #[]⟩
noncomputable def ob185 (P : Params) : Obj := ⟨(.type PySem.W.SZ.s5856160107412720595x4), none, (.fields #[(.str z179 413), (.str z179 414), (.str z165 415), (.int (104) 0), (.int (1) 0), (.int (0) 0), (.int (0) 0), (.int (3) 0), (.ref 180), (.bool true), (.int (181) 0), (.ref 181), .none, (.ref 182), (.ref 183), (.ref 184), (.int (418) 0), (.int (104) 0), (.str z165 419)]), #[]⟩
noncomputable def ob186 (P : Params) : Obj := ⟨(.type PySem.W.SZ.s7174869446012820540x8), none, (.func (fnX z179 z179 (gF 15).params (gF 15).body (gF 15).scope [] .none .none .none (.str z161 376) none (.ref 185) .none)), #[]⟩
noncomputable def ob187 (P : Params) : Obj := ⟨(.type PySem.W.SZ.s2766695959194262286x5), none, (.seq #[] 0), #[]⟩
noncomputable def ob188 (P : Params) : Obj := ⟨.none, none, (.fields #[]), #[]⟩
noncomputable def ob189 (P : Params) : Obj := ⟨(.type PySem.W.SZ.s2766695959194262286x5), none, (.seq #[(.str z248 424), (.str z249 425), (.str z244 426), (.str z250 427), (.str z251 428), (.str z252 429)] 0), #[]⟩
noncomputable def ob190 (P : Params) : Obj := ⟨(.type PySem.W.SZ.s2766695959194262286x5), none, (.seq #[] 0), #[]⟩
noncomputable def ob191 (P : Params) : Obj := ⟨.none, none, (.func { (fnX z180 z180 (gF 16).params (gF 16).body (gF 16).scope [] .none .none .none .none none .none .none) with globals := 0, builtins := 0 }), #[]⟩
noncomputable def ob192 (P : Params) : Obj := ⟨(.type PySem.W.SZ.s5856160107412720595x4), none, (.fields #[(.str z180 421), (.str z180 422), (.str z165 423), (.int (108) 0), (.int (2) 0), (.int (0) 0), (.int (0) 0), (.int (3) 0), (.ref 187), (.bool true), (.int (181) 0), (.ref 188), .none, (.ref 189), (.ref 190), (.ref 191), (.int (430) 0), (.int (108) 0), (.str z165 431)]), #[]⟩
noncomputable def ob193 (P : Params) : Obj := ⟨(.type PySem.W.SZ.s7174869446012820540x8), none, (.func (fnX z180 z180 (gF 16).params (gF 16).body (gF 16).scope [] .none .none .none (.str z161 376) none (.ref 192) .none)), #[]⟩
noncomputable def ob194 (P : Params) : Obj := ⟨(.type PySem.W.SZ.s2766695959194262286x5), none, (.seq #[] 0), #[]⟩
noncomputable def ob195 (P : Params) : Obj := ⟨.none, none, (.fields #[]), #[]⟩
noncomputable def ob196 (P : Params) : Obj := ⟨.none, none, (.func { (fnX z181 z181 (gF 17).params (gF 17).body (gF 17).scope [] .none .none .none .none none .none .none) with globals := 0, builtins := 0 }), #[]⟩
noncomputable def ob197 (P : Params) : Obj := ⟨(.type PySem.W.SZ.s5856160107412720595x4), none, (.fields #[(.str z181 433), (.str z181 434), (.str z165 435), (.int (116) 0), (.int (3) 0), (.int (0) 0), (.int (0) 0), (.int (3) 0), (.ref 194), (.bool true), (.int (181) 0), (.ref 195), .none, .none, .none, (.ref 196), (.int (436) 0), (.int (116) 0), (.str z165 437)]), #[]⟩
noncomputable def ob198 (P : Params) : Obj := ⟨(.type PySem.W.SZ.s7174869446012820540x8), none, (.func (fnX z181 z181 (gF 17).params (gF 17).body (gF 17).scope [] .none .none .none (.str z161 376) none (.ref 197) .none)), #[]⟩
noncomputable def ob199 (P : Params) : Obj := ⟨(.type PySem.W.SZ.s2766695959194262286x5), none, (.seq #[] 0), #[]⟩
noncomputable def ob200 (P : Params) : Obj := ⟨.none, none, (.fields #[]), #[]⟩
noncomputable def ob201 (P : Params) : Obj := ⟨(.type PySem.W.SZ.s2766695959194262286x5), none, (.seq #[(.str z239 442), (.str z253 443), (.str z254 444), (.str z249 445)] 0), #[]⟩
noncomputable def ob202 (P : Params) : Obj := ⟨(.type PySem.W.SZ.s2766695959194262286x5), none, (.seq #[] 0), #[]⟩
noncomputable def ob203 (P : Params) : Obj := ⟨.none, none, (.func { (fnX z182 z182 (gF 18).params (gF 18).body (gF 18).scope [] .none .none .none .none none .none .none) with globals := 0, builtins := 0 }), #[]⟩
noncomputable def ob204 (P : Params) : Obj := ⟨(.type PySem.W.SZ.s5856160107412720595x4), none, (.fields #[(.str z182 439), (.str z182 440), (.str z165 441), (.int (122) 0), (.int (4) 0), (.int (0) 0), (.int (0) 0), (.int (3) 0), (.ref 199), (.bool true), (.int (181) 0), (.ref 200), .none, (.ref 201), (.ref 202), (.ref 203), (.int (446) 0), (.int (122) 0), (.str z165 447)]), #[]⟩
noncomputable def ob205 (P : Params) : Obj := ⟨(.type PySem.W.SZ.s7174869446012820540x8), none, (.func (fnX z182 z182 (gF 18).params (gF 18).body (gF 18).scope [] .none .none .none (.str z161 376) none (.ref 204) .none)), #[]⟩
noncomputable def ob206 (P : Params) : Obj := ⟨(.type PySem.W.SZ.s2766695959194262286x5), none, (.seq #[] 0), #[]⟩
noncomputable def ob207 (P : Params) : Obj := ⟨.none, none, (.fields #[]), #[]⟩
noncomputable def ob208 (P : Params) : Obj := ⟨(.type PySem.W.SZ.s2766695959194262286x5), none, (.seq #[] 0), #[]⟩
noncomputable def ob209 (P : Params) : Obj := ⟨(.type PySem.W.SZ.s2766695959194262286x5), none, (.seq #[] 0), #[]⟩
noncomputable def ob210 (P : Params) : Obj := ⟨.none, none, (.func { (fnX z183 z183 (gF 19).params (gF 19).body (gF 19).scope [] .none .none .none .none none .none .none) with globals := 0, builtins := 0 }), #[]⟩
noncomputable def ob211 (P : Params) : Obj := ⟨(.type PySem.W.SZ.s5856160107412720595x4), none, (.fields #[(.str z183 449), (.str z183 450), (.str z165 451), (.int (126) 0), (.int (0) 0), (.int (0) 0), (.int (0) 0), (.int (3) 0), (.ref 206), (.bool true), (.int (181) 0), (.ref 207), .none, (.ref 208), (.ref 209), (.ref 210), (.int (452) 0), (.int (126) 0), (.str z165 453)]), #[]⟩
noncomputable def ob212 (P : Params) : Obj := ⟨(.type PySem.W.SZ.s7174869446012820540x8), none, (.func (fnX z183 z183 (gF 19).params (gF 19).body (gF 19).scope [] .none .none .none (.str z161 376) none (.ref 211) .none)), #[]⟩
noncomputable def ob213 (P : Params) : Obj := ⟨(.type PySem.W.SZ.s2766695959194262286x5), none, (.seq #[] 0), #[]⟩
noncomputable def ob214 (P : Params) : Obj := ⟨.none, none, (.fields #[]), #[]⟩
noncomputable def ob215 (P : Params) : Obj := ⟨(.type PySem.W.SZ.s2766695959194262286x5), none, (.seq #[] 0), #[]⟩
noncomputable def ob216 (P : Params) : Obj := ⟨(.type PySem.W.SZ.s2766695959194262286x5), none, (.seq #[] 0), #[]⟩
noncomputable def ob217 (P : Params) : Obj := ⟨.none, none, (.func { (fnX z184 z184 (gF 20).params (gF 20).body (gF 20).scope [] .none .none .none .none none .none .none) with globals := 0, builtins := 0 }), #[]⟩
noncomputable def ob218 (P : Params) : Obj := ⟨(.type PySem.W.SZ.s5856160107412720595x4), none, (.fields #[(.str z184 455), (.str z184 456), (.str z165 457), (.int (128) 0), (.int (0) 0), (.int (0) 0), (.int (0) 0), (.int (3) 0), (.ref 213), (.bool true), (.int (181) 0), (.ref 214), .none, (.ref 215), (.ref 216), (.ref 217), (.int (458) 0), (.int (128) 0), (.str z165 459)]), #[]⟩
noncomputable def ob219 (P : Params) : Obj := ⟨(.type PySem.W.SZ.s7174869446012820540x8), none, (.func (fnX z184 z184 (gF 20).params (gF 20).body (gF 20).scope [] .none .none .none (.str z161 376) none (.ref 218) .none)), #[]⟩
noncomputable def ob220 (P : Params) : Obj := ⟨(.type PySem.W.SZ.s2766695959194262286x5), none, (.seq #[] 0), #[]⟩
noncomputable def ob221 (P : Params) : Obj := ⟨.none, none, (.fields #[]), #[]⟩
noncomputable def ob222 (P : Params) : Obj := ⟨(.type PySem.W.SZ.s2766695959194262286x5), none, (.seq #[(.str z240 464), (.str z255 465), (.str z243 466), (.str z193 467), (.str z256 468), (.str z257 469), (.str z242 470)] 0), #[]⟩
noncomputable def ob223 (P : Params) : Obj := ⟨(.type PySem.W.SZ.s2766695959194262286x5), none, (.seq #[] 0), #[]⟩
noncomputable def ob224 (P : Params) : Obj := ⟨.none, none, (.func { (fnX z185 z185 (gF 21).params (gF 21).body (gF 21).scope [] .none .none .none .none none .none .none) with globals := 0, builtins := 0 }), #[]⟩
noncomputable def ob225 (P : Params) : Obj := ⟨(.type PySem.W.SZ.s5856160107412720595x4), none, (.fields #[(.str z185 461), (.str z185 462), (.str z165 463), (.int (135) 0), (.int (4) 0), (.int (0) 0), (.int (0) 0), (.int (3) 0), (.ref 220), (.bool true), (.int (181) 0), (.ref 221), .none, (.ref 222), (.ref 223), (.ref 224), (.int (471) 0), (.int (135) 0), (.str z165 472)]), #[]⟩
noncomputable def ob226 (P : Params) : Obj := ⟨(.type PySem.W.SZ.s7174869446012820540x8), none, (.func (fnX z185 z185 (gF 21).params (gF 21).body (gF 21).scope [] .none .none .none (.str z161 376) none (.ref 225) .none)), #[]⟩
noncomputable def ob227 (P : Params) : Obj := ⟨(.type PySem.W.SZ.s2766695959194262286x5), none, (.seq #[] 0), #[]⟩
noncomputable def ob228 (P : Params) : Obj := ⟨.none, none, (.fields #[]), #[]⟩
noncomputable def ob229 (P : Params) : Obj := ⟨.none, none, (.func { (fnX z186 z186 (gF 22).params (gF 22).body (gF 22).scope [] .none .none .none .none none .none .none) with globals := 0, builtins := 0 }), #[]⟩
noncomputable def ob230 (P : Params) : Obj := ⟨(.type PySem.W.SZ.s5856160107412720595x4), none, (.fields #[(.str z186 474), (.str z186 475), (.str z165 476), (.int (142) 0), (.int (2) 0), (.int (0) 0), (.int (0) 0), (.int (3) 0), (.ref 227), (.bool true), (.int (181) 0), (.ref 228), .none, .none, .none, (.ref 229), (.int (477) 0), (.int (142) 0), (.str z165 478)]), #[]⟩
noncomputable def ob231 (P : Params) : Obj := ⟨(.type PySem.W.SZ.s7174869446012820540x8), none, (.func (fnX z186 z186 (gF 22).params (gF 22).body (gF 22).scope [] .none .none .none (.str z161 376) none (.ref 230) .none)), #[]⟩
noncomputable def ob232 (P : Params) : Obj := ⟨(.type PySem.W.SZ.s2766695959194262286x5), none, (.seq #[] 0), #[]⟩
noncomputable def ob233 (P : Params) : Obj := ⟨.none, none, (.fields #[]), #[]⟩
noncomputable def ob234 (P : Params) : Obj := ⟨(.type PySem.W.SZ.s2766695959194262286x5), none, (.seq #[(.str z258 483), (.str z259 484), (.str z260 485)] 0), #[]⟩
noncomputable def ob235 (P : Params) : Obj := ⟨(.type PySem.W.SZ.s2766695959194262286x5), none, (.seq #[] 0), #[]⟩
noncomputable def ob236 (P : Params) : Obj := ⟨.none, none, (.func { (fnX z187 z187 (gF 23).params (gF 23).body (gF 23).scope [] .none .none .none .none none .none .none) with globals := 0, builtins := 0 }), #[]⟩
noncomputable def ob237 (P : Params) : Obj := ⟨(.type PySem.W.SZ.s5856160107412720595x4), none, (.fields #[(.str z187 480), (.str z187 481), (.str z165 482), (.int (148) 0), (.int (3) 0), (.int (0) 0), (.int (0) 0), (.int (3) 0), (.ref 232), (.bool true), (.int (181) 0), (.ref 233), .none, (.ref 234), (.ref 235), (.ref 236), (.int (486) 0), (.int (148) 0), (.str z165 487)]), #[]⟩
noncomputable def ob238 (P : Params) : Obj := ⟨(.type PySem.W.SZ.s7174869446012820540x8), none, (.func (fnX z187 z187 (gF 23).params (gF 23).body (gF 23).scope [] .none .none .none (.str z161 376) none (.ref 237) .none)), #[]⟩
noncomputable def ob239 (P : Params) : Obj := ⟨(.type PySem.W.SZ.s2766695959194262286x5), none, (.seq #[] 0), #[]⟩
noncomputable def ob240 (P : Params) : Obj := ⟨.none, none, (.fields #[]), #[]⟩
noncomputable def ob241 (P : Params) : Obj := ⟨.none, none, (.func { (fnX z188 z188 (gF 24).params (gF 24).body (gF 24).scope [] .none .none .none .none none .none .none) with globals := 0, builtins := 0 }), #[]⟩
noncomputable def ob242 (P : Params) : Obj := ⟨(.type PySem.W.SZ.s5856160107412720595x4), none, (.fields #[(.str z188 489), (.str z188 490), (.str z165 491), (.int (150) 0), (.int (1) 0), (.int (0) 0), (.int (0) 0), (.int (3) 0), (.ref 239), (.bool true), (.int (181) 0), (.ref 240), .none, .none, .none, (.ref 241), (.int (492) 0), (.int (150) 0), (.str z165 493)]), #[]⟩
noncomputable def ob243 (P : Params) : Obj := ⟨(.type PySem.W.SZ.s7174869446012820540x8), none, (.func (fnX z188 z188 (gF 24).params (gF 24).body (gF 24).scope [] .none .none .none (.str z161 376) none (.ref 242) .none)), #[]⟩
noncomputable def ob244 (P : Params) : Obj := ⟨(.type PySem.W.SZ.s2766695959194262286x5), none, (.seq #[] 0), #[]⟩
noncomputable def ob245 (P : Params) : Obj := ⟨.none, none, (.fields #[]), #[]⟩
noncomputable def ob246 (P : Params) : Obj := ⟨(.type PySem.W.SZ.s2766695959194262286x5), none, (.seq #[(.str z261 498), (.str z240 499), (.str z241 500), (.str z239 501), (.str z249 502), (.str z252 503), (.str z244 504), (.str z250 505), (.str z253 506), (.str z254 507), (.str z260 508), (.str z262 509)] 0), #[]⟩
noncomputable def ob247 (P : Params) : Obj := ⟨(.type PySem.W.SZ.s2766695959194262286x5), none, (.seq #[] 0), #[]⟩
noncomputable def ob248 (P : Params) : Obj := ⟨.none, none, (.func { (fnX z189 z189 (gF 25).params (gF 25).body (gF 25).scope [] .none .none .none .none none .none .none) with globals := 0, builtins := 0 }), #[]⟩
noncomputable def ob249 (P : Params) : Obj := ⟨(.type PySem.W.SZ.s5856160107412720595x4), none, (.fields #[(.str z189 495), (.str z189 496), (.str z165 497), (.int (157) 0), (.int (1) 0), (.int (0) 0), (.int (0) 0), (.int (3) 0), (.ref 244), (.bool true), (.int (181) 0), (.ref 245), .none, (.ref 246), (.ref 247), (.ref 248), (.int (510) 0), (.int (157) 0), (.str z165 511)]), #[]⟩
noncomputable def ob250 (P : Params) : Obj := ⟨(.type PySem.W.SZ.s7174869446012820540x8), none, (.func (fnX z189 z189 (gF 25).params (gF 25).body (gF 25).scope [] .none .none .none (.str z161 376) none (.ref 249) .none)), #[]⟩
noncomputable def ob3H0 (P : Params) : Obj := ⟨(.type PySem.W.SZ.s14018661285674007319x4), none, (.dict #[dE P z0 165 (.str z160 164), dE P z2 166 .none, dE P z3 167 .none, dE P z4 168 (.builtin PySem.W.SZ.s7097527257260152453x26), dE P z5 169 .none, dE P z162 170 (.ref 6), dE P z163 171 (.ref 4), dE P z164 173 (.str z165 172), dE P z166 174 .none] 9), #[]⟩
noncomputable def ob12H0 (P : Params) : Obj := ⟨.none, none, (.fields #[]), #[]⟩
noncomputable def ob3HA (P : Params) : Obj := ⟨(.type PySem.W.SZ.s14018661285674007319x4), none, (.dict #[dE P z0 165 (.str z199 232), dE P z2 166 .none, dE P z3 167 .none, dE P z4 168 (.builtin PySem.W.SZ.s7097527257260152453x26), dE P z5 169 .none, dE P z162 170 (.ref 6), dE P z163 171 (.ref 4), dE P z164 173 (.str z165 172), dE P z166 174 .none, dE P z167 193 (.ref 21), dE P z168 204 (.ref 28), dE P z169 213 (.ref 35), dE P z170 222 (.ref 42), dE P z171 231 (.ref 49), dE P z172 278 (.ref 80)] 15), #[]⟩
noncomputable def ob12HA (P : Params) : Obj := ⟨.none, none, (.fields #[(.int (1) 0), (.int (0) 0), (.ref 20), (.int (5) 0), (.int (0) 0), (.ref 27), (.int (10) 0), (.int (0) 0), (.ref 34), (.int (15) 0), (.int (0) 0), (.ref 41), (.int (20) 0), (.int (0) 0), (.ref 48), (.int (46) 0), (.int (0) 0), (.ref 55)]), #[]⟩
noncomputable def ob80HA (P : Params) : Obj := ⟨(.type PySem.W.SZ.s17162191345867700912x4), none, (.cls { name := z172, bases := [(.type PySem.W.SZ.s2742458400755230247x6)], mro := [(.ref 80), (.type PySem.W.SZ.s2742458400755230247x6)], ns := 79, qualname := z172, hasDict := true, slotNames := [], subclasses := [], abstract := false, collection := none, hasDel := false }), #[none, none, some (.str z172 234), some (.str z172 242), some (.builtin PySem.W.SZ.s11443829558043349243x14), some (.bool true)]⟩
noncomputable def ob3HBb (P : Params) : Obj := ⟨(.type PySem.W.SZ.s14018661285674007319x4), none, (.dict #[dE P z0 165 (.str z199 232), dE P z2 166 .none, dE P z3 167 .none, dE P z4 168 (.builtin PySem.W.SZ.s7097527257260152453x26), dE P z5 169 .none, dE P z162 170 (.ref 6), dE P z163 171 (.ref 4), dE P z164 173 (.str z165 172), dE P z166 174 .none, dE P z167 193 (.ref 21), dE P z168 204 (.ref 28), dE P z169 213 (.ref 35), dE P z170 222 (.ref 42), dE P z171 231 (.ref 49), dE P z172 278 (.ref 80), dE P z173 309 (.ref 101)] 16), #[]⟩
noncomputable def ob12HBb (P : Params) : Obj := ⟨.none, none, (.fields #[(.int (1) 0), (.int (0) 0), (.ref 20), (.int (5) 0), (.int (0) 0), (.ref 27), (.int (10) 0), (.int (0) 0), (.ref 34), (.int (15) 0), (.int (0) 0), (.ref 41), (.int (20) 0), (.int (0) 0), (.ref 48), (.int (46) 0), (.int (0) 0), (.ref 55), (.int (59) 0), (.int (0) 0), (.ref 90)]), #[]⟩
noncomputable def ob3HC (P : Params) : Obj := ⟨(.type PySem.W.SZ.s14018661285674007319x4), none, (.dict #[dE P z0 165 (.str z199 232), dE P z2 166 .none, dE P z3 167 .none, dE P z4 168 (.builtin PySem.W.SZ.s7097527257260152453x26), dE P z5 169 .none, dE P z162 170 (.ref 6), dE P z163 171 (.ref 4), dE P z164 173 (.str z165 172), dE P z166 174 .none, dE P z167 193 (.ref 21), dE P z168 204 (.ref 28), dE P z169 213 (.ref 35), dE P z170 222 (.ref 42), dE P z171 231 (.ref 49), dE P z172 278 (.ref 80), dE P z173 309 (.ref 101), dE P z174 375 (.ref 149)] 17), #[]⟩
noncomputable def ob12HC (P : Params) : Obj := ⟨.none, none, (.fields #[(.int (1) 0), (.int (0) 0), (.ref 20), (.int (5) 0), (.int (0) 0), (.ref 27), (.int (10) 0), (.int (0) 0), (.ref 34), (.int (15) 0), (.int (0) 0), (.ref 41), (.int (20) 0), (.int (0) 0), (.ref 48), (.int (46) 0), (.int (0) 0), (.ref 55), (.int (59) 0), (.int (0) 0), (.ref 90), (.int (68) 0), (.int (0) 0), (.ref 109)]), #[]⟩
noncomputable def H0 (P : Params) : Heap := ⟨#[ob0 P, ob1 P, ob2 P, ob3H0 P, ob4 P, ob5 P, ob6 P, ob7 P, ob8 P, ob9 P, ob10 P, ob11 P, ob12H0 P, ob13 P, ob14 P], {}⟩
noncomputable def HA (P : Params) : Heap := ⟨#[ob0 P, ob1 P, ob2 P, ob3HA P, ob4 P, ob5 P, ob6 P, ob7 P, ob8 P, ob9 P, ob10 P, ob11 P, ob12HA P, ob13 P, ob14 P, ob15 P, ob16 P, ob17 P, ob18 P, ob19 P, ob20 P, ob21 P, ob22 P, ob23 P, ob24 P, ob25 P, ob26 P, ob27 P, ob28 P, ob29 P, ob30 P, ob31 P, ob32 P, ob33 P, ob34 P, ob35 P, ob36 P, ob37 P, ob38 P, ob39 P, ob40 P, ob41 P, ob42 P, ob43 P, ob44 P, ob45 P, ob46 P, ob47 P, ob48 P, ob49 P, ob50 P, ob51 P, ob52 P, ob53 P, ob54 P, ob55 P, ob56 P, ob57 P, ob58 P, ob59 P, ob60 P, ob61 P, ob62 P, ob63 P, ob64 P, ob65 P, ob66 P, ob67 P, ob68 P, ob69 P, ob70 P, ob71 P, ob72 P, ob73 P, ob74 P, ob75 P, ob76 P, ob77 P, ob78 P, ob79 P, ob80HA P, ob81 P, ob82 P, ob83 P, ob84 P], {}⟩
noncomputable def HBb (P : Params) : Heap := ⟨#[ob0 P, ob1 P, ob2 P, ob3HBb P, ob4 P, ob5 P, ob6 P, ob7 P, ob8 P, ob9 P, ob10 P, ob11 P, ob12HBb P, ob13 P, ob14 P, ob15 P, ob16 P, ob17 P, ob18 P, ob19 P, ob20 P, ob21 P, ob22 P, ob23 P, ob24 P, ob25 P, ob26 P, ob27 P, ob28 P, ob29 P, ob30 P, ob31 P, ob32 P, ob33 P, ob34 P, ob35 P, ob36 P, ob37 P, ob38 P, ob39 P, ob40 P, ob41 P, ob42 P, ob43 P, ob44 P, ob45 P, ob46 P, ob47 P, ob48 P, ob49 P, ob50 P, ob51 P, ob52 P, ob53 P, ob54 P, ob55 P, ob56 P, ob57 P, ob58 P, ob59 P, ob60 P, ob61 P, ob62 P, ob63 P, ob64 P, ob65 P, ob66 P, ob67 P, ob68 P, ob69 P, ob70 P, ob71 P, ob72 P, ob73 P, ob74 P, ob75 P, ob76 P, ob77 P, ob78 P, ob79 P, ob80 P, ob81 P, ob82 P, ob83 P, ob84 P, ob85 P, ob86 P, ob87 P, ob88 P, ob89 P, ob90 P, ob91 P, ob92 P, ob93 P, ob94 P, ob95 P, ob96 P, ob97 P, ob98 P, ob99 P, ob100 P, ob101 P, ob102 P, ob103 P], {}⟩
noncomputable def HC (P : Params) : Heap := ⟨#[ob0 P, ob1 P, ob2 P, ob3HC P, ob4 P, ob5 P, ob6 P, ob7 P, ob8 P, ob9 P, ob10 P, ob11 P, ob12HC P, ob13 P, ob14 P, ob15 P, ob16 P, ob17 P, ob18 P, ob19 P, ob20 P, ob21 P, ob22 P, ob23 P, ob24 P, ob25 P, ob26 P, ob27 P, ob28 P, ob29 P, ob30 P, ob31 P, ob32 P, ob33 P, ob34 P, ob35 P, ob36 P, ob37 P, ob38 P, ob39 P, ob40 P, ob41 P, ob42 P, ob43 P, ob44 P, ob45 P, ob46 P, ob47 P, ob48 P, ob49 P, ob50 P, ob51 P, ob52 P, ob53 P, ob54 P, ob55 P, ob56 P, ob57 P, ob58 P, ob59 P, ob60 P, ob61 P, ob62 P, ob63 P, ob64 P, ob65 P, ob66 P, ob67 P, ob68 P, ob69 P, ob70 P, ob71 P, ob72 P, ob73 P, ob74 P, ob75 P, ob76 P, ob77 P, ob78 P, ob79 P, ob80 P, ob81 P, ob82 P, ob83 P, ob84 P, ob85 P, ob86 P, ob87 P, ob88 P, ob89 P, ob90 P, ob91 P, ob92 P, ob93 P, ob94 P, ob95 P, ob96 P, ob97 P, ob98 P, ob99 P, ob100 P, ob101 P, ob102 P, ob103 P, ob104 P, ob105 P, ob106 P, ob107 P, ob108 P, ob109 P, ob110 P, ob111 P, ob112 P, ob113 P, ob114 P, ob115 P, ob116 P, ob117 P, ob118 P, ob119 P, ob120 P, ob121 P, ob122 P, ob123 P, ob124 P, ob125 P, ob126 P, ob127 P, ob128 P, ob129 P, ob130 P, ob131 P, ob132 P, ob133 P, ob134 P, ob135 P, ob136 P, ob137 P, ob138 P, ob139 P, ob140 P, ob141 P, ob142 P, ob143 P, ob144 P, ob145 P, ob146 P, ob147 P, ob148 P, ob149 P, ob150 P, ob151 P, ob152 P, ob153 P], {}⟩
/-- the whole heap -/
noncomputable def HB (P : Params) : Heap := ⟨#[ob0 P, ob1 P, ob2 P, ob3 P, ob4 P, ob5 P, ob6 P, ob7 P, ob8 P, ob9 P, ob10 P, ob11 P, ob12 P, ob13 P, ob14 P, ob15 P, ob16 P, ob17 P, ob18 P, ob19 P, ob20 P, ob21 P, ob22 P, ob23 P, ob24 P, ob25 P, ob26 P, ob27 P, ob28 P, ob29 P, ob30 P, ob31 P, ob32 P, ob33 P, ob34 P, ob35 P, ob36 P, ob37 P, ob38 P, ob39 P, ob40 P, ob41 P, ob42 P, ob43 P, ob44 P, ob45 P, ob46 P, ob47 P, ob48 P, ob49 P, ob50 P, ob51 P, ob52 P, ob53 P, ob54 P, ob55 P, ob56 P, ob57 P, ob58 P, ob59 P, ob60 P, ob61 P, ob62 P, ob63 P, ob64 P, ob65 P, ob66 P, ob67 P, ob68 P, ob69 P, ob70 P, ob71 P, ob72 P, ob73 P, ob74 P, ob75 P, ob76 P, ob77 P, ob78 P, ob79 P, ob80 P, ob81 P, ob82 P, ob83 P, ob84 P, ob85 P, ob86 P, ob87 P, ob88 P, ob89 P, ob90 P, ob91 P, ob92 P, ob93 P, ob94 P, ob95 P, ob96 P, ob97 P, ob98 P, ob99 P, ob100 P, ob101 P, ob102 P, ob103 P, ob104 P, ob105 P, ob106 P, ob107 P, ob108 P, ob109 P, ob110 P, ob111 P, ob112 P, ob113 P, ob114 P, ob115 P, ob116 P, ob117 P, ob118 P, ob119 P, ob120 P, ob121 P, ob122 P, ob123 P, ob124 P, ob125 P, ob126 P, ob127 P, ob128 P, ob129 P, ob130 P, ob131 P, ob132 P, ob133 P, ob134 P, ob135 P, ob136 P, ob137 P, ob138 P, ob139 P, ob140 P, ob141 P, ob142 P, ob143 P, ob144 P, ob145 P, ob146 P, ob147 P, ob148 P, ob149 P, ob150 P, ob151 P, ob152 P, ob153 P, ob154 P, ob155 P, ob156 P, ob157 P, ob158 P, ob159 P, ob160 P, ob161 P, ob162 P, ob163 P, ob164 P, ob165 P, ob166 P, ob167 P, ob168 P, ob169 P, ob170 P, ob171 P, ob172 P, ob173 P, ob174 P, ob175 P, ob176 P, ob177 P, ob178 P, ob179 P, ob180 P, ob181 P, ob182 P, ob183 P, ob184 P, ob185 P, ob186 P, ob187 P, ob188 P, ob189 P, ob190 P, ob191 P, ob192 P, ob193 P, ob194 P, ob195 P, ob196 P, ob197 P, ob198 P, ob199 P, ob200 P, ob201 P, ob202 P, ob203 P, ob204 P, ob205 P, ob206 P, ob207 P, ob208 P, ob209 P, ob210 P, ob211 P, ob212 P, ob213 P, ob214 P, ob215 P, ob216 P, ob217 P, ob218 P, ob219 P, ob220 P, ob221 P, ob222 P, ob223 P, ob224 P, ob225 P, ob226 P, ob227 P, ob228 P, ob229 P, ob230 P, ob231 P, ob232 P, ob233 P, ob234 P, ob235 P, ob236 P, ob237 P, ob238 P, ob239 P, ob240 P, ob241 P, ob242 P, ob243 P, ob244 P, ob245 P, ob246 P, ob247 P, ob248 P, ob249 P, ob250 P], {}⟩
noncomputable def atK : List Nat := [0, 1, 2, 3, 4, 5, 6, 7, 8, 9, 10, 11, 12, 13, 14, 15, 22, 23, 24, 25, 26, 27, 28, 29, 30, 31, 32, 33, 34, 35, 36, 37, 38, 39, 40, 41, 42, 43, 44, 45, 46, 47, 48, 49, 57, 58, 59, 60, 61, 62, 63, 64, 65, 66, 67, 68, 69, 70, 71, 72, 73, 74, 75, 76, 77, 78, 79, 80, 81, 82, 85, 92, 93, 94, 95, 96, 97, 98, 99, 100, 101, 111, 112, 113, 114, 115, 116, 117, 118, 119, 120, 121, 122, 123, 124, 125, 126, 127, 128, 129, 130, 131, 132, 133, 134, 135, 136, 137, 138, 139, 140, 141, 142, 143, 144, 145, 146, 147, 148, 149, 150, 151, 154, 155, 156, 157, 158, 159, 160, 161, 162, 163, 164, 165, 166, 167, 168, 169, 170, 171, 172, 173, 174, 175, 176, 177, 178, 179, 180, 181, 182, 183, 184, 185, 186, 187, 188, 189, 190, 191, 192, 193, 194, 195, 196, 197, 198, 199, 200, 201, 202, 203, 204, 205, 206, 207, 208, 209, 210, 211, 212, 213, 214, 215, 216, 217, 218, 219, 220, 221, 222, 223, 224, 225, 226, 227, 228, 229, 230, 231, 232, 233, 234, 235, 236, 237, 238, 239, 240, 241, 242, 243, 244, 245, 246, 247, 248, 249, 250]
noncomputable def KB (P : Params) : Frag := [(0, ob0 P), (1, ob1 P), (2, ob2 P), (3, ob3 P), (4, ob4 P), (5, ob5 P), (6, ob6 P), (7, ob7 P), (8, ob8 P), (9, ob9 P), (10, ob10 P), (11, ob11 P), (12, ob12 P), (13, ob13 P), (14, ob14 P), (15, ob15 P), (22, ob22 P), (23, ob23 P), (24, ob24 P), (25, ob25 P), (26, ob26 P), (27, ob27 P), (28, ob28 P), (29, ob29 P), (30, ob30 P), (31, ob31 P), (32, ob32 P), (33, ob33 P), (34, ob34 P), (35, ob35 P), (36, ob36 P), (37, ob37 P), (38, ob38 P), (39, ob39 P), (40, ob40 P), (41, ob41 P), (42, ob42 P), (43, ob43 P), (44, ob44 P), (45, ob45 P), (46, ob46 P), (47, ob47 P), (48, ob48 P), (49, ob49 P), (57, ob57 P), (58, ob58 P), (59, ob59 P), (60, ob60 P), (61, ob61 P), (62, ob62 P), (63, ob63 P), (64, ob64 P), (65, ob65 P), (66, ob66 P), (67, ob67 P), (68, ob68 P), (69, ob69 P), (70, ob70 P), (71, ob71 P), (72, ob72 P), (73, ob73 P), (74, ob74 P), (75, ob75 P), (76, ob76 P), (77, ob77 P), (78, ob78 P), (79, ob79 P), (80, ob80 P), (81, ob81 P), (82, ob82 P), (85, ob85 P), (92, ob92 P), (93, ob93 P), (94, ob94 P), (95, ob95 P), (96, ob96 P), (97, ob97 P), (98, ob98 P), (99, ob99 P), (100, ob100 P), (101, ob101 P), (111, ob111 P), (112, ob112 P), (113, ob113 P), (114, ob114 P), (115, ob115 P), (116, ob116 P), (117, ob117 P), (118, ob118 P), (119, ob119 P), (120, ob120 P), (121, ob121 P), (122, ob122 P), (123, ob123 P), (124, ob124 P), (125, ob125 P), (126, ob126 P), (127, ob127 P), (128, ob128 P), (129, ob129 P), (130, ob130 P), (131, ob131 P), (132, ob132 P), (133, ob133 P), (134, ob134 P), (135, ob135 P), (136, ob136 P), (137, ob137 P), (138, ob138 P), (139, ob139 P), (140, ob140 P), (141, ob141 P), (142, ob142 P), (143, ob143 P), (144, ob144 P), (145, ob145 P), (146, ob146 P), (147, ob147 P), (148, ob148 P), (149, ob149 P), (150, ob150 P), (151, ob151 P), (154, ob154 P), (155, ob155 P), (156, ob156 P), (157, ob157 P), (158, ob158 P), (159, ob159 P), (160, ob160 P), (161, ob161 P), (162, ob162 P), (163, ob163 P), (164, ob164 P), (165, ob165 P), (166, ob166 P), (167, ob167 P), (168, ob168 P), (169, ob169 P), (170, ob170 P), (171, ob171 P), (172, ob172 P), (173, ob173 P), (174, ob174 P), (175, ob175 P), (176, ob176 P), (177, ob177 P), (178, ob178 P), (179, ob179 P), (180, ob180 P), (181, ob181 P), (182, ob182 P), (183, ob183 P), (184, ob184 P), (185, ob185 P), (186, ob186 P), (187, ob187 P), (188, ob188 P), (189, ob189 P), (190, ob190 P), (191, ob191 P), (192, ob192 P), (193, ob193 P), (194, ob194 P), (195, ob195 P), (196, ob196 P), (197, ob197 P), (198, ob198 P), (199, ob199 P), (200, ob200 P), (201, ob201 P), (202, ob202 P), (203, ob203 P), (204, ob204 P), (205, ob205 P), (206, ob206 P), (207, ob207 P), (208, ob208 P), (209, ob209 P), (210, ob210 P), (211, ob211 P), (212, ob212 P), (213, ob213 P), (214, ob214 P), (215, ob215 P), (216, ob216 P), (217, ob217 P), (218, ob218 P), (219, ob219 P), (220, ob220 P), (221, ob221 P), (222, ob222 P), (223, ob223 P), (224, ob224 P), (225, ob225 P), (226, ob226 P), (227, ob227 P), (228, ob228 P), (229, ob229 P), (230, ob230 P), (231, ob231 P), (232, ob232 P), (233, ob233 P), (234, ob234 P), (235, ob235 P), (236, ob236 P), (237, ob237 P), (238, ob238 P), (239, ob239 P), (240, ob240 P), (241, ob241 P), (242, ob242 P), (243, ob243 P), (244, ob244 P), (245, ob245 P), (246, ob246 P), (247, ob247 P), (248, ob248 P), (249, ob249 P), (250, ob250 P)]
end Mine
end
section
open PySem PySem.W PySem.W.X PyProof.Rows PySem.Calls
set_option Elab.async false
set_option maxRecDepth 100000
set_option maxHeartbeats 0
namespace Mine
abbrev pw : Program := PySem.Challenge.pw_ij0028_01
/-- the law's def alone -/
def lastOf (p : Program) : Program := { p with main := { p.main with body := p.main.body.drop 25 } }
def atomS (l : List Nat) : Str := ⟨⟨l⟩⟩
noncomputable def looseV : List Str := [⟨⟨[95, 119, 97, 108, 108]⟩⟩, ⟨⟨[95, 103, 116, 95, 102, 114, 111, 109, 95, 108, 116]⟩⟩, ⟨⟨[95, 108, 101, 95, 102, 114, 111, 109, 95, 108, 116]⟩⟩, ⟨⟨[95, 103, 101, 95, 102, 114, 111, 109, 95, 108, 116]⟩⟩, ⟨⟨[99, 109, 112, 95, 116, 111, 95, 107, 101, 121]⟩⟩, ⟨⟨[66, 97, 115, 101, 72, 97, 110, 100, 108, 101, 114]⟩⟩, ⟨⟨[72, 84, 84, 80, 69, 114, 114, 111, 114, 80, 114, 111, 99, 101, 115, 115, 111, 114]⟩⟩, ⟨⟨[72, 84, 84, 80, 80, 97, 115, 115, 119, 111, 114, 100, 77, 103, 114]⟩⟩, ⟨⟨[95, 108, 97, 119, 95, 97, 110, 115, 119, 101, 114, 115]⟩⟩, ⟨⟨[95, 108, 97, 119, 95, 99, 111, 109, 112, 97, 114, 105, 115, 111, 110]⟩⟩, ⟨⟨[95, 108, 97, 119, 95, 118, 111, 116, 101, 115]⟩⟩, ⟨⟨[95, 108, 97, 119, 95, 104, 97, 110, 100, 108, 101, 114, 115]⟩⟩, ⟨⟨[95, 108, 97, 119, 95, 98, 101, 97, 114, 101, 114]⟩⟩, ⟨⟨[95, 108, 97, 119, 95, 108, 97, 115, 116]⟩⟩, ⟨⟨[95, 108, 97, 119, 95, 97, 115, 107, 115]⟩⟩, ⟨⟨[95, 108, 97, 119, 95, 119, 111, 114, 116, 104]⟩⟩, ⟨⟨[95, 108, 97, 119, 95, 109, 97, 100, 101]⟩⟩, ⟨⟨[95, 108, 97, 119, 95, 109, 111, 114, 101]⟩⟩, ⟨⟨[95, 108, 97, 119, 95, 114, 117, 110, 115]⟩⟩, ⟨⟨[95, 108, 97, 119, 95, 100, 117, 101, 95, 111, 102, 95, 107, 101, 121, 115]⟩⟩, ⟨⟨[95, 108, 97, 119, 95, 100, 117, 101, 95, 111, 102, 95, 104, 97, 110, 100, 108, 101, 114, 115]⟩⟩, ⟨⟨[95, 108, 97, 119, 95, 115, 116, 114, 97, 110, 103, 101]⟩⟩]
def envP (p : Program) : Env := { scope := p.main.scope, locals := mainNs, globals := mainNs, cells := [], code := .ref 13, frame := some 14 }
def codeP (p : Program) : Code := .body (behindTheImports p) (envP p)
def pos0 : Pos := { line := 0, col := 0, endLine := 0, endCol := 0 }
abbrev posA : Pos := { line := 46, col := 0, endLine := 58, endCol := 55 }
abbrev posB : Pos := { line := 59, col := 0, endLine := 67, endCol := 34 }
abbrev posC : Pos := { line := 68, col := 0, endLine := 83, endCol := 16 }
abbrev posD : Pos := { line := 157, col := 0, endLine := 178, endCol := 15 }
theorem run_pre (w : World) (os : OsState) : topGo treeTable pw w 11 (some (.ref 6)) 12 ⟨boot_heap w.params, #[], boot_drawn, boot_toks, os⟩ (topStub pw) = some (⟨H0 w.params, #[], {}, 187, os⟩, ⟨denote treeTable (codeP pw), codeP pw, pos0, [topFrame pos0]⟩) := by
  unfold pw
  rw [PySem.W.Fast.te15667345088766844465, PySem.W.Fast.te11892475500146522536, PySem.W.Fast.te14364793385576792824, PySem.W.Fast.te4143398806694328638]
  kernel_rfl
theorem run_block (w : World) (os : OsState) : segRun treeTable pw w 11 (some (.ref 6)) 1 1 ⟨H0 w.params, #[], {}, 187, os⟩ (blockOf (behindTheImports pw) (envP pw) (codeP pw) pos0 [topFrame pos0]) = some (.next, ⟨H0 w.params, #[], {}, 187, os⟩, codeP pw, pos0) := by
  unfold pw
  rw [PySem.W.Fast.te14374325043358763698, PySem.W.Fast.te14364793385576792824, PySem.W.Fast.te4143398806694328638]
  kernel_rfl
theorem run_a (w : World) (os : OsState) : segRun treeTable pw w 11 (some (.ref 6)) 1 466 ⟨H0 w.params, #[], {}, 187, os⟩ (piecesOf ((behindTheImports pw).take 8) (envP pw) (codeP pw) pos0 [topFrame pos0]) = some (.next, ⟨HA w.params, #[], {}, 279, os⟩, codeP pw, posA) := by
  unfold pw
  rw [PySem.W.Fast.te14374325043358763698, PySem.W.Fast.te14364793385576792824, PySem.W.Fast.te4143398806694328638]
  kernel_rfl
theorem run_b1 (w : World) (os : OsState) : segRun treeTable pw w 11 (some (.ref 6)) 1 272 ⟨HA w.params, #[], {}, 279, os⟩ (piecesOf (((behindTheImports pw).drop 8).take 1) (envP pw) (codeP pw) posA [topFrame pos0]) = some (.next, ⟨HBb w.params, #[], {}, 310, os⟩, codeP pw, posB) := by
  unfold pw
  rw [PySem.W.Fast.te14374325043358763698, PySem.W.Fast.te14364793385576792824, PySem.W.Fast.te4143398806694328638]
  kernel_rfl
theorem run_c1 (w : World) (os : OsState) : segRun treeTable pw w 11 (some (.ref 6)) 1 357 ⟨HBb w.params, #[], {}, 310, os⟩ (piecesOf (((behindTheImports pw).drop 9).take 1) (envP pw) (codeP pw) posB [topFrame pos0]) = some (.next, ⟨HC w.params, #[], {}, 376, os⟩, codeP pw, posC) := by
  unfold pw
  rw [PySem.W.Fast.te14374325043358763698, PySem.W.Fast.te14364793385576792824, PySem.W.Fast.te4143398806694328638]
  kernel_rfl
theorem run_d (w : World) (os : OsState) : segRun treeTable pw w 11 (some (.ref 6)) 1 468 ⟨HC w.params, #[], {}, 376, os⟩ (piecesOf ((behindTheImports pw).drop 10) (envP pw) (codeP pw) posC [topFrame pos0]) = some (.next, ⟨HB w.params, #[], {}, 513, os⟩, codeP pw, posD) := by
  unfold pw
  rw [PySem.W.Fast.te14374325043358763698, PySem.W.Fast.te14364793385576792824, PySem.W.Fast.te4143398806694328638]
  kernel_rfl
theorem run_fin (w : World) (os : OsState) : topRun treeTable pw w 11 (some (.ref 6)) 2 ⟨HB w.params, #[], {}, 513, os⟩ ⟨doneF .next, codeP pw, posD, [topFrame pos0]⟩ = some ⟨HB w.params, #[], {}, 513, os⟩ := by
  unfold pw
  rw [PySem.W.Fast.te14082659384304107361, PySem.W.Fast.te14364793385576792824, PySem.W.Fast.te4143398806694328638]
  kernel_rfl
theorem in_four (b : List Stmt) : b = b.take 8 ++ ((b.drop 8).take 1 ++ ((b.drop 9).take 1 ++ (b.drop 10 ++ []))) := by
  rw [List.append_nil, ← List.drop_drop (i := 1) (j := 9), List.take_append_drop, ← List.drop_drop (i := 1) (j := 8), List.take_append_drop, List.take_append_drop]
theorem runs (w : World) (os : OsState) : topRun treeTable pw w 11 (some (.ref 6)) (12 + (1 + (466 + (272 + (357 + (468 + 2)))))) ⟨boot_heap w.params, #[], boot_drawn, boot_toks, os⟩ (topStub pw) = some ⟨HB w.params, #[], {}, 513, os⟩ := by
  refine go_top (run_pre w os) (piece_block (run_block w os) ?_)
  refine (congrArg (fun l => topRun treeTable pw w 11 (some (.ref 6)) _ _ (restOf l (envP pw) (codeP pw) pos0 [topFrame pos0])) (in_four (behindTheImports pw))).trans ?_
  exact piece_app (run_a w os) (piece_app (run_b1 w os) (piece_app (run_c1 w os) (piece_app (run_d w os) (piece_nil (run_fin w os)))))
theorem looks (w : World) : (fun os => ((staticsOk (importedModules pw.main.body) (boot_heap w.params) (HB w.params) && namesBound pw (HB w.params) && gensDone ⟨HB w.params, #[], {}, 513, os⟩ && laidKept (boot_heap w.params) (HB w.params)),
        openSeen (lastOf pw) looseV (importedModules pw.main.body) (recOk []) true ⟨HB w.params, #[], {}, 513, os⟩, obsZ atK ⟨HB w.params, #[], {}, 513, os⟩)) = fun _ => (true, openGood (lastOf pw) looseV, valZ KB 251 513 w) := by
  unfold pw
  rw [PySem.W.Fast.te5923862056798008813, PySem.W.Fast.te4187177175401517315, PySem.W.Fast.te4143398806694328638]
  kernel_rfl
theorem opens : ∀ w : World, (fencedOpening treeTable pw w 1600).map (fun s => (s.heap, s.gens, s.drawn, s.toks)) = some (boot_heap w.params, #[], boot_drawn, boot_toks) :=
  boot_open (by kernel_rfl) (by decide) (fun s => by kernel_rfl)
theorem sizes (w : World) : ((boot_heap w.params).isNs mainGlobals && (#[] : Array GenState).size == 0, (boot_heap w.params).objs.size, (boot_heap w.params).nsMap mainGlobals "__annotations__") = (true, 11, some (.ref 6)) := by kernel_rfl
theorem left : LeftO pw (lastOf pw) looseV (recOk []) (obsZ atK) (valZ KB 251 513) 1600 := LeftO.of_pieces opens sizes runs (by decide) looks
end Mine
end
section
open PySem PySem.W PySem.W.X PyProof.Rows
set_option Elab.async false
set_option maxRecDepth 100000
set_option maxHeartbeats 0
namespace Mine
/-! z_head in here is rolled back: its names alone are kept, and the trees are laid under them below -/
def rwC : OpenLaw := { PySem.Challenge.rw_ij0028_01 with name := "_law_comparison" }
def rwB : OpenLaw := { PySem.Challenge.rw_ij0028_01 with name := "cmp_to_key" }
def rwK : OpenLaw := { PySem.Challenge.rw_ij0028_01 with name := "__builtins__" }
theorem regC : True ∨ rwC.row.Holds := by
  first
  | (right; z_head; fail)
  | exact .inl trivial
noncomputable def regC.ktop_65 (P : Params) : KT := (.node (some (ob0 P)) (.node (some (ob1 P)) (.node (some (ob3 P)) (.node (some (ob7 P)) (.node (some (ob15 P)) (.node none .nil (.node none (.node (some (ob159 P)) .nil .nil) .nil)) .nil) .nil) (.node (some (ob11 P)) (.node none (.node none .nil (.node none (.node (some (ob163 P)) .nil .nil) .nil)) .nil) .nil)) (.node (some (ob5 P)) (.node (some (ob9 P)) (.node none (.node none .nil (.node none (.node (some (ob161 P)) .nil .nil) .nil)) .nil) .nil) (.node (some (ob13 P)) (.node none (.node none .nil (.node none (.node (some (ob165 P)) .nil .nil) .nil)) .nil) .nil))) (.node (some (ob2 P)) (.node (some (ob4 P)) (.node (some (ob8 P)) (.node none (.node none .nil (.node none (.node (some (ob160 P)) .nil .nil) .nil)) .nil) .nil) (.node (some (ob12 P)) (.node none (.node none .nil (.node none (.node (some (ob164 P)) .nil .nil) .nil)) .nil) .nil)) (.node (some (ob6 P)) (.node (some (ob10 P)) (.node none (.node none .nil (.node none (.node (some (ob162 P)) .nil .nil) .nil)) .nil) .nil) (.node (some (ob14 P)) .nil .nil))))
noncomputable def regC.zo_9 (P : Params) : Obj := ob8 P
noncomputable def regC.zo_10 (P : Params) : Obj := ob9 P
noncomputable def regC.zo_13 (P : Params) : Obj := ob12 P
noncomputable def regC.zo_14 (P : Params) : Obj := ob13 P
noncomputable def regC.zo_18 (P : Params) : Obj := ob160 P
noncomputable def regC.zo_22 (P : Params) : Obj := ob164 P
section
local macro_rules | `(tactic| exfalso) => `(tactic| (
  refine left0 ?_ ?_
  · have D := ‹Rep _ _ _ _ _›
    have X := frag_in D ‹KT.Holds _ _ _ _› [2] (by kernel_rfl)
    refine ‹AfterC _ _ _ _› _ _ _ X ⟨?_, ?_⟩ ?_ ?_ ?_ ?_ ?_ ?_ ?_
    · kernel_rfl
    · kernel_rfl
    · kernel_rfl
    · kernel_rfl
    · kernel_rfl
    · kernel_rfl
    · exact D.size
    · exact rep_keeps D [160] (by kernel_rfl)
    · exact ⟨_, (D.ch 160 #[.int 91 0, .int 4 0, .ref 309] (by kernel_rfl)).1⟩))
theorem e1a (w : World) (hh : Heap) (g : Array GenState) (d : Drawn) (t : Nat) (os : OsState) (hg : g = #[]) (hsz : hh.objs.size = 299) (KX : KT.Holds hh 1 0 (regC.ktop_65 w.params))
   (Q : Value → Shared → Prop) (E : Value → Shared → Prop) (hQ : AfterC hh d os Q) :
    wpAny (model PySem.Challenge.rw_ij0028_01.row.prog w) AX (PySem.call (.ref 165) [.ref 291, .ref 253, .ref 256] []) Q E ⟨hh, g, d, t, os⟩ := by
  z_run
end
theorem regB : True ∨ rwB.row.Holds := by
  first
  | (right; z_head; fail)
  | exact .inl trivial
noncomputable def regB.ktop_51 (P : Params) : KT := (.node (some (ob0 P)) (.node (some (ob1 P)) (.node (some (ob3 P)) (.node (some (ob7 P)) (.node (some (ob15 P)) .nil (.node (some (ob47 P)) .nil .nil)) .nil) (.node (some (ob11 P)) .nil (.node none (.node (some (ob43 P)) .nil .nil) .nil))) (.node (some (ob5 P)) (.node (some (ob9 P)) (.node none .nil (.node (some (ob49 P)) .nil .nil)) .nil) (.node (some (ob13 P)) .nil (.node none (.node (some (ob45 P)) .nil .nil) .nil)))) (.node (some (ob2 P)) (.node (some (ob4 P)) (.node (some (ob8 P)) (.node none .nil (.node (some (ob48 P)) .nil .nil)) .nil) (.node (some (ob12 P)) .nil (.node none (.node (some (ob44 P)) .nil .nil) .nil))) (.node (some (ob6 P)) (.node (some (ob10 P)) .nil .nil) (.node (some (ob14 P)) .nil (.node none (.node (some (ob46 P)) .nil .nil) .nil)))))
noncomputable def regB.zo_9 (P : Params) : Obj := ob8 P
noncomputable def regB.zo_10 (P : Params) : Obj := ob9 P
noncomputable def regB.zo_13 (P : Params) : Obj := ob12 P
noncomputable def regB.zo_14 (P : Params) : Obj := ob13 P
noncomputable def regB.zo_18 (P : Params) : Obj := ob44 P
noncomputable def regB.zo_22 (P : Params) : Obj := ob48 P
section
local macro_rules | `(tactic| exfalso) => `(tactic| (
  refine left0 ?_ ?_
  · have D := ‹Rep _ _ _ _ _›
    have X := frag_in D ‹KT.Holds _ _ _ _› [2] (by kernel_rfl)
    refine ‹AfterK1 _ _ _ _› _ _ _ X ⟨⟨?_, ?_, ?_, ?_⟩, ⟨?_, ?_, ?_⟩, ⟨?_, ?_⟩, ⟨?_, ?_⟩, ⟨?_, ?_⟩, ⟨?_, ?_⟩, ⟨?_, ?_⟩, ?_, ⟨?_, ?_⟩⟩ ⟨?_, ?_, ?_, ?_, ?_, ?_, ?_, ?_⟩ ⟨?_, ?_, ?_, ?_, ?_, ?_⟩ ?_ ?_ ?_ ?_ ?_ (codesMk X (D.ch 44 #[.int 22 0, .int 4 0, .ref 318] ?_).1 ?_ ?_ ?_) ?_ ?_
    · kernel_rfl
    · kernel_rfl
    · intro od; kernel_rfl
    · kernel_rfl
    · intro op ho hn; cases op <;> first | exact absurd rfl hn | (cases ho; done) | exact ⟨by kernel_rfl, by kernel_rfl⟩
    · kernel_rfl
    · kernel_rfl
    · kernel_rfl
    · kernel_rfl
    · kernel_rfl
    · kernel_rfl
    · kernel_rfl
    · kernel_rfl
    · kernel_rfl
    · kernel_rfl
    · kernel_rfl
    · kernel_rfl
    · exact ⟨{ cls := .type "cell", data := .cell (some (.ref 310)) }, by kernel_rfl, rfl⟩
    · kernel_rfl
    · kernel_rfl
    · kernel_rfl
    · kernel_rfl
    · kernel_rfl
    · kernel_rfl
    · kernel_rfl
    · kernel_rfl
    · kernel_rfl
    · kernel_rfl
    · kernel_rfl
    · kernel_rfl
    · kernel_rfl
    · kernel_rfl
    · kernel_rfl
    · kernel_rfl
    · kernel_rfl
    · kernel_rfl
    · kernel_rfl
    · kernel_rfl
    · kernel_rfl
    · kernel_rfl
    · kernel_rfl
    · kernel_rfl
    · kernel_rfl
    · exact D.size
    · exact rep_keeps D [44] (by kernel_rfl)))
theorem e1b (w : World) (hh : Heap) (g : Array GenState) (d : Drawn) (t : Nat) (os : OsState) (hg : g = #[]) (hsz : hh.objs.size = 311) (KX : KT.Holds hh 1 0 (regB.ktop_51 w.params))
   (Q : Value → Shared → Prop) (E : Value → Shared → Prop) (hQ : AfterK1 hh d os Q) :
    wpAny (model PySem.Challenge.rw_ij0028_01.row.prog w) AX (PySem.call (.ref 49) [.ref 310] []) Q E ⟨hh, g, d, t, os⟩ := by
  z_run
end
theorem regK : True ∨ rwK.row.Holds := by
  first
  | (right; z_head; fail)
  | exact .inl trivial
noncomputable def regK.ktop_31 (P : Params) : KT := (.node (some (ob0 P)) (.node (some (ob1 P)) (.node (some (ob3 P)) (.node (some (ob7 P)) (.node (some (ob15 P)) .nil (.node (some (ob47 P)) .nil .nil)) .nil) (.node (some (ob11 P)) .nil (.node none (.node (some (ob43 P)) .nil .nil) .nil))) (.node (some (ob5 P)) (.node (some (ob9 P)) (.node none .nil (.node (some (ob49 P)) .nil .nil)) .nil) (.node (some (ob13 P)) .nil (.node none (.node (some (ob45 P)) .nil .nil) .nil)))) (.node (some (ob2 P)) (.node (some (ob4 P)) (.node (some (ob8 P)) (.node none .nil (.node (some (ob48 P)) .nil .nil)) .nil) (.node (some (ob12 P)) .nil .nil)) (.node (some (ob6 P)) (.node (some (ob10 P)) .nil .nil) (.node (some (ob14 P)) .nil (.node none (.node (some (ob46 P)) .nil .nil) .nil)))))
noncomputable def regK.zo_9 (P : Params) : Obj := ob8 P
noncomputable def regK.zo_10 (P : Params) : Obj := ob9 P
noncomputable def regK.zo_13 (P : Params) : Obj := ob12 P
noncomputable def regK.zo_14 (P : Params) : Obj := ob13 P
section
local macro_rules | `(tactic| exfalso) => `(tactic| (
  refine left0 ?_ ?_
  · have D := ‹Rep _ _ _ _ _›
    have X := in_append (codes_in (‹QsAt _ _ _›.keeps (rep_all D rfl))) (frag_in D ‹KT.Holds _ _ _ _› [2] (by kernel_rfl))
    refine ‹AfterK2 _ _ _ _ _› _ _ _ X ⟨⟨?_, ?_, ?_, ?_⟩, ⟨?_, ?_, ?_⟩, ⟨?_, ?_⟩, ⟨?_, ?_⟩, ⟨?_, ?_⟩, ⟨?_, ?_⟩, ⟨?_, ?_⟩, ?_, ⟨?_, ?_⟩⟩ ⟨?_, ?_, ?_, ?_, ?_, ?_, ?_, ?_⟩ ⟨?_, ?_, ?_, ?_, ?_, ?_⟩ ?_ ?_ ?_ ?_ ?_ ?_ ?_
    · kernel_rfl
    · kernel_rfl
    · intro od; kernel_rfl
    · kernel_rfl
    · intro op ho hn; cases op <;> first | exact absurd rfl hn | (cases ho; done) | exact ⟨by kernel_rfl, by kernel_rfl⟩
    · kernel_rfl
    · kernel_rfl
    · kernel_rfl
    · kernel_rfl
    · kernel_rfl
    · kernel_rfl
    · kernel_rfl
    · kernel_rfl
    · kernel_rfl
    · kernel_rfl
    · kernel_rfl
    · kernel_rfl
    · exact ⟨{ cls := .type "cell", data := .cell (some (.ref 172)) }, by kernel_rfl, rfl⟩
    · kernel_rfl
    · kernel_rfl
    · kernel_rfl
    · kernel_rfl
    · kernel_rfl
    · kernel_rfl
    · kernel_rfl
    · kernel_rfl
    · kernel_rfl
    · kernel_rfl
    · kernel_rfl
    · kernel_rfl
    · kernel_rfl
    · kernel_rfl
    · kernel_rfl
    · kernel_rfl
    · kernel_rfl
    · kernel_rfl
    · kernel_rfl
    · kernel_rfl
    · kernel_rfl
    · exact D.size
    · exact rep_all D rfl))
theorem e1c (w : World) (hh : Heap) (g : Array GenState) (d : Drawn) (t : Nat) (os : OsState) (hg : g = #[]) (hsz : hh.objs.size = 391)
   (c44 : hh.get? 44 = some { cls := .none, data := .fields #[.int 22 0, .int 4 0, .ref 318] }) (v : Nat → Value) (c318 : hh.get? 318 = some { cls := .type "code", data := .fields #[v 0, v 1, v 2, v 3, v 4, v 5, v 6, v 7, v 8, v 9, v 10, .ref 317, v 12, v 13, v 14, v 15, v 16, v 17, v 18] })
   (c317 : hh.get? 317 = some { cls := .none, data := .fields #[.int 26 0, .int 8 0, .ref 326, .int 29 0, .int 8 0, .ref 334, .int 32 0, .int 8 0, .ref 342, .int 35 0, .int 8 0, .ref 350, .int 38 0, .int 8 0, .ref 358, .int 41 0, .int 8 0, .ref 366] }) (tq : Nat → Nat) (vq : Nat → Nat → Value) (hq : QsAt hh tq vq)
   (KX : KT.Holds hh 1 0 (regK.ktop_31 w.params)) (Q : Value → Shared → Prop) (E : Value → Shared → Prop) (hQ : AfterK2 hh d os 391 Q) :
    wpAny (model PySem.Challenge.rw_ij0028_01.row.prog w) AX (PySem.call (.ref 49) [.ref 172] []) Q E ⟨hh, g, d, t, os⟩ := by
  z_run
theorem e1d (w : World) (hh : Heap) (g : Array GenState) (d : Drawn) (t : Nat) (os : OsState) (hg : g = #[]) (hsz : hh.objs.size = 429)
   (c44 : hh.get? 44 = some { cls := .none, data := .fields #[.int 22 0, .int 4 0, .ref 318] }) (v : Nat → Value) (c318 : hh.get? 318 = some { cls := .type "code", data := .fields #[v 0, v 1, v 2, v 3, v 4, v 5, v 6, v 7, v 8, v 9, v 10, .ref 317, v 12, v 13, v 14, v 15, v 16, v 17, v 18] })
   (c317 : hh.get? 317 = some { cls := .none, data := .fields #[.int 26 0, .int 8 0, .ref 326, .int 29 0, .int 8 0, .ref 334, .int 32 0, .int 8 0, .ref 342, .int 35 0, .int 8 0, .ref 350, .int 38 0, .int 8 0, .ref 358, .int 41 0, .int 8 0, .ref 366] }) (tq : Nat → Nat) (vq : Nat → Nat → Value) (hq : QsAt hh tq vq)
   (KX : KT.Holds hh 1 0 (regK.ktop_31 w.params)) (Q : Value → Shared → Prop) (E : Value → Shared → Prop) (hQ : AfterK2 hh d os 429 Q) :
    wpAny (model PySem.Challenge.rw_ij0028_01.row.prog w) AX (PySem.call (.ref 49) [.ref 172] []) Q E ⟨hh, g, d, t, os⟩ := by
  z_run
end
end Mine
end
section
open PySem PySem.W PySem.W.X PyProof.Rows PySem.Calls
set_option Elab.async false
set_option maxRecDepth 100000
set_option maxHeartbeats 0
namespace Mine
theorem lookup_sieve {f : Nat → Bool} {a : Addr} {o : Obj} : ∀ {K : Frag}, (K.filter fun p => f p.1).lookup a = some o → f a = true ∧ K.lookup a = some o
  | [], e => nomatch e
  | (b, x) :: r, e => by
    cases q : f b with
    | true =>
      rw [List.filter_cons_of_pos (by exact q)] at e
      simp only [List.lookup] at e ⊢
      split at e
      · rename_i z; exact ⟨beq_iff_eq.mp z ▸ q, e⟩
      · exact lookup_sieve e
    | false =>
      rw [List.filter_cons_of_neg (by simp [q])] at e
      obtain ⟨e1, e2⟩ := lookup_sieve e
      refine ⟨e1, ?_⟩
      simp only [List.lookup]
      split
      · rename_i z; rw [beq_iff_eq.mp z, q] at e1; cases e1
      · exact e2
/-- the objects but for the four tables -/
noncomputable def KL (P : Params) : Frag := (KB P).filter fun p => !(hidZ.contains p.1)
theorem kl_in {P : Params} {h : Heap} (X : (KB P).In h) : (KL P).In (hideAll h hidZ) := by
  intro a o e
  obtain ⟨e1, e2⟩ := lookup_sieve (f := fun b => !(hidZ.contains b)) e
  exact hideAll_get _ (X _ _ e2) fun hm => by
    rw [List.contains_iff_mem.mpr hm] at e1; cases e1
theorem ns_hid {h : Heap} {a : Addr} {m : Str → Option Value} (n : h.Ns a m) (ha : a ∉ hidZ) : (hideAll h hidZ).Ns a m :=
  let ⟨x, es, ep, e, r⟩ := n; ⟨x, es, ep, hideAll_get _ e ha, r⟩
theorem h_facts (w : World) : HFacts (KL w.params) where
  lt := by intro i; cases i <;> kernel_rfl
  gt := by intro i; cases i <;> kernel_rfl
  eq := by intro i; cases i <;> kernel_rfl
  ne := by intro i; cases i <;> kernel_rfl
  obj := by intro i; cases i <;> kernel_rfl
  fn := by kernel_rfl
  sub := by kernel_rfl
  nsub := by kernel_rfl
  hga := by intro i; cases i <;> kernel_rfl
  hm := by intro i; cases i <;> kernel_rfl
  hf := by intro i w u k; cases i <;> kernel_rfl
  ga := by intro i; cases i <;> kernel_rfl
  reads := by intro i; cases i <;> kernel_rfl
  flt := by intro i; cases i <;> kernel_rfl
  nfB := by intro i; cases i <;> kernel_rfl
  nf0 := by intro i; cases i <;> kernel_rfl
theorem h_make (w : World) (i : Bool) : HMake (KL w.params) (hcls i) where
  makes := by cases i <;> kernel_rfl
  init := by cases i <;> kernel_rfl
  set := by cases i <;> kernel_rfl
  over := by cases i <;> kernel_rfl
  taker := by cases i <;> kernel_rfl
  dict := by cases i <;> kernel_rfl
  keep := by cases i <;> kernel_rfl
theorem b_make (w : World) : BMake (KL w.params) 149 117 where
  makes := by kernel_rfl
  init := by kernel_rfl
  fn := by kernel_rfl
  set := by kernel_rfl
  over := by kernel_rfl
  takerP := by kernel_rfl
  takerO := by kernel_rfl
  dict := by kernel_rfl
  keep := by kernel_rfl
/-- a def's text at its address -/
theorem at_ (w : World) : FnIs (KL w.params) tGt [] 28 ∧ FnIs (KL w.params) tLe [] 35 ∧ FnIs (KL w.params) tGe [] 42 ∧ FnIs (KL w.params) tBlt [] 77 ∧ FnIs (KL w.params) tMgrInit [] 117 ∧ FnIs (KL w.params) tAnswers [] 158 ∧ FnIs (KL w.params) tVotes [] 172 ∧
    FnIs (KL w.params) tHands [] 179 ∧ FnIs (KL w.params) tBearer [] 186 ∧ FnIs (KL w.params) tLast [] 193 ∧ FnIs (KL w.params) tAsks [] 198 ∧ FnIs (KL w.params) tWorth [] 205 ∧ FnIs (KL w.params) tRuns [] 226 ∧ FnIs (KL w.params) tDueK [] 231 ∧ FnIs (KL w.params) tDueH [] 238 ∧
    FnIs (KL w.params) tStrange [] 243 := by
  refine ⟨?_, ?_, ?_, ?_, ?_, ?_, ?_, ?_, ?_, ?_, ?_, ?_, ?_, ?_, ?_, ?_⟩ <;> exact ⟨by kernel_rfl, by kernel_rfl⟩
end Mine
end
section
open PySem PySem.W PySem.W.X PyProof.Rows PySem.Calls
set_option Elab.async false
set_option maxRecDepth 100000
set_option maxHeartbeats 0
namespace Mine
section
variable {w : World} {h0 : Heap} {mg mb : Str → Option Value} {loose : List Str} {mean : ExcName → Option Value}
theorem def_c {K : Frag} {B : Heap} {T : Txt} {a c : Addr} {q : Str} (X : K.In B) (F : FnIs K T [] a) (e1 : (fdOf K a).code = .ref c) (e2 : (fdOf K a).qualname = q) : DefC B T a c q := by
  have g := X _ _ F.1
  have r := F.rec X
  rw [e1, e2] at g r
  exact ⟨_, _, _, _, _, _, _, g, r⟩
theorem fn_made (w : World) : FnIs (KL w.params) tMade [] 212 ∧ FnIs (KL w.params) tMore [] 219 := ⟨⟨by kernel_rfl, by kernel_rfl⟩, ⟨by kernel_rfl, by kernel_rfl⟩⟩
theorem law_facts (XK : (KB w.params).In h0) (T : Top (lastOf pw) loose mean mg mb h0) : Lw0 (KL w.params) (hideAll h0 hidZ) mg mb (.int 500 246) := by
  have X := kl_in XK
  have G : Glob (hideAll h0 hidZ) mg mb := ⟨ns_hid T.g (by decide), ns_hid T.b (by decide), let ⟨mc, n, e⟩ := T.nolimit; ⟨mc, ns_hid n (by decide), e⟩⟩
  obtain ⟨aGt, aLe, aGe, aBlt, aInit, aAns, aVotes, aHands, aBearer, aLast, aAsks, aWorth, aRuns, aDueK, aDueH, aStr⟩ := at_ w
  have bi : ∀ P, P ≠ 4 → ∃ bm ob, mg "__builtins__" = some (.ref bm) ∧ bm ≠ builtinsNs ∧ bm ≠ mainGlobals ∧ bm ≠ P ∧ (hideAll h0 hidZ).get? bm = some ob ∧ ob.cls = .type "module" ∧ ob.dict = some builtinsNs ∧ ob.data = .plain := fun P hP =>
    ⟨4, ob4 w.params, mg_of XK T.g (by kernel_rfl), by decide, by decide, Ne.symm hP, X _ _ (by kernel_rfl), by kernel_rfl, rfl, rfl⟩
  exact {
    G := G
    N := ⟨⟨mg_none_of XK T.g (by kernel_rfl), (T.builtins "type" (by decide)).trans (by kernel_rfl)⟩, ⟨mg_none_of XK T.g (by kernel_rfl), (T.builtins "bool" (by decide)).trans (by kernel_rfl)⟩, ⟨mg_none_of XK T.g (by kernel_rfl), (T.builtins "list" (by decide)).trans (by kernel_rfl)⟩⟩
    N2 := ⟨⟨mg_none_of XK T.g (by kernel_rfl), (T.builtins "sum" (by decide)).trans (by kernel_rfl)⟩, ⟨mg_none_of XK T.g (by kernel_rfl), (T.builtins "range" (by decide)).trans (by kernel_rfl)⟩⟩
    N3 := ⟨⟨mg_none_of XK T.g (by kernel_rfl), (T.builtins "type" (by decide)).trans (by kernel_rfl)⟩, ⟨mg_none_of XK T.g (by kernel_rfl), (T.builtins "NotImplemented" (by decide)).trans (by kernel_rfl)⟩⟩
    int := ⟨mg_none_of XK T.g (by kernel_rfl), (T.builtins "int" (by decide)).trans (by kernel_rfl)⟩
    X := X
    runs := ⟨mg_of XK T.g (by kernel_rfl), aRuns.defAt X⟩
    made := ⟨mg_of XK T.g (by kernel_rfl), def_c X (fn_made w).1 (by kernel_rfl) (by kernel_rfl), ⟨codeHd_of_K X (by kernel_rfl), G.g, by decide, bi 207 (by decide)⟩⟩
    more := ⟨mg_of XK T.g (by kernel_rfl), def_c X (fn_made w).2 (by kernel_rfl) (by kernel_rfl), ⟨codeHd_of_K X (by kernel_rfl), G.g, by decide, bi 214 (by decide)⟩⟩
    dueK := ⟨mg_of XK T.g (by kernel_rfl), aDueK.defAt X⟩
    dueH := ⟨mg_of XK T.g (by kernel_rfl), aDueH.defAt X⟩
    asks := ⟨mg_of XK T.g (by kernel_rfl), aAsks.defAt X⟩
    worth := ⟨mg_of XK T.g (by kernel_rfl), aWorth.defAt X⟩
    bearer := ⟨mg_of XK T.g (by kernel_rfl), aBearer.defAt X⟩
    strange := ⟨mg_of XK T.g (by kernel_rfl), aStr.defAt X⟩
    Z := {
      gt := ⟨mg_of XK T.g (by kernel_rfl), aGt.defAt X⟩
      le := ⟨mg_of XK T.g (by kernel_rfl), aLe.defAt X⟩
      ge := ⟨mg_of XK T.g (by kernel_rfl), aGe.defAt X⟩
      base := mg_of XK T.g (by kernel_rfl)
      hasattr := ⟨mg_none_of XK T.g (by kernel_rfl), (T.builtins "hasattr" (by decide)).trans (by kernel_rfl)⟩
      ae := ⟨mg_none_of XK T.g (by kernel_rfl), (T.builtins "AttributeError" (by decide)).trans (by kernel_rfl)⟩
      make := h_make w false
      blt := aBlt.defAt X
      hga := by kernel_rfl
      hm := by kernel_rfl
      hf := by kernel_rfl
      hv := by kernel_rfl }
    mgr := ⟨mg_of XK T.g (by kernel_rfl), b_make w, aInit⟩
    bga := by kernel_rfl
    bm := by kernel_rfl
    bo := by intro w' t1 t2 p k; kernel_rfl }
theorem last_facts (XK : (KB w.params).In h0) (T : Top (lastOf pw) loose mean mg mb h0) : LF (KL w.params) (hideAll h0 hidZ) mg mb := by
  have F := law_facts XK T
  have X := F.X
  exact {
    G := F.G
    N2 := F.N2
    cmp := mg_of XK T.g (by kernel_rfl)
    votes := mg_of XK T.g (by kernel_rfl)
    hands := mg_of XK T.g (by kernel_rfl)
    b80 := F.Z.base
    b101 := mg_of XK T.g (by kernel_rfl)
    f49 := ⟨_, _, X 49 (ob49 w.params) (by kernel_rfl), rfl⟩
    Dh := (at_ w).2.2.2.2.2.2.2.1.defAt X
    X := X
    Y0 := h_make w false
    Y1 := h_make w true }
end
end Mine
end
section
open PySem PySem.W PySem.W.X PyProof.Rows PySem.Calls
set_option Elab.async false
set_option maxRecDepth 100000
set_option maxHeartbeats 0
namespace Mine
section
variable {w : World} {h0 hh : Heap} {mg mb : Str → Option Value} {loose : List Str} {mean : ExcName → Option Value}
theorem all_sieve {f : Nat → Bool} {S : List Nat} {P : Params} (X : (KB P).In h0) (k : ∀ (b : Nat) o, b ∉ S → h0.get? b = some o → hh.get? b = some o) (hf : ∀ b ∈ S, f b = false) :
    ∀ {K : Frag}, (∀ p ∈ K, (KB P).lookup p.1 = some p.2) → AllIn hh (K.filter fun p => f p.1)
  | [], _ => trivial
  | p :: r, e => by
    cases q : f p.1 with
    | true =>
      rw [List.filter_cons_of_pos (by exact q)]
      exact ⟨k _ _ (fun hm => by rw [hf _ hm] at q; cases q) (X _ _ (e p (.head _))), all_sieve X k hf fun p' hp => e p' (.tail _ hp)⟩
    | false =>
      rw [List.filter_cons_of_neg (by simp [q])]
      exact all_sieve X k hf fun p' hp => e p' (.tail _ hp)
theorem kb_keys (P : Params) : ∀ p ∈ KB P, (KB P).lookup p.1 = some p.2 := by
  have e : (KB P).map (fun p => (KB P).lookup p.1) = (KB P).map (fun p => some p.2) := by kernel_rfl
  exact fun p hp => List.map_inj_left.mp e p hp
theorem kt_from {f : Nat → Bool} {S : List Nat} {T : KT} {P : Params} (X : (KB P).In h0) (k : ∀ (b : Nat) o, b ∉ S → h0.get? b = some o → hh.get? b = some o) (hf : ∀ b ∈ S, f b = false) (e : T = KT.of ((KB P).filter fun p => f p.1)) : KT.Holds hh 1 0 T := by
  rw [e]
  exact PySem.W.X.holds_of (all_sieve X k hf (kb_keys P))
def inC (b : Nat) : Bool := Nat.ble b 15 || (Nat.ble 159 b && Nat.ble b 165)
def inB (b : Nat) : Bool := Nat.ble b 15 || (Nat.ble 43 b && Nat.ble b 49)
def inK (b : Nat) : Bool := inB b && !(Nat.beq b 44)
abbrev lawProg : Program := PySem.Challenge.rw_ij0028_01.row.prog
theorem run_c (X : (KB w.params).In h0) : RunC lawProg w h0 := fun hh d t os Q E sz k hQ =>
  e1a w hh #[] d t os rfl sz (kt_from (f := inC) (S := []) X (fun b o _ e => k b o e) (fun _ hm => nomatch hm) (by kernel_rfl)) Q E hQ
theorem run_b (X : (KB w.params).In h0) : RunB lawProg w h0 := fun hh d t os Q E sz k hQ =>
  e1b w hh #[] d t os rfl sz (kt_from (f := inB) X k (by decide) (by kernel_rfl)) Q E hQ
theorem run_k (X : (KB w.params).In h0) (c : Nat) (hc : c < 2) : RunK lawProg w h0 (391 + 38 * c) := fun hh d t os Q E sz k C hQ => by
  obtain ⟨⟨tq, vq, hq⟩, c44, ⟨v, c318⟩, c317⟩ := C
  have KX : KT.Holds hh 1 0 (regK.ktop_31 w.params) := kt_from (f := inK) X k (by decide) (by kernel_rfl)
  have z : c = 0 ∨ c = 1 := by omega
  rcases z with rfl | rfl
  · exact e1c w hh #[] d t os rfl sz c44 v c318 c317 tq vq hq KX Q E hQ
  · exact e1d w hh #[] d t os rfl sz c44 v c318 c317 tq vq hq KX Q E hQ
theorem tabs_at (X : (KB w.params).In h0) : ∀ b ∈ hidZ, ∃ c, h0.TableAt c b #[] := by
  intro b hb
  simp only [List.mem_cons, List.not_mem_nil, or_false] at hb
  rcases hb with rfl | rfl | rfl | rfl
  · exact ⟨164, ⟨_, _, X 164 (ob164 w.params) (by kernel_rfl), by kernel_rfl, rfl, rfl⟩, X 160 _ (by kernel_rfl)⟩
  · exact ⟨48, ⟨_, _, X 48 (ob48 w.params) (by kernel_rfl), by kernel_rfl, rfl, rfl⟩, X 44 _ (by kernel_rfl)⟩
  · exact ⟨211, ⟨_, _, X 211 (ob211 w.params) (by kernel_rfl), by kernel_rfl, rfl, rfl⟩, X 207 _ (by kernel_rfl)⟩
  · exact ⟨218, ⟨_, _, X 218 (ob218 w.params) (by kernel_rfl), by kernel_rfl, rfl, rfl⟩, X 214 _ (by kernel_rfl)⟩
theorem law_fn (w : World) : FnIs (KB w.params) tLaw [] 250 ∧ (fdOf (KB w.params) 250).name = "law" ∧ (fdOf (KB w.params) 250).qualname = "law" := ⟨⟨by kernel_rfl, by kernel_rfl⟩, by kernel_rfl, by kernel_rfl⟩
theorem ints_of : ∀ {vs : List Value} {ns : List Int}, IntsAre vs ns → AllInts vs.toArray
  | _, _, .nil => fun _ _ e => by simp at e
  | _, _, .cons n t r => fun i v e => by
    cases i with
    | zero => simp at e; exact ⟨n, t, e.symm⟩
    | succ i => exact ints_of r i v (by simpa using e)
theorem ints_few : ∀ {vs : List Value} {ns : List Int}, IntsAre vs ns → vs.length = ns.length
  | _, _, .nil => rfl
  | _, _, .cons _ _ r => congrArg (· + 1) (ints_few r)
/-- the law, from the heap that the text's top and the script leave -/
theorem law_runs {s : Shared} {items : Array Value} {Q : Value → Shared → Prop} {E : Value → Shared → Prop} (XK : (KB w.params).In s.heap) (T : Top (lastOf pw) loose mean mg mb s.heap) (sz : s.heap.objs.size = 252) (hg : s.gens = #[]) (hl : s.heap.IsList 251 items) (hi : AllInts items) (hz : items.size ≤ sizeLine)
    (kk : ∀ h' t', OldK s.heap h' → Q (.bool true) ⟨h', #[], s.drawn, t', s.os⟩) : wpAny (model lawProg w) callerA (PySem.call (.ref 250) [.ref 251]) Q E s := by
  obtain ⟨h0, g, d, t, os⟩ := s
  dsimp only at XK T sz hg hl kk
  subst hg
  have F0 := law_facts XK T
  have F := last_facts XK T
  have X := F0.X
  obtain ⟨aGt, aLe, aGe, aBlt, aInit, aAns, aVotes, aHands, aBearer, aLast, aAsks, aWorth, aRuns, aDueK, aDueH, aStr⟩ := at_ w
  obtain ⟨fl, e1, e2⟩ := law_fn w
  have gl := XK _ _ fl.1
  have gc := fl.rec XK
  rw [e1, e2] at gl
  rw [e2] at gc
  exact law_whole F0 (h_facts w) F (aVotes.defAt X) (tabs_at XK) sz (mg_of XK T.g (by kernel_rfl)) (aAns.defAt X) (mg_of XK T.g (by kernel_rfl)) ⟨_, _, X 165 (ob165 w.params) (by kernel_rfl), rfl⟩ (mg_of XK T.g (by kernel_rfl)) (aLast.defAt X)
    ⟨_, _, _, _, _, _, _, _, gl, gc⟩ hl hi hz (run_c XK) (run_b XK) (run_k XK) kk
end
end Mine
end
section
open PySem PySem.W PySem.W.X PyProof.Rows PySem.Calls
set_option Elab.async false
set_option maxRecDepth 100000
set_option maxHeartbeats 0
theorem PySem.Challenge.cw_ij0028_01_holds : PySem.Challenge.rw_ij0028_01.Holds := by
  w_on
  o_law
  refine holds_openX (q := Mine.lastOf Mine.pw) (loose := Mine.looseV) (Xt := recOk []) (XP := fun _ _ => True) (Yf := obsZ Mine.atK) (Ya := valZ Mine.KB 251 513) (N := 1600) Mine.left (fun _ _ => trivial) (fun _ _ _ _ _ => trivial) (by rfl) (by rfl) (by rfl) (fun s e => recFacts_of e) rfl (by assumption) (by decide +kernel) ⟨rfl, rfl, rfl, rfl, rfl, by decide +kernel⟩ ?hw ?call
  case hw => w_witness2
  case call =>
    intro w s₀ s₁ mg mb G y fa o pm cd doc dV kV ho hd hcd hD hmg hg args vals as L hpre hlay hrd hwl hlo
    clear ho hd hcd hD
    refine Ground.open G ?_
    intro T B D TE TW
    wrow_args hpre hlay hrd hwl hlo
    obtain ⟨hat, hsz⟩ := script_at L
    obtain ⟨-, ZI, ZN, -⟩ := z_facts (K := Mine.KB) (fun _ => by kernel_rfl) y
    rw [ZN] at hat hsz
    subst hat
    have XK := InK.keeps w _ _ ZI L.keeps
    obtain rfl : fa = 250 := Value.ref.inj (Option.some.inj (hmg.symm.trans (mg_of XK T.g (by kernel_rfl))))
    refine Mine.law_runs XK T hsz hg (by assumption) (Mine.ints_of (by assumption)) ?_ fun h' t' K => ?_
    · have few := Mine.ints_few ‹IntsAre _ _›
      rw [List.size_toArray, few]
      show _ ≤ 2 ^ 24
      omega
    · exact ⟨.inl ⟨_, _, [], rfl, fun _ => rfl, ReadsW.bool true, by kernel_rfl, fun _ => ⟨List.nodup_nil, fun _ hm => (nomatch hm)⟩⟩, K, rfl, AllBare.empty⟩
end
