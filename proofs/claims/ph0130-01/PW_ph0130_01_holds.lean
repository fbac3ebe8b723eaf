import PyProof.Rows.All
import Wide.All
import OpenK.AllK
import Wide.FinOn
import PySem.Challenge.RW_ph0130_01
open PySem PySem.W PyProof.Rows
set_option Elab.async false

section
set_option maxRecDepth 100000
set_option maxHeartbeats 8000000
namespace Mine
open_top hd for PySem.Challenge.rw_ph0130_01
end Mine
end

namespace Mine
theorem fill : (fun (_ : OpenLaw) (_ : Params → Frag) => True) Challenge.rw_ph0130_01 hd.heap_39 := by k_fill; trivial

section
set_option maxRecDepth 100000

/-- generators and the outer world: what stood, stands; all bare -/
structure Rst (s s' : Shared) : Prop where
  gens : ∀ (i : Nat) (x : GenState), s.gens[i]? = some x → s'.gens[i]? = some x
  bare : AllBare s.gens → AllBare s'.gens
  os : s'.os = s.os
theorem Rst.refl (s : Shared) : Rst s s := ⟨fun _ _ e => e, id, rfl⟩
theorem Rst.trans {a b c : Shared} (x : Rst a b) (y : Rst b c) : Rst a c := ⟨fun i z e => y.gens i z (x.gens i z e), fun e => y.bare (x.bare e), y.os.trans x.os⟩
/-- the same but heap and tokens -/
theorem Rst.same {a b : Shared} (x : Rst a b) (h : Heap) (tk : Nat) : Rst a { b with heap := h, toks := tk } := ⟨x.gens, x.bare, x.os⟩

/-- what stands, stands on -/
structure Ext (s s' : Shared) : Prop where
  heap : ∀ b o, s.heap.get? b = some o → s'.heap.get? b = some o
  rst : Rst s s'

/-- the end of a call that hands back a value -/
def Back (R : Value → Shared → Prop) (r : Result) (s' : Shared) : Prop := ∃ v, r = .ok (.ret v) ∧ R v s'

/-- the ground: the text's own objects, names, built-ins -/
structure Gd (w : World) (p : Program) (loose : List Str) (mg mb : Str → Option Value) (h : Heap) : Prop where
  k : (hd.heap_39 w.params).In h
  t : TopRead p loose mg mb h

theorem Gd.keeps {w p loose mg mb} {h h' : Heap} (G : Gd w p loose mg mb h) (e : ∀ b o, h.get? b = some o → h'.get? b = some o) : Gd w p loose mg mb h' :=
  ⟨G.k.keeps e, G.t.keeps e⟩

/-- all but the frame stands on -/
def KB (L : Addr) (h h' : Heap) : Prop := ∀ b o, b ≠ L → h.get? b = some o → h'.get? b = some o
theorem KB.refl (L : Addr) (h : Heap) : KB L h h := fun _ _ _ e => e
theorem KB.trans {L : Addr} {a b c : Heap} (x : KB L a b) (y : KB L b c) : KB L a c := fun q o n e => y q o n (x q o n e)
theorem KB.of {L : Addr} {h h' : Heap} (e : ∀ b o, h.get? b = some o → h'.get? b = some o) : KB L h h' := fun b o _ q => e b o q
theorem KB.same {L : Addr} {h h' : Heap} (e : Heap.SameBut L h h') : KB L h h' := fun b o n q => (e.2 b n).trans q

/-- facts about the heap that outlive the frame's stores -/
structure Dyn (L : Addr) (P : Heap → Prop) (h : Heap) : Prop where
  now : P h
  on : ∀ h h', (∃ m, h.Ns L m) → KB L h h' → P h → P h'

theorem Dyn.step {L P} {h h' : Heap} {m} (D : Dyn L P h) (n : h.Ns L m) (k : KB L h h') : Dyn L P h' := ⟨D.on _ _ ⟨m, n⟩ k D.now, D.on⟩
theorem Dyn.and {L P} {h : Heap} {R : Heap → Prop} (D : Dyn L P h) (r : R h) (on : ∀ h h', (∃ m, h.Ns L m) → KB L h h' → R h → R h') : Dyn L (fun h => P h ∧ R h) h :=
  ⟨⟨D.now, r⟩, fun a b n k x => ⟨D.on a b n k x.1, on a b n k x.2⟩⟩
theorem Dyn.true {L} {h : Heap} : Dyn L (fun _ => True) h := ⟨trivial, fun _ _ _ _ _ => trivial⟩

section
variable {prog : Program} {w : World} {A : Around} {E : Value → Shared → Prop} {s : Shared} {h₀ : Heap} {L : Addr} {m : Str → Option Value} {P : Heap → Prop}
  {p : Program} {loose : List Str} {mg mb : Str → Option Value} {name : Str} {scope : Scope} {a : Addr} {cd : Value}

theorem Fr.ext {h h' : Heap} (F : Fr h₀ L h m) (k : ∀ b o, h.get? b = some o → h'.get? b = some o) : Fr h₀ L h' m := ⟨F.ns.keeps k, fun b o e => k b o (F.keep b o e), F.above⟩

/-- enter a plain def of the text's -/
theorem enter {R : Value → Shared → Prop}
    {params : Arguments} {body : List Stmt} {pm cdv oc : Value} {od : Option Addr} {osl : Array (Option Value)} {f : Addr} {args : Args} (binds : List (Str × Value))
    (G : Gd w p loose mg mb s.heap) (hroom : A.depth < recursionLimit)
    (ho : (hd.heap_39 w.params).lookup f = some ⟨oc, od, .func (fnOf name name params body scope .none .none .none pm none cdv .none), osl⟩) (hcd : codeIn (hd.heap_39 w.params) cdv name = true)
    (hbind : bindArgs (fnOf name name params body scope .none .none .none pm none cdv .none) args = pure binds) (hloc : ∀ y ∈ binds, scope.names.lookup y.1 = some .local)
    (h : ∀ L h₁ tk, Fr s.heap L h₁ (fun y => binds.reverse.lookup y) →
      wpAny (model prog w) (A.deeper (envOf name scope L f cdv)) (execs body (envOf name scope L f cdv))
        (fun fl s' => match fl with | .ret v => R v s' | _ => R .none s') (fun _ _ => False) { s with heap := h₁, toks := tk })
    (hcell : ∀ x ∈ scope.names, x.2 ≠ .cell) (hco : scope.isCoroutine = false) (hgen : scope.isGenerator = false) (hk : scope.kind = .function) :
    codeAny (model prog w) A (.call (.ref f) args) (Back R) s := by
  refine codeAny_call_def (fd := fnOf name name params body scope .none .none .none pm none cdv .none) (body := body) (binds := binds) hroom (G.k _ _ ho) rfl G.t.nolimit (codeRec_of G.k hcd) rfl (BindsTo.of_eq hbind) hcell hloc (fun h₁ hns hk₁ => ?_) hco hgen hk
  refine wpAny_mono (h s.heap.objs.size h₁ _ ⟨hns, hk₁, Nat.le_refl _⟩) (fun fl s' x => ?_) fun _ _ x => x.elim
  cases fl <;> exact ⟨_, rfl, x⟩

/-- a local name stored -/
theorem mst {x : Str} {v : Value} {Q : Unit → Shared → Prop} (F : Fr h₀ L s.heap m) (D : Dyn L P s.heap)
    (h : ∀ h', Fr h₀ L h' (fun y => if y = x then some v else m y) → Dyn L P h' → Q () { s with heap := h', toks := s.toks + 1 })
    (hk : scope.kind = .function := by rfl) (hl : (envOf name scope L a cd).kindOf x = some .local := by rfl) :
    wpAny (model prog w) A (storeName (envOf name scope L a cd) x v) Q E s :=
  wpAny_storeName_local hl F.ns (fun h' hn hs => h h' (F.set hn hs) (D.step F.ns (KB.same hs)))
    (by show (scope.kind == .class || (scope.kind == .module && L != mainGlobals)) = false; rw [hk]; rfl)

/-- a def of the text's called, by its contract -/
theorem mcall {f : Addr} {args : List Value} {Post : Value → Shared → Prop} {Q : Value → Shared → Prop} (F : Fr h₀ L s.heap m) (D : Dyn L P s.heap)
    (C : codeAny (model prog w) A (.call (.ref f) ⟨args, []⟩) (Back fun v s' => Ext s s' ∧ Post v s') s)
    (h : ∀ v s', Fr h₀ L s'.heap m → Dyn L P s'.heap → Ext s s' → Post v s' → Q v s') : wpAny (model prog w) A (call (.ref f) args) Q E s := by
  refine wpAny_call (codeAny_mono C fun r s' x => ?_)
  obtain ⟨v, rfl, e, x⟩ := x
  exact h v s' (Fr.ext F e.heap) (D.step F.ns (KB.of e.heap)) e x

theorem mtuple {vs : List Value} {Q : Value → Shared → Prop} (F : Fr h₀ L s.heap m) (D : Dyn L P s.heap)
    (h : ∀ h' t, Fr h₀ L h' m → Dyn L P h' → h'.IsTuple t vs.toArray → (∀ b o, s.heap.get? b = some o → h'.get? b = some o) → s.heap.get? t = none → Q (.ref t) { s with heap := h' }) (hsz : vs.length ≤ sizeLine := by size_fits) :
    wpAny (model prog w) A (newTuple vs) Q E s := by
  refine wpAny_newObj_type ?_ (by show vs.toArray.size ≤ sizeLine; rw [List.size_toArray]; exact hsz)
  have k : ∀ b o, s.heap.get? b = some o → (s.heap.push { cls := .type "tuple", data := .seq vs.toArray }).get? b = some o := fun b o e => Heap.get?_push_of_some _ e
  exact h _ _ (Fr.ext F k) (D.step F.ns (KB.of k)) ⟨_, Heap.get?_push_size _ rfl, rfl, _, rfl⟩ k (Heap.get?_none_of_le (Nat.le_refl _))

theorem mlist {vs : List Value} {Q : Value → Shared → Prop} (F : Fr h₀ L s.heap m) (D : Dyn L P s.heap)
    (h : ∀ h' t, Fr h₀ L h' m → Dyn L P h' → h'.PlainList t vs.toArray → (∀ b o, s.heap.get? b = some o → h'.get? b = some o) → s.heap.get? t = none → Q (.ref t) { s with heap := h' }) (hsz : vs.length ≤ sizeLine := by size_fits) :
    wpAny (model prog w) A (newList vs) Q E s := by
  refine wpAny_newObj_type ?_ (by show vs.toArray.size ≤ sizeLine; rw [List.size_toArray]; exact hsz)
  have k : ∀ b o, s.heap.get? b = some o → (s.heap.push { cls := .type "list", data := .seq vs.toArray }).get? b = some o := fun b o e => Heap.get?_push_of_some _ e
  exact h _ _ (Fr.ext F k) (D.step F.ns (KB.of k)) ⟨_, Heap.get?_push_size _ rfl⟩ k (Heap.get?_none_of_le (Nat.le_refl _))
end


local macro_rules | `(tactic| walk_at "storeName") => `(tactic| (refine' mst ?k1 ?k2 ?_; (case k1 => assumption); (case k2 => assumption); intro h' F' D'))

set_option maxHeartbeats 1000000 in
theorem iseof {prog : Program} {w : World} {A : Around} {s : Shared} {p loose mg mb} (G : Gd w p loose mg mb s.heap) (hroom : A.depth < recursionLimit) (i : Int) (t : Tok) :
    codeAny (model prog w) A (.call (.ref 59) ⟨[.int i t], []⟩) (Back fun v s' => Ext s s' ∧ v = .bool (i == 0)) s := by
  refine enter [("x", .int i t)] G hroom (by k_is) (by k_is) rfl (locs rfl) ?_ ?c rfl rfl rfl
  case c => decide
  intro L h₁ tk F
  have X := G.k
  have T := G.t
  walk1
  walk1
  walk1
  walk1
  walk1
  walk1
  exact ⟨⟨F.keep, (Rst.refl _).same _ _⟩, rfl⟩

set_option maxHeartbeats 1000000 in
theorem isterminal {prog : Program} {w : World} {A : Around} {s : Shared} {p loose mg mb} (G : Gd w p loose mg mb s.heap) (hroom : A.depth < recursionLimit) (i : Int) (t : Tok) :
    codeAny (model prog w) A (.call (.ref 52) ⟨[.int i t], []⟩) (Back fun v s' => Ext s s' ∧ v = .bool (decide (i < 256))) s := by
  refine enter [("x", .int i t)] G hroom (by k_is) (by k_is) rfl (locs rfl) ?_ ?c rfl rfl rfl
  case c => decide
  intro L h₁ tk F
  have X := G.k
  have T := G.t
  walk1
  walk1
  walk1
  walk1
  walk1
  walk1
  exact ⟨⟨F.keep, (Rst.refl _).same _ _⟩, rfl⟩

section
set_option maxRecDepth 100000

theorem bind_wrap {α β γ : Type} (m : Sem α) (f : α → Sem β) (K : β → Sem γ) (H : Value → Sem γ) (gd : Bool → Bool) (lv : List Value → List Value) :
    (m >>= f).wrap K H gd lv = m.wrap (fun a => (f a).wrap K H gd lv) H gd lv := by
  rw [Sem.bind_eq_wrap', Sem.wrap_wrap]; rfl

section
variable {M : Model} {A : Around} {R : GenEnd} {Y : Protocol} {n : Nat} {s₀ : Shared} {c : Code} {fs : List Frame} {s : Shared} {env : Env}
  {K : Flow → Sem Fin} {H : Value → Sem Fin} {gd : Bool → Bool} {lv : List Value → List Value}

theorem seg_bw {α β : Type} {m : Sem α} {f : α → Sem β} {K : β → Sem Fin}
    (h : wpAny M (A.over c fs) m (fun a s' => Seg M A R Y n s₀ c ((f a).wrap K H gd lv) fs s') (fun _ _ => False) s) : Seg M A R Y n s₀ c ((m >>= f).wrap K H gd lv) fs s := by
  rw [bind_wrap]; exact seg_wrap (wpAny_mono h (fun _ _ x => x) fun _ _ x => x.elim)

/-- a plain statement ahead of the rest -/
theorem seg_stmt {st : Stmt} {rest : List Stmt}
    (h : wpAny M (A.over c fs) (exec st env) (fun f s' => match f with | .next => Seg M A R Y n s₀ c ((execs rest env).wrap K H gd lv) fs s' | _ => False) (fun _ _ => False) s) :
    Seg M A R Y n s₀ c ((execs (st :: rest) env).wrap K H gd lv) fs s := by
  refine seg_execs_cons (seg_wrap (wpAny_mono h (fun f s' x => ?_) fun _ _ x => x.elim))
  cases f <;> first | exact x | exact x.elim

theorem seg_If {test : Expr} {body orelse : List Stmt} {pos : Pos}
    (h : wpAny M (A.over c fs) (isTrue test env (eval test env)) (fun b s' => if b then Seg M A R Y n s₀ c ((execs body env).wrap K H gd lv) fs s' else Seg M A R Y n s₀ c ((execs orelse env).wrap K H gd lv) fs s') (fun _ _ => False) s) :
    Seg M A R Y n s₀ c ((exec (.If test body orelse pos) env).wrap K H gd lv) fs s := by
  rw [exec_If]
  refine seg_bw (wpAny_standAt ?_)
  refine seg_bw (wpAny_mono h (fun b s' x => ?_) fun _ _ x => x)
  cases b
  · simpa using x
  · simpa using x

/-- a for: the loop runs under a frame whose way on is the statement's own -/
theorem seg_For {target iter : Expr} {body orelse : List Stmt} {pos : Pos}
    (h : wpAny M (A.over c fs) (eval iter env) (fun x s₁ => wpAny M (A.over c fs) (pyIter x) (fun it s₂ => ∀ p (k : Result → Sem Fin), (∀ f, k (.ok f) = K f) → Seg M A R Y n s₀ (.forLoop target it body orelse env) (M.den (.forLoop target it body orelse env))
      (.ret k none (gd false) (lv []) c p [] :: fs) s₂) (fun _ _ => False) s₁) (fun _ _ => False) s)
    (hs : ∀ x, foldedSetIterable iter env x = pure x) :
    Seg M A R Y n s₀ c ((exec (.For target iter body orelse pos) env).wrap K H gd lv) fs s := by
  rw [exec_For]
  refine seg_bw (wpAny_standAt ?_)
  refine seg_bw (wpAny_mono h (fun x s₁ h₁ => ?_) fun _ _ x => x)
  refine seg_bw ?_
  rw [hs x]
  refine wpAny_pure ?_
  refine seg_bw (wpAny_standAt ?_)
  refine seg_bw (wpAny_holding (wpAny_mono h₁ (fun it s₂ h₂ => ?_) fun _ _ x => x))
  exact seg_call fun p => h₂ p _ fun _ => rfl
end

section
variable {prog : Program} {w : World} {A : Around} {R : GenEnd} {Y : Protocol} {n : Nat} {s₀ : Shared} {fs : List Frame} {s : Shared} {env : Env}

/-- one turn of a for's loop: the body's plain end goes on with the loop -/
theorem seg_forLoop {target : Expr} {it : Value} {body : List Stmt}
    (h : wpAny (model prog w) (A.over (.forLoop target it body [] env) fs) (pyNext it) (fun r s₁ => match r with
      | none => Seg (model prog w) A R Y n s₀ (.block [] env) (leafOf (.ok .next)) fs s₁
      | some v => wpAny (model prog w) (A.over (.forLoop target it body [] env) fs) (letOwnedTupleGo target it v) (fun _ s₂ => wpAny (model prog w) (A.over (.forLoop target it body [] env) fs) (assign target env v) (fun _ s₃ =>
          ∀ K H, K .next = .pure (.again (.forLoop target it body [] env)) → Seg (model prog w) A R Y n s₀ (.forLoop target it body [] env) ((execs body env).wrap K H id id) fs s₃) (fun _ _ => False) s₂) (fun _ _ => False) s₁) (fun _ _ => False) s) :
    Seg (model prog w) A R Y n s₀ (.forLoop target it body [] env) ((model prog w).den (.forLoop target it body [] env)) fs s := by
  show Seg _ A R Y n s₀ _ ((forTurn target it body [] env).onRaise (fun x => do noteFrame x env; theTreesLotGoes x)) fs s
  rw [Sem.onRaise_eq_wrap]
  unfold forTurn
  refine seg_bw (wpAny_standAt ?_)
  refine seg_bw (wpAny_onRaise (wpAny_mono h (fun r s₁ h₁ => ?_) fun _ _ x => x.elim))
  cases r with
  | none =>
    show Seg _ A R Y n s₀ _ (.pure (.again (.block [] env))) fs s₁
    exact seg_again rfl h₁
  | some v =>
    refine seg_bw (wpAny_mono h₁ (fun _ s₂ h₂ => ?_) fun _ _ x => x)
    refine seg_bw (wpAny_mono h₂ (fun _ s₃ h₃ => ?_) fun _ _ x => x)
    rw [bind_wrap]
    exact h₃ _ _ rfl

theorem seg_for_ind {target : Expr} {it : Value} {body : List Stmt} (I : Nat → Nat → Shared → Shared → Prop)
    (turn : ∀ k n s₀ s, (∀ k' n' s₀' s', k' < k → I k' n' s₀' s' → Seg (model prog w) A R Y n' s₀' (.forLoop target it body [] env) (.pure (.again (.forLoop target it body [] env))) fs s') → I k n s₀ s →
      Seg (model prog w) A R Y n s₀ (.forLoop target it body [] env) ((model prog w).den (.forLoop target it body [] env)) fs s) :
    ∀ k n s₀ s, I k n s₀ s → Seg (model prog w) A R Y n s₀ (.forLoop target it body [] env) ((model prog w).den (.forLoop target it body [] env)) fs s := by
  intro k
  induction k using Nat.strongRecOn with
  | ind k ih =>
    intro n s₀ s hI
    exact turn k n s₀ s (fun k' n' s₀' s' hk hI' => seg_again rfl (ih k' hk n' s₀' s' hI')) hI
end

section
set_option maxRecDepth 100000

/-- what _iter_escaped_chars yields, from place i on -/
noncomputable def escFrom : Bool → Nat → List Nat → List (Nat × List Nat)
  | true, i, [] => [(i - 1, [92])]
  | false, _, [] => []
  | true, i, c :: r => (i, [92, c]) :: escFrom false (i + 1) r
  | false, i, c :: r => if c = 92 then escFrom true (i + 1) r else (i, [c]) :: escFrom false (i + 1) r

/-- all the text's units with their places -/
noncomputable def unitsOf (x : Str) : List (Nat × List Nat) := escFrom false 0 x.cps.toList

def NotIt (o : Obj) : Prop := o.cls ≠ .type "enumerate" ∧ o.cls ≠ .type "str_ascii_iterator" ∧ o.cls ≠ .type "str_iterator"
/-- what a generator's run lets stand: all but its own frame and, above it, iterators of its kind -/
def Sin (Lg : Addr) (h h' : Heap) : Prop := ∀ b o, b ≠ Lg → (b < Lg ∨ NotIt o) → h.get? b = some o → h'.get? b = some o
theorem Sin.refl (Lg : Addr) (h : Heap) : Sin Lg h h := fun _ _ _ _ e => e
theorem Sin.kb {Lg : Addr} {a b c : Heap} (x : Sin Lg a b) (y : KB Lg b c) : Sin Lg a c := fun q o n z e => y q o n (x q o n z e)
def Since (Lg : Addr) (s s' : Shared) : Prop := ∃ h tk, s' = { s with heap := h, toks := tk } ∧ Sin Lg s.heap h
/-- what is at the generator's frame or above it stands on -/
def Up (Lg : Addr) (h h' : Heap) : Prop := ∀ b o, Lg ≤ b → h.get? b = some o → h'.get? b = some o

def gR (Lg : Addr) : GenEnd := fun n s₀ r s₁ => (r = .ok (.ret .none) ∧ n = 0) ∧ Since Lg s₀ s₁
def gY (w : World) (p : Program) (loose : List Str) (mg mb : Str → Option Value) (Lg : Addr) (its : List (Nat × List Nat)) : Protocol := fun n s₀ v s' kap =>
  (∃ T i u t1 t2, v = .ref T ∧ its[its.length - 1 - n]? = some (i, u) ∧ s'.heap.IsTuple T #[.int (i : Nat) t1, .str ⟨u.toArray⟩ t2]) ∧ Since Lg s₀ s' ∧
    ∀ s'' : Shared, Up Lg s'.heap s''.heap → Gd w p loose mg mb s''.heap → kap (.send .none) s''

/-- a generator of _iter_escaped_chars that has yielded j units -/
structure GenAt (prog : Program) (w : World) (p : Program) (loose : List Str) (mg mb : Str → Option Value) (A : Around) (Lg : Addr) (g : Nat) (a : Addr) (its : List (Nat × List Nat)) (j : Nat) (s : Shared) : Prop where
  gen : s.heap.IsGen a g
  above : Lg < a
  low : ∃ h₁ : Heap, h₁.objs.size ≤ Lg ∧ Gd w p loose mg mb h₁
  at' : ∃ gs, s.gens[g]? = some gs ∧ ∀ s'' : Shared, Up Lg s.heap s''.heap → Gd w p loose mg mb s''.heap →
    gs.Goes (model prog w) A.in1 (gR Lg) (gY w p loose mg mb Lg its) (its.length - j) (.send .none) s''

theorem over_handled {o : Option Value} {fs : List Frame} (h : o = none) (hf : marksOver fs (none, none) = (none, none)) : (marksOver fs (o, o)).1 = none := by
  rw [h, hf]

section
variable {prog : Program} {w : World} {A : Around} {E : Value → Shared → Prop} {s : Shared} {h₀ : Heap} {L : Addr} {m : Str → Option Value} {P : Heap → Prop}
  {p : Program} {loose : List Str} {mg mb : Str → Option Value} {name : Str} {scope : Scope} {a : Addr} {cd : Value}

/-- two names out of a pair -/
theorem massign2 {x1 x2 : Str} {p1 p2 pos : Pos} {k : Nat} {t : Addr} {v1 v2 : Value} {Q : Unit → Shared → Prop} (hh : A.handled = none) (F : Fr h₀ L s.heap m) (D : Dyn L P s.heap) (ht : s.heap.IsTuple t #[v1, v2])
    (h : ∀ h' tk, Fr h₀ L h' (fun y => if y = x2 then some v2 else if y = x1 then some v1 else m y) → Dyn L P h' → KB L s.heap h' → Q () { s with heap := h', toks := tk })
    (hk : scope.kind = .function := by rfl) (hl1 : (envOf name scope L a cd).kindOf x1 = some .local := by rfl) (hl2 : (envOf name scope L a cd).kindOf x2 = some .local := by rfl) :
    wpAny (model prog w) A (assign (.Tuple [.Name x1 p1, .Name x2 p2] k pos) (envOf name scope L a cd) (.ref t)) Q E s := by
  have hp : ((envOf name scope L a cd).scope.kind == .class || ((envOf name scope L a cd).scope.kind == .module && (envOf name scope L a cd).locals != (envOf name scope L a cd).globals)) = false := by
    show (scope.kind == .class || (scope.kind == .module && _)) = false
    rw [hk]; rfl
  refine wpAny_assign_Tuple hh ht rfl rfl fun h₃ hx₃ => ?_
  have up₃ : ∀ b o, s.heap.get? b = some o → h₃.get? b = some o := fun b o x => hx₃ b o (Nat.ne_of_lt (Heap.lt_size x)) x
  have F₃ := Fr.ext F up₃
  show wpAny _ A (do holding [v2] (assign (.Name x1 p1) (envOf name scope L a cd) v1); do holding [] (assign (.Name x2 p2) (envOf name scope L a cd) v2); pure ()) _ _ _
  refine wpAny_bind (wpAny_holding (wpAny_assign_Name (wpAny_storeName_local hl1 F₃.ns (fun h₄ hn₄ hs₄ => ?_) hp)))
  have F₄ := F₃.set hn₄ hs₄
  refine wpAny_bind (wpAny_holding (wpAny_assign_Name (wpAny_storeName_local hl2 F₄.ns (fun h₅ hn₅ hs₅ => wpAny_pure ?_) hp)))
  have kb : KB L s.heap h₅ := fun b o n e => (KB.same hs₅) b o n ((KB.same hs₄) b o n (up₃ b o e))
  exact h h₅ _ (F₄.set hn₅ hs₅) (D.step F.ns kb) kb

/-- a built-in's name -/
theorem mbuiltin {x : Str} {pos : Pos} {v : Value} {Q : Value → Shared → Prop} (G : Gd w p loose mg mb s.heap) (e : nsIn (hd.heap_39 w.params) mainGlobals x = some none) (hv : bootBuiltins x = some v) (hn : x ≠ "__name__") (h : Q v s)
    (hk : scope.kind = .function := by rfl) (hx : (envOf name scope L a cd).kindOf x = some .globalImplicit := by rfl) (hd : (x == ("__debug__" : Str)) = false := by decide) :
    wpAny (model prog w) A (eval (.Name x pos) (envOf name scope L a cd)) Q E s :=
  Calls.Name_function_global hk hx (Calls.loadGlobal_builtin (env := envOf name scope L a cd) G.t.g (mg_none_of G.k G.t.g e) G.t.b ((G.t.builtins x hn).trans hv) h) hd
end

section
variable {prog : Program} {w : World} {A : Around} {s : Shared} {p : Program} {loose : List Str} {mg mb : Str → Option Value} {name : Str} {scope : Scope}

theorem Gd.low {h₁ h h' : Heap} (G₀ : Gd w p loose mg mb h₁) (G : Gd w p loose mg mb h) (k : ∀ b o, b < h₁.objs.size → h.get? b = some o → h'.get? b = some o) : Gd w p loose mg mb h' := by
  have ns : ∀ (b : Addr) m m', h₁.Ns b m → h.Ns b m' → h'.Ns b m' := fun b m m' x y => y.at' fun o e => k b o x.lt e
  refine ⟨fun a o e => k a o (Heap.lt_size (G₀.k a o e)) (G.k a o e), ns _ _ _ G₀.t.g G.t.g, ns _ _ _ G₀.t.b G.t.b, ?_, G.t.builtins, G.t.free⟩
  obtain ⟨mc, q, r⟩ := G.t.nolimit
  obtain ⟨mc₀, q₀, r₀⟩ := G₀.t.nolimit
  exact ⟨mc, ns _ _ _ q₀ q, r⟩
theorem Gd.kb {L : Addr} {h₁ h h' : Heap} (G₀ : Gd w p loose mg mb h₁) (hs : h₁.objs.size ≤ L) (G : Gd w p loose mg mb h) (k : KB L h h') : Gd w p loose mg mb h' :=
  G₀.low G fun b o hb e => k b o (Nat.ne_of_lt (Nat.lt_of_lt_of_le hb hs)) e

/-- a generator def of the text's called -/
theorem enterGen {R : Value → Shared → Prop}
    {params : Arguments} {body : List Stmt} {pm cdv oc : Value} {od : Option Addr} {osl : Array (Option Value)} {f : Addr} {args : Args} (binds : List (Str × Value))
    (G : Gd w p loose mg mb s.heap) (hroom : A.depth < recursionLimit)
    (ho : (hd.heap_39 w.params).lookup f = some ⟨oc, od, .func (fnOf name name params body scope .none .none .none pm none cdv .none), osl⟩) (hcd : codeIn (hd.heap_39 w.params) cdv name = true)
    (hbind : bindArgs (fnOf name name params body scope .none .none .none pm none cdv .none) args = pure binds) (hloc : ∀ y ∈ binds, scope.names.lookup y.1 = some .local)
    (h : ∀ (h' : Heap) (tk : Nat), h'.Ns s.heap.objs.size (fun y => binds.reverse.lookup y) → (∀ b o, s.heap.get? b = some o → h'.get? b = some o) → ∀ (t1 t2 : Tok),
      R (.ref h'.objs.size) { s with gens := s.gens.push (.fresh (.func body (envOf name scope s.heap.objs.size f cdv))), toks := tk, heap := h'.push { cls := .type "generator", data := .fields #[.int s.gens.size 0, .str name t1, .str name t2] } })
    (hcell : ∀ x ∈ scope.names, x.2 ≠ .cell) (hco : scope.isCoroutine = false) (hgen : scope.isGenerator = true) (hk : scope.kind = .function) :
    codeAny (model prog w) A (.call (.ref f) args) (Back R) s := by
  refine codeAny_call_generator (fd := fnOf name name params body scope .none .none .none pm none cdv .none) (body := body) hroom (G.k _ _ ho) rfl hco hgen rfl (codeRec_of G.k hcd) ?_
  refine wpAny_of_eq hbind ?_
  refine wpAny_newFunctionEnv hcell hloc (fun h' hns hsb => ?_) hk
  have keep : ∀ b o, s.heap.get? b = some o → h'.get? b = some o := fun b o e => hsb.extBut b o (Nat.ne_of_lt (Heap.lt_size e)) (Heap.get?_push_of_some _ e)
  exact ⟨G.t.nolimit.keeps keep, _, rfl, h h' _ hns keep _ _⟩
end

theorem strDraws {prog : Program} {w : World} (it : Addr) (x : Str) (t : Tok) : ∃ ty, strIterType x = ty ∧ ∀ A : Around, A.handled = none →
    Draws prog w A it [it] x.cps.size (fun i v => ∃ c u, x.cps[i]? = some c ∧ v = .str ⟨#[c]⟩ u) (fun i h => h.IsStrIter it ty x t i) := by
  refine ⟨_, rfl, fun A hA => ?_⟩
  cases ha : x.cps.all (· < 128)
  · simpa [strIterType, ha] using Draws.strWide hA it x t
  · simpa [strIterType, ha] using Draws.strAscii hA it x t

theorem one_beq (c k : Nat) : ((⟨#[c]⟩ : Str) == ⟨#[k]⟩) = decide (c = k) := by
  by_cases h : c = k
  · subst h; simp
  · have : (⟨#[c]⟩ : Str) ≠ ⟨#[k]⟩ := fun e => h (by simpa using congrArg Str.cps e)
    rw [beq_eq_false_iff_ne.mpr this, decide_eq_false h]

abbrev noHeap : Heap := { objs := #[] }
theorem frOf {L : Addr} {h : Heap} {m : Str → Option Value} (n : h.Ns L m) : Fr noHeap L h m := ⟨n, fun b o e => by simp [Heap.get?] at e, Nat.zero_le _⟩


local macro_rules | `(tactic| walk_at "eval Name") => `(tactic| (refine' ld ?k1 ?k2 ?_; (case k1 => assumption); (case k2 => first | rfl | assumption)))
local macro_rules | `(tactic| walk_at "newTuple") => `(tactic| (refine' mtuple ?k1 ?k2 ?_; (case k1 => assumption); (case k2 => assumption); intro h' T' F' D' IT' KP' NF'))


set_option maxHeartbeats 2000000 in
theorem iter_call {prog : Program} {w : World} {A : Around} {s : Shared} {p loose mg mb} (G : Gd w p loose mg mb s.heap) (hroom : A.depth < recursionLimit) (x : Str) (t : Tok) :
    codeAny (model prog w) A (.call (.ref 21) ⟨[.str x t], []⟩) (Back fun v s' => Ext s s' ∧ ∃ a, v = .ref a ∧ ∀ A', A'.handled = none → GenAt prog w p loose mg mb A' s.heap.objs.size s.gens.size a (unitsOf x) 0 s') s := by
  refine enterGen [("addr", .str x t)] G hroom (by k_is) (by k_is) rfl (locs rfl) ?_ ?c rfl rfl rfl
  case c => decide
  intro h' tk hns keep t1 t2
  refine ⟨⟨fun b o e => Heap.get?_push_of_some _ (keep b o e), ?_, ?_, rfl⟩, _, rfl, fun A' hA => ?_⟩
  · intro i y hy
    obtain ⟨hi, e⟩ := Array.getElem?_eq_some_iff.mp hy
    show (s.gens.push _)[i]? = some y
    rw [Array.getElem?_push_lt hi, e]
  · intro hb
    exact hb.push rfl
  refine ⟨⟨_, _, _, Heap.get?_push_size _ rfl, rfl, rfl, rfl⟩, ?_, ⟨_, Nat.le_refl _, G⟩, _, Array.getElem?_push_size .., fun s'' up G'' => ⟨rfl, ?_⟩⟩
  · exact hns.lt
  have n'' : s''.heap.Ns s.heap.objs.size (fun y => ([((Str.ofString "addr"), Value.str x t)] : List (Str × Value)).reverse.lookup y) := hns.at' fun o e => up _ o (Nat.le_refl _) (Heap.get?_push_of_some _ e)
  obtain ⟨Lg, hLg⟩ : ∃ Lg, Lg = s.heap.objs.size := ⟨_, rfl⟩
  rw [← hLg] at n'' ⊢
  clear up hns keep h' hroom
  refine seg_func ?_
  have F := frOf n''
  have D : Dyn Lg (KB Lg s''.heap) s''.heap := ⟨KB.refl _ _, fun h h' n k y => y.trans k⟩
  refine seg_stmt ?_
  walk1
  walk1
  walk1
  dsimp only
  refine seg_stmt ?_
  walk1
  walk1
  walk1
  dsimp only
  refine seg_execs_cons ?_
  refine seg_For ?_ (fun _ => rfl)
  rename_i h₁ _ _ h₂ F₂ D₂
  have G₂ : Gd w p loose mg mb h₂ := Gd.kb G (Nat.le_of_eq hLg.symm) G'' D₂.now
  refine Call_ ?_
  refine mbuiltin G₂ (by k_is) boot_enumerate (by decide) ?_
  refine PyProof.Rows.callWith_type1 ?_
  walk1
  walk1
  walk1
  refine call_enumerate_str fun h₃ he hit hsz hk => ?_
  dsimp only at he hit hsz hk ⊢
  have hLit : Lg < h₂.objs.size := F₂.ns.lt
  obtain ⟨ty, hty, Dr⟩ := strDraws (prog := prog) (w := w) h₂.objs.size x t
  rw [hty] at hit
  have hcls : ty = "str_ascii_iterator" ∨ ty = "str_iterator" := by rw [← hty]; unfold strIterType; split <;> simp
  obtain ⟨it, hitq⟩ : ∃ it, it = h₂.objs.size := ⟨_, rfl⟩
  rw [← hitq] at he hit hsz hLit Dr ⊢
  refine wpAny_pyIter_enum he ?_
  intro pp way hway
  have F₃ : Fr noHeap Lg h₃ _ := Fr.ext F₂ hk
  have hIe : ∀ {h : Heap} {i : Int} {old : Value} {h' : Heap} {h₀ : Heap}, IsEnum h (it + 1) it i old → (∃ j, h.IsStrIter it ty x t j) → (∀ b o, b ≠ it + 1 → b ≠ it → h.get? b = some o → h'.get? b = some o) → Sin Lg h₀ h → Sin Lg h₀ h' := by
    intro h i old h' h₀ e1 e2 kk sn b o nb z q
    have q1 := sn b o nb z q
    refine kk b o (fun eb => ?_) (fun eb => ?_) q1
    · subst eb
      rw [e1] at q1; cases q1
      rcases z with z | z
      · exact absurd z (Nat.not_lt.mpr (Nat.le_of_lt (Nat.lt_succ_of_lt hLit)))
      · exact z.1 rfl
    · subst eb
      obtain ⟨j, o', ho', hc', _⟩ := e2
      rw [ho'] at q1; cases q1
      rcases z with z | z
      · exact absurd z (Nat.not_lt.mpr (Nat.le_of_lt hLit))
      · rcases hcls with rfl | rfl
        · exact z.2.1 hc'
        · exact z.2.2 hc'
  refine seg_for_ind (I := fun k n s₀ s => ∃ (i : Nat) (b : Bool) (old : Value) (m : Str → Option Value), k = x.cps.size + 1 - i ∧ i ≤ x.cps.size ∧ (∃ pre, unitsOf x = pre ++ escFrom b i (x.cps.toList.drop i)) ∧ n = (escFrom b i (x.cps.toList.drop i)).length ∧
    Since Lg s₀ s ∧ IsEnum s.heap (it + 1) it i old ∧ s.heap.IsStrIter it ty x t i ∧ Fr noHeap Lg s.heap m ∧ m "escape" = some (.bool b) ∧ (b = true → ∃ t', m "pos" = some (.int ((i - 1 : Nat) : Int) t'))) ?_ (x.cps.size + 1) _ _ _
    ⟨0, false, .none, _, rfl, Nat.zero_le _, ⟨[], rfl⟩, rfl, ⟨_, _, rfl, fun b o nb _ e => hk b o (D₂.now b o nb e)⟩, he, hit, F₃, rfl, fun e => nomatch e⟩
  rintro k n s₀ s₁ ih ⟨i, b, old, m, hkk, hi, ⟨pre, hpre⟩, hn, hsin, he₁, hit₁, F₁, hm, hpos⟩
  refine seg_forLoop ?_
  by_cases hlt : i < x.cps.size
  · refine wpAny_pyNext_enum_itemD (Dr _ ?hz) he₁ hit₁ hlt (Nat.succ_ne_self _) (by simp) fun v h₄ tk₄ hP heo hst hT hsz₄ hk₄ => ?_
    case hz => exact over_handled hA rfl
    obtain ⟨c, u, hc, rfl⟩ := hP
    refine wpAny_letOwnedTupleGo_enum heo fun h₅ he₅ hs₅ => ?_
    dsimp only at hs₅ hk₄ hT hsz₄ ⊢
    have up₅ : ∀ b o, b ≠ it + 1 → b ≠ it → s₁.heap.get? b = some o → h₅.get? b = some o := fun b o n1 n2 e => hs₅.extBut b o n1 (hk₄ b o n1 n2 e)
    have hit₅ : h₅.IsStrIter it ty x t (i + 1) := hst.extBut hs₅.extBut (Nat.succ_ne_self _).symm
    have hL1 : Lg ≠ it + 1 := Nat.ne_of_lt (Nat.lt_succ_of_lt hLit)
    have hL2 : Lg ≠ it := Nat.ne_of_lt hLit
    have F₅ : Fr noHeap Lg h₅ m := frOf (F₁.ns.at' fun o e => up₅ _ o hL1 hL2 e)
    have hT₅ : h₅.IsTuple s₁.heap.objs.size #[.int i tk₄, .str ⟨#[c]⟩ u] := ⟨_, hs₅.extBut _ _ (Nat.ne_of_gt (Heap.lt_size he₁)) hT, rfl, _, rfl⟩
    obtain ⟨h₁', tk₁', hs₁', hsn⟩ := hsin
    have hsn₅ : Sin Lg s₀.heap h₅ := by
      refine hIe he₁ ⟨_, hit₁⟩ up₅ ?_
      rw [hs₁']; exact hsn
    have D₅ : Dyn Lg (fun h => Sin Lg s₀.heap h ∧ IsEnum h (it + 1) it ((i : Int) + 1) (.str ⟨#[c]⟩ u) ∧ h.IsStrIter it ty x t (i + 1)) h₅ :=
      ⟨⟨hsn₅, he₅, hit₅⟩, fun h h' n k y => ⟨y.1.kb k, k _ _ hL1.symm y.2.1, let ⟨o, ho, r⟩ := y.2.2; ⟨o, k _ _ hL2.symm ho, r⟩⟩⟩
    refine massign2 (over_handled hA rfl) F₅ D₅ hT₅ fun h₆ tk₆ F₆ D₆ kb₆ => ?_
    intro on H hon
    have hdrop : x.cps.toList.drop i = c :: x.cps.toList.drop (i + 1) := by
      rw [List.drop_eq_getElem_cons (by simpa using hlt)]
      congr 1
      have := Array.getElem?_eq_some_iff.mp hc
      simpa using this.2
    rw [hdrop] at hpre hn
    cases b with
    | true =>
      have hn' : n = (escFrom false (i + 1) (x.cps.toList.drop (i + 1))).length + 1 := by rw [hn]; rfl
      subst hn'
      refine seg_execs_cons (seg_If ?_)
      walk1
      walk1
      walk1
      walk1
      refine seg_execs_cons (seg_Expr_Yield rfl rfl rfl ?_)
      walk1
      walk1
      walk1
      walk1
      walk1
      walk1
      walk1
      walk1
      walk1
      walk1
      rename_i u2 tk2 _ h₇ T₇ F₇ D₇ IT₇ KP₇ NF₇
      intro kap hkap
      refine ⟨⟨T₇, i, [92, c], _, _, rfl, ?_, IT₇⟩, ⟨h₇, _, by rw [hs₁'], D₇.now.1⟩, fun s₂ up₂ _ => hkap .none s₂ ?_⟩
      · rw [hpre]; simp [escFrom]
      dsimp only
      have hLe : Lg ≤ it + 1 := Nat.le_of_lt (Nat.lt_succ_of_lt hLit)
      have F₈ : Fr noHeap Lg s₂.heap _ := frOf (F₇.ns.at' fun o e => up₂ _ o (Nat.le_refl _) e)
      have D₈ : Dyn Lg (fun h => KB Lg s₂.heap h) s₂.heap := ⟨KB.refl _ _, fun h h' n k y => y.trans k⟩
      refine seg_stmt ?_
      walk1
      walk1
      walk1
      rename_i h₉ F₉ D₉
      dsimp only
      refine seg_execs_nil ?_
      dsimp only
      refine seg_execs_nil ?_
      rw [hon]
      refine ih (x.cps.size + 1 - (i + 1)) _ _ _ (by omega) ⟨i + 1, false, .str ⟨#[c]⟩ u, _, rfl, hlt, ⟨pre ++ [(i, [92, c])], ?_⟩, rfl, ⟨h₉, _, rfl, fun b o nb _ e => D₉.now b o nb e⟩, ?_, ?_, F₉, rfl, fun e => nomatch e⟩
      · rw [hpre]; simp [escFrom]
      · exact D₉.now _ _ hL1.symm (up₂ _ _ hLe D₇.now.2.1)
      · obtain ⟨o, ho, r⟩ := D₇.now.2.2
        exact ⟨o, D₉.now _ _ hL2.symm (up₂ _ _ (Nat.le_of_lt hLit) ho), r⟩
    | false =>
      refine seg_execs_cons (seg_If ?_)
      walk1
      walk1
      walk1
      walk1
      refine seg_execs_cons (seg_If ?_)
      walk1
      walk1
      walk1
      walk1
      walk1
      rw [show (Str.ofString "\\") = ⟨#[92]⟩ from by decide, one_beq]
      by_cases h92 : c = 92
      · rw [if_pos (by simpa using h92)]
        subst h92
        refine seg_stmt ?_
        walk1
        walk1
        walk1
        rename_i h₉ F₉ D₉
        dsimp only
        refine seg_execs_nil ?_
        dsimp only
        refine seg_execs_nil ?_
        dsimp only
        refine seg_execs_nil ?_
        rw [hon]
        refine ih (x.cps.size + 1 - (i + 1)) _ _ _ (by omega) ⟨i + 1, true, .str ⟨#[92]⟩ u, _, rfl, hlt, ⟨pre, ?_⟩, ?_, ⟨h₉, _, by rw [hs₁'], D₉.now.1⟩, D₉.now.2.1, D₉.now.2.2, F₉, rfl, fun _ => ⟨_, rfl⟩⟩
        · rw [hpre]; simp [escFrom]
        · rw [hn]; simp [escFrom]
      · rw [if_neg (by simpa using h92)]
        have hn' : n = (escFrom false (i + 1) (x.cps.toList.drop (i + 1))).length + 1 := by rw [hn]; simp [escFrom, h92]
        subst hn'
        refine seg_execs_cons (seg_Expr_Yield rfl rfl rfl ?_)
        walk1
        walk1
        walk1
        walk1
        walk1
        walk1
        walk1
        rename_i h₇ T₇ F₇ D₇ IT₇ KP₇ NF₇
        intro kap hkap
        refine ⟨⟨T₇, i, [c], _, _, rfl, ?_, IT₇⟩, ⟨h₇, _, by rw [hs₁'], D₇.now.1⟩, fun s₂ up₂ _ => hkap .none s₂ ?_⟩
        · rw [hpre]; simp [escFrom, h92]
        dsimp only
        have hLe : Lg ≤ it + 1 := Nat.le_of_lt (Nat.lt_succ_of_lt hLit)
        have F₈ : Fr noHeap Lg s₂.heap _ := frOf (F₇.ns.at' fun o e => up₂ _ o (Nat.le_refl _) e)
        refine seg_execs_nil ?_
        dsimp only
        refine seg_execs_nil ?_
        dsimp only
        refine seg_execs_nil ?_
        rw [hon]
        refine ih (x.cps.size + 1 - (i + 1)) _ _ _ (by omega) ⟨i + 1, false, .str ⟨#[c]⟩ u, _, rfl, hlt, ⟨pre ++ [(i, [c])], ?_⟩, rfl, ⟨_, _, rfl, Sin.refl _ _⟩, ?_, ?_, F₈, hm, fun e => nomatch e⟩
        · rw [hpre]; simp [escFrom, h92]
        · exact up₂ _ _ hLe D₇.now.2.1
        · obtain ⟨o, ho, r⟩ := D₇.now.2.2
          exact ⟨o, up₂ _ _ (Nat.le_of_lt hLit) ho, r⟩
  · have hin : i = x.cps.size := by omega
    subst hin
    refine wpAny_pyNext_enum_endD (Dr _ ?hz) he₁ hit₁ fun h₅ hx₅ => ?_
    case hz => exact over_handled hA rfl
    refine seg_leaf (.ok .next) ?_
    have hL2 : Lg ≠ it := Nat.ne_of_lt hLit
    have F₅ : Fr noHeap Lg h₅ m := frOf (F₁.ns.at' fun o e => hx₅ _ o hL2 e)
    obtain ⟨h₁', tk₁', hs₁', hsn⟩ := hsin
    have hsn₅ : Sin Lg s₀.heap h₅ := by
      refine hIe he₁ ⟨_, hit₁⟩ (fun b o _ n2 e => hx₅ b o n2 e) ?_
      rw [hs₁']; exact hsn
    have D₅ : Dyn Lg (fun h => Sin Lg s₀.heap h) h₅ := ⟨hsn₅, fun h h' n k y => y.kb k⟩
    have hdrop : x.cps.toList.drop x.cps.size = [] := by simp
    rw [hdrop] at hpre hn
    rw [hway]
    show Seg _ _ _ _ _ _ _ (Sem.wrap _ _ _ _ (execs (_ :: []) _)) _ _
    refine seg_execs_cons (seg_If ?_)
    cases b with
    | true =>
      obtain ⟨tp, hmp⟩ := hpos rfl
      have hn' : n = 0 + 1 := by rw [hn]; rfl
      subst hn'
      walk1
      walk1
      walk1
      walk1
      refine seg_execs_cons (seg_Expr_Yield rfl rfl rfl ?_)
      walk1
      walk1
      walk1
      walk1
      walk1
      walk1
      walk1
      rename_i h₇ T₇ F₇ D₇ IT₇ KP₇ NF₇
      intro kap hkap
      refine ⟨⟨T₇, x.cps.size - 1, [92], _, _, rfl, ?_, IT₇⟩, ⟨h₇, _, by rw [hs₁'], D₇.now⟩, fun s₂ up₂ _ => hkap .none s₂ ?_⟩
      · rw [hpre]; simp [escFrom]
      dsimp only
      refine seg_execs_nil ?_
      dsimp only
      refine seg_execs_nil ?_
      exact seg_end (.ok (.ret .none)) ⟨⟨rfl, rfl⟩, _, _, rfl, Sin.refl _ _⟩
    | false =>
      walk1
      walk1
      walk1
      walk1
      refine seg_execs_nil ?_
      dsimp only
      refine seg_execs_nil ?_
      exact seg_end (.ok (.ret .none)) ⟨⟨rfl, by rw [hn]; rfl⟩, h₅, _, by rw [hs₁'], hsn₅⟩

section
set_option maxRecDepth 100000

section
variable {prog : Program} {w : World} {A : Around} {E : Value → Shared → Prop} {s : Shared} {h₀ : Heap} {L : Addr} {m : Str → Option Value}
  {p : Program} {loose : List Str} {mg mb : Str → Option Value} {name : Str} {scope : Scope} {a : Addr} {cd : Value}

theorem GenAt.keeps {Lg : Addr} {g : Nat} {a : Addr} {its : List (Nat × List Nat)} {j : Nat} {s s' : Shared} (x : GenAt prog w p loose mg mb A Lg g a its j s) (up : Up Lg s.heap s'.heap)
    (hg : ∀ (i : Nat) (y : GenState), s.gens[i]? = some y → s'.gens[i]? = some y) : GenAt prog w p loose mg mb A Lg g a its j s' where
  gen := let ⟨o, nm, qn, ho, r⟩ := x.gen; ⟨o, nm, qn, up _ _ (Nat.le_of_lt x.above) ho, r⟩
  above := x.above
  low := x.low
  at' := let ⟨gs, e, k⟩ := x.at'; ⟨gs, hg _ _ e, fun s'' u G => k s'' (fun b o hb q => u b o hb (up b o hb q)) G⟩

/-- what a step of the generator turns: its own slot, and that bare -/
structure GStep (Lg : Addr) (g : Nat) (s s' : Shared) : Prop where
  heap : Sin Lg s.heap s'.heap
  gens : GenOnlyQ g s.gens s'.gens
  os : s'.os = s.os

/-- the generator woken -/
theorem gen_next {Lg : Addr} {g : Nat} {a : Addr} {its : List (Nat × List Nat)} {j : Nat} {Q : Option Value → Shared → Prop} (hh : A.handled = none) (hroom : A.depth < recursionLimit) (G : Gd w p loose mg mb s.heap)
    (x : GenAt prog w p loose mg mb A Lg g a its j s) (hj : j ≤ its.length)
    (item : ∀ T i u t1 t2 s', its[j]? = some (i, u) → s'.heap.IsTuple T #[.int (i : Nat) t1, .str ⟨u.toArray⟩ t2] → GenAt prog w p loose mg mb A Lg g a its (j + 1) s' → GStep Lg g s s' → Q (some (.ref T)) s')
    (done : ∀ s', j = its.length → GStep Lg g s s' → Q none s') : wpAny (model prog w) A (pyNext (.ref a)) Q E s := by
  obtain ⟨hg, hab, ⟨hb₁, hbs, Gb⟩, gs, hgs, hgo⟩ := x
  have hgo' := hgo (s.setGen g .running) (fun _ _ _ e => e) G
  unfold pyNext
  refine wpAny_bind (wpAny_attempt (wpAny_callSpecial?_slot (name := Str.ofString "__next__") hg.typeIs slot_gen_next
    (wpAny_call_entry slot_gen_next hg.typeIs entry_gen_next ?_ (args_gen_next _))))
  show wpAny _ A.in1 (Builtin.Generator.genWake (.ref a) (.send .none)) _ _ s
  unfold Builtin.Generator.genWake
  refine wpAny_bind (wpAny_holding (wpAny_genNumber hg (wpAny_bind (wpAny_genState hgs ?_))))
  cases gs with
  | running => exact hgo'.elim
  | finished => exact hgo'.elim
  | _ =>
    refine wpAny_bind (wpAny_roomToWake G.t.nolimit hroom ?_)
    show wpAny _ A.in1 (.resume g (.send .none) [] _) _ _ s
    refine wpAny_resumeQ hgs hgo' (fun r s₁ hx => ?_) (fun v s₁ gs' hb hv => ?_)
    · obtain ⟨⟨rfl, hn⟩, h₁, tk₁, rfl, hsin⟩ := hx
      show wpAny _ A.in1 (newExc (.type "StopIteration") [] >>= _) _ _ _
      refine wpAny_bind ?_
      simp only [newExc, newTuple]
      refine wpAny_bind (wpAny_newObj_type ?_ (by size_fits))
      refine wpAny_bind (m := firstArgMember _ _) (wpAny_of_eq (a := Value.none) (by first | rfl | (simp only [firstArgMember]; rfl)) ?_)
      refine wpAny_newObj_type ?_ (by size_fits)
      simp only [raiseNew]
      refine wpAny_bind (wpAny_bind (wpAny_handled ?_))
      first | rw [show A.in1.handled = none from hh] | rw [hh]
      refine wpAny_throw ?_
      refine wpAny_bind (wpAny_isInstance (T := "StopIteration") (b := true) ⟨_, Heap.get?_push_size _ rfl, rfl⟩ isSubtype_stop ?_)
      refine wpAny_pure (done _ (by omega) ⟨fun b o nb z e => Heap.get?_push_of_some _ (Heap.get?_push_of_some _ (hsin b o nb z e)), ?_, rfl⟩)
      exact GenOnlyQ.of ((GenOnly.setGen s g .running).trans (GenOnly.setGen (s.setGen g .running) g .finished)) (setGen_self (gs := .running) (setGen_self hgs)) rfl
    · obtain ⟨⟨T, i, u, t1, t2, rfl, hi, hT⟩, ⟨h₁, tk₁, rfl, hsin⟩, hkap⟩ := hv
      have G₁ : Gd w p loose mg mb h₁ := Gb.low G fun b o hb e => hsin b o (Nat.ne_of_lt (Nat.lt_of_lt_of_le hb hbs)) (.inl (Nat.lt_of_lt_of_le hb hbs)) e
      obtain ⟨n, hn⟩ : ∃ n, its.length - j = n + 1 := by
        cases h : its.length - j with
        | zero => rw [h] at hkap; exact (hkap { s.setGen g .running with heap := h₁, toks := tk₁ } (fun _ _ _ e => e) G₁).elim
        | succ n => exact ⟨n, rfl⟩
      refine wpAny_pure ⟨_, rfl, wpAny_pure (item T i u t1 t2 _ ?_ hT ⟨?_, hab, ⟨hb₁, hbs, Gb⟩, gs', setGen_self (gs := .running) (setGen_self hgs), fun s'' up G'' => ?_⟩ ⟨hsin, ?_, rfl⟩)⟩
      · rw [hn] at hi
        have : its.length - 1 - (n + 1 - 1) = j := by omega
        rw [this] at hi; exact hi
      · obtain ⟨o, nm, qn, ho, hc, r⟩ := hg
        refine ⟨o, nm, qn, hsin a o ?_ (.inr ?_) ho, hc, r⟩
        · exact Nat.ne_of_gt hab
        · rw [NotIt, hc]; decide
      · have e := hkap s'' up G''
        rw [hn] at e
        have e2 : its.length - (j + 1) = n := by omega
        rw [e2]; exact e
      · exact GenOnlyQ.of ((GenOnly.setGen s g .running).trans (GenOnly.setGen (s.setGen g .running) g gs')) (setGen_self (gs := .running) (setGen_self hgs)) hb

theorem letGo_gen {elts : List Expr} {k : Nat} {pos : Pos} {a : Addr} {g : Nat} {v : Value} {Q : Unit → Shared → Prop} (hg : s.heap.IsGen a g) (h : Q () s) :
    wpAny (model prog w) A (letOwnedTupleGo (.Tuple elts k pos) (.ref a) v) Q E s := by
  obtain ⟨o, nm, qn, ho, hc, hd, hsl⟩ := hg
  unfold letOwnedTupleGo
  cases v with
  | ref T =>
    refine wpAny_bind (wpAny_load ho ?_)
    rw [hc, hd]
    dsimp only
    rw [if_neg (by simp)]
    exact wpAny_pure h
  | _ => exact wpAny_pure h

/-- a for over the generator, two names a turn -/
theorem for_gen {x1 x2 : Str} {p1 p2 pos : Pos} {k : Nat} {body : List Stmt} {Lg : Addr} {g : Nat} {ag : Addr} {its : List (Nat × List Nat)} {Q : Flow → Shared → Prop} {se : Shared}
    (hh : A.handled = none) (hroom : A.depth < recursionLimit) (G₀ : Gd w p loose mg mb h₀) (F : Fr h₀ L s.heap m) (hL : L < Lg)
    (x : GenAt prog w p loose mg mb A Lg g ag its 0 s) (Z : Rst se s) (hse : se.gens.size ≤ g)
    (Inv : Nat → (Str → Option Value) → Heap → Prop) (inv0 : Inv 0 m s.heap)
    (stab : ∀ j m h h', h.Ns L m → Inv j m h → (∀ b o, b ≠ L → b ≠ Lg → (b < Lg ∨ NotIt o) → h.get? b = some o → h'.get? b = some o) → Inv j m h')
    (turn : ∀ j i u t1 t2 m₁ s₁, its[j]? = some (i, u) → Inv j m₁ s₁.heap → Fr h₀ L s₁.heap (fun y => if y = x2 then some (.str ⟨u.toArray⟩ t2) else if y = x1 then some (.int (i : Nat) t1) else m₁ y) → Rst se s₁ →
      wpAny (model prog w) A (execs body (envOf name scope L a cd)) (fun f s₂ => match f with
        | .next | .cont => ∃ m₂, Fr h₀ L s₂.heap m₂ ∧ Inv (j + 1) m₂ s₂.heap ∧ Up Lg s₁.heap s₂.heap ∧ Rst s₁ s₂
        | .brk => Q .next s₂
        | .ret v => Q (.ret v) s₂) (fun _ _ => False) s₁)
    (done : ∀ m' s', Fr h₀ L s'.heap m' → Inv its.length m' s'.heap → Rst se s' → Q .next s')
    (hk : scope.kind = .function := by rfl) (hl1 : (envOf name scope L a cd).kindOf x1 = some .local := by rfl) (hl2 : (envOf name scope L a cd).kindOf x2 = some .local := by rfl) :
    codeAny (model prog w) A (.forLoop (.Tuple [.Name x1 p1, .Name x2 p2] k pos) (.ref ag) body [] (envOf name scope L a cd)) (fun r s' => match r with | .ok f => Q f s' | .error e => E e s') s := by
  have zz : ∀ {s s' : Shared}, Rst se s → GStep Lg g s s' → Rst se s' := fun {s s'} z st => by
    refine ⟨fun i y e => ?_, fun hb => st.gens.bare (z.bare hb), st.os.trans z.os⟩
    have e1 := z.gens i y e
    rcases st.gens with q | q
    · rw [q]; exact e1
    · have hi : i < se.gens.size := by
        rcases Nat.lt_or_ge i se.gens.size with h | h
        · exact h
        · rw [Array.getElem?_eq_none h] at e; cases e
      rw [q.1.2 i (by omega)]; exact e1
  have low : ∀ b o, h₀.get? b = some o → b ≠ L ∧ b < L := fun b o e => by
    have := Nat.lt_of_lt_of_le (Heap.lt_size e) F.above
    exact ⟨Nat.ne_of_lt this, this⟩
  have ff : ∀ {s s' : Shared} {m}, Fr h₀ L s.heap m → GStep Lg g s s' → Fr h₀ L s'.heap m := fun {s s' m} F st =>
    ⟨F.ns.at' fun o e => st.heap L o (Nat.ne_of_lt hL) (.inl hL) e, fun b o e => st.heap b o (Nat.ne_of_lt (Nat.lt_trans (low b o e).2 hL)) (.inl (Nat.lt_trans (low b o e).2 hL)) (F.keep b o e), F.above⟩
  refine codeAny_forLoop_any (fun n s' => ∃ j m', n = its.length + 1 - j ∧ j ≤ its.length ∧ Fr h₀ L s'.heap m' ∧ Inv j m' s'.heap ∧ Rst se s' ∧ GenAt prog w p loose mg mb A Lg g ag its j s') ?_ (its.length + 1) ⟨0, m, rfl, Nat.zero_le _, F, inv0, Z, x⟩
  rintro n s' ⟨j, m', rfl, hj, F', hI, Z', x'⟩
  refine gen_next hh hroom (G₀.keeps F'.keep) x' hj (fun T i u t1 t2 s₁ hi hT x₁ st => ?_) (fun s₁ hjl st => ?_)
  · have F₁ := ff F' st
    have Z₁ := zz Z' st
    have I₁ : Inv j m' s₁.heap := stab j m' _ _ F'.ns hI fun b o _ n2 n3 e => st.heap b o n2 n3 e
    refine letGo_gen x₁.gen ?_
    have D₁ : Dyn L (fun h => KB L s₁.heap h) s₁.heap := ⟨KB.refl _ _, fun h h' n k y => y.trans k⟩
    refine massign2 hh F₁ D₁ hT (fun h₂ tk₂ F₂ D₂ kb₂ => ?_) hk hl1 hl2
    have I₂ : Inv j m' h₂ := stab j m' _ _ F₁.ns I₁ fun b o n1 _ _ e => kb₂ b o n1 e
    have jl : j < its.length := by
      rcases Nat.lt_or_ge j its.length with h | h
      · exact h
      · rw [List.getElem?_eq_none h] at hi; cases hi
    refine wpAny_mono (turn j i u t1 t2 m' { s₁ with heap := h₂, toks := tk₂ } hi I₂ F₂ (Z₁.same _ _)) (fun f s₃ hf => ?_) fun _ _ e => e.elim
    have fin : (∃ m₂, Fr h₀ L s₃.heap m₂ ∧ Inv (j + 1) m₂ s₃.heap ∧ Up Lg h₂ s₃.heap ∧ Rst { s₁ with heap := h₂, toks := tk₂ } s₃) → ∃ m, m < its.length + 1 - j ∧ ∃ j m', m = its.length + 1 - j ∧ j ≤ its.length ∧ Fr h₀ L s₃.heap m' ∧ Inv j m' s₃.heap ∧ Rst se s₃ ∧ GenAt prog w p loose mg mb A Lg g ag its j s₃ := by
      rintro ⟨m₂, F₃, I₃, up₃, Z₃⟩
      refine ⟨its.length + 1 - (j + 1), by omega, j + 1, m₂, rfl, jl, F₃, I₃, (Z₁.same h₂ tk₂).trans Z₃, x₁.keeps (fun b o hb e => up₃ b o hb (kb₂ b o (fun q => ?_) e)) fun i y e => Z₃.gens i y e⟩
      subst q
      exact absurd hL (Nat.not_lt.mpr hb)
    cases f with
    | next => exact fin hf
    | cont => exact fin hf
    | brk => exact hf
    | ret v => exact hf
  · have F₁ := ff F' st
    refine wpAny_execs_nil (done m' s₁ F₁ ?_ (zz Z' st))
    rw [← hjl]
    exact stab j m' _ _ F'.ns hI fun b o _ n2 n3 e => st.heap b o n2 n3 e
end

section
set_option maxRecDepth 100000
set_option linter.unusedVariables false

/-- one unit read by _strip_quoted_realnames: where the rest starts, where a quotation opened, what is kept -/
noncomputable def stripStep (x : Str) (st : Nat × Option Nat × List Str) (it : Nat × List Nat) : Nat × Option Nat × List Str :=
  if it.2 = [34] then
    match st.2.1 with
    | none => (st.1, some it.1, st.2.2)
    | some o => (it.1 + 1, none, if st.1 = o then st.2.2 else st.2.2 ++ [Txt.slice x (some (st.1 : Int)) (some (o : Int))])
  else st
noncomputable def stripEnd (x : Str) (st : Nat × Option Nat × List Str) : List Str := if st.1 < x.length then st.2.2 ++ [Txt.slice x (some (st.1 : Int)) none] else st.2.2
noncomputable def stripOf (x : Str) : Str :=
  if (Builtin.Str.occurrences x ⟨#[34]⟩ 0 x.length 1).isEmpty then x else Txt.join ⟨#[]⟩ (stripEnd x ((unitsOf x).foldl (stripStep x) (0, none, [])))

theorem stripStep_all (x : Str) (its : List (Nat × List Nat)) : ∀ st : Nat × Option Nat × List Str, (∀ y ∈ st.2.2, y.length ≤ x.length) →
    (its.foldl (stripStep x) st).2.2.length ≤ st.2.2.length + its.length ∧ ∀ y ∈ (its.foldl (stripStep x) st).2.2, y.length ≤ x.length := by
  induction its with
  | nil => intro st h; exact ⟨Nat.le_refl _, h⟩
  | cons it r ih =>
    intro st h
    have key : (stripStep x st it).2.2.length ≤ st.2.2.length + 1 ∧ ∀ y ∈ (stripStep x st it).2.2, y.length ≤ x.length := by
      unfold stripStep
      split
      · split
        · exact ⟨Nat.le_succ _, h⟩
        · dsimp only
          split
          · exact ⟨Nat.le_succ _, h⟩
          · refine ⟨by simp, fun y hy => ?_⟩
            rcases List.mem_append.mp hy with hy | hy
            · exact h y hy
            · rw [List.mem_singleton.mp hy]; exact Txt.slice_le x _ _
      · exact ⟨Nat.le_succ _, h⟩
    obtain ⟨a, b⟩ := ih _ key.2
    refine ⟨?_, b⟩
    rw [List.foldl_cons, List.length_cons]
    omega
theorem escFrom_len : ∀ (l : List Nat) (b : Bool) (i : Nat), (escFrom b i l).length ≤ l.length + 1
  | [], true, _ => by simp [escFrom]
  | [], false, _ => by simp [escFrom]
  | c :: r, true, i => by have := escFrom_len r false (i + 1); simp [escFrom]; omega
  | c :: r, false, i => by
    simp only [escFrom]
    split
    · have := escFrom_len r true (i + 1); simp; omega
    · have := escFrom_len r false (i + 1); simp; omega
theorem unitsOf_len (x : Str) : (unitsOf x).length ≤ x.length + 1 := by
  have := escFrom_len x.cps.toList false 0
  simpa [unitsOf, Str.length] using this

section
variable {prog : Program} {w : World} {A : Around} {E : Value → Shared → Prop} {s : Shared} {h₀ : Heap} {L : Addr} {m : Str → Option Value} {P : Heap → Prop}

theorem keptD : KeptH (fun h => Fr h₀ L h m ∧ Dyn L P h) := fun h o x => ⟨Fr.ext x.1 fun b o' e => Heap.get?_push_of_some o e, x.2.step x.1.ns (KB.of fun b o' e => Heap.get?_push_of_some o e)⟩

theorem mslice_ss {value slice : Expr} {x : Str} {t : Tok} {i j : Int} {ui uj : Tok} {Q : Value → Shared → Prop} (F : Fr h₀ L s.heap m) (D : Dyn L P s.heap)
    (h : ∀ h' t' k, Fr h₀ L h' m → Dyn L P h' → Q (.str (Txt.slice x (some i) (some j)) t') { s with heap := h', toks := k })
    (hs : subscripted slice false (.str x t) (.ref s.heap.objs.size) = operate [.ref s.heap.objs.size, .str x t] (getItem (.str x t) (.ref s.heap.objs.size)) := by with_unfolding_all rfl)
    (ht : ∀ r, letTemporaryGo value (.str x t) r = pure () := by intro _; with_unfolding_all rfl) (hsz : x.length ≤ sizeLine := by size_fits) :
    wpAny (model prog w) A (subscriptTail value slice (.str x t) (.ref s.heap.objs.size)) Q E { s with heap := s.heap.push { cls := .type "slice", data := .fields #[.int i ui, .int j uj, .none] } } :=
  tail_of_ItemOn (SBH.sliceItem_ss keptD ⟨F, D⟩ (fun h' t' k a => h h' t' k a.1 a.2) hsz) hs ht
theorem mslice_sn {value slice : Expr} {x : Str} {t : Tok} {i : Int} {ui : Tok} {Q : Value → Shared → Prop} (F : Fr h₀ L s.heap m) (D : Dyn L P s.heap)
    (h : ∀ h' t' k, Fr h₀ L h' m → Dyn L P h' → Q (.str (Txt.slice x (some i) none) t') { s with heap := h', toks := k })
    (hs : subscripted slice false (.str x t) (.ref s.heap.objs.size) = operate [.ref s.heap.objs.size, .str x t] (getItem (.str x t) (.ref s.heap.objs.size)) := by with_unfolding_all rfl)
    (ht : ∀ r, letTemporaryGo value (.str x t) r = pure () := by intro _; with_unfolding_all rfl) (hsz : x.length ≤ sizeLine := by size_fits) :
    wpAny (model prog w) A (subscriptTail value slice (.str x t) (.ref s.heap.objs.size)) Q E { s with heap := s.heap.push { cls := .type "slice", data := .fields #[.int i ui, .none, .none] } } :=
  tail_of_ItemOn (SBH.sliceItem_sn keptD ⟨F, D⟩ (fun h' t' k a => h h' t' k a.1 a.2) hsz) hs ht
end

theorem ofl_beq (u v : List Nat) : ((⟨u.toArray⟩ : Str) == ⟨v.toArray⟩) = decide (u = v) := by
  by_cases h : u = v
  · subst h; simp
  · have : (⟨u.toArray⟩ : Str) ≠ ⟨v.toArray⟩ := fun e => h (by simpa using congrArg (fun z => z.cps.toList) e)
    rw [beq_eq_false_iff_ne.mpr this, decide_eq_false h]

theorem Rst.size {a b : Shared} (x : Rst a b) : a.gens.size ≤ b.gens.size := by
  rcases Nat.lt_or_ge b.gens.size a.gens.size with h | h
  · have e := x.gens b.gens.size _ (Array.getElem?_eq_getElem h)
    rw [Array.getElem?_eq_none (Nat.le_refl _)] at e; cases e
  · exact h

theorem plainL_of {h : Heap} {a : Addr} {xs : Array Value} (x : h.PlainList a xs) : PlainL h a xs := let ⟨n, e⟩ := x; ⟨_, n, e, rfl, rfl, rfl⟩

theorem plist_on {L a : Addr} {xs : Array Value} : ∀ h h' : Heap, (∃ m, h.Ns L m) → KB L h h' → h.PlainList a xs → h'.PlainList a xs := fun h h' ⟨m, n⟩ k ⟨e, x⟩ => ⟨e, k _ _ (fun q => by
  subst q
  obtain ⟨o, es, ep, ho, hd, _⟩ := n
  rw [x] at ho; cases ho; cases hd) x⟩
theorem list_on {L a : Addr} {xs : Array Value} : ∀ h h' : Heap, (∃ m, h.Ns L m) → KB L h h' → h.IsList a xs → h'.IsList a xs := fun h h' ⟨m, n⟩ k ⟨o, x, c, e, d⟩ => ⟨o, k _ _ (fun q => by
  subst q
  obtain ⟨o, es, ep, ho, hd, _⟩ := n
  rw [x] at ho; cases ho; rw [hd] at d; cases d) x, c, e, d⟩
theorem tup_on {L a : Addr} {xs : Array Value} : ∀ h h' : Heap, (∃ m, h.Ns L m) → KB L h h' → h.IsTuple a xs → h'.IsTuple a xs := fun h h' ⟨m, n⟩ k ⟨o, x, c, e, d⟩ => ⟨o, k _ _ (fun q => by
  subst q
  obtain ⟨o, es, ep, ho, hd, _⟩ := n
  rw [x] at ho; cases ho; rw [hd] at d; cases d) x, c, e, d⟩


local macro_rules | `(tactic| walk_at "newList") => `(tactic| (refine' mlist ?k1 ?k2 ?_; (case k1 => assumption); (case k2 => assumption); intro h' T' F' D' IT' KP' NF'))

set_option maxHeartbeats 2000000 in
theorem strip_call {prog : Program} {w : World} {A : Around} {s : Shared} {p loose mg mb} (G : Gd w p loose mg mb s.heap) (hh : A.handled = none) (hroom : A.depth + 1 < recursionLimit) (x : Str) (t : Tok) (hx : x.length ≤ 200) :
    codeAny (model prog w) A (.call (.ref 28) ⟨[.str x t], []⟩) (Back fun v s' => Ext s s' ∧ ∃ t', v = .str (stripOf x) t') s := by
  refine enter [("addr", .str x t)] G (Nat.lt_of_succ_lt hroom) (by k_is) (by k_is) rfl (locs rfl) ?_ ?c rfl rfl rfl
  case c => decide
  intro L h₁ tk F
  have X := G.k
  have T := G.t
  have D : Dyn L (fun _ => True) h₁ := .true
  refine wpAny_execs_cons ?_
  iterate 6 walk1
  rw [show (Str.ofString "\"") = ⟨#[34]⟩ from by decide]
  by_cases ho : (Builtin.Str.occurrences x ⟨#[34]⟩ 0 x.length 1).isEmpty = true
  · rw [if_pos (by rw [ho]; rfl)]
    refine wpAny_execs_cons ?_
    iterate 2 walk1
    exact ⟨⟨F.keep, (Rst.refl _).same _ _⟩, _, by rw [stripOf, if_pos ho]⟩
  rw [if_neg (by simpa using ho)]
  refine wpAny_execs_nil ?_
  dsimp only
  refine wpAny_execs_cons ?_
  iterate 3 walk1
  dsimp only
  refine wpAny_execs_cons ?_
  iterate 3 walk1
  dsimp only
  refine wpAny_execs_cons ?_
  iterate 4 walk1
  rename_i hq Fq Dq h₂ R F₂ D₂ IT₂ KP₂ NF₂
  have hR0 : s.heap.get? R = none := by
    cases q : s.heap.get? R with
    | none => rfl
    | some o => have e := Fq.keep R o q; rw [show hq.get? R = none from NF₂] at e; cases e
  have D₃ : Dyn L (fun h => h.PlainList R #[]) h₂ := ⟨IT₂, plist_on⟩
  walk1
  dsimp only
  refine wpAny_execs_cons (wpAny_For ?_)
  iterate 6 walk1
  rename_i h₃ F₃ D₄
  refine ⟨X.keeps F₃.keep, ?_⟩
  refine mcall F₃ D₄ (iter_call (G.keeps F₃.keep) hroom x t) fun v s₂ F₄ D₅ E₂ hv => ?_
  obtain ⟨ag, rfl, gen⟩ := hv
  refine wpAny_pyIter_gen (gen A hh).gen ?_
  have hRL : R < h₃.objs.size := let ⟨n, e⟩ := D₄.now; Heap.lt_size e
  refine for_gen (se := s) (by exact hh) (by exact hroom) G F₄ F₃.ns.lt (gen _ (by exact hh)) (((Rst.refl s).same _ _).trans E₂.rst) (Nat.le_refl _)
    (fun j m h => let st := ((unitsOf x).take j).foldl (stripStep x) (0, none, []); (∃ t1, m "start" = some (.int st.1 t1)) ∧ (match st.2.1 with | none => m "open_pos" = some .none | some o => ∃ t1, m "open_pos" = some (.int o t1)) ∧
      m "result" = some (.ref R) ∧ m "addr" = some (.str x t) ∧ ∃ l, l.map (·.1) = st.2.2 ∧ h.PlainList R (strValues l).toArray) ?inv0 ?stab ?turn ?done
  case inv0 => exact ⟨⟨_, rfl⟩, rfl, rfl, rfl, [], rfl, D₅.now⟩
  case stab =>
    intro j m h h' n hI k
    obtain ⟨a1, a2, a3, a4, l, a5, a6⟩ := hI
    refine ⟨a1, a2, a3, a4, l, a5, ?_⟩
    obtain ⟨e, a6⟩ := a6
    refine ⟨e, k R _ (fun q => ?_) (Nat.ne_of_lt hRL) (.inl hRL) a6⟩
    subst q
    obtain ⟨o, es, ep, ho, hd, _⟩ := n
    rw [a6] at ho; cases ho; cases hd
  case turn =>
    intro j i u t1 t2 m₁ s₁ hi hI F₅ Z
    dsimp only at hI
    generalize hst : ((unitsOf x).take j).foldl (stripStep x) (0, none, []) = st at hI
    obtain ⟨st0, st1, st2⟩ := st
    obtain ⟨⟨ta, a1⟩, a2, a3, a4, l, a5, a6⟩ := hI
    dsimp only at a1 a2 a5
    have hnext : ((unitsOf x).take (j + 1)).foldl (stripStep x) (0, none, []) = stripStep x (st0, st1, st2) (i, u) := by
      rw [List.take_add_one, hi]; simp [List.foldl_append, hst]
    have hsz : (strValues l).toArray.size ≤ sizeLine := by
      have h1 := (stripStep_all x ((unitsOf x).take j) (0, none, []) (fun _ h => nomatch h)).1
      have h2 := unitsOf_len x
      rw [hst] at h1
      have h3 : l.length = st2.length := by rw [← a5]; simp
      have h4 : ((unitsOf x).take j).length ≤ (unitsOf x).length := by simp; omega
      have h5 : (strValues l).toArray.size = l.length := by simp [strValues]
      rw [h5, sizeLine_eq]
      simp only [List.length_nil] at h1
      omega
    have D₆ : Dyn L (fun h => KB L s₁.heap h ∧ h.PlainList R (strValues l).toArray) s₁.heap := ⟨⟨KB.refl _ _, a6⟩, fun h h' n k y => ⟨y.1.trans k, plist_on _ _ n k y.2⟩⟩
    refine wpAny_execs_cons ?_
    iterate 6 walk1
    rw [show (⟨#[34]⟩ : Str) = ⟨[34].toArray⟩ from rfl, ofl_beq]
    by_cases hu : u = [34]
    · rw [if_pos (by simpa using hu)]
      cases st1 with
      | none =>
        dsimp only at a2
        refine wpAny_execs_cons ?_
        iterate 7 walk1
        refine wpAny_execs_cons ?_
        iterate 3 walk1
        rename_i h₇ F₇ D₇
        dsimp only
        refine wpAny_execs_nil ?_
        dsimp only
        refine wpAny_execs_nil ?_
        dsimp only
        refine wpAny_execs_nil ?_
        dsimp only
        refine ⟨_, F₇, ?_, fun b o hb e => D₇.now.1 b o ?_ e, (Rst.refl _).same _ _⟩
        · rw [hnext]
          simp only [stripStep, hu, if_true]
          exact ⟨⟨_, a1⟩, ⟨_, rfl⟩, a3, a4, l, a5, D₇.now.2⟩
        · intro q; subst q; exact absurd F₃.ns.lt (Nat.not_lt.mpr hb)
      | some o =>
        obtain ⟨to, a2⟩ := a2
        refine wpAny_execs_cons ?_
        iterate 7 walk1
        refine wpAny_execs_cons ?_
        iterate 6 walk1
        have hneL : ∀ b, h₃.objs.size ≤ b → b ≠ L := fun b hb q => by subst q; exact absurd F₃.ns.lt (Nat.not_lt.mpr hb)
        have hneR : ∀ b, h₃.objs.size ≤ b → b ≠ R := fun b hb q => by subst q; exact absurd hRL (Nat.not_lt.mpr hb)
        by_cases hso : st0 = o
        · rw [if_neg (by rw [hso]; simp)]
          refine wpAny_execs_nil ?_
          dsimp only
          refine wpAny_execs_cons ?_
          iterate 6 walk1
          dsimp only
          refine wpAny_execs_cons ?_
          iterate 3 walk1
          rename_i h₇ F₇ D₇
          dsimp only
          refine wpAny_execs_nil ?_
          dsimp only
          refine wpAny_execs_nil ?_
          dsimp only
          refine wpAny_execs_nil ?_
          dsimp only
          refine ⟨_, F₇, ?_, fun b o hb e => D₇.now.1 b o (hneL b hb) e, (Rst.refl _).same _ _⟩
          rw [hnext]
          simp only [stripStep, hu, if_true, hso]
          exact ⟨⟨_, rfl⟩, by first | rfl | trivial, a3, a4, l, a5, D₇.now.2⟩
        · rw [if_pos (by simpa using (fun e => hso (by exact_mod_cast e)))]
          refine wpAny_execs_cons (wpAny_Expr (wpAny_Call_append rfl rfl rfl rfl ?_))
          walk1
          refine ⟨R, _, rfl, plainL_of D₆.now.2, ?_⟩
          iterate 8 walk1
          refine mslice_ss (by assumption) (by assumption) (fun h₇ t₇ k₇ F₇ D₇ => ?_) (by with_unfolding_all rfl) (by intro _; with_unfolding_all rfl) (by rw [sizeLine_eq]; omega)
          refine wpAny_list_append_plain D₇.now.2 (fun h₈ PL₈ SB₈ => ?_) hsz
          dsimp only
          have hLR : L ≠ R := fun q => by
            subst q
            obtain ⟨e, hpl⟩ := D₇.now.2
            obtain ⟨o, es, ep, ho, hd, _⟩ := F₇.ns
            rw [hpl] at ho; cases ho; cases hd
          have F₈ : Fr s.heap L h₈ _ := ⟨F₇.ns.sameBut SB₈ hLR, fun b o e => SB₈.extBut b o (fun q => by rw [q, hR0] at e; cases e) (F₇.keep b o e), F₇.above⟩
          have D₈ : Dyn L (fun h => (∀ b o, b ≠ L → b ≠ R → s₁.heap.get? b = some o → h.get? b = some o) ∧ h.PlainList R (strValues (l ++ [(Txt.slice x (some (st0 : Int)) (some (o : Int)), t₇)])).toArray) h₈ := ⟨⟨fun b o n1 n2 e => SB₈.extBut b o n2 (D₇.now.1 b o n1 e), by simpa [strValues] using PL₈⟩, fun h h' n k y => ⟨fun b o n1 n2 e => k b o n1 (y.1 b o n1 n2 e), plist_on _ _ n k y.2⟩⟩
          refine wpAny_execs_nil ?_
          dsimp only
          refine wpAny_execs_cons ?_
          iterate 6 walk1
          dsimp only
          refine wpAny_execs_cons ?_
          iterate 3 walk1
          rename_i h₉ F₉ D₉
          dsimp only
          refine wpAny_execs_nil ?_
          dsimp only
          refine wpAny_execs_nil ?_
          dsimp only
          refine wpAny_execs_nil ?_
          dsimp only
          refine ⟨_, F₉, ?_, fun b o hb e => D₉.now.1 b o (hneL b hb) (hneR b hb) e, (Rst.refl _).same _ _⟩
          rw [hnext]
          simp only [stripStep, hu, if_true, hso, if_false]
          exact ⟨⟨_, rfl⟩, by first | rfl | trivial, a3, a4, _, by rw [List.map_append, a5]; rfl, D₉.now.2⟩
    · rw [if_neg (by simpa using hu)]
      refine wpAny_execs_nil ?_
      dsimp only
      refine wpAny_execs_nil ?_
      dsimp only
      refine ⟨_, F₅, ?_, fun b o _ e => e, (Rst.refl _).same _ _⟩
      rw [hnext]
      simp only [stripStep, hu, if_false]
      exact ⟨⟨_, a1⟩, a2, a3, a4, l, a5, a6⟩
  case done =>
    intro m' s' F₅ hI Z
    dsimp only at hI
    rw [List.take_length] at hI
    generalize hst : (unitsOf x).foldl (stripStep x) (0, none, []) = st at hI
    obtain ⟨st0, st1, st2⟩ := st
    obtain ⟨⟨ta, a1⟩, a2, a3, a4, l, a5, a6⟩ := hI
    dsimp only at a1 a2 a5 ⊢
    refine wpAny_execs_cons ?_
    have D₆ : Dyn L (fun h => h.PlainList R (strValues l).toArray) s'.heap := ⟨a6, plist_on⟩
    iterate 5 walk1
    iterate 7 walk1
    have hall := stripStep_all x (unitsOf x) (0, none, []) (fun _ h => nomatch h)
    have hul := unitsOf_len x
    rw [hst] at hall
    simp only [List.length_nil] at hall
    have hll : l.length = st2.length := by rw [← a5]; simp
    have hok : ∀ texts : List Str, texts.length ≤ 202 → (∀ y ∈ texts, y.length ≤ x.length) → JoinOk ⟨#[]⟩ texts = true := fun texts h1 h2 => by
      unfold JoinOk
      rw [StrLaws.joinFits (B := 200) (fun y hy => Nat.le_trans (h2 y hy) hx) (by simp [Str.length]; omega)]; rfl
    by_cases hlt : st0 < x.length
    · rw [if_pos (by simpa using hlt)]
      refine wpAny_execs_cons (wpAny_Expr (wpAny_Call_append rfl rfl rfl rfl ?_))
      walk1
      refine ⟨R, _, rfl, plainL_of D₆.now, ?_⟩
      iterate 7 walk1
      refine mslice_sn (by assumption) (by assumption) (fun h₇ t₇ k₇ F₇ D₇ => ?_) (by with_unfolding_all rfl) (by intro _; with_unfolding_all rfl) (by rw [sizeLine_eq]; omega)
      refine wpAny_list_append_plain D₇.now (fun h₈ PL₈ SB₈ => ?_) (by simp [strValues]; rw [sizeLine_eq]; omega)
      dsimp only
      have hLR : L ≠ R := fun q => by
        subst q
        obtain ⟨e, hpl⟩ := D₇.now
        obtain ⟨o, es, ep, ho, hd, _⟩ := F₇.ns
        rw [hpl] at ho; cases ho; cases hd
      have F₈ : Fr s.heap L h₈ _ := ⟨F₇.ns.sameBut SB₈ hLR, fun b o e => SB₈.extBut b o (fun q => by rw [q, hR0] at e; cases e) (F₇.keep b o e), F₇.above⟩
      have PL₉ : h₈.IsList R (strValues (l ++ [(Txt.slice x (some (st0 : Int)) none, t₇)])).toArray := (show h₈.PlainList _ _ by simpa [strValues] using PL₈).isList
      refine wpAny_execs_nil ?_
      dsimp only
      refine wpAny_execs_cons ?_
      iterate 8 walk1
      refine SC.join PL₉ rfl ?_ fun t' k => ⟨⟨F₈.keep, Z.same _ _⟩, t', ?_⟩
      · refine hok _ (by simp; omega) fun y hy => ?_
        rw [List.map_append, a5] at hy
        rcases List.mem_append.mp hy with hy | hy
        · exact hall.2 y hy
        · rw [List.mem_singleton.mp hy]; exact Txt.slice_le x _ _
      · rw [stripOf, if_neg ho, hst, stripEnd, if_pos hlt, List.map_append, a5]; rfl
    · rw [if_neg (by simpa using hlt)]
      refine wpAny_execs_nil ?_
      dsimp only
      refine wpAny_execs_cons ?_
      iterate 8 walk1
      refine SC.join D₆.now.isList a5 ?_ fun t' k => ⟨⟨F₅.keep, Z.same _ _⟩, t', ?_⟩
      · exact hok _ (by omega) hall.2
      · rw [stripOf, if_neg ho, hst, stripEnd, if_neg hlt]; rfl

section
set_option maxRecDepth 100000
set_option linter.unusedVariables false

/-- _check_parenthesis upon the units, from a count of open ones on -/
noncomputable def checkFrom : Int → List (Nat × List Nat) → Bool
  | o, [] => o == 0
  | o, it :: r => if it.2 = [40] then checkFrom (o + 1) r else if it.2 = [41] then (if o - 1 < 0 then false else checkFrom (o - 1) r) else checkFrom o r
noncomputable def checkOf (x : Str) : Bool := checkFrom 0 (unitsOf (stripOf x))


local macro_rules | `(tactic| walk_at "loadName") => `(tactic| (refine' ldn ?k1 ?k2 ?_; (case k1 => assumption); (case k2 => first | rfl | assumption)))

set_option maxHeartbeats 2000000 in
theorem check_call {prog : Program} {w : World} {A : Around} {s : Shared} {p loose mg mb} (G : Gd w p loose mg mb s.heap) (hh : A.handled = none) (hroom : A.depth + 2 < recursionLimit) (x : Str) (t : Tok) (hx : x.length ≤ 200) :
    codeAny (model prog w) A (.call (.ref 35) ⟨[.str x t], []⟩) (Back fun v s' => Ext s s' ∧ v = .bool (checkOf x)) s := by
  refine enter [("addr", .str x t)] G (by omega) (by k_is) (by k_is) rfl (locs rfl) ?_ ?c rfl rfl rfl
  case c => decide
  intro L h₁ tk F
  have X := G.k
  have T := G.t
  have D : Dyn L (fun _ => True) h₁ := .true
  refine wpAny_execs_cons ?_
  iterate 7 walk1
  refine ⟨X.keeps F.keep, ?_⟩
  refine mcall F D (strip_call (G.keeps F.keep) (by exact hh) (by exact hroom) x t hx) fun v s₂ F₂ D₂ E₂ hv => ?_
  obtain ⟨t', rfl⟩ := hv
  walk1
  try dsimp only
  refine wpAny_execs_cons ?_
  iterate 3 walk1
  try dsimp only
  refine wpAny_execs_cons (wpAny_For ?_)
  iterate 6 walk1
  rename_i h₃ F₃ D₃
  refine ⟨X.keeps F₃.keep, ?_⟩
  refine mcall F₃ D₃ (iter_call (G.keeps F₃.keep) (by exact Nat.lt_of_succ_lt hroom) (stripOf x) t') fun v s₃ F₄ D₄ E₃ hv => ?_
  obtain ⟨ag, rfl, gen⟩ := hv
  refine wpAny_pyIter_gen (gen A hh).gen ?_
  have Z₃ : Rst s s₃ := (((Rst.refl s).same _ _).trans E₂.rst).trans (((Rst.refl s₂).same _ _).trans E₃.rst)
  have hse : s.gens.size ≤ s₂.gens.size := (((Rst.refl s).same _ _).trans E₂.rst).size
  refine for_gen (se := s) (by exact hh) (by exact Nat.lt_of_succ_lt hroom) G F₄ F₃.ns.lt (gen _ (by exact hh)) Z₃ hse
    (fun j m h => ∃ (o : Int) (t1 : Tok), m "opens" = some (.int o t1) ∧ checkOf x = checkFrom o ((unitsOf (stripOf x)).drop j)) ?inv0 ?stab ?turn ?done
  case inv0 => exact ⟨0, _, rfl, rfl⟩
  case stab => exact fun j m h h' n hI k => hI
  case turn =>
    intro j i u t1 t2 m₁ s₁ hi hI F₅ Z
    obtain ⟨o, to, ho, hc⟩ := hI
    have hd : (unitsOf (stripOf x)).drop j = (i, u) :: (unitsOf (stripOf x)).drop (j + 1) := by
      obtain ⟨hj, e⟩ := List.getElem?_eq_some_iff.mp hi
      rw [List.drop_eq_getElem_cons hj, e]
    rw [hd] at hc
    have D₅ : Dyn L (fun h => KB L s₁.heap h) s₁.heap := ⟨KB.refl _ _, fun h h' n k y => y.trans k⟩
    have hne : ∀ b, h₃.objs.size ≤ b → b ≠ L := fun b hb q => by subst q; exact absurd F₃.ns.lt (Nat.not_lt.mpr hb)
    refine wpAny_execs_cons ?_
    iterate 6 walk1
    rw [show (Str.ofString "(") = ⟨[40].toArray⟩ from by decide, ofl_beq]
    by_cases h40 : u = [40]
    · rw [if_pos (by simpa using h40)]
      refine wpAny_execs_cons ?_
      iterate 5 walk1
      rename_i h₆ F₆ D₆
      try dsimp only
      refine wpAny_execs_nil ?_
      try dsimp only
      refine wpAny_execs_nil ?_
      try dsimp only
      refine ⟨_, F₆, ⟨o + 1, _, rfl, ?_⟩, fun b o hb e => D₆.now b o (hne b hb) e, (Rst.refl _).same _ _⟩
      rw [hc]; simp [checkFrom, h40]
    rw [if_neg (by simpa using h40)]
    refine wpAny_execs_cons ?_
    iterate 6 walk1
    rw [show (Str.ofString ")") = ⟨[41].toArray⟩ from by decide, ofl_beq]
    by_cases h41 : u = [41]
    · rw [if_pos (by simpa using h41)]
      refine wpAny_execs_cons ?_
      iterate 5 walk1
      rename_i h₆ F₆ D₆
      try dsimp only
      refine wpAny_execs_cons ?_
      iterate 6 walk1
      by_cases hneg : o - 1 < 0
      · rw [if_pos (by simpa using hneg)]
        refine wpAny_execs_cons ?_
        iterate 2 walk1
        try dsimp only
        refine ⟨⟨F₆.keep, Z.same _ _⟩, ?_⟩
        rw [hc]; simp [checkFrom, h41, hneg]
      · rw [if_neg (by simpa using hneg)]
        refine wpAny_execs_nil ?_
        try dsimp only
        refine wpAny_execs_nil ?_
        try dsimp only
        refine wpAny_execs_nil ?_
        try dsimp only
        refine wpAny_execs_nil ?_
        try dsimp only
        refine ⟨_, F₆, ⟨o - 1, _, rfl, ?_⟩, fun b o hb e => D₆.now b o (hne b hb) e, (Rst.refl _).same _ _⟩
        rw [hc]; simp [checkFrom, h41, hneg]
    · rw [if_neg (by simpa using h41)]
      refine wpAny_execs_nil ?_
      try dsimp only
      refine wpAny_execs_nil ?_
      try dsimp only
      refine wpAny_execs_nil ?_
      try dsimp only
      refine ⟨_, F₅, ⟨o, _, ho, ?_⟩, fun b o hb e => e, (Rst.refl _).same _ _⟩
      rw [hc]; simp [checkFrom, h40, h41]
  case done =>
    intro m' s' F₅ hI Z
    obtain ⟨o, to, ho, hc⟩ := hI
    try dsimp only
    refine wpAny_execs_cons ?_
    iterate 5 walk1
    refine ⟨⟨F₅.keep, Z.same _ _⟩, ?_⟩
    rw [hc, List.drop_length]; rfl

section
set_option maxRecDepth 100000
set_option linter.unusedVariables false

section
variable {prog : Program} {w : World} {A : Around} {E : Value → Shared → Prop} {s : Shared} {h₀ : Heap} {L : Addr} {m : Str → Option Value}
  {p : Program} {loose : List Str} {mg mb : Str → Option Value} {name : Str} {scope : Scope} {a : Addr} {cd : Value}

/-- a for over an iterator of the library's, one name -/
theorem for_walks {x : Str} {px : Pos} {body : List Stmt} {I : Addr} {fp wr : List Addr} {n : Nat} {P : Nat → Value → Prop} {St : Nat → Heap → Prop} {Q : Flow → Shared → Prop}
    (W : Walks prog w A I fp wr n P St) (F : Fr h₀ L s.heap m) (hLf : L ∉ fp) (hwr : ∀ b ∈ wr, h₀.get? b = none) (hst : St 0 s.heap) (X : List Addr) (hX : ∀ b ∈ X, b ∉ fp)
    (Inv : Nat → (Str → Option Value) → Shared → Prop) (inv0 : Inv 0 m s)
    (stab : ∀ i m (s : Shared) h' tk, s.heap.Ns L m → Inv i m s → (∀ b o, b ≠ L → b ∉ wr → s.heap.get? b = some o → h'.get? b = some o) → Inv i m { s with heap := h', toks := tk })
    (turn : ∀ i v m₁ s₁, i < n → P i v → Inv i m₁ s₁ → Fr h₀ L s₁.heap (fun y => if y = x then some v else m₁ y) →
      wpAny (model prog w) A (execs body (envOf name scope L a cd)) (fun f s₂ => match f with
        | .next | .cont => ∃ m₂, Fr h₀ L s₂.heap m₂ ∧ Inv (i + 1) m₂ s₂ ∧ (∀ b o, b ≠ L → b ∉ X → s₁.heap.get? b = some o → s₂.heap.get? b = some o)
        | .brk => Q .next s₂
        | .ret v => Q (.ret v) s₂) (fun _ _ => False) s₁)
    (done : ∀ m' s', Fr h₀ L s'.heap m' → Inv n m' s' → Q .next s')
    (hk : scope.kind = .function := by rfl) (hl : (envOf name scope L a cd).kindOf x = some .local := by rfl) :
    codeAny (model prog w) A (.forLoop (.Name x px) (.ref I) body [] (envOf name scope L a cd)) (fun r s' => match r with | .ok f => Q f s' | .error e => E e s') s := by
  have hp : ((envOf name scope L a cd).scope.kind == .class || ((envOf name scope L a cd).scope.kind == .module && (envOf name scope L a cd).locals != (envOf name scope L a cd).globals)) = false := by
    show (scope.kind == .class || (scope.kind == .module && _)) = false
    rw [hk]; rfl
  have hLw : L ∉ wr := fun h => hLf (W.sub _ h)
  have old : ∀ b o, h₀.get? b = some o → b ∉ wr := fun b o e hb => by rw [hwr b hb] at e; cases e
  have ff : ∀ {h h' : Heap} {m}, Fr h₀ L h m → (∀ b o, b ∉ wr → h.get? b = some o → h'.get? b = some o) → Fr h₀ L h' m := fun F k =>
    ⟨F.ns.at' fun o e => k _ o hLw e, fun b o e => k b o (old b o e) (F.keep b o e), F.above⟩
  refine codeAny_forLoop (fun k s' => ∃ i m', k = n + 1 - i ∧ i ≤ n ∧ St i s'.heap ∧ Fr h₀ L s'.heap m' ∧ Inv i m' s') ?_ (n + 1) ⟨0, m, rfl, Nat.zero_le _, hst, F, inv0⟩
  rintro k s' ⟨i, m', rfl, hi, hst', F', hI⟩
  by_cases hlt : i < n
  · refine W.item i _ _ _ hlt hst' fun v h₁ tk₁ hPv hst₁ hk₁ => ?_
    have F₁ := ff F' hk₁
    refine wpAny_assign_Name (wpAny_storeName_local hl F₁.ns (fun h₂ hn₂ hs₂ => ?_) hp)
    have F₂ := F₁.set hn₂ hs₂
    have kk : ∀ b o, b ≠ L → b ∉ wr → s'.heap.get? b = some o → h₂.get? b = some o := fun b o n1 n2 e => hs₂.extBut b o n1 (hk₁ b o n2 e)
    have hst₂ : St (i + 1) h₂ := W.frame _ _ _ hst₁ fun b hb o e => hs₂.extBut b o (fun q => hLf (show L ∈ fp from (show b = L from q) ▸ hb)) e
    have I₂ := stab i m' s' h₂ (tk₁ + 1) F'.ns hI kk
    refine wpAny_mono (turn i v m' { s' with heap := h₂, toks := tk₁ + 1 } hlt hPv I₂ F₂) (fun f s₃ hf => ?_) fun _ _ e => e.elim
    have fin : (∃ m₂, Fr h₀ L s₃.heap m₂ ∧ Inv (i + 1) m₂ s₃ ∧ (∀ b o, b ≠ L → b ∉ X → h₂.get? b = some o → s₃.heap.get? b = some o)) → ∃ k, k < n + 1 - i ∧ ∃ i m', k = n + 1 - i ∧ i ≤ n ∧ St i s₃.heap ∧ Fr h₀ L s₃.heap m' ∧ Inv i m' s₃ := by
      rintro ⟨m₂, F₃, I₃, k₃⟩
      exact ⟨n + 1 - (i + 1), by omega, i + 1, m₂, rfl, hlt, W.frame _ _ _ hst₂ fun b hb o e => k₃ b o (fun q => hLf (q ▸ hb)) (fun q => hX b q hb) e, F₃, I₃⟩
    cases f with
    | next => exact fin hf
    | cont => exact fin hf
    | brk => exact hf
    | ret v => exact hf
  · have hin : i = n := by omega
    subst hin
    refine W.done _ _ _ hst' fun h₁ tk₁ hk₁ => wpAny_execs_nil ?_
    exact done m' _ (ff F' hk₁) (stab i m' s' h₁ tk₁ F'.ns hI fun b o _ n2 e => hk₁ b o n2 e)

/-- an item put to a list of one's own -/
theorem mappend {R : Addr} {xs : Array Value} {v : Value} {Q : Value → Shared → Prop} (PL : s.heap.PlainList R xs) (F : Fr h₀ L s.heap m) (hR0 : h₀.get? R = none)
    (h : ∀ h', h'.PlainList R (xs.push v) → Fr h₀ L h' m → L ≠ R → Heap.SameBut R s.heap h' → Q .none { s with heap := h' }) (hsz : xs.size ≤ sizeLine) :
    wpAny (model prog w) A (call (.builtin "list.append") [.ref R, v]) Q E s := by
  have hLR : L ≠ R := fun q => by
    subst q
    obtain ⟨e, hpl⟩ := PL
    obtain ⟨o, es, ep, ho, hd, _⟩ := F.ns
    rw [hpl] at ho; cases ho; cases hd
  refine wpAny_list_append_plain PL (fun h' PL' SB => ?_) hsz
  exact h h' PL' ⟨F.ns.sameBut SB hLR, fun b o e => SB.extBut b o (fun q => by rw [q, hR0] at e; cases e) (F.keep b o e), F.above⟩ hLR SB
end

/-- a list of texts -/
def StrsAt (h : Heap) (v : Value) (xs : List Str) : Prop := ∃ l ps, v = .ref l ∧ h.IsList l (strValues ps).toArray ∧ ps.map (·.1) = xs

noncomputable def noneText : Str := "('', '')"
noncomputable def keepIf (x : Str) : Str := if checkOf x then x else noneText



set_option maxHeartbeats 2000000 in
theorem ppv_call {prog : Program} {w : World} {A : Around} {s : Shared} {p loose mg mb} (G : Gd w p loose mg mb s.heap) (hh : A.handled = none) (hroom : A.depth + 3 < recursionLimit) {v : Value} {xs : List Str} (hv : StrsAt s.heap v xs)
    (hx : ∀ x ∈ xs, x.length ≤ 200) (hn : xs.length ≤ 1000) :
    codeAny (model prog w) A (.call (.ref 42) ⟨[v], []⟩) (Back fun v s' => Ext s s' ∧ StrsAt s'.heap v (xs.map keepIf)) s := by
  obtain ⟨l, ps, rfl, hl, hps⟩ := hv
  refine enter [("email_header_fields", .ref l)] G (by omega) (by k_is) (by k_is) rfl (locs rfl) ?_ ?c rfl rfl rfl
  case c => decide
  intro L h₁ tk F
  have X := G.k
  have T := G.t
  have D : Dyn L (fun _ => True) h₁ := .true
  refine wpAny_execs_cons ?_
  iterate 4 walk1
  rename_i h₂ R F₂ D₂ IT₂ KP₂ NF₂
  have hR0 : s.heap.get? R = none := by
    cases q : s.heap.get? R with
    | none => rfl
    | some o => have e := F.keep R o q; rw [show h₁.get? R = none from NF₂] at e; cases e
  have D₃ : Dyn L (fun h => h.PlainList R #[]) h₂ := ⟨IT₂, plist_on⟩
  walk1
  rename_i h₃ F₃ D₄
  try dsimp only
  refine wpAny_execs_cons (wpAny_For ?_)
  walk1
  have hl₃ : h₃.IsList l (strValues ps).toArray := hl.at fun o e => F₃.keep l o e
  have hL₃ : L < h₃.objs.size := F₃.ns.lt
  have hR₃ : R < h₃.objs.size := let ⟨n, e⟩ := D₄.now; Heap.lt_size e
  have hls : l < s.heap.objs.size := let ⟨o, e, _⟩ := hl; Heap.lt_size e
  have hlL : l < L := Nat.lt_of_lt_of_le hls F.above
  refine wpAny_pyIter_list hl₃ ?_
  refine for_walks (Walks.list (by exact hh) h₃.objs.size l (Nat.ne_of_lt (Nat.lt_trans hlL hL₃)) (strValues ps).toArray) (Fr.ext F₃ fun b o e => Heap.get?_push_of_some _ e) ?hLf ?hwr ⟨⟨_, Heap.get?_push_size _ rfl, rfl, rfl⟩, hl₃.push _⟩ [R] ?hX
    (fun i m s' => Rst s s' ∧ m "accepted_values" = some (.ref R) ∧ ∃ qs, s'.heap.PlainList R (strValues qs).toArray ∧ qs.map (·.1) = (xs.take i).map keepIf) ?inv0 ?stab ?turn ?done
  case hLf => simp; exact ⟨Nat.ne_of_lt hL₃, Nat.ne_of_gt hlL⟩
  case hwr => simp; exact Heap.get?_none_of_le (Nat.le_of_lt (Nat.lt_of_le_of_lt F.above hL₃))
  case hX => simp; exact ⟨Nat.ne_of_lt hR₃, fun q => by rw [q] at hR0; obtain ⟨o, e, _⟩ := hl; rw [e] at hR0; cases hR0⟩
  case inv0 => exact ⟨(Rst.refl s).same _ _, rfl, [], D₄.now.at fun o e => Heap.get?_push_of_some _ e, rfl⟩
  case stab =>
    rintro i m s' h' tk n ⟨a1, a2, qs, a3, a4⟩ k
    refine ⟨a1.same _ _, a2, qs, ?_, a4⟩
    refine a3.at fun o e => k R o ?_ ?_ e
    · intro q; subst q
      obtain ⟨e', hpl⟩ := a3
      obtain ⟨o, es, ep, ho, hd, _⟩ := n
      rw [hpl] at ho; cases ho; cases hd
    · simp; exact Nat.ne_of_lt hR₃
  case turn =>
    rintro i v m₁ s₁ hi hP ⟨Z, a2, qs, a3, a4⟩ F₅
    obtain ⟨⟨y, ty⟩, hy, rfl⟩ : ∃ q : Str × Tok, ps[i]? = some q ∧ v = .str q.1 q.2 := by
      simp [strValues] at hP
      obtain ⟨q1, q2, e1, e2⟩ := hP
      exact ⟨(q1, q2), e1, e2.symm⟩
    have hyx : xs[i]? = some y := by rw [← hps]; simp [hy]
    have D₅ : Dyn L (fun h => KB L s₁.heap h ∧ h.PlainList R (strValues qs).toArray) s₁.heap := ⟨⟨KB.refl _ _, a3⟩, fun h h' n k y => ⟨y.1.trans k, plist_on _ _ n k y.2⟩⟩
    refine wpAny_execs_cons ?_
    iterate 9 walk1
    refine ⟨X.keeps F₅.keep, ?_⟩
    refine mcall F₅ D₅ (check_call (G.keeps F₅.keep) (by exact hh) (by exact Nat.lt_of_succ_lt (Nat.lt_of_succ_lt (Nat.lt_of_succ_lt hroom)) |> fun _ => (show A.depth + 1 + 2 < recursionLimit by omega)) y ty (hx y (List.mem_of_getElem? hyx))) fun v s₂ F₆ D₆ E₂ hv => ?_
    subst hv
    have hqs : qs.length = i := by
      have := congrArg List.length a4
      have h2 : i < xs.length := (List.getElem?_eq_some_iff.mp hyx).1
      simp at this; omega
    have hxl : i < xs.length := (List.getElem?_eq_some_iff.mp hyx).1
    walk1
    have htake : (xs.take (i + 1)).map keepIf = (xs.take i).map keepIf ++ [keepIf y] := by rw [List.take_add_one, hyx]; simp
    have hszq : (strValues qs).toArray.size ≤ sizeLine := by simp [strValues]; rw [sizeLine_eq]; omega
    by_cases hc : checkOf y = true
    · rw [hc]
      refine ite_neg (by simp) ?_
      refine wpAny_execs_nil ?_
      try dsimp only
      refine wpAny_execs_cons (wpAny_Expr (wpAny_Call_append rfl rfl rfl rfl ?_))
      walk1
      refine ⟨R, _, rfl, plainL_of D₆.now.2, ?_⟩
      walk1
      refine mappend D₆.now.2 F₆ hR0 (fun h₇ PL₇ F₇ hLR SB₇ => ?_) hszq
      try dsimp only
      refine wpAny_execs_nil ?_
      try dsimp only
      refine ⟨_, F₇, ⟨(Z.trans E₂.rst).same _ _, a2, qs ++ [(y, ty)], by simpa [strValues] using PL₇, ?_⟩, fun b o n1 n2 e => SB₇.extBut b o (by simpa using n2) (D₆.now.1 b o n1 e)⟩
      rw [htake, List.map_append, a4]; simp [keepIf, hc]
    · rw [Bool.not_eq_true] at hc
      rw [hc]
      refine ite_pos (by simp) ?_
      refine wpAny_execs_cons ?_
      iterate 3 walk1
      rename_i h₇ F₇ D₇
      try dsimp only
      refine wpAny_execs_nil ?_
      try dsimp only
      refine wpAny_execs_cons (wpAny_Expr (wpAny_Call_append rfl rfl rfl rfl ?_))
      walk1
      refine ⟨R, _, rfl, plainL_of D₇.now.2, ?_⟩
      walk1
      refine mappend D₇.now.2 F₇ hR0 (fun h₈ PL₈ F₈ hLR SB₈ => ?_) hszq
      try dsimp only
      refine wpAny_execs_nil ?_
      try dsimp only
      refine ⟨_, F₈, ⟨(Z.trans E₂.rst).same _ _, a2, qs ++ [(noneText, _)], by simpa [strValues, noneText] using PL₈, ?_⟩, fun b o n1 n2 e => SB₈.extBut b o (by simpa using n2) (D₇.now.1 b o n1 e)⟩
      rw [htake, List.map_append, a4]; simp [keepIf, hc]
  case done =>
    rintro m' s' F₅ ⟨Z, a2, qs, a3, a4⟩
    try dsimp only
    refine wpAny_execs_cons ?_
    iterate 2 walk1
    refine ⟨⟨F₅.keep, Z⟩, R, qs, rfl, a3.isList, ?_⟩
    rw [a4]
    congr 1
    have : (strValues ps).toArray.size = xs.length := by rw [← hps]; simp [strValues]
    rw [this, List.take_length]

section
set_option maxRecDepth 100000
set_option linter.unusedVariables false

/-- the table of token types, read off the written heap -/
noncomputable def tokRows (P : Params) : List (Str × PyData) := match (hd.heap_39 P).lookup 43 with
  | some ⟨_, _, .dict es _, _⟩ => es.toList.map fun e => match e.key, e.val with
    | .str x _, .int i _ => (x, .int i)
    | _, _ => (⟨#[]⟩, .none)
  | _ => []
noncomputable def tokOk (D : List (Str × PyData)) : Bool := D.all fun p => match p.2 with
  | .int i => (i != 7 || p.1 == ⟨#[40]⟩) && (i != 8 || p.1 == ⟨#[41]⟩)
  | _ => false

theorem tok_look (P : Params) : KTD.tabLook KTD.flatLooks ((hd.heap_39 P).lookup ·) 43 (tokRows P) = true := by kernel_rfl
theorem tok_ok (P : Params) : tokOk (tokRows P) = true := by kernel_rfl
theorem tok_open (P : Params) : KTD.datumAt ⟨#[40]⟩ (tokRows P) = some (.int 7) := by kernel_rfl
theorem tok_shut (P : Params) : KTD.datumAt ⟨#[41]⟩ (tokRows P) = some (.int 8) := by kernel_rfl

theorem datumAt_map {k : Str} : ∀ {D : List (Str × PyData)}, KTD.datumAt k (D.map fun p => (p.1, KTD.Dat.flat p.2)) = (KTD.datumAt k D).map KTD.Dat.flat
  | [] => rfl
  | (x, d) :: D => by
    simp only [List.map_cons, KTD.datumAt]
    split
    · rfl
    · exact datumAt_map
theorem tok_at {k : Str} {d : PyData} : ∀ {D : List (Str × PyData)}, tokOk D = true → KTD.datumAt k D = some d → ∃ i : Int, d = .int i ∧ (i = 7 → k = ⟨#[40]⟩) ∧ (i = 8 → k = ⟨#[41]⟩)
  | [], _, h => by simp [KTD.datumAt] at h
  | (x, e) :: D, ok, h => by
    simp only [tokOk, List.all_cons, Bool.and_eq_true] at ok
    simp only [KTD.datumAt] at h
    split at h
    · rename_i hk
      cases h
      have hk : k = x := by simpa using hk
      subst hk
      cases d with
      | int i =>
        refine ⟨i, rfl, fun q => ?_, fun q => ?_⟩
        · have := ok.1; subst q; simpa using this
        · have := ok.1; subst q; simpa using this
      | _ => exact absurd ok.1 (by simp)
    · exact tok_at ok.2 h

section
variable {prog : Program} {w : World} {A : Around} {E : Value → Shared → Prop} {s : Shared} {h₀ : Heap} {p : Program} {loose : List Str} {mg mb : Str → Option Value}
theorem tokHere (G : Gd w p loose mg mb h₀) {h : Heap} (k : ∀ b o, h₀.get? b = some o → h.get? b = some o) : KTD.Here h₀ h 43 ((tokRows w.params).map fun p => (p.1, KTD.Dat.flat p.2)) :=
  ⟨KTD.TabOf.text (KTD.tab_of_look (R := fun d v => PyProof.V.Flat v d) (fun d v => KTD.flat_of_looks) (fun a o e => G.k a o e) (tok_look w.params)), k⟩
/-- EXACT_TOKEN_TYPES.get(k, 1) -/
theorem mget {x : Str} {tx t1 : Tok} {Q : Value → Shared → Prop} (G : Gd w p loose mg mb h₀) (k : ∀ b o, h₀.get? b = some o → s.heap.get? b = some o)
    (h : ∀ (n : Int) t, (n = 7 ↔ x = ⟨#[40]⟩) → (n = 8 ↔ x = ⟨#[41]⟩) → Q (.int n t) { s with toks := s.toks + 1 }) :
    wpAny (model prog w) A (call (.builtin "dict.get") [.ref 43, .str x tx, .int 1 t1]) Q E s := by
  have T := tokHere G k
  refine call_meetsIn PySem.F.slot_dict_get T.typeIs PySem.F.entry_dict_get (PySem.F.args_dict_get_3 _ _ _) (KTD.meets_get2 (h₀ := h₀)) ⟨T, fun d v ha hv => ?_, fun hn => ?_⟩
  · rw [datumAt_map] at ha
    obtain ⟨d', hd', rfl⟩ := Option.map_eq_some_iff.mp ha
    obtain ⟨i, rfl, h7, h8⟩ := tok_at (tok_ok w.params) hd'
    have hv' : PyProof.V.Flat v (.int i) := hv
    obtain ⟨t, rfl⟩ := hv'.int_inv
    refine h i t ⟨h7, fun e => ?_⟩ ⟨h8, fun e => ?_⟩
    · subst e; rw [tok_open] at hd'; cases hd'; rfl
    · subst e; rw [tok_shut] at hd'; cases hd'; rfl
  · rw [datumAt_map] at hn
    refine h 1 t1 ⟨fun e => absurd e (by decide), fun e => ?_⟩ ⟨fun e => absurd e (by decide), fun e => ?_⟩
    · subst e; rw [tok_open] at hn; cases hn
    · subst e; rw [tok_shut] at hn; cases hn
end

/-- _law_told upon the units: the level (from 256 on) and the flaws -/
noncomputable def toldStep (st : Int × Int) (it : Nat × List Nat) : Int × Int :=
  if it.2 = [40] then (st.1 + 1, if st.1 < 256 then st.2 + 1 else st.2) else if it.2 = [41] then (st.1 - 1, st.2) else st
noncomputable def toldOf (x : Str) : Int := let st := (unitsOf (stripOf x)).foldl toldStep (256, 0); if st.1 - 256 = 0 then st.2 else -1



set_option maxHeartbeats 2000000 in
theorem told_call {prog : Program} {w : World} {A : Around} {s : Shared} {p loose mg mb} (G : Gd w p loose mg mb s.heap) (hh : A.handled = none) (hroom : A.depth + 2 < recursionLimit) (x : Str) (t : Tok) (hx : x.length ≤ 200) :
    codeAny (model prog w) A (.call (.ref 99) ⟨[.str x t], []⟩) (Back fun v s' => Ext s s' ∧ ∃ t', v = .int (toldOf x) t') s := by
  refine enter [("text", .str x t)] G (by omega) (by k_is) (by k_is) rfl (locs rfl) ?_ ?c rfl rfl rfl
  case c => decide
  intro L h₁ tk F
  have X := G.k
  have T := G.t
  have D : Dyn L (fun _ => True) h₁ := .true
  refine wpAny_execs_cons ?_
  iterate 8 walk1
  rename_i h₂ T₂ F₂ D₂ IT₂ KP₂ NF₂
  refine massign2 (by exact hh) F₂ D₂ IT₂ fun h₃ tk₃ F₃ D₃ kb₃ => ?_
  try dsimp only
  refine wpAny_execs_cons (wpAny_For ?_)
  iterate 10 walk1
  refine ⟨X.keeps F₃.keep, ?_⟩
  refine mcall F₃ D₃ (strip_call (G.keeps F₃.keep) (by exact hh) (by exact hroom) x t hx) fun v s₂ F₄ D₄ E₂ hv => ?_
  obtain ⟨t', rfl⟩ := hv
  iterate 1 walk1
  refine ⟨X.keeps F₄.keep, ?_⟩
  refine mcall F₄ D₄ (iter_call (G.keeps F₄.keep) (by exact Nat.lt_of_succ_lt hroom) (stripOf x) t') fun v s₃ F₅ D₅ E₃ hv => ?_
  obtain ⟨ag, rfl, gen⟩ := hv
  refine wpAny_pyIter_gen (gen A hh).gen ?_
  have Z₂ : Rst s s₂ := ((Rst.refl s).same _ _).trans E₂.rst
  refine for_gen (se := s) (by exact hh) (by exact Nat.lt_of_succ_lt hroom) G F₅ F₄.ns.lt (gen _ (by exact hh)) (Z₂.trans E₃.rst) Z₂.size
    (fun j m h => let st := ((unitsOf (stripOf x)).take j).foldl toldStep (256, 0); (∃ t1, m "level" = some (.int st.1 t1)) ∧ (∃ t1, m "flaws" = some (.int st.2 t1))) ?inv0 ?stab ?turn ?done
  case inv0 => exact ⟨⟨_, rfl⟩, ⟨_, rfl⟩⟩
  case stab => exact fun j m h h' n hI k => hI
  case turn =>
    intro j i u t1 t2 m₁ s₁ hi hI F₆ Z
    dsimp only at hI
    generalize hst : ((unitsOf (stripOf x)).take j).foldl toldStep (256, 0) = st at hI
    obtain ⟨lv, fl⟩ := st
    obtain ⟨⟨ta, a1⟩, ⟨tb, a2⟩⟩ := hI
    dsimp only at a1 a2
    have hnext : ((unitsOf (stripOf x)).take (j + 1)).foldl toldStep (256, 0) = toldStep (lv, fl) (i, u) := by
      rw [List.take_add_one, hi]; simp [List.foldl_append, hst]
    have D₆ : Dyn L (fun h => KB L s₁.heap h) s₁.heap := ⟨KB.refl _ _, fun h h' n k y => y.trans k⟩
    have hne : ∀ b, s₂.heap.objs.size ≤ b → b ≠ L := fun b hb q => by subst q; exact absurd F₄.ns.lt (Nat.not_lt.mpr hb)
    refine wpAny_execs_cons ?_
    iterate 3 walk1
    refine KTD.getMethod_text (tokHere G F₆.keep) ?_
    iterate 6 walk1
    refine mget G F₆.keep fun nn tn h7 h8 => ?_
    walk1
    rename_i h₇ F₇ D₇
    try dsimp only
    have e7 : nn = 7 ↔ u = [40] := h7.trans ⟨fun e => by simpa using congrArg (fun z => z.cps.toList) e, fun e => by rw [e]⟩
    have e8 : nn = 8 ↔ u = [41] := h8.trans ⟨fun e => by simpa using congrArg (fun z => z.cps.toList) e, fun e => by rw [e]⟩
    refine wpAny_execs_cons ?_
    iterate 6 walk1
    by_cases q7 : nn = 7
    · rw [if_pos (by simpa using q7)]
      have u40 := e7.mp q7
      refine wpAny_execs_cons ?_
      iterate 8 walk1
      refine ⟨X.keeps F₇.keep, ?_⟩
      refine mcall F₇ D₇ (isterminal (G.keeps F₇.keep) (by exact Nat.lt_of_succ_lt hroom) lv ta) fun v s₄ F₈ D₈ E₄ hv => ?_
      subst hv
      walk1
      by_cases hlv : lv < 256
      · rw [if_pos (by simpa using hlv)]
        refine wpAny_execs_cons ?_
        iterate 5 walk1
        rename_i h₉ F₉ D₉
        try dsimp only
        refine wpAny_execs_nil ?_
        try dsimp only
        refine wpAny_execs_cons ?_
        iterate 5 walk1
        rename_i h₁₀ F₁₀ D₁₀
        try dsimp only
        refine wpAny_execs_nil ?_
        try dsimp only
        refine wpAny_execs_nil ?_
        try dsimp only
        refine ⟨_, F₁₀, ?_, fun b o hb e => D₁₀.now b o (hne b hb) e, (((Rst.refl _).same _ _).trans E₄.rst).same _ _⟩
        rw [hnext]
        simp only [toldStep, u40, if_true, hlv]
        exact ⟨⟨_, rfl⟩, ⟨_, rfl⟩⟩
      · rw [if_neg (by simpa using hlv)]
        refine wpAny_execs_nil ?_
        try dsimp only
        refine wpAny_execs_cons ?_
        iterate 5 walk1
        rename_i h₁₀ F₁₀ D₁₀
        try dsimp only
        refine wpAny_execs_nil ?_
        try dsimp only
        refine wpAny_execs_nil ?_
        try dsimp only
        refine ⟨_, F₁₀, ?_, fun b o hb e => D₁₀.now b o (hne b hb) e, (((Rst.refl _).same _ _).trans E₄.rst).same _ _⟩
        rw [hnext]
        simp only [toldStep, u40, if_true, hlv, if_false]
        exact ⟨⟨_, rfl⟩, ⟨_, a2⟩⟩
    · rw [if_neg (by simpa using q7)]
      have u40 : ¬ u = [40] := fun e => q7 (e7.mpr e)
      refine wpAny_execs_cons ?_
      iterate 6 walk1
      by_cases q8 : nn = 8
      · rw [if_pos (by simpa using q8)]
        have u41 := e8.mp q8
        refine wpAny_execs_cons ?_
        iterate 5 walk1
        rename_i h₁₀ F₁₀ D₁₀
        try dsimp only
        refine wpAny_execs_nil ?_
        try dsimp only
        refine wpAny_execs_nil ?_
        try dsimp only
        refine wpAny_execs_nil ?_
        try dsimp only
        refine ⟨_, F₁₀, ?_, fun b o hb e => D₁₀.now b o (hne b hb) e, (Rst.refl _).same _ _⟩
        rw [hnext]
        simp only [toldStep, u41, if_true]
        exact ⟨⟨_, rfl⟩, ⟨_, a2⟩⟩
      · rw [if_neg (by simpa using q8)]
        have u41 : ¬ u = [41] := fun e => q8 (e8.mpr e)
        refine wpAny_execs_nil ?_
        try dsimp only
        refine wpAny_execs_nil ?_
        try dsimp only
        refine wpAny_execs_nil ?_
        try dsimp only
        refine ⟨_, F₇, ?_, fun b o hb e => D₇.now b o (hne b hb) e, (Rst.refl _).same _ _⟩
        rw [hnext]
        simp only [toldStep, u40, u41, if_false]
        exact ⟨⟨_, a1⟩, ⟨_, a2⟩⟩
  case done =>
    intro m' s' F₆ hI Z
    dsimp only at hI
    rw [List.take_length] at hI
    generalize hst : (unitsOf (stripOf x)).foldl toldStep (256, 0) = st at hI
    obtain ⟨lv, fl⟩ := st
    obtain ⟨⟨ta, a1⟩, ⟨tb, a2⟩⟩ := hI
    dsimp only at a1 a2 ⊢
    have D₆ : Dyn L (fun h => True) s'.heap := .true
    refine wpAny_execs_cons ?_
    iterate 12 walk1
    refine ⟨X.keeps F₆.keep, ?_⟩
    refine mcall F₆ D₆ (iseof (by exact G.keeps F₆.keep) ?hr (lv - 256) _) fun v s₄ F₈ D₈ E₄ hv => ?_
    case hr => exact Nat.lt_of_succ_lt hroom
    subst hv
    walk1
    by_cases hlv : lv - 256 = 0
    · rw [if_pos (by simpa using hlv)]
      walk1
      refine ⟨⟨F₈.keep, ((Z.same _ _).trans E₄.rst)⟩, tb, ?_⟩
      simp only [toldOf, hst, hlv, if_true]
    · rw [if_neg (by simpa using hlv)]
      iterate 3 walk1
      refine ⟨⟨F₈.keep, ((Z.same _ _).trans E₄.rst).same _ _⟩, ?_⟩
      have e : toldOf x = -1 := by simp only [toldOf, hst, hlv, if_false]
      rw [e]
      exact ⟨_, rfl⟩

section
set_option maxRecDepth 100000
set_option linter.unusedVariables false

section
variable {prog : Program} {w : World} {A : Around} {E : Value → Shared → Prop} {s : Shared} {env : Env}

/-- the library's rule for a comprehension's turns, where nothing raises -/
theorem comp_loop {elt target iter : Expr} {scope : Scope} {pos : Pos} {it acc : Value} {R : Result → Shared → Prop} (I : Nat → Shared → Prop)
    (turn : ∀ n s, I n s → wpAny (model prog w) A (pyNext it) (fun r s₁ => match r with
      | none => R (.ok .next) s₁
      | some v => wpAny (model prog w) A (letOwnedTupleGo target it v) (fun _ s₁ => wpAny (model prog w) A (assign target env v) (fun _ s₂ => wpAny (model prog w) A (eval elt env) (fun x s₃ =>
          wpAny (model prog w) A (call (.builtin "list.append") [acc, x]) (fun _ s₄ => ∃ m, m < n ∧ I m s₄) (fun _ _ => False) s₃) (fun _ _ => False) s₂) (fun _ _ => False) s₁) (fun _ _ => False) s₁) (fun _ _ => False) s)
    (n : Nat) (h : I n s) : codeAny (model prog w) A (.compLoop (.ListComp elt [⟨target, iter, [], 0⟩] scope pos) 0 it acc env) R s :=
  kcp_loop I (fun n s hI => wpAny_mono (turn n s hI) (fun r s₁ h₁ => match r, h₁ with
    | none, h₁ => h₁
    | some _, h₁ => wpAny_mono h₁ (fun _ _ h₂ => wpAny_mono h₂ (fun _ _ h₃ => wpAny_mono h₃ (fun _ _ h₄ => wpAny_mono h₄ (fun _ _ z => z) fun _ _ z => z.elim) fun _ _ z => z.elim) fun _ _ z => z.elim) fun _ _ z => z.elim) fun _ _ z => z.elim) n h

/-- a comprehension with one clause over an iterator of the library's: the items' facts F, the whole list at the end -/
theorem comp_walks {elt target iter : Expr} {scope : Scope} {pos pos' : Pos} {first : Sem Value} {cl : List (Str × Addr)} {use : Option (Value → Sem Unit)} {Q : Value → Shared → Prop}
    (hs : ∀ x, foldedSetIterable iter env x = pure x) (hclos : closureFor scope env = pure cl)
    (hkind : scope.kind = .function) (hnames : ∀ x ∈ scope.names, x.2 = .local → scope.names.lookup x.1 = some .local) (hcell : ∀ x ∈ scope.names, x.2 ≠ .cell)
    (h : wpAny (model prog w) A first (fun x s₁ => wpAny (model prog w) A (pyIter x) (fun it s₂ => ∃ (I : Addr) (fp wr : List Addr) (n : Nat) (P : Nat → Value → Prop) (St : Nat → Heap → Prop) (F : Nat → Value → Heap → Prop),
      it = .ref I ∧ Walks prog w A I fp wr n P St ∧ n ≤ sizeLine ∧ St 0 s₂.heap ∧ (∀ b ∈ fp, b < s₂.heap.objs.size) ∧
      (∀ i (s' : Shared) v (Q : Unit → Shared → Prop) (E : Value → Shared → Prop), St i s'.heap → Q () s' → wpAny (model prog w) A (letOwnedTupleGo target (.ref I) v) Q E s') ∧
      (∀ (C D : Addr) i v (h h' : Heap), (∃ m, h.Ns C m) → (∃ ys, h.PlainList D ys) → (∃ j, St j h) → C ≠ D → s₂.heap.objs.size ≤ C → s₂.heap.objs.size ≤ D → F i v h → (∀ b o, b ≠ C → b ≠ D → b ∉ wr → h.get? b = some o → h'.get? b = some o) → F i v h') ∧
      (∀ (C : Addr) i v (s₃ : Shared) m, i < n → P i v → s₂.heap.objs.size ≤ C → s₃.heap.Ns C m → (∀ b o, b ∉ wr → s₂.heap.get? b = some o → s₃.heap.get? b = some o) → Rst s₂ s₃ →
        wpAny (model prog w) A (assign target (compEnvC scope cl C env) v) (fun _ s₄ => wpAny (model prog w) A (eval elt (compEnvC scope cl C env)) (fun y s₅ =>
          F i y s₅.heap ∧ (∃ m', s₅.heap.Ns C m') ∧ KB C s₃.heap s₅.heap ∧ Rst s₃ s₅) (fun _ _ => False) s₄) (fun _ _ => False) s₃) ∧
      (∀ (D : Addr) (C : Addr) (s' : Shared) (ys : List Value), ys.length = n → (∀ i y, ys[i]? = some y → F i y s'.heap) → s'.heap.PlainList D ys.toArray → s₂.heap.get? D = none → s₂.heap.get? C = none → C ≠ D →
        (∀ b o, b ∉ wr → s₂.heap.get? b = some o → s'.heap.get? b = some o) → Rst s₂ s' → (∃ m, s'.heap.Ns C m) → compPost (model prog w) A E use Q (.ref D) C (.ok .next) s')) E s₁) E s) :
    wpAny (model prog w) A (comprehension (.ListComp elt [⟨target, iter, [], 0⟩] scope pos) scope env pos' (newList []) false first use) Q E s := by
  refine wpAny_comprehension_free rfl hs hclos hkind hnames (wpAny_mono h (fun x s₁ h₁ => wpAny_mono h₁ (fun it s₂ h₂ => ?_) fun _ _ e => e) fun _ _ e => e)
  obtain ⟨I, fp, wr, n, P, St, F, rfl, W, hsz, hst, hfp, hgo, hF, helt, hdone⟩ := h₂
  refine wpAny_newObj_type (wpAny_newFunctionEnv hcell (by intro y hy; simp at hy) (fun h₁ hns₁ hsb₁ => ?_) hkind)
  dsimp only at hns₁ hsb₁ ⊢
  generalize hH2 : s₂.heap.push { cls := .type "list", dict := none, data := .seq ([] : List Value).toArray } = H2 at hns₁ hsb₁ ⊢
  have hC : H2.objs.size = s₂.heap.objs.size + 1 := by rw [← hH2, Heap.size_push]
  obtain ⟨D, hD⟩ : ∃ D, D = s₂.heap.objs.size := ⟨_, rfl⟩
  obtain ⟨C, hCq⟩ : ∃ C, C = H2.objs.size := ⟨_, rfl⟩
  rw [← hCq] at hns₁ hsb₁ ⊢
  have hCD : C = D + 1 := by rw [hCq, hC, hD]
  have hDC : D ≠ C := by rw [hCD]; exact Nat.ne_of_lt (Nat.lt_succ_self _)
  have hDle : s₂.heap.objs.size ≤ D := Nat.le_of_eq hD.symm
  have hCle : s₂.heap.objs.size ≤ C := by rw [hCD]; exact Nat.le_succ_of_le hDle
  have below : ∀ b, b < s₂.heap.objs.size → b ≠ C ∧ b ≠ D := fun b hb => ⟨Nat.ne_of_lt (Nat.lt_of_lt_of_le hb hCle), Nat.ne_of_lt (Nat.lt_of_lt_of_le hb hDle)⟩
  have hDf : D ∉ fp := fun hm => (below _ (hfp _ hm)).2 rfl
  have hCf : C ∉ fp := fun hm => (below _ (hfp _ hm)).1 rfl
  have hCw : C ∉ wr := fun hm => hCf (W.sub _ hm)
  have hDw : D ∉ wr := fun hm => hDf (W.sub _ hm)
  have old : ∀ b o, s₂.heap.get? b = some o → h₁.get? b = some o := fun b o e => hsb₁.extBut b o (below b (Heap.lt_size e)).1 (hH2 ▸ Heap.get?_push_of_some _ (Heap.get?_push_of_some _ e))
  have hacc : h₁.PlainList D #[] := ⟨_, hsb₁.extBut _ _ hDC (Heap.get?_push_of_some _ (by rw [← hH2, hD]; exact Heap.get?_push_size _ rfl))⟩
  have hst₁ : St 0 h₁ := W.frame _ _ _ hst fun b _ o e => old b o e
  have fresh : ∀ a, s₂.heap.objs.size ≤ a → s₂.heap.get? a = none := fun a ha => Heap.get?_none_of_le ha
  have loop : codeAny (model prog w) A (.compLoop (.ListComp elt [⟨target, iter, [], 0⟩] scope pos) 0 (.ref I) (.ref D) (compEnvC scope cl C env)) (compPost (model prog w) A E use Q (.ref D) C) { s₂ with heap := h₁, toks := s₂.toks + ([] : List (Str × Value)).length } := by
    refine comp_loop (fun k s' => ∃ i ys, k = n + 1 - i ∧ i ≤ n ∧ St i s'.heap ∧ (∃ m, s'.heap.Ns C m) ∧ ys.length = i ∧ s'.heap.PlainList D ys.toArray ∧ (∀ j y, ys[j]? = some y → F j y s'.heap) ∧
      (∀ b o, b ∉ wr → s₂.heap.get? b = some o → s'.heap.get? b = some o) ∧ Rst s₂ s') ?_ (n + 1) ⟨0, [], rfl, Nat.zero_le _, hst₁, ⟨_, hns₁⟩, rfl, hacc, fun j y e => by simp at e, fun b o _ e => old b o e, (Rst.refl _).same _ _⟩
    rintro k s' ⟨i, ys, rfl, hi, hst', ⟨m', hn'⟩, hlen, hacc', hF', hk', Z'⟩
    by_cases hlt : i < n
    · refine W.item i _ _ _ hlt hst' fun v h₃ tk₃ hPv hst₃ hk₃ => ?_
      dsimp only
      refine hgo (i + 1) _ v _ _ hst₃ ?_
      have hn₃ : h₃.Ns C m' := hn'.at' fun o e => hk₃ _ o hCw e
      refine wpAny_mono (helt C i v { s' with heap := h₃, toks := tk₃ } m' hlt hPv hCle hn₃ (fun b o hb e => hk₃ b o hb (hk' b o hb e)) (Z'.same _ _)) (fun _ s₄ h₄ => ?_) fun _ _ e => e
      refine wpAny_mono h₄ (fun y s₅ h₅ => ?_) fun _ _ e => e
      obtain ⟨hFy, ⟨m₅, hn₅⟩, kb₅, Z₅⟩ := h₅
      have hacc₅ : s₅.heap.PlainList D ys.toArray := (hacc'.at fun o e => hk₃ _ o hDw e).at fun o e => kb₅ _ o hDC e
      refine wpAny_list_append_plain hacc₅ (fun h₆ PL₆ SB₆ => ?_) (by simp; omega)
      have st₆ : St (i + 1) h₆ := W.frame _ _ _ hst₃ fun b hb o e => SB₆.extBut b o (fun q => hDf (q ▸ hb)) (kb₅ b o (fun q => hCf (q ▸ hb)) e)
      have hn₆ : h₆.Ns C m₅ := hn₅.sameBut SB₆ hDC.symm
      refine ⟨n + 1 - (i + 1), by omega, i + 1, ys ++ [y], rfl, hlt, st₆, ⟨_, hn₆⟩, by simp [hlen], by simpa using PL₆, fun j z hz => ?_, fun b o hb e => ?_, ((Z'.same _ _).trans Z₅).same _ _⟩
      · rcases Nat.lt_trichotomy j ys.length with q | q | q
        · rw [List.getElem?_append_left q] at hz
          have f1 := hF' j z hz
          refine hF C D j z _ _ ⟨_, hn'⟩ ⟨_, hacc'⟩ ⟨_, hst'⟩ hDC.symm hCle hDle f1 fun b o n1 n2 n3 e => SB₆.extBut b o n2 (kb₅ b o n1 (hk₃ b o n3 e))
        · subst q
          simp at hz; subst hz
          rw [hlen]
          refine hF C D i y _ _ ⟨_, hn₅⟩ ⟨_, hacc₅⟩ ⟨i + 1, W.frame _ _ _ hst₃ fun b hb o e => kb₅ b o (fun q => hCf (q ▸ hb)) e⟩ hDC.symm hCle hDle hFy fun b o n1 n2 n3 e => SB₆.extBut b o n2 e
        · rw [List.getElem?_eq_none (by rw [List.length_append, List.length_singleton]; omega)] at hz; cases hz
      · have hb' := Heap.lt_size e
        exact SB₆.extBut b o (below b hb').2 (kb₅ b o (below b hb').1 (hk₃ b o hb (hk' b o hb e)))
    · have hin : i = n := by omega
      subst hin
      refine W.done _ _ _ hst' fun h₃ tk₃ hk₃ => ?_
      dsimp only
      refine hdone D C _ ys hlen (fun j y e => ?_) (hacc'.at fun o e => hk₃ _ o hDw e) (fresh _ hDle) (fresh _ hCle) hDC.symm (fun b o hb e => hk₃ b o hb (hk' b o hb e)) (Z'.same _ _) ⟨m', hn'.at' fun o e => hk₃ _ o hCw e⟩
      exact hF C D j y _ _ ⟨_, hn'⟩ ⟨_, hacc'⟩ ⟨_, hst'⟩ hDC.symm hCle hDle (hF' j y e) fun b o n1 n2 n3 e => hk₃ b o n3 e
  rw [← hD]
  exact codeAny_compStart_list loop (W.self 0 _ _ _ hst₁ loop)

theorem letGo_listiter {target : Expr} {I l : Addr} {i : Nat} {v : Value} {Q : Unit → Shared → Prop} (hit : s.heap.IsListIter I l i) (h : Q () s) :
    wpAny (model prog w) A (letOwnedTupleGo target (.ref I) v) Q E s := by
  obtain ⟨o, ho, hc, hd⟩ := hit
  have other : ∀ a, wpAny (model prog w) A (letOwnedTupleGo (.Tuple [] 0 ⟨0, 0, 0, 0⟩) (.ref I) (.ref a)) Q E s := fun a => by
    unfold letOwnedTupleGo
    refine wpAny_bind (wpAny_load ho ?_)
    rw [hc, hd]
    dsimp only
    rw [if_neg (by simp)]
    exact wpAny_pure h
  cases v
  case ref a => cases target <;> first | exact wpAny_pure h | exact other a
  all_goals cases target <;> exact wpAny_pure h

/-- facts that tuples alone bear -/
def OfTuples (R : Heap → Prop) : Prop := ∀ h h' : Heap, R h → (∀ b o xs n, h.get? b = some o → o.cls = .type "tuple" → o.data = .seq xs n → h'.get? b = some o) → R h'

/-- what a turn of a comprehension over the list l is asked -/
def CompElt (prog : Program) (w : World) (A : Around) (env : Env) (scope : Scope) (cl : List (Str × Addr)) (target elt : Expr) (vs : List Value) (F : Nat → Value → Heap → Prop) (s₁ : Shared) : Prop :=
  ∀ (C : Addr) i v (s₃ : Shared) m, vs[i]? = some v → s₁.heap.objs.size ≤ C → s₃.heap.Ns C m → (∀ b o, s₁.heap.get? b = some o → s₃.heap.get? b = some o) → Rst s₁ s₃ →
    wpAny (model prog w) A (assign target (compEnvC scope cl C env) v) (fun _ s₄ => wpAny (model prog w) A (eval elt (compEnvC scope cl C env)) (fun y s₅ =>
      F i y s₅.heap ∧ (∃ m', s₅.heap.Ns C m') ∧ KB C s₃.heap s₅.heap ∧ Rst s₃ s₅) (fun _ _ => False) s₄) (fun _ _ => False) s₃

theorem comp_list_any {elt target iter : Expr} {scope : Scope} {pos pos' : Pos} {cl : List (Str × Addr)} {use : Option (Value → Sem Unit)} {Q : Value → Shared → Prop}
    (hh : A.handled = none) (hs : ∀ x, foldedSetIterable iter env x = pure x) (hclos : closureFor scope env = pure cl)
    (hkind : scope.kind = .function) (hnames : ∀ x ∈ scope.names, x.2 = .local → scope.names.lookup x.1 = some .local) (hcell : ∀ x ∈ scope.names, x.2 ≠ .cell)
    (h : wpAny (model prog w) A (eval iter env) (fun x s₁ => ∃ (l : Addr) (vs : List Value) (F : Nat → Value → Heap → Prop), x = .ref l ∧ s₁.heap.IsList l vs.toArray ∧ vs.length ≤ sizeLine ∧ (∀ i v, OfTuples (F i v)) ∧
      CompElt prog w A env scope cl target elt vs F s₁ ∧
      (∀ (D C : Addr) (s' : Shared) (ys : List Value), ys.length = vs.length → (∀ i y, ys[i]? = some y → F i y s'.heap) → s'.heap.PlainList D ys.toArray → s₁.heap.get? D = none → s₁.heap.get? C = none → C ≠ D →
        (∀ b o, s₁.heap.get? b = some o → s'.heap.get? b = some o) → Rst s₁ s' → (∃ m, s'.heap.Ns C m) → compPost (model prog w) A E use Q (.ref D) C (.ok .next) s')) E s) :
    wpAny (model prog w) A (comprehension (.ListComp elt [⟨target, iter, [], 0⟩] scope pos) scope env pos' (newList []) false (eval iter env) use) Q E s := by
  refine comp_walks hs hclos hkind hnames hcell (wpAny_mono h (fun x s₁ h₁ => ?_) fun _ _ e => e)
  obtain ⟨l, vs, F, rfl, hl, hsz, hF, helt, hdone⟩ := h₁
  have hls : l < s₁.heap.objs.size := let ⟨o, e, _⟩ := hl; Heap.lt_size e
  refine wpAny_pyIter_list hl ?_
  refine ⟨s₁.heap.objs.size, _, [s₁.heap.objs.size], vs.toArray.size, _, _, F, rfl, Walks.list hh s₁.heap.objs.size l (Nat.ne_of_lt hls) vs.toArray, by simpa using hsz, ⟨⟨_, Heap.get?_push_size _ rfl, rfl, rfl⟩, hl.push _⟩, ?_, ?_, ?_, ?_, ?_⟩
  · intro b hb
    show b < (s₁.heap.push _).objs.size
    rw [Heap.size_push]
    simp at hb
    rcases hb with rfl | rfl
    · exact Nat.lt_succ_self _
    · exact Nat.lt_succ_of_lt hls
  · intro i s' v Q E st hq
    exact letGo_listiter st.1 hq
  · intro C D i v h h' hC hD hS _ hCs hDs hf k
    refine hF i v h h' hf fun b o xs n e c d => k b o ?_ ?_ ?_ e
    · intro q; subst q
      obtain ⟨m, o', es, ep, ho', hd', _⟩ := hC
      rw [e] at ho'; cases ho'; rw [d] at hd'; cases hd'
    · intro q; subst q
      obtain ⟨ys, n', e'⟩ := hD
      rw [e] at e'; cases e'; simp at c
    · intro q
      have q : b = s₁.heap.objs.size := by simpa using q
      subst q
      obtain ⟨j, ⟨o', ho', hc', hd'⟩, _⟩ := hS
      rw [e] at ho'; cases ho'; rw [c] at hc'; exact absurd hc' (by decide)
  · intro C i v s₃ m hi hP hC hn hk Z
    simp at hP
    refine helt C i v s₃ m (by simpa using hP) ?_ hn (fun b o e => hk b o ?_ (Heap.get?_push_of_some _ e)) (((Rst.refl s₁).same _ _).trans Z)
    · refine Nat.le_trans ?_ hC
      show _ ≤ (s₁.heap.push _).objs.size
      rw [Heap.size_push]; exact Nat.le_succ _
    · simp; exact Nat.ne_of_lt (Heap.lt_size e)
  · intro D C s' ys hlen hFy PL hD hC hCD hk Z hN
    have fr : ∀ a, (s₁.heap.push { cls := Value.type "list_iterator", data := Data.fields #[Value.ref l, Value.int 0 0] }).get? a = none → s₁.heap.get? a = none := fun a e => by
      cases q : s₁.heap.get? a with
      | none => rfl
      | some o => rw [Heap.get?_push_of_some _ q] at e; cases e
    refine hdone D C s' ys (by simpa using hlen) hFy PL (fr _ hD) (fr _ hC) hCD (fun b o e => hk b o ?_ (Heap.get?_push_of_some _ e)) (((Rst.refl s₁).same _ _).trans Z) hN
    simp; exact Nat.ne_of_lt (Heap.lt_size e)

/-- a comprehension's value -/
theorem comp_eval {elt target iter : Expr} {scope : Scope} {pos : Pos} {cl : List (Str × Addr)} {Q : Value → Shared → Prop}
    (hh : A.handled = none) (hclos : closureFor scope env = pure cl)
    (hkind : scope.kind = .function) (hnames : ∀ x ∈ scope.names, x.2 = .local → scope.names.lookup x.1 = some .local) (hcell : ∀ x ∈ scope.names, x.2 ≠ .cell)
    (h : wpAny (model prog w) A (eval iter env) (fun x s₁ => ∃ (l : Addr) (vs : List Value) (F : Nat → Value → Heap → Prop), x = .ref l ∧ s₁.heap.IsList l vs.toArray ∧ vs.length ≤ sizeLine ∧ (∀ i v, OfTuples (F i v)) ∧
      CompElt prog w A env scope cl target elt vs F s₁ ∧
      (∀ (D : Addr) (s' : Shared) (ys : List Value), ys.length = vs.length → (∀ i y, ys[i]? = some y → F i y s'.heap) → s'.heap.PlainList D ys.toArray → s₁.heap.get? D = none →
        (∀ b o, s₁.heap.get? b = some o → s'.heap.get? b = some o) → Rst s₁ s' → Q (.ref D) s')) E s)
    (hs : ∀ x, foldedSetIterable iter env x = pure x := by intro _; rfl) :
    wpAny (model prog w) A (eval (.ListComp elt [⟨target, iter, [], 0⟩] scope pos) env) Q E s := by
  rw [eval_ListComp]
  refine comp_list_any hh hs hclos hkind hnames hcell (wpAny_mono h (fun x s₁ h₁ => ?_) fun _ _ e => e)
  obtain ⟨l, vs, F, rfl, hl, hsz, hF, helt, hdone⟩ := h₁
  refine ⟨l, vs, F, rfl, hl, hsz, hF, helt, fun D C s' ys hlen hFy PL hD hC hCD hk Z hN => ?_⟩
  obtain ⟨m, hn⟩ := hN
  refine ⟨m, hn, fun h' SB => ?_⟩
  refine hdone D { s' with heap := h' } ys hlen (fun i y e => ?_) (PL.extBut SB.extBut hCD.symm) hD (fun b o e => SB.extBut b o (fun q => by rw [q, hC] at e; cases e) (hk b o e)) (Z.same _ _)
  refine hF i y _ _ (hFy i y e) fun b o xs n e1 c d => SB.extBut b o (fun q => ?_) e1
  subst q
  obtain ⟨o', es, ep, ho', hd', _⟩ := hn
  rw [e1] at ho'; cases ho'; rw [d] at hd'; cases hd'

/-- name = comprehension, on one line: the store comes ahead of the letting go -/
theorem comp_assign {elt target iter : Expr} {scope : Scope} {pos py spos : Pos} {y : Str} {cl : List (Str × Addr)} {Q : Flow → Shared → Prop}
    (hsw : swapsWith (.ListComp elt [⟨target, iter, [], 0⟩] scope pos) (some (.Name y py)) spos.line env = pure true)
    (hh : A.handled = none) (hclos : closureFor scope env = pure cl)
    (hkind : scope.kind = .function) (hnames : ∀ x ∈ scope.names, x.2 = .local → scope.names.lookup x.1 = some .local) (hcell : ∀ x ∈ scope.names, x.2 ≠ .cell)
    (h : wpAny (model prog w) A (eval iter env) (fun x s₁ => ∃ (l : Addr) (vs : List Value) (F : Nat → Value → Heap → Prop), x = .ref l ∧ s₁.heap.IsList l vs.toArray ∧ vs.length ≤ sizeLine ∧ (∀ i v, OfTuples (F i v)) ∧
      CompElt prog w A env scope cl target elt vs F s₁ ∧
      (∀ (D C : Addr) (s' : Shared) (ys : List Value), ys.length = vs.length → (∀ i y, ys[i]? = some y → F i y s'.heap) → s'.heap.PlainList D ys.toArray → s₁.heap.get? D = none → s₁.heap.get? C = none → C ≠ D →
        (∀ b o, s₁.heap.get? b = some o → s'.heap.get? b = some o) → Rst s₁ s' → (∃ m, s'.heap.Ns C m) →
        wpAny (model prog w) A (storeName env y (.ref D)) (fun _ s'' => ∃ m, s''.heap.Ns C m ∧ ∀ h', Heap.SameBut C s''.heap h' → Q .next { s'' with heap := h' }) E s')) E s)
    (hs : ∀ x, foldedSetIterable iter env x = pure x := by intro _; rfl) :
    wpAny (model prog w) A (exec (.Assign [.Name y py] (.ListComp elt [⟨target, iter, [], 0⟩] scope pos) spos) env) Q E s := by
  rw [exec_Assign_Name_used y py _ spos hsw]
  refine wpAny_bind (wpAny_standAt (wpAny_bind ?_))
  show wpAny _ A (do let _ ← comprehension (.ListComp elt [⟨target, iter, [], 0⟩] scope pos) scope env _ (newList []) false (eval iter env) (some (assign (.Name y py) env))) _ _ s
  refine wpAny_bind (comp_list_any hh hs hclos hkind hnames hcell (wpAny_mono h (fun x s₁ h₁ => ?_) fun _ _ e => e))
  obtain ⟨l, vs, F, rfl, hl, hsz, hF, helt, hdone⟩ := h₁
  refine ⟨l, vs, F, rfl, hl, hsz, hF, helt, fun D C s' ys hlen hFy PL hD hC hCD hk Z hN => ?_⟩
  show wpAny _ A (assign (.Name y py) env (.ref D)) _ _ s'
  refine wpAny_assign_Name (wpAny_mono (hdone D C s' ys hlen hFy PL hD hC hCD hk Z hN) (fun _ s'' h'' => ?_) fun _ _ e => e)
  obtain ⟨m, hn, hq⟩ := h''
  exact ⟨m, hn, fun h' SB => wpAny_pure (wpAny_pure (hq h' SB))⟩
end

section
set_option maxRecDepth 100000
set_option linter.unusedVariables false

/-- a unit: opening or closing; the thing that rides on it -/
abbrev Un := Bool × Str
noncomputable def sg (b : Bool) : Str := if b then ⟨#[40]⟩ else ⟨#[41]⟩

def UnitAt (h : Heap) (v : Value) (u : Un) : Prop := ∃ a t1 t2, v = .ref a ∧ h.IsTuple a #[.str (sg u.1) t1, .str u.2 t2]
/-- a list whose items bear R -/
def SeqAt {α : Type} (R : Heap → Value → α → Prop) (h : Heap) (v : Value) (us : List α) : Prop := ∃ (l : Addr) (ps : List (Value × α)), v = .ref l ∧ h.IsList l (ps.map (·.1)).toArray ∧ ps.map (·.2) = us ∧ ∀ q ∈ ps, R h q.1 q.2
abbrev RowAt : Heap → Value → List Un → Prop := SeqAt UnitAt
abbrev RowsAt : Heap → Value → List (List Un) → Prop := SeqAt RowAt

/-- facts that outlive a frame's stores -/
def Lasts {α : Type} (R : Heap → Value → α → Prop) : Prop := ∀ L (h h' : Heap) v u, (∃ m, h.Ns L m) → KB L h h' → R h v u → R h' v u
/-- facts that outlive what adds -/
def Keeps {α : Type} (R : Heap → Value → α → Prop) : Prop := ∀ (h h' : Heap) v u, (∀ b o, h.get? b = some o → h'.get? b = some o) → R h v u → R h' v u
theorem unit_lasts : Lasts UnitAt := fun L h h' v u n k ⟨a, t1, t2, e, x⟩ => ⟨a, t1, t2, e, tup_on h h' n k x⟩
theorem unit_keeps : Keeps UnitAt := fun h h' v u k ⟨a, t1, t2, e, x⟩ => ⟨a, t1, t2, e, let ⟨o, ho, r⟩ := x; ⟨o, k _ _ ho, r⟩⟩
theorem seq_lasts {α : Type} {R : Heap → Value → α → Prop} (H : Lasts R) : Lasts (SeqAt R) := fun L h h' v u n k ⟨l, ps, e, x, y, z⟩ => ⟨l, ps, e, list_on h h' n k x, y, fun q m => H L h h' _ _ n k (z q m)⟩
theorem seq_keeps {α : Type} {R : Heap → Value → α → Prop} (H : Keeps R) : Keeps (SeqAt R) := fun h h' v u k ⟨l, ps, e, x, y, z⟩ => ⟨l, ps, e, x.at fun o q => k _ o q, y, fun q m => H h h' _ _ k (z q m)⟩
theorem row_lasts : Lasts RowAt := seq_lasts unit_lasts
theorem row_keeps : Keeps RowAt := seq_keeps unit_keeps
theorem rows_lasts : Lasts RowsAt := seq_lasts row_lasts

/-- _law_spots: level, first, last -/
noncomputable def spotStep (st : Int × Int × Int) (k : Nat) (b : Bool) : Int × Int × Int :=
  if b then (st.1 + 1, if st.1 = -1 ∧ st.2.1 < 0 then (k : Int) else st.2.1, if st.1 = 0 then (k : Int) else st.2.2) else (st.1 - 1, st.2)
noncomputable def spotsTo (us : List Un) : Nat → Int × Int × Int
  | 0 => (0, -1, -1)
  | k + 1 => match us[k]? with
    | some u => spotStep (spotsTo us k) k u.1
    | none => spotsTo us k
noncomputable def spotsOf (us : List Un) : Int × Int × Int := spotsTo us us.length

section
variable {prog : Program} {w : World} {A : Around} {E : Value → Shared → Prop} {s : Shared} {h₀ : Heap} {L : Addr} {m : Str → Option Value} {P : Heap → Prop}
  {p : Program} {loose : List Str} {mg mb : Str → Option Value} {name : Str} {scope : Scope} {a : Addr} {cd : Value}
/-- three names out of three -/
theorem massign3 {x1 x2 x3 : Str} {p1 p2 p3 pos : Pos} {k : Nat} {t : Addr} {v1 v2 v3 : Value} {Q : Unit → Shared → Prop} (hh : A.handled = none) (F : Fr h₀ L s.heap m) (D : Dyn L P s.heap) (ht : s.heap.IsTuple t #[v1, v2, v3])
    (h : ∀ h' tk, Fr h₀ L h' (fun y => if y = x3 then some v3 else if y = x2 then some v2 else if y = x1 then some v1 else m y) → Dyn L P h' → KB L s.heap h' → Q () { s with heap := h', toks := tk })
    (hk : scope.kind = .function := by rfl) (hl1 : (envOf name scope L a cd).kindOf x1 = some .local := by rfl) (hl2 : (envOf name scope L a cd).kindOf x2 = some .local := by rfl) (hl3 : (envOf name scope L a cd).kindOf x3 = some .local := by rfl) :
    wpAny (model prog w) A (assign (.Tuple [.Name x1 p1, .Name x2 p2, .Name x3 p3] k pos) (envOf name scope L a cd) (.ref t)) Q E s := by
  have hp : ((envOf name scope L a cd).scope.kind == .class || ((envOf name scope L a cd).scope.kind == .module && (envOf name scope L a cd).locals != (envOf name scope L a cd).globals)) = false := by
    show (scope.kind == .class || (scope.kind == .module && _)) = false
    rw [hk]; rfl
  refine wpAny_assign_Tuple hh ht rfl rfl fun h₃ hx₃ => ?_
  have up₃ : ∀ b o, s.heap.get? b = some o → h₃.get? b = some o := fun b o x => hx₃ b o (Nat.ne_of_lt (Heap.lt_size x)) x
  have F₃ := Fr.ext F up₃
  show wpAny _ A (do holding [v2, v3] (assign (.Name x1 p1) (envOf name scope L a cd) v1); do holding [v3] (assign (.Name x2 p2) (envOf name scope L a cd) v2); do holding [] (assign (.Name x3 p3) (envOf name scope L a cd) v3); pure ()) _ _ _
  refine wpAny_bind (wpAny_holding (wpAny_assign_Name (wpAny_storeName_local hl1 F₃.ns (fun h₄ hn₄ hs₄ => ?_) hp)))
  have F₄ := F₃.set hn₄ hs₄
  refine wpAny_bind (wpAny_holding (wpAny_assign_Name (wpAny_storeName_local hl2 F₄.ns (fun h₅ hn₅ hs₅ => ?_) hp)))
  have F₅ := F₄.set hn₅ hs₅
  refine wpAny_bind (wpAny_holding (wpAny_assign_Name (wpAny_storeName_local hl3 F₅.ns (fun h₆ hn₆ hs₆ => wpAny_pure ?_) hp)))
  have kb : KB L s.heap h₆ := fun b o n e => (KB.same hs₆) b o n ((KB.same hs₅) b o n ((KB.same hs₄) b o n (up₃ b o e)))
  exact h h₆ _ (F₅.set hn₆ hs₆) (D.step F.ns kb) kb

/-- all but the frame and the iterators over ranges stands on -/
def KR (L : Addr) (h h' : Heap) : Prop := ∀ b o, b ≠ L → o.cls ≠ .type "range_iterator" → h.get? b = some o → h'.get? b = some o

/-- a proof's own mark: the walk stands still here -/
def Held (P : Prop) : Prop := P

theorem held {h₀ h : Heap} {L : Addr} {m : Str → Option Value} {R : (Str → Option Value) → Prop} (F : Fr h₀ L h m) (r : R m) : ∃ m₂, Fr h₀ L h m₂ ∧ R m₂ := ⟨m, F, r⟩

/-- a for over range(N) -/
theorem for_range {x : Str} {px : Pos} {body : List Stmt} {N : Nat} {t : Tok} {Q : Flow → Shared → Prop} {E₁ E₂ : Value → Shared → Prop}
    (hh : A.handled = none) (F : Fr h₀ L s.heap m) (hN : N ≤ 1000) (X : List Addr) (hX : ∀ b ∈ X, b < s.heap.objs.size)
    (Inv : Nat → (Str → Option Value) → Shared → Prop) (inv0 : ∀ h' tk, (∀ b o, s.heap.get? b = some o → h'.get? b = some o) → Inv 0 m { s with heap := h', toks := tk })
    (stab : ∀ i m (s : Shared) h' tk, s.heap.Ns L m → Inv i m s → KR L s.heap h' → Inv i m { s with heap := h', toks := tk })
    (turn : ∀ i t m₁ s₁, i < N → Inv i m₁ s₁ → Fr h₀ L s₁.heap (fun y => if y = x then some (.int (i : Nat) t) else m₁ y) →
      wpAny (model prog w) A (execs body (envOf name scope L a cd)) (fun f s₂ => match f with
        | .next | .cont => Held (∃ m₂, Fr h₀ L s₂.heap m₂ ∧ Inv (i + 1) m₂ s₂ ∧ (∀ b o, b ≠ L → b ∉ X → s₁.heap.get? b = some o → s₂.heap.get? b = some o))
        | .brk => Q .next s₂
        | .ret v => Q (.ret v) s₂) (fun _ _ => False) s₁)
    (done : ∀ m' s', Fr h₀ L s'.heap m' → Inv N m' s' → Q .next s')
    (hk : scope.kind = .function := by rfl) (hl : (envOf name scope L a cd).kindOf x = some .local := by rfl) :
    wpAny (model prog w) A (call (.type "range") [.int (N : Int) t]) (fun r s₁ => wpAny (model prog w) A (pyIter r) (fun it s₂ =>
      codeAny (model prog w) A (.forLoop (.Name x px) it body [] (envOf name scope L a cd)) (fun r s' => match r with | .ok f => Q f s' | .error e => E e s') s₂) E₁ s₁) E₂ s := by
  have hp : ((envOf name scope L a cd).scope.kind == .class || ((envOf name scope L a cd).scope.kind == .module && (envOf name scope L a cd).locals != (envOf name scope L a cd).globals)) = false := by
    show (scope.kind == .class || (scope.kind == .module && _)) = false
    rw [hk]; rfl
  have hsize : Builtin.Range.rangeSize 0 (N : Int) 1 = (N : Int) := by simp [Builtin.Range.rangeSize]; omega
  refine call_range_1 (wpAny_pyIter_range (IsRange.new ..) ?hsmall ?_)
  case hsmall => exact small_one (by omega) (by omega) (by omega) (by omega)
  dsimp only
  rw [hsize]
  generalize hH : (s.heap.push _) = H
  have hHs : H.objs.size = s.heap.objs.size + 1 := by rw [← hH, Heap.size_push]
  have up : ∀ b o, s.heap.get? b = some o → H.get? b = some o := fun b o e => by rw [← hH]; exact Heap.get?_push_of_some _ e
  obtain ⟨I, hI⟩ : ∃ I, I = H.objs.size := ⟨_, rfl⟩
  rw [← hI]
  have W := Walks.range (prog := prog) (w := w) hh I 0 1 N
  have hLI : L ≠ I := fun q => absurd F.ns.lt (Nat.not_lt.mpr (by rw [q, hI, hHs]; exact Nat.le_succ _))
  have hXI : ∀ b ∈ X, b ≠ I := fun b hb q => absurd (hX b hb) (Nat.not_lt.mpr (by rw [q, hI, hHs]; exact Nat.le_succ _))
  have h0I : ∀ b o, h₀.get? b = some o → b ≠ I := fun b o e q => by
    have := Heap.lt_size (F.keep b o e)
    exact absurd this (Nat.not_lt.mpr (by rw [q, hI, hHs]; exact Nat.le_succ _))
  have ff : ∀ {h h' : Heap} {m}, Fr h₀ L h m → (∀ b o, b ∉ [I] → h.get? b = some o → h'.get? b = some o) → Fr h₀ L h' m := fun F k =>
    ⟨F.ns.at' fun o e => k _ o (by simpa using hLI) e, fun b o e => k b o (by simpa using h0I b o e) (F.keep b o e), F.above⟩
  have kr : ∀ {i : Nat} {h h' : Heap}, IsRangeIter h I (0 + (i : Nat) * 1) ((N : Int) - (i : Nat)) 1 → (∀ b o, b ≠ L → b ∉ [I] → h.get? b = some o → h'.get? b = some o) → KR L h h' := fun {i h h'} st k b o n1 n2 e => k b o n1 (by
    intro q
    have q : b = I := by simpa using q
    subst q
    rw [show h.get? b = _ from st] at e; cases e; exact n2 rfl) e
  refine codeAny_forLoop (fun k s' => ∃ i m', k = N + 1 - i ∧ i ≤ N ∧ IsRangeIter s'.heap I (0 + (i : Nat) * 1) ((N : Int) - (i : Nat)) 1 ∧ Fr h₀ L s'.heap m' ∧ Inv i m' s') ?_ (N + 1) ⟨0, m, rfl, Nat.zero_le _, ?_, ?_, ?_⟩
  case refine_2 => 
    have e1 : (0 : Int) + ((0 : Nat) : Int) * 1 = 0 := by omega
    have e2 : (N : Int) - ((0 : Nat) : Int) = N := by omega
    rw [e1, e2, hI]
    exact Heap.get?_push_size _ rfl
  case refine_3 => exact Fr.ext F fun b o e => Heap.get?_push_of_some _ (up b o e)
  case refine_4 => exact inv0 _ _ fun b o e => Heap.get?_push_of_some _ (up b o e)
  rintro k s' ⟨i, m', rfl, hi, hst', F', hI'⟩
  by_cases hlt : i < N
  · refine wpAny_pyNext_range_item hst' (by omega) fun h₁ hit₁ hs₁ => ?_
    have hk₁ : ∀ b o, b ∉ [I] → s'.heap.get? b = some o → h₁.get? b = some o := fun b o nb e => hs₁.extBut b o (by simpa using nb) e
    have F₁ := ff F' hk₁
    refine wpAny_assign_Name (wpAny_storeName_local hl F₁.ns (fun h₂ hn₂ hs₂ => ?_) hp)
    have F₂ := F₁.set hn₂ hs₂
    have hit₂ : IsRangeIter h₂ I (0 + (i : Nat) * 1 + 1) ((N : Int) - (i : Nat) - 1) 1 := hs₂.extBut _ _ hLI.symm hit₁
    have I₂ := stab i m' s' h₂ (s'.toks + 1 + 1) F'.ns hI' (kr hst' fun b o n1 n2 e => hs₂.extBut b o n1 (hk₁ b o n2 e))
    have eN : (0 : Int) + (i : Nat) * 1 = (i : Nat) := by omega
    rw [eN] at F₂
    refine wpAny_mono (turn i _ m' { s' with heap := h₂, toks := s'.toks + 1 + 1 } hlt I₂ F₂) (fun f s₃ hf => ?_) fun _ _ e => e.elim
    have fin : (∃ m₂, Fr h₀ L s₃.heap m₂ ∧ Inv (i + 1) m₂ s₃ ∧ (∀ b o, b ≠ L → b ∉ X → h₂.get? b = some o → s₃.heap.get? b = some o)) → ∃ k, k < N + 1 - i ∧ ∃ i m', k = N + 1 - i ∧ i ≤ N ∧ IsRangeIter s₃.heap I (0 + (i : Nat) * 1) ((N : Int) - (i : Nat)) 1 ∧ Fr h₀ L s₃.heap m' ∧ Inv i m' s₃ := by
      rintro ⟨m₂, F₃, I₃, k₃⟩
      refine ⟨N + 1 - (i + 1), by omega, i + 1, m₂, rfl, hlt, ?_, F₃, I₃⟩
      have e1 : (0 : Int) + ((i + 1 : Nat) : Int) * 1 = 0 + (i : Nat) * 1 + 1 := by omega
      have e2 : (N : Int) - ((i + 1 : Nat) : Int) = (N : Int) - (i : Nat) - 1 := by omega
      rw [e1, e2]
      exact k₃ _ _ hLI.symm (fun q => hXI I q rfl) hit₂
    cases f with
    | next => exact fin hf
    | cont => exact fin hf
    | brk => exact hf
    | ret v => exact hf
  · have hin : i = N := by omega
    subst hin
    refine wpAny_pyNext_range_end hh hst' (by omega) fun h₁ he₁ => wpAny_execs_nil ?_
    exact done m' _ (ff F' fun b o nb e => he₁ b o (by simpa using nb) e) (stab i m' s' h₁ s'.toks F'.ns hI' (kr hst' fun b o n1 n2 e => he₁ b o (by simpa using n2) e))
end



set_option maxHeartbeats 2000000 in
theorem spots_call {prog : Program} {w : World} {A : Around} {s : Shared} {p loose mg mb} (G : Gd w p loose mg mb s.heap) (hh : A.handled = none) (hroom : A.depth < recursionLimit) {v : Value} {us : List Un} (hv : RowAt s.heap v us) (hn : us.length ≤ 1000) :
    codeAny (model prog w) A (.call (.ref 73) ⟨[v], []⟩) (Back fun v s' => Ext s s' ∧ ∃ a t1 t2, v = .ref a ∧ s'.heap.IsTuple a #[.int (spotsOf us).2.1 t1, .int (spotsOf us).2.2 t2]) s := by
  obtain ⟨l, ps, rfl, hl, hps, hall⟩ := hv
  refine enter [("units", .ref l)] G hroom (by k_is) (by k_is) rfl (locs rfl) ?_ ?c rfl rfl rfl
  case c => decide
  intro L h₁ tk F
  have X := G.k
  have T := G.t
  have D : Dyn L (fun _ => True) h₁ := .true
  refine wpAny_execs_cons ?_
  iterate 14 walk1
  rename_i h₂ T₂ F₂ D₂ IT₂ KP₂ NF₂
  refine massign3 (by exact hh) F₂ D₂ IT₂ fun h₃ tk₃ F₃ D₃ kb₃ => ?_
  try dsimp only
  refine wpAny_execs_cons (wpAny_For ?_)
  iterate 10 walk1
  have hl₃ : h₃.IsList l (ps.map (·.1)).toArray := hl.at fun o e => F₃.keep l o e
  have hlen : ps.length = us.length := by rw [← hps]; simp
  refine len_list hl₃ (by simp; omega) ?_
  walk1
  rw [show ((ps.map (·.1)).toArray.size : Int) = ((us.length : Nat) : Int) by simp [hlen]]
  refine for_range (by exact hh) (by exact F₃) hn [] (by simp)
    (fun i m s' => Rst s s' ∧ m "units" = some (.ref l) ∧ (∃ t1, m "level" = some (.int (spotsTo us i).1 t1)) ∧ (∃ t1, m "first" = some (.int (spotsTo us i).2.1 t1)) ∧ (∃ t1, m "last" = some (.int (spotsTo us i).2.2 t1))) ?inv0 ?stab ?turn ?done
  case inv0 => exact fun h' tk k => ⟨(Rst.refl s).same _ _, rfl, ⟨_, rfl⟩, ⟨_, rfl⟩, ⟨_, rfl⟩⟩
  case stab => exact fun i m s' h' tk n ⟨a1, a2⟩ k => ⟨a1.same _ _, a2⟩
  case turn =>
    rintro i t m₁ s₁ hi ⟨Z, a1, ⟨tl, a2⟩, ⟨tf, a3⟩, ⟨tt, a4⟩⟩ F₅
    have D₅ : Dyn L (fun h => KB L s₁.heap h) s₁.heap := ⟨KB.refl _ _, fun h h' n k y => y.trans k⟩
    refine wpAny_execs_cons ?_
    repeat walk1
    have hl₅ : s₁.heap.IsList l (ps.map (·.1)).toArray := hl.at fun o e => F₅.keep l o e
    have hiu : i < ps.length := by rw [hlen]; exact hi
    obtain ⟨q, hq⟩ : ∃ q, ps[i]? = some q := ⟨_, List.getElem?_eq_getElem hiu⟩
    have hu : us[i]? = some q.2 := by rw [← hps]; simp [hq]
    obtain ⟨ta, t1, t2, hqv, hta⟩ := hall q (List.mem_of_getElem? hq)
    have hta₅ : s₁.heap.IsTuple ta #[.str (sg q.2.1) t1, .str q.2.2 t2] := let ⟨o, ho, r⟩ := hta; ⟨o, F₅.keep _ _ ho, r⟩
    refine item_listR hl₅ (by omega) (by omega) (x := .ref ta) (by simp [hq, hqv]) ?_
    have hsg : (sg q.2.1 == (")" : Str)) = !q.2.1 := by
      cases q.2.1 <;> decide
    have hnext : spotsTo us (i + 1) = spotStep (spotsTo us i) i q.2.1 := by simp only [spotsTo, hu]
    rw [hnext]
    generalize spotsTo us i = st at a2 a3 a4 ⊢
    generalize q.2.1 = qb at hta₅ hsg ⊢
    repeat' walk1
    all_goals (cases qb)
    all_goals first | contradiction | skip
    all_goals first | (exfalso; omega) | skip
    all_goals (apply held; assumption; refine ⟨⟨Z.same _ _, a1, ?_, ?_, ?_⟩, fun b o n1 n2 e => (Dyn.now (by assumption) : KB L s₁.heap _) b o n1 e⟩)
    all_goals first
      | exact ⟨_, rfl⟩
      | exact ⟨_, a3⟩
      | exact ⟨_, a4⟩
      | (show ∃ t1, _ = some (Value.int (if st.1 = -1 ∧ st.2.1 < 0 then (i : Int) else st.2.1) t1)
         first | (rw [if_pos (by omega)]; exact ⟨_, rfl⟩) | (rw [if_neg (by omega)]; exact ⟨_, a3⟩))
      | (show ∃ t1, _ = some (Value.int (if st.1 = 0 then (i : Int) else st.2.2) t1)
         first | (rw [if_pos (by omega)]; exact ⟨_, rfl⟩) | (rw [if_neg (by omega)]; exact ⟨_, a4⟩))
  case done =>
    rintro m' s' F₅ ⟨Z, a1, ⟨tl, a2⟩, ⟨tf, a3⟩, ⟨tt, a4⟩⟩
    have D₅ : Dyn L (fun h => True) s'.heap := .true
    try dsimp only
    refine wpAny_execs_cons ?_
    iterate 8 walk1
    rename_i h₇ T₇ F₇ D₇ IT₇ KP₇ NF₇
    exact ⟨⟨F₇.keep, Z.same _ _⟩, T₇, tf, tt, rfl, IT₇⟩

section
set_option maxRecDepth 100000
set_option linter.unusedVariables false

noncomputable def turnedOf (us : List Un) (k : Nat) : List Un := us.drop (k + 1) ++ (us[k]?).toList ++ us.take k

section
variable {prog : Program} {w : World} {A : Around} {E : Value → Shared → Prop} {s : Shared} {h₀ : Heap} {L : Addr} {m : Str → Option Value} {P : Heap → Prop}

/-- every object but the frame, as a ledger -/
noncomputable def allOf (h : Heap) (L : Addr) : List (Addr × Obj) := (List.range h.objs.size).filterMap fun a => if a = L then none else (h.get? a).map fun o => (a, o)
theorem allOf_news (h : Heap) (L : Addr) : News noHeap L h (allOf h L) := by
  intro p hp
  obtain ⟨a, _, e⟩ := List.mem_filterMap.mp hp
  by_cases hq : a = L
  · rw [if_pos hq] at e; cases e
  · rw [if_neg hq] at e
    obtain ⟨o, ho, rfl⟩ := Option.map_eq_some_iff.mp e
    exact ⟨ho, hq, by simp [Heap.get?]⟩
theorem allOf_kb {h h' : Heap} {L : Addr} {x : Addr × Obj} (N : News noHeap L h' (x :: allOf h L)) : KB L h h' := fun b o nb e =>
  (N (b, o) (List.mem_cons_of_mem _ (List.mem_filterMap.mpr ⟨b, List.mem_range.mpr (Heap.lt_size e), by rw [if_neg nb, e]; rfl⟩))).1
theorem Fr.back {h h' : Heap} (F' : Fr noHeap L h' m) (F : Fr h₀ L h m) (kb : KB L h h') : Fr h₀ L h' m :=
  ⟨F'.ns, fun b o e => kb b o (Nat.ne_of_lt (Nat.lt_of_lt_of_le (Heap.lt_size e) F.above)) (F.keep b o e), F.above⟩

theorem mlslice {value slice : Expr} {l : Addr} {items : Array Value} {vl vu : Value} {lo hi : Option Int} {Q : Value → Shared → Prop} (F : Fr h₀ L s.heap m) (D : Dyn L P s.heap) (hl : s.heap.IsList l items) (pl : IsPart vl lo) (pu : IsPart vu hi)
    (h : ∀ h' t, Fr h₀ L h' m → Dyn L P h' → h'.PlainList t (slicePick items lo hi none) → (∀ b o, s.heap.get? b = some o → h'.get? b = some o) → s.heap.get? t = none → Q (.ref t) { s with heap := h' })
    (hsz : items.size ≤ sizeLine)
    (hs : subscripted slice false (.ref l) (.ref s.heap.objs.size) = operate [.ref s.heap.objs.size, .ref l] (getItem (.ref l) (.ref s.heap.objs.size)) := by with_unfolding_all rfl) :
    wpAny (model prog w) A (subscriptTail value slice (.ref l) (.ref s.heap.objs.size)) Q E { s with heap := s.heap.push { cls := .type "slice", data := .fields #[vl, vu, .none] } } := by
  have k : ∀ b o, s.heap.get? b = some o → ((s.heap.push { cls := .type "slice", data := .fields #[vl, vu, .none] }).push { cls := .type "list", data := .seq (slicePick items lo hi none) }).get? b = some o := fun b o e => Heap.get?_push_of_some _ (Heap.get?_push_of_some _ e)
  have hT : ({ s with heap := s.heap.push { cls := .type "slice", data := .fields #[vl, vu, .none] } } : Shared).TypeIs (.ref l) "list" := (hl.push _).typeIs
  unfold subscriptTail
  refine wpAny_bind ?_
  rw [getitemInPython_of_ne hT.not_modules]
  refine wpAny_bind (wpAny_specialOf hT slot_list_getitem.lookup ?_)
  have fin : wpAny (model prog w) A (subscripted slice false (.ref l) (.ref s.heap.objs.size)) (fun r s₃ => wpAny (model prog w) A (letTemporaryGo value (.ref l) r >>= fun _ => pure r) Q E s₃) E { s with heap := s.heap.push { cls := .type "slice", data := .fields #[vl, vu, .none] } } := by
    rw [hs]
    refine wpAny_operating (wpAny_getItem_list_slice (hl.push _) (Heap.IsSliceOf.new ..) pl pu .none (by simp) ?_ hsz)
    refine wpAny_bind (wpAny_letTemporaryGo (wpAny_pure ?_))
    exact h _ _ (Fr.ext F k) (D.step F.ns (KB.of k)) ⟨_, Heap.get?_push_size _ rfl⟩ k (Heap.get?_none_of_le (by rw [Heap.size_push]; exact Nat.le_succ _))
  first
    | exact wpAny_pure (wpAny_bind fin)
    | exact wpAny_bind (wpAny_pure (wpAny_bind fin))
    | exact wpAny_bind fin

theorem madd {l b : Addr} {vs ws : List Value} {Q : Value → Shared → Prop} (F : Fr h₀ L s.heap m) (D : Dyn L P s.heap) (hl : s.heap.IsList l vs.toArray) (hb : s.heap.IsList b ws.toArray)
    (h : ∀ h' t, Fr h₀ L h' m → Dyn L P h' → h'.PlainList t (vs ++ ws).toArray → KB L s.heap h' → s.heap.get? t = none → Q (.ref t) { s with heap := h' })
    (hsz : vs.length + ws.length ≤ sizeLine) :
    wpAny (model prog w) A (binaryOp .Add (.ref l) (.ref b)) Q E s :=
  add_lists (frOf F.ns) (allOf_news s.heap L) hl hb (fun h' F' N' =>
    have kb := allOf_kb N'
    h h' _ (Fr.back F' F kb) (D.step F.ns kb) ⟨0, (N' _ (List.mem_cons_self ..)).1⟩ kb (Heap.get?_none_of_le (Nat.le_refl _))) hsz
end



set_option maxHeartbeats 2000000 in
theorem turned_call {prog : Program} {w : World} {A : Around} {s : Shared} {p loose mg mb} (G : Gd w p loose mg mb s.heap) (hh : A.handled = none) (hroom : A.depth < recursionLimit) {v : Value} {us : List Un} (hv : RowAt s.heap v us) (hn : us.length ≤ 1000)
    {k : Nat} (hk : k < us.length) (t : Tok) :
    codeAny (model prog w) A (.call (.ref 80) ⟨[v, .int (k : Int) t], []⟩) (Back fun v s' => Ext s s' ∧ RowAt s'.heap v (turnedOf us k)) s := by
  obtain ⟨l, ps, rfl, hl, hps, hall⟩ := hv
  refine enter [("units", .ref l), ("spot", .int (k : Int) t)] G hroom (by k_is) (by k_is) rfl (locs rfl) ?_ ?c rfl rfl rfl
  case c => decide
  intro L h₁ tk F
  have X := G.k
  have T := G.t
  have D : Dyn L (fun _ => True) h₁ := .true
  have hl₁ : h₁.IsList l (ps.map (·.1)).toArray := hl.at fun o e => F.keep l o e
  refine wpAny_execs_cons ?_
  have hlen : ps.length = us.length := by rw [← hps]; simp
  have hsz : (ps.map (·.1)).toArray.size ≤ sizeLine := by simp; rw [sizeLine_eq]; omega
  repeat walk1
  refine mlslice F D hl₁ (.int _ _) .none (fun h₂ t₂ F₂ D₂ PL₂ KP₂ NF₂ => ?_) hsz
  have hl₂ : h₂.IsList l (ps.map (·.1)).toArray := hl₁.at fun o e => KP₂ l o e
  repeat walk1
  have hkp : k < ps.length := by omega
  obtain ⟨q, hq⟩ : ∃ q, ps[k]? = some q := ⟨_, List.getElem?_eq_getElem hkp⟩
  refine item_listR hl₂ (by omega) (by omega) (x := q.1) (by simp [hq]) ?_
  have e1 : slicePick (ps.map (·.1)).toArray (some ((k : Int) + 1)) none none = ((ps.drop (k + 1)).map (·.1)).toArray := by
    have := slicePick_from' (ps.map (·.1)).toArray (k + 1)
    push_cast at this
    rw [this]; simp
  have e2 : slicePick (ps.map (·.1)).toArray none (some (k : Int)) none = ((ps.take k).map (·.1)).toArray := by
    rw [slicePick_upto']; simp
  rw [e1] at PL₂
  iterate 2 walk1
  rename_i h₃ t₃ F₃ D₃ PL₃ KP₃ NF₃
  refine madd F₃ D₃ (PL₂.isList.at fun o e => KP₃ _ o e) PL₃.isList (fun h₄ t₄ F₄ D₄ PL₄ KP₄ NF₄ => ?_) ?hz
  case hz => simp; rw [sizeLine_eq]; omega
  have hl₄ : h₄.IsList l (ps.map (·.1)).toArray := list_on _ _ ⟨_, F₃.ns⟩ KP₄ (hl₂.at fun o e => KP₃ l o e)
  repeat walk1
  refine mlslice F₄ D₄ hl₄ .none (.int _ _) (fun h₅ t₅ F₅ D₅ PL₅ KP₅ NF₅ => ?_) hsz
  rw [e2] at PL₅
  refine madd F₅ D₅ (PL₄.isList.at fun o e => KP₅ _ o e) PL₅.isList (fun h₆ t₆ F₆ D₆ PL₆ KP₆ NF₆ => ?_) ?hz2
  case hz2 => simp; rw [sizeLine_eq]; omega
  try dsimp only
  have hu : us[k]? = some q.2 := by rw [← hps]; simp [hq]
  refine ⟨⟨F₆.keep, (Rst.refl _).same _ _⟩, t₆, ps.drop (k + 1) ++ [q] ++ ps.take k, rfl, ?_, ?_, fun r hr => ?_⟩
  · have := PL₆.isList; simpa using this
  · rw [turnedOf, hu, ← hps]; simp
  · have hm : r ∈ ps := by
      simp at hr
      rcases hr with h | h | h
      · exact List.mem_of_mem_drop h
      · subst h; exact List.mem_of_getElem? hq
      · exact List.mem_of_mem_take h
    exact unit_keeps _ _ _ _ F₆.keep (hall r hm)

section
set_option maxRecDepth 100000
set_option linter.unusedVariables false

section
variable {prog : Program} {w : World} {A : Around} {E : Value → Shared → Prop} {s : Shared} {h₀ : Heap} {L : Addr} {m : Str → Option Value} {P : Heap → Prop} {env : Env}
  {p : Program} {loose : List Str} {mg mb : Str → Option Value}

/-- a local name of any frame -/
theorem gld {x : Str} {pos : Pos} {v : Value} {Q : Value → Shared → Prop} (F : Fr h₀ env.locals s.heap m) (hv : m x = some v) (h : Q v s)
    (hk : env.scope.kind = .function := by rfl) (hl : env.kindOf x = some .local := by rfl) (hd : (x == ("__debug__" : Str)) = false := by decide) :
    wpAny (model prog w) A (eval (.Name x pos) env) Q E s := wpAny_Name (wpAny_loadName_local hk hl F.ns hv h) hd
theorem gst {x : Str} {v : Value} {Q : Unit → Shared → Prop} (F : Fr h₀ env.locals s.heap m) (D : Dyn env.locals P s.heap)
    (h : ∀ h', Fr h₀ env.locals h' (fun y => if y = x then some v else m y) → Dyn env.locals P h' → Heap.SameBut env.locals s.heap h' → Q () { s with heap := h', toks := s.toks + 1 })
    (hk : env.scope.kind = .function := by rfl) (hl : env.kindOf x = some .local := by rfl) :
    wpAny (model prog w) A (storeName env x v) Q E s :=
  wpAny_storeName_local hl F.ns (fun h' hn hs => h h' (F.set hn hs) (D.step F.ns (KB.same hs)) hs) (by rw [hk]; rfl)
theorem gassign2 {x1 x2 : Str} {p1 p2 pos : Pos} {k : Nat} {t : Addr} {v1 v2 : Value} {Q : Unit → Shared → Prop} (hh : A.handled = none) (F : Fr h₀ env.locals s.heap m) (D : Dyn env.locals P s.heap) (ht : s.heap.IsTuple t #[v1, v2])
    (h : ∀ h' tk, Fr h₀ env.locals h' (fun y => if y = x2 then some v2 else if y = x1 then some v1 else m y) → Dyn env.locals P h' → KB env.locals s.heap h' → Q () { s with heap := h', toks := tk })
    (hk : env.scope.kind = .function := by rfl) (hl1 : env.kindOf x1 = some .local := by rfl) (hl2 : env.kindOf x2 = some .local := by rfl) :
    wpAny (model prog w) A (assign (.Tuple [.Name x1 p1, .Name x2 p2] k pos) env (.ref t)) Q E s := by
  have hp : (env.scope.kind == .class || (env.scope.kind == .module && env.locals != env.globals)) = false := by rw [hk]; rfl
  refine wpAny_assign_Tuple hh ht rfl rfl fun h₃ hx₃ => ?_
  have up₃ : ∀ b o, s.heap.get? b = some o → h₃.get? b = some o := fun b o x => hx₃ b o (Nat.ne_of_lt (Heap.lt_size x)) x
  have F₃ := Fr.ext F up₃
  show wpAny _ A (do holding [v2] (assign (.Name x1 p1) env v1); do holding [] (assign (.Name x2 p2) env v2); pure ()) _ _ _
  refine wpAny_bind (wpAny_holding (wpAny_assign_Name (wpAny_storeName_local hl1 F₃.ns (fun h₄ hn₄ hs₄ => ?_) hp)))
  have F₄ := F₃.set hn₄ hs₄
  refine wpAny_bind (wpAny_holding (wpAny_assign_Name (wpAny_storeName_local hl2 F₄.ns (fun h₅ hn₅ hs₅ => wpAny_pure ?_) hp)))
  have kb : KB env.locals s.heap h₅ := fun b o n e => (KB.same hs₅) b o n ((KB.same hs₄) b o n (up₃ b o e))
  exact h h₅ _ (F₄.set hn₅ hs₅) (D.step F.ns kb) kb
/-- a def of the text's, by its name, in any frame -/
theorem gdef {x : Str} {pos : Pos} {v : Value} {Q : Value → Shared → Prop} (G : Gd w p loose mg mb s.heap) (e : mg x = some v) (h : Q v s)
    (hg : env.globals = mainGlobals := by rfl) (hk : env.scope.kind = .function := by rfl) (hx : env.kindOf x = some .globalImplicit := by rfl) (hd : (x == ("__debug__" : Str)) = false := by decide) :
    wpAny (model prog w) A (eval (.Name x pos) env) Q E s :=
  Calls.Name_function_global hk hx (Calls.loadGlobal_global (env := env) (by rw [hg]; exact G.t.g) e h) hd
end

theorem strs_of : ∀ {ys : List Value} {xs : List Str}, ys.length = xs.length → (∀ (i : Nat) (y : Value), ys[i]? = some y → ∃ (t : Tok) (x : Str), xs[i]? = some x ∧ y = Value.str x t) → ∃ ts : List (Str × Tok), ys = strValues ts ∧ ts.map (·.1) = xs
  | [], [], _, _ => ⟨[], rfl, rfl⟩
  | [], _ :: _, h, _ => by simp at h
  | _ :: _, [], h, _ => by simp at h
  | y :: ys, x :: xs, hl, h => by
    obtain ⟨ts, e1, e2⟩ := strs_of (ys := ys) (xs := xs) (by simpa using hl) fun i y' e => by simpa using h (i + 1) y' (by simpa using e)
    obtain ⟨t, x', hx, rfl⟩ := h 0 y rfl
    have hx : x = x' := by simpa using hx
    subst hx
    exact ⟨(x, t) :: ts, by rw [e1]; rfl, by rw [List.map_cons, e2]⟩

/-- a row's text -/
noncomputable def textOf (us : List Un) : Str := Txt.join ⟨#[]⟩ (us.map fun u => sg u.1 ++ u.2)



set_option maxHeartbeats 400000 in
theorem text_call {prog : Program} {w : World} {A : Around} {s : Shared} {p loose mg mb} (G : Gd w p loose mg mb s.heap) (hh : A.handled = none) (hroom : A.depth < recursionLimit) {v : Value} {us : List Un} (hv : RowAt s.heap v us) (hn : us.length ≤ 20) (hx : ∀ u ∈ us, u.2.length ≤ 5) :
    codeAny (model prog w) A (.call (.ref 92) ⟨[v], []⟩) (Back fun v s' => Ext s s' ∧ ∃ t, v = .str (textOf us) t) s := by
  obtain ⟨l, ps, rfl, hl, hps, hall⟩ := hv
  refine enter [("units", .ref l)] G hroom (by k_is) (by k_is) rfl (locs rfl) ?_ ?c rfl rfl rfl
  case c => decide
  intro L h₁ tk F
  have X := G.k
  have T := G.t
  have D : Dyn L (fun _ => True) h₁ := .true
  have hl₁ : h₁.IsList l (ps.map (·.1)).toArray := hl.at fun o e => F.keep l o e
  have hlen : ps.length = us.length := by rw [← hps]; simp
  refine wpAny_execs_cons ?_
  iterate 6 walk1
  refine comp_eval (cl := []) (by exact hh) (closureFor_none (by decide)) rfl (by decide) (by decide) ?_
  walk1
  refine ⟨l, ps.map (·.1), fun i y h => ∃ t u, us[i]? = some u ∧ y = .str (sg u.1 ++ u.2) t, rfl, hl₁, ?_, ?_, ?_, ?_⟩
  · simp; rw [sizeLine_eq]; omega
  · exact fun i v h h' x _ => x
  · intro C i v s₃ m hi hC hN hk Z
    obtain ⟨q, hq, rfl⟩ : ∃ q, ps[i]? = some q ∧ q.1 = v := by simpa using hi
    have hu : us[i]? = some q.2 := by rw [← hps]; simp [hq]
    obtain ⟨ta, t1, t2, hqv, hta⟩ := hall q (List.mem_of_getElem? hq)
    have hta₃ : s₃.heap.IsTuple ta #[.str (sg q.2.1) t1, .str q.2.2 t2] := let ⟨o, ho, r⟩ := hta; ⟨o, hk _ _ (F.keep _ _ ho), r⟩
    rw [hqv]
    refine gassign2 (by exact hh) (frOf hN) (D := (⟨KB.refl _ _, fun h h' n k y => y.trans k⟩ : Dyn C (fun h => KB C s₃.heap h) s₃.heap)) hta₃ fun h₄ tk₄ F₄ D₄ kb₄ => ?_
    have hq2 : q.2.2.length ≤ 5 := hx _ (List.mem_of_getElem? hu)
    have hsl : (sg q.2.1).length ≤ 1 := by cases q.2.1 <;> decide
    walk1
    refine gld F₄ rfl ?_
    refine gld F₄ rfl ?_
    walk1
    exact ⟨⟨_, _, hu, rfl⟩, ⟨_, F₄.ns⟩, kb₄, (Rst.refl _).same _ _⟩
  · intro D' s' ys hlen' hF PL hD' hk Z
    walk1
    obtain ⟨ts, e1, e2⟩ := strs_of (ys := ys) (xs := us.map fun u => sg u.1 ++ u.2) (by rw [hlen']; simp [hlen]) fun i y e => by
      obtain ⟨t, u, hu, rfl⟩ := hF i y e
      exact ⟨t, _, by simp [hu], rfl⟩
    rw [e1] at PL
    refine SC.join PL.isList e2 ?_ fun t' k => ⟨⟨fun b o e => hk b o (F.keep b o e), ((Rst.refl s).same _ _).trans (Z.same _ _)⟩, t', rfl⟩
    unfold JoinOk
    have hB : ∀ y ∈ (us.map fun u => sg u.1 ++ u.2), y.length ≤ 10 := by
      intro y hy
      obtain ⟨u, hu, rfl⟩ := List.mem_map.mp hy
      have h1 := hx u hu
      have h2 : (sg u.1).length ≤ 1 := by cases u.1 <;> decide
      have : (sg u.1 ++ u.2).length = (sg u.1).length + u.2.length := Array.size_append
      omega
    rw [StrLaws.joinFits (B := 10) hB (by rw [show (Str.ofString "").length = 0 from rfl]; simp; omega)]; rfl

section
set_option maxRecDepth 100000
set_option linter.unusedVariables false

/-- what may ride on a bracket -/
noncomputable def six : List Str := [⟨#[]⟩, ⟨#[]⟩, ⟨#[92, 92]⟩, ⟨#[92, 40]⟩, ⟨#[34, 41, 34]⟩, ⟨#[92, 34]⟩]
def sixAt (Tg : Addr) (h : Heap) : Prop := ∃ t1 t2 t3 t4 t5 t6, h.IsTuple Tg #[.str ⟨#[]⟩ t1, .str ⟨#[]⟩ t2, .str ⟨#[92, 92]⟩ t3, .str ⟨#[92, 40]⟩ t4, .str ⟨#[34, 41, 34]⟩ t5, .str ⟨#[92, 34]⟩ t6]
noncomputable def opensOf (us : List Un) : Nat := us.countP (·.1)

section
variable {prog : Program} {w : World} {A : Around} {E : Value → Shared → Prop} {s : Shared} {h₀ : Heap} {L : Addr} {m : Str → Option Value} {P : Heap → Prop}
theorem munpack {t : Addr} {items : Array Value} {n : Nat} {Q : List Value → Shared → Prop} (hh : A.handled = none) (F : Fr h₀ L s.heap m) (D : Dyn L P s.heap) (ht : s.heap.IsTuple t items) (hn : n = items.size)
    (h : ∀ h', Fr h₀ L h' m → Dyn L P h' → (∀ b o, s.heap.get? b = some o → h'.get? b = some o) → Q items.toList { s with heap := h' }) :
    wpAny (model prog w) A (unpackItems (.ref t) n none) Q E s := by
  subst hn
  refine wpAny_unpackItems_tuple hh ht fun h₃ hx₃ => ?_
  have up₃ : ∀ b o, s.heap.get? b = some o → h₃.get? b = some o := fun b o x => hx₃ b o (Nat.ne_of_lt (Heap.lt_size x)) x
  exact h h₃ (Fr.ext F up₃) (D.step F.ns (KB.of up₃)) up₃
end

theorem pow6 {i : Nat} (h : i ≤ 20) : ((6 : Int) ^ i).natAbs.log2 < 9000 := by
  have : ∀ i : Fin 21, ((6 : Int) ^ (i : Nat)).natAbs.log2 < 9000 := by decide +kernel
  exact this ⟨i, by omega⟩
theorem six_at {x : Int} (h0 : 0 ≤ x) (h6 : x < 6) (t1 t2 t3 t4 t5 t6 : Tok) : ∃ j y t, seqIndex? x 6 = some j ∧ (#[Value.str ⟨#[]⟩ t1, .str ⟨#[]⟩ t2, .str ⟨#[92, 92]⟩ t3, .str ⟨#[92, 40]⟩ t4, .str ⟨#[34, 41, 34]⟩ t5, .str ⟨#[92, 34]⟩ t6] : Array Value)[j]? = some (.str y t) ∧ y ∈ six := by
  have : x = 0 ∨ x = 1 ∨ x = 2 ∨ x = 3 ∨ x = 4 ∨ x = 5 := by omega
  rcases this with rfl | rfl | rfl | rfl | rfl | rfl <;> exact ⟨_, _, _, rfl, rfl, by decide⟩



set_option maxHeartbeats 2000000 in
theorem row_call {prog : Program} {w : World} {A : Around} {s : Shared} {p loose mg mb} (G : Gd w p loose mg mb s.heap) (hh : A.handled = none) (hroom : A.depth < recursionLimit) (n : Int) (tn : Tok) (q : Nat) (tq : Tok) (hq : q ≤ 10) :
    codeAny (model prog w) A (.call (.ref 66) ⟨[.int n tn, .int (q : Int) tq], []⟩) (Back fun v s' => Ext s s' ∧ ∃ us, RowAt s'.heap v us ∧ us.length = 2 * q ∧ opensOf us = q ∧ ∀ u ∈ us, u.2 ∈ six) s := by
  refine enter [("number", .int n tn), ("pairs", .int (q : Int) tq)] G hroom (by k_is) (by k_is) rfl (locs rfl) ?_ ?c rfl rfl rfl
  case c => decide
  intro L h₁ tk F
  have X := G.k
  have T := G.t
  have D : Dyn L (fun _ => True) h₁ := .true
  refine wpAny_execs_cons ?_
  iterate 16 walk1
  rename_i h₂ T₂ F₂ D₂ IT₂ KP₂ NF₂
  have D₃ : Dyn L (fun h => h.IsTuple T₂ _) h₂ := ⟨IT₂, tup_on⟩
  walk1
  rename_i h₃ F₃ D₄
  clear D₂ D IT₂
  try dsimp only
  refine wpAny_execs_cons ?_
  iterate 6 walk1
  rename_i h₄ R F₄ D₅ PL₄ KP₄ NF₄
  have D₆ := D₅.and PL₄ plist_on
  clear D₅ PL₄
  iterate 4 walk1
  rename_i h₅ T₅ F₅ D₇ IT₅ KP₅ NF₅
  refine munpack (by exact hh) F₅ D₇ IT₅ rfl fun h₆ F₆ D₈ KP₆ => ?_
  dsimp only [List.filterMap, List.map]
  repeat (fail_if_success (with_reducible show wpAny _ _ (execs _ _) _ _ _)); walk1
  rename_i h₇ F₇ D₉ h₈ F₈ D₁₀
  try dsimp only
  have hR0 : s.heap.get? R = none := by
    cases e : s.heap.get? R with
    | none => rfl
    | some o => have e' := F₃.keep R o e; rw [show h₃.get? R = none from NF₄] at e'; cases e'
  refine wpAny_execs_cons (wpAny_For ?_)
  repeat walk1
  have hR8 : R < h₈.objs.size := let ⟨n, e⟩ := D₁₀.now.2; Heap.lt_size e
  have e2q : (2 : Int) * (q : Int) = ((2 * q : Nat) : Int) := by omega
  rw [e2q]
  refine for_range (by exact hh) F₈ (by omega) [R] (by simpa using hR8)
    (fun i m s' => Rst s s' ∧ m "number" = some (.int n tn) ∧ m "pairs" = some (.int (q : Int) tq) ∧ m "things" = some (.ref T₂) ∧ m "units" = some (.ref R) ∧ sixAt T₂ s'.heap ∧
      ∃ ps : List (Value × Un), s'.heap.PlainList R (ps.map (·.1)).toArray ∧ ps.length = i ∧ (∃ t1, m "opens" = some (.int ((opensOf (ps.map (·.2)) : Nat) : Int) t1)) ∧ opensOf (ps.map (·.2)) ≤ q ∧ i ≤ opensOf (ps.map (·.2)) + q ∧
        (∀ r ∈ ps, UnitAt s'.heap r.1 r.2) ∧ (∀ r ∈ ps, r.2.2 ∈ six)) ?inv0 ?stab ?turn ?done
  case inv0 =>
    intro h' tk k
    obtain ⟨o, ho, r⟩ := D₁₀.now.1
    refine ⟨(Rst.refl s).same _ _, rfl, rfl, rfl, rfl, ⟨_, _, _, _, _, _, o, k _ _ ho, r⟩, [], ?_, rfl, ⟨_, rfl⟩, Nat.zero_le _, Nat.zero_le _, ?_, ?_⟩
    · obtain ⟨n', e⟩ := D₁₀.now.2
      exact ⟨n', k _ _ e⟩
    · simp
    · simp
  case stab =>
    rintro i m s' h' tk n' ⟨a1, a2, a3, a4, a5, ⟨t1, t2, t3, t4, t5, t6, o, ho, hc, r⟩, ps, b1, b2, b3, b4, b5, b6, b7⟩ k
    have notL : ∀ {o b}, s'.heap.get? b = some o → (∃ xs n, o.data = .seq xs n) → b ≠ L := fun {o b} e hd q => by
      subst q
      obtain ⟨xs, n, hd⟩ := hd
      obtain ⟨o', es, ep, ho', hd', _⟩ := n'
      rw [e] at ho'; cases ho'; rw [hd] at hd'; cases hd'
    have tup : ∀ {b xs}, s'.heap.IsTuple b xs → h'.IsTuple b xs := fun {b xs} ⟨o, ho, hc, n, hd⟩ => ⟨o, k _ _ (notL ho ⟨_, _, hd⟩) (by rw [hc]; decide) ho, hc, n, hd⟩
    refine ⟨a1.same _ _, a2, a3, a4, a5, ⟨t1, t2, t3, t4, t5, t6, tup ⟨o, ho, hc, r⟩⟩, ps, ?_, b2, b3, b4, b5, fun r hr => ?_, b7⟩
    · obtain ⟨n'', e⟩ := b1
      exact ⟨n'', k _ _ (notL e ⟨_, _, rfl⟩) (by simp) e⟩
    · obtain ⟨a, t1, t2, e, x⟩ := b6 r hr
      exact ⟨a, t1, t2, e, tup x⟩
  case turn =>
    rintro i t m₁ s₁ hi ⟨Z, a2, a3, a4, a5, a6, ps, b1, b2, ⟨to, b3⟩, b4, b5, b6, b7⟩ F₅'
    have D₅' : Dyn L (fun h => KB L s₁.heap h) s₁.heap := ⟨KB.refl _ _, fun h h' n k y => y.trans k⟩
    refine wpAny_execs_cons (wpAny_mono (Q := fun f s₂ => f = .next ∧ Held (∃ m₂, Fr s.heap L s₂.heap m₂ ∧ KB L s₁.heap s₂.heap ∧ Rst s s₂ ∧ m₂ "number" = some (.int n tn) ∧ m₂ "pairs" = some (.int (q : Int) tq) ∧ m₂ "things" = some (.ref T₂) ∧ m₂ "units" = some (.ref R) ∧ (∃ t, m₂ "k" = some (.int (i : Nat) t)) ∧
      ∃ b : Bool, (∃ t, m₂ "sign" = some (.str (sg b) t)) ∧ (∃ t, m₂ "opens" = some (.int ((opensOf (ps.map (·.2)) + (if b then 1 else 0) : Nat) : Int) t)) ∧ (b = true → opensOf (ps.map (·.2)) < q) ∧ (b = false → i < opensOf (ps.map (·.2)) + q))) (E := fun _ _ => False) ?_ (fun f s₂ hf => ?_) fun _ _ e => e)
    · repeat' walk1
      all_goals (apply held; assumption; refine ⟨(Dyn.now (by assumption) : KB L s₁.heap _), Z.same _ _, a2, a3, a4, a5, ⟨_, rfl⟩, ?_⟩)
      all_goals first
        | exact ⟨true, ⟨_, rfl⟩, ⟨_, rfl⟩, (fun _ => by omega), (fun h => by cases h)⟩
        | exact ⟨false, ⟨_, rfl⟩, ⟨_, b3⟩, (fun h => by cases h), fun _ => by omega⟩
    · obtain ⟨rfl, m₂, F₂', kb, Z₂, c1, c2, c3, c4, ⟨tk', c5⟩, b, ⟨ts, c6⟩, ⟨to', c7⟩, hb1, hb0⟩ := hf
      try dsimp only
      have b1' : s₂.heap.PlainList R (ps.map (·.1)).toArray := plist_on _ _ ⟨_, F₅'.ns⟩ kb b1
      have D₂' : Dyn L (fun h => KB L s₂.heap h ∧ h.PlainList R (ps.map (·.1)).toArray) s₂.heap := ⟨⟨KB.refl _ _, b1'⟩, fun h h' n k y => ⟨y.1.trans k, plist_on _ _ n k y.2⟩⟩
      obtain ⟨t1, t2, t3, t4, t5, t6, six₁⟩ := a6
      have six₂ := tup_on _ _ ⟨_, F₅'.ns⟩ kb six₁
      refine wpAny_execs_cons (wpAny_Expr (wpAny_Call_append rfl rfl rfl rfl ?_))
      walk1
      refine ⟨R, _, rfl, plainL_of b1', ?_⟩
      repeat walk1
      have h6 : (6 : Int) ^ (i : Int).toNat ≠ 0 := Int.pow_ne_zero (by decide)
      refine floordiv_int h6 ?_ (Or.inl (PyProof.noPylong_of_log2 (pow6 (by omega))))
      iterate 2 walk1
      generalize hz : Int.fmod (Int.fdiv (Int.fdiv n 256) (6 ^ (i : Int).toNat)) 6 = z
      have hz0 : 0 ≤ z := by rw [← hz]; exact Int.fmod_nonneg_of_pos _ (by decide)
      have hz6 : z < 6 := by rw [← hz]; exact Int.fmod_lt_of_pos _ (by decide)
      obtain ⟨j, y, ty, hj, hy, hys⟩ := six_at hz0 hz6 t1 t2 t3 t4 t5 t6
      refine item_tuple six₂ (j := j) (by omega) (by omega) hj hy ?_
      iterate 2 walk1
      rename_i h₇' T₇ F₇' D₇' IT₇ KP₇ NF₇
      refine mappend D₇'.now.2 F₇' hR0 (fun h₈' PL₈ F₈' hLR SB₈ => ?_) (by simp; rw [sizeLine_eq]; omega)
      try dsimp only
      refine wpAny_execs_nil ?_
      try dsimp only
      have tupR : ∀ {c xs}, h₇'.IsTuple c xs → h₈'.IsTuple c xs := fun {c xs} ⟨o, ho, hc, n', hd⟩ => ⟨o, SB₈.extBut _ _ (fun e => by
        subst e
        obtain ⟨n'', e⟩ := D₇'.now.2
        rw [ho] at e; cases e; simp at hc) ho, hc, n', hd⟩
      refine ⟨m₂, F₈', ⟨Z₂.same _ _, c1, c2, c3, c4, ⟨t1, t2, t3, t4, t5, t6, tupR (let ⟨o, ho, r⟩ := six₂; ⟨o, KP₇ _ _ ho, r⟩)⟩, ps ++ [(.ref T₇, (b, y))], ?_, by simp [b2], ⟨to', ?_⟩, ?_, ?_, ?_, ?_⟩, ?_⟩
      · simpa using PL₈
      · rw [c7]
        have : opensOf ((ps ++ [(Value.ref T₇, (b, y))]).map (·.2)) = opensOf (ps.map (·.2)) + (if b then 1 else 0) := by
          simp [opensOf, List.countP_append, List.countP_cons]
        rw [this]
      · have : opensOf ((ps ++ [(Value.ref T₇, (b, y))]).map (·.2)) = opensOf (ps.map (·.2)) + (if b then 1 else 0) := by
          simp [opensOf, List.countP_append, List.countP_cons]
        rw [this]
        cases b with
        | true => have := hb1 rfl; simp; omega
        | false => simpa using b4
      · have : opensOf ((ps ++ [(Value.ref T₇, (b, y))]).map (·.2)) = opensOf (ps.map (·.2)) + (if b then 1 else 0) := by
          simp [opensOf, List.countP_append, List.countP_cons]
        rw [this]
        cases b with
        | true => simp; omega
        | false => have := hb0 rfl; simp; omega
      · intro r hr
        rcases List.mem_append.mp hr with hr | hr
        · obtain ⟨c, u1, u2, e, x⟩ := b6 r hr
          have x2 := tup_on _ _ ⟨_, F₅'.ns⟩ kb x
          exact ⟨c, u1, u2, e, tupR (let ⟨o, ho, r⟩ := x2; ⟨o, KP₇ _ _ ho, r⟩)⟩
        · rw [List.mem_singleton.mp hr]
          exact ⟨T₇, ts, ty, rfl, tupR IT₇⟩
      · intro r hr
        rcases List.mem_append.mp hr with hr | hr
        · exact b7 r hr
        · rw [List.mem_singleton.mp hr]; exact hys
      · intro c o n1 n2 e
        exact SB₈.extBut c o (by simpa using n2) (KP₇ _ _ (kb c o n1 e))
  case done =>
    rintro m' s' F₅' ⟨Z, a2, a3, a4, a5, a6, ps, b1, b2, ⟨to, b3⟩, b4, b5, b6, b7⟩
    have D₅' : Dyn L (fun h => True) s'.heap := .true
    try dsimp only
    refine wpAny_execs_cons ?_
    iterate 2 walk1
    refine ⟨⟨F₅'.keep, Z⟩, ps.map (·.2), ⟨R, ps, rfl, b1.isList, rfl, b6⟩, by simp [b2], by omega, fun u hu => ?_⟩
    obtain ⟨r, hr, rfl⟩ := List.mem_map.mp hu
    exact b7 r hr

section
set_option maxRecDepth 512
set_option linter.unusedVariables false

noncomputable def stp (u : Un) : Int := if u.1 then 1 else -1
noncomputable def lev : List Un → Int
  | [] => 0
  | u :: r => stp u + lev r
/-- how many opening ones begin below the ground -/
noncomputable def flawsFrom (l : Int) : List Un → Nat
  | [] => 0
  | u :: r => (if u.1 = true ∧ l < 0 then 1 else 0) + flawsFrom (l + stp u) r
noncomputable def flaws (us : List Un) : Nat := flawsFrom 0 us
noncomputable def noOpen (c l : Int) : List Un → Prop
  | [] => True
  | u :: r => ¬(u.1 = true ∧ l = c) ∧ noOpen c (l + stp u) r
structure Bal (q : Nat) (us : List Un) : Prop where
  len : us.length = 2 * q
  opens : opensOf us = q
  things : ∀ u ∈ us, u.2 ∈ six

theorem lev_append : ∀ a b : List Un, lev (a ++ b) = lev a + lev b
  | [], b => by simp [lev]
  | u :: a, b => by simp [lev, lev_append a b]; omega
theorem flawsFrom_append : ∀ (a b : List Un) (l : Int), flawsFrom l (a ++ b) = flawsFrom l a + flawsFrom (l + lev a) b
  | [], b, l => by simp [flawsFrom, lev]
  | u :: a, b, l => by
    simp only [List.cons_append, flawsFrom, lev, flawsFrom_append a b]
    rw [show l + stp u + lev a = l + (stp u + lev a) by omega]; omega
/-- a run one lower: the same flaws, if none leaves the ground -/
theorem flaws_shift : ∀ (b : List Un) (l : Int), noOpen 0 (l + 1) b → flawsFrom l b = flawsFrom (l + 1) b
  | [], l, _ => rfl
  | u :: b, l, h => by
    simp only [flawsFrom, noOpen] at h ⊢
    have ih := flaws_shift b (l + stp u) (by rw [show l + stp u + 1 = l + 1 + stp u by omega]; exact h.2)
    rw [show l + 1 + stp u = l + stp u + 1 by omega, ih]
    congr 1
    by_cases hu : u.1 = true
    · have hl : ¬(l + 1 = 0) := fun e => h.1 ⟨hu, e⟩
      by_cases h1 : l < 0
      · rw [if_pos ⟨hu, h1⟩, if_pos ⟨hu, by omega⟩]
      · rw [if_neg (fun x => h1 x.2), if_neg (fun x => by omega)]
    · rw [if_neg (fun x => hu x.1), if_neg (fun x => hu x.1)]
theorem noOpen_shift : ∀ (b : List Un) (c l d : Int), noOpen c l b ↔ noOpen (c + d) (l + d) b
  | [], _, _, _ => Iff.rfl
  | u :: b, c, l, d => by
    simp only [noOpen, noOpen_shift b c (l + stp u) d]
    rw [show l + stp u + d = l + d + stp u by omega]
    constructor
    · rintro ⟨x, y⟩; exact ⟨fun z => x ⟨z.1, by omega⟩, y⟩
    · rintro ⟨x, y⟩; exact ⟨fun z => x ⟨z.1, by omega⟩, y⟩
theorem lev_opens : ∀ us : List Un, lev us = 2 * (opensOf us : Int) - us.length
  | [] => rfl
  | u :: us => by
    have := lev_opens us
    simp only [opensOf, lev, stp, List.countP_cons, List.length_cons] at this ⊢
    rw [this]
    by_cases h : u.1 = true
    · simp [h]; omega
    · simp [h]; omega
theorem Bal.lev {q us} (B : Bal q us) : lev us = 0 := by rw [lev_opens, B.opens, B.len]; omega
theorem flaws_le : ∀ (us : List Un) (l : Int), flawsFrom l us ≤ opensOf us
  | [], l => Nat.le_refl _
  | u :: us, l => by
    have := flaws_le us (l + stp u)
    simp only [flawsFrom, opensOf, List.countP_cons] at this ⊢
    by_cases h : u.1 = true
    · simp [h]; split <;> omega
    · simp [h]; omega
theorem flaws_all : ∀ (us : List Un) (l : Int), l ≤ 0 → noOpen 0 l us → flawsFrom l us = opensOf us
  | [], l, _, _ => rfl
  | u :: us, l, hl, h => by
    simp only [noOpen] at h
    simp only [flawsFrom, opensOf, List.countP_cons]
    by_cases hu : u.1 = true
    · have hl' : ¬ l = 0 := fun e => h.1 ⟨hu, e⟩
      have := flaws_all us (l + stp u) (by simp [stp, hu]; omega) h.2
      rw [this]; simp [hu, opensOf]
      rw [if_pos (by omega)]; omega
    · have := flaws_all us (l + stp u) (by simp [stp, hu]; omega) h.2
      rw [this]; simp [hu, opensOf]
theorem noOpen_under : ∀ (us : List Un) (l : Int), l < 0 → noOpen (-1) l us → l + lev us < 0
  | [], l, hl, _ => by simp [lev]; exact hl
  | u :: us, l, hl, h => by
    simp only [noOpen] at h
    have := noOpen_under us (l + stp u) (by
      by_cases hu : u.1 = true
      · have : ¬ l = -1 := fun e => h.1 ⟨hu, e⟩
        simp [stp, hu]; omega
      · simp [stp, hu]; omega) h.2
    simp only [lev]; omega
theorem flaws_none : ∀ (us : List Un) (l : Int), 0 ≤ l → 0 ≤ l + lev us → noOpen (-1) l us → flawsFrom l us = 0
  | [], l, _, _, _ => rfl
  | u :: us, l, hl, he, h => by
    simp only [noOpen, lev] at h he
    simp only [flawsFrom]
    rw [if_neg (by omega)]
    by_cases h0 : l + stp u < 0
    · have := noOpen_under us (l + stp u) h0 h.2
      omega
    · rw [flaws_none us (l + stp u) (by omega) (by omega) h.2]

/-- an opening one at j from the level c -/
def openAt (us : List Un) (c : Int) (j : Nat) : Prop := ∃ u, us[j]? = some u ∧ u.1 = true ∧ lev (us.take j) = c

theorem noOpen_iff : ∀ (us : List Un) (c l : Int), (∀ j, ¬ openAt us (c - l) j) → noOpen c l us
  | [], c, l, _ => trivial
  | u :: us, c, l, h => by
    refine ⟨fun x => h 0 ⟨u, rfl, x.1, by simp [lev]; omega⟩, noOpen_iff us c (l + stp u) fun j hj => h (j + 1) ?_⟩
    obtain ⟨v, hv, h1, h2⟩ := hj
    refine ⟨v, by simpa using hv, h1, ?_⟩
    simp only [List.take_succ_cons, lev, h2]; omega

theorem spots_inv (us : List Un) : ∀ i, i ≤ us.length → (spotsTo us i).1 = lev (us.take i) ∧
    ((spotsTo us i).2.1 = -1 ∧ (∀ j, j < i → ¬ openAt us (-1) j) ∨ ∃ k, k < i ∧ (spotsTo us i).2.1 = (k : Nat) ∧ openAt us (-1) k ∧ ∀ j, j < k → ¬ openAt us (-1) j) ∧
    ((spotsTo us i).2.2 = -1 ∧ (∀ j, j < i → ¬ openAt us 0 j) ∨ ∃ k, k < i ∧ (spotsTo us i).2.2 = (k : Nat) ∧ openAt us 0 k ∧ ∀ j, k < j → j < i → ¬ openAt us 0 j)
  | 0, _ => ⟨by simp [spotsTo, lev], .inl ⟨rfl, fun j h => by omega⟩, .inl ⟨rfl, fun j h => by omega⟩⟩
  | i + 1, hi => by
    obtain ⟨h1, h2, h3⟩ := spots_inv us i (by omega)
    obtain ⟨u, hu⟩ : ∃ u, us[i]? = some u := ⟨_, List.getElem?_eq_getElem (by omega)⟩
    have e : spotsTo us (i + 1) = spotStep (spotsTo us i) i u.1 := by simp only [spotsTo, hu]
    have el : lev (us.take (i + 1)) = lev (us.take i) + stp u := by rw [List.take_add_one, hu, lev_append]; simp [lev]
    generalize spotsTo us i = st at h1 h2 h3 e
    rw [e]
    have lt : ∀ j, j < i + 1 → j < i ∨ j = i := fun j h => by omega
    cases hb : u.1 with
    | false =>
      have no : ∀ c, ¬ openAt us c i := fun c ⟨v, hv, x, _⟩ => by rw [hu] at hv; cases hv; rw [hb] at x; cases x
      refine ⟨by simp [spotStep, el, stp, hb, h1]; omega, ?_, ?_⟩
      · rcases h2 with ⟨a, b⟩ | ⟨k, a, b, c, d⟩
        · exact .inl ⟨by simpa [spotStep] using a, fun j hj => (lt j hj).elim (b j) (fun q => q ▸ no _)⟩
        · exact .inr ⟨k, by omega, by simpa [spotStep] using b, c, d⟩
      · rcases h3 with ⟨a, b⟩ | ⟨k, a, b, c, d⟩
        · exact .inl ⟨by simpa [spotStep] using a, fun j hj => (lt j hj).elim (b j) (fun q => q ▸ no _)⟩
        · exact .inr ⟨k, by omega, by simpa [spotStep] using b, c, fun j x y => (lt j y).elim (d j x) (fun q => q ▸ no _)⟩
    | true =>
      have yes : ∀ c, st.1 = c → openAt us c i := fun c hc => ⟨u, hu, hb, by omega⟩
      have no : ∀ c, st.1 ≠ c → ¬ openAt us c i := fun c hc ⟨v, hv, x, y⟩ => hc (by omega)
      refine ⟨by simp [spotStep, el, stp, hb, h1], ?_, ?_⟩
      · rcases h2 with ⟨a, b⟩ | ⟨k, a, b, c, d⟩
        · by_cases hl : st.1 = -1
          · exact .inr ⟨i, by omega, by simp [spotStep, hl, a], yes _ hl, b⟩
          · exact .inl ⟨by simp [spotStep, hl, a], fun j hj => (lt j hj).elim (b j) (fun q => q ▸ no _ hl)⟩
        · exact .inr ⟨k, by omega, by simp only [spotStep, if_true]; rw [if_neg (by omega)]; exact b, c, d⟩
      · by_cases hl : st.1 = 0
        · exact .inr ⟨i, by omega, by simp [spotStep, hl], yes _ hl, fun j x y => by omega⟩
        · rcases h3 with ⟨a, b⟩ | ⟨k, a, b, c, d⟩
          · exact .inl ⟨by simp [spotStep, hl, a], fun j hj => (lt j hj).elim (b j) (fun q => q ▸ no _ hl)⟩
          · exact .inr ⟨k, by omega, by simp only [spotStep, if_true]; rw [if_neg hl]; exact b, c, fun j x y => (lt j y).elim (d j x) (fun q => q ▸ no _ hl)⟩

theorem openAt_lt {us c j} (h : openAt us c j) : j < us.length := let ⟨u, hu, _⟩ := h; (List.getElem?_eq_some_iff.mp hu).1

/-- the row around an opening one -/
theorem split_at {us : List Un} {c : Int} {k : Nat} (h : openAt us c k) : ∃ u, u.1 = true ∧ us = us.take k ++ u :: us.drop (k + 1) ∧ turnedOf us k = us.drop (k + 1) ++ u :: us.take k ∧ lev (us.take k) = c := by
  obtain ⟨u, hu, h1, h2⟩ := h
  have hlt := (List.getElem?_eq_some_iff.mp hu).1
  refine ⟨u, h1, ?_, by simp [turnedOf, hu], h2⟩
  have := List.take_append_drop k us
  rw [List.drop_eq_getElem_cons hlt, (List.getElem?_eq_some_iff.mp hu).2] at this
  exact this.symm

theorem Bal.turned {q us c k} (B : Bal q us) (h : openAt us c k) : Bal q (turnedOf us k) := by
  obtain ⟨u, h1, e, et, hl⟩ := split_at h
  have l1 := congrArg List.length e
  have o1 := congrArg opensOf e
  simp only [List.length_append, List.length_cons, opensOf, List.countP_append, List.countP_cons] at l1 o1
  have b1 := B.len; have b2 := B.opens
  refine ⟨?_, ?_, fun v hv => ?_⟩
  · rw [et]; simp only [List.length_append, List.length_cons]; omega
  · rw [et]; simp only [opensOf, List.countP_append, List.countP_cons] at b2 ⊢; omega
  · rw [et] at hv
    refine B.things v ?_
    rw [e]
    simp only [List.mem_append, List.mem_cons] at hv ⊢
    rcases hv with x | x | x
    · exact .inr (.inr x)
    · exact .inr (.inl x)
    · exact .inl x

theorem up_law {q us} (B : Bal q us) (h : 0 ≤ (spotsOf us).2.2) : ∃ k : Nat, (spotsOf us).2.2 = (k : Int) ∧ k < us.length ∧ Bal q (turnedOf us k) ∧ flaws (turnedOf us k) = flaws us + 1 := by
  obtain ⟨_, _, h3⟩ := spots_inv us us.length (Nat.le_refl _)
  rcases h3 with ⟨a, _⟩ | ⟨k, a, b, c, d⟩
  · rw [spotsOf, a] at h; omega
  refine ⟨k, b, a, B.turned c, ?_⟩
  obtain ⟨u, h1, e, et, hl⟩ := split_at c
  have hlev := B.lev
  rw [e, lev_append] at hlev
  simp only [lev, stp, h1, if_true] at hlev
  have nb : noOpen 0 1 (us.drop (k + 1)) := by
    refine noOpen_iff _ _ _ fun j ⟨v, hv, x, y⟩ => ?_
    rw [List.getElem?_drop] at hv
    refine d (k + 1 + j) (by omega) (List.getElem?_eq_some_iff.mp hv).1 ⟨v, hv, x, ?_⟩
    have : us.take (k + 1 + j) = us.take k ++ u :: (us.drop (k + 1)).take j := by
      have ek : (us.take k).length = k := by simp; omega
      conv => lhs; rw [e]
      rw [List.take_append, ek, show k + 1 + j - k = j + 1 by omega, List.take_succ_cons]
      congr 1
      rw [List.take_take]; congr 1; omega
    rw [this, lev_append]; simp only [lev, stp, h1, if_true]; omega
  have f1 : flaws us = flawsFrom 0 (us.take k) + flawsFrom 1 (us.drop (k + 1)) := by
    unfold flaws
    conv => lhs; rw [e]
    rw [flawsFrom_append, hl]; simp [flawsFrom, stp, h1]
  have f2 : flaws (turnedOf us k) = flawsFrom 0 (us.drop (k + 1)) + (1 + flawsFrom 0 (us.take k)) := by
    unfold flaws
    rw [et, flawsFrom_append]
    have : (0 : Int) + lev (us.drop (k + 1)) = -1 := by omega
    rw [this]; simp [flawsFrom, stp, h1]
  rw [f1, f2, flaws_shift _ 0 nb]; simp only [Int.zero_add]; omega

theorem up_end {q us} (B : Bal q us) (h : (spotsOf us).2.2 < 0) : flaws us = q := by
  obtain ⟨_, _, h3⟩ := spots_inv us us.length (Nat.le_refl _)
  rcases h3 with ⟨a, b⟩ | ⟨k, a, b, c, d⟩
  · rw [flaws, flaws_all us 0 (Int.le_refl _) (noOpen_iff _ _ _ fun j hj => b j (openAt_lt hj) (by simpa using hj)), B.opens]
  · rw [spotsOf, b] at h; omega

theorem down_law {q us} (B : Bal q us) (h : 0 ≤ (spotsOf us).2.1) : ∃ k : Nat, (spotsOf us).2.1 = (k : Int) ∧ k < us.length ∧ Bal q (turnedOf us k) ∧ flaws (turnedOf us k) + 1 = flaws us := by
  obtain ⟨_, h3, _⟩ := spots_inv us us.length (Nat.le_refl _)
  rcases h3 with ⟨a, _⟩ | ⟨k, a, b, c, d⟩
  · rw [spotsOf, a] at h; omega
  refine ⟨k, b, a, B.turned c, ?_⟩
  obtain ⟨u, h1, e, et, hl⟩ := split_at c
  have hlev := B.lev
  rw [e, lev_append] at hlev
  simp only [lev, stp, h1, if_true] at hlev
  have na : noOpen 0 (0 + 1) (us.take k) := by
    have : noOpen (-1) 0 (us.take k) := by
      refine noOpen_iff _ _ _ fun j ⟨v, hv, x, y⟩ => ?_
      have hj : j < k := by
        have := (List.getElem?_eq_some_iff.mp hv).1
        simp at this; omega
      refine d j hj ⟨v, by rw [List.getElem?_take_of_lt hj] at hv; exact hv, x, ?_⟩
      rw [List.take_take] at y
      rw [show min j k = j by omega] at y
      omega
    exact (noOpen_shift (us.take k) (-1) 0 1).mp this
  have f1 : flaws us = flawsFrom 0 (us.take k) + (1 + flawsFrom 0 (us.drop (k + 1))) := by
    unfold flaws
    conv => lhs; rw [e]
    rw [flawsFrom_append, hl]; simp [flawsFrom, stp, h1]
  have f2 : flaws (turnedOf us k) = flawsFrom 0 (us.drop (k + 1)) + flawsFrom 1 (us.take k) := by
    unfold flaws
    rw [et, flawsFrom_append]
    have : (0 : Int) + lev (us.drop (k + 1)) = 0 := by omega
    rw [this]; simp [flawsFrom, stp, h1]
  rw [f1, f2, flaws_shift _ 0 na]; simp only [Int.zero_add]; omega

theorem down_end {q us} (B : Bal q us) (h : (spotsOf us).2.1 < 0) : flaws us = 0 := by
  obtain ⟨_, h3, _⟩ := spots_inv us us.length (Nat.le_refl _)
  rcases h3 with ⟨a, b⟩ | ⟨k, a, b, c, d⟩
  · exact flaws_none us 0 (Int.le_refl _) (by rw [B.lev]; decide) (noOpen_iff _ _ _ fun j hj => b j (openAt_lt hj) (by simpa using hj))
  · rw [spotsOf, b] at h; omega

theorem Bal.flaws_le {q us} (B : Bal q us) : flaws us ≤ q := by
  have := Mine.flaws_le us 0
  rw [B.opens] at this; exact this

section
set_option maxRecDepth 100000
set_option linter.unusedVariables false

/-- rows with flaws f, f - 1, ... -/
def Falls (q f : Nat) (rows : List (List Un)) : Prop := ∀ i r, rows[i]? = some r → Bal q r ∧ flaws r + i = f

section
variable {prog : Program} {w : World} {A : Around} {s : Shared} {env : Env} {test : Expr} {body orelse : List Stmt} {R : Result → Shared → Prop}
theorem mwhile (I : Nat → Shared → Prop)
    (turn : ∀ n s, I n s →
      wpAny (model prog w) A (isTrue test env (eval test env)) (fun b s₂ =>
        if b then wpAny (model prog w) A (execs body env) (fun f s₃ => match f with
            | .next | .cont => Held (∃ m, m < n ∧ I m s₃)
            | .brk => R (.ok .next) s₃
            | .ret v => R (.ok (.ret v)) s₃) (notedBy (model prog w) A env fun e s' => R (.error e) s') s₂
        else Held (wpAny (model prog w) A (execs orelse env) (fun f s₃ => R (.ok f) s₃) (notedBy (model prog w) A env fun e s' => R (.error e) s') s₂))
        (notedBy (model prog w) A env fun e s' => R (.error e) s') s)
    (n : Nat) (h : I n s) : codeAny (model prog w) A (.whileLoop test body orelse env) R s := codeAny_whileLoop I turn n h
end

theorem tuple_not_list {h : Heap} {a : Addr} {xs ys : Array Value} (x : h.IsTuple a xs) (y : h.IsList a ys) : False := by
  obtain ⟨o, ho, hc, _⟩ := x
  obtain ⟨o', ho', hc', _⟩ := y
  rw [ho] at ho'; cases ho'; rw [hc] at hc'; exact absurd hc' (by decide)
/-- a row is not the list of rows -/
theorem row_ne {h : Heap} {R : Addr} {ps : List (Value × List Un)} {v : Value} {us : List Un} (PL : h.PlainList R (ps.map (·.1)).toArray) (hne : ps ≠ []) (hall : ∀ r ∈ ps, RowAt h r.1 r.2) (hv : RowAt h v us) : v ≠ .ref R := by
  rintro rfl
  obtain ⟨l, qs, e, x, _, z⟩ := hv
  cases e
  obtain ⟨n, pl⟩ := PL
  obtain ⟨o, ho, hc, n', hd⟩ := x
  rw [pl] at ho; cases ho
  have e : ps.map (·.1) = qs.map (·.1) := by
    have hd := hd
    simp at hd
    exact hd.1
  cases ps with
  | nil => exact hne rfl
  | cons r ps =>
    cases qs with
    | nil => simp at e
    | cons q qs =>
      obtain ⟨a, t1, t2, e1, tu⟩ := z q (by simp)
      obtain ⟨l', ps', e2, li, _⟩ := hall r (by simp)
      have : r.1 = q.1 := by simpa using (List.cons.inj e).1
      rw [e1, e2] at this; cases this
      exact tuple_not_list tu li
theorem row_same {h h' : Heap} {R : Addr} {xs : Array Value} {v : Value} {us : List Un} (SB : Heap.SameBut R h h') (PL : h.PlainList R xs) (ne : v ≠ .ref R) (hv : RowAt h v us) : RowAt h' v us := by
  obtain ⟨l, qs, rfl, x, y, z⟩ := hv
  refine ⟨l, qs, rfl, x.at fun o e => SB.extBut _ _ (fun q => ne (by rw [q])) e, y, fun q hq => ?_⟩
  obtain ⟨a, t1, t2, e1, tu⟩ := z q hq
  refine ⟨a, t1, t2, e1, ?_⟩
  have hne : a ≠ R := fun q => by subst q; exact tuple_not_list tu PL.isList
  obtain ⟨o, ho, r⟩ := tu
  exact ⟨o, SB.extBut _ _ hne ho, r⟩

section
variable {prog : Program} {w : World} {A : Around} {E : Value → Shared → Prop} {s : Shared}
theorem item_neg {value slice : Expr} {l : Addr} {items : Array Value} {u : Tok} {x : Value} {Q : Value → Shared → Prop} (hl : s.heap.IsList l items) (hn : 1 ≤ items.size) (hx : items[items.size - 1]? = some x) (h : Q x s)
    (hs : subscripted slice false (.ref l) (.int (-1) u) = operate [.ref l, .int (-1) u] (getItem (.ref l) (.int (-1) u)) := by with_unfolding_all rfl) :
    wpAny (model prog w) A (subscriptTail value slice (.ref l) (.int (-1) u)) Q E s :=
  subscriptTail_builtinR hl.typeIs slot_list_getitem.lookup (wpAny_getItem_list_neg (Q := fun r s' => r = x ∧ Q r s') hl (by decide) (by omega) (by decide) (by
    rw [show (-1 + (items.size : Int)).toNat = items.size - 1 by omega]; exact hx) ⟨rfl, h⟩) hs
end



set_option maxHeartbeats 1000000 in
theorem chain_call {prog : Program} {w : World} {A : Around} {s : Shared} {p loose mg mb} (G : Gd w p loose mg mb s.heap) (hh : A.handled = none) (hroom : A.depth + 1 < recursionLimit) {v : Value} {us : List Un} (hv : RowAt s.heap v us)
    {q : Nat} (B : Bal q us) (hq1 : 1 ≤ q) (hq : q ≤ 10) :
    codeAny (model prog w) A (.call (.ref 87) ⟨[v], []⟩) (Back fun v s' => Ext s s' ∧ ∃ rows, RowsAt s'.heap v rows ∧ rows.length = q + 1 ∧ Falls q q rows) s := by
  refine enter [("units", v)] G (by omega) (by k_is) (by k_is) rfl (locs rfl) ?_ ?c rfl rfl rfl
  case c => decide
  intro L h₁ tk F
  have X := G.k
  have T := G.t
  have D : Dyn L (fun _ => True) h₁ := .true
  have hus : us.length ≤ 1000 := by have := B.len; omega
  refine wpAny_execs_cons ?_
  repeat walk1
  rename_i h₂ R F₂ D₂ PL₂ KP₂ NF₂
  clear D
  have D₃ : Dyn L (fun h => h.PlainList R #[v]) h₂ := ⟨PL₂, plist_on⟩
  refine mcall F₂ D₃ (spots_call (by exact G.keeps F₂.keep) (by exact hh) (by exact hroom) (row_keeps _ _ _ _ F₂.keep hv) hus) fun v₃ s₃ F₃ D₄ E₃ hv₃ => ?_
  obtain ⟨a₃, t1, t2, rfl, hsp⟩ := hv₃
  repeat (fail_if_success (with_reducible show wpAny _ _ (unpackItems _ _ _) _ _ _)); walk1
  rename_i h₄ T₄ F₄ D₅ IT₄ KP₄ NF₄
  refine munpack (by exact hh) F₄ D₅ IT₄ rfl fun h₅ F₅ D₆ KP₅ => ?_
  dsimp only [List.filterMap, List.map]
  repeat (fail_if_success (with_reducible show wpAny _ _ (execs _ _) _ _ _)); walk1
  rename_i h₆ F₆ D₇ h₇ F₇ D₈
  try dsimp only
  have fresh : ∀ {h h' : Heap} {m} {a : Addr}, Fr s.heap L h m → h.get? a = none → s.heap.get? a = none := fun {h h' m a} F e => by
    cases q : s.heap.get? a with
    | none => rfl
    | some o => have e' := F.keep a o q; rw [e] at e'; cases e'
  have hR0 : s.heap.get? R = none := fresh (h' := h₁) F NF₂
  have hf0 := B.flaws_le
  refine wpAny_execs_cons (wpAny_While ?_)
  refine mwhile (fun n s' => ∃ (m : Str → Option Value) (R : Addr) (ps : List (Value × List Un)) (f : Nat) (r0 : List Un), n = q - f ∧ f ≤ q ∧ flaws us ≤ f ∧ Fr s.heap L s'.heap m ∧ Rst s s' ∧ m "units" = some v ∧ m "rows" = some (.ref R) ∧ (∃ t, m "spot" = some (.int (spotsOf r0).2.2 t)) ∧
    s.heap.get? R = none ∧ s'.heap.PlainList R (ps.map (·.1)).toArray ∧ (∀ r ∈ ps, RowAt s'.heap r.1 r.2) ∧ (ps.map (·.2))[0]? = some r0 ∧ Falls q f (ps.map (·.2)) ∧ ps.length + flaws us = f + 1 ∧ (ps.map (·.2))[ps.length - 1]? = some us) ?_ (q - flaws us) ?_
  case refine_2 =>
    refine ⟨_, R, [(v, us)], flaws us, us, rfl, hf0, Nat.le_refl _, F₇, ((Rst.refl s).same _ _).trans (E₃.rst.same _ _), rfl, rfl, ⟨_, rfl⟩, hR0, D₈.now, ?_, rfl, ?_, by simp; omega, rfl⟩
    · intro r hr
      rw [List.mem_singleton.mp hr]
      exact row_keeps _ _ _ _ F₇.keep hv
    · intro i r hr
      match i with
      | 0 => simp at hr; subst hr; exact ⟨B, by omega⟩
      | i + 1 => simp at hr
  rintro n s' ⟨m, R', ps, f, r0, rfl, hfq, hff, F', Z', c1, c2, ⟨tsp, c3⟩, hR', PL', RA', hr0, fall, hlen, hlast⟩
  have hB0 := fall 0 r0 hr0
  obtain ⟨pr, hpr, hpr2⟩ : ∃ pr, ps[0]? = some pr ∧ pr.2 = r0 := by simpa using hr0
  have hrow0 : RowAt s'.heap pr.1 r0 := hpr2 ▸ RA' pr (List.mem_of_getElem? hpr)
  have D' : Dyn L (fun h => h.PlainList R' (ps.map (·.1)).toArray ∧ ∀ r ∈ ps, RowAt h r.1 r.2) s'.heap := ⟨⟨PL', RA'⟩, fun h h' n k y => ⟨plist_on _ _ n k y.1, fun r hr => row_lasts _ _ _ _ _ n k (y.2 r hr)⟩⟩
  have IL' : s'.heap.IsList R' (ps.map (·.1)).toArray := PL'.isList
  have hl0 : r0.length ≤ 1000 := by have := hB0.1.len; omega
  repeat' (first | (with_reducible show wpAny _ _ (subscriptTail _ _ _ _) _ _ _); fail | walk1)
  · obtain ⟨k, hk1, hk2, hB', hfl⟩ := up_law hB0.1 (by assumption)
    rw [hk1] at c3
    refine item_listR IL' (by decide) (by decide) (x := pr.1) (by simp [hpr]) ?_
    repeat walk1
    refine mcall F' D' (turned_call (by exact G.keeps F'.keep) (by exact hh) (by exact hroom) (by exact hrow0) hl0 hk2 tsp) fun v₂ s₂ F₂' D₂' E₂' hv₂ => ?_
    iterate 2 walk1
    rename_i h₃' t₃ F₃' D₃' PL₃ KP₃ NF₃
    walk1
    refine madd F₃' D₃' PL₃.isList D₃'.now.1.isList (fun h₄' t₄ F₄' D₄' PL₄ KP₄' NF₄' => ?_) (by simp; rw [sizeLine_eq]; omega)
    have D₅' : Dyn L (fun h => h.PlainList t₄ (((v₂, turnedOf r0 k) :: ps).map (·.1)).toArray ∧ ∀ r ∈ (v₂, turnedOf r0 k) :: ps, RowAt h r.1 r.2) h₄' := ⟨⟨by simpa using PL₄, fun r hr => by
      rcases List.mem_cons.mp hr with rfl | hr
      · exact row_lasts _ _ _ _ _ ⟨_, F₃'.ns⟩ KP₄' (row_keeps _ _ _ _ KP₃ hv₂)
      · exact D₄'.now.2 r hr⟩, fun h h' n k y => ⟨plist_on _ _ n k y.1, fun r hr => row_lasts _ _ _ _ _ n k (y.2 r hr)⟩⟩
    have hR4 : s.heap.get? t₄ = none := fresh (h' := h₁) F₃' NF₄'
    clear D₄' D₃' D₂' D' D₈ D₇ D₆ D₅ D₄ D₃ D₂
    walk1
    rename_i h₅' F₅' D₆'
    try dsimp only
    refine wpAny_execs_cons ?_
    have IL₅ := D₆'.now.1.isList
    repeat walk1
    refine mcall F₅' D₆' (spots_call (us := turnedOf r0 k) (by exact G.keeps F₅'.keep) (by exact hh) (by exact hroom) (by exact D₆'.now.2 _ (List.mem_cons_self ..)) (by have := hB'.len; omega)) fun v₆ s₆ F₆' D₇' E₆ hv₆ => ?_
    obtain ⟨a₆, u1, u2, rfl, hsp₆⟩ := hv₆
    repeat walk1
    rename_i h₇' F₇' D₈'
    have hf' := hB'.flaws_le
    refine ⟨q - (f + 1), by omega, _, t₄, (v₂, turnedOf r0 k) :: ps, f + 1, turnedOf r0 k, rfl, by omega, by omega, F₇', ?_, c1, rfl, ⟨_, rfl⟩, hR4, D₈'.now.1, D₈'.now.2, rfl, ?_, by simp; omega, ?_⟩
    · exact ((Z'.trans ((Rst.refl s').same _ _)).trans (E₂'.rst.trans ((((Rst.refl s₂).same _ _).trans E₆.rst).same _ _)))
    · intro i r hr
      match i with
      | 0 => simp at hr; subst hr; exact ⟨hB', by omega⟩
      | i + 1 =>
        have hr : (ps.map (·.2))[i]? = some r := by simpa using hr
        have := fall i r hr
        exact ⟨this.1, by omega⟩
    · have : ps.length ≠ 0 := fun e => by rw [List.eq_nil_of_length_eq_zero e] at hpr; cases hpr
      rw [List.length_cons, List.map_cons, show ps.length + 1 - 1 = (ps.length - 1) + 1 by omega, List.getElem?_cons_succ]; exact hlast
  · have hfend := up_end hB0.1 (by omega)
    have hfq' : f = q := by have := hB0.2; omega
    subst hfq'
    refine wpAny_execs_nil ?_
    try dsimp only
    refine wpAny_execs_cons ?_
    repeat walk1
    refine mcall F' D' (spots_call (us := us) (by exact G.keeps F'.keep) (by exact hh) (by exact hroom) (by exact row_keeps _ _ _ _ F'.keep hv) hus) fun v₃ s₃ F₃' D₃' E₃' hv₃ => ?_
    obtain ⟨a₃', u1, u2, rfl, hsp'⟩ := hv₃
    clear D'
    repeat (fail_if_success (with_reducible show wpAny _ _ (execs _ _) _ _ _)); walk1
    rename_i h₄' F₄' D₄'
    try dsimp only
    refine wpAny_execs_cons (wpAny_While ?_)
    refine mwhile (fun n s' => ∃ (m : Str → Option Value) (ps : List (Value × List Un)) (r1 : List Un), n = flaws r1 ∧ Bal f r1 ∧ Fr s.heap L s'.heap m ∧ Rst s s' ∧ m "rows" = some (.ref R') ∧ (∃ t, m "spot" = some (.int (spotsOf r1).2.1 t)) ∧
      s'.heap.PlainList R' (ps.map (·.1)).toArray ∧ (∀ r ∈ ps, RowAt s'.heap r.1 r.2) ∧ Falls f f (ps.map (·.2)) ∧ ps.length + flaws r1 = f + 1 ∧ (ps.map (·.2))[ps.length - 1]? = some r1) ?_ (flaws us) ?_
    case refine_2 =>
      exact ⟨_, ps, us, rfl, B, F₄', (Z'.trans ((Rst.refl s').same _ _)).trans (E₃'.rst.same _ _), c2, ⟨_, rfl⟩, D₄'.now.1, D₄'.now.2, fall, hlen, hlast⟩
    clear F₄' D₄' hsp' E₃' D₃' F₃' hrow0 hpr hpr2 IL' RA' PL' c1 c2 c3 Z' F' hlen hlast fall hr0
    rintro n s'' ⟨m, ps, r1, rfl, B1, F', Z', c2, ⟨tsp, c3⟩, PL', RA', fall, hlen, hlast⟩
    have hps : ps.length ≠ 0 := fun e => by rw [List.eq_nil_of_length_eq_zero e] at hlast; simp at hlast
    obtain ⟨pr, hpr, hpr2⟩ : ∃ pr, ps[ps.length - 1]? = some pr ∧ pr.2 = r1 := by simpa using hlast
    have hrow1 : RowAt s''.heap pr.1 r1 := hpr2 ▸ RA' pr (List.mem_of_getElem? hpr)
    have D' : Dyn L (fun h => h.PlainList R' (ps.map (·.1)).toArray ∧ ∀ r ∈ ps, RowAt h r.1 r.2) s''.heap := ⟨⟨PL', RA'⟩, fun h h' n k y => ⟨plist_on _ _ n k y.1, fun r hr => row_lasts _ _ _ _ _ n k (y.2 r hr)⟩⟩
    have hl1 : r1.length ≤ 1000 := by have := B1.len; omega
    iterate 5 walk1
    by_cases hsp : 0 ≤ (spotsOf r1).2.1
    · rw [if_pos (by simpa using hsp)]
      obtain ⟨k, hk1, hk2, hB', hfl⟩ := down_law B1 hsp
      rw [hk1] at c3
      refine wpAny_execs_cons (wpAny_Expr (wpAny_Call_append rfl rfl rfl rfl ?_))
      walk1
      refine ⟨R', _, rfl, plainL_of PL', ?_⟩
      repeat (fail_if_success (with_reducible show wpAny _ _ (subscriptTail _ _ _ _) _ _ _)); walk1
      refine item_neg PL'.isList (by simp; omega) (x := pr.1) (by simp [hpr]) ?_
      repeat walk1
      refine mcall F' D' (turned_call (by exact G.keeps F'.keep) (by exact hh) (by exact hroom) (by exact hrow1) hl1 hk2 tsp) fun v₂ s₂ F₂' D₂' E₂' hv₂ => ?_
      have hnps : ps ≠ [] := fun e => hps (by rw [e]; rfl)
      have hvne := row_ne D₂'.now.1 hnps D₂'.now.2 hv₂
      have hrne : ∀ r ∈ ps, r.1 ≠ .ref R' := fun r hr => row_ne D₂'.now.1 hnps D₂'.now.2 (D₂'.now.2 r hr)
      refine mappend D₂'.now.1 F₂' hR' (fun h₃' PL₃ F₃' hLR SB₃ => ?_) (by simp; rw [sizeLine_eq]; omega)
      try dsimp only
      have D₃' : Dyn L (fun h => h.PlainList R' ((ps ++ [(v₂, turnedOf r1 k)]).map (·.1)).toArray ∧ ∀ r ∈ ps ++ [(v₂, turnedOf r1 k)], RowAt h r.1 r.2) h₃' := ⟨⟨by simpa using PL₃, fun r hr => by
        rcases List.mem_append.mp hr with hr | hr
        · exact row_same SB₃ D₂'.now.1 (hrne r hr) (D₂'.now.2 r hr)
        · rw [List.mem_singleton.mp hr]; exact row_same SB₃ D₂'.now.1 hvne hv₂⟩, fun h h' n k y => ⟨plist_on _ _ n k y.1, fun r hr => row_lasts _ _ _ _ _ n k (y.2 r hr)⟩⟩
      clear D₂' D'
      refine wpAny_execs_cons ?_
      repeat (fail_if_success (with_reducible show wpAny _ _ (subscriptTail _ _ _ _) _ _ _)); walk1
      refine item_neg D₃'.now.1.isList (by simp) (x := v₂) (by simp) ?_
      repeat walk1
      refine mcall F₃' D₃' (spots_call (us := turnedOf r1 k) (by exact G.keeps F₃'.keep) (by exact hh) (by exact hroom) (by exact D₃'.now.2 (v₂, turnedOf r1 k) (by simp)) (by have := hB'.len; omega)) fun v₆ s₆ F₆' D₇' E₆ hv₆ => ?_
      obtain ⟨a₆, u1, u2, rfl, hsp₆⟩ := hv₆
      clear D₃'
      repeat walk1
      rename_i h₇' F₇' D₈'
      refine ⟨flaws (turnedOf r1 k), by omega, _, ps ++ [(v₂, turnedOf r1 k)], turnedOf r1 k, rfl, hB', F₇', ?_, c2, ⟨_, rfl⟩, D₈'.now.1, D₈'.now.2, ?_, by simp; omega, by simp⟩
      · exact ((Z'.trans ((Rst.refl s'').same _ _)).trans (E₂'.rst.trans ((((Rst.refl s₂).same _ _).trans E₆.rst).same _ _)))
      · intro i r hr
        rw [List.map_append] at hr
        rcases Nat.lt_trichotomy i ps.length with hi | hi | hi
        · rw [List.getElem?_append_left (by simpa using hi)] at hr
          exact fall i r hr
        · subst hi
          simp at hr; subst hr
          exact ⟨hB', by omega⟩
        · rw [List.getElem?_eq_none (by simp; omega)] at hr; cases hr
    · rw [if_neg (by simpa using hsp)]
      have hfend' := down_end B1 (by omega)
      refine wpAny_execs_nil ?_
      try dsimp only
      refine wpAny_execs_cons ?_
      iterate 2 walk1
      exact ⟨⟨F'.keep, (Z'.same _ _)⟩, ps.map (·.2), ⟨R', ps, rfl, PL'.isList, rfl, RA'⟩, by simp; omega, fall⟩

end
end
end
end
end
end
end
end
end
end
end
end
end
end
end

section
set_option maxRecDepth 100000
set_option linter.unusedVariables false

section
variable {prog : Program} {w : World} {A : Around} {s : Shared} {p : Program} {loose : List Str} {mg mb : Str → Option Value} {name : Str} {scope : Scope}
/-- enter a def with cells -/
theorem enterC {R : Value → Shared → Prop}
    {params : Arguments} {body : List Stmt} {pm cdv oc : Value} {od : Option Addr} {osl : Array (Option Value)} {f : Addr} {args : List Value} (binds : List (Str × Value))
    (G : Gd w p loose mg mb s.heap) (hroom : A.depth < recursionLimit)
    (ho : (hd.heap_39 w.params).lookup f = some ⟨oc, od, .func (fnOf name name params body scope .none .none .none pm none cdv .none), osl⟩) (hcd : codeIn (hd.heap_39 w.params) cdv name = true)
    (hbind : bindArgs (fnOf name name params body scope .none .none .none pm none cdv .none) ⟨args, []⟩ = pure binds) (hloc : ∀ y ∈ binds, scope.names.lookup y.1 = some .local)
    (h : ∀ L h₁ tk, Fr s.heap L h₁ (bindL (envOfC name scope L f cdv).kindOf binds fun _ => none) → Cl L (cellsFrom (L + 1) scope.names []) h₁ (bindC (envOfC name scope L f cdv).kindOf binds fun _ => none) →
      wpAny (model prog w) (A.deeper (envOfC name scope L f cdv)) (execs body (envOfC name scope L f cdv))
        (fun fl s' => match fl with | .ret v => R v s' | _ => R .none s') (fun _ _ => False) { s with heap := h₁, toks := tk })
    (hco : scope.isCoroutine = false) (hgen : scope.isGenerator = false) (hk : scope.kind = .function) :
    codeAny (model prog w) A (.call (.ref f) ⟨args, []⟩) (Back R) s := by
  refine call_cells_ret (doc := .none) hroom (G.k _ _ ho) rfl G.t.nolimit (codeRec_of G.k hcd) hbind (fun x hx => .inl (hloc x hx)) (fun h₁ tk F X => ?_) hco hgen hk
  refine wpAny_mono (h s.heap.objs.size h₁ tk F X) (fun fl s' x => ?_) fun _ _ x => x
  cases fl <;> exact ⟨_, rfl, x⟩
end

theorem gstC {prog : Program} {w : World} {A : Around} {E : Value → Shared → Prop} {s : Shared} {h₀ : Heap} {m : Str → Option Value} {env : Env} {x : Str} {c : Addr} {v₀ : Option Value} {v : Value} {Q : Unit → Shared → Prop}
    (F : Fr h₀ env.locals s.heap m) (hc : env.cells.lookup x = some c) (hv : s.heap.IsCell c v₀) (hlt : env.locals < c)
    (h : ∀ h', h'.IsCell c (some v) → Heap.SameBut c s.heap h' → Fr h₀ env.locals h' m → Q () { s with heap := h' })
    (hk : env.scope.kind = .function := by rfl) (hl : env.kindOf x = some .cell := by rfl) :
    wpAny (model prog w) A (storeName env x v) Q E s :=
  wpAny_storeName_cell hk hl hc hv fun h' hv' hs => h h' hv' hs ⟨F.ns.sameBut hs (Nat.ne_of_lt hlt), fun b o e => (hs.2 b (Nat.ne_of_lt (Nat.lt_trans (Nat.lt_of_lt_of_le (Heap.lt_size e) F.above) hlt))).trans (F.keep b o e), F.above⟩

section
variable {prog : Program} {w : World} {A : Around} {E : Value → Shared → Prop} {s : Shared} {h₀ : Heap} {L : Addr} {m : Str → Option Value} {P : Heap → Prop} {env : Env}
theorem gldC {x : Str} {pos : Pos} {c : Addr} {v : Value} {Q : Value → Shared → Prop} (hc : env.cells.lookup x = some c) (hv : s.heap.IsCell c (some v)) (h : Q v s)
    (hk : env.scope.kind = .function := by rfl) (hl : env.kindOf x = some .cell := by rfl) (hd : (x == ("__debug__" : Str)) = false := by decide) :
    wpAny (model prog w) A (eval (.Name x pos) env) Q E s := wpAny_Name (wpAny_loadName_cell hk hl hc hv h) hd
theorem msum {l : Addr} {vs : List Value} {ns : List Int} {Q : Value → Shared → Prop} (hh : A.handled = none) (F : Fr h₀ L s.heap m) (D : Dyn L P s.heap) (hl : s.heap.IsList l vs.toArray) (hi : IntsAre vs ns)
    (h : ∀ z h' tk t', Fr h₀ L h' m → Dyn L P h' → Q (.int z t') { s with heap := h', toks := tk }) : wpAny (model prog w) A (call (.builtin "sum") [.ref l]) Q E s := by
  obtain ⟨xs, e⟩ := hi.allInts.items
  rw [e] at hl
  exact sum_intListG hh hl fun h' tk t' hk => h _ h' tk t' (Fr.ext F hk) (D.step F.ns (KB.of hk))
end

section
variable {prog : Program} {w : World} {A : Around} {E : Value → Shared → Prop} {s : Shared} {h₀ : Heap} {m : Str → Option Value} {P : Heap → Prop} {env : Env}
/-- name = comprehension over a list at hand; what an item is, no heap bears -/
theorem gcomp_assign {elt target iter : Expr} {scope : Scope} {pos py spos : Pos} {y : Str} {cl : List (Str × Addr)} {Q : Flow → Shared → Prop} {l : Addr} {vs : List Value} (Fv : Nat → Value → Prop)
    (F : Fr h₀ env.locals s.heap m) (D : Dyn env.locals P s.heap) (hl : s.heap.IsList l vs.toArray) (hsz : vs.length ≤ sizeLine)
    (hsw : swapsWith (.ListComp elt [⟨target, iter, [], 0⟩] scope pos) (some (.Name y py)) spos.line env = pure true)
    (hh : A.handled = none) (hclos : closureFor scope env = pure cl)
    (hkind : scope.kind = .function) (hnames : ∀ x ∈ scope.names, x.2 = .local → scope.names.lookup x.1 = some .local) (hcell : ∀ x ∈ scope.names, x.2 ≠ .cell)
    (hit : ∀ Q : Value → Shared → Prop, Q (.ref l) s → wpAny (model prog w) A (eval iter env) Q E s)
    (helt : CompElt prog w A env scope cl target elt vs (fun i v _ => Fv i v) s)
    (h : ∀ (T : Addr) (s' : Shared) (ys : List Value), Fr h₀ env.locals s'.heap (fun z => if z = y then some (.ref T) else m z) → Dyn env.locals P s'.heap → ys.length = vs.length → (∀ i v, ys[i]? = some v → Fv i v) → s'.heap.PlainList T ys.toArray → Rst s s' → Q .next s')
    (hs : ∀ x, foldedSetIterable iter env x = pure x := by intro _; rfl) (hk : env.scope.kind = .function := by rfl) (hly : env.kindOf y = some .local := by rfl) :
    wpAny (model prog w) A (exec (.Assign [.Name y py] (.ListComp elt [⟨target, iter, [], 0⟩] scope pos) spos) env) Q E s := by
  refine comp_assign hsw hh hclos hkind hnames hcell (hit _ ⟨l, vs, fun i v _ => Fv i v, rfl, hl, hsz, fun i v h h' x _ => x, helt, ?_⟩) hs
  intro T C s' ys hlen hF PL hT hC hCT hk' Z hN
  obtain ⟨mc, hN⟩ := hN
  have hCL : C ≠ env.locals := fun q => by
    obtain ⟨o, es, ep, ho, _⟩ := F.ns
    rw [← q, hC] at ho; cases ho
  have F' := Fr.ext F hk'
  refine gst F' (D.step F.ns (KB.of hk')) (fun h₄ F₄ D₄ SB₄ => ?_) hk hly
  refine ⟨mc, hN.sameBut SB₄ hCL, fun h₅ SB₅ => ?_⟩
  have hTL : T ≠ env.locals := fun q => by
    obtain ⟨o, es, ep, ho, hd, _⟩ := F'.ns
    obtain ⟨n, e⟩ := PL
    rw [q] at e; rw [e] at ho; cases ho; cases hd
  have old : ∀ b o, s.heap.get? b = some o → b ≠ C := fun b o e q => by rw [q, hC] at e; cases e
  refine h T _ ys ⟨F₄.ns.sameBut SB₅ hCL.symm, fun b o e => ?_, F₄.above⟩ ?_ hlen hF ?_ (Z.same _ _)
  · have e' := F.keep b o e
    exact SB₅.extBut b o (old b o e') (F₄.keep b o e)
  · refine D.step F.ns fun b o nb e => SB₅.extBut b o (old b o e) (SB₄.extBut b o nb (hk' b o e))
  · obtain ⟨n, e⟩ := PL
    exact ⟨n, SB₅.extBut _ _ hCT.symm (SB₄.extBut _ _ hTL e)⟩
/-- a comprehension over range(N), one name; what an item is, no heap bears -/
theorem comp_range {elt iter : Expr} {x : Str} {px : Pos} {scope : Scope} {pos : Pos} {cl : List (Str × Addr)} {Q : Value → Shared → Prop} (Fv : Nat → Value → Prop)
    (hh : A.handled = none) (hclos : closureFor scope env = pure cl)
    (hkind : scope.kind = .function) (hnames : ∀ x ∈ scope.names, x.2 = .local → scope.names.lookup x.1 = some .local) (hcell : ∀ x ∈ scope.names, x.2 ≠ .cell)
    (h : wpAny (model prog w) A (eval iter env) (fun r s₁ => ∃ (R : Addr) (N : Nat) (t u v : Tok), r = .ref R ∧ IsRange s₁.heap R 0 (N : Int) 1 t u v ∧ N ≤ 1000 ∧
      (∀ (C : Addr) (i : Nat) (t : Tok) (s₃ : Shared) m, i < N → s₁.heap.objs.size ≤ C → s₃.heap.Ns C m → (∀ b o, s₁.heap.get? b = some o → s₃.heap.get? b = some o) → Rst s₁ s₃ →
        wpAny (model prog w) A (assign (.Name x px) (compEnvC scope cl C env) (.int (i : Int) t)) (fun _ s₄ => wpAny (model prog w) A (eval elt (compEnvC scope cl C env)) (fun y s₅ =>
          Fv i y ∧ (∃ m', s₅.heap.Ns C m') ∧ KB C s₃.heap s₅.heap ∧ Rst s₃ s₅) (fun _ _ => False) s₄) (fun _ _ => False) s₃) ∧
      (∀ (D : Addr) (s' : Shared) (ys : List Value), ys.length = N → (∀ i y, ys[i]? = some y → Fv i y) → s'.heap.PlainList D ys.toArray → s₁.heap.get? D = none →
        (∀ b o, s₁.heap.get? b = some o → s'.heap.get? b = some o) → Rst s₁ s' → Q (.ref D) s')) E s)
    (hs : ∀ x, foldedSetIterable iter env x = pure x := by intro _; rfl) :
    wpAny (model prog w) A (eval (.ListComp elt [⟨.Name x px, iter, [], 0⟩] scope pos) env) Q E s := by
  rw [eval_ListComp]
  refine comp_walks hs hclos hkind hnames hcell (wpAny_mono h (fun r s₁ h₁ => ?_) fun _ _ e => e)
  obtain ⟨R, N, t, u, v, rfl, hR, hN, helt, hdone⟩ := h₁
  have hsize : Builtin.Range.rangeSize 0 (N : Int) 1 = (N : Int) := by simp [Builtin.Range.rangeSize]; omega
  refine wpAny_pyIter_range hR (small_one (by omega) (by omega) (by omega) (by omega)) ?_
  rw [hsize]
  refine ⟨s₁.heap.objs.size, _, _, N, _, _, fun i v _ => Fv i v, rfl, Walks.range hh s₁.heap.objs.size 0 1 N, ?_, ?_, ?_, ?_, ?_, ?_, ?_⟩
  · rw [sizeLine_eq]; omega
  · have e1 : (0 : Int) + ((0 : Nat) : Int) * 1 = 0 := by omega
    have e2 : (N : Int) - ((0 : Nat) : Int) = N := by omega
    show IsRangeIter _ _ (0 + ((0 : Nat) : Int) * 1) _ _
    rw [e1, e2]
    exact Heap.get?_push_size _ rfl
  · intro b hb
    have : b = s₁.heap.objs.size := by simpa using hb
    subst this
    show _ < (s₁.heap.push _).objs.size
    rw [Heap.size_push]; exact Nat.lt_succ_self _
  · intro i s' v Q E st hq
    unfold letOwnedTupleGo
    exact wpAny_pure hq
  · exact fun C D i v h h' _ _ _ _ _ _ x _ => x
  · intro C i v s₃ m hi hP hC hn hk Z
    obtain ⟨t', rfl⟩ := hP
    rw [show (0 : Int) + (i : Nat) * 1 = (i : Int) by omega]
    refine helt C i t' s₃ m hi ?_ hn (fun b o e => hk b o ?_ (Heap.get?_push_of_some _ e)) (((Rst.refl s₁).same _ _).trans Z)
    · refine Nat.le_trans ?_ hC
      show _ ≤ (s₁.heap.push _).objs.size
      rw [Heap.size_push]; exact Nat.le_succ _
    · simp; exact Nat.ne_of_lt (Heap.lt_size e)
  · intro D C s' ys hlen hFy PL hD hC hCD hk Z hN'
    obtain ⟨m, hn⟩ := hN'
    refine ⟨m, hn, fun h' SB => ?_⟩
    have fr : ∀ (o : Obj) a, (s₁.heap.push o).get? a = none → s₁.heap.get? a = none := fun o a e => by
      cases q : s₁.heap.get? a with
      | none => rfl
      | some o => rw [Heap.get?_push_of_some _ q] at e; cases e
    refine hdone D { s' with heap := h' } ys hlen hFy (PL.extBut SB.extBut hCD.symm) (fr _ _ hD) (fun b o e => SB.extBut b o (fun q => ?_) (hk b o ?_ (Heap.get?_push_of_some _ e))) ((((Rst.refl s₁).same _ _).trans Z).same _ _)
    · rw [q, fr _ _ hC] at e; cases e
    · simp; exact Nat.ne_of_lt (Heap.lt_size e)
end

theorem ints_of : ∀ {ys : List Value} {ns : List Int}, ys.length = ns.length → (∀ (i : Nat) (y : Value), ys[i]? = some y → ∃ (t : Tok) (n : Int), ns[i]? = some n ∧ y = Value.int n t) → IntsAre ys ns
  | [], [], _, _ => .nil
  | [], _ :: _, h, _ => by simp at h
  | _ :: _, [], h, _ => by simp at h
  | y :: ys, x :: xs, hl, h => by
    have r := ints_of (ys := ys) (ns := xs) (by simpa using hl) fun i y' e => by simpa using h (i + 1) y' (by simpa using e)
    obtain ⟨t, x', hx, rfl⟩ := h 0 y rfl
    have hx : x = x' := by simpa using hx
    subst hx
    exact .cons x t r

theorem Rst.of {a b b' : Shared} (x : Rst a b) (hg : b'.gens = b.gens) (ho : b'.os = b.os) : Rst a b' := ⟨fun i y e => by rw [hg]; exact x.gens i y e, fun y => by rw [hg]; exact x.bare y, ho.trans x.os⟩

theorem rm1 : callerA.depth + 1 < recursionLimit := by decide +kernel
theorem rm2 : callerA.depth + 1 + 1 < recursionLimit := by decide +kernel
theorem rm3 : callerA.depth + 1 + 2 < recursionLimit := by decide +kernel
theorem rm4 : callerA.depth + 1 + 3 < recursionLimit := by decide +kernel
theorem rmu : 4 + 3 + 64 < cLine := by decide +kernel

/-- a row with each bracket changed about -/
noncomputable def mir (us : List Un) : List Un := us.map fun u => (!u.1, u.2)

theorem seq_of {α : Type} {R : Heap → Value → α → Prop} {h : Heap} {D : Addr} {ys : List Value} {us : List α} (PL : h.PlainList D ys.toArray) (hl : ys.length = us.length)
    (hy : ∀ (i : Nat) (y : Value), ys[i]? = some y → ∃ u, us[i]? = some u ∧ R h y u) : SeqAt R h (.ref D) us := by
  refine ⟨D, ys.zip us, rfl, ?_, ?_, fun z hz => ?_⟩
  · have : (ys.zip us).map (·.1) = ys := List.map_fst_zip (by omega)
    rw [this]; exact PL.isList
  · exact List.map_snd_zip (by omega)
  · obtain ⟨i, hi⟩ := List.mem_iff_getElem?.mp hz
    rw [List.getElem?_zip_eq_some] at hi
    obtain ⟨u, hu, hr⟩ := hy i z.1 hi.1
    rw [hi.2] at hu; cases hu
    exact hr

theorem cell_on {L c : Addr} {v : Option Value} (hc : c ≠ L) : ∀ h h' : Heap, (∃ m, h.Ns L m) → KB L h h' → h.IsCell c v → h'.IsCell c v := fun h h' _ k ⟨o, ho, hd⟩ => ⟨o, k _ _ hc ho, hd⟩

theorem ks_shaped (xs : List Str) (h : ∀ x ∈ xs, PyData.strOk x = true) : SeqAt.shaped (.list (xs.map PyData.str)) = true := by
  simpa [SeqAt.shaped, PyData.canLay0, PyData.depth, canLayAll_strs', depthAll_strs'] using h
theorem ks_same (ns ms : List Str) : PySem.Spec.same (.list (ns.map PyData.str)) (.list (ms.map PyData.str)) = decide (ns = ms) := by
  rw [PySem.Spec.same]
  exact sameAll_map (fun a b => by rw [PySem.Spec.same, Bool.beq_eq_decide_eq]) ns ms
theorem ks_carried : ∀ ps : List (Str × Tok), CarriedAll (strValues ps) ((ps.map (·.1)).map PyData.str)
  | [] => .nil
  | (x, t) :: r => .cons (.str _ t) (ks_carried r)
section
variable {prog : Program} {w : World} {A : Around} {E : Value → Shared → Prop} {s : Shared} {a b : Addr} {ps qs : List (Str × Tok)} {Q : Value → Shared → Prop} {h₀ : Heap} {L : Addr} {m : Str → Option Value} {P : Heap → Prop}
theorem ks_eq (ha : s.heap.IsList a (strValues ps).toArray) (hb : s.heap.IsList b (strValues qs).toArray) (hx : ∀ x ∈ ps.map (·.1), PyData.strOk x = true) (hy : ∀ x ∈ qs.map (·.1), PyData.strOk x = true) (hu : A.units + 64 < cLine) (h : Q (.bool (decide (ps.map (·.1) = qs.map (·.1)))) s) :
    wpAny (model prog w) A (compareOp .Eq (.ref a) (.ref b)) Q E s :=
  eq_dataH_same (reads_newData ha (ks_carried ps)) (reads_newData hb (ks_carried qs)) (ks_shaped _ hx) (ks_shaped _ hy) hu (SeqAt.noMix_of_shape (.list .str) rfl _ _ (list_map_has fun _ => rfl) (list_map_has fun _ => rfl)) (by rw [ks_same]; exact h)
theorem ks_ne (ha : s.heap.IsList a (strValues ps).toArray) (hb : s.heap.IsList b (strValues qs).toArray) (hx : ∀ x ∈ ps.map (·.1), PyData.strOk x = true) (hy : ∀ x ∈ qs.map (·.1), PyData.strOk x = true) (hu : A.units + 64 < cLine) (h : Q (.bool (!decide (ps.map (·.1) = qs.map (·.1)))) s) :
    wpAny (model prog w) A (compareOp .NotEq (.ref a) (.ref b)) Q E s :=
  ne_dataH_same (reads_newData ha (ks_carried ps)) (reads_newData hb (ks_carried qs)) (ks_shaped _ hx) (ks_shaped _ hy) hu (SeqAt.noMix_of_shape (.list .str) rfl _ _ (list_map_has fun _ => rfl) (list_map_has fun _ => rfl)) (by rw [ks_same]; exact h)

theorem foldl_rep (v : Value) : ∀ (k : Nat) (acc : List Value), List.foldl (fun x1 x2 : Array Value => x1 ++ x2) acc.toArray (List.replicate k #[v]) = (acc ++ List.replicate k v).toArray
  | 0, acc => by simp
  | k + 1, acc => by
    rw [List.replicate_succ, List.foldl_cons, show acc.toArray ++ #[v] = (acc ++ [v]).toArray by simp, foldl_rep v k (acc ++ [v])]
    simp [List.replicate_succ]
/-- [v] * k -/
theorem mmul {l : Addr} {v : Value} {k : Nat} {u : Tok} (F : Fr h₀ L s.heap m) (D : Dyn L P s.heap) (hl : s.heap.PlainList l #[v]) (hk : k ≤ 1000)
    (h : ∀ h' t, Fr h₀ L h' m → Dyn L P h' → h'.PlainList t (List.replicate k v).toArray → KB L s.heap h' → s.heap.get? t = none → Q (.ref t) { s with heap := h' }) :
    wpAny (model prog w) A (binaryOp .Mult (.ref l) (.int (k : Int) u)) Q E s := by
  obtain ⟨n, hl⟩ := hl
  refine mul_list (frOf F.ns) (allOf_news s.heap L) hl (by omega) (by omega) (by simp; omega) fun h' F' N' => ?_
  have e : List.foldl (fun x1 x2 : Array Value => x1 ++ x2) #[] (List.replicate (if (#[v] : Array Value).isEmpty = true then 0 else (k : Int).toNat) #[v]) = (List.replicate k v).toArray := by
    have := foldl_rep v k []
    simpa using this
  rw [e] at N'
  have kb := allOf_kb N'
  exact h h' _ (Fr.back F' F kb) (D.step F.ns kb) ⟨0, (N' _ (List.mem_cons_self ..)).1⟩ kb (Heap.get?_none_of_le (Nat.le_refl _))
end
end

section
set_option maxRecDepth 512
set_option linter.unusedVariables false

noncomputable def bk (b : Bool) : Nat := if b then 40 else 41
noncomputable def cpsOf (us : List Un) : List Nat := us.flatMap fun u => bk u.1 :: u.2.cps.toList
noncomputable def q3 : Str := ⟨#[34, 41, 34]⟩
noncomputable def strp (u : Un) : Un := (u.1, if u.2 = q3 then ⟨#[]⟩ else u.2)
noncomputable def catAll (xs : List Str) : List Nat := xs.flatMap (·.cps.toList)

theorem join0 : ∀ xs : List Str, (Str.join ⟨#[]⟩ xs).cps.toList = catAll xs
  | [] => rfl
  | [x] => by simp [Str.join, catAll]
  | x :: y :: r => by
    have := join0 (y :: r)
    show ((x ++ ⟨#[]⟩ ++ Str.join ⟨#[]⟩ (y :: r)).cps).toList = _
    have e : (x ++ ⟨#[]⟩ ++ Str.join ⟨#[]⟩ (y :: r)).cps = x.cps ++ #[] ++ (Str.join ⟨#[]⟩ (y :: r)).cps := rfl
    rw [e]
    simp only [Array.toList_append, this]
    simp [catAll]
theorem join0' (xs : List Str) : (Txt.join ⟨#[]⟩ xs).cps.toList = catAll xs := by
  show (Builtin.Str.glued ⟨#[]⟩ xs).cps.toList = _
  rw [StrLaws.glued_eq_join]; exact join0 xs
theorem textOf_cps (us : List Un) : (textOf us).cps.toList = cpsOf us := by
  rw [textOf, join0']
  induction us with
  | nil => rfl
  | cons u r ih =>
    simp only [catAll, cpsOf, List.map_cons, List.flatMap_cons] at ih ⊢
    rw [ih]
    congr 1
    have e : (sg u.1 ++ u.2).cps = (sg u.1).cps ++ u.2.cps := rfl
    rw [e]
    cases u.1 <;> simp [sg, bk]

theorem six_cases {th : Str} (h : th ∈ six) : th = ⟨#[]⟩ ∨ th = ⟨#[92, 92]⟩ ∨ th = ⟨#[92, 40]⟩ ∨ th = q3 ∨ th = ⟨#[92, 34]⟩ := by
  simp only [six, List.mem_cons, List.not_mem_nil, or_false] at h
  rcases h with h | h | h | h | h | h
  · exact .inl h
  · exact .inl h
  · exact .inr (.inl h)
  · exact .inr (.inr (.inl h))
  · exact .inr (.inr (.inr (.inl h)))
  · exact .inr (.inr (.inr (.inr h)))

noncomputable def sigOf (its : List (Nat × List Nat)) : List Bool := its.filterMap fun it => if it.2 = [40] then some true else if it.2 = [41] then some false else none

theorem sigOf_cons (it : Nat × List Nat) (r) : sigOf (it :: r) = (if it.2 = [40] then [true] else if it.2 = [41] then [false] else []) ++ sigOf r := by
  unfold sigOf
  rw [List.filterMap_cons]
  split
  · split <;> simp_all
  · split <;> simp_all

theorem bk_ne (b : Bool) : bk b ≠ 92 := by cases b <;> decide
theorem sig_text : ∀ (us : List Un) (i : Nat), (∀ u ∈ us, u.2 ∈ six ∧ u.2 ≠ q3) → sigOf (escFrom false i (cpsOf us)) = us.map (·.1)
  | [], i, _ => rfl
  | (b, th) :: us, i, h => by
    have h1 := h _ (List.mem_cons_self ..)
    have ih : ∀ j, sigOf (escFrom false j (cpsOf us)) = us.map (·.1) := fun j => sig_text us j fun u hu => h u (List.mem_cons_of_mem _ hu)
    have e : cpsOf ((b, th) :: us) = bk b :: (th.cps.toList ++ cpsOf us) := by simp [cpsOf]
    rw [e]
    have hs : ∀ r, sigOf ((i, [bk b]) :: r) = b :: sigOf r := fun r => by rw [sigOf_cons]; cases b <;> simp [bk]
    have e1 : escFrom false i (bk b :: (th.cps.toList ++ cpsOf us)) = (i, [bk b]) :: escFrom false (i + 1) (th.cps.toList ++ cpsOf us) := by
      simp [escFrom, bk_ne]
    rw [e1, hs, List.map_cons]
    congr 1
    rcases six_cases h1.1 with x | x | x | x | x
    · dsimp only at x; subst x; exact ih _
    · dsimp only at x; subst x
      show sigOf (escFrom false (i + 1) (92 :: 92 :: cpsOf us)) = _
      simp only [escFrom, if_true, sigOf_cons]; simpa using ih _
    · dsimp only at x; subst x
      show sigOf (escFrom false (i + 1) (92 :: 40 :: cpsOf us)) = _
      simp only [escFrom, if_true, sigOf_cons]; simpa using ih _
    · exact absurd x h1.2
    · dsimp only at x; subst x
      show sigOf (escFrom false (i + 1) (92 :: 34 :: cpsOf us)) = _
      simp only [escFrom, if_true, sigOf_cons]; simpa using ih _

theorem slice_cat {x : Str} {a b : Nat} (hab : a ≤ b) (hb : b ≤ x.length) : (Txt.slice x (some (a : Int)) (some (b : Int))).cps.toList = (x.cps.toList.take b).drop a := by
  have := slice_closesL (x := x) (i := (a : Int)) (j := (b : Int)) (by omega) (by omega) (by omega)
  rw [eq_of_beq this]
  simp only [Int.toNat_natCast]
  rw [show ((b : Int) - (a : Int)).toNat = b - a by omega, List.drop_take]
theorem slice_end {x : Str} {a : Nat} (ha : a ≤ x.length) : (Txt.slice x (some (a : Int)) none).cps.toList = x.cps.toList.drop a := by
  rw [slice_from_eq (x := x) (i := (a : Int)) (b := (x.length : Int)) (by omega) (by omega) rfl]
  simp only [Int.toNat_natCast]
  rw [List.take_of_length_le]
  rw [List.length_drop]
  have : x.cps.toList.length = x.length := by simp [Str.length]
  omega

theorem strip_fold (x : Str) : ∀ (us : List Un) (n st0 : Nat) (kept : List Str), (∀ u ∈ us, u.2 ∈ six) → x.cps.toList.drop n = cpsOf us → n ≤ x.length → st0 ≤ n →
    catAll (stripEnd x ((escFrom false n (cpsOf us)).foldl (stripStep x) (st0, none, kept))) = catAll kept ++ (x.cps.toList.take n).drop st0 ++ cpsOf (us.map strp)
  | [], n, st0, kept, _, hd, hn, h0 => by
    have hl : x.cps.toList.length = x.length := by simp [Str.length]
    have hnl : x.length ≤ n := by
      have := congrArg List.length hd
      simp [cpsOf] at this
      simp [Str.length]; omega
    have hx : x.cps.toList.take n = x.cps.toList := List.take_of_length_le (by omega)
    rw [hx]
    show catAll (stripEnd x (st0, none, kept)) = _
    unfold stripEnd
    dsimp only
    split
    · simp only [catAll, List.flatMap_append, List.flatMap_cons, List.flatMap_nil, List.append_nil, slice_end (x := x) (a := st0) (by omega)]
      simp [cpsOf]
    · rw [List.drop_of_length_le (by omega)]; simp [cpsOf]
  | (b, th) :: us, n, st0, kept, h, hd, hn, h0 => by
    have hl : x.cps.toList.length = x.length := by simp [Str.length]
    have e : cpsOf ((b, th) :: us) = (bk b :: th.cps.toList) ++ cpsOf us := by simp [cpsOf]
    have hd' := hd
    rw [e] at hd'
    have hlen : x.length = n + (1 + th.cps.toList.length) + (cpsOf us).length := by
      have := congrArg List.length hd'
      simp at this
      simp [Str.length] at hn ⊢; omega
    have hdn : x.cps.toList.drop (n + (1 + th.cps.toList.length)) = cpsOf us := by
      rw [← List.drop_drop, hd', show 1 + th.cps.toList.length = (bk b :: th.cps.toList).length by simp; omega, List.drop_left]
    have htn : ∀ k, x.cps.toList.take (n + k) = x.cps.toList.take n ++ ((bk b :: th.cps.toList) ++ cpsOf us).take k := fun k => by rw [List.take_add, hd']
    have hdr : ∀ B : List Nat, (x.cps.toList.take n ++ B).drop st0 = (x.cps.toList.take n).drop st0 ++ B := fun B => List.drop_append_of_le_length (by simp [Str.length] at hn; simp; omega)
    have ih := fun st0' kept' (h0' : st0' ≤ n + (1 + th.cps.toList.length)) => strip_fold x us (n + (1 + th.cps.toList.length)) st0' kept' (fun u hu => h u (List.mem_cons_of_mem _ hu)) hdn (by omega) h0'
    have hb34 : ([bk b] : List Nat) ≠ [34] := by cases b <;> decide
    have e1 : escFrom false n (cpsOf ((b, th) :: us)) = (n, [bk b]) :: escFrom false (n + 1) (th.cps.toList ++ cpsOf us) := by
      rw [e]; simp [escFrom, bk_ne]
    have hst : stripStep x (st0, none, kept) (n, [bk b]) = (st0, none, kept) := by simp only [stripStep]; rw [if_neg hb34]
    rw [e1, List.foldl_cons, hst]
    have plain : th ≠ q3 → (∀ j, escFrom false (n + 1) (th.cps.toList ++ cpsOf us) = j ++ escFrom false (n + (1 + th.cps.toList.length)) (cpsOf us) → (∀ it ∈ j, it.2 ≠ [34]) →
        catAll (stripEnd x ((escFrom false (n + 1) (th.cps.toList ++ cpsOf us)).foldl (stripStep x) (st0, none, kept))) = catAll kept ++ (x.cps.toList.take n).drop st0 ++ cpsOf (((b, th) :: us).map strp)) := by
      intro hq j hj hno
      rw [hj, List.foldl_append]
      have : ∀ (l : List (Nat × List Nat)) st, (∀ it ∈ l, it.2 ≠ [34]) → l.foldl (stripStep x) st = st := by
        intro l
        induction l with
        | nil => intro st _; rfl
        | cons it r ihl =>
          intro st hh
          rw [List.foldl_cons]
          have : stripStep x st it = st := by simp only [stripStep]; rw [if_neg (hh it (List.mem_cons_self ..))]
          rw [this]; exact ihl st fun it' h' => hh it' (List.mem_cons_of_mem _ h')
      rw [this j _ hno, ih st0 kept (by omega), htn, show 1 + th.cps.toList.length = (bk b :: th.cps.toList).length by simp; omega, List.take_left, hdr]
      have : cpsOf (((b, th) :: us).map strp) = (bk b :: th.cps.toList) ++ cpsOf (us.map strp) := by simp [cpsOf, strp, hq]
      rw [this]; simp
    rcases six_cases (h _ (List.mem_cons_self ..)) with z | z | z | z | z
    · dsimp only at z; subst z
      exact plain (by decide) [] rfl (by simp)
    · dsimp only at z; subst z
      refine plain (by decide) [(n + 1 + 1, [92, 92])] ?_ (by simp)
      show escFrom false (n + 1) (92 :: 92 :: cpsOf us) = _
      simp only [escFrom, if_true]; rfl
    · dsimp only at z; subst z
      refine plain (by decide) [(n + 1 + 1, [92, 40])] ?_ (by simp)
      show escFrom false (n + 1) (92 :: 40 :: cpsOf us) = _
      simp only [escFrom, if_true]; rfl
    · dsimp only at z; subst z
      have e2 : escFrom false (n + 1) (q3.cps.toList ++ cpsOf us) = (n + 1, [34]) :: (n + 1 + 1, [41]) :: (n + 1 + 1 + 1, [34]) :: escFrom false (n + (1 + q3.cps.toList.length)) (cpsOf us) := by
        show escFrom false (n + 1) (34 :: 41 :: 34 :: cpsOf us) = _
        simp only [escFrom]; rfl
      rw [e2, List.foldl_cons, List.foldl_cons, List.foldl_cons]
      have s1 : stripStep x (stripStep x (stripStep x (st0, none, kept) (n + 1, [34])) (n + 1 + 1, [41])) (n + 1 + 1 + 1, [34]) = (n + 1 + 1 + 1 + 1, none, kept ++ [Txt.slice x (some (st0 : Int)) (some ((n + 1 : Nat) : Int))]) := by
        simp only [stripStep, if_true]
        rw [if_neg (by decide)]
        dsimp only
        rw [if_neg (by omega)]
      rw [s1]
      have hq : q3.cps.toList.length = 3 := rfl
      have ih' := ih (n + 1 + 1 + 1 + 1) (kept ++ [Txt.slice x (some (st0 : Int)) (some ((n + 1 : Nat) : Int))]) (by omega)
      rw [ih']
      have hc : catAll (kept ++ [Txt.slice x (some (st0 : Int)) (some ((n + 1 : Nat) : Int))]) = catAll kept ++ (x.cps.toList.take (n + 1)).drop st0 := by
        simp only [catAll, List.flatMap_append, List.flatMap_cons, List.flatMap_nil, List.append_nil, slice_cat (x := x) (a := st0) (b := n + 1) (by omega) (by omega)]
      rw [hc, htn 1, hdr, show (x.cps.toList.take (n + (1 + q3.cps.toList.length))).drop (n + 1 + 1 + 1 + 1) = [] from List.drop_of_length_le (Nat.le_trans (List.length_take_le _ _) (by omega))]
      have : cpsOf (((b, q3) :: us).map strp) = bk b :: cpsOf (us.map strp) := by simp [cpsOf, strp]
      rw [this]; simp
    · dsimp only at z; subst z
      refine plain (by decide) [(n + 1 + 1, [92, 34])] ?_ (by simp)
      show escFrom false (n + 1) (92 :: 34 :: cpsOf us) = _
      simp only [escFrom, if_true]; rfl

theorem strip_text {us : List Un} (h : ∀ u ∈ us, u.2 ∈ six) : (stripOf (textOf us)).cps.toList = cpsOf (us.map strp) := by
  unfold stripOf
  rw [empty_one, textOf_cps]
  by_cases h34 : 34 ∈ cpsOf us
  · rw [if_neg (by simp [h34]), join0']
    have := strip_fold (textOf us) us 0 0 [] h (by rw [textOf_cps]; rfl) (Nat.zero_le _) (Nat.le_refl _)
    unfold unitsOf
    rw [textOf_cps, this]; simp [catAll]
  · rw [if_pos (by simp [h34]), textOf_cps]
    congr 1
    have : ∀ u ∈ us, strp u = u := fun u hu => by
      unfold strp
      rw [if_neg]
      intro e
      refine h34 (List.mem_flatMap.mpr ⟨u, hu, ?_⟩)
      rw [e]; exact List.mem_cons_of_mem _ (by decide)
    have hm : us.map strp = us := by
      conv => rhs; rw [← List.map_id us]
      exact List.map_congr_left this
    rw [hm]

theorem sigs {us : List Un} (h : ∀ u ∈ us, u.2 ∈ six) : sigOf (unitsOf (stripOf (textOf us))) = us.map (·.1) := by
  unfold unitsOf
  rw [strip_text h, sig_text _ _ fun u hu => ?_]
  · simp [strp, Function.comp_def]
  · obtain ⟨v, hv, rfl⟩ := List.mem_map.mp hu
    unfold strp
    split
    · exact ⟨show (⟨#[]⟩ : Str) ∈ six by decide, show (⟨#[]⟩ : Str) ≠ q3 by decide⟩
    · rename_i hne
      exact ⟨h v hv, hne⟩

theorem told_fold : ∀ (its : List (Nat × List Nat)) (us : List Un) (l f : Int), sigOf its = us.map (·.1) → its.foldl toldStep (256 + l, f) = (256 + l + lev us, f + flawsFrom l us)
  | [], [], l, f, _ => by simp [lev, flawsFrom]
  | [], u :: us, l, f, h => by simp [sigOf] at h
  | it :: r, us, l, f, h => by
    rw [sigOf_cons] at h
    rw [List.foldl_cons]
    by_cases h40 : it.2 = [40]
    · rw [if_pos h40] at h
      cases us with
      | nil => simp at h
      | cons u us =>
        simp only [List.map_cons, List.cons_append, List.nil_append, List.cons.injEq] at h
        have hu : u.1 = true := h.1.symm
        have ih := told_fold r us (l + 1) (if l < 0 then f + 1 else f) h.2
        have : toldStep (256 + l, f) it = (256 + (l + 1), if l < 0 then f + 1 else f) := by
          simp only [toldStep, h40, if_true]
          rw [show (256 : Int) + l + 1 = 256 + (l + 1) by omega]
          congr 1
          by_cases hl : l < 0
          · rw [if_pos (by omega), if_pos hl]
          · rw [if_neg (by omega), if_neg hl]
        rw [this, ih]
        simp only [lev, flawsFrom, stp, hu, if_true, true_and]
        by_cases hl : l < 0
        · simp only [hl, if_true]; congr 1 <;> push_cast <;> omega
        · simp only [hl, if_false]; congr 1 <;> push_cast <;> omega
    · rw [if_neg h40] at h
      by_cases h41 : it.2 = [41]
      · rw [if_pos h41] at h
        cases us with
        | nil => simp at h
        | cons u us =>
          simp only [List.map_cons, List.cons_append, List.nil_append, List.cons.injEq] at h
          have hu : u.1 = false := h.1.symm
          have ih := told_fold r us (l - 1) f h.2
          have : toldStep (256 + l, f) it = (256 + (l - 1), f) := by
            simp only [toldStep, h41]
            rw [if_neg (by decide)]
            simp only [if_true]
            congr 1; omega
          rw [this, ih]
          simp only [lev, flawsFrom, stp, hu, Bool.false_eq_true, if_false, false_and, Nat.zero_add]
          rw [show l + -1 = l - 1 by omega]
          congr 1; omega
      · rw [if_neg h41] at h
        have : toldStep (256 + l, f) it = (256 + l, f) := by simp only [toldStep]; rw [if_neg h40, if_neg h41]
        rw [this]
        exact told_fold r us l f (by simpa using h)

theorem told_law {q us} (B : Bal q us) : toldOf (textOf us) = (flaws us : Int) := by
  unfold toldOf
  have := told_fold _ us 0 0 (sigs B.things)
  simp only [Int.add_zero] at this
  rw [this, B.lev]
  simp [flaws]

noncomputable def dyck : Int → List Un → Bool
  | o, [] => o == 0
  | o, u :: r => if u.1 = true then dyck (o + 1) r else if o - 1 < 0 then false else dyck (o - 1) r
theorem check_sig : ∀ (its : List (Nat × List Nat)) (us : List Un) (o : Int), sigOf its = us.map (·.1) → checkFrom o its = dyck o us
  | [], [], o, _ => rfl
  | [], u :: us, o, h => by simp [sigOf] at h
  | it :: r, us, o, h => by
    rw [sigOf_cons] at h
    simp only [checkFrom]
    by_cases h40 : it.2 = [40]
    · rw [if_pos h40] at h ⊢
      cases us with
      | nil => simp at h
      | cons u us =>
        simp only [List.map_cons, List.cons_append, List.nil_append, List.cons.injEq] at h
        simp only [dyck, h.1.symm, if_true]
        exact check_sig r us _ h.2
    · rw [if_neg h40] at h ⊢
      by_cases h41 : it.2 = [41]
      · rw [if_pos h41] at h ⊢
        cases us with
        | nil => simp at h
        | cons u us =>
          simp only [List.map_cons, List.cons_append, List.nil_append, List.cons.injEq] at h
          simp only [dyck, h.1.symm, Bool.false_eq_true, if_false]
          rw [check_sig r us _ h.2]
      · rw [if_neg h41] at h ⊢
        exact check_sig r us o (by simpa using h)
theorem check_law {us : List Un} (h : ∀ u ∈ us, u.2 ∈ six) : checkOf (textOf us) = dyck 0 us := check_sig _ us 0 (sigs h)

theorem dyck_lev : ∀ (us : List Un) (o : Int), dyck o us = true → o + lev us = 0
  | [], o, h => by simp [dyck] at h; simp [lev, h]
  | u :: us, o, h => by
    simp only [dyck] at h
    simp only [lev, stp]
    split at h
    · rename_i hu
      have := dyck_lev us _ h
      rw [if_pos hu]; omega
    · rename_i hu
      split at h
      · cases h
      · have := dyck_lev us _ h
        rw [if_neg hu]; omega
theorem flaws_pos : ∀ (us : List Un) (l : Int), l < 0 → 0 ≤ l + lev us → flawsFrom l us ≠ 0
  | [], l, hl, he => by simp [lev] at he; omega
  | u :: us, l, hl, he => by
    simp only [lev] at he
    simp only [flawsFrom]
    by_cases hu : u.1 = true
    · rw [if_pos ⟨hu, hl⟩]; omega
    · rw [if_neg (fun x => hu x.1)]
      have := flaws_pos us (l + stp u) (by simp [stp, hu]; omega) (by omega)
      omega
theorem dyck_iff : ∀ (us : List Un) (o : Int), 0 ≤ o → o + lev us = 0 → (dyck o us = true ↔ flawsFrom o us = 0)
  | [], o, _, h => by simp [lev] at h; simp [dyck, flawsFrom, h]
  | u :: us, o, ho, h => by
    simp only [lev, stp] at h
    simp only [dyck, flawsFrom, stp]
    by_cases hu : u.1 = true
    · rw [if_pos hu] at h
      rw [if_pos hu, if_pos hu, if_neg (by omega), dyck_iff us (o + 1) (by omega) (by omega)]; omega
    · rw [if_neg hu] at h
      rw [if_neg hu, if_neg hu, if_neg (c := u.1 = true ∧ o < 0) (fun x => hu x.1)]
      by_cases h0 : o - 1 < 0
      · rw [if_pos h0]
        have := flaws_pos us (o + -1) (by omega) (by omega)
        constructor
        · intro x; cases x
        · intro x; omega
      · rw [if_neg h0, dyck_iff us (o - 1) (by omega) (by omega), show o + -1 = o - 1 by omega]; omega
theorem dyck_mir : ∀ (us : List Un) (o : Int), 0 ≤ o → (dyck o (mir us) = true ↔ flawsFrom (-o) us = opensOf us ∧ lev us = o)
  | [], o, _ => by simp [mir, dyck, flawsFrom, opensOf, lev]; exact ⟨fun h => h.symm, fun h => h.symm⟩
  | u :: us, o, ho => by
    have e : mir (u :: us) = (!u.1, u.2) :: mir us := rfl
    rw [e]
    have hle := flaws_le us
    simp only [dyck, flawsFrom, stp, lev, opensOf, List.countP_cons]
    by_cases hu : u.1 = true
    · simp only [hu, Bool.not_true, Bool.false_eq_true, if_false, if_true, true_and]
      by_cases h0 : o - 1 < 0
      · rw [if_pos h0, if_neg (by omega)]
        have h1 := hle (-o + 1)
        simp only [opensOf] at h1
        constructor
        · intro x; cases x
        · rintro ⟨x, _⟩; omega
      · rw [if_neg h0, if_pos (by omega), dyck_mir us (o - 1) (by omega), show -(o - 1) = -o + 1 by omega]
        simp only [opensOf]
        constructor
        · rintro ⟨x, y⟩; exact ⟨by omega, by omega⟩
        · rintro ⟨x, y⟩; exact ⟨by omega, by omega⟩
    · have hu' : u.1 = false := by simpa using hu
      simp only [hu', Bool.not_false, if_true, Bool.false_eq_true, if_false, false_and]
      rw [dyck_mir us (o + 1) (by omega), show -(o + 1) = -o + -1 by omega]
      simp only [opensOf]
      constructor
      · rintro ⟨x, y⟩; exact ⟨by omega, by omega⟩
      · rintro ⟨x, y⟩; exact ⟨by omega, by omega⟩

theorem keep_row {q us} (B : Bal q us) : keepIf (textOf us) = if flaws us = 0 then textOf us else noneText := by
  unfold keepIf
  rw [check_law B.things]
  by_cases h : flaws us = 0
  · rw [if_pos ((dyck_iff us 0 (Int.le_refl _) (by rw [B.lev]; rfl)).mpr h), if_pos h]
  · rw [if_neg (fun x => h ((dyck_iff us 0 (Int.le_refl _) (by rw [B.lev]; rfl)).mp x)), if_neg h]
theorem mir_things {us : List Un} (h : ∀ u ∈ us, u.2 ∈ six) : ∀ u ∈ mir us, u.2 ∈ six := fun u hu => by
  obtain ⟨v, hv, rfl⟩ := List.mem_map.mp hu
  exact h v hv
theorem keep_mir {q us} (B : Bal q us) : keepIf (textOf (mir us)) = if flaws us = q then textOf (mir us) else noneText := by
  unfold keepIf
  rw [check_law (mir_things B.things)]
  have := dyck_mir us 0 (Int.le_refl _)
  rw [B.lev, B.opens] at this
  by_cases h : flaws us = q
  · rw [if_pos (this.mpr ⟨h, rfl⟩), if_pos h]
  · rw [if_neg (fun x => h (this.mp x).1), if_neg h]
theorem keep_odd {us : List Un} (h : ∀ u ∈ us, u.2 ∈ six) (hl : lev us ≠ 0) : keepIf (textOf us) = noneText := by
  unfold keepIf
  rw [check_law h, if_neg]
  intro x
  have := dyck_lev us 0 x
  omega
theorem lev_one {us : List Un} (h : us.length = 1) : lev us ≠ 0 := by
  match us, h with
  | [u], _ => simp only [lev, stp]; split <;> decide
theorem lev_less {q us} (B : Bal q us) (hq : 1 ≤ q) : lev (us.take (us.length - 1)) ≠ 0 := by
  have e := lev_append (us.take (us.length - 1)) (us.drop (us.length - 1))
  rw [List.take_append_drop, B.lev] at e
  have := lev_one (us := us.drop (us.length - 1)) (by have := B.len; simp; omega)
  omega
theorem lev_more {q us} (B : Bal q us) (hq : 1 ≤ q) : lev (us ++ us.drop (us.length - 1)) ≠ 0 := by
  have e := lev_append us (us.drop (us.length - 1))
  rw [B.lev] at e
  have := lev_one (us := us.drop (us.length - 1)) (by have := B.len; simp; omega)
  omega
theorem cps_small : ∀ us : List Un, (∀ u ∈ us, u.2 ∈ six) → (cpsOf us).length ≤ 4 * us.length ∧ ∀ c ∈ cpsOf us, c < 0x110000
  | [], _ => ⟨Nat.le_refl _, fun c h => by simp [cpsOf] at h⟩
  | (b, th) :: us, h => by
    obtain ⟨i1, i2⟩ := cps_small us fun u hu => h u (List.mem_cons_of_mem _ hu)
    have e : cpsOf ((b, th) :: us) = (bk b :: th.cps.toList) ++ cpsOf us := by simp [cpsOf]
    have hb : bk b < 0x110000 := by cases b <;> decide
    have ht : th.cps.toList.length ≤ 3 ∧ ∀ c ∈ th.cps.toList, c < 0x110000 := by
      rcases six_cases (h _ (List.mem_cons_self ..)) with z | z | z | z | z <;> (dsimp only at z; subst z; decide)
    rw [e]
    refine ⟨by rw [List.length_append, List.length_cons, List.length_cons]; omega, fun c hc => ?_⟩
    simp only [List.mem_append, List.mem_cons] at hc
    rcases hc with (rfl | hc) | hc
    · exact hb
    · exact ht.2 c hc
    · exact i2 c hc
theorem text_small {us : List Un} (h : ∀ u ∈ us, u.2 ∈ six) (hl : us.length ≤ 50) : (textOf us).length ≤ 200 := by
  have := (cps_small us h).1
  rw [← textOf_cps] at this
  simp [Str.length] at this ⊢; omega
theorem text_ok {us : List Un} (h : ∀ u ∈ us, u.2 ∈ six) : PyData.strOk (textOf us) = true := by
  unfold PyData.strOk
  rw [Array.all_eq_true]
  intro i hi
  have := (cps_small us h).2 _ (by rw [← textOf_cps]; exact List.getElem_mem (l := (textOf us).cps.toList) (n := i) (by simpa using hi))
  simpa using this

theorem tells {q rows} (hl : rows.length = q + 1) (hf : Falls q q rows) : (rows.map textOf).map toldOf = (List.range (q + 1)).map fun i : Nat => (q : Int) - (i : Int) := by
  apply List.ext_getElem?
  intro i
  rw [List.getElem?_map, List.getElem?_map, List.getElem?_map]
  by_cases hi : i < q + 1
  · obtain ⟨r, hr⟩ : ∃ r, rows[i]? = some r := ⟨_, List.getElem?_eq_getElem (by omega)⟩
    have h1 := hf i r hr
    rw [hr, List.getElem?_range hi]
    simp only [Option.map_some, told_law h1.1]
    congr 1; omega
  · rw [List.getElem?_eq_none (by omega), List.getElem?_eq_none (by simp; omega)]; rfl
theorem keeps_rows {q rows rL} (hl : rows.length = q + 1) (hf : Falls q q rows) (hL : rows[q]? = some rL) : (rows.map textOf).map keepIf = List.replicate q noneText ++ [textOf rL] := by
  apply List.ext_getElem?
  intro i
  rw [List.getElem?_map, List.getElem?_map]
  rcases Nat.lt_trichotomy i q with hi | hi | hi
  · obtain ⟨r, hr⟩ : ∃ r, rows[i]? = some r := ⟨_, List.getElem?_eq_getElem (by omega)⟩
    have h1 := hf i r hr
    rw [hr, List.getElem?_append_left (by simpa using hi), List.getElem?_replicate, if_pos hi]
    simp only [Option.map_some, keep_row h1.1]
    rw [if_neg (by omega)]
  · subst hi
    have h1 := hf i rL hL
    rw [hL, List.getElem?_append_right (by simp)]
    simp only [Option.map_some, keep_row h1.1]
    rw [if_pos (by omega)]; simp
  · rw [List.getElem?_eq_none (by omega), List.getElem?_eq_none (by simp; omega)]; rfl
theorem keeps_mirs {q rows r0} (hl : rows.length = q + 1) (hf : Falls q q rows) (h0 : rows[0]? = some r0) : (rows.map fun r => textOf (mir r)).map keepIf = textOf (mir r0) :: List.replicate q noneText := by
  apply List.ext_getElem?
  intro i
  rw [List.getElem?_map, List.getElem?_map]
  cases i with
  | zero =>
    have h1 := hf 0 r0 h0
    rw [h0]
    simp only [Option.map_some, keep_mir h1.1]
    rw [if_pos (by omega)]; rfl
  | succ i =>
    rw [List.getElem?_cons_succ, List.getElem?_replicate]
    by_cases hi : i < q
    · obtain ⟨r, hr⟩ : ∃ r, rows[i + 1]? = some r := ⟨_, List.getElem?_eq_getElem (by omega)⟩
      have h1 := hf (i + 1) r hr
      rw [hr, if_pos hi]
      simp only [Option.map_some, keep_mir h1.1]
      rw [if_neg (by omega)]
    · rw [List.getElem?_eq_none (by omega), if_neg hi]; rfl
end

section
set_option maxRecDepth 100000
set_option linter.unusedVariables false


local macro_rules | `(tactic| walk_at "eval Name") => `(tactic| (refine' gld ?k1 ?k2 ?_; (case k1 => assumption); (case k2 => first | rfl | assumption)))
local macro_rules | `(tactic| walk_at "newTuple") => `(tactic| (refine' mtuple ?k1 ?k2 ?_; (case k1 => assumption); (case k2 => assumption); intro h' T' F' D' IT' KP' NF'))
local macro_rules | `(tactic| walk_at "newList") => `(tactic| (refine' mlist ?k1 ?k2 ?_; (case k1 => assumption); (case k2 => assumption); intro h' T' F' D' IT' KP' NF'))
local macro_rules | `(tactic| walk_at "storeName") => `(tactic| (refine' gst ?k1 ?k2 ?_; (case k1 => assumption); (case k2 => assumption); intro h' F' D' SB'))

set_option maxHeartbeats 2000000 in
theorem law_call {prog : Program} {w : World} {s : Shared} {p loose mg mb} (G : Gd w p loose mg mb s.heap) {l : Addr} {vs : List Value} {ns : List Int} (hl : s.heap.IsList l vs.toArray) (hi : IntsAre vs ns) (hn : ns.length ≤ 63) :
    codeAny (model prog w) callerA (.call (.ref 104) ⟨[.ref l], []⟩) (Back fun v s' => Ext s s' ∧ v = .bool true) s := by
  refine enterC [("script", .ref l)] G (by decide +kernel) (by k_is) (by k_is) rfl (locs rfl) ?_ rfl rfl rfl
  intro L h₁ tk F C
  have X := G.k
  have T := G.t
  have D : Dyn L (fun _ => True) h₁ := .true
  have hl₁ : h₁.IsList l vs.toArray := hl.at fun o e => F.keep l o e
  refine wpAny_execs_cons ?_
  repeat walk1
  have hvl : vs.length = ns.length := hi.length
  refine mlslice F D hl₁ .none (.int _ _) (fun h₂ N F₂ D₂ PL₂ KP₂ NF₂ => ?_) (by simp; rw [sizeLine_eq]; omega)
  have e63 : slicePick vs.toArray none (some 63) none = vs.toArray := by
    have := slicePick_upto' vs.toArray 63
    rw [show ((63 : Nat) : Int) = 63 from rfl] at this
    rw [this, List.take_of_length_le (by simp; omega)]
  rw [e63] at PL₂
  have hLc : L + 1 ≠ L := Nat.ne_of_gt (Nat.lt_succ_self L)
  have C₁ : h₁.IsCell (L + 1) none := C.cell "pairs" (L + 1) rfl
  have D₃ : Dyn L (fun h => h.PlainList N vs.toArray ∧ h.IsCell (L + 1) none) h₂ := ⟨⟨PL₂, C₁.keeps KP₂⟩, fun h h' n k y => ⟨plist_on _ _ n k y.1, cell_on hLc _ _ n k y.2⟩⟩
  clear D₂ D C
  walk1
  rename_i h₃ F₃ D₄ SB₃
  try dsimp only
  refine wpAny_execs_cons (wpAny_mono (Q := fun f s₂ => f = .next ∧ Held (∃ q : Nat, (q = 3 ∨ q = 4) ∧ ∃ t, s₂.heap.PlainList N vs.toArray ∧ s₂.heap.IsCell (L + 1) (some (.int (q : Int) t)) ∧ Rst s s₂ ∧ ∃ m, Fr s.heap L s₂.heap m ∧ m "numbers" = some (Value.ref N))) (E := fun _ _ => False) ?_ (fun f s₄ hf => ?_) fun _ _ e => e)
  · repeat walk1
    refine len_list D₄.now.1.isList (by simp; omega) ?_
    repeat' walk1
    all_goals (refine gstC F₃ (c := L + 1) rfl D₄.now.2 (Nat.lt_succ_self L) fun h₅ hc₅ SB₅ F₅ => ?_)
    all_goals refine ⟨trivial, ?_⟩
    · exact ⟨3, .inl rfl, _, D₄.now.1.at fun o e => SB₅.extBut _ _ (fun q => by
        obtain ⟨n', e'⟩ := D₄.now.1
        obtain ⟨o', e'', hd⟩ := D₄.now.2
        rw [q] at e'; rw [e'] at e''; cases e''; cases hd) e, hc₅, (Rst.refl s).same _ _, _, F₅, rfl⟩
    · exact ⟨4, .inr rfl, _, D₄.now.1.at fun o e => SB₅.extBut _ _ (fun q => by
        obtain ⟨n', e'⟩ := D₄.now.1
        obtain ⟨o', e'', hd⟩ := D₄.now.2
        rw [q] at e'; rw [e'] at e''; cases e''; cases hd) e, hc₅, (Rst.refl s).same _ _, _, F₅, rfl⟩
  · obtain ⟨rfl, q, hq, tq, PL₄, CE₄, Z₄, m₄, F₄, hnum⟩ := hf
    have hq3 : 3 ≤ q := by omega
    have hq4 : q ≤ 4 := by omega
    clear hq
    clear D₄ F₃ SB₃
    try dsimp only
    have D₄ : Dyn L (fun h => h.PlainList N vs.toArray ∧ h.IsCell (L + 1) (some (.int (q : Int) tq))) s₄.heap := ⟨⟨PL₄, CE₄⟩, fun h h' n k y => ⟨plist_on _ _ n k y.1, cell_on hLc _ _ n k y.2⟩⟩
    refine wpAny_execs_cons ?_
    repeat walk1
    refine msum rfl F₄ D₄ PL₄.isList hi fun z h₅ tk₅ tz F₅ D₅ => ?_
    iterate 2 walk1
    refine gldC (c := L + 1) rfl D₅.now.2 ?_
    repeat walk1
    refine mcall F₅ D₅ (row_call (by exact G.keeps F₅.keep) rfl (by exact rm1) (173337 + z) _ q tq (by omega)) fun v₆ s₆ F₆ D₆ E₆ hv₆ => ?_
    obtain ⟨us, hrow, hul, huo, hus⟩ := hv₆
    repeat walk1
    refine mcall F₆ D₆ (chain_call (by exact G.keeps F₆.keep) rfl (by exact rm2) hrow ⟨hul, huo, hus⟩ (by omega) (by omega)) fun v₇ s₇ F₇ D₇ E₇ hv₇ => ?_
    obtain ⟨rows, hrows, hrl, hfall⟩ := hv₇
    clear hul huo hus hvl hn
    have D₈ : Dyn L (fun h => h.IsCell (L + 1) (some (.int (q : Int) tq)) ∧ RowsAt h v₇ rows) s₇.heap := ⟨⟨D₇.now.2, hrows⟩, fun h h' n k y => ⟨cell_on hLc _ _ n k y.1, rows_lasts _ _ _ _ _ n k y.2⟩⟩
    have Z₇ : Rst s s₇ := ((Z₄.trans ((Rst.refl s₄).same _ _)).trans E₆.rst).trans E₇.rst
    clear D₇ D₆ D₅ D₄ PL₄ CE₄ E₆ E₇
    walk1
    rename_i h₈ F₈ D₉ SB₈
    try dsimp only
    obtain ⟨lR, ps, rfl, hlR, hps, hall⟩ := D₉.now.2
    have D₉' : Dyn L (fun h => h.IsCell (L + 1) (some (.int (q : Int) tq)) ∧ h.IsList lR (ps.map (·.1)).toArray ∧ ∀ r ∈ ps, RowAt h r.1 r.2) h₈ := ⟨⟨D₉.now.1, hlR, hall⟩, fun h h' n k y => ⟨cell_on hLc _ _ n k y.1, list_on _ _ n k y.2.1, fun r hr => row_lasts _ _ _ _ _ n k (y.2.2 r hr)⟩⟩
    clear D₉ D₈
    have hlen : ps.length = rows.length := by rw [← hps]; simp
    have hB : ∀ i r, rows[i]? = some r → Bal q r := fun i r e => (hfall i r e).1
    have hsmall : ∀ r, Bal q r → r.length ≤ 20 ∧ ∀ u ∈ r, u.2.length ≤ 5 := fun r B => ⟨by have := B.len; omega, fun u hu => by
      have := B.things u hu
      simp only [six, List.mem_cons, List.not_mem_nil, or_false] at this
      rcases this with e | e | e | e | e | e <;> rw [e] <;> decide⟩
    have hBm : ∀ r ∈ rows, Bal q r := fun r hr => let ⟨i, e⟩ := List.mem_iff_getElem?.mp hr; hB i r e
    have htxt : ∀ x ∈ rows.map textOf, x.length ≤ 200 := fun x hx => by
      obtain ⟨r, hr, rfl⟩ := List.mem_map.mp hx
      exact text_small (hBm r hr).things (by have := (hBm r hr).len; omega)
    have hnone : PyData.strOk noneText = true := by decide +kernel
    refine wpAny_execs_cons (gcomp_assign (cl := []) (fun i y => ∃ t r, rows[i]? = some r ∧ y = .str (textOf r) t) F₈ D₉' hlR (by simp; rw [sizeLine_eq]; omega) rfl rfl (closureFor_none (by decide)) rfl (by decide) (by decide) (fun Q h => by refine gld F₈ rfl h) ?_ ?_)
    · intro C i v s₃ m hi' hC hN hk Z
      obtain ⟨pr, hpr, rfl⟩ : ∃ pr, ps[i]? = some pr ∧ pr.1 = v := by simpa using hi'
      have hr : rows[i]? = some pr.2 := by rw [← hps]; simp [hpr]
      have DC : Dyn C (fun h => KB C s₃.heap h) s₃.heap := ⟨KB.refl _ _, fun h h' n k y => y.trans k⟩
      have FC := frOf hN
      refine wpAny_assign_Name (gst FC DC fun h₄ F₄' D₄' SB₄ => ?_)
      have hup : ∀ b o, s.heap.get? b = some o → h₄.get? b = some o := fun b o e => by
        have e' := F₈.keep b o e
        exact SB₄.extBut b o (Nat.ne_of_lt (Nat.lt_of_lt_of_le (Heap.lt_size e') hC)) (hk b o e')
      have hrow4 : RowAt h₄ pr.1 pr.2 := row_lasts _ _ _ _ _ ⟨_, hN⟩ (KB.same SB₄) (row_keeps _ _ _ _ hk (hall pr (List.mem_of_getElem? hpr)))
      walk1
      refine gdef (G.keeps hup) (mg_of G.k G.t.g (by k_is)) ?_
      repeat (fail_if_success (with_reducible show wpAny _ _ (eval (Expr.Name _ _) _) _ _ _)); walk1
      refine gld F₄' rfl ?_
      walk1
      refine ⟨G.k.keeps hup, ?_⟩
      refine mcall F₄' D₄' (text_call (us := pr.2) (by exact G.keeps hup) rfl (by exact rm1) (by exact hrow4) (hsmall _ (hB i _ hr)).1 (hsmall _ (hB i _ hr)).2) fun v₅ s₅ F₅' D₅' E₅ hv₅ => ?_
      obtain ⟨t, rfl⟩ := hv₅
      exact ⟨⟨t, _, hr, rfl⟩, ⟨_, F₅'.ns⟩, D₅'.now, ((Rst.refl s₃).same _ _).trans E₅.rst⟩
    · intro TX s₉ ys F₉ D₁₀ hyl hyF PL₉ Z₉
      obtain ⟨ts, e1, e2⟩ := strs_of (ys := ys) (xs := rows.map textOf) (by rw [hyl]; simp [hlen]) fun i y e => by
        obtain ⟨t, r, hr, rfl⟩ := hyF i y e
        exact ⟨t, _, by simp [hr], rfl⟩
      subst e1
      try dsimp only
      have htl : ts.length = rows.length := by have := congrArg List.length e2; simpa using this
      have D₁₁ : Dyn L (fun h => (h.IsCell (L + 1) (some (.int (q : Int) tq)) ∧ h.IsList lR (ps.map (·.1)).toArray ∧ ∀ r ∈ ps, RowAt h r.1 r.2) ∧ h.PlainList TX (strValues ts).toArray) s₉.heap := D₁₀.and PL₉ plist_on
      clear D₁₀
      have IL₉ := PL₉.isList
      have Z₁ : Rst s s₉ := (Z₇.same _ _).trans Z₉
      refine wpAny_execs_cons (wpAny_If (wpAny_isTrue_Compare1 ?_))
      refine comp_eval (cl := []) rfl (closureFor_none (by decide)) rfl (by decide) (by decide) ?_
      refine gld F₉ rfl ?_
      refine ⟨TX, strValues ts, fun i y h => ∃ t x, (rows.map textOf)[i]? = some x ∧ y = .int (toldOf x) t, rfl, IL₉, ?_, ?_, ?_, ?_⟩
      · simp [strValues]; rw [sizeLine_eq]; omega
      · exact fun i v h h' x _ => x
      · intro C i v s₃ m hi' hC hN hk Z
        obtain ⟨⟨xt, tt⟩, hpr, rfl⟩ : ∃ pr : Str × Tok, ts[i]? = some pr ∧ Value.str pr.1 pr.2 = v := by
          simp [strValues] at hi'
          obtain ⟨a, b, e1, e2⟩ := hi'
          exact ⟨(a, b), e1, e2⟩
        have hr : (rows.map textOf)[i]? = some xt := by rw [← e2]; simp [hpr]
        have DC : Dyn C (fun h => KB C s₃.heap h) s₃.heap := ⟨KB.refl _ _, fun h h' n k y => y.trans k⟩
        have FC := frOf hN
        refine wpAny_assign_Name (gst FC DC fun h₄ F₄' D₄' SB₄ => ?_)
        have hup : ∀ b o, s.heap.get? b = some o → h₄.get? b = some o := fun b o e => by
          have e' := F₉.keep b o e
          exact SB₄.extBut b o (Nat.ne_of_lt (Nat.lt_of_lt_of_le (Heap.lt_size e') hC)) (hk b o e')
        walk1
        refine gdef (G.keeps hup) (mg_of G.k G.t.g (by k_is)) ?_
        repeat (fail_if_success (with_reducible show wpAny _ _ (eval (Expr.Name _ _) _) _ _ _)); walk1
        refine gld F₄' rfl ?_
        walk1
        refine ⟨G.k.keeps hup, ?_⟩
        refine mcall F₄' D₄' (told_call (by exact G.keeps hup) rfl (by exact rm3) xt tt (htxt _ (List.mem_of_getElem? hr))) fun v₅ s₅ F₅' D₅' E₅ hv₅ => ?_
        obtain ⟨t, rfl⟩ := hv₅
        exact ⟨⟨t, _, hr, rfl⟩, ⟨_, F₅'.ns⟩, D₅'.now, ((Rst.refl s₃).same _ _).trans E₅.rst⟩
      · intro TD s₁₀ ys hyl' hyF' PL₁₀ hTD hk₁₀ Z₁₀
        have F₁₀ := Fr.ext F₉ hk₁₀
        have D₁₂ := D₁₁.step F₉.ns (KB.of hk₁₀)
        refine comp_range (cl := [("pairs", L + 1)]) (fun i y => ∃ t, y = .int ((q : Int) - (i : Nat)) t) rfl (by rfl) rfl (by decide) (by decide) ?_
        iterate 5 walk1
        refine gldC (c := L + 1) rfl D₁₂.now.1.1 ?_
        iterate 3 walk1
        rw [show (q : Int) + 1 = ((q + 1 : Nat) : Int) by omega]
        refine call_range_1 ?_
        refine ⟨_, q + 1, _, _, _, rfl, IsRange.new .., by omega, ?_, ?_⟩
        · intro C i t s₃ m hi' hC hN hk Z
          have DC : Dyn C (fun h => KB C s₃.heap h) s₃.heap := ⟨KB.refl _ _, fun h h' n k y => y.trans k⟩
          refine wpAny_assign_Name (gst (frOf hN) DC fun h₄ F₄' D₄' SB₄ => ?_)
          have hc4 : h₄.IsCell (L + 1) (some (.int (q : Int) tq)) := by
            obtain ⟨o, ho, hd⟩ := D₁₂.now.1.1
            refine ⟨o, SB₄.extBut _ o (Nat.ne_of_lt (Nat.lt_of_lt_of_le (Heap.lt_size (o := o) ?_) hC)) (hk _ o ?_), hd⟩
            · exact Heap.get?_push_of_some _ ho
            · exact Heap.get?_push_of_some _ ho
          walk1
          refine gldC (c := L + 1) rfl hc4 ?_
          refine gld F₄' rfl ?_
          walk1
          exact ⟨⟨_, rfl⟩, ⟨_, F₄'.ns⟩, KB.same SB₄, (Rst.refl s₃).same _ _⟩
        · intro TE s₁₁ zs hzl hzF PL₁₁ hTE hk₁₁ Z₁₁
          have up₁₁ : ∀ b o, s₁₀.heap.get? b = some o → s₁₁.heap.get? b = some o := fun b o e => hk₁₁ b o (Heap.get?_push_of_some _ e)
          have F₁₁ := Fr.ext F₁₀ up₁₁
          have D₁₃ := D₁₂.step F₁₀.ns (KB.of up₁₁)
          have ia : IntsAre ys ((rows.map textOf).map toldOf) := ints_of (by rw [hyl']; simp [strValues, htl]) fun i y e => by
            obtain ⟨t, x, hx, rfl⟩ := hyF' i y e
            exact ⟨t, _, by rw [List.getElem?_map, hx]; rfl, rfl⟩
          have ib : IntsAre zs ((List.range (q + 1)).map fun i : Nat => (q : Int) - (i : Int)) := ints_of (by rw [hzl]; simp) fun i y e => by
            obtain ⟨t, rfl⟩ := hzF i y e
            have hi2 : i < q + 1 := by rw [← hzl]; exact (List.getElem?_eq_some_iff.mp e).1
            exact ⟨t, _, by rw [List.getElem?_map, List.getElem?_range hi2]; rfl, rfl⟩
          refine ke_ne_ints (PL₁₀.isList.at fun o e => up₁₁ _ o e) PL₁₁.isList ia ib (by exact rmu) ?_
          have heq : (rows.map textOf).map toldOf = (List.range (q + 1)).map fun i : Nat => (q : Int) - (i : Int) := tells hrl hfall
          rw [decide_eq_true heq]
          walk1
          refine ite_neg (by simp) ?_
          refine wpAny_execs_nil ?_
          try dsimp only
          clear hzl hyl' heq
          have Z₂ : Rst s s₁₁ := ((Z₁.trans Z₁₀).trans ((Rst.refl s₁₀).same _ _)).trans Z₁₁
          clear D₁₂ D₁₁ F₁₀ F₉
          refine wpAny_execs_cons ?_
          repeat (fail_if_success (with_reducible show wpAny _ _ (execs _ _) _ _ _)); walk1
          rename_i h₁₂ F₁₂ D₁₄ SB₁₂
          try dsimp only
          have hps0 : ps.length ≠ 0 := by omega
          obtain ⟨pl, hpl⟩ : ∃ pl, ps[ps.length - 1]? = some pl := ⟨_, List.getElem?_eq_getElem (by omega)⟩
          obtain ⟨pv, rL⟩ := pl
          have hrL : rows[q]? = some rL := by rw [← hps, List.getElem?_map, show q = ps.length - 1 by omega, hpl]; rfl
          have BL := hB q rL hrL
          have hsL := hsmall rL BL
          obtain ⟨lL, qs, hpv, hlL, hqs, hqall⟩ := D₁₄.now.1.2.2 (pv, rL) (List.mem_of_getElem? hpl)
          dsimp only at hpv hlL hqs
          subst hpv
          have hql : qs.length = rL.length := by rw [← hqs]; simp
          have D₁₅ : Dyn L (fun h => ((h.IsCell (L + 1) (some (.int (q : Int) tq)) ∧ h.IsList lR (ps.map (·.1)).toArray ∧ ∀ r ∈ ps, RowAt h r.1 r.2) ∧ h.PlainList TX (strValues ts).toArray) ∧ h.IsList lL (qs.map (·.1)).toArray ∧ ∀ r ∈ qs, UnitAt h r.1 r.2) h₁₂ :=
            ⟨⟨D₁₄.now, hlL, hqall⟩, fun h h' n k y => ⟨D₁₄.on _ _ n k y.1, list_on _ _ n k y.2.1, fun r hr => unit_lasts _ _ _ _ _ n k (y.2.2 r hr)⟩⟩
          clear D₁₄ D₁₃
          have hqsz : (qs.map (·.1)).toArray.size ≤ sizeLine := by simp; rw [sizeLine_eq]; omega
          refine wpAny_execs_cons ?_
          repeat walk1
          refine item_neg D₁₅.now.1.1.2.1 (by simp; omega) (x := .ref lL) (by simp [hpl]) ?_
          repeat walk1
          refine mlslice F₁₂ D₁₅ D₁₅.now.2.1 .none (.int _ _) (fun h₁₃ t₁₃ F₁₃ D₁₆ PL₁₃ KP₁₃ NF₁₃ => ?_) hqsz
          have e3 : slicePick (qs.map (·.1)).toArray none (some (-1)) none = ((qs.take (rL.length - 1)).map (·.1)).toArray := by
            have := slicePick_butLast (qs.map (·.1)).toArray 1 (Nat.le_refl _)
            rw [show (-((1 : Nat) : Int)) = -1 from rfl] at this
            rw [this]; simp [hql]
          have e4 : slicePick (qs.map (·.1)).toArray (some (-1)) none none = ((qs.drop (rL.length - 1)).map (·.1)).toArray := by
            have := slicePick_last (qs.map (·.1)).toArray 1 (Nat.le_refl _)
            rw [show (-((1 : Nat) : Int)) = -1 from rfl] at this
            rw [this]; simp [hql]
          rw [e3] at PL₁₃
          repeat walk1
          refine mcall F₁₃ D₁₆ (text_call (us := rL.take (rL.length - 1)) (by exact G.keeps F₁₃.keep) rfl (by exact rm1) (by exact ⟨t₁₃, qs.take (rL.length - 1), rfl, PL₁₃.isList, by rw [← hqs]; simp, fun r hr => D₁₆.now.2.2 r (List.mem_of_mem_take hr)⟩) (by simp; omega) (fun u hu => hsL.2 u (List.mem_of_mem_take hu))) fun v₁₄ s₁₄ F₁₄ D₁₇ E₁₄ hv₁₄ => ?_
          obtain ⟨tless, rfl⟩ := hv₁₄
          repeat walk1
          refine item_neg D₁₇.now.1.1.2.1 (by simp; omega) (x := .ref lL) (by simp [hpl]) ?_
          repeat walk1
          refine item_neg D₁₇.now.1.1.2.1 (by simp; omega) (x := .ref lL) (by simp [hpl]) ?_
          repeat walk1
          refine mlslice F₁₄ D₁₇ D₁₇.now.2.1 (.int _ _) .none (fun h₁₅ t₁₅ F₁₅ D₁₈ PL₁₅ KP₁₅ NF₁₅ => ?_) hqsz
          rw [e4] at PL₁₅
          refine madd F₁₅ D₁₈ D₁₈.now.2.1 PL₁₅.isList (fun h₁₆ t₁₆ F₁₆ D₁₉ PL₁₆ KP₁₆ NF₁₆ => ?_) (by simp; rw [sizeLine_eq]; omega)
          repeat walk1
          refine mcall F₁₆ D₁₉ (text_call (us := rL ++ rL.drop (rL.length - 1)) (by exact G.keeps F₁₆.keep) rfl (by exact rm1) (by
            refine ⟨t₁₆, qs ++ qs.drop (rL.length - 1), rfl, by simpa using PL₁₆.isList, by rw [← hqs]; simp, fun r hr => D₁₉.now.2.2 r ?_⟩
            rcases List.mem_append.mp hr with hr | hr
            · exact hr
            · exact List.mem_of_mem_drop hr) (by have := BL.len; simp; omega) (fun u hu => hsL.2 u (by
              rcases List.mem_append.mp hu with hu | hu
              · exact hu
              · exact List.mem_of_mem_drop hu))) fun v₁₇ s₁₇ F₁₇ D₂₀ E₁₇ hv₁₇ => ?_
          obtain ⟨tmore, rfl⟩ := hv₁₇
          have Z₃ : Rst s s₁₇ := ((((Z₂.same _ _).trans ((Rst.refl _).same _ _)).trans E₁₄.rst).trans ((Rst.refl s₁₄).same _ _)).trans E₁₇.rst
          clear D₁₉ D₁₈ D₁₇ D₁₆ D₁₅
          repeat (fail_if_success (with_reducible show wpAny _ _ (unpackItems _ _ _) _ _ _)); walk1
          rename_i h₁₈ T₁₈ F₁₈ D₂₁ IT₁₈ KP₁₈ NF₁₈
          refine munpack rfl F₁₈ D₂₁ IT₁₈ rfl fun h₁₉ F₁₉ D₂₂ KP₁₉ => ?_
          dsimp only [List.filterMap, List.map]
          clear D₂₁ D₂₀
          repeat (fail_if_success (with_reducible show wpAny _ _ (execs _ _) _ _ _)); walk1
          rename_i h₂₀ F₂₀ D₂₃ SB₂₀ h₂₁ F₂₁ D₂₄ SB₂₁
          try dsimp only
          clear D₂₃ D₂₂
          refine wpAny_execs_cons (wpAny_If (wpAny_isTrue_Compare1 ?_))
          repeat walk1
          rename_i h₂₂ T₂₂ F₂₂ D₂₅ PL₂₂ KP₂₂ NF₂₂
          have htl' : ts.length = q + 1 := by omega
          refine madd F₂₂ D₂₅ D₂₅.now.1.2.isList PL₂₂.isList (fun h₂₃ t₂₃ F₂₃ D₂₆ PL₂₃ KP₂₃ NF₂₃ => ?_) (by simp [strValues]; rw [sizeLine_eq]; omega)
          clear D₂₅ D₂₄
          repeat walk1
          generalize hless : textOf (rL.take (rL.length - 1)) = tLess at *
          generalize hmore : textOf (rL ++ rL.drop (rL.length - 1)) = tMore at *
          refine mcall F₂₃ D₂₆ (ppv_call (xs := rows.map textOf ++ [tLess, tMore]) (by exact G.keeps F₂₃.keep) rfl (by exact rm4)
            (by exact ⟨t₂₃, ts ++ [(tLess, tless), (tMore, tmore)], rfl, by simpa [strValues] using PL₂₃.isList, by simp [e2]⟩) (by
              intro x hx
              rcases List.mem_append.mp hx with hx | hx
              · exact htxt x hx
              · simp only [List.mem_cons, List.not_mem_nil, or_false] at hx
                rcases hx with rfl | rfl
                · rw [← hless]; exact text_small (fun u hu => BL.things u (List.mem_of_mem_take hu)) (by have := BL.len; simp; omega)
                · rw [← hmore]; exact text_small (fun u hu => by
                    rcases List.mem_append.mp hu with hu | hu
                    · exact BL.things u hu
                    · exact BL.things u (List.mem_of_mem_drop hu)) (by have := BL.len; simp; omega)) (by simp; omega)) fun v₂₄ s₂₄ F₂₄ D₂₇ E₂₄ hv₂₄ => ?_
          obtain ⟨lV, rs, rfl, hV, hrs⟩ := hv₂₄
          have D₂₈ := D₂₇.and hV list_on
          clear D₂₇ D₂₆
          iterate 7 walk1
          rename_i h₂₅ T₂₅ F₂₅ D₂₉ PL₂₅ KP₂₅ NF₂₅
          clear D₂₈
          refine gldC (c := L + 1) rfl D₂₉.now.1.1.1.1 ?_
          refine mmul F₂₅ D₂₉ PL₂₅ (by omega) (fun h₂₆ t₂₆ F₂₆ D₃₀ PL₂₆ KP₂₆ NF₂₆ => ?_)
          clear D₂₉
          repeat walk1
          obtain ⟨⟨xl, tl⟩, hxl⟩ : ∃ z, ts[ts.length - 1]? = some z := ⟨_, List.getElem?_eq_getElem (by omega)⟩
          have hxl' : textOf rL = xl := by
            have h1 : (ts.map (·.1))[ts.length - 1]? = some xl := by rw [List.getElem?_map, hxl]; rfl
            rw [e2, List.getElem?_map, show ts.length - 1 = q by omega, hrL] at h1
            simpa using h1
          refine item_neg D₃₀.now.1.1.2.isList (by simp [strValues]; omega) (x := .str xl tl) (by simp [strValues, hxl]) ?_
          repeat walk1
          rename_i h₂₇ T₂₇ F₂₇ D₃₁ PL₂₇ KP₂₇ NF₂₇
          clear D₃₀
          refine madd F₂₇ D₃₁ (PL₂₆.isList.at fun o e => KP₂₇ _ o e) PL₂₇.isList (fun h₂₈ t₂₈ F₂₈ D₃₂ PL₂₈ KP₂₈ NF₂₈ => ?_) (by simp; rw [sizeLine_eq]; omega)
          clear D₃₁
          obtain ⟨cs, hcs, hcs'⟩ : ∃ cs : List (Str × Tok), h₂₈.IsList t₂₈ (strValues cs).toArray ∧ cs.map (·.1) = List.replicate q noneText ++ [xl, noneText, noneText] := by
            refine ⟨List.replicate q (noneText, s₁₁.toks) ++ [(xl, tl), (noneText, s₁₁.toks), (noneText, s₁₁.toks)], ?_, by simp⟩
            have := PL₂₈.isList
            simpa [strValues, noneText] using this
          have hkeep : (rows.map textOf ++ [tLess, tMore]).map keepIf = List.replicate q noneText ++ [xl, noneText, noneText] := by
            have k1 : keepIf tLess = noneText := by
              rw [← hless]; exact keep_odd (fun u hu => BL.things u (List.mem_of_mem_take hu)) (lev_less BL (by omega))
            have k2 : keepIf tMore = noneText := by
              rw [← hmore]; exact keep_odd (fun u hu => by
                rcases List.mem_append.mp hu with hu | hu
                · exact BL.things u hu
                · exact BL.things u (List.mem_of_mem_drop hu)) (lev_more BL (by omega))
            rw [List.map_append, keeps_rows hrl hfall hrL, hxl']
            simp [k1, k2]
          have hok1 : ∀ x ∈ List.replicate q noneText ++ [xl, noneText, noneText], PyData.strOk x = true := fun x hx => by
            have : x = noneText ∨ x = xl := by
              simp at hx
              rcases hx with h | h | h
              · exact .inl h.2
              · exact .inr h
              · exact .inl h
            rcases this with rfl | rfl
            · exact hnone
            · rw [← hxl']; exact text_ok BL.things
          refine ks_ne D₃₂.now.2 hcs (by rw [hrs, hkeep]; exact hok1) (by rw [hcs']; exact hok1) (by exact rmu) ?_
          rw [hrs, hcs', decide_eq_true hkeep]
          walk1
          refine ite_neg (by simp) ?_
          refine wpAny_execs_nil ?_
          try dsimp only
          have Z₄' : Rst s { s₂₄ with heap := h₂₈ } := (((Z₃.same _ _).trans ((Rst.refl _).same _ _)).trans E₂₄.rst).same _ _
          have D₃₃ : Dyn L (fun h => h.IsCell (L + 1) (some (.int (q : Int) tq)) ∧ h.IsList lR (ps.map (·.1)).toArray ∧ ∀ r ∈ ps, RowAt h r.1 r.2) h₂₈ := ⟨D₃₂.now.1.1.1, fun h h' n k y => ⟨cell_on hLc _ _ n k y.1, list_on _ _ n k y.2.1, fun r hr => row_lasts _ _ _ _ _ n k (y.2.2 r hr)⟩⟩
          clear D₃₂
          refine wpAny_execs_cons (gcomp_assign (cl := []) (fun i y => ∃ t r, rows[i]? = some r ∧ y = .str (textOf (mir r)) t) F₂₈ D₃₃ D₃₃.now.2.1 (by simp; rw [sizeLine_eq]; omega) rfl rfl (closureFor_none (by decide)) rfl (by decide) (by decide) (fun Q h => by refine gld F₂₈ rfl h) ?_ ?_)
          · intro C i v s₃ m hi' hC hN hk Z
            obtain ⟨pr, hpr, rfl⟩ : ∃ pr, ps[i]? = some pr ∧ pr.1 = v := by simpa using hi'
            have hr : rows[i]? = some pr.2 := by rw [← hps]; simp [hpr]
            have DC : Dyn C (fun h => KB C s₃.heap h) s₃.heap := ⟨KB.refl _ _, fun h h' n k y => y.trans k⟩
            have FC := frOf hN
            refine wpAny_assign_Name (gst FC DC fun h₄ F₄' D₄' SB₄ => ?_)
            have hup : ∀ b o, s.heap.get? b = some o → h₄.get? b = some o := fun b o e => by
              have e' := F₂₈.keep b o e
              exact SB₄.extBut b o (Nat.ne_of_lt (Nat.lt_of_lt_of_le (Heap.lt_size e') hC)) (hk b o e')
            obtain ⟨lW, qw, hpw, hlW, hqw, hqwall⟩ : RowAt h₄ pr.1 pr.2 := row_lasts _ _ _ _ _ ⟨_, hN⟩ (KB.same SB₄) (row_keeps _ _ _ _ hk (D₃₃.now.2.2 pr (List.mem_of_getElem? hpr)))
            rw [hpw] at F₄'
            have hqwl : qw.length = pr.2.length := by rw [← hqw]; simp
            have hsw := hsmall _ (hB i _ hr)
            walk1
            refine gdef (G.keeps hup) (mg_of G.k G.t.g (by k_is)) ?_
            iterate 2 walk1
            refine comp_eval (cl := []) rfl (closureFor_none (by decide)) rfl (by decide) (by decide) ?_
            refine gld F₄' rfl ?_
            refine ⟨lW, qw.map (·.1), fun j y h => ∃ u, pr.2[j]? = some u ∧ UnitAt h y (!u.1, u.2), rfl, hlW, ?_, ?_, ?_, ?_⟩
            · simp; rw [sizeLine_eq]; omega
            · exact fun j v h h' ⟨u, hu, a, t1, t2, e, o, ho, hc, n, hd⟩ k => ⟨u, hu, a, t1, t2, e, o, k _ o _ _ ho hc hd, hc, n, hd⟩
            · intro C2 j v s₆ m2 hj hC2 hN2 hk2 Z2
              obtain ⟨z, hz, rfl⟩ : ∃ z, qw[j]? = some z ∧ z.1 = v := by simpa using hj
              have hu : pr.2[j]? = some z.2 := by rw [← hqw]; simp [hz]
              obtain ⟨ta, t1, t2, hzv, hta⟩ := hqwall z (List.mem_of_getElem? hz)
              have hta₆ : s₆.heap.IsTuple ta #[.str (sg z.2.1) t1, .str z.2.2 t2] := let ⟨o, ho, r⟩ := hta; ⟨o, hk2 _ _ ho, r⟩
              rw [hzv]
              refine gassign2 rfl (frOf hN2) (D := (⟨KB.refl _ _, fun h h' n k y => y.trans k⟩ : Dyn C2 (fun h => KB C2 s₆.heap h) s₆.heap)) hta₆ fun h₇ tk₇ F₇' D₇' kb₇ => ?_
              repeat (fail_if_success (with_reducible show wpAny _ _ (eval (Expr.Name _ _) _) _ _ _)); walk1
              refine gld F₇' rfl ?_
              have hsg : (sg z.2.1 == (")" : Str)) = !z.2.1 := by cases z.2.1 <;> decide
              iterate 3 walk1
              have hfin : ∀ (h₉ : Heap) (tk₉ : Nat) (T₉ : Addr) (t : Tok) m, Fr noHeap C2 h₉ m → Dyn C2 (fun h => KB C2 s₆.heap h) h₉ → h₉.IsTuple T₉ #[.str (sg (!z.2.1)) t, .str z.2.2 t2] →
                  (∃ u, pr.2[j]? = some u ∧ UnitAt h₉ (.ref T₉) (!u.1, u.2)) ∧ (∃ m', h₉.Ns C2 m') ∧ KB C2 s₆.heap h₉ ∧ Rst s₆ { s₆ with heap := h₉, toks := tk₉ } := fun h₉ tk₉ T₉ t m F₉ D₉ IT₉ =>
                ⟨⟨z.2, hu, T₉, t, t2, rfl, IT₉⟩, ⟨_, F₉.ns⟩, D₉.now, (Rst.refl s₆).same _ _⟩
              cases hb : z.2.1 with
              | true =>
                rw [if_neg (by decide)]
                repeat (fail_if_success (with_reducible show wpAny _ _ (eval (Expr.Name _ _) _) _ _ _)); walk1
                refine gld F₇' rfl ?_
                iterate 2 walk1
                rename_i h₉ T₉ F₉' D₉' IT₉ KP₉ NF₉
                exact hfin _ _ _ _ _ F₉' D₉' (by rw [hb]; exact IT₉)
              | false =>
                rw [if_pos (by decide)]
                repeat (fail_if_success (with_reducible show wpAny _ _ (eval (Expr.Name _ _) _) _ _ _)); walk1
                refine gld F₇' rfl ?_
                iterate 2 walk1
                rename_i h₉ T₉ F₉' D₉' IT₉ KP₉ NF₉
                exact hfin _ _ _ _ _ F₉' D₉' (by rw [hb]; exact IT₉)
            · intro DW s₈ ys₃ hyl₃ hyF₃ PL₈ hDW hk₈ Z₈
              have hup₈ : ∀ b o, s.heap.get? b = some o → s₈.heap.get? b = some o := fun b o e => hk₈ b o (hup b o e)
              have hrow8 : RowAt s₈.heap (.ref DW) (mir pr.2) := seq_of PL₈ (by rw [hyl₃]; simp [mir, hqwl]) fun j y e => by
                obtain ⟨u, hu, x⟩ := hyF₃ j y e
                exact ⟨_, by simp [mir, hu], x⟩
              walk1
              refine ⟨G.k.keeps hup₈, ?_⟩
              refine mcall (Fr.ext F₄' hk₈) (D₄'.step F₄'.ns (KB.of hk₈)) (text_call (us := mir pr.2) (by exact G.keeps hup₈) rfl (by exact rm1) (by exact hrow8) (by simp [mir]; exact hsw.1) (by
                intro u hu
                obtain ⟨u', hu', rfl⟩ := List.mem_map.mp hu
                exact hsw.2 u' hu')) fun v₅ s₅ F₅' D₅' E₅ hv₅ => ?_
              obtain ⟨t, rfl⟩ := hv₅
              exact ⟨⟨t, _, hr, rfl⟩, ⟨_, F₅'.ns⟩, D₅'.now, (((Rst.refl s₃).same _ _).trans Z₈).trans E₅.rst⟩
          · intro TM s₂₉ ys₂ F₂₉ D₃₄ hyl₂ hyF₂ PL₂₉ Z₂₉
            obtain ⟨ts₂, e1, e2'⟩ := strs_of (ys := ys₂) (xs := rows.map fun r => textOf (mir r)) (by rw [hyl₂]; simp [hlen]) fun i y e => by
              obtain ⟨t, r, hr, rfl⟩ := hyF₂ i y e
              exact ⟨t, _, by simp [hr], rfl⟩
            subst e1
            try dsimp only
            have D₃₅ := D₃₄.and PL₂₉ plist_on
            clear D₃₄
            refine wpAny_execs_cons ?_
            repeat walk1
            have htl₂ : ts₂.length = q + 1 := by have := congrArg List.length e2'; simp at this; omega
            refine mcall F₂₉ D₃₅ (ppv_call (xs := rows.map fun r => textOf (mir r)) (by exact G.keeps F₂₉.keep) rfl (by exact rm4)
              (by exact ⟨TM, ts₂, rfl, PL₂₉.isList, e2'⟩) (by
                intro x hx
                obtain ⟨r, hr, rfl⟩ := List.mem_map.mp hx
                exact text_small (mir_things (hBm r hr).things) (by have := (hBm r hr).len; simp [mir]; omega)) (by simp; omega)) fun v₃₀ s₃₀ F₃₀ D₃₆ E₃₀ hv₃₀ => ?_
            obtain ⟨lV₂, rs₂, rfl, hV₂, hrs₂⟩ := hv₃₀
            have D₃₇ := D₃₆.and hV₂ list_on
            clear D₃₆ D₃₅
            repeat (fail_if_success (with_reducible show wpAny _ _ (subscriptTail _ _ _ _) _ _ _)); walk1
            obtain ⟨⟨x0, t0⟩, hx0⟩ : ∃ z, ts₂[0]? = some z := ⟨_, List.getElem?_eq_getElem (by omega)⟩
            refine item_listR D₃₇.now.1.2.isList (by decide) (by decide) (x := .str x0 t0) (by simp [strValues, hx0]) ?_
            iterate 2 walk1
            rename_i h₃₁ T₃₁ F₃₁ D₃₈ PL₃₁ KP₃₁ NF₃₁
            clear D₃₇
            iterate 6 walk1
            rename_i h₃₂ T₃₂ F₃₂ D₃₉ PL₃₂ KP₃₂ NF₃₂
            clear D₃₈
            refine gldC (c := L + 1) rfl D₃₉.now.1.1.1 ?_
            refine mmul F₃₂ D₃₉ PL₃₂ (by omega) (fun h₃₃ t₃₃ F₃₃ D₄₀ PL₃₃ KP₃₃ NF₃₃ => ?_)
            clear D₃₉
            refine madd F₃₃ D₄₀ (list_on _ _ ⟨_, F₃₂.ns⟩ KP₃₃ (PL₃₁.isList.at fun o e => KP₃₂ _ o e)) PL₃₃.isList (fun h₃₄ t₃₄ F₃₄ D₄₁ PL₃₄ KP₃₄ NF₃₄ => ?_) (by simp; rw [sizeLine_eq]; omega)
            obtain ⟨cs₂, hcs₂, hcs₂'⟩ : ∃ cs : List (Str × Tok), h₃₄.IsList t₃₄ (strValues cs).toArray ∧ cs.map (·.1) = x0 :: List.replicate q noneText := by
              refine ⟨(x0, t0) :: List.replicate q (noneText, s₁₁.toks), ?_, by simp⟩
              have := PL₃₄.isList
              simpa [strValues, noneText] using this
            have hx0' : (rows.map fun r => textOf (mir r))[0]? = some x0 := by rw [← e2', List.getElem?_map, hx0]; rfl
            obtain ⟨r0, hr0⟩ : ∃ r0, rows[0]? = some r0 := ⟨_, List.getElem?_eq_getElem (by omega)⟩
            have hx0e : textOf (mir r0) = x0 := by
              rw [List.getElem?_map, hr0] at hx0'
              simpa using hx0'
            have hkeep₂ : (rows.map fun r => textOf (mir r)).map keepIf = x0 :: List.replicate q noneText := by
              rw [keeps_mirs hrl hfall hr0, hx0e]
            have hok2 : ∀ x ∈ x0 :: List.replicate q noneText, PyData.strOk x = true := fun x hx => by
              have : x = x0 ∨ x = noneText := by
                simp at hx
                rcases hx with h | h
                · exact .inl h
                · exact .inr h.2
              rcases this with rfl | rfl
              · rw [← hx0e]; exact text_ok (mir_things (hB 0 r0 hr0).things)
              · exact hnone
            refine ks_eq D₄₁.now.2 hcs₂ (by rw [hrs₂, hkeep₂]; exact hok2) (by rw [hcs₂']; exact hok2) (by exact rmu) ?_
            rw [hrs₂, hcs₂', decide_eq_true hkeep₂]
            exact ⟨⟨F₃₄.keep, (((Rst.trans (by exact Rst.of Z₄' rfl rfl) Z₂₉).trans ((Rst.refl s₂₉).same _ _)).trans E₃₀.rst).same _ _⟩, rfl⟩
end

end Mine

set_option maxRecDepth 100000
set_option linter.unusedVariables false
set_option maxHeartbeats 2000000 in
theorem PySem.Challenge.cw_ph0130_01_holds : PySem.Challenge.rw_ph0130_01.Holds := by
  refine Mine.hd ?_
  intro w s₀ s₁ mg mb G Y fa o pm cd doc dV kV ho hd hcd hD hmg hg args vals as hpre hlay hrd hwl hlo
  have KX := kIn_of Y
  refine Ground.open G ?_
  intro T B D TE TW
  wrow_args hpre hlay hrd hwl hlo
  rename_i ns hsh hlay0 hL1 hr1 hl2 as1 as2 l vs as3 hL ra w1 r0 hI hr2 hc1 hc2
  have GD : Mine.Gd w Mine.hd.view_39 (looseW Mine.hd.view_39 [Str.ofString "EXACT_TOKEN_TYPES"]) mg mb s₁.heap := ⟨KX, topRead_of T⟩
  have h104 : fa = 104 := by
    have e := mg_of KX T.g (n := "law") (v := .ref 104) (by k_is)
    have e' : mg "law" = some (.ref fa) := hmg
    rw [e'] at e
    cases e; rfl
  subst h104
  refine wpAny_call (codeAny_mono (Mine.law_call GD hL hI (by omega)) fun r s' x => ?_)
  obtain ⟨v, rfl, E, rfl⟩ := x
  refine ⟨.inl ⟨.bool true, ofPy (.bool true), [], rfl, fun _ => rfl, ?_, ?_, ?_⟩, .of_keep E.heap, E.rst.os, E.rst.bare (.of_eq hg)⟩
  · exact ReadsW.bool true
  · with_unfolding_all rfl
  · exact fun _ => ⟨List.nodup_nil, fun a h => by cases h⟩
