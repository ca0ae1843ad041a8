import PyProof.Rows.All
import Wide.All
import OpenK.AllK
import Wide.FinOn
import PyProof.FactsAll.range
import Flt.RightMore
import PySem.Builtin.Math.Norm
import KE.KSortAsk
import PySem.Challenge.RW_oh0010_01
set_option Elab.async false

section -- B0
open PySem PySem.W PyProof.Rows PySem.Calls
set_option Elab.async false
set_option maxRecDepth 100000
namespace Mine

abbrev P : Program := PySem.Challenge.pw_oh0010_01

/-- the i-th statement of the top, a def -/
def fnAt (i : Nat) : Str × Arguments × List Stmt × Scope :=
  match P.main.body[i]? with
  | some (.FunctionDef name args body _ _ _ scope _ _ _) => (name, args, body, scope)
  | _ => default

def nm (i : Nat) : Str := (fnAt i).1
def pms (i : Nat) : Arguments := (fnAt i).2.1
def bdy (i : Nat) : List Stmt := (fnAt i).2.2.1
def scp (i : Nat) : Scope := (fnAt i).2.2.2

/-- a def's object -/
def fobj (i : Nat) (pm : Value) (code : Addr) : Obj := ⟨.type "function", none, .func (docDef (nm i) (pms i) (bdy i) (scp i) pm (.ref code) .none), #[]⟩

def IsFn (h : Heap) (i : Nat) (f : Addr) : Prop := ∃ pm c, h.get? f = some (fobj i pm c) ∧ h.CodeRec (.ref c) (nm i)
theorem IsFn.keeps {h h' : Heap} {i f} (x : IsFn h i f) (k : ∀ b o, h.get? b = some o → h'.get? b = some o) : IsFn h' i f :=
  let ⟨pm, c, a, b⟩ := x; ⟨pm, c, k _ _ a, b.keeps k⟩

def globs : List (Str × Value) := [("fsum", .builtin "math.fsum"), ("sumprod", .builtin "math.sumprod"), ("covariance", .ref 62), ("heappop", .ref 69), ("heapify", .ref 76), ("_siftdown", .ref 83), ("_siftup", .ref 90),
  ("three_way_cmp", .ref 97), ("_law_standings", .ref 102), ("_law_off_a_heap", .ref 107), ("_law_pull", .ref 114)]
def bis : List (Str × Value) := [("len", .builtin "len"), ("range", .type "range"), ("reversed", .type "reversed"), ("sum", .builtin "sum"), ("list", .type "list"), ("sorted", .builtin "sorted"), ("tuple", .type "tuple"),
  ("zip", .type "zip"), ("isinstance", .builtin "isinstance"), ("float", .type "float"), ("bool", .type "bool"), ("int", .type "int")]

structure GF (h : Heap) : Prop where
  g : ∃ mg, h.Ns mainGlobals mg ∧ (∀ p ∈ globs, mg p.1 = some p.2) ∧ (∀ p ∈ bis, mg p.1 = none)
  b : ∃ mb, h.Ns builtinsNs mb ∧ (∀ p ∈ bis, mb p.1 = some p.2)
  nolimit : h.NoLimit
  bm : ∃ mg bm ob, h.Ns mainGlobals mg ∧ mg "__builtins__" = some (.ref bm) ∧ bm ≠ builtinsNs ∧ h.get? bm = some ob ∧ ob.cls = .type "module" ∧ ob.dict = some builtinsNs ∧ ob.data = .plain
  fns : ∀ p ∈ [(3, 62), (5, 69), (6, 76), (7, 83), (8, 90), (10, 97), (12, 102), (13, 107), (14, 114)], IsFn h p.1 p.2

abbrev Ext (h h' : Heap) : Prop := ∀ b o, h.get? b = some o → h'.get? b = some o
theorem Ext.trans {a b c : Heap} (x : Ext a b) (y : Ext b c) : Ext a c := fun d o e => y d o (x d o e)

theorem GF.keeps {h h' : Heap} (x : GF h) (k : Ext h h') : GF h' where
  g := let ⟨mg, a, b⟩ := x.g; ⟨mg, a.keeps k, b⟩
  b := let ⟨mg, a, b⟩ := x.b; ⟨mg, a.keeps k, b⟩
  nolimit := x.nolimit.keeps k
  bm := let ⟨mg, bm, ob, a, b, c, d, e⟩ := x.bm; ⟨mg, bm, ob, a.keeps k, b, c, k _ _ d, e⟩
  fns := fun p hp => (x.fns p hp).keeps k

section
variable {M : Model} {A : Around} {E : Value → Shared → Prop} {s : Shared} {env : Env}
theorem gl {x : Str} {pos : Pos} {v : Value} {Q : Value → Shared → Prop} (G : GF s.heap) (hm : (x, v) ∈ globs) (h : Q v s)
    (hk : env.scope.kind = .function := by rfl) (hx : env.kindOf x = some .globalImplicit := by rfl) (hg : env.globals = mainGlobals := by rfl)
    (hd : (x == ("__debug__" : Str)) = false := by decide) : wpAny M A (eval (.Name x pos) env) Q E s := by
  obtain ⟨mg, a, b, _⟩ := G.g
  exact Name_function_global hk hx (loadGlobal_global (by rw [hg]; exact a) (b _ hm) h) hd
theorem bi {x : Str} {pos : Pos} {v : Value} {Q : Value → Shared → Prop} (G : GF s.heap) (hm : (x, v) ∈ bis) (h : Q v s)
    (hk : env.scope.kind = .function := by rfl) (hx : env.kindOf x = some .globalImplicit := by rfl) (hg : env.globals = mainGlobals := by rfl) (hb : env.builtins = builtinsNs := by rfl)
    (hd : (x == ("__debug__" : Str)) = false := by decide) : wpAny M A (eval (.Name x pos) env) Q E s := by
  obtain ⟨mg, a, _, c⟩ := G.g
  obtain ⟨mb, d, e⟩ := G.b
  exact Name_function_global hk hx (loadGlobal_builtin (by rw [hg]; exact a) (c _ hm) (by rw [hb]; exact d) (e _ hm) h) hd
end

/-- what the walk never changes -/
structure Sm (s s' : Shared) : Prop where
  gens : s'.gens = s.gens
  drawn : s'.drawn = s.drawn
  os : s'.os = s.os
theorem Sm.refl (s : Shared) : Sm s s := ⟨rfl, rfl, rfl⟩
theorem Sm.mk' (s : Shared) (h : Heap) (t : Nat) : Sm s { s with heap := h, toks := t } := ⟨rfl, rfl, rfl⟩
theorem Sm.trans {a b c : Shared} (x : Sm a b) (y : Sm b c) : Sm a c := ⟨y.gens.trans x.gens, y.drawn.trans x.drawn, y.os.trans x.os⟩
theorem Sm.tr {a b b' c : Shared} (x : Sm a b) (y : Sm b' c) (e₁ : b'.gens = b.gens := by rfl) (e₂ : b'.drawn = b.drawn := by rfl) (e₃ : b'.os = b.os := by rfl) : Sm a c :=
  ⟨y.gens.trans (e₁.trans x.gens), y.drawn.trans (e₂.trans x.drawn), y.os.trans (e₃.trans x.os)⟩
theorem Sm.eq {s s' : Shared} (x : Sm s s') : s' = { s with heap := s'.heap, toks := s'.toks } := by
  obtain ⟨h, g, d, t, o⟩ := s'
  obtain ⟨a, b, c⟩ := x
  simp only at a b c
  subst a b c
  rfl
theorem Sm.keeps {s s' : Shared} (x : Sm s s') (k : Ext s.heap s'.heap) : Keeps s s' := ⟨_, _, x.eq, k⟩
theorem Sm.ofKeeps {s s' : Shared} (x : Keeps s s') : Sm s s' ∧ Ext s.heap s'.heap := by
  obtain ⟨h, t, rfl, k⟩ := x
  exact ⟨⟨rfl, rfl, rfl⟩, k⟩

def sg (x y : Int) : Int := b2i (decide (y < x)) - b2i (decide (x < y))

theorem twc {w : World} {A : Around} {E : Value → Shared → Prop} {s : Shared} {x y : Int} {t u : Tok} {Q : Value → Shared → Prop} (G : GF s.heap) (hr : A.depth < recursionLimit)
    (h : ∀ s' t', Sm s s' → Ext s.heap s'.heap → Q (.int (sg x y) t') s') : wpAny (model P w) A (call (.ref 97) [.int x t, .int y u]) Q E s := by
  obtain ⟨pm, c, ho, hc⟩ := G.fns (10, 97) (by simp)
  refine wpAny_call (call_plain (binds := [("x", .int x t), ("y", .int y u)]) hr ho rfl G.nolimit hc rfl ?_ ?_)
  · exact locs rfl
  · intro h₁ F
    refine wpAny_execs_cons (wpAny_Return_some (wpAny_BinOp (wpAny_Compare1 (ld F rfl (ld F rfl (gt_int (wpAny_Compare1 (ld F rfl (ld F rfl (lt_int (sub_bool ?_))))))))))) 
    exact h _ _ ⟨rfl, rfl, rfl⟩ F.keep
end Mine
end -- B0

section -- F1
open PySem PySem.W PyProof.Rows PySem.Calls
set_option Elab.async false
set_option maxRecDepth 100000
namespace Mine

/-! ## heaps -/
def dropA (h : Heap) (a : Addr) : Heap := h.update a fun _ => ⟨.none, none, .freed, #[]⟩

theorem get_dropA_ne (h : Heap) {a b : Addr} (n : b ≠ a) : (dropA h a).get? b = h.get? b := Heap.get?_update_ne _ _ _ _ n
theorem get_dropA_self (h : Heap) (a : Addr) : (dropA h a).get? a = none := by
  obtain ⟨objs, l⟩ := h
  simp only [dropA, Heap.update, Heap.get?]
  rw [Array.getElem?_modify]
  cases objs[a]? <;> simp
theorem get_dropA {h : Heap} {a b : Addr} {o : Obj} (e : (dropA h a).get? b = some o) : b ≠ a ∧ h.get? b = some o := by
  by_cases n : b = a
  · subst n; rw [get_dropA_self] at e; cases e
  · exact ⟨n, by rwa [get_dropA_ne h n] at e⟩
theorem dropA_none {h : Heap} {a b : Addr} (e : h.get? b = none) : (dropA h a).get? b = none := by
  by_cases n : b = a
  · subst n; exact get_dropA_self _ _
  · rw [get_dropA_ne h n]; exact e

structure Fx (B : Heap) (L : Addr) (h : Heap) (m : Str → Option Value) : Prop where
  ns : h.Ns L m
  keep : Ext B h
  off : B.get? L = none

theorem Fx.of_fr {B h : Heap} {L : Addr} {m} (F : Fr B L h m) : Fx B L h m := ⟨F.ns, F.keep, Heap.get?_none_of_le F.above⟩
theorem Fx.grow {B h h' : Heap} {L : Addr} {m} (F : Fx B L h m) (k : Ext h h') : Fx B L h' m := ⟨F.ns.keeps k, F.keep.trans k, F.off⟩
theorem Fx.same {B h h' : Heap} {L a : Addr} {m} (F : Fx B L h m) (hs : Heap.SameBut a h h') (ha : B.get? a = none) (hL : L ≠ a) : Fx B L h' m :=
  ⟨F.ns.sameBut hs hL, fun b o e => (hs.2 b (by rintro rfl; rw [ha] at e; cases e)).trans (F.keep b o e), F.off⟩
theorem Fx.rebase {B h : Heap} {L : Addr} {m} (F : Fx B L h m) : Fx (dropA h L) L h m := ⟨F.ns, fun _ _ e => (get_dropA e).2, get_dropA_self _ _⟩
theorem Fx.trans {B h h' : Heap} {L : Addr} {m m'} (F : Fx B L h m) (F' : Fx (dropA h L) L h' m') : Fx B L h' m' :=
  ⟨F'.ns, fun b o e => F'.keep b o (by rw [get_dropA_ne h (by rintro rfl; rw [F.off] at e; cases e)]; exact F.keep b o e), F.off⟩
theorem Fx.get {B h : Heap} {L : Addr} {m} (F : Fx B L h m) {b : Addr} {o : Obj} (e : B.get? b = some o) : h.get? b = some o := F.keep b o e
theorem Fx.sub {B B' h : Heap} {L : Addr} {m} (F : Fx B L h m) (k : Ext B' B) : Fx B' L h m :=
  ⟨F.ns, k.trans F.keep, by cases e : B'.get? L with | none => rfl | some o => have := k _ _ e; rw [F.off] at this; cases this⟩
theorem Fx.gf {B h : Heap} {L : Addr} {m} (F : Fx B L h m) (G : GF B) : GF h := G.keeps F.keep
theorem Fx.extBut {h h' : Heap} {L : Addr} {m} (F : Fx (dropA h L) L h' m) : Heap.ExtBut L h h' := fun b o n e => F.keep b o (by rw [get_dropA_ne h n]; exact e)
theorem Fx.ofMap {B h : Heap} {L : Addr} {m m'} (F : Fx B L h m) (e : ∀ x, m x = m' x) : Fx B L h m' := by
  have : m = m' := funext e
  exact this ▸ F

section
variable {M : Model} {A : Around} {E : Value → Shared → Prop} {s : Shared} {env : Env} {B : Heap} {m : Str → Option Value}

theorem lx {x : Str} {pos : Pos} {v : Value} {Q : Value → Shared → Prop} (F : Fx B env.locals s.heap m) (hv : m x = some v) (h : Q v s)
    (hk : env.scope.kind = .function := by rfl) (hl : env.kindOf x = some .local := by rfl)
    (hd : (x == ("__debug__" : Str)) = false := by decide) :
    wpAny M A (eval (.Name x pos) env) Q E s := wpAny_Name (wpAny_loadName_local hk hl F.ns hv h) hd

theorem sx {x : Str} {v : Value} {Q : Unit → Shared → Prop} (F : Fx B env.locals s.heap m)
    (h : ∀ s', Sm s s' → Fx B env.locals s'.heap (fun y => if y = x then some v else m y) → Q () s')
    (hl : env.kindOf x = some .local := by rfl) (hp : (env.scope.kind == .class || (env.scope.kind == .module && env.locals != env.globals)) = false := by rfl) :
    wpAny M A (storeName env x v) Q E s :=
  wpAny_storeName_local hl F.ns (fun h' hn hs => h _ ⟨rfl, rfl, rfl⟩ ⟨hn, fun b o e => (hs.2 b (by rintro rfl; rw [F.off] at e; cases e)).trans (F.keep b o e), F.off⟩) hp

/-! ## calls -/
def Callee : Value → Shared → Prop
  | .ref a, s => ∃ o fd, s.heap.get? a = some o ∧ o.data = .func fd
  | .builtin _, _ => True
  | .type _, _ => True
  | _, _ => False

theorem callWith_of {pos : Pos} {f : Value} {args : List (Bool × Sem Value)} {Q : Value → Shared → Prop} (hp : args.any (·.1) = false)
    (h : wpAny M A (evalArgs f true args []) (fun x s₁ => Callee f s₁ ∧ wpAny M A (call f x.pos x.kw) Q E s₁) E s) :
    wpAny M A (callWith pos f [] args []) Q E s := by
  cases f with
  | ref a =>
    unfold callWith
    refine wpAny_bind (wpAny_holding (wpAny_mono h (fun x s₁ h₁ => wpAny_bind (wpAny_standAt ?_)) fun _ _ x => x))
    obtain ⟨⟨o, fd, ho, hd⟩, h₂⟩ := h₁
    have tail : ∀ {t : Sem Value}, wpAny M A t Q E s₁ → wpAny M A (t >>= fun r => holding [r] point >>= fun _ => pure r) Q E s₁ :=
      fun ht => wpAny_bind (wpAny_mono ht (fun r s₂ hr => wpAny_bind (wpAny_holding (wpAny_point (wpAny_pure hr)))) fun _ _ x => x)
    simp only [hp, List.any_nil, Bool.or_false]
    refine wpAny_bind (m := keeperOf (.ref a)) ?_
    unfold keeperOf
    refine wpAny_bind (wpAny_load ho ?_)
    rw [hd]
    refine wpAny_pure ?_
    split <;> first
      | exact tail h₂
      | exact tail (by unfold callMarked; exact wpAny_keep h₂)
      | (split <;> first | exact tail h₂ | exact tail (by unfold callMarked; exact wpAny_keep h₂))
  | builtin id => exact callWith_builtin hp (wpAny_mono h (fun _ _ h' => h'.2) fun _ _ x => x)
  | type n =>
    unfold callWith
    refine wpAny_bind (wpAny_holding (wpAny_mono h (fun a s₁ h₁ => wpAny_bind (wpAny_standAt ?_)) fun _ _ x => x))
    simp only [hp, List.any_nil, Bool.or_false]
    refine wpAny_bind (wpAny_pure ?_)
    exact wpAny_bind (wpAny_mono h₁.2 (fun r s₂ hr => wpAny_bind (wpAny_holding (wpAny_point (wpAny_pure hr)))) fun _ _ x => x)
  | _ => 
    unfold callWith
    refine wpAny_bind (wpAny_holding (wpAny_mono h (fun a s₁ h₁ => ?_) fun _ _ x => x))
    exact h₁.1.elim

theorem Call1 {f e₁ : Expr} {pos : Pos} {Q : Value → Shared → Prop}
    (h : wpAny M A (eval f env) (fun fv s₁ => wpAny M A (eval e₁ env) (fun v₁ s₂ => Callee fv s₂ ∧ wpAny M A (call fv [v₁]) Q E s₂) E s₁) E s)
    (ha : eval (.Call f [e₁] [] pos) env = (eval f env >>= fun fv => callWith pos fv [] [(false, eval e₁ env)] []) := by rfl) :
    wpAny M A (eval (.Call f [e₁] [] pos) env) Q E s := by
  rw [ha]
  refine wpAny_bind (wpAny_mono h (fun fv s₁ h₁ => ?_) fun _ _ x => x)
  exact callWith_of rfl (evalArgs_plain (spliced_cons (wpAny_mono h₁ (fun v s₂ h₂ => spliced_nil h₂) fun _ _ x => x)))
theorem Call2 {f e₁ e₂ : Expr} {pos : Pos} {Q : Value → Shared → Prop}
    (h : wpAny M A (eval f env) (fun fv s₁ => wpAny M A (eval e₁ env) (fun v₁ s₂ => wpAny M A (eval e₂ env) (fun v₂ s₃ => Callee fv s₃ ∧ wpAny M A (call fv [v₁, v₂]) Q E s₃) E s₂) E s₁) E s)
    (ha : eval (.Call f [e₁, e₂] [] pos) env = (eval f env >>= fun fv => callWith pos fv [] [(false, eval e₁ env), (false, eval e₂ env)] []) := by rfl) :
    wpAny M A (eval (.Call f [e₁, e₂] [] pos) env) Q E s := by
  rw [ha]
  refine wpAny_bind (wpAny_mono h (fun fv s₁ h₁ => ?_) fun _ _ x => x)
  exact callWith_of rfl (evalArgs_plain (spliced_cons (wpAny_mono h₁ (fun v s₂ h₂ => spliced_cons (wpAny_mono h₂ (fun v' s₃ h₃ => spliced_nil h₃) fun _ _ x => x)) fun _ _ x => x)))
theorem Call3 {f e₁ e₂ e₃ : Expr} {pos : Pos} {Q : Value → Shared → Prop}
    (h : wpAny M A (eval f env) (fun fv s₁ => wpAny M A (eval e₁ env) (fun v₁ s₂ => wpAny M A (eval e₂ env) (fun v₂ s₃ => wpAny M A (eval e₃ env) (fun v₃ s₄ => Callee fv s₄ ∧ wpAny M A (call fv [v₁, v₂, v₃]) Q E s₄) E s₃) E s₂) E s₁) E s)
    (ha : eval (.Call f [e₁, e₂, e₃] [] pos) env = (eval f env >>= fun fv => callWith pos fv [] [(false, eval e₁ env), (false, eval e₂ env), (false, eval e₃ env)] []) := by rfl) :
    wpAny M A (eval (.Call f [e₁, e₂, e₃] [] pos) env) Q E s := by
  rw [ha]
  refine wpAny_bind (wpAny_mono h (fun fv s₁ h₁ => ?_) fun _ _ x => x)
  exact callWith_of rfl (evalArgs_plain (spliced_cons (wpAny_mono h₁ (fun v s₂ h₂ => spliced_cons (wpAny_mono h₂ (fun v' s₃ h₃ => spliced_cons (wpAny_mono h₃ (fun v'' s₄ h₄ => spliced_nil h₄) fun _ _ x => x)) fun _ _ x => x)) fun _ _ x => x)))
end

theorem callee_fn {s : Shared} {i f : Nat} (x : IsFn s.heap i f) : Callee (.ref f) s := let ⟨_, _, h, _⟩ := x; ⟨_, _, h, rfl⟩

end Mine
end -- F1

section -- F2
open PySem PySem.W PyProof.Rows PySem.Calls
set_option Elab.async false
set_option maxRecDepth 100000
namespace Mine

abbrev KpB (wr : List Addr) (h h' : Heap) : Prop := ∀ b o, b ∉ wr → h.get? b = some o → h'.get? b = some o

section
variable {w : World} {A : Around} {E : Value → Shared → Prop} {env : Env} {s₀ : Shared}

/-- a for loop over an iterator, by an invariant over the heap -/
theorem forWalk {target : Expr} {body : List Stmt} {I : Addr} {fp wr : List Addr} {n : Nat} {Pv : Nat → Value → Prop} {St : Nat → Heap → Prop} {Q : Flow → Shared → Prop}
    (W : Walks P w A I fp wr n Pv St) (J : Nat → Heap → Prop)
    (hst : ∀ i h h', J i h → KpB wr h h' → J i h')
    (h0 : J 0 s₀.heap) (hS : St 0 s₀.heap)
    (turn : ∀ i v s, i < n → Pv i v → J i s.heap → St (i + 1) s.heap → Sm s₀ s → wpAny (model P w) A (letOwnedTupleGo target (.ref I) v) (fun _ s₁ => wpAny (model P w) A (assign target env v) (fun _ s₂ => wpAny (model P w) A (execs body env) (fun f s₃ =>
      Sm s₀ s₃ ∧ f = .next ∧ J (i + 1) s₃.heap ∧ (∀ b ∈ fp, ∀ o, s.heap.get? b = some o → s₃.heap.get? b = some o)) (fun _ _ => False) s₂) (fun _ _ => False) s₁) (fun _ _ => False) s)
    (fin : ∀ s, Sm s₀ s → J n s.heap → Q .next s) :
    codeAny (model P w) A (.forLoop target (.ref I) body [] env) (fun r s' => match r with | .ok f => Q f s' | .error e => cameBackBy (model P w) A env E e s') s₀ := by
  refine codeAny_forLoop_any (fun k s => ∃ i, Sm s₀ s ∧ i ≤ n ∧ k = n - i ∧ J i s.heap ∧ St i s.heap) ?_ n ⟨0, Sm.refl _, Nat.zero_le _, rfl, h0, hS⟩
  rintro k s ⟨i, hsm, hi, rfl, hJ, hs⟩
  by_cases hlt : i < n
  · refine W.item i _ _ _ hlt hs fun v h' tk' hv hs' hk => ?_
    refine wpAny_mono (turn i v _ hlt hv (hst _ _ _ hJ hk) hs' (hsm.trans (Sm.mk' _ _ _))) (fun _ s₁ h₁ => ?_) fun _ _ x => x.elim
    refine wpAny_mono h₁ (fun _ s₂ h₂ => ?_) fun _ _ x => x.elim
    refine wpAny_mono h₂ (fun f s₃ h₃ => ?_) fun _ _ x => x.elim
    obtain ⟨hsm', rfl, hJ', hfp⟩ := h₃
    exact ⟨n - (i + 1), by omega, i + 1, hsm', hlt, rfl, hJ', W.frame _ _ _ hs' hfp⟩
  · have : i = n := by omega
    subst this
    exact W.done _ _ _ hs fun h' tk' hk => wpAny_execs_nil (fin _ (hsm.trans (Sm.mk' _ _ _)) (hst _ _ _ hJ hk))

theorem lot_name {x : Str} {px : Pos} {it v : Value} {M : Model} {s : Shared} {Q : Unit → Shared → Prop} (h : Q () s) : wpAny M A (letOwnedTupleGo (.Name x px) it v) Q E s := wpAny_pure h
end

theorem Fx.kp {B h h' : Heap} {L : Addr} {m} {wr : List Addr} (F : Fx B L h m) (k : KpB wr h h') (hL : L ∉ wr) (hB : ∀ b ∈ wr, B.get? b = none) : Fx B L h' m :=
  ⟨F.ns.at' fun o e => k L o hL e, fun b o e => k b o (fun hb => by rw [hB b hb] at e; cases e) (F.keep b o e), F.off⟩

/-- an int among the locals -/
abbrev IntAt (m : Str → Option Value) (x : Str) (i : Int) : Prop := ∃ t, m x = some (.int i t)

/-- ints of a list object -/
abbrev IsIL (h : Heap) (a : Addr) (xs : List Int) : Prop := ∃ vs, h.IsList a vs.toArray ∧ IntsAre vs xs
end Mine
end -- F2

section -- F3
open PySem PySem.W PyProof.Rows PySem.Calls
set_option Elab.async false
set_option maxRecDepth 100000
set_option maxHeartbeats 2000000
namespace Mine

def sumTo (f : Nat → Int) : Nat → Int
  | 0 => 0
  | k + 1 => sumTo f k + f k

section
variable {w : World} {A : Around} {E : Value → Shared → Prop} {env : Env} {s : Shared}

theorem ext_push (h : Heap) (o : Obj) : Ext h (h.push o) := fun _ _ e => Heap.get?_push_of_some o e
theorem fresh_none (h : Heap) : h.get? h.objs.size = none := Heap.get?_none_of_le (Nat.le_refl _)

theorem none_of_ext {h h' : Heap} {a : Addr} (k : Ext h h') (e : h'.get? a = none) : h.get? a = none := by
  cases q : h.get? a with
  | none => rfl
  | some o => rw [k _ _ q] at e; cases e

theorem ne_of_ns {h : Heap} {L a : Addr} {m} (n : h.Ns L m) (e : h.get? a = none) : L ≠ a := by
  rintro rfl; obtain ⟨o, _, _, q, _⟩ := n; rw [e] at q; cases q

/-- iter(range(e)) -/
theorem rangeIter {e : Expr} {rp rpos : Pos} {K : Value → Shared → Prop}
    (h : wpAny (model P w) A (eval e env) (fun v s₁ => ∃ n : Nat, ∃ t, v = .int n t ∧ n < 2 ^ 60 ∧
      ∀ it s', Sm s₁ s' → Ext s₁.heap s'.heap → s₁.heap.get? it = none → IsRangeIter s'.heap it 0 n 1 → K (.ref it) s') E s)
    (G : GF s.heap) (hk : env.scope.kind = .function := by rfl) (hx : env.kindOf "range" = some .globalImplicit := by rfl) (hg : env.globals = mainGlobals := by rfl) (hb : env.builtins = builtinsNs := by rfl)
    (ha : eval (.Call (.Name "range" rp) [e] [] rpos) env = (eval (.Name "range" rp) env >>= fun fv => callWith rpos fv [] [(false, eval e env)] []) := by rfl) :
    wpAny (model P w) A (eval (.Call (.Name "range" rp) [e] [] rpos) env) (fun x s₁ => wpAny (model P w) A (pyIter x) K E s₁) E s := by
  refine Call1 (bi G (v := .type "range") (by simp [bis]) (wpAny_mono h (fun v s₁ h₁ => ⟨trivial, ?_⟩) fun _ _ x => x) hk hx hg hb) ha
  obtain ⟨n, t, rfl, hn, h₁⟩ := h₁
  refine call_range_1 ?_
  have hsz : Builtin.Range.rangeSize 0 (n : Int) 1 = n := by
    rw [rangeSize_one]; split <;> omega
  refine wpAny_pyIter_range (IsRange.new _ 0 n 1 _ _ _) (small_one (by omega) (by omega) (by omega) (by omega)) ?_
  rw [hsz]
  refine h₁ _ _ ⟨rfl, rfl, rfl⟩ ((ext_push _ _).trans (ext_push _ _)) ?_ (Heap.get?_push_size _ rfl)
  exact Heap.get?_none_of_le (by rw [Heap.size_push]; omega)

theorem intsAre_get : ∀ {vs : List Value} {xs : List Int}, IntsAre vs xs → ∀ {k : Nat}, k < xs.length → ∃ t, vs[k]? = some (.int (xs.getD k 0) t)
  | _, _, .nil, _, h => absurd h (Nat.not_lt_zero _)
  | _, _, .cons i t _, 0, _ => ⟨t, rfl⟩
  | _, _, .cons _ _ r, k + 1, h => by
    obtain ⟨t, e⟩ := intsAre_get r (k := k) (Nat.lt_of_succ_lt_succ h)
    exact ⟨t, by simpa using e⟩

/-- xs[k] of a list of ints -/
theorem item_il {value slice : Expr} {a : Addr} {xs : List Int} {k : Int} {u : Tok} {Q : Value → Shared → Prop} (hl : IsIL s.heap a xs) (h0 : 0 ≤ k) (h1 : k.toNat < xs.length) (hf : k < 2 ^ 63)
    (h : ∀ t, Q (.int (xs.getD k.toNat 0) t) s)
    (hs : subscripted slice false (.ref a) (.int k u) = operate [.ref a, .int k u] (getItem (.ref a) (.int k u)) := by with_unfolding_all rfl) :
    wpAny (model P w) A (subscriptTail value slice (.ref a) (.int k u)) Q E s := by
  obtain ⟨vs, hL, hi⟩ := hl
  obtain ⟨t, e⟩ := intsAre_get hi h1
  exact tail_any hL.typeIs slot_list_getitem.lookup (wpAny_getItem_list hL h0 hf (by simpa using e) (h t)) hs

theorem len_il {a : Addr} {xs : List Int} {Q : Value → Shared → Prop} (hl : IsIL s.heap a xs) (hf : xs.length < 2 ^ 60) (h : ∀ t s', Sm s s' → s'.heap = s.heap → Q (.int xs.length t) s') :
    wpAny (model P w) A (call (.builtin "len") [.ref a]) Q E s := by
  obtain ⟨vs, hL, hi⟩ := hl
  have e : vs.toArray.size = xs.length := by rw [List.size_toArray]; exact hi.length
  refine call_len_list hL (by rw [e]; omega) ?_
  rw [e]; exact h _ _ ⟨rfl, rfl, rfl⟩ rfl
end

theorem IsIL.keeps {h h' : Heap} {a xs} (x : IsIL h a xs) (k : Ext h h') : IsIL h' a xs :=
  let ⟨vs, ⟨o, ho, r⟩, i⟩ := x; ⟨vs, ⟨o, k _ _ ho, r⟩, i⟩

/-! ## _law_pull -/
def pt (ms ws : List Int) (i j : Nat) : Int := if ms.getD j 0 < ms.getD i 0 then ws.getD i 0 - ws.getD j 0 else 0
def pullF (ms ws : List Int) : Int := sumTo (fun i => sumTo (fun j => pt ms ws i j) ms.length) ms.length

theorem pull_ct {w : World} {A : Around} {E : Value → Shared → Prop} {s : Shared} {a b : Addr} {ms ws : List Int} {Q : Value → Shared → Prop} (G : GF s.heap) (hr : A.depth < recursionLimit) (hh : A.handled = none)
    (ha : IsIL s.heap a ms) (hb : IsIL s.heap b ws) (hl : ws.length = ms.length) (hz : ms.length < 2 ^ 60)
    (h : ∀ s' t, Sm s s' → Ext s.heap s'.heap → Q (.int (pullF ms ws) t) s') : wpAny (model P w) A (call (.ref 114) [.ref a, .ref b]) Q E s := by
  obtain ⟨pm, c, ho, hc⟩ := G.fns (14, 114) (by simp)
  refine wpAny_call (call_plain (binds := [("marks", .ref a), ("worths", .ref b)]) hr ho rfl G.nolimit hc rfl (locs rfl) ?_)
  intro h₁ F₁
  generalize hL : s.heap.objs.size = L at F₁ ⊢
  generalize hA' : Around.deeper A _ = A'
  have hh' : A'.handled = none := by rw [← hA']; exact hh
  have S₁ : Sm s { s with heap := h₁, toks := s.toks + 2 } := ⟨rfl, rfl, rfl⟩
  have F : Fx s.heap L { s with heap := h₁, toks := s.toks + 2 }.heap _ := Fx.of_fr F₁
  show wpAny _ _ _ _ _ { s with heap := h₁, toks := s.toks + 2 }
  generalize { s with heap := h₁, toks := s.toks + 2 } = s₁ at F S₁ ⊢
  clear F₁ ho
  refine wpAny_execs_cons (wpAny_Assign_Name (wpAny_Constant_int (sx F fun s₂ S₂ F₂ => ?_)))
  refine wpAny_execs_cons (wpAny_For (rangeIter (Call1 (bi (v := .builtin "len") (F₂.gf G) (by simp [bis]) (lx F₂ rfl ⟨trivial, len_il (ha.keeps F₂.keep) hz fun t s₃ S₃ e₃ => ⟨_, _, rfl, hz, ?_⟩⟩))) (F₂.gf G)))
  rw [e₃]
  intro it s₄ S₄ k₄ f₄ i₄
  have hitL : L ≠ it := ne_of_ns F₂.ns f₄
  have hitB : s.heap.get? it = none := none_of_ext F₂.keep f₄
  refine forWalk (Walks.range hh' it 0 1 ms.length) (fun i h => ∃ m, Fx s.heap L h m ∧ m "marks" = some (.ref a) ∧ m "worths" = some (.ref b) ∧ IntAt m "built" (sumTo (fun i => sumTo (fun j => pt ms ws i j) ms.length) i))
    ?_ ?_ (by simpa using i₄) ?_ ?_
  · rintro i h h' ⟨m, F, r⟩ k
    exact ⟨m, F.kp k (by simpa using hitL) (by simpa using hitB), r⟩
  · exact ⟨_, F₂.grow k₄, rfl, rfl, ⟨_, rfl⟩⟩
  · rintro i v s₅ hi ⟨t, rfl⟩ ⟨m, F, m1, m2, ⟨t', m3⟩⟩ hit S₅
    have hi0 : (0 + (i : Int) * 1) = i := by omega
    rw [hi0]
    refine lot_name (wpAny_assign_Name (sx F.rebase fun s₆ S₆ F₆ => ?_))
    have G₄ := (F.trans F₆).gf G
    have ha₄ := ha.keeps (F.trans F₆).keep
    refine wpAny_execs_cons (wpAny_For (rangeIter (Call1 (bi (v := .builtin "len") G₄ (by simp [bis]) (lx F₆ m1 ⟨trivial, len_il ha₄ hz fun t s₇ S₇ e₇ => ⟨_, _, rfl, hz, ?_⟩⟩))) G₄))
    rw [e₇]
    intro jt s₈ S₈ k₅ f₅ i₅
    have hjL : L ≠ jt := ne_of_ns F₆.ns f₅
    have hjB : (dropA s₅.heap L).get? jt = none := none_of_ext F₆.keep f₅
    refine forWalk (Walks.range hh' jt 0 1 ms.length) (fun j h' => ∃ m', Fx (dropA s₅.heap L) L h' m' ∧ m' "marks" = some (.ref a) ∧ m' "worths" = some (.ref b) ∧ IntAt m' "i" i ∧ IntAt m' "built" (sumTo (fun i => sumTo (fun j => pt ms ws i j) ms.length) i + sumTo (fun j => pt ms ws i j) j))
      ?_ ?_ (by simpa using i₅) ?_ ?_
    · rintro j h h' ⟨m, F, r⟩ k
      exact ⟨m, F.kp k (by simpa using hjL) (by simpa using hjB), r⟩
    · exact ⟨_, F₆.grow k₅, m1, m2, ⟨_, rfl⟩, ⟨t', by show m _ = _; simpa [sumTo] using m3⟩⟩
    · rintro j v s₉ hj ⟨u, rfl⟩ ⟨m', F₉, n1, n2, ⟨u', n3⟩, ⟨t'', n4⟩⟩ hjt S₉
      have hj0 : (0 + (j : Int) * 1) = j := by omega
      rw [hj0]
      refine lot_name (wpAny_assign_Name (sx F₉.rebase fun r₁ R₁ F₇ => ?_))
      have K₇ : Ext s.heap r₁.heap := (F.trans (F₉.trans F₇)).keep
      have i0 : (0 : Int) ≤ i := by omega
      have j0 : (0 : Int) ≤ j := by omega
      have i1 : (i : Int).toNat = i := by omega
      have j1 : (j : Int).toNat = j := by omega
      have iw : (i : Int).toNat < ws.length := by omega
      have jw : (j : Int).toNat < ws.length := by omega
      have im : (i : Int).toNat < ms.length := by omega
      have jm : (j : Int).toNat < ms.length := by omega
      have i9 : (i : Int) < 2 ^ 63 := by omega
      have j9 : (j : Int) < 2 ^ 63 := by omega
      refine wpAny_execs_cons (wpAny_If (wpAny_isTrue_Compare1 (Subscript_ (lx F₇ n1 (lx F₇ n3 (item_il (ha.keeps K₇) i0 im i9 fun t₁ => ?_))))))
      refine Subscript_ (lx F₇ n1 (lx F₇ rfl (item_il (ha.keeps K₇) j0 jm j9 fun t₂ => gt_int (wpAny_truthy_bool ?_))))
      rw [i1, j1]
      have hk : ∀ h', Ext (dropA s₉.heap L) h' → ∀ b ∈ [jt], ∀ o, s₉.heap.get? b = some o → h'.get? b = some o := fun h' k b hb o e => k b o (by
        have : b = jt := by simpa using hb
        subst this; rw [get_dropA_ne _ (Ne.symm hjL)]; exact e)
      by_cases hlt : ms.getD j 0 < ms.getD i 0
      · rw [if_pos (by simpa using hlt)]
        refine wpAny_execs_cons (wpAny_Assign_Name (wpAny_BinOp (wpAny_BinOp (lx F₇ n4 (Subscript_ (lx F₇ n2 (lx F₇ n3 (item_il (hb.keeps K₇) i0 iw i9 fun t₃ => ?_))))))))
        refine add_int (Subscript_ (lx F₇ n2 (lx F₇ rfl (item_il (hb.keeps K₇) j0 jw j9 fun t₄ => sub_int (sx F₇ fun r₂ R₂ F₈ => ?_)))))
        refine wpAny_execs_nil (wpAny_execs_nil ⟨(S₉.tr R₁).tr R₂, rfl, ⟨_, F₉.trans F₈, n1, n2, ⟨u', n3⟩, ?_⟩, hk _ F₈.keep⟩)
        refine ⟨_, (congrArg (fun z => some (Value.int z _)) ?_ : some _ = some _)⟩
        rw [i1, j1]
        simp only [sumTo, pt, if_pos hlt]
        omega
      · rw [if_neg (by simpa using hlt)]
        refine wpAny_execs_nil (wpAny_execs_nil ⟨S₉.tr R₁, rfl, ⟨_, F₉.trans F₇, n1, n2, ⟨u', n3⟩, ⟨t'', ?_⟩⟩, hk _ F₇.keep⟩)
        show m' _ = some _
        rw [n4]
        simp only [sumTo, pt, if_neg hlt]
        congr 2
        omega
    · rintro s₉ S₉ ⟨m', F₉, n1, n2, _, n4⟩
      refine wpAny_execs_nil ⟨(((S₅.tr S₆).tr S₇).tr S₈).tr S₉, rfl, ⟨_, F.trans F₉, n1, n2, n4⟩, fun b hb o e => F₉.keep b o ?_⟩
      have : b = it := by simpa using hb
      subst this; rw [get_dropA_ne _ (Ne.symm hitL)]; exact e
  · rintro s₅ S₅ ⟨m, F, m1, m2, ⟨t, m3⟩⟩
    exact wpAny_execs_cons (wpAny_Return_some (lx F m3 (h _ _ ((((S₁.tr S₂).tr S₃).tr S₄).tr S₅) F.keep)))

end Mine
end -- F3

section -- H1
namespace Mine.Hp
variable {α : Type} {lt : α → α → Bool} {n start : Nat}

structure Ordr (lt : α → α → Bool) : Prop where
  asym : ∀ a b, lt a b = true → lt b a = false
  tr : ∀ a b c, lt b a = false → lt c b = false → lt c a = false

/-- p lies in the tree under s -/
inductive Desc (s : Nat) : Nat → Prop
  | here : Desc s s
  | down {p : Nat} (h : s < p) (r : Desc s ((p - 1) / 2)) : Desc s p

theorem Desc.le {s p : Nat} (h : Desc s p) : s ≤ p := by cases h with | here => exact Nat.le_refl _ | down h _ => omega
theorem Desc.par {s p : Nat} (h : Desc s p) (hs : s < p) : Desc s ((p - 1) / 2) := by
  cases h with
  | here => omega
  | down _ r => exact r
theorem Desc.child {s p c : Nat} (h : Desc s p) (hc : c = 2 * p + 1 ∨ c = 2 * p + 2) : Desc s c := by
  have e : (c - 1) / 2 = p := by omega
  have := h.le
  exact .down (by omega) (e ▸ h)

def upd (f : Nat → α) (i : Nat) (a : α) : Nat → α := fun j => if j = i then a else f j

/-- every pair of parent and child from start on is in order -/
def HeapFrom (lt : α → α → Bool) (n start : Nat) (f : Nat → α) : Prop := ∀ c, 1 ≤ c → c < n → start ≤ (c - 1) / 2 → lt (f c) (f ((c - 1) / 2)) = false

structure SD (lt : α → α → Bool) (n start : Nat) (f : Nat → α) (pos : Nat) : Prop where
  desc : Desc start pos
  lt_n : pos < n
  h1 : ∀ c, 1 ≤ c → c < n → start ≤ (c - 1) / 2 → c ≠ pos → lt (f c) (f ((c - 1) / 2)) = false
  h2 : start < pos → ∀ c, 1 ≤ c → c < n → (c - 1) / 2 = pos → lt (f c) (f ((pos - 1) / 2)) = false

theorem SD.step (O : Ordr lt) {f : Nat → α} {pos : Nat} (x : SD lt n start f pos) (hs : start < pos) (hlt : lt (f pos) (f ((pos - 1) / 2)) = true) :
    SD lt n start (upd (upd f pos (f ((pos - 1) / 2))) ((pos - 1) / 2) (f pos)) ((pos - 1) / 2) := by
  have hp : (pos - 1) / 2 < pos := by omega
  have hd := x.desc.par hs
  have hle := hd.le
  have hn := x.lt_n
  refine ⟨hd, by omega, fun c c1 cn cs cp => ?_, fun hs' c c1 cn cp => ?_⟩
  · by_cases e1 : c = pos
    · subst e1
      have a1 : c ≠ (c - 1) / 2 := by omega
      simp only [upd, if_true, if_neg a1]
      exact O.asym _ _ hlt
    · by_cases e2 : (c - 1) / 2 = pos
      · have a1 : pos ≠ (pos - 1) / 2 := by omega
        simp only [upd, e2, if_true, if_neg e1, if_neg cp, if_neg a1]
        exact x.h2 hs c c1 cn e2
      · by_cases e3 : (c - 1) / 2 = (pos - 1) / 2
        · simp only [upd, e3, if_true, if_neg e1, if_neg cp]
          have a := x.h1 c c1 cn cs e1
          rw [e3] at a
          cases q : lt (f c) (f pos) with
          | false => rfl
          | true =>
            have b := O.asym _ _ hlt
            have := O.tr _ _ _ (O.asym _ _ q) b
            have d := O.tr (f ((pos - 1) / 2)) (f c) (f pos) a (O.asym _ _ q)
            rw [hlt] at d; cases d
        · simp only [upd, if_neg e1, if_neg cp, if_neg e2, if_neg e3]
          exact x.h1 c c1 cn cs e1
  · have g1 : ((pos - 1) / 2 - 1) / 2 ≠ (pos - 1) / 2 := by omega
    have g2 : ((pos - 1) / 2 - 1) / 2 ≠ pos := by omega
    have c2 : c ≠ (pos - 1) / 2 := by omega
    have hd' := hd.par hs'
    have base : lt (f ((pos - 1) / 2)) (f (((pos - 1) / 2 - 1) / 2)) = false := x.h1 _ (by omega) (by omega) hd'.le (by omega)
    simp only [upd, if_neg g1, if_neg g2, if_neg c2]
    by_cases e1 : c = pos
    · simp only [e1, if_true]; exact base
    · simp only [if_neg e1]
      have a := x.h1 c c1 cn (by omega) e1
      rw [cp] at a
      exact O.tr _ _ _ base a

theorem SD.done {f : Nat → α} {pos : Nat} (x : SD lt n start f pos) (hx : start < pos → lt (f pos) (f ((pos - 1) / 2)) = false) : HeapFrom lt n start f := by
  intro c c1 cn cs
  by_cases e : c = pos
  · subst e
    exact hx (by omega)
  · exact x.h1 c c1 cn cs e

structure SU (lt : α → α → Bool) (n start : Nat) (f : Nat → α) (pos : Nat) : Prop where
  desc : Desc start pos
  lt_n : pos < n
  u1 : ∀ c, 1 ≤ c → c < n → start ≤ (c - 1) / 2 → c ≠ pos → (c - 1) / 2 ≠ pos → lt (f c) (f ((c - 1) / 2)) = false
  u2 : start < pos → ∀ c, 1 ≤ c → c < n → (c - 1) / 2 = pos → lt (f c) (f ((pos - 1) / 2)) = false

theorem SU.init {f : Nat → α} (h : HeapFrom lt n (start + 1) f) (hn : start < n) : SU lt n start f start :=
  ⟨.here, hn, fun c c1 cn cs _ cp => h c c1 cn (by omega), fun h => absurd h (Nat.lt_irrefl _)⟩

theorem SU.step {f : Nat → α} {pos k : Nat} (x : SU lt n start f pos) (hk : k = 2 * pos + 1 ∨ k = 2 * pos + 2) (hkn : k < n)
    (hmin : ∀ c, 1 ≤ c → c < n → (c - 1) / 2 = pos → c ≠ k → lt (f c) (f k) = false) (v : α) :
    SU lt n start (upd (upd f pos (f k)) k v) k := by
  have kp : (k - 1) / 2 = pos := by omega
  have k1 : 1 ≤ k := by omega
  have pk : pos ≠ k := by omega
  refine ⟨x.desc.child hk, hkn, fun c c1 cn cs ck cpk => ?_, fun _ c c1 cn cp => ?_⟩
  · by_cases e1 : c = pos
    · have a : (c - 1) / 2 ≠ c := by omega
      rw [e1] at a ck cpk ⊢
      simp only [upd, if_neg ck, if_neg cpk, if_true, if_neg a]
      exact x.u2 (by have := x.desc.le; omega) k k1 hkn kp
    · by_cases e2 : (c - 1) / 2 = pos
      · simp only [upd, e2, if_neg ck, if_neg e1, if_true, if_neg pk]
        exact hmin c c1 cn e2 ck
      · simp only [upd, if_neg ck, if_neg cpk, if_neg e1, if_neg e2]
        exact x.u1 c c1 cn cs e1 e2
  · have a1 : c ≠ k := by omega
    have a2 : c ≠ pos := by omega
    simp only [upd, kp, if_neg a1, if_neg a2, if_true, if_neg pk]
    have := x.u1 c c1 cn (by have := x.desc.le; omega) a2 (by omega)
    rw [cp] at this
    exact this

theorem SU.done {f : Nat → α} {pos : Nat} (x : SU lt n start f pos) (hleaf : n ≤ 2 * pos + 1) : SD lt n start f pos :=
  ⟨x.desc, x.lt_n, fun c c1 cn cs cp => x.u1 c c1 cn cs cp (by omega), fun _ c c1 cn cp => by omega⟩

theorem HeapFrom.congr {f g : Nat → α} {s : Nat} (h : HeapFrom lt n s f) (e : ∀ i, i < n → f i = g i) : HeapFrom lt n s g := by
  intro c c1 cn cs
  rw [← e c cn, ← e _ (by omega)]
  exact h c c1 cn cs

/-- the top of a heap is least -/
theorem HeapFrom.top (O : Ordr lt) {f : Nat → α} (h : HeapFrom lt n 0 f) (irr : ∀ a, lt a a = false) : ∀ i, i < n → lt (f i) (f 0) = false := by
  intro i
  induction i using Nat.strongRecOn with
  | ind i ih =>
    intro hi
    by_cases e : i = 0
    · subst e; exact irr _
    · have a := ih ((i - 1) / 2) (by omega) (by omega)
      exact O.tr _ _ _ a (h i (by omega) hi (Nat.zero_le _))
end Mine.Hp
end -- H1

section -- F4
open PySem PySem.W PyProof.Rows PySem.Calls
set_option Elab.async false
set_option maxRecDepth 100000
set_option maxHeartbeats 2000000
namespace Mine
open Hp

structure Fl (B : Heap) (L a : Addr) (n : Nat) (h : Heap) (m : Str → Option Value) (vs : List Value) : Prop where
  f : Fx B L h m
  l : h.get? a = some (PySem.W.listOf vs.toArray n)
  off : B.get? a = none
  ne : a ≠ L

theorem Fl.grow {B h h' : Heap} {L a : Addr} {n m vs} (F : Fl B L a n h m vs) (k : Ext h h') : Fl B L a n h' m vs := ⟨F.f.grow k, k _ _ F.l, F.off, F.ne⟩

section
variable {w : World} {A : Around} {E : Value → Shared → Prop} {s : Shared} {env : Env} {B : Heap} {m : Str → Option Value} {a : Addr} {n : Nat} {vs : List Value}

theorem lx' {x : Str} {pos : Pos} {v : Value} {Q : Value → Shared → Prop} (F : Fl B env.locals a n s.heap m vs) (hv : m x = some v) (h : Q v s)
    (hk : env.scope.kind = .function := by rfl) (hl : env.kindOf x = some .local := by rfl)
    (hd : (x == ("__debug__" : Str)) = false := by decide) :
    wpAny (model P w) A (eval (.Name x pos) env) Q E s := lx F.f hv h hk hl hd

theorem sx' {x : Str} {v : Value} {Q : Unit → Shared → Prop} (F : Fl B env.locals a n s.heap m vs)
    (h : ∀ s', Sm s s' → Fl B env.locals a n s'.heap (fun y => if y = x then some v else m y) vs → Q () s')
    (hl : env.kindOf x = some .local := by rfl) (hp : (env.scope.kind == .class || (env.scope.kind == .module && env.locals != env.globals)) = false := by rfl) :
    wpAny (model P w) A (storeName env x v) Q E s :=
  wpAny_storeName_local hl F.f.ns (fun h' hn hs => h _ ⟨rfl, rfl, rfl⟩ ⟨⟨hn, fun b o e => (hs.2 b (by rintro rfl; rw [F.f.off] at e; cases e)).trans (F.f.keep b o e), F.f.off⟩, (hs.2 a F.ne).trans F.l, F.off, F.ne⟩) hp

theorem item_v {value slice : Expr} {k : Int} {u : Tok} {v : Value} {Q : Value → Shared → Prop} (ho : s.heap.get? a = some (PySem.W.listOf vs.toArray n)) (h0 : 0 ≤ k) (hf : k < 2 ^ 63) (hx : vs[k.toNat]? = some v)
    (h : Q v s)
    (hs : subscripted slice false (.ref a) (.int k u) = operate [.ref a, .int k u] (getItem (.ref a) (.int k u)) := by with_unfolding_all rfl) :
    wpAny (model P w) A (subscriptTail value slice (.ref a) (.int k u)) Q E s := by
  have hL : s.heap.IsList a vs.toArray := PySem.IsL.isList (n := n) ho
  exact tail_any hL.typeIs slot_list_getitem.lookup (wpAny_getItem_list hL h0 hf (by simpa using hx) h) hs

theorem set_v {k : Int} {u : Tok} {v : Value} {Q : Unit → Shared → Prop} {L : Addr} (F : Fl B L a n s.heap m vs) (h0 : 0 ≤ k) (hk : k.toNat < vs.length) (hf : k < 2 ^ 63)
    (h : ∀ s', Sm s s' → Fl B L a n s'.heap m (vs.set k.toNat v) → Q () s') :
    wpAny (model P w) A (setItem (.ref a) (.int k u) v) Q E s := by
  refine ki_setAt F.l h0 hf (by rw [List.size_toArray]; omega) (h _ ⟨rfl, rfl, rfl⟩ ⟨F.f.same (Heap.SameBut.update ..) F.off (Ne.symm F.ne), ?_, F.off, F.ne⟩)
  have e := Heap.get?_update_self (Obj.mapSeq (·.setIfInBounds k.toNat v)) F.l (by rfl)
  show (s.heap.update a _).get? a = _
  rw [e]
  simp only [PySem.W.listOf, Obj.mapSeq, Array.size_setIfInBounds, beq_self_eq_true, if_true]
  congr 3
  apply Array.toList_inj.mp
  simp
end

/-- what < tells of the values S -/
def CmpOk (w : World) (B : Heap) (lt : Value → Value → Bool) (S : Value → Prop) : Prop :=
  ∀ v u, S v → S u → ∀ (A : Around) (s : Shared) (Q : Value → Shared → Prop) (E : Value → Shared → Prop), A.units < 1000 → Ext B s.heap →
    (∀ s', Sm s s' → s'.heap = s.heap → Q (.bool (lt v u)) s') → wpAny (model P w) A (compareOp .Lt v u) Q E s

/-- the list as a function -/
abbrev fv (vs : List Value) : Nat → Value := fun i => vs.getD i .none

theorem fv_set {vs : List Value} {i : Nat} {v : Value} (hi : i < vs.length) : fv (vs.set i v) = upd (fv vs) i v := by
  funext j
  simp only [fv, upd, List.getD_eq_getElem?_getD, List.getElem?_set]
  by_cases h : i = j
  · subst h; simp [hi]
  · have h' : j ≠ i := fun e => h e.symm
    simp [h, h']
theorem fv_get {vs : List Value} {i : Nat} (hi : i < vs.length) : vs[i]? = some (fv vs i) := by simp [fv, List.getD_eq_getElem?_getD, hi]

theorem perm_swap {vs xs : List Value} {p q : Nat} {v : Value} (hp : p < xs.length) (hq : q < xs.length) (hne : p ≠ q) (h : (xs.set p v).Perm vs) : ((xs.set p (fv xs q)).set q v).Perm vs := by
  refine List.Perm.trans ?_ h
  have hp' : p < (xs.set p v).length := by simpa using hp
  have hq' : q < (xs.set p v).length := by simpa using hq
  have e := List.set_set_perm (as := xs.set p v) hp' hq'
  have e1 : (xs.set p v)[q] = fv xs q := by simp [fv, hne, List.getD_eq_getElem?_getD, hq]
  have e2 : (xs.set p v)[p] = v := by simp
  rw [e1, e2, List.set_set] at e
  exact e

theorem GF.fn {h : Heap} (G : GF h) {i f : Nat} (hm : (i, f) ∈ [(3, 62), (5, 69), (6, 76), (7, 83), (8, 90), (10, 97), (12, 102), (13, 107), (14, 114)]) : IsFn h i f := G.fns (i, f) hm

theorem siftdown_ct {w : World} {A : Around} {E : Value → Shared → Prop} {s : Shared} {B : Heap} {a : Addr} {n start pos : Nat} {t u : Tok} {vs : List Value} {lt : Value → Value → Bool} {S : Value → Prop} {Q : Value → Shared → Prop}
    (O : Ordr lt) (G : GF B) (kB : Ext B s.heap) (hBa : B.get? a = none) (C : CmpOk w B lt S) (hr : A.depth < recursionLimit) (hu : A.units < 900)
    (ho : s.heap.get? a = some (PySem.W.listOf vs.toArray n)) (hS : ∀ v ∈ vs, S v) (hz : vs.length < 2 ^ 60) (hsd : SD lt vs.length start (fv vs) pos)
    (h : ∀ s' vs', Sm s s' → KpB [a] s.heap s'.heap → s'.heap.get? a = some (PySem.W.listOf vs'.toArray n) → vs'.Perm vs → HeapFrom lt vs.length start (fv vs') → Q .none s') :
    wpAny (model P w) A (call (.ref 83) [.ref a, .int start t, .int pos u]) Q E s := by
  obtain ⟨pm, c, ho', hc⟩ := (G.keeps kB).fn (i := 7) (f := 83) (by simp)
  refine wpAny_call (call_plain (binds := [("heap", .ref a), ("startpos", .int start t), ("pos", .int pos u)]) hr ho' rfl (G.keeps kB).nolimit hc rfl (locs rfl) ?_)
  intro h₁ F₁
  have haL : a ≠ s.heap.objs.size := Nat.ne_of_lt (Heap.lt_size ho)
  have Fb : Fl (dropA s.heap a) s.heap.objs.size a n h₁ _ vs := ⟨(Fx.of_fr F₁).sub fun _ _ e => (get_dropA e).2, F₁.keep _ _ ho, get_dropA_self _ _, haL⟩
  have kD : Ext B (dropA s.heap a) := fun b o e => by rw [get_dropA_ne _ (by rintro rfl; rw [hBa] at e; cases e)]; exact kB _ _ e
  generalize hL : s.heap.objs.size = L at Fb F₁ ⊢
  generalize hA' : Around.deeper A _ = A'
  have hu' : A'.units < 1000 := by rw [← hA']; show A.units + 3 < 1000; omega
  have S₁ : Sm s { s with heap := h₁, toks := s.toks + 3 } := ⟨rfl, rfl, rfl⟩
  replace Fb : Fl (dropA s.heap a) L a n { s with heap := h₁, toks := s.toks + 3 }.heap _ vs := Fb
  show wpAny _ _ _ _ _ { s with heap := h₁, toks := s.toks + 3 }
  generalize { s with heap := h₁, toks := s.toks + 3 } = s₁ at Fb S₁ ⊢
  clear F₁ ho' hc
  have hpn := hsd.lt_n
  refine wpAny_execs_cons (wpAny_Assign_Name (Subscript_ (lx' Fb rfl (lx' Fb rfl (item_v Fb.l (by omega) (by omega) (fv_get (by omega)) (sx' Fb fun s₂ S₂ F₂ => ?_))))))
  refine wpAny_execs_cons (wpAny_While (codeAny_whileLoop (fun k s' => ∃ m xs, Sm s s' ∧ Fl (dropA s.heap a) L a n s'.heap m xs ∧ m "heap" = some (.ref a) ∧ IntAt m "startpos" start ∧ IntAt m "pos" k ∧ m "newitem" = some (fv vs pos) ∧
    xs.length = vs.length ∧ (xs.set k (fv vs pos)).Perm vs ∧ SD lt vs.length start (fv (xs.set k (fv vs pos))) k) ?_ pos ?_))
  · rintro k s₃ ⟨m, xs, S₃, F, m1, ⟨t₁, m2⟩, ⟨t₂, m3⟩, m4, hlen, hperm, sd⟩
    have hkn := sd.lt_n
    refine wpAny_isTrue_Compare1 (lx' F m3 (lx' F m2 (gt_int (wpAny_truthy_bool ?_))))
    have fin : ∀ s' m', Sm s s' → Fl (dropA s.heap a) L a n s'.heap m' xs → m' "heap" = some (.ref a) → IntAt m' "pos" k → m' "newitem" = some (fv vs pos) → HeapFrom lt vs.length start (fv (xs.set k (fv vs pos))) →
        wpAny (model P w) A' (execs (bdy 7 |>.drop 2) (envOf (nm 7) (scp 7) L 83 (.ref c))) (fun f s'' => (match (Except.ok (.ret (match f with | .ret v => v | _ => .none)) : Result) with | .ok (.ret v) => Q v s'' | .ok _ => False | .error e => E e s''))
        (fun e s' => wpAny (model P w) A' (leaving (envOf (nm 7) (scp 7) L 83 (.ref c)) e) (fun _ s'' => E e s'') (fun e' s'' => E e' s'') s') s' := by
      rintro s' m' S' F' n1 ⟨t₃, n2⟩ n3 hh
      refine wpAny_execs_cons (wpAny_Assign_Subscript (lx' F' n3 (lx' F' n1 (lx' F' n2 (set_v F' (by omega) (by omega) (by omega) fun s'' S'' F'' => ?_)))))
      exact wpAny_execs_nil (h _ _ (S'.tr S'') (fun b o hb e => F''.f.keep b o (by rw [get_dropA_ne _ (by simpa using hb)]; exact e)) F''.l hperm hh)
    by_cases hgt : start < k
    · rw [if_pos (by simpa using hgt)]
      refine wpAny_execs_cons (wpAny_Assign_Name (wpAny_BinOp (wpAny_BinOp (lx' F m3 (wpAny_Constant_int (sub_int (wpAny_Constant_int (rshift_int (by decide) (sx' F fun s₄ S₄ F₄ => ?_)))))))))
      have e2 : ((k : Int) - 1).fdiv (2 ^ (1 : Int).toNat) = (((k - 1) / 2 : Nat) : Int) := by
        rw [Int.fdiv_eq_ediv_of_nonneg _ (by decide)]
        show ((k : Int) - 1) / 2 = _
        omega
      rw [e2] at F₄
      refine wpAny_execs_cons (wpAny_Assign_Name (Subscript_ (lx' F₄ m1 (lx' F₄ rfl (item_v F₄.l (by omega) (by omega) (fv_get (by omega)) (sx' F₄ fun s₅ S₅ F₅ => ?_))))))
      have e3 : (((k - 1) / 2 : Nat) : Int).toNat = (k - 1) / 2 := by omega
      rw [e3] at F₅
      have hkk : k < xs.length := by omega
      have hpk : (k - 1) / 2 < xs.length := by omega
      have hne : k ≠ (k - 1) / 2 := by omega
      have memx : ∀ j, j < xs.length → j ≠ k → S (fv xs j) := fun j hj hjk => by
        refine hS _ (hperm.subset ?_)
        have : fv xs j = fv (xs.set k (fv vs pos)) j := by rw [fv_set hkk]; simp [upd, hjk]
        rw [this]
        have hj' : j < (xs.set k (fv vs pos)).length := by simpa using hj
        exact List.mem_of_getElem? (fv_get hj')
      have Sn : S (fv vs pos) := hS _ (List.mem_of_getElem? (fv_get hpn))
      refine wpAny_execs_cons (wpAny_If (wpAny_isTrue_Compare1 (lx' F₅ m4 (lx' F₅ rfl (C _ _ Sn (memx _ hpk (Ne.symm hne)) _ _ _ _ hu' (kD.trans F₅.f.keep) fun s₆ S₆ e₆ => wpAny_truthy_bool ?_)))))
      rw [← e₆] at F₅
      have k1 : fv (xs.set k (fv vs pos)) k = fv vs pos := by rw [fv_set hkk]; simp [upd]
      have k2 : fv (xs.set k (fv vs pos)) ((k - 1) / 2) = fv xs ((k - 1) / 2) := by rw [fv_set hkk]; simp [upd, Ne.symm hne]
      cases hlt : lt (fv vs pos) (fv xs ((k - 1) / 2)) with
      | true =>
        rw [if_pos rfl]
        refine wpAny_execs_cons (wpAny_Assign_Subscript (lx' F₅ rfl (lx' F₅ m1 (lx' F₅ m3 (set_v F₅ (by omega) (by omega) (by omega) fun s₇ S₇ F₇ => ?_)))))
        refine wpAny_execs_cons (wpAny_Assign_Name (lx' F₇ rfl (sx' F₇ fun s₈ S₈ F₈ => ?_)))
        refine wpAny_execs_cons (wpAny_Continue ⟨(k - 1) / 2, by omega, _, _, (((((S₃.tr S₄).tr S₅).tr S₆).tr S₇).tr S₈), F₈, m1, ⟨_, m2⟩, ⟨_, rfl⟩, m4, ?_, ?_, ?_⟩)
        · simpa using hlen
        · have ek : (k : Int).toNat = k := by omega
          rw [ek]
          exact perm_swap hkk hpk hne hperm
        · have ek : (k : Int).toNat = k := by omega
          rw [ek]
          have st := sd.step O hgt (by rw [k1, k2]; exact hlt)
          rw [k1, k2, fv_set hkk] at st
          rw [fv_set (by simpa using hpk), fv_set hkk]
          have : upd (upd (upd (fv xs) k (fv vs pos)) k (fv xs ((k - 1) / 2))) ((k - 1) / 2) (fv vs pos) = upd (upd (fv xs) k (fv xs ((k - 1) / 2))) ((k - 1) / 2) (fv vs pos) := by
            funext j; simp only [upd]; (repeat' split) <;> rfl
          rw [this] at st
          exact st
      | false =>
        rw [if_neg (by simp)]
        refine wpAny_execs_nil (wpAny_execs_cons (wpAny_Break ?_))
        exact fin _ _ (((S₃.tr S₄).tr S₅).tr S₆) F₅ m1 ⟨_, m3⟩ m4 (sd.done fun _ => by rw [k1, k2]; exact hlt)
    · rw [if_neg (by simpa using hgt)]
      exact wpAny_execs_nil (fin _ _ S₃ F m1 ⟨_, m3⟩ m4 (sd.done fun h => absurd h hgt))
  · have e0 : vs.set pos (fv vs pos) = vs := by
      refine List.ext_getElem? fun j => ?_
      rw [List.getElem?_set]
      split
      · rename_i q; subst q; exact (fv_get hpn).symm
      · rename_i q; first | rfl | (split <;> first | rfl | omega)
    refine ⟨_, vs, S₁.tr S₂, F₂, rfl, ⟨_, rfl⟩, ⟨_, rfl⟩, rfl, rfl, by rw [e0], by rw [e0]; exact hsd⟩
end Mine
end -- F4

section -- F5
open PySem PySem.W PyProof.Rows PySem.Calls
set_option Elab.async false
set_option maxRecDepth 100000
set_option maxHeartbeats 2000000
namespace Mine
open Hp

theorem len_v {w : World} {A : Around} {E : Value → Shared → Prop} {s : Shared} {a : Addr} {n : Nat} {vs : List Value} {Q : Value → Shared → Prop} (ho : s.heap.get? a = some (PySem.W.listOf vs.toArray n)) (hf : vs.length < 2 ^ 60)
    (h : ∀ t s', Sm s s' → s'.heap = s.heap → Q (.int vs.length t) s') : wpAny (model P w) A (call (.builtin "len") [.ref a]) Q E s := by
  have hL : s.heap.IsList a vs.toArray := PySem.IsL.isList (n := n) ho
  have e : vs.toArray.size = vs.length := List.size_toArray
  refine call_len_list hL (by rw [e]; omega) ?_
  rw [e]; exact h _ _ ⟨rfl, rfl, rfl⟩ rfl

def whileBody : Option Stmt → List Stmt
  | some (.While _ b _ _) => b
  | _ => []

theorem upd_upd {α : Type} (f : Nat → α) (i : Nat) (a b : α) : upd (upd f i a) i b = upd f i b := by
  funext j; simp only [upd]; (repeat' split) <;> rfl

theorem siftup_ct {w : World} {A : Around} {E : Value → Shared → Prop} {s : Shared} {B : Heap} {a : Addr} {n start : Nat} {t : Tok} {vs : List Value} {lt : Value → Value → Bool} {S : Value → Prop} {Q : Value → Shared → Prop}
    (O : Ordr lt) (G : GF B) (kB : Ext B s.heap) (hBa : B.get? a = none) (C : CmpOk w B lt S) (hr : A.depth + 1 < recursionLimit) (hu : A.units < 800)
    (ho : s.heap.get? a = some (PySem.W.listOf vs.toArray n)) (hS : ∀ v ∈ vs, S v) (hz : vs.length < 2 ^ 60) (hn : start < vs.length) (hh : HeapFrom lt vs.length (start + 1) (fv vs))
    (h : ∀ s' vs', Sm s s' → KpB [a] s.heap s'.heap → s'.heap.get? a = some (PySem.W.listOf vs'.toArray n) → vs'.Perm vs → HeapFrom lt vs.length start (fv vs') → Q .none s') :
    wpAny (model P w) A (call (.ref 90) [.ref a, .int start t]) Q E s := by
  obtain ⟨pm, c, ho', hc⟩ := (G.keeps kB).fn (i := 8) (f := 90) (by simp)
  refine wpAny_call (call_plain (binds := [("heap", .ref a), ("pos", .int start t)]) (by omega) ho' rfl (G.keeps kB).nolimit hc rfl (locs rfl) ?_)
  intro h₁ F₁
  have haL : a ≠ s.heap.objs.size := Nat.ne_of_lt (Heap.lt_size ho)
  have Fb : Fl (dropA s.heap a) s.heap.objs.size a n h₁ _ vs := ⟨(Fx.of_fr F₁).sub fun _ _ e => (get_dropA e).2, F₁.keep _ _ ho, get_dropA_self _ _, haL⟩
  have kD : Ext B (dropA s.heap a) := fun b o e => by rw [get_dropA_ne _ (by rintro rfl; rw [hBa] at e; cases e)]; exact kB _ _ e
  generalize hL : s.heap.objs.size = L at Fb F₁ ⊢
  generalize hA' : Around.deeper A _ = A'
  have hu' : A'.units < 900 := by rw [← hA']; show A.units + 3 < 900; omega
  have hr' : A'.depth < recursionLimit := by rw [← hA']; exact hr
  have S₁ : Sm s { s with heap := h₁, toks := s.toks + 2 } := ⟨rfl, rfl, rfl⟩
  replace Fb : Fl (dropA s.heap a) L a n { s with heap := h₁, toks := s.toks + 2 }.heap _ vs := Fb
  show wpAny _ _ _ _ _ { s with heap := h₁, toks := s.toks + 2 }
  generalize { s with heap := h₁, toks := s.toks + 2 } = s₁ at Fb S₁ ⊢
  clear F₁ ho' hc
  refine wpAny_execs_cons (wpAny_Assign_Name (Call1 (bi (v := .builtin "len") (G.keeps (kD.trans Fb.f.keep)) (by simp [bis]) (lx' Fb rfl ⟨trivial, len_v Fb.l hz fun t₁ r₁ R₁ e₁ => ?_⟩))))
  rw [← e₁] at Fb
  refine sx' Fb fun s₂ S₂ F₂ => ?_
  refine wpAny_execs_cons (wpAny_Assign_Name (lx' F₂ rfl (sx' F₂ fun s₃ S₃ F₃ => ?_)))
  refine wpAny_execs_cons (wpAny_Assign_Name (Subscript_ (lx' F₃ rfl (lx' F₃ rfl (item_v F₃.l (by omega) (by omega) (fv_get (by omega)) (sx' F₃ fun s₄ S₄ F₄ => ?_))))))
  refine wpAny_execs_cons (wpAny_Assign_Name (wpAny_BinOp (wpAny_BinOp (wpAny_Constant_int (lx' F₄ rfl (mul_int (wpAny_Constant_int (add_int (sx' F₄ fun s₅ S₅ F₅ => ?_)))))))))
  have es : (start : Int).toNat = start := by omega
  rw [es] at F₅
  have e0 : vs.set start (fv vs start) = vs := by
    refine List.ext_getElem? fun j => ?_
    rw [List.getElem?_set]
    split
    · rename_i q; subst q; exact (fv_get hn).symm
    · rename_i q; first | rfl | (split <;> first | rfl | omega)
  refine wpAny_execs_cons (wpAny_While (codeAny_whileLoop (fun k s' => ∃ m xs p, k = vs.length - p ∧ Sm s s' ∧ Fl (dropA s.heap a) L a n s'.heap m xs ∧ m "heap" = some (.ref a) ∧ IntAt m "startpos" start ∧ IntAt m "endpos" vs.length ∧ IntAt m "pos" p ∧ IntAt m "childpos" (2 * p + 1) ∧ m "newitem" = some (fv vs start) ∧
    xs.length = vs.length ∧ (xs.set p (fv vs start)).Perm vs ∧ SU lt vs.length start (fv (xs.set p (fv vs start))) p) ?_ (vs.length - start) ?_))
  · rintro k s₆ ⟨m, xs, p, rfl, S₆, F, m1, ⟨t₂, m2⟩, ⟨t₃, m3⟩, ⟨t₄, m4⟩, ⟨t₅, m5⟩, m6, hlen, hperm, su⟩
    have hpn := su.lt_n
    have hpx : p < xs.length := by omega
    refine wpAny_isTrue_Compare1 (lx' F m5 (lx' F m3 (lt_int (wpAny_truthy_bool ?_))))
    by_cases hlt : (2 * p + 1 : Int) < vs.length
    · rw [if_pos (by simpa using hlt)]
      have memx : ∀ j, j < xs.length → j ≠ p → S (fv xs j) := fun j hj hjk => by
        refine hS _ (hperm.subset ?_)
        have : fv xs j = fv (xs.set p (fv vs start)) j := by rw [fv_set hpx]; simp [upd, hjk]
        rw [this]
        have hj' : j < (xs.set p (fv vs start)).length := by simpa using hj
        exact List.mem_of_getElem? (fv_get hj')
      have fx : ∀ j, j ≠ p → fv (xs.set p (fv vs start)) j = fv xs j := fun j hj => by rw [fv_set hpx]; simp [upd, hj]
      have tail : ∀ (q : Nat) s' m', Sm s s' → Fl (dropA s.heap a) L a n s'.heap m' xs → m' "heap" = some (.ref a) → IntAt m' "startpos" start → IntAt m' "endpos" vs.length → IntAt m' "pos" p → IntAt m' "childpos" q → m' "newitem" = some (fv vs start) →
          (q = 2 * p + 1 ∨ q = 2 * p + 2) → q < vs.length → (∀ c, 1 ≤ c → c < vs.length → (c - 1) / 2 = p → c ≠ q → lt (fv xs c) (fv xs q) = false) →
          ∀ (E' : Value → Shared → Prop), wpAny (model P w) A' (execs ((whileBody (bdy 8)[4]?).drop 2) (envOf (nm 8) (scp 8) L 90 (.ref c))) (fun f s₃ => match f with
            | .next | .cont => ∃ k', k' < vs.length - p ∧ (∃ m xs p, k' = vs.length - p ∧ Sm s s₃ ∧ Fl (dropA s.heap a) L a n s₃.heap m xs ∧ m "heap" = some (.ref a) ∧ IntAt m "startpos" start ∧ IntAt m "endpos" vs.length ∧ IntAt m "pos" p ∧ IntAt m "childpos" (2 * p + 1) ∧ m "newitem" = some (fv vs start) ∧
    xs.length = vs.length ∧ (xs.set p (fv vs start)).Perm vs ∧ SU lt vs.length start (fv (xs.set p (fv vs start))) p)
            | _ => False) E' s' := by
        rintro q s' m' S' F' n1 ⟨u₁, n2⟩ ⟨u₂, n3⟩ ⟨u₃, n4⟩ ⟨u₄, n5⟩ n6 hq hqn hmin E'
        have hqx : q < xs.length := by omega
        have hqp : q ≠ p := by omega
        refine wpAny_execs_cons (wpAny_Assign_Subscript (Subscript_ (lx' F' n1 (lx' F' n5 (item_v F'.l (by omega) (by omega) (fv_get (by omega)) (lx' F' n1 (lx' F' n4 (set_v F' (by omega) (by omega) (by omega) fun r₂ R₂ F₂ => ?_))))))))
        refine wpAny_execs_cons (wpAny_Assign_Name (lx' F₂ n5 (sx' F₂ fun r₃ R₃ F₃ => ?_)))
        refine wpAny_execs_cons (wpAny_Assign_Name (wpAny_BinOp (wpAny_BinOp (wpAny_Constant_int (lx' F₃ rfl (mul_int (wpAny_Constant_int (add_int (sx' F₃ fun r₄ R₄ F₄ => ?_)))))))))
        have eq' : (q : Int).toNat = q := by omega
        have ep' : (p : Int).toNat = p := by omega
        rw [eq', ep'] at F₄
        refine wpAny_execs_nil ⟨vs.length - q, by omega, _, _, q, rfl, ((S'.tr R₂).tr R₃).tr R₄, F₄, n1, ⟨_, n2⟩, ⟨_, n3⟩, ⟨_, rfl⟩, ⟨_, rfl⟩, n6, by simpa using hlen, ?_, ?_⟩
        · exact perm_swap hpx hqx (Ne.symm hqp) hperm
        · have st := su.step hq hqn (fun c c1 cn cp cq => by
            rw [fx c (by omega), fx q hqp]; exact hmin c c1 cn cp cq) (fv vs start)
          rw [fx q hqp, fv_set hpx, upd_upd] at st
          rw [fv_set (by simpa using hqx), fv_set hpx]
          exact st
      have post : ∀ (f : Flow) (s₃ : Shared), (match f with
            | .next | .cont => ∃ k', k' < vs.length - p ∧ (∃ m xs p, k' = vs.length - p ∧ Sm s s₃ ∧ Fl (dropA s.heap a) L a n s₃.heap m xs ∧ m "heap" = some (.ref a) ∧ IntAt m "startpos" start ∧ IntAt m "endpos" vs.length ∧ IntAt m "pos" p ∧ IntAt m "childpos" (2 * p + 1) ∧ m "newitem" = some (fv vs start) ∧
    xs.length = vs.length ∧ (xs.set p (fv vs start)).Perm vs ∧ SU lt vs.length start (fv (xs.set p (fv vs start))) p)
            | _ => False) → f = .next ∨ f = .cont := fun f s₃ x => by cases f <;> first | exact .inl rfl | exact .inr rfl | exact x.elim
      refine wpAny_execs_cons (wpAny_Assign_Name (wpAny_BinOp (lx' F m5 (wpAny_Constant_int (add_int (sx' F fun r₁ R₁ F₁ => ?_))))))
      refine wpAny_execs_cons (wpAny_If (wpAny_isTrue_BoolOp (wpAny_allTrue_And_cons (wpAny_isTrue_Compare1 (lx' F₁ rfl (lx' F₁ m3 (lt_int (wpAny_truthy_bool ?_))))))))
      by_cases hr2 : (2 * p + 1 + 1 : Int) < vs.length
      · rw [if_pos (by simpa using hr2)]
        have ic : (2 * (p : Int) + 1).toNat = 2 * p + 1 := by omega
        have ir : (2 * (p : Int) + 1 + 1).toNat = 2 * p + 2 := by omega
        refine wpAny_allTrue_And_cons (wpAny_isTrue_Not (wpAny_isTrue_Compare1 (Subscript_ (lx' F₁ m1 (lx' F₁ m5 (item_v F₁.l (by omega) (by omega) (by rw [ic]; exact fv_get (by omega)) ?_))))))
        refine Subscript_ (lx' F₁ m1 (lx' F₁ rfl (item_v F₁.l (by omega) (by omega) (by rw [ir]; exact fv_get (by omega)) ?_)))
        refine C _ _ (memx _ (by omega) (by omega)) (memx _ (by omega) (by omega)) _ _ _ _ (by omega) (kD.trans F₁.f.keep) fun r₂ R₂ e₂ => wpAny_truthy_bool ?_
        rw [← e₂] at F₁
        cases hc' : lt (fv xs (2 * p + 1)) (fv xs (2 * p + 2)) with
        | true =>
          simp only [Bool.not_true, Bool.false_eq_true, if_false]
          refine wpAny_execs_nil ?_
          refine wpAny_mono (tail (2 * p + 1) r₂ _ ((S₆.tr R₁).tr R₂) F₁ m1 ⟨_, m2⟩ ⟨_, m3⟩ ⟨_, m4⟩ ⟨_, by exact_mod_cast m5⟩ m6 (.inl rfl) (by omega) ?_ _) (fun f s₃ x => ?_) fun _ _ x => x
          · intro c c1 cn cp cq
            have : c = 2 * p + 2 := by omega
            subst this; exact O.asym _ _ hc'
          · rcases post f s₃ x with rfl | rfl <;> exact x
        | false =>
          simp only [Bool.not_false, if_true]
          refine wpAny_allTrue_And_nil ?_
          simp only [if_true]
          refine wpAny_execs_cons (wpAny_Assign_Name (lx' F₁ rfl (sx' F₁ fun r₃ R₃ F₃ => wpAny_execs_nil ?_)))
          refine wpAny_mono (tail (2 * p + 2) r₃ _ (((S₆.tr R₁).tr R₂).tr R₃) F₃ m1 ⟨_, m2⟩ ⟨_, m3⟩ ⟨_, m4⟩ ⟨_, rfl⟩ m6 (.inr rfl) (by omega) ?_ _) (fun f s₃ x => ?_) fun _ _ x => x
          · intro c c1 cn cp cq
            have : c = 2 * p + 1 := by omega
            subst this; exact hc'
          · rcases post f s₃ x with rfl | rfl <;> exact x
      · rw [if_neg (by simpa using hr2)]
        simp only [Bool.false_eq_true, if_false]
        refine wpAny_execs_nil ?_
        refine wpAny_mono (tail (2 * p + 1) r₁ _ (S₆.tr R₁) F₁ m1 ⟨_, m2⟩ ⟨_, m3⟩ ⟨_, m4⟩ ⟨_, by exact_mod_cast m5⟩ m6 (.inl rfl) (by omega) ?_ _) (fun f s₃ x => ?_) fun _ _ x => x
        · intro c c1 cn cp cq
          omega
        · rcases post f s₃ x with rfl | rfl <;> exact x
    · rw [if_neg (by simpa using hlt)]
      refine wpAny_execs_nil ?_
      refine wpAny_execs_cons (wpAny_Assign_Subscript (lx' F m6 (lx' F m1 (lx' F m4 (set_v F (by omega) (by omega) (by omega) fun s₇ S₇ F₇ => ?_)))))
      have ep' : (p : Int).toNat = p := by omega
      rw [ep'] at F₇
      have kA : Ext B s₇.heap := kD.trans F₇.f.keep
      refine wpAny_execs_cons (wpAny_Expr (Call3 (gl (v := .ref 83) (G.keeps kA) (by simp [globs]) (lx' F₇ m1 (lx' F₇ m2 (lx' F₇ m4 ⟨callee_fn ((G.keeps kA).fn (i := 7) (by simp)), ?_⟩))))))
      refine siftdown_ct O G kA hBa C hr' hu' F₇.l (fun v hv => hS v (hperm.subset hv)) (by simpa using (show xs.length < 2 ^ 60 by omega)) ?_ fun s₈ vs' S₈ K₈ l₈ p₈ h₈ => ?_
      · have := su.done (by omega)
        have e : (xs.set p (fv vs start)).length = vs.length := by simpa using hlen
        rw [e]; exact this
      · have e : (xs.set p (fv vs start)).length = vs.length := by simpa using hlen
        rw [e] at h₈
        refine wpAny_execs_nil (h _ _ ((S₆.tr S₇).tr S₈) (fun b o hb q => K₈ b o hb (F₇.f.keep b o (by rw [get_dropA_ne _ (by simpa using hb)]; exact q))) l₈ (p₈.trans hperm) h₈)
  · exact ⟨_, vs, start, rfl, ((((S₁.tr R₁).tr S₂).tr S₃).tr S₄).tr S₅, F₅, rfl, ⟨_, rfl⟩, ⟨_, rfl⟩, ⟨_, rfl⟩, ⟨_, rfl⟩, rfl, rfl, by rw [e0], by rw [e0]; exact SU.init hh hn⟩
end Mine
end -- F5

section -- F6
open PySem PySem.W PyProof.Rows PySem.Calls
set_option Elab.async false
set_option maxRecDepth 100000
set_option maxHeartbeats 2000000
namespace Mine
open Hp

section
variable {w : World} {A : Around} {E : Value → Shared → Prop} {s : Shared}

theorem meets_range_reversed (r : Addr) (n : Nat) (t u v : Tok) (hn : n < 2 ^ 60) :
    Meets (Builtin.«range.__reversed__» ⟨[.ref r], []⟩) (fun _ R s => s.heap.get? r = some { cls := .type "range", dict := none, data := .fields #[.int 0 t, .int n u, .int 1 v], slots := #[] } ∧
      R (.ok (.ret (Value.ref s.heap.objs.size))) { s with heap := s.heap.push { cls := .type "range_iterator", data := .fields #[rawInt ((n : Int) - 1), rawInt n, rawInt (-1)] } }) :=
  .of_wp fun prog w A R s h => by
    obtain ⟨hp, g, d, tk, os⟩ := s
    obtain ⟨hl, h⟩ := h
    have n0 : (0 : Int) ≤ (n : Int) := by omega
    have n1 : (n : Int) < 2 ^ 60 := by omega
    generalize (n : Int) = n at hl h n0 n1
    have hsz : Builtin.Range.rangeSize 0 n 1 = n := by rw [rangeSize_one]; split <;> omega
    have e1 : (0 : Int) + (n - 1) * 1 = n - 1 := by omega
    have f0 : Builtin.Range.rangeFitsLong 0 = true := by decide
    have f1 : Builtin.Range.rangeFitsLong 1 = true := by decide
    have f2 : Builtin.Range.rangeFitsLong (-1) = true := by decide
    have f3 : Builtin.Range.rangeFitsLong (0 - 1) = true := by decide
    have fn : Builtin.Range.rangeFitsLong n = true := by
      unfold Builtin.Range.rangeFitsLong
      simp only [Bool.and_eq_true, decide_eq_true_eq]
      constructor <;> omega
    unfold Builtin.«range.__reversed__»
    refine wpAny_bind (wpAny_of_eq (a := Value.ref r) rfl ?_)
    refine wpAny_bind ?_
    unfold Builtin.Range.rangeFields
    refine wpAny_bind (wpAny_field hl rfl (x := .int 0 t) rfl (wpAny_bind (wpAny_of_eq (a := some 0) rfl ?_)))
    refine wpAny_bind (wpAny_field hl rfl (x := .int n u) rfl (wpAny_bind (wpAny_of_eq (a := some n) rfl ?_)))
    refine wpAny_bind (wpAny_field hl rfl (x := .int 1 v) rfl (wpAny_bind (wpAny_of_eq (a := some 1) rfl (wpAny_pure ?_))))
    dsimp only
    rw [hsz, f0, f1, f2, f3, fn, e1]
    simp only [Bool.and_self, Bool.not_true, Bool.false_eq_true, if_false, if_true]
    refine wpAny_bind (wpAny_newObj_type (wpAny_pure ⟨_, rfl, h⟩))

theorem code_reversed_range {r : Addr} {n : Nat} {t u v : Tok} {Q₁ : Value → Shared → Prop} (hn : n < 2 ^ 60) (hr : IsRange s.heap r 0 n 1 t u v)
    (h : Q₁ (.ref s.heap.objs.size) { s with heap := s.heap.push { cls := .type "range_iterator", data := .fields #[rawInt ((n : Int) - 1), rawInt n, rawInt (-1)] } }) :
    codeAny (model P w) A (.call (.builtin "reversed.__new__") ⟨[.type "reversed", .ref r], []⟩) (wants Q₁ E) s := by
  have hT : s.TypeIs (.ref r) "range" := ⟨_, hr, rfl⟩
  refine codeAny_of_tree ?_
  show wpAny _ A.in1 (do checkBuiltinCall "reversed.__new__" ⟨[.type "reversed", .ref r], []⟩; again (.builtin "reversed.__new__" ⟨[.type "reversed", .ref r], []⟩)) _ _ s
  refine wpAny_bind (wpAny_of_eq (F.newCall_reversed_1 _) (wpAny_pure ⟨plainId_quiet F.plain_reversed_new _, codeAny_builtin F.entry_reversed_new ?_⟩))
  rw [Around.under_plainId F.plain_reversed_new _]
  unfold Builtin.«reversed.__new__»
  refine wpAny_bind (wpAny_of_eq (newClass_reversed _) ?_)
  try dsimp only
  refine wpAny_bind (wpAny_of_eq (a := ()) (by first | rfl | kernel_rfl) ?_)
  refine wpAny_bind (wpAny_of_eq (a := ()) (by first | rfl | kernel_rfl) ?_)
  try dsimp only
  refine wpAny_bind (wpAny_specialOf hT F.slot_range_reversed.lookup ?_)
  try dsimp only
  refine wpAny_bind (wpAny_of_eq (F.slot_range_reversed.bind _) ?_)
  try dsimp only
  first
  | rw [if_neg (show ¬ ((Value.builtin "range.__reversed__" == Value.none) = true) from Bool.false_ne_true)]
  | (show wpAny _ _ (if (Value.builtin "range.__reversed__" == Value.none) = true then _ else _) _ _ _; rw [if_neg (show ¬ ((Value.builtin "range.__reversed__" == Value.none) = true) from Bool.false_ne_true)])
  refine wpAny_bind (wpAny_rule ?_)
  refine wpAny_bind (m := runValue (.call (.builtin "range.__reversed__") ⟨[.ref r], []⟩)) (show wpAny _ _ (call (.builtin "range.__reversed__") [.ref r]) _ _ _ from
    call_meets F.slot_range_reversed hT F.entry_range_reversed (F.args_range_reversed_1 _) (meets_range_reversed r n t u v hn) ⟨hr, ?_⟩)
  first
  | exact wpAny_pure h
  | exact wpAny_bind (wpAny_pure (wpAny_pure h))

theorem sub_ri_reversed : isSubtype (.type "range_iterator") (.type "reversed") = pure false := by rw [isSubtype_type]; kernel_rfl

theorem call_reversed_range {r : Addr} {n : Nat} {t u v : Tok} {Q : Value → Shared → Prop} (hn : n < 2 ^ 60) (hr : IsRange s.heap r 0 n 1 t u v)
    (h : Q (.ref s.heap.objs.size) { s with heap := s.heap.push { cls := .type "range_iterator", data := .fields #[rawInt ((n : Int) - 1), rawInt n, rawInt (-1)] } }) :
    wpAny (model P w) A (call (.type "reversed") [.ref r]) Q E s := by
  refine callType_other (U := "range_iterator") (Q₁ := fun obj s₁ => obj = .ref s.heap.objs.size ∧ s₁ = { s with heap := s.heap.push { cls := .type "range_iterator", data := .fields #[rawInt ((n : Int) - 1), rawInt n, rawInt (-1)] } })
    (by decide +kernel) F.create_reversed ⟨_, _, F.mro_reversed⟩ F.made_reversed sub_ri_reversed (F.typeCall_reversed_1 _) (code_reversed_range hn hr ⟨rfl, rfl⟩) ?_
  rintro obj s₁ ⟨rfl, rfl⟩
  exact ⟨⟨_, Heap.get?_push_size _ rfl, rfl⟩, h⟩
end
end Mine
end -- F6

section -- F7
open PySem PySem.W PyProof.Rows PySem.Calls
set_option Elab.async false
set_option maxRecDepth 100000
set_option maxHeartbeats 2000000
namespace Mine
open Hp

theorem Fl.kp {B h h' : Heap} {L a : Addr} {n m vs} {wr : List Addr} (F : Fl B L a n h m vs) (k : KpB wr h h') (hL : L ∉ wr) (ha : a ∉ wr) (hB : ∀ b ∈ wr, B.get? b = none) : Fl B L a n h' m vs :=
  ⟨F.f.kp k hL hB, k _ _ ha F.l, F.off, F.ne⟩
/-- a call has turned the list alone -/
theorem Fl.turn {B h h' : Heap} {L a : Addr} {n m vs vs' n'} (F : Fl B L a n h m vs) (k : KpB [a] h h') (l : h'.get? a = some (PySem.W.listOf vs'.toArray n')) : Fl B L a n' h' m vs' :=
  ⟨F.f.kp k (by simpa using Ne.symm F.ne) (by simpa using F.off), l, F.off, F.ne⟩

/-- the state behind a call's entry, base without the list -/
theorem enter_fl {s : Shared} {a : Addr} {n : Nat} {vs : List Value} {h₁ : Heap} {m} (ho : s.heap.get? a = some (PySem.W.listOf vs.toArray n)) (F₁ : Fr s.heap s.heap.objs.size h₁ m) :
    Fl (dropA s.heap a) s.heap.objs.size a n h₁ m vs :=
  ⟨(Fx.of_fr F₁).sub fun _ _ e => (get_dropA e).2, F₁.keep _ _ ho, get_dropA_self _ _, Nat.ne_of_lt (Heap.lt_size ho)⟩
theorem ext_dropA {B h : Heap} {a : Addr} (kB : Ext B h) (hBa : B.get? a = none) : Ext B (dropA h a) := fun b o e => by rw [get_dropA_ne _ (by rintro rfl; rw [hBa] at e; cases e)]; exact kB _ _ e

section
variable {w : World} {A : Around} {E : Value → Shared → Prop} {s : Shared} {env : Env}
theorem sxl {x : Str} {v : Value} {Q : Unit → Shared → Prop} {B : Heap} {m : Str → Option Value} {a : Addr} {n : Nat} {vs : List Value} (F : Fl B env.locals a n s.heap m vs)
    (h : ∀ s', Sm s s' → Heap.SameBut env.locals s.heap s'.heap → Fl B env.locals a n s'.heap (fun y => if y = x then some v else m y) vs → Q () s')
    (hl : env.kindOf x = some .local := by rfl) (hp : (env.scope.kind == .class || (env.scope.kind == .module && env.locals != env.globals)) = false := by rfl) :
    wpAny (model P w) A (storeName env x v) Q E s :=
  wpAny_storeName_local hl F.f.ns (fun h' hn hs => h _ ⟨rfl, rfl, rfl⟩ hs ⟨⟨hn, fun b o e => (hs.2 b (by rintro rfl; rw [F.f.off] at e; cases e)).trans (F.f.keep b o e), F.f.off⟩, (hs.2 a F.ne).trans F.l, F.off, F.ne⟩) hp

/-- iter(reversed(range(e))) -/
theorem revIter {e : Expr} {qp qpos rp rpos : Pos} {K : Value → Shared → Prop} (G : GF s.heap)
    (h : wpAny (model P w) A (eval e env) (fun v s₁ => ∃ n : Nat, ∃ t, v = .int n t ∧ n < 2 ^ 60 ∧
      ∀ it s', Sm s₁ s' → Ext s₁.heap s'.heap → s₁.heap.get? it = none → IsRangeIter s'.heap it ((n : Int) - 1) n (-1) → K (.ref it) s') E s)
    (hk : env.scope.kind = .function := by rfl) (hx : env.kindOf "range" = some .globalImplicit := by rfl) (hy : env.kindOf "reversed" = some .globalImplicit := by rfl) (hg : env.globals = mainGlobals := by rfl) (hb : env.builtins = builtinsNs := by rfl)
    (ha : eval (.Call (.Name "range" rp) [e] [] rpos) env = (eval (.Name "range" rp) env >>= fun fv => callWith rpos fv [] [(false, eval e env)] []) := by rfl)
    (hc : eval (.Call (.Name "reversed" qp) [.Call (.Name "range" rp) [e] [] rpos] [] qpos) env = (eval (.Name "reversed" qp) env >>= fun fv => callWith qpos fv [] [(false, eval (.Call (.Name "range" rp) [e] [] rpos) env)] []) := by rfl) :
    wpAny (model P w) A (eval (.Call (.Name "reversed" qp) [.Call (.Name "range" rp) [e] [] rpos] [] qpos) env) (fun x s₁ => wpAny (model P w) A (pyIter x) K E s₁) E s := by
  refine Call1 (bi G (v := .type "reversed") (by simp [bis]) (Call1 (bi G (v := .type "range") (by simp [bis]) (wpAny_mono h (fun v s₁ h₁ => ⟨trivial, ?_⟩) fun _ _ x => x) hk hx hg hb) ha) hk hy hg hb) hc
  obtain ⟨n, t, rfl, hn, h₁⟩ := h₁
  refine call_range_1 ⟨trivial, ?_⟩
  refine call_reversed_range hn (IsRange.new _ 0 _ 1 _ _ _) ?_
  refine wpAny_pyIter_rangeiter (x := (n : Int) - 1) (left := n) (step := -1) (Heap.get?_push_size _ rfl) ?_
  refine h₁ _ _ ⟨rfl, rfl, rfl⟩ ((ext_push _ _).trans (ext_push _ _)) ?_ (Heap.get?_push_size _ rfl)
  exact Heap.get?_none_of_le (by rw [Heap.size_push]; omega)
end

theorem heapify_ct {w : World} {A : Around} {E : Value → Shared → Prop} {s : Shared} {B : Heap} {a : Addr} {n : Nat} {vs : List Value} {lt : Value → Value → Bool} {S : Value → Prop} {Q : Value → Shared → Prop}
    (O : Ordr lt) (G : GF B) (kB : Ext B s.heap) (hBa : B.get? a = none) (C : CmpOk w B lt S) (hr : A.depth + 2 < recursionLimit) (hu : A.units < 700) (hh : A.handled = none)
    (ho : s.heap.get? a = some (PySem.W.listOf vs.toArray n)) (hS : ∀ v ∈ vs, S v) (hz : vs.length < 2 ^ 60)
    (h : ∀ s' vs', Sm s s' → KpB [a] s.heap s'.heap → s'.heap.get? a = some (PySem.W.listOf vs'.toArray n) → vs'.Perm vs → HeapFrom lt vs.length 0 (fv vs') → Q .none s') :
    wpAny (model P w) A (call (.ref 76) [.ref a]) Q E s := by
  obtain ⟨pm, c, ho', hc⟩ := (G.keeps kB).fn (i := 6) (f := 76) (by simp)
  refine wpAny_call (call_plain (binds := [("x", .ref a)]) (by omega) ho' rfl (G.keeps kB).nolimit hc rfl (locs rfl) ?_)
  intro h₁ F₁
  have Fb := enter_fl ho F₁
  have kD := ext_dropA kB hBa
  generalize hL : s.heap.objs.size = L at Fb F₁ ⊢
  generalize hA' : Around.deeper A _ = A'
  have hu' : A'.units < 800 := by rw [← hA']; show A.units + 3 < 800; omega
  have hr' : A'.depth + 1 < recursionLimit := by rw [← hA']; exact hr
  have hh' : A'.handled = none := by rw [← hA']; exact hh
  have S₁ : Sm s { s with heap := h₁, toks := s.toks + 1 } := ⟨rfl, rfl, rfl⟩
  replace Fb : Fl (dropA s.heap a) L a n { s with heap := h₁, toks := s.toks + 1 }.heap _ vs := Fb
  show wpAny _ _ _ _ _ { s with heap := h₁, toks := s.toks + 1 }
  generalize { s with heap := h₁, toks := s.toks + 1 } = s₁ at Fb S₁ ⊢
  clear F₁ ho' hc
  refine wpAny_execs_cons (wpAny_Assign_Name (Call1 (bi (v := .builtin "len") (G.keeps (kD.trans Fb.f.keep)) (by simp [bis]) (lx' Fb rfl ⟨trivial, len_v Fb.l hz fun t₁ r₁ R₁ e₁ => ?_⟩))))
  rw [← e₁] at Fb
  refine sx' Fb fun s₂ S₂ F₂ => ?_
  have G₂ := G.keeps (kD.trans F₂.f.keep)
  have eh : ((vs.length : Int)).fdiv 2 = ((vs.length / 2 : Nat) : Int) := by
    rw [Int.fdiv_eq_ediv_of_nonneg _ (by decide)]; omega
  refine wpAny_execs_cons (wpAny_For (revIter G₂ (wpAny_BinOp (lx' F₂ rfl (wpAny_Constant_int (floordiv_int (by decide) ⟨vs.length / 2, _, by rw [eh], by omega, fun it s₃ S₃ k₃ f₃ i₃ => ?_⟩))))))
  have f₃' : s₂.heap.get? it = none := f₃
  have hitL : L ≠ it := ne_of_ns F₂.f.ns f₃'
  have hita : a ≠ it := by rintro rfl; rw [F₂.l] at f₃'; cases f₃'
  have hitB : (dropA s.heap a).get? it = none := none_of_ext F₂.f.keep f₃'
  refine forWalk (Walks.range hh' it (((vs.length / 2 : Nat) : Int) - 1) (-1) (vs.length / 2)) (fun i h => ∃ m vs', Fl (dropA s.heap a) L a n h m vs' ∧ m "x" = some (.ref a) ∧ vs'.Perm vs ∧ HeapFrom lt vs.length (vs.length / 2 - i) (fv vs'))
    ?_ ?_ (by simpa using i₃) ?_ ?_
  · rintro i h h' ⟨m, vs', F, r⟩ k
    exact ⟨m, vs', F.kp k (by simpa using hitL) (by simpa using hita) (by simpa using hitB), r⟩
  · exact ⟨_, vs, F₂.grow k₃, rfl, List.Perm.refl _, fun c c1 cn cs => by omega⟩
  · rintro i v s₄ hi ⟨t, rfl⟩ ⟨m, vs', F, m1, hp, hf⟩ hit S₄
    have hi0 : (((vs.length / 2 : Nat) : Int) - 1 + (i : Int) * -1) = ((vs.length / 2 - 1 - i : Nat) : Int) := by omega
    rw [hi0]
    have hlen := hp.length_eq
    refine lot_name (wpAny_assign_Name (sxl F fun s₅ S₅ b₅ F₅ => ?_))
    have kA : Ext B s₅.heap := kD.trans F₅.f.keep
    refine wpAny_execs_cons (wpAny_Expr (Call2 (gl (v := .ref 90) (G.keeps kA) (by simp [globs]) (lx' F₅ m1 (lx' F₅ rfl ⟨callee_fn ((G.keeps kA).fn (i := 8) (by simp)), ?_⟩)))))
    refine siftup_ct O G kA hBa C hr' hu' F₅.l (fun v hv => hS v (hp.subset hv)) (by omega) (by omega) ?_ fun s₆ vs₆ S₆ K₆ l₆ p₆ h₆ => ?_
    · rw [hlen]
      have : vs.length / 2 - 1 - i + 1 = vs.length / 2 - i := by omega
      rw [this]; exact hf
    · refine wpAny_execs_nil ⟨(S₄.tr S₅).tr S₆, rfl, ⟨_, vs₆, F₅.turn K₆ l₆, m1, p₆.trans hp, ?_⟩, fun b hb o e => ?_⟩
      · rw [hlen] at h₆
        have : vs.length / 2 - 1 - i = vs.length / 2 - (i + 1) := by omega
        rw [this] at h₆; exact h₆
      · have hbi : b = it := by simpa using hb
        subst hbi
        exact K₆ b o (by simpa using Ne.symm hita) ((b₅.2 b (Ne.symm hitL)).trans e)
  · rintro s₄ S₄ ⟨m, vs', F, m1, hp, hf⟩
    have : vs.length / 2 - vs.length / 2 = 0 := by omega
    rw [this] at hf
    exact wpAny_execs_nil (h _ _ ((((S₁.tr R₁).tr S₂).tr S₃).tr S₄) (fun b o hb e => F.f.keep b o (by rw [get_dropA_ne _ (by simpa using hb)]; exact e)) F.l hp hf)
end Mine
end -- F7

section -- F8
open PySem PySem.W PyProof.Rows PySem.Calls
set_option Elab.async false
set_option maxRecDepth 100000
set_option maxHeartbeats 2000000
namespace Mine
open Hp

section
variable {w : World} {A : Around} {E : Value → Shared → Prop} {s : Shared} {env : Env}

/-- o.name() of a list -/
theorem Meth0 {o : Expr} {name : Str} {apos pos : Pos} {id : String} {Q : Value → Shared → Prop}
    (h : wpAny (model P w) A (eval o env) (fun ov s₁ => ∃ a ob, ov = .ref a ∧ s₁.heap.get? a = some ob ∧ ob.cls = .type "list" ∧ ob.dict = none ∧ wpAny (model P w) A (call (.builtin id) [.ref a]) Q E s₁) E s)
    (slot : Slot "list" name id) (hty : typeOf (.builtin id) = pure (.type "method_descriptor"))
    (hbase : attributeBase o name env (eval o env) = eval o env := by rfl) (hline : (apos.endLine == pos.line) = true := by rfl) :
    wpAny (model P w) A (eval (.Call (.Attribute o name apos) [] [] pos) env) Q E s := by
  refine wpAny_Call_method0_late hbase hline (wpAny_mono h (fun ov s₁ h₁ => ?_) fun _ _ x => x)
  obtain ⟨a, ob, rfl, ho, hc, hd, h₁⟩ := h₁
  refine ⟨"list", id, PySem.F.plainAttrs_list, slot, hty, ⟨_, ho, hc⟩, fun a' e => by cases e; exact ⟨_, ho, hd⟩, ?_⟩
  exact callWith_builtin rfl (PySem.evalArgs_none h₁)

theorem pop_v {B : Heap} {L a : Addr} {n : Nat} {m} {p : List Value} {y : Value} {Q : Value → Shared → Prop} (F : Fl B L a n s.heap m (p ++ [y])) (hz : p.length < 1000)
    (h : ∀ s', Sm s s' → Fl B L a (n + 1) s'.heap m p → Q y s') : wpAny (model P w) A (call (.builtin "list.pop") [.ref a]) Q E s := by
  have hk : (p ++ [y]).toArray.size - 1 = p.length := by rw [List.size_toArray, List.length_append]; rfl
  have hz' : (p ++ [y]).toArray.size ≤ sizeLine := by rw [List.size_toArray, List.length_append, sizeLine_eq]; simp; omega
  have hy : (p ++ [y]).toArray[(p ++ [y]).toArray.size - 1]? = some y := by rw [hk]; simp
  refine call_meets PySem.F.slot_list_pop ⟨_, F.l, rfl⟩ PySem.F.entry_list_pop (PySem.F.args_list_pop_1 _) (PySem.MeetsSeq.list_pop_last a _ n y hy hz') ⟨F.l, h _ ⟨rfl, rfl, rfl⟩ ⟨F.f.same (Heap.SameBut.update ..) F.off (Ne.symm F.ne), ?_, F.off, F.ne⟩⟩
  have e := Heap.get?_update_self (Obj.mapSeq fun xs => xs.eraseIdxIfInBounds ((p ++ [y]).toArray.size - 1)) F.l (by rfl)
  show (s.heap.update a _).get? a = _
  rw [e]
  have e2 : (p ++ [y]).toArray.eraseIdxIfInBounds ((p ++ [y]).toArray.size - 1) = p.toArray := by rw [hk, kl_erase, List.append_nil]
  simp only [PySem.W.listOf, Obj.mapSeq, e2]
  rw [if_neg (by rw [List.size_toArray, List.size_toArray, List.length_append]; simp)]
end

theorem heappop_ct {w : World} {A : Around} {E : Value → Shared → Prop} {s : Shared} {B : Heap} {a : Addr} {n : Nat} {vs : List Value} {lt : Value → Value → Bool} {S : Value → Prop} {Q : Value → Shared → Prop}
    (O : Ordr lt) (irr : ∀ a, lt a a = false) (G : GF B) (kB : Ext B s.heap) (hBa : B.get? a = none) (C : CmpOk w B lt S) (hr : A.depth + 2 < recursionLimit) (hu : A.units < 700)
    (ho : s.heap.get? a = some (PySem.W.listOf vs.toArray n)) (hS : ∀ v ∈ vs, S v) (hz : vs.length < 1000) (hne : vs ≠ []) (hh : HeapFrom lt vs.length 0 (fv vs))
    (h : ∀ s' r vs' n', Sm s s' → KpB [a] s.heap s'.heap → s'.heap.get? a = some (PySem.W.listOf vs'.toArray n') → (r :: vs').Perm vs → (∀ v ∈ vs, lt v r = false) → HeapFrom lt vs'.length 0 (fv vs') → Q r s') :
    wpAny (model P w) A (call (.ref 69) [.ref a]) Q E s := by
  obtain ⟨pm, c, ho', hc⟩ := (G.keeps kB).fn (i := 5) (f := 69) (by simp)
  refine wpAny_call (call_plain (binds := [("heap", .ref a)]) (by omega) ho' rfl (G.keeps kB).nolimit hc rfl (locs rfl) ?_)
  intro h₁ F₁
  have Fb := enter_fl ho F₁
  have kD := ext_dropA kB hBa
  generalize hL : s.heap.objs.size = L at Fb F₁ ⊢
  generalize hA' : Around.deeper A _ = A'
  have hu' : A'.units < 800 := by rw [← hA']; show A.units + 3 < 800; omega
  have hr' : A'.depth + 1 < recursionLimit := by rw [← hA']; exact hr
  have S₁ : Sm s { s with heap := h₁, toks := s.toks + 1 } := ⟨rfl, rfl, rfl⟩
  replace Fb : Fl (dropA s.heap a) L a n { s with heap := h₁, toks := s.toks + 1 }.heap _ vs := Fb
  show wpAny _ _ _ _ _ { s with heap := h₁, toks := s.toks + 1 }
  generalize { s with heap := h₁, toks := s.toks + 1 } = s₁ at Fb S₁ ⊢
  clear F₁ ho' hc
  obtain ⟨p, y, rfl⟩ : ∃ p y, vs = p ++ [y] := ⟨vs.dropLast, vs.getLast hne, (List.dropLast_concat_getLast hne).symm⟩
  have hpz : p.length < 1000 := by simp at hz; omega
  have least : ∀ v ∈ p ++ [y], lt v (fv (p ++ [y]) 0) = false := by
    intro v hv
    obtain ⟨i, hi, rfl⟩ := List.mem_iff_getElem.mp hv
    have := hh.top O irr i hi
    have e : fv (p ++ [y]) i = (p ++ [y])[i] := by simp only [fv, List.getD_eq_getElem?_getD, List.getElem?_eq_getElem hi, Option.getD_some]
    rwa [e] at this
  refine wpAny_execs_cons (wpAny_Assign_Name (Meth0 (lx' Fb rfl ⟨a, _, rfl, Fb.l, rfl, rfl, pop_v Fb hpz fun s₂ S₂ F₂ => sx' F₂ fun s₃ S₃ F₃ => ?_⟩) PySem.F.slot_list_pop PySem.F.type_list_pop))
  have hLs : s₃.heap.IsList a p.toArray := PySem.IsL.isList (n := n + 1) F₃.l
  refine wpAny_execs_cons (wpAny_If (wpAny_isTrue_value (lx' F₃ rfl (wpAny_truthy_list hLs (by rw [List.size_toArray]; omega) ?_))))
  have kp : ∀ {h' : Heap}, Ext (dropA s.heap a) h' → KpB [a] s.heap h' := fun k b o hb e => k b o (by rw [get_dropA_ne _ (by simpa using hb)]; exact e)
  cases p with
  | nil =>
    rw [if_neg (by simp)]
    refine wpAny_execs_nil (wpAny_execs_cons (wpAny_Return_some (lx' F₃ rfl ?_)))
    refine h _ y [] _ (((S₁.tr S₂).tr S₃).tr (Sm.refl _)) (kp F₃.f.keep) F₃.l (List.Perm.refl _) least ?_
    intro c c1 cn; simp at cn
  | cons r p' =>
    rw [if_pos (by simp)]
    refine wpAny_execs_cons (wpAny_Assign_Name (Subscript_ (lx' F₃ rfl (wpAny_Constant_int (item_v F₃.l (by decide) (by decide) (by rfl) (sx' F₃ fun s₄ S₄ F₄ => ?_))))))
    refine wpAny_execs_cons (wpAny_Assign_Subscript (lx' F₄ rfl (lx' F₄ rfl (wpAny_Constant_int (set_v F₄ (by decide) (by simp) (by decide) fun s₅ S₅ F₅ => ?_)))))
    have kA : Ext B s₅.heap := kD.trans F₅.f.keep
    have e5 : (r :: p').set (Int.toNat 0) y = y :: p' := rfl
    rw [e5] at F₅
    have perm : (r :: (y :: p')).Perm (r :: p' ++ [y]) := by
      refine List.Perm.cons _ ?_
      exact (List.perm_append_singleton y p').symm
    refine wpAny_execs_cons (wpAny_Expr (Call2 (gl (v := .ref 90) (G.keeps kA) (by simp [globs]) (lx' F₅ rfl (wpAny_Constant_int ⟨callee_fn ((G.keeps kA).fn (i := 8) (by simp)), ?_⟩)))))
    refine siftup_ct (start := 0) O G kA hBa C hr' hu' F₅.l (fun v hv => hS v (perm.subset (List.mem_cons_of_mem _ hv))) (by simp at hpz ⊢; omega) (by simp) ?_ fun s₆ vs₆ S₆ K₆ l₆ p₆ h₆ => ?_
    · intro c c1 cn cs
      have hc' : c < (r :: p').length := cn
      have key : ∀ i, 1 ≤ i → i < (r :: p').length → fv (y :: p') i = fv (r :: p' ++ [y]) i := by
        intro i i1 i2
        obtain ⟨j, rfl⟩ : ∃ j, i = j + 1 := ⟨i - 1, by omega⟩
        have : j < p'.length := by simpa using i2
        simp [fv, List.getElem?_append_left this]
      rw [key c c1 hc', key _ (by omega) (by omega)]
      exact hh c c1 (by simp at hc' ⊢; omega) (Nat.zero_le _)
    · refine wpAny_execs_cons (wpAny_Return_some (lx' (F₅.turn K₆ l₆) rfl ?_))
      have hl6 : vs₆.length = (y :: p').length := p₆.length_eq
      refine h _ r vs₆ _ (((((S₁.tr S₂).tr S₃).tr S₄).tr S₅).tr S₆) (kp (F₅.turn K₆ l₆).f.keep) l₆ ((List.Perm.cons _ p₆).trans perm) least ?_
      rw [hl6]; exact h₆
end Mine
end -- F8

section -- F9
open PySem PySem.W PyProof.Rows PySem.Calls
set_option Elab.async false
set_option maxRecDepth 100000
set_option maxHeartbeats 2000000
namespace Mine
open Hp

section
variable {w : World} {A : Around} {E : Value → Shared → Prop} {s : Shared} {env : Env}

/-- the block of a comprehension -/
theorem compEnv_new {scope : Scope} {cl : List (Str × Addr)} {Q : Env → Shared → Prop}
    (h : ∀ s', Sm s s' → Ext s.heap s'.heap → s'.heap.Ns s.heap.objs.size (fun _ => none) →
      (∀ n c, (n, c) ∈ cellsFrom (s.heap.objs.size + 1) scope.names [] → s'.heap.IsCell c none ∧ s.heap.objs.size + 1 ≤ c) →
      Q (newEnv scope s.heap.objs.size env.globals (cellsFrom (s.heap.objs.size + 1) scope.names cl) env.qual none .none (some env) builtinsNs) s') :
    wpAny (model P w) A (newFunctionEnv scope env.globals cl [] env.qual none .none (some env)) Q E s := by
  simp only [newFunctionEnv, Option.isSome_some, if_true]
  refine wpAny_bind (wpAny_alloc ?_)
  refine wpAny_bind (wpAny_layCells _ (fun name kind cells => by cases hkc : kind == NameKind.cell <;> simp [hkc]) _ _ _ _ ?_)
  have ok := cellsFrom_ok scope.names (s.heap.push { cls := .type "dict", data := .dict #[] }) (s.heap.objs.size + 1) [] ⟨fun _ _ hm => (nomatch hm), List.Pairwise.nil⟩ (by rw [Heap.size_push]; exact Nat.le_refl _)
  rw [Heap.size_push] at ok
  rw [show ({ s with heap := s.heap.push { cls := .type "dict", data := .dict #[] } } : Shared).heap.objs.size = s.heap.objs.size + 1 from Heap.size_push ..]
  refine wpAny_bind ?_
  rw [List.forIn_nil]
  refine wpAny_pure (wpAny_pure ?_)
  exact h _ ⟨rfl, rfl, rfl⟩ (fun b o e => pushCells_keeps _ _ b o (Heap.get?_push_of_some _ e)) ((Heap.Ns.new s.heap (.type "dict")).keeps (pushCells_keeps _ _)) ok.empty

/-- a list comprehension down to its loop -/
theorem compG {elt target iter : Expr} {ifs : List Expr} {scope : Scope} {pos ppos : Pos} {cl : List (Str × Addr)} {use : Option (Value → Sem Unit)} {Q : Value → Shared → Prop}
    (h : wpAny (model P w) A (eval iter env) (fun x s₁ => wpAny (model P w) A (pyIter x) (fun it s₂ =>
      (∀ s (Q : Value → Shared → Prop) (E : Value → Shared → Prop), Ext s₂.heap s.heap → Q it s → wpAny (model P w) A (pyIter it) Q E s) ∧
      ∀ D C s₄, Sm s₂ s₄ → Ext s₂.heap s₄.heap → s₂.heap.get? D = none → s₂.heap.get? C = none → D ≠ C → s₄.heap.PlainList D #[] → s₄.heap.Ns C (fun _ => none) →
        (∀ n c, (n, c) ∈ cellsFrom (C + 1) scope.names [] → s₄.heap.IsCell c none ∧ C + 1 ≤ c ∧ s₂.heap.get? c = none ∧ D ≠ c) →
        codeAny (model P w) A (.compLoop (.ListComp elt [⟨target, iter, ifs, 0⟩] scope pos) 0 it (.ref D) (compEnvC scope (cellsFrom (C + 1) scope.names cl) C env)) (compPost (model P w) A E use Q (.ref D) C) s₄) E s₁) E s)
    (hclos : closureFor scope env = pure cl) (hkind : scope.kind = .function) (hnames : ∀ x ∈ scope.names, x.2 = .local → scope.names.lookup x.1 = some .local)
    (hs : ∀ x, foldedSetIterable iter env x = pure x := by intro _; rfl) :
    wpAny (model P w) A (comprehension (.ListComp elt [⟨target, iter, ifs, 0⟩] scope pos) scope env ppos (newList []) false (eval iter env) use) Q E s := by
  refine wpAny_comprehension_free rfl hs hclos hkind hnames (wpAny_mono h (fun x s₁ h₁ => wpAny_mono h₁ (fun it s₂ h₂ => ?_) fun _ _ e => e) fun _ _ e => e)
  obtain ⟨hself, h₂⟩ := h₂
  refine wpAny_newObj_type (compEnv_new fun s₄ S₄ k₄ n₄ c₄ => ?_)
  have hsz : (s₂.heap.push { cls := .type "list", dict := none, data := .seq ([] : List Value).toArray }).objs.size = s₂.heap.objs.size + 1 := Heap.size_push ..
  have k' : Ext s₂.heap s₄.heap := (ext_push _ _).trans k₄
  have hD : s₂.heap.get? s₂.heap.objs.size = none := fresh_none _
  have lift : codeAny (model P w) A (.compLoop (.ListComp elt [⟨target, iter, ifs, 0⟩] scope pos) 0 it (.ref s₂.heap.objs.size) (compEnvC scope (cellsFrom (s₂.heap.objs.size + 1 + 1) scope.names cl) (s₂.heap.objs.size + 1) env)) (compPost (model P w) A E use Q (.ref s₂.heap.objs.size) (s₂.heap.objs.size + 1)) s₄ := by
    refine h₂ s₂.heap.objs.size (s₂.heap.objs.size + 1) s₄ ⟨S₄.gens, S₄.drawn, S₄.os⟩ k' hD (Heap.get?_none_of_le (by omega)) (Nat.ne_of_lt (Nat.lt_succ_self _)) ⟨0, k₄ _ _ (Heap.get?_push_size _ rfl)⟩ (by rw [← hsz]; exact n₄) fun n c hm => ?_
    have := c₄ n c (by dsimp only; rw [hsz]; exact hm)
    dsimp only at this
    rw [hsz] at this
    exact ⟨this.1, this.2, Heap.get?_none_of_le (by omega), Nat.ne_of_lt (by omega)⟩
  dsimp only
  rw [hsz]
  exact codeAny_compStart_list lift (hself s₄ _ _ k' lift)

theorem compNone {elt target iter : Expr} {ifs : List Expr} {scope : Scope} {pos : Pos} {Q : Value → Shared → Prop}
    (h : wpAny (model P w) A (comprehension (.ListComp elt [⟨target, iter, ifs, 0⟩] scope pos) scope env iter.pos (newList []) false (eval iter env) none) Q E s) :
    wpAny (model P w) A (eval (.ListComp elt [⟨target, iter, ifs, 0⟩] scope pos) env) Q E s := by
  rw [eval_ListComp]; exact h

/-- the loop of a list comprehension, by an invariant -/
theorem compLoopW {elt iter : Expr} {x : Str} {px : Pos} {ifs : List Expr} {scope : Scope} {pos : Pos} {I D : Addr} {cenv : Env} {fp wr : List Addr} {n : Nat} {Pv : Nat → Value → Prop} {St : Nat → Heap → Prop} {R : Result → Shared → Prop}
    (W : Walks P w A I fp wr n Pv St) (J : Nat → List Value → Heap → Prop)
    (hst : ∀ i ys h h', J i ys h → KpB wr h h' → J i ys h') (hD : ∀ i ys h h', J i ys h → Heap.SameBut D h h' → J i ys h')
    (hDf : D ∉ fp) (hDw : D ∉ wr)
    (h0 : J 0 [] s.heap) (hS : St 0 s.heap) (hl : s.heap.PlainList D #[]) (hz : n < 1000)
    (turn : ∀ i v ys s', i < n → Pv i v → J i ys s'.heap → St (i + 1) s'.heap → Sm s s' → s'.heap.PlainList D ys.toArray → wpAny (model P w) A (assign (.Name x px) cenv v) (fun _ s₂ =>
      wpAny (model P w) A (forIn ifs true fun c r => if r = true then do let ok ← isTrue c cenv (eval c cenv); pure (ForInStep.yield ok) else pure (ForInStep.yield r)) (fun ok s₃ =>
        if ok = true then wpAny (model P w) A (eval elt cenv) (fun y s₄ => Sm s s₄ ∧ J (i + 1) (ys ++ [y]) s₄.heap ∧ s₄.heap.PlainList D ys.toArray ∧ (∀ b ∈ fp, ∀ o, s'.heap.get? b = some o → s₄.heap.get? b = some o)) (fun _ _ => False) s₃
        else Sm s s₃ ∧ J (i + 1) ys s₃.heap ∧ s₃.heap.PlainList D ys.toArray ∧ (∀ b ∈ fp, ∀ o, s'.heap.get? b = some o → s₃.heap.get? b = some o)) (fun _ _ => False) s₂) (fun _ _ => False) s')
    (fin : ∀ ys s', Sm s s' → J n ys s'.heap → s'.heap.PlainList D ys.toArray → R (.ok .next) s') :
    codeAny (model P w) A (.compLoop (.ListComp elt [⟨.Name x px, iter, ifs, 0⟩] scope pos) 0 (.ref I) (.ref D) cenv) R s := by
  refine codeAny_compLoop_tests (fun k s' => ∃ i ys, Sm s s' ∧ i ≤ n ∧ k = n - i ∧ ys.length ≤ i ∧ J i ys s'.heap ∧ St i s'.heap ∧ s'.heap.PlainList D ys.toArray) ?_ n ⟨0, [], Sm.refl _, Nat.zero_le _, rfl, Nat.le_refl _, h0, hS, hl⟩
  rintro k s' ⟨i, ys, hsm, hi, rfl, hys, hJ, hs, hp⟩
  by_cases hlt : i < n
  · refine W.item i _ _ _ hlt hs fun v h' tk' hv hs' hk => ?_
    refine wpAny_mono (turn i v ys _ hlt hv (hst _ _ _ _ hJ hk) hs' (hsm.tr (Sm.mk' _ _ _)) (hp.at fun o e => hk _ o hDw e)) (fun _ s₂ h₂ => ?_) fun _ _ x => x.elim
    refine wpAny_mono h₂ (fun ok s₃ h₃ => ?_) fun _ _ x => x.elim
    cases ok with
    | true =>
      simp only [if_true] at h₃ ⊢
      refine wpAny_mono h₃ (fun y s₄ h₄ => ?_) fun _ _ x => x.elim
      obtain ⟨S₄, J₄, p₄, f₄⟩ := h₄
      refine wpAny_list_append_plain (hsz := by rw [List.size_toArray, sizeLine_eq]; omega) p₄ fun h₅ hl₅ hs₅ => ?_
      refine ⟨n - (i + 1), by omega, i + 1, ys ++ [y], S₄.tr (Sm.mk' _ _ _), hlt, rfl, by simp; omega, hD _ _ _ _ J₄ hs₅, ?_, by simpa using hl₅⟩
      exact W.frame _ _ _ (W.frame _ _ _ hs' f₄) fun b hb o e => hs₅.extBut b o (fun q => hDf (q ▸ hb)) e
    | false =>
      simp only [Bool.false_eq_true, if_false] at h₃ ⊢
      obtain ⟨S₄, J₄, p₄, f₄⟩ := h₃
      exact ⟨n - (i + 1), by omega, i + 1, ys, S₄, hlt, rfl, by omega, J₄, W.frame _ _ _ hs' f₄, p₄⟩
  · have : i = n := by omega
    subst this
    exact W.done _ _ _ hs fun h' tk' hk => fin ys _ (hsm.tr (Sm.mk' _ _ _)) (hst _ _ _ _ hJ hk) (hp.at fun o e => hk _ o hDw e)
end
end Mine
end -- F9

section -- F10
open PySem PySem.W PyProof.Rows PySem.Calls
set_option Elab.async false
set_option maxRecDepth 100000
set_option maxHeartbeats 2000000
namespace Mine
open Hp

theorem IsIL.of_plain {h : Heap} {a : Addr} {vs : List Value} {xs} (p : h.PlainList a vs.toArray) (i : IntsAre vs xs) : IsIL h a xs := ⟨vs, p.isList, i⟩
theorem intsAre_take : ∀ {vs : List Value} {xs : List Int}, IntsAre vs xs → ∀ k, IntsAre (vs.take k) (xs.take k)
  | _, _, .nil, _ => by simp; exact .nil
  | _, _, .cons i t r, 0 => by simp; exact .nil
  | _, _, .cons i t r, k + 1 => by simp only [List.take_succ_cons]; exact .cons i t (intsAre_take r k)
theorem intsAre_snoc : ∀ {vs : List Value} {xs : List Int}, IntsAre vs xs → ∀ i t, IntsAre (vs ++ [.int i t]) (xs ++ [i])
  | _, _, .nil, i, t => .cons i t .nil
  | _, _, .cons j u r, i, t => .cons j u (intsAre_snoc r i t)
theorem take_snoc {α : Type} {xs : List α} {i : Nat} {d : α} (h : i < xs.length) : xs.take (i + 1) = xs.take i ++ [xs.getD i d] := by
  rw [List.take_add_one]
  simp [List.getElem?_eq_getElem h]

section
variable {w : World} {A : Around} {E : Value → Shared → Prop} {s : Shared} {env : Env}

theorem iter_l {l : Addr} {items : Array Value} {Q : Value → Shared → Prop} (hl : s.heap.IsList l items)
    (h : ∀ I s', Sm s s' → Ext s.heap s'.heap → s.heap.get? I = none → l ≠ I → s'.heap.IsListIter I l 0 → Q (.ref I) s') : wpAny (model P w) A (pyIter (.ref l)) Q E s := by
  have hlt : l < s.heap.objs.size := let ⟨_, ho, _⟩ := hl; Heap.lt_size ho
  exact wpAny_pyIter_list hl (h _ _ ⟨rfl, rfl, rfl⟩ (ext_push _ _) (fresh_none _) (Nat.ne_of_lt hlt) ⟨_, Heap.get?_push_size _ rfl, rfl, rfl⟩)

theorem preSum_take (xs : List Int) : ∀ k, preSum (fun i => xs.getD i 0) k = (xs.take k).sum := preSum_getD xs

theorem sum_il {a : Addr} {xs : List Int} {Q : Value → Shared → Prop} (hh : A.handled = none) (hl : IsIL s.heap a xs) (h : ∀ t s', Sm s s' → Ext s.heap s'.heap → Q (.int xs.sum t) s') :
    wpAny (model P w) A (call (.builtin "sum") [.ref a]) Q E s := by
  obtain ⟨vs, hL, hi⟩ := hl
  refine call_sum_walkAnyS (iter_l hL fun I s₂ S₂ k₂ f₂ n₂ i₂ => ?_)
  have hL₂ : s₂.heap.IsList a vs.toArray := hL.at fun o e => k₂ _ o e
  refine ⟨I, _, _, _, _, _, _, fun i => xs.getD i 0, rfl, (Walks.list (A := A.in1) hh I a n₂ vs.toArray).toS, ⟨i₂, hL₂⟩, ?_, ?_, ?_⟩
  · intro b hb
    have : b = I ∨ b = a := by simpa using hb
    rcases this with rfl | rfl
    · obtain ⟨o, ho, _⟩ := i₂; exact Heap.lt_size ho
    · obtain ⟨o, ho, _⟩ := hL₂; exact Heap.lt_size ho
  · intro i v hv
    have hlt : i < xs.length := by
      have : i < vs.length := by
        rcases Nat.lt_or_ge i vs.length with q | q
        · exact q
        · rw [show vs.toArray[i]? = vs[i]? by simp, List.getElem?_eq_none q] at hv; cases hv
      rw [← hi.length]; exact this
    obtain ⟨t, e⟩ := intsAre_get hi hlt
    have : vs.toArray[i]? = vs[i]? := by simp
    rw [this, e] at hv
    cases hv
    exact ⟨t, rfl⟩
  · intro s' t' M
    have e : vs.toArray.size = xs.length := by rw [List.size_toArray]; exact hi.length
    rw [e, preSum_take, List.take_length]
    refine h _ _ (S₂.tr ⟨M.gens, M.drawn, M.os⟩) fun b o eb => M.heap b o ?_ (k₂ b o eb)
    intro hb
    have : b = I := by simpa using hb
    subst this; rw [f₂] at eb; cases eb

theorem lcell {x : Str} {pos : Pos} {c : Addr} {v : Value} {Q : Value → Shared → Prop} (hv : s.heap.IsCell c (some v)) (h : Q v s)
    (hc : env.cells.lookup x = some c := by rfl) (hk : env.scope.kind = .function := by rfl) (hl : env.kindOf x = some .cell := by rfl)
    (hd : (x == ("__debug__" : Str)) = false := by decide) : wpAny (model P w) A (eval (.Name x pos) env) Q E s := wpAny_Name (wpAny_loadName_cell hk hl hc hv h) hd

theorem scell {x : Str} {c : Addr} {v : Value} {v₀ : Option Value} {Q : Unit → Shared → Prop} (hv : s.heap.IsCell c v₀)
    (h : ∀ s', Sm s s' → Heap.SameBut c s.heap s'.heap → s'.heap.IsCell c (some v) → Q () s')
    (hc : env.cells.lookup x = some c := by rfl) (hk : env.scope.kind = .function := by rfl) (hl : env.kindOf x = some .cell := by rfl) : wpAny (model P w) A (storeName env x v) Q E s :=
  wpAny_storeName_cell hk hl hc hv fun h' a b => h _ ⟨rfl, rfl, rfl⟩ b a
end

def stand1 (xs : List Int) (x : Int) : Int := (xs.map fun y => 1 + sg x y).sum
def stand (xs : List Int) : List Int := xs.map (stand1 xs)

theorem cell_at {h h' : Heap} {c : Addr} {v} (x : h.IsCell c v) (e : ∀ o, h.get? c = some o → h'.get? c = some o) : h'.IsCell c v := let ⟨o, a, b⟩ := x; ⟨o, e _ a, b⟩
theorem cell_ne {h : Heap} {c a : Addr} {v} (x : h.IsCell c v) (e : h.get? a = none) : c ≠ a := by
  rintro rfl; obtain ⟨o, q, _⟩ := x; rw [e] at q; cases q

theorem standings_ct {w : World} {A : Around} {E : Value → Shared → Prop} {s : Shared} {a : Addr} {xs : List Int} {Q : Value → Shared → Prop} (G : GF s.heap) (hr : A.depth + 1 < recursionLimit) (hh : A.handled = none)
    (ha : IsIL s.heap a xs) (hz : xs.length < 1000)
    (h : ∀ s' D vs, Sm s s' → Ext s.heap s'.heap → s.heap.get? D = none → s'.heap.PlainList D vs.toArray → IntsAre vs (stand xs) → Q (.ref D) s') : wpAny (model P w) A (call (.ref 102) [.ref a]) Q E s := by
  obtain ⟨pm, c, ho, hc⟩ := G.fn (i := 12) (f := 102) (by simp)
  refine wpAny_call (call_cells (binds := [("items", .ref a)]) (by omega) ho rfl G.nolimit hc rfl ?_ ?_)
  · intro x hx
    obtain rfl : x = (Str.ofString "items", Value.ref a) := by simpa using hx
    exact .inr ⟨rfl, rfl⟩
  intro h₁ tk F₁ X₁
  have cI : h₁.IsCell (s.heap.objs.size + 1) (some (.ref a)) := X₁.cell "items" (s.heap.objs.size + 1) rfl
  have fI : s.heap.get? (s.heap.objs.size + 1) = none := Heap.get?_none_of_le (by omega)
  have k₁ : Ext s.heap h₁ := F₁.keep
  generalize hL : s.heap.objs.size = L at cI fI ⊢
  generalize hA' : Around.deeper A _ = A'
  have hh' : A'.handled = none := by rw [← hA']; exact hh
  have hr' : A'.depth < recursionLimit := by rw [← hA']; exact hr
  have S₁ : Sm s { s with heap := h₁, toks := tk } := ⟨rfl, rfl, rfl⟩
  replace cI : { s with heap := h₁, toks := tk }.heap.IsCell (L + 1) (some (.ref a)) := cI
  replace k₁ : Ext s.heap { s with heap := h₁, toks := tk }.heap := k₁
  generalize { s with heap := h₁, toks := tk } = s₁ at cI k₁ S₁ ⊢
  clear F₁ X₁ ho hc
  obtain ⟨vs, hl, hi⟩ := ha
  have hl₁ : s₁.heap.IsList a vs.toArray := hl.at fun o e => k₁ _ o e
  refine wpAny_execs_cons (wpAny_Return_some (compNone (compG (cl := [("items", L + 1)]) (lcell cI (iter_l hl₁ fun I s₂ S₂ k₂ f₂ n₂ i₂ => ⟨?_, ?_⟩)) rfl rfl (by decide))))
  · intro s' Q' E' k q
    exact (Walks.list (prog := P) (w := w) hh' I a n₂ vs.toArray).self 0 s' Q' E' ⟨i₂.at fun o e => k _ o e, (hl₁.at fun o e => k₂ _ o e).at fun o e => k _ o e⟩ q
  · intro D C s₄ S₄ k₄ fD fC nDC pD nC cc
    have cx := cc "item" (C + 1) (.head _)
    have f₂D : s₁.heap.get? D = none := none_of_ext k₂ fD
    have nDI : D ≠ I := by rintro rfl; obtain ⟨o, q, _⟩ := i₂; rw [fD] at q; cases q
    have nCI : C ≠ I := by rintro rfl; obtain ⟨o, q, _⟩ := i₂; rw [fC] at q; cases q
    have nXI : C + 1 ≠ I := by rintro e; obtain ⟨o, q, _⟩ := i₂; rw [← e, cx.2.2.1] at q; cases q
    have nDa : D ≠ a := by rintro rfl; obtain ⟨o, q, _⟩ := hl₁; rw [k₂ _ _ q] at fD; cases fD
    have nIa : I ≠ a := Ne.symm n₂
    have nDL : D ≠ L + 1 := Ne.symm (cell_ne (cI.keeps k₂) fD)
    have nIL : I ≠ L + 1 := Ne.symm (cell_ne cI f₂)
    have fI₂ : (dropA s₂.heap I).get? I = none := get_dropA_self _ _
    have B0 : ∀ b o, s₁.heap.get? b = some o → (dropA s₂.heap I).get? b = some o := fun b o e => by
      rw [get_dropA_ne _ (by rintro rfl; rw [f₂] at e; cases e)]; exact k₂ _ _ e
    refine compLoopW (Walks.list hh' I a n₂ vs.toArray) (fun i ys h => (∃ m, Fx (dropA s₂.heap I) C h m) ∧ (∃ v, h.IsCell (C + 1) v) ∧ IntsAre ys ((stand xs).take i)) ?_ ?_ ?_ ?_ ?_ ?_ pD ?_ ?_ ?_
    · rintro i ys h h' ⟨⟨m, F⟩, ⟨v, cv⟩, r⟩ k
      exact ⟨⟨m, F.kp k (by simpa using nCI) (by simpa using fI₂)⟩, ⟨v, cell_at cv fun o e => k _ o (by simpa using nXI) e⟩, r⟩
    · rintro i ys h h' ⟨⟨m, F⟩, ⟨v, cv⟩, r⟩ k
      exact ⟨⟨m, F.same k (dropA_none fD) (Ne.symm nDC)⟩, ⟨v, cv.sameBut k (Ne.symm cx.2.2.2)⟩, r⟩
    · simp [nDI, nDa]
    · simp [nDI]
    · exact ⟨⟨_, nC, fun b o e => k₄ _ _ (get_dropA e).2, dropA_none fC⟩, ⟨_, cx.1⟩, by simpa using IntsAre.nil⟩
    · exact ⟨i₂.at fun o e => k₄ _ o e, (hl₁.at fun o e => k₂ _ o e).at fun o e => k₄ _ o e⟩
    · rw [List.size_toArray, hi.length]; exact hz
    · rintro i v ys s₅ hin hv ⟨⟨m, F⟩, ⟨v', cv⟩, r⟩ hSt S₅ pD₅
      have hix : i < xs.length := by rw [List.size_toArray, hi.length] at hin; exact hin
      obtain ⟨t₀, e₀⟩ := intsAre_get hi hix
      obtain rfl : v = .int (xs.getD i 0) t₀ := by
        have : vs.toArray[i]? = vs[i]? := by simp
        rw [this, e₀] at hv; cases hv; rfl
      refine wpAny_assign_Name (scell cv fun s₆ S₆ b₆ c₆ => ?_)
      have k₆' : ∀ b o, s₂.heap.get? b = some o → s₅.heap.get? b = some o → s₆.heap.get? b = some o := fun b o e e' => (b₆.2 b (by rintro rfl; rw [cx.2.2.1] at e; cases e)).trans e'
      have k₆ : Ext s₁.heap s₆.heap := fun b o e => k₆' b o (k₂ _ _ e) (F.keep b o (B0 b o e))
      rw [List.forIn_nil]
      refine wpAny_pure ?_
      rw [if_pos rfl]
      have G₆ : GF s₆.heap := G.keeps (k₁.trans k₆)
      have hl₆ : s₆.heap.IsList a vs.toArray := hl₁.at fun o e => k₆ _ o e
      have pD₆ : s₆.heap.PlainList D ys.toArray := pD₅.at fun o e => (b₆.2 D cx.2.2.2).trans e
      have nC₆ : s₆.heap.Ns C m := F.ns.sameBut b₆ (Nat.ne_of_lt (Nat.lt_succ_self _))
      refine Call1 (bi (v := .builtin "sum") G₆ (by simp [bis]) (compNone (compG (cl := [("item", C + 1)]) (lcell (c := L + 1) (cI.keeps k₆) (iter_l hl₆ fun J s₇ S₇ k₇ f₇ n₇ i₇ => ⟨?_, ?_⟩)) rfl rfl (by decide))))
      · intro s' Q' E' k q
        exact (Walks.list (prog := P) (w := w) hh' J a n₇ vs.toArray).self 0 s' Q' E' ⟨i₇.at fun o e => k _ o e, (hl₆.at fun o e => k₇ _ o e).at fun o e => k _ o e⟩ q
      · intro D' C' s₈ S₈ k₈ fD' fC' nDC' pD' nC' _
        have nDJ : D' ≠ J := by rintro rfl; obtain ⟨o, q, _⟩ := i₇; rw [fD'] at q; cases q
        have nCJ : C' ≠ J := by rintro rfl; obtain ⟨o, q, _⟩ := i₇; rw [fC'] at q; cases q
        have nDa' : D' ≠ a := by rintro rfl; obtain ⟨o, q, _⟩ := hl₆; rw [k₇ _ _ q] at fD'; cases fD'
        have fJ : (dropA s₇.heap J).get? J = none := get_dropA_self _ _
        have B1 : ∀ b o, s₆.heap.get? b = some o → (dropA s₇.heap J).get? b = some o := fun b o e => by
          rw [get_dropA_ne _ (by rintro rfl; rw [f₇] at e; cases e)]; exact k₇ _ _ e
        refine compLoopW (Walks.list hh' J a n₇ vs.toArray) (fun j zs h => (∃ m, Fx (dropA s₇.heap J) C' h m) ∧ IntsAre zs ((xs.map fun y => 1 + sg (xs.getD i 0) y).take j)) ?_ ?_ ?_ ?_ ?_ ?_ pD' ?_ ?_ ?_
        · rintro j zs h h' ⟨⟨m, F⟩, r⟩ k
          exact ⟨⟨m, F.kp k (by simpa using nCJ) (by simpa using fJ)⟩, r⟩
        · rintro j zs h h' ⟨⟨m, F⟩, r⟩ k
          exact ⟨⟨m, F.same k (dropA_none fD') (Ne.symm nDC')⟩, r⟩
        · simp [nDJ, nDa']
        · simp [nDJ]
        · exact ⟨⟨_, nC', fun b o e => k₈ _ _ (get_dropA e).2, dropA_none fC'⟩, by simpa using IntsAre.nil⟩
        · exact ⟨i₇.at fun o e => k₈ _ o e, (hl₆.at fun o e => k₇ _ o e).at fun o e => k₈ _ o e⟩
        · rw [List.size_toArray, hi.length]; exact hz
        · rintro j v zs s₉ hjn hv ⟨⟨m', F'⟩, r'⟩ hSt' S₉ pD₉
          have hjx : j < xs.length := by rw [List.size_toArray, hi.length] at hjn; exact hjn
          obtain ⟨t₁, e₁⟩ := intsAre_get hi hjx
          obtain rfl : v = .int (xs.getD j 0) t₁ := by
            have : vs.toArray[j]? = vs[j]? := by simp
            rw [this, e₁] at hv; cases hv; rfl
          have nsx : ∀ {o}, s₉.heap.get? D' = some o → True := fun _ => trivial
          refine wpAny_assign_Name (sx F'.rebase fun r₁ R₁ F₂ => ?_)
          have F₃ := F'.trans F₂
          have pD₁ : r₁.heap.PlainList D' zs.toArray := pD₉.at fun o e => F₂.keep _ _ (by rw [get_dropA_ne _ nDC']; exact e)
          rw [List.forIn_nil]
          refine wpAny_pure ?_
          rw [if_pos rfl]
          have kk : Ext s₆.heap r₁.heap := fun b o e => F₃.keep b o (B1 b o e)
          have G₇ : GF r₁.heap := G₆.keeps kk
          refine wpAny_BinOp (wpAny_Constant_int (Call2 (gl (v := .ref 97) G₇ (by simp [globs]) (lcell (c := C + 1) (c₆.keeps kk) (lx F₂ rfl ⟨callee_fn (G₇.fn (i := 10) (by simp)), ?_⟩)))))
          refine twc G₇ hr' fun r₂ t₂ R₂ k₂' => add_int ⟨((S₉.tr R₁).tr R₂).tr (Sm.mk' _ _ _), ⟨⟨_, F₃.grow k₂'⟩, ?_⟩, pD₁.at fun o e => k₂' _ o e, ?_⟩
          · rw [take_snoc (d := 0) (by simpa using hjx)]
            have : (xs.map fun y => 1 + sg (xs.getD i 0) y).getD j 0 = 1 + sg (xs.getD i 0) (xs.getD j 0) := by
              simp [List.getElem?_eq_getElem hjx]
            rw [this]
            exact intsAre_snoc r' _ _
          · intro b hb o e
            have hbC : b ≠ C' := by
              have : b = J ∨ b = a := by simpa using hb
              rcases this with rfl | rfl
              · exact Ne.symm nCJ
              · rintro rfl; obtain ⟨o, q, _⟩ := hl₆; rw [k₇ _ _ q] at fC'; cases fC'
            exact k₂' _ _ (F₂.keep b o (by rw [get_dropA_ne _ hbC]; exact e))
        · rintro zs s₉ S₉ ⟨⟨m', F'⟩, r'⟩ pD₉
          refine ⟨m', F'.ns, fun h' hs' => ⟨trivial, ?_⟩⟩
          have e : ((xs.map fun y => 1 + sg (xs.getD i 0) y).take vs.toArray.size) = xs.map fun y => 1 + sg (xs.getD i 0) y := by
            rw [List.size_toArray, hi.length]; exact List.take_of_length_le (by simp)
          rw [e] at r'
          have kk : Ext s₆.heap h' := fun b o eb => (hs'.2 b (by rintro rfl; rw [none_of_ext k₇ fC'] at eb; cases eb)).trans (F'.keep b o (B1 b o eb))
          refine sum_il hh' (.of_plain (pD₉.extBut hs'.extBut nDC') r') fun t₂ r₂ R₂ k₂' => ?_
          have kz : Ext s₆.heap r₂.heap := kk.trans k₂'
          refine ⟨((((S₅.tr S₆).tr S₇).tr S₈).tr S₉).tr R₂, ⟨⟨m, nC₆.keeps kz, fun b o eb => kz _ _ (k₆' b o (get_dropA eb).2 (F.keep b o eb)), F.off⟩, ⟨_, c₆.keeps kz⟩, ?_⟩, pD₆.at fun o e => kz _ o e, ?_⟩
          · rw [take_snoc (d := 0) (by simpa [stand] using hix)]
            have : (stand xs).getD i 0 = (xs.map fun y => 1 + sg (xs.getD i 0) y).sum := by
              simp [stand, stand1, List.getElem?_eq_getElem hix]
            rw [this]
            exact intsAre_snoc r _ _
          · intro b hb o eb
            have : b ≠ C + 1 := by
              have : b = I ∨ b = a := by simpa using hb
              rcases this with rfl | rfl
              · exact Ne.symm nXI
              · rintro rfl; obtain ⟨o, q, _⟩ := hl₁; rw [k₂ _ _ q] at cx; exact absurd cx.2.2.1 (by simp)
            exact kz _ _ ((b₆.2 b this).trans eb)
    · rintro ys s₅ S₅ ⟨⟨m, F⟩, _, r⟩ pD₅
      refine ⟨m, F.ns, fun h' hs' => ?_⟩
      have e : (stand xs).take vs.toArray.size = stand xs := by
        rw [List.size_toArray, hi.length]; exact List.take_of_length_le (by simp [stand])
      rw [e] at r
      exact h _ D ys ((((S₁.tr S₂).tr S₄).tr S₅).tr (Sm.mk' _ _ _)) (fun b o eb => (hs'.2 b (by rintro rfl; rw [none_of_ext (k₁.trans k₂) fC] at eb; cases eb)).trans (F.keep b o (B0 b o (k₁ _ _ eb))))
        (none_of_ext k₁ f₂D) (pD₅.extBut hs'.extBut nDC) r
end Mine
end -- F10

section -- F11
open PySem PySem.W PyProof.Rows PySem.Calls
set_option Elab.async false
set_option maxRecDepth 100000
set_option maxHeartbeats 2000000
namespace Mine
open Hp

/-- every object of a heap, as a ledger -/
def newsOf (h : Heap) : List (Addr × Obj) := (List.range h.objs.size).filterMap fun a => (h.get? a).map fun o => (a, o)
theorem mem_newsOf {h : Heap} {a : Addr} {o : Obj} : (a, o) ∈ newsOf h ↔ h.get? a = some o := by
  unfold newsOf
  rw [List.mem_filterMap]
  constructor
  · rintro ⟨b, _, e⟩
    cases q : h.get? b with
    | none => rw [q] at e; cases e
    | some x => rw [q] at e; cases e; exact q
  · intro e
    exact ⟨a, List.mem_range.mpr (Heap.lt_size e), by rw [e]; rfl⟩
def noHeap : Heap := { objs := #[] }
theorem noHeap_get (a : Addr) : noHeap.get? a = none := rfl
theorem Fx.fr {B h : Heap} {L : Addr} {m} (F : Fx B L h m) : Fr noHeap L h m := ⟨F.ns, fun b o e => (by rw [noHeap_get] at e; cases e), Nat.zero_le _⟩
theorem Fx.news {B h : Heap} {L : Addr} {m} (F : Fx B L h m) : News noHeap L h (newsOf B) := fun p hp =>
  ⟨F.keep _ _ (mem_newsOf.mp hp), (fun e => by have := mem_newsOf.mp hp; rw [e, F.off] at this; cases this), noHeap_get _⟩
theorem Fx.back {B h : Heap} {L : Addr} {m} {more : List (Addr × Obj)} (F : Fr noHeap L h m) (N : News noHeap L h (more ++ newsOf B)) (off : B.get? L = none) : Fx B L h m :=
  ⟨F.ns, fun b o e => (N (b, o) (List.mem_append.mpr (.inr (mem_newsOf.mpr e)))).1, off⟩

section
variable {w : World} {A : Around} {E : Value → Shared → Prop} {s : Shared} {env : Env}

theorem add_l {l b : Addr} {vs ws : List Value} {Q : Value → Shared → Prop} (hl : s.heap.IsList l vs.toArray) (hb : s.heap.IsList b ws.toArray) (hz : vs.length + ws.length < 2000)
    (h : ∀ s' D, Sm s s' → Ext s.heap s'.heap → s.heap.get? D = none → s'.heap.PlainList D (vs ++ ws).toArray → Q (.ref D) s') :
    wpAny (model P w) A (binaryOp .Add (.ref l) (.ref b)) Q E s := by
  obtain ⟨⟨cls, dd, data, sl⟩, ho, hc, n, hd⟩ := id hl
  obtain ⟨⟨cls2, dd2, data2, sl2⟩, ho2, hc2, n2, hd2⟩ := id hb
  simp only at hc hd hc2 hd2
  subst hc hd hc2 hd2
  have e : vs.toArray ++ ws.toArray = (vs ++ ws).toArray := by simp
  refine concat_meets ⟨_, ho, rfl⟩ ⟨_, ho2, rfl⟩ noFill_list_add seq_list_add PySem.F.slot_list_add PySem.F.entry_list_add (PySem.F.args_list_add_2 _ _)
    (list_addW l b vs.toArray ws.toArray n n2 dd dd2 sl sl2 (by simp only [List.size_toArray, sizeLine_eq]; omega)) ⟨ho, ho2, ?_⟩
  rw [e]
  exact h _ _ ⟨rfl, rfl, rfl⟩ (ext_push _ _) (fresh_none _) ⟨0, Heap.get?_push_size _ rfl⟩

theorem list_l {l : Addr} {vs : List Value} {Q : Value → Shared → Prop} (hl : s.heap.IsList l vs.toArray) (hz : vs.length < 1000)
    (h : ∀ s' D c, Sm s s' → Ext s.heap s'.heap → s.heap.get? D = none → s'.heap.get? D = some (PySem.W.listOf vs.toArray c) → Q (.ref D) s') : wpAny (model P w) A (call (.type "list") [.ref l]) Q E s := by
  obtain ⟨o, ho, hc, n, hd⟩ := hl
  exact call_list_seq (hsz := by rw [List.size_toArray, sizeLine_eq]; omega) l (.inl rfl) ho hc hd fun h' c' hk hD => h _ _ c' ⟨rfl, rfl, rfl⟩ hk (fresh_none _) hD
end

/-- in order, by < -/
abbrev Srt (lt : Value → Value → Bool) (vs : List Value) : Prop := vs.Pairwise fun x y => lt y x = false

theorem off_ct {w : World} {A : Around} {E : Value → Shared → Prop} {s : Shared} {a : Addr} {vs : List Value} {lt : Value → Value → Bool} {S : Value → Prop} {Q : Value → Shared → Prop}
    (O : Ordr lt) (irr : ∀ a, lt a a = false) (G : GF s.heap) (C : CmpOk w s.heap lt S) (hr : A.depth + 3 < recursionLimit) (hu : A.units < 600) (hh : A.handled = none)
    (ha : s.heap.IsList a vs.toArray) (hS : ∀ v ∈ vs, S v) (hz : vs.length < 1000)
    (h : ∀ s' D zs, Sm s s' → Ext s.heap s'.heap → s.heap.get? D = none → s'.heap.PlainList D zs.toArray → zs.Perm vs → Srt lt zs → Q (.ref D) s') : wpAny (model P w) A (call (.ref 107) [.ref a]) Q E s := by
  obtain ⟨pm, c, ho, hc⟩ := G.fn (i := 13) (f := 107) (by simp)
  refine wpAny_call (call_cells (binds := [("items", .ref a)]) (by omega) ho rfl G.nolimit hc rfl ?_ ?_)
  · intro x hx
    obtain rfl : x = (Str.ofString "items", Value.ref a) := by simpa using hx
    exact .inl rfl
  intro h₁ tk F₁ X₁
  have cI : h₁.IsCell (s.heap.objs.size + 1) none := X₁.cell "heap" (s.heap.objs.size + 1) rfl
  have fI : s.heap.get? (s.heap.objs.size + 1) = none := Heap.get?_none_of_le (by omega)
  have Fb := Fx.of_fr F₁
  generalize hL : s.heap.objs.size = L at cI fI Fb ⊢
  generalize hA' : Around.deeper A _ = A'
  have hh' : A'.handled = none := by rw [← hA']; exact hh
  have hr' : A'.depth + 2 < recursionLimit := by rw [← hA']; exact hr
  have hu' : A'.units < 700 := by rw [← hA']; show A.units + 3 < 700; omega
  have S₁ : Sm s { s with heap := h₁, toks := tk } := ⟨rfl, rfl, rfl⟩
  replace cI : { s with heap := h₁, toks := tk }.heap.IsCell (L + 1) none := cI
  replace Fb : Fx s.heap L { s with heap := h₁, toks := tk }.heap _ := Fb
  generalize { s with heap := h₁, toks := tk } = s₁ at cI Fb S₁ ⊢
  clear F₁ X₁ ho hc
  have hl₁ : s₁.heap.IsList a vs.toArray := ha.at fun o e => Fb.keep _ o e
  refine wpAny_execs_cons (wpAny_Assign_Name (Call1 (bi (v := .type "list") (Fb.gf G) (by simp [bis]) (lx Fb rfl ⟨trivial, list_l hl₁ hz fun s₂ H e₀ S₂ k₂ fH lH => ?_⟩))))
  refine scell (c := L + 1) (cI.keeps k₂) fun s₃ S₃ b₃ c₃ => ?_
  have nHL : L + 1 ≠ H := cell_ne cI fH
  have F₃ : Fx s.heap L s₃.heap _ := (Fb.grow k₂).same b₃ fI (Nat.ne_of_lt (Nat.lt_succ_self _))
  have lH₃ : s₃.heap.get? H = some (PySem.W.listOf vs.toArray e₀) := (b₃.2 H (Ne.symm nHL)).trans lH
  have fHs : s.heap.get? H = none := none_of_ext Fb.keep fH
  have G₃ := F₃.gf G
  refine wpAny_execs_cons (wpAny_Expr (Call1 (gl (v := .ref 76) G₃ (by simp [globs]) (lcell (c := L + 1) c₃ ⟨callee_fn (G₃.fn (i := 6) (by simp)), ?_⟩))))
  refine heapify_ct O G F₃.keep fHs C hr' hu' hh' lH₃ hS (by omega) fun s₄ vs₄ S₄ K₄ l₄ p₄ h₄ => ?_
  have F₄ : Fx s.heap L s₄.heap _ := F₃.kp K₄ (by simpa using (ne_of_ns Fb.ns fH)) (by simpa using fHs)
  have c₄ : s₄.heap.IsCell (L + 1) (some (.ref H)) := cell_at c₃ fun o e => K₄ _ o (by simpa using nHL) e
  have hl₄ : s₄.heap.IsList a vs.toArray := ha.at fun o e => F₄.keep _ o e
  have hlen₄ := p₄.length_eq
  refine wpAny_execs_cons (wpAny_Return_some (wpAny_BinOp (compNone (compG (cl := [("heap", L + 1)]) (lx F₄ rfl (iter_l hl₄ fun I s₅ S₅ k₅ f₅ n₅ i₅ => ⟨?_, ?_⟩)) rfl rfl (by decide)))))
  · intro s' Q' E' k q
    exact (Walks.list (prog := P) (w := w) hh' I a n₅ vs.toArray).self 0 s' Q' E' ⟨i₅.at fun o e => k _ o e, (hl₄.at fun o e => k₅ _ o e).at fun o e => k _ o e⟩ q
  · intro D Cc s₆ S₆ k₆ fD fC nDC pD nC _
    have nDI : D ≠ I := by rintro rfl; obtain ⟨o, q, _⟩ := i₅; rw [fD] at q; cases q
    have nCI : Cc ≠ I := by rintro rfl; obtain ⟨o, q, _⟩ := i₅; rw [fC] at q; cases q
    have nDH : D ≠ H := by rintro rfl; rw [k₅ _ _ l₄] at fD; cases fD
    have nCH : Cc ≠ H := by rintro rfl; rw [k₅ _ _ l₄] at fC; cases fC
    have nIH : I ≠ H := by rintro rfl; rw [l₄] at f₅; cases f₅
    have nDa : D ≠ a := by rintro rfl; obtain ⟨o, q, _⟩ := hl₄; rw [k₅ _ _ q] at fD; cases fD
    have naH : a ≠ H := by rintro rfl; obtain ⟨o, q, _⟩ := ha; rw [fHs] at q; cases q
    have nCa : Cc ≠ a := by rintro rfl; obtain ⟨o, q, _⟩ := hl₄; rw [k₅ _ _ q] at fC; cases fC
    have nCL : Cc ≠ L + 1 := Ne.symm (cell_ne (c₄.keeps k₅) fC)
    have nDL : D ≠ L + 1 := Ne.symm (cell_ne (c₄.keeps k₅) fD)
    have nIL : I ≠ L + 1 := Ne.symm (cell_ne c₄ f₅)
    have fI₅ : (dropA (dropA s₅.heap I) H).get? I = none := dropA_none (get_dropA_self _ _)
    have fH₅ : (dropA (dropA s₅.heap I) H).get? H = none := get_dropA_self _ _
    have B0 : ∀ b o, b ≠ H → s₄.heap.get? b = some o → (dropA (dropA s₅.heap I) H).get? b = some o := fun b o nb e => by
      rw [get_dropA_ne _ nb, get_dropA_ne _ (by rintro rfl; rw [f₅] at e; cases e)]; exact k₅ _ _ e
    refine compLoopW (Walks.list hh' I a n₅ vs.toArray) (fun i ys h => (∃ m, Fx (dropA (dropA s₅.heap I) H) Cc h m) ∧ ∃ rest e, h.get? H = some (PySem.W.listOf rest.toArray e) ∧ (ys ++ rest).Perm vs ∧ ys.length = i ∧ HeapFrom lt rest.length 0 (fv rest) ∧ Srt lt ys ∧ ∀ y ∈ ys, ∀ r ∈ rest, lt r y = false) ?_ ?_ ?_ ?_ ?_ ?_ pD ?_ ?_ ?_
    · rintro i ys h h' ⟨⟨m, F⟩, rest, e, l, r⟩ k
      exact ⟨⟨m, F.kp k (by simpa using nCI) (by simpa using fI₅)⟩, rest, e, k _ _ (by simpa using Ne.symm nIH) l, r⟩
    · rintro i ys h h' ⟨⟨m, F⟩, rest, e, l, r⟩ k
      exact ⟨⟨m, F.same k (dropA_none (dropA_none fD)) (Ne.symm nDC)⟩, rest, e, (k.2 H (Ne.symm nDH)).trans l, r⟩
    · simp [nDI, nDa]
    · simp [nDI]
    · exact ⟨⟨_, nC, fun b o e => k₆ _ _ (get_dropA (get_dropA e).2).2, dropA_none (dropA_none fC)⟩, vs₄, _, k₆ _ _ (k₅ _ _ l₄), by simpa using p₄, rfl, by rw [hlen₄]; exact h₄, .nil, by simp⟩
    · exact ⟨i₅.at fun o e => k₆ _ o e, (hl₄.at fun o e => k₅ _ o e).at fun o e => k₆ _ o e⟩
    · rw [List.size_toArray]; exact hz
    · rintro i v ys s₇ hin hv ⟨⟨m, F⟩, rest, e, l, hp, hyl, hhp, hsr, hle⟩ hSt S₇ pD₇
      refine wpAny_assign_Name (sx F.rebase fun s₈ S₈ F₈ => ?_)
      have F₉ := F.trans F₈
      rw [List.forIn_nil]
      refine wpAny_pure ?_
      rw [if_pos rfl]
      have kk : Ext s.heap s₈.heap := fun b o eb => F₉.keep b o (B0 b o (by rintro rfl; rw [fHs] at eb; cases eb) (F₄.keep _ _ eb))
      have G₈ : GF s₈.heap := G.keeps kk
      have c₈ : s₈.heap.IsCell (L + 1) (some (.ref H)) := cell_at c₄ fun o eb => F₉.keep _ o (B0 _ o nHL eb)
      have l₈ : s₈.heap.get? H = some (PySem.W.listOf rest.toArray e) := F₈.keep _ _ (by rw [get_dropA_ne _ (Ne.symm nCH)]; exact l)
      have hrl : rest.length = vs.length - i := by
        have := hp.length_eq
        rw [List.length_append] at this; omega
      have hin' : i < vs.length := by simpa using hin
      refine Call1 (gl (v := .ref 69) G₈ (by simp [globs]) (lcell (c := L + 1) c₈ ⟨callee_fn (G₈.fn (i := 5) (by simp)), ?_⟩))
      refine heappop_ct O irr G kk fHs C hr' hu' l₈ (fun v hv => hS v (hp.subset (List.mem_append.mpr (.inr hv)))) (by omega) (by intro q; rw [q] at hrl; simp at hrl; omega) hhp fun s₉ r rest' e' S₉ K₉ l₉ p₉ h₉ hh₉ => ?_
      refine ⟨(S₇.tr S₈).tr S₉, ⟨⟨_, F₉.kp K₉ (by simpa using nCH) (by simpa using fH₅)⟩, rest', e', l₉, ?_, ?_, hh₉, ?_, ?_⟩, ?_, ?_⟩
      · rw [List.append_assoc]
        exact (List.Perm.append_left ys p₉).trans hp
      · simp [hyl]
      · refine List.pairwise_append.mpr ⟨hsr, List.pairwise_singleton _ _, fun y hy z hz' => ?_⟩
        obtain rfl : z = r := by simpa using hz'
        exact hle y hy z (p₉.subset (.head _))
      · intro y hy z hz'
        have hz2 : z ∈ rest := p₉.subset (List.mem_cons_of_mem _ hz')
        rcases List.mem_append.mp hy with hy | hy
        · exact hle y hy z hz2
        · obtain rfl : y = r := by simpa using hy
          exact h₉ z hz2
      · exact pD₇.at fun o eb => K₉ _ o (by simpa using nDH) (F₈.keep _ o (by rw [get_dropA_ne _ nDC]; exact eb))
      · intro b hb o eb
        have hb' : b = I ∨ b = a := by simpa using hb
        have nbH : b ≠ H := hb'.elim (fun q => q ▸ nIH) fun q => q ▸ naH
        have nbC : b ≠ Cc := hb'.elim (fun q => q ▸ Ne.symm nCI) fun q => q ▸ Ne.symm nCa
        exact K₉ _ _ (by simpa using nbH) (F₈.keep b o (by rw [get_dropA_ne _ nbC]; exact eb))
    · rintro ys s₇ S₇ ⟨⟨m, F⟩, rest, e, l, hp, hyl, hhp, hsr, hle⟩ pD₇
      refine ⟨m, F.ns, fun h' hs' => ?_⟩
      have hyl' : ys.length = vs.length := by simpa using hyl
      have hr0 : rest = [] := by
        have := hp.length_eq
        rw [List.length_append] at this
        exact List.length_eq_zero_iff.mp (by omega)
      subst hr0
      have lH' : h'.get? H = some (PySem.W.listOf [].toArray e) := (hs'.2 H (Ne.symm nCH)).trans l
      have c₇ : h'.IsCell (L + 1) (some (.ref H)) := (cell_at c₄ fun o eb => F.keep _ o (B0 _ o nHL eb)).sameBut hs' (Ne.symm nCL)
      refine lcell (c := L + 1) c₇ (add_l (vs := ys) (ws := []) (pD₇.extBut hs'.extBut nDC).isList (PySem.IsL.isList (n := e) lH') (by simp; omega) fun s₈ Z S₈ k₈ fZ pZ => ?_)
      have kk : Ext s.heap h' := fun b o eb => (hs'.2 b (by rintro rfl; rw [none_of_ext (F₄.keep.trans k₅) fC] at eb; cases eb)).trans (F.keep b o (B0 b o (by rintro rfl; rw [fHs] at eb; cases eb) (F₄.keep _ _ eb)))
      rw [List.append_nil] at hp pZ
      exact h _ Z ys ((((((((S₁.tr S₂).tr S₃).tr S₄).tr S₅).tr S₆).tr S₇).tr (Sm.mk' _ _ _)).tr S₈) (kk.trans k₈) (none_of_ext kk fZ) pZ hp hsr
end Mine
end -- F11

section -- L1
set_option maxRecDepth 100000
namespace Mine.Fp
open PySem PySem.Float64

/-- a finite float that is the whole number i -/
def IsI (x : UInt64) (i : Int) : Prop := (∃ a m e, decode x = .fin a m e) ∧ val x = i * 2 ^ 1074

theorem exists_V (n : Nat) (h : n ≤ 2 ^ 53) : ∃ t, V t = n * 2 ^ 1074 := by
  by_cases h0 : n = 0
  · exact ⟨0, by rw [h0, V_zero, Nat.zero_mul]⟩
  by_cases h1 : n = 2 ^ 53
  · exact ⟨1074 * 2 ^ 52 + 2 ^ 53, by rw [V_at (Nat.le_refl _) (.inl (by decide)), h1]⟩
  have hl : n.log2 ≤ 52 := by
    have : n.log2 < 53 := (Nat.log2_lt h0).mpr (by omega)
    omega
  have hlo : 2 ^ n.log2 ≤ n := Nat.log2_self_le h0
  have hhi : n < 2 ^ (n.log2 + 1) := Nat.lt_log2_self
  generalize n.log2 = l at hl hlo hhi
  have e1 : 2 ^ l * 2 ^ (52 - l) = 2 ^ 52 := by rw [← Nat.pow_add]; congr 1; omega
  have e2 : 2 ^ (l + 1) * 2 ^ (52 - l) = 2 ^ 53 := by rw [← Nat.pow_add]; congr 1; omega
  have a1 : 2 ^ 52 ≤ n * 2 ^ (52 - l) := by rw [← e1]; exact Nat.mul_le_mul_right _ hlo
  have a2 : n * 2 ^ (52 - l) ≤ 2 ^ 53 := by rw [← e2]; exact Nat.mul_le_mul_right _ (Nat.le_of_lt hhi)
  refine ⟨(1022 + l) * 2 ^ 52 + n * 2 ^ (52 - l), ?_⟩
  rw [V_at a2 (.inl a1), Nat.mul_assoc, ← Nat.pow_add]
  congr 2
  omega

theorem dist_self (a : Nat) : dist a a = 0 := by unfold dist; omega
theorem dist_zero {a b : Nat} (h : dist a b = 0) : a = b := by unfold dist at h; omega

theorem right_exact {r : UInt64} {neg : Bool} {n W D : Nat} (h : Right r neg W D) (hD : 0 < D) (hn : n ≤ 2 ^ 53) (hW : W = D * (n * 2 ^ 1074)) : IsI r (sgn neg n) := by
  obtain ⟨t, rfl, hle, hinf, hr⟩ := h
  have hlt : t < infMag := by
    rcases Nat.lt_or_ge t infMag with q | q
    · exact q
    · have e : t = infMag := Nat.le_antisymm hle q
      have := hinf.mp e
      rw [hW, Nat.mul_left_comm 2 D] at this
      have h2 := Nat.le_of_mul_le_mul_left this hD
      have h3 : 2 * (n * 2 ^ 1074) ≤ 2 * (2 ^ 53 * 2 ^ 1074) := Nat.mul_le_mul_left _ (Nat.mul_le_mul_right _ hn)
      have h4 : 2 * (2 ^ 53 * 2 ^ 1074) < (2 ^ 54 - 1) * 2 ^ 2045 := by decide +kernel
      exact absurd (Nat.le_trans h2 h3) (Nat.not_le.mpr h4)
  obtain ⟨t', ht'⟩ := exists_V n hn
  have hd := (hr hlt t').1
  rw [ht', ← hW, dist_self] at hd
  have hV : V t = n * 2 ^ 1074 := by
    have := dist_zero (Nat.le_zero.mp hd)
    rw [hW] at this
    exact (Nat.eq_of_mul_eq_mul_left hD this).symm
  obtain ⟨m, e, hdec, _⟩ := decode_pack neg hlt
  refine ⟨⟨_, _, _, hdec⟩, ?_⟩
  rw [val_pack neg hlt, hV]
  have := sgn_mul neg n (2 ^ 1074)
  rw [this]
  congr 1

theorem sgn_lt (i : Int) : sgn (decide (i < 0)) i.natAbs = i := by
  unfold sgn
  by_cases h : i < 0
  · simp [h]; omega
  · simp [h]; omega

theorem isI_ofInt {i : Int} (h : i.natAbs ≤ 2 ^ 53) : IsI (ofInt i) i := by
  have := right_exact (ofInt_right i) (by decide) h (by rw [Nat.one_mul])
  rwa [sgn_lt] at this

theorem val_zero (s : Bool) : val (zero s) = 0 ∧ ∃ a m e, decode (zero s) = .fin a m e := by
  cases s
  · exact ⟨by decide +kernel, ⟨false, 0, -1074, by with_unfolding_all rfl⟩⟩
  · exact ⟨by decide +kernel, ⟨true, 0, -1074, by with_unfolding_all rfl⟩⟩
theorem isI_zero (s : Bool) : IsI (zero s) 0 := ⟨(val_zero s).2, by rw [(val_zero s).1, Int.zero_mul]⟩

theorem pow_pos_int : (0 : Int) < 2 ^ 1074 := Int.pow_pos (by decide)

theorem natAbs_mul_pow (i : Int) : (i * 2 ^ 1074).natAbs = i.natAbs * 2 ^ 1074 := by
  rw [Int.natAbs_mul]; congr 1

theorem isI_add {x y : UInt64} {i j : Int} (hx : IsI x i) (hy : IsI y j) (h : (i + j).natAbs ≤ 2 ^ 53) : IsI (add x y) (i + j) := by
  obtain ⟨⟨a, m, e, dx⟩, vx⟩ := hx
  obtain ⟨⟨b, k, f, dy⟩, vy⟩ := hy
  have R := add_right dx dy
  rw [vx, vy, ← Int.add_mul] at R
  by_cases h0 : i + j = 0
  · rw [h0, Int.zero_mul] at R
    rw [R.1 rfl, h0]
    exact isI_zero _
  · have hne : (i + j) * 2 ^ 1074 ≠ 0 := Int.mul_ne_zero h0 (Int.ne_of_gt pow_pos_int)
    have := right_exact (R.2 hne) (by decide) h (by rw [natAbs_mul_pow, Nat.one_mul])
    have e : decide ((i + j) * 2 ^ 1074 < 0) = decide (i + j < 0) := by
      congr 1
      apply propext
      constructor
      · intro q
        by_cases r : i + j < 0
        · exact r
        · replace r := Int.not_lt.mp r
          exact absurd q (Int.not_lt.mpr (Int.mul_nonneg r (Int.le_of_lt pow_pos_int)))
      · intro q; exact Int.mul_neg_of_neg_of_pos q pow_pos_int
    rw [e, sgn_lt] at this
    exact this

theorem isI_neg {y : UInt64} {j : Int} (hy : IsI y j) : IsI (neg y) (-j) := by
  obtain ⟨⟨b, k, f, dy⟩, vy⟩ := hy
  exact ⟨⟨_, _, _, neg_decode dy⟩, by rw [neg_val dy, vy, Int.neg_mul]⟩
theorem isI_sub {x y : UInt64} {i j : Int} (hx : IsI x i) (hy : IsI y j) (h : (i - j).natAbs ≤ 2 ^ 53) : IsI (sub x y) (i - j) := by
  rw [Int.sub_eq_add_neg] at h ⊢
  have e : sub x y = add x (neg y) := by with_unfolding_all rfl
  rw [e]
  exact isI_add hx (isI_neg hy) h

theorem sgn_ne (a b : Bool) (m k : Nat) : sgn (a != b) (m * k) = sgn a m * sgn b k := by
  unfold sgn
  cases a <;> cases b <;> simp [Int.neg_mul, Int.mul_neg]

theorem val_sign {x : UInt64} {a : Bool} {m : Nat} {e i : Int} (dx : decode x = .fin a m e) (vx : val x = i * 2 ^ 1074) : sgn a i.natAbs = i := by
  rw [val_eq dx] at vx
  unfold sgn at vx ⊢
  have hp := pow_pos_int
  cases a
  · simp only [Bool.false_eq_true, if_false] at vx ⊢
    by_cases r : i < 0
    · have h1 := Int.mul_neg_of_neg_of_pos r hp
      rw [← vx] at h1
      exact absurd h1 (Int.not_lt.mpr (Int.natCast_nonneg _))
    · omega
  · simp only [if_true] at vx ⊢
    by_cases r : 0 < i
    · have h1 := Int.mul_pos r hp
      rw [← vx] at h1
      have : (0 : Int) ≤ ((m * 2 ^ (e + 1074).toNat : Nat) : Int) := Int.natCast_nonneg _
      omega
    · omega

theorem isI_mul {x y : UInt64} {i j : Int} (hx : IsI x i) (hy : IsI y j) (h : (i * j).natAbs ≤ 2 ^ 53) : IsI (mul x y) (i * j) := by
  obtain ⟨⟨a, m, e, dx⟩, vx⟩ := hx
  obtain ⟨⟨b, k, f, dy⟩, vy⟩ := hy
  have R := mul_right dx dy
  rw [vx, vy, natAbs_mul_pow, natAbs_mul_pow] at R
  have hK : 0 < 2 ^ 1074 := Nat.two_pow_pos _
  have e : i.natAbs * 2 ^ 1074 * (j.natAbs * 2 ^ 1074) = 2 ^ 1074 * ((i * j).natAbs * 2 ^ 1074) := by
    rw [Int.natAbs_mul]
    generalize 2 ^ 1074 = K
    ac_rfl
  have := right_exact R hK h e
  rw [Int.natAbs_mul, sgn_ne, val_sign dx vx, val_sign dy vy] at this
  exact this

theorem isI_div {x y : UInt64} {i j : Int} (hx : IsI x (i * j)) (hy : IsI y j) (hj : j ≠ 0) (h : i.natAbs ≤ 2 ^ 53) : IsI (div x y) i := by
  obtain ⟨⟨a, m, e, dx⟩, vx⟩ := hx
  obtain ⟨⟨b, k, f, dy⟩, vy⟩ := hy
  have hK : 0 < 2 ^ 1074 := Nat.two_pow_pos _
  have hk : k ≠ 0 := by
    rintro rfl
    rw [val_eq dy] at vy
    have : sgn b (0 * 2 ^ (f + 1074).toNat) = 0 := by unfold sgn; cases b <;> simp
    rw [this] at vy
    exact Int.mul_ne_zero hj (Int.ne_of_gt pow_pos_int) vy.symm
  have R := div_right dx dy hk
  rw [vx, vy, natAbs_mul_pow, natAbs_mul_pow] at R
  have hjn : 0 < j.natAbs := Int.natAbs_pos.mpr hj
  have e : (i * j).natAbs * 2 ^ 1074 * 2 ^ 1074 = j.natAbs * 2 ^ 1074 * (i.natAbs * 2 ^ 1074) := by
    rw [Int.natAbs_mul]
    generalize 2 ^ 1074 = K
    ac_rfl
  have := right_exact R (Nat.mul_pos hjn hK) h e
  have s1 := val_sign dx vx
  have s2 := val_sign dy vy
  have key : sgn (a != b) i.natAbs = i := by
    unfold sgn at s1 s2 ⊢
    have hi : (i * j).natAbs = i.natAbs * j.natAbs := Int.natAbs_mul i j
    by_cases i0 : i = 0
    · subst i0; cases a <;> cases b <;> simp
    · cases a <;> cases b <;> simp at s1 s2 ⊢
      · have h2 : 0 < j := by omega
        have h1 : 0 ≤ i * j := by omega
        have : 0 ≤ i := by
          by_cases q : i < 0
          · exact absurd (Int.mul_neg_of_neg_of_pos q h2) (Int.not_lt.mpr h1)
          · omega
        omega
      · have h2 : j < 0 := by omega
        have h1 : 0 ≤ i * j := by omega
        have : i ≤ 0 := by
          by_cases q : 0 < i
          · exact absurd (Int.mul_neg_of_pos_of_neg q h2) (Int.not_lt.mpr h1)
          · omega
        omega
      · have h2 : 0 < j := by omega
        have h1 : i * j ≤ 0 := by omega
        have : i ≤ 0 := by
          by_cases q : 0 < i
          · exact absurd (Int.mul_pos q h2) (Int.not_lt.mpr h1)
          · omega
        omega
      · have h2 : j < 0 := by omega
        have h1 : i * j ≤ 0 := by omega
        have : 0 ≤ i := by
          by_cases q : i < 0
          · exact absurd (Int.mul_pos_of_neg_of_neg q h2) (Int.not_lt.mpr h1)
          · omega
        omega
  rw [key] at this
  exact this

theorem isI_finite {x : UInt64} {i : Int} (h : IsI x i) : isFinite x = true := by
  obtain ⟨⟨a, m, e, dx⟩, _⟩ := h
  unfold isFinite; rw [dx]
theorem isI_isZero {x : UInt64} {i : Int} (h : IsI x i) : isZero x = decide (i = 0) := by
  obtain ⟨⟨a, m, e, dx⟩, vx⟩ := h
  unfold isZero
  rw [dx]
  rw [val_eq dx] at vx
  cases m with
  | zero =>
    have : sgn a (0 * 2 ^ (e + 1074).toNat) = 0 := by unfold sgn; cases a <;> simp
    rw [this] at vx
    have : i = 0 := by
      by_cases q : i = 0
      · exact q
      · exact absurd vx.symm (Int.mul_ne_zero q (Int.ne_of_gt pow_pos_int))
    simp [this]
  | succ m =>
    have hne : i ≠ 0 := by
      rintro rfl
      rw [Int.zero_mul] at vx
      have h2 := congrArg Int.natAbs vx
      rw [sgn_natAbs] at h2
      have : 0 < (m + 1) * 2 ^ (e + 1074).toNat := Nat.mul_pos (by omega) (Nat.two_pow_pos _)
      exact absurd h2 (Nat.ne_of_gt this)
    simp [hne]
theorem fma_cancel {x y z : UInt64} {i j : Int} (hx : IsI x i) (hy : IsI y j) (hz : IsI z (-(i * j))) : IsI (fma x y z) 0 := by
  obtain ⟨⟨a, m, e, dx⟩, vx⟩ := hx
  obtain ⟨⟨b, k, f, dy⟩, vy⟩ := hy
  obtain ⟨⟨c, n, g, dz⟩, vz⟩ := hz
  have he := decode_ge dx
  have hf := decode_ge dy
  have hg := decode_ge dz
  unfold fma
  rw [dx, dy, dz]
  dsimp only [align]
  have key : sgn (a != b) (m * k * 2 ^ (e + f - min (e + f) g).toNat) + sgn c (n * 2 ^ (g - min (e + f) g).toNat) = 0 := by
    rw [val_eq dx] at vx
    rw [val_eq dy] at vy
    rw [val_eq dz] at vz
    have hP : (0 : Int) < ((2 ^ (min (e + f) g + 2148).toNat : Nat) : Int) := Int.natCast_pos.mpr (Nat.two_pow_pos _)
    have q1 : sgn (a != b) (m * k * 2 ^ (e + f - min (e + f) g).toNat) * ((2 ^ (min (e + f) g + 2148).toNat : Nat) : Int) = (i * 2 ^ 1074) * (j * 2 ^ 1074) := by
      rw [← sgn_mul, Nat.mul_assoc, ← Nat.pow_add, ← vx, ← vy, ← sgn_ne]
      congr 1
      have : (e + f - min (e + f) g).toNat + (min (e + f) g + 2148).toNat = (e + 1074).toNat + (f + 1074).toNat := by omega
      rw [this, Nat.pow_add]
      generalize 2 ^ (e + 1074).toNat = p
      generalize 2 ^ (f + 1074).toNat = q
      ac_rfl
    have q2 : sgn c (n * 2 ^ (g - min (e + f) g).toNat) * ((2 ^ (min (e + f) g + 2148).toNat : Nat) : Int) = -(i * j) * 2 ^ 1074 * 2 ^ 1074 := by
      rw [← sgn_mul, Nat.mul_assoc, ← Nat.pow_add, ← vz]
      have : (g - min (e + f) g).toNat + (min (e + f) g + 2148).toNat = (g + 1074).toNat + 1074 := by omega
      rw [this, Nat.pow_add, ← Nat.mul_assoc, sgn_mul]
      congr 1
    have q3 : (sgn (a != b) (m * k * 2 ^ (e + f - min (e + f) g).toNat) + sgn c (n * 2 ^ (g - min (e + f) g).toNat)) * ((2 ^ (min (e + f) g + 2148).toNat : Nat) : Int) = 0 := by
      rw [Int.add_mul, q1, q2]
      generalize (2 : Int) ^ 1074 = K
      rw [Int.neg_mul, Int.neg_mul]
      have : i * K * (j * K) = i * j * K * K := by ac_rfl
      omega
    rcases Int.mul_eq_zero.mp q3 with r | r
    · exact r
    · exact absurd r (Int.ne_of_gt hP)
  rw [key]
  simp only [beq_self_eq_true, if_true]
  exact isI_zero _

theorem isI_dlSum {a b : UInt64} {i j : Int} (ha : IsI a i) (hb : IsI b j) (h1 : i.natAbs ≤ 2 ^ 51) (h2 : j.natAbs ≤ 2 ^ 51) : IsI (Builtin.Math.dlSum a b).1 (i + j) ∧ IsI (Builtin.Math.dlSum a b).2 0 := by
  have x := isI_add ha hb (by omega)
  have z := isI_sub x ha (by omega)
  have e1 : i + j - i = j := by omega
  rw [e1] at z
  have u := isI_sub x z (by omega)
  have e2 : i + j - j = i := by omega
  rw [e2] at u
  have v := isI_sub ha u (by omega)
  have t := isI_sub hb z (by omega)
  rw [Int.sub_self] at v t
  exact ⟨x, isI_add v t (by decide)⟩

/-- one turn of sumprod, all whole -/
theorem isI_tlFma {x y : UInt64} {i j k : Int} {t : UInt64 × UInt64 × UInt64} (hx : IsI x i) (hy : IsI y j) (h1 : IsI t.1 k) (h2 : IsI t.2.1 0) (h3 : IsI t.2.2 0) (hk : k.natAbs ≤ 2 ^ 51) (hij : (i * j).natAbs ≤ 2 ^ 51) :
    IsI (Builtin.Math.tlFma x y t).1 (k + i * j) ∧ IsI (Builtin.Math.tlFma x y t).2.1 0 ∧ IsI (Builtin.Math.tlFma x y t).2.2 0 := by
  have m := isI_mul hx hy (by omega)
  have f := fma_cancel hx hy (isI_neg m)
  have sm := isI_dlSum h1 m hk hij
  have r1 := isI_dlSum h2 f (by decide) (by decide)
  have r2 := isI_dlSum r1.1 sm.2 (by decide) (by decide)
  exact ⟨sm.1, r2.1, isI_add (isI_add h3 r1.2 (by decide)) r2.2 (by decide)⟩

theorem isI_tlToFloat {k : Int} {t : UInt64 × UInt64 × UInt64} (h1 : IsI t.1 k) (h2 : IsI t.2.1 0) (h3 : IsI t.2.2 0) (hk : k.natAbs ≤ 2 ^ 51) : IsI (Builtin.Math.tlToFloat t) k := by
  have l := isI_dlSum h2 h1 (by decide) hk
  rw [Int.zero_add] at l
  have := isI_add (isI_add h3 l.2 (by decide)) l.1 (by omega)
  simpa [Builtin.Math.tlToFloat] using this

/-- the partials of fsum, all whole -/
def Part (ps : List UInt64) (S : Int) : Prop := (ps = [] ∧ S = 0) ∨ ∃ p, ps = [p] ∧ IsI p S

theorem part_add {ps : List UInt64} {S i : Int} {x : UInt64} (h : Part ps S) (hx : IsI x i) (h1 : S.natAbs ≤ 2 ^ 51) (h2 : i.natAbs ≤ 2 ^ 51) :
    (fsumAdd ps x).1 = [] ∧ IsI (fsumAdd ps x).2 (S + i) := by
  rcases h with ⟨rfl, rfl⟩ | ⟨p, rfl, hp⟩
  · rw [Int.zero_add]; exact ⟨rfl, hx⟩
  · have go : ∀ (u v : UInt64) (a b : Int), IsI u a → IsI v b → a.natAbs ≤ 2 ^ 51 → b.natAbs ≤ 2 ^ 51 → isZero (sub v (sub (add u v) u)) = true ∧ IsI (add u v) (a + b) := by
      intro u v a b hu hv ha hb
      have s := isI_add hu hv (by omega)
      have d := isI_sub s hu (by omega)
      have e : a + b - a = b := by omega
      rw [e] at d
      have l := isI_sub hv d (by omega)
      rw [Int.sub_self] at l
      exact ⟨by rw [isI_isZero l]; rfl, s⟩
    unfold fsumAdd
    cases hc : lt (abs x) (abs p) with
    | true =>
      have := go p x S i hp hx h1 h2
      simp only [if_true, fsumAdd, this.1]
      exact ⟨trivial, this.2⟩
    | false =>
      have := go x p i S hx hp h2 h1
      simp only [Bool.false_eq_true, if_false, fsumAdd, this.1, if_true]
      exact ⟨trivial, by rw [Int.add_comm]; exact this.2⟩

theorem part_next {ps : List UInt64} {S i : Int} {x : UInt64} (h : Part ps S) (hx : IsI x i) (h1 : S.natAbs ≤ 2 ^ 51) (h2 : i.natAbs ≤ 2 ^ 51) :
    isFinite (fsumAdd ps x).2 = true ∧ Part (if isZero (fsumAdd ps x).2 = true then (fsumAdd ps x).1 else (fsumAdd ps x).1 ++ [(fsumAdd ps x).2]) (S + i) := by
  obtain ⟨e, r⟩ := part_add h hx h1 h2
  refine ⟨isI_finite r, ?_⟩
  rw [isI_isZero r, e]
  by_cases q : S + i = 0
  · simp only [q, decide_true, if_true]; exact .inl ⟨rfl, rfl⟩
  · simp only [q, decide_false, Bool.false_eq_true, if_false]; exact .inr ⟨_, rfl, r⟩

theorem part_end {ps : List UInt64} {S : Int} (h : Part ps S) : IsI (fsumEnd ps) S := by
  rcases h with ⟨rfl, rfl⟩ | ⟨p, rfl, hp⟩
  · exact isI_zero false
  · exact hp

theorem isI_cmpInt {x : UInt64} {i : Int} (h : IsI x i) (k : Int) : (cmpInt x k == some Ordering.eq) = decide (i = k) := by
  obtain ⟨⟨a, m, e, dx⟩, vx⟩ := h
  rw [cmpInt_right dx, vx]
  by_cases q : i = k
  · subst q; simp
  · have : i * 2 ^ 1074 ≠ k * 2 ^ 1074 := fun e => q (Int.eq_of_mul_eq_mul_right (Int.ne_of_gt pow_pos_int) e)
    have h2 : compare (i * 2 ^ 1074) (k * 2 ^ 1074) ≠ .eq := fun e => this (Int.compare_eq_eq.mp e)
    simp [q, h2]
end Mine.Fp
end -- L1

section -- L2
open PySem PySem.W PyProof.Rows PySem.Calls
set_option Elab.async false
set_option maxRecDepth 100000
set_option maxHeartbeats 2000000
namespace Mine

theorem kind_fsum : builtinKind "math.fsum" = none := by decide +kernel
theorem plain_fsum : plainId "math.fsum" = true := by decide +kernel
theorem entry_fsum : entryFor table "math.fsum" = some Builtin.«math.fsum» := entryFor_of_fast (by kernel_rfl)
theorem args_fsum (a : Value) : argsOk "math.fsum" ⟨[a], []⟩ := by unfold argsOk; kernel_rfl
theorem plain_fsum_loop : plainId "math.fsum.loop" = true := by decide +kernel
theorem entry_fsum_loop : entryFor table "math.fsum.loop" = some Builtin.«math.fsum.loop» := entryFor_of_fast (by kernel_rfl)

theorem kind_sumprod : builtinKind "math.sumprod" = none := by decide +kernel
theorem plain_sumprod : plainId "math.sumprod" = true := by decide +kernel
theorem entry_sumprod : entryFor table "math.sumprod" = some Builtin.«math.sumprod» := entryFor_of_fast (by kernel_rfl)
theorem args_sumprod (a b : Value) : argsOk "math.sumprod" ⟨[a, b], []⟩ := by unfold argsOk; kernel_rfl
theorem plain_sp_loop : plainId "math.sumprod.loop" = true := by decide +kernel
theorem entry_sp_loop : entryFor table "math.sumprod.loop" = some Builtin.«math.sumprod.loop» := entryFor_of_fast (by kernel_rfl)

end Mine
end -- L2

section -- F12
open PySem PySem.W PyProof.Rows PySem.Calls
set_option Elab.async false
set_option maxRecDepth 100000
set_option maxHeartbeats 2000000
namespace Mine
open Fp

def packed (xs : List UInt64) : Obj := { cls := .type "tuple", data := .seq (xs.map fun x => rawInt x.toNat).toArray }

theorem unpack_wp {M : Model} {A : Around} {E : Value → Shared → Prop} {s : Shared} {p : Addr} {ps : List UInt64} {F : Value → UInt64} {Q : List UInt64 → Shared → Prop} (hF : ∀ i t, F (.int i t) = i.toNat.toUInt64)
    (hp : s.heap.get? p = some (packed ps)) (h : Q ps s) : wpAny M A (seqItems? (.ref p) >>= fun r => pure ((r.getD #[]).toList.map F)) Q E s := by
  refine wpAny_bind (wpAny_seqItems hp rfl (wpAny_pure ?_))
  have : ((some (ps.map fun x => rawInt x.toNat).toArray).getD #[]).toList.map F = ps := by
    simp only [Option.getD_some, List.map_map]
    conv => rhs; rw [← List.map_id ps]
    apply List.map_congr_left
    intro x _
    show F (.int (x.toNat : Int) 0) = x
    rw [hF]; simp
  rw [this]; exact h

section
variable {w : World} {A : Around} {E : Value → Shared → Prop}

theorem over_small {n : Int} (h : n.natAbs ≤ 2 ^ 53) : ¬ Flt.Over n := by
  intro q
  have h2 : 2 ^ 53 < 2 ^ 1024 - 2 ^ 970 := by decide +kernel
  exact absurd (Nat.lt_of_lt_of_le h2 (Nat.le_trans q h)) (Nat.lt_irrefl _)

theorem fsum_loop {R : Result → Shared → Prop} {I : Addr} {fp wr : List Addr} {n : Nat} {Pv : Nat → Value → Prop} {St : Nat → Heap → Prop} {val : Nat → Int} (hh : A.handled = none)
    (W : Walks P w A.in1 I fp wr n Pv St) (hv : ∀ i v, Pv i v → ∃ t, v = .int (val i) t) (hb : ∀ j, j < n → (val j).natAbs ≤ 2 ^ 51) (hs : ∀ j, j ≤ n → (preSum val j).natAbs ≤ 2 ^ 51) (q : Addr) :
    ∀ (k i : Nat) (s : Shared) (p : Addr) (ps : List UInt64), n - i = k → i ≤ n → St i s.heap → s.heap.get? p = some (packed ps) → s.heap.get? q = some (packed [Float64.zero false, Float64.zero false]) → q ∉ wr →
    Part ps (preSum val i) → (∀ s' x t, Sm s s' → KpB wr s.heap s'.heap → IsI x (preSum val n) → R (.ok (.ret (.float x t))) s') →
    codeAny (model P w) A (.builtin "math.fsum.loop" ⟨[.ref I, .ref p, .ref q], []⟩) R s := by
  intro k
  induction k with
  | zero =>
    intro i s p ps hk hi hst hp hq hqw hP hR
    have hin : i = n := by omega
    subst hin
    refine codeAny_builtin entry_fsum_loop ?_
    rw [Around.under_plainId plain_fsum_loop _]
    unfold Builtin.«math.fsum.loop»
    dsimp only
    refine wpAny_bind (unpack_wp (fun _ _ => rfl) hp ?_)
    refine wpAny_bind (unpack_wp (fun _ _ => rfl) hq ?_)
    dsimp only
    refine wpAny_bind (W.done s _ _ hst fun h' tk hk' => ?_)
    dsimp only
    have hz : Float64.isZero (Float64.zero false) = true := by decide +kernel
    simp only [hz, Bool.not_true, Bool.false_eq_true, if_false]
    refine wpAny_bind (wpAny_mkFloat (wpAny_pure ?_))
    exact hR _ _ _ (Sm.mk' _ _ _) hk' (part_end hP)
  | succ k ih =>
    intro i s p ps hk hi hst hp hq hqw hP hR
    have hlt : i < n := by omega
    refine codeAny_builtin entry_fsum_loop ?_
    rw [Around.under_plainId plain_fsum_loop _]
    unfold Builtin.«math.fsum.loop»
    dsimp only
    refine wpAny_bind (unpack_wp (fun _ _ => rfl) hp ?_)
    refine wpAny_bind (unpack_wp (fun _ _ => rfl) hq ?_)
    dsimp only
    refine wpAny_bind (W.item i s _ _ hlt hst fun v h' tk hPv hst' hk' => ?_)
    obtain ⟨t, rfl⟩ := hv i v hPv
    dsimp only
    refine wpAny_bind (wpAny_holding (Flt.realArg_int hh (fun o => absurd o (over_small (by have := hb i hlt; omega))) fun _ => ?_))
    have hx := isI_ofInt (i := val i) (by have := hb i hlt; omega)
    obtain ⟨hfin, hpart⟩ := part_next hP hx (hs i hi) (hb i hlt)
    dsimp only
    rw [if_pos hfin]
    refine wpAny_bind (wpAny_newTuple (wpAny_pure ⟨plainId_quiet plain_fsum_loop _, ?_⟩) ?_)
    · have hk2 : KpB wr s.heap (h'.push (packed (if Float64.isZero (Float64.fsumAdd ps (Float64.ofInt (val i))).2 = true then (Float64.fsumAdd ps (Float64.ofInt (val i))).1 else (Float64.fsumAdd ps (Float64.ofInt (val i))).1 ++ [(Float64.fsumAdd ps (Float64.ofInt (val i))).2]))) :=
        fun b o hb e => Heap.get?_push_of_some _ (hk' b o hb e)
      exact ih (i + 1) _ _ _ (by omega) hlt (W.frame _ _ _ hst' fun b _ o e => Heap.get?_push_of_some _ e) (Heap.get?_push_size _ rfl) (hk2 q _ hqw hq) hqw hpart
        fun s' x t' S' k' r' => hR s' x t' ((Sm.mk' _ _ _).tr S') (fun b o hb e => k' b o hb (hk2 b o hb e)) r'
    · have : (if Float64.isZero (Float64.fsumAdd ps (Float64.ofInt (val i))).2 = true then (Float64.fsumAdd ps (Float64.ofInt (val i))).1 else (Float64.fsumAdd ps (Float64.ofInt (val i))).1 ++ [(Float64.fsumAdd ps (Float64.ofInt (val i))).2]).length ≤ 1 := by
        rcases hpart with ⟨e, _⟩ | ⟨p, e, _⟩ <;> rw [e] <;> simp
      rw [List.length_map, sizeLine_eq]; omega

theorem fsum_ct {s : Shared} {v : Value} {Q : Value → Shared → Prop} (hh : A.handled = none)
    (h : wpAny (model P w) A.in1 (pyIter v) (fun it s₂ => ∃ I fp wr n Pv St val, it = .ref I ∧ Walks P w A.in1 I fp wr n Pv St ∧ St 0 s₂.heap ∧ (∀ b ∈ fp, b < s₂.heap.objs.size) ∧ (∀ i v, Pv i v → ∃ t, v = .int (val i) t) ∧
      (∀ j, j < n → (val j).natAbs ≤ 2 ^ 51) ∧ (∀ j, j ≤ n → (preSum val j).natAbs ≤ 2 ^ 51) ∧ ∀ s' x t, Sm s₂ s' → KpB wr s₂.heap s'.heap → IsI x (preSum val n) → Q (.float x t) s') E s) :
    wpAny (model P w) A (call (.builtin "math.fsum") [v]) Q E s := by
  refine call_function_tree kind_fsum plain_fsum entry_fsum (args_fsum _) ?_
  unfold Builtin.«math.fsum»
  refine wpAny_bind (wpAny_of_eq (a := v) rfl ?_)
  refine wpAny_bind (wpAny_mono h (fun it s₂ h₂ => ?_) fun _ _ x => x)
  obtain ⟨I, fp, wr, n, Pv, St, val, rfl, W, hst, hfp, hv, hb, hs, hQ⟩ := h₂
  refine wpAny_bind (wpAny_newTuple ?_ (by simp [sizeLine_eq]))
  refine wpAny_bind (wpAny_newTuple ?_ (by simp [sizeLine_eq]))
  refine wpAny_pure ⟨plainId_quiet plain_fsum_loop _, ?_⟩
  have hsz : (s₂.heap.push (packed [])).objs.size = s₂.heap.objs.size + 1 := Heap.size_push ..
  have hqw : (s₂.heap.push (packed [])).objs.size ∉ wr := fun hm => by have := hfp _ (W.sub _ hm); rw [hsz] at this; exact absurd this (Nat.not_lt.mpr (Nat.le_succ _))
  have k2 : Ext s₂.heap ((s₂.heap.push (packed [])).push (packed [Float64.zero false, Float64.zero false])) := (ext_push _ _).trans (ext_push _ _)
  refine fsum_loop hh W hv hb hs _ n 0 _ _ [] (by omega) (Nat.zero_le _) (W.frame _ _ _ hst fun b _ o e => k2 _ _ e) (Heap.get?_push_of_some _ (Heap.get?_push_size _ rfl)) (Heap.get?_push_size _ rfl) hqw (.inl ⟨rfl, rfl⟩) ?_
  intro s' x t S' k' r'
  exact hQ s' x t ((Sm.mk' _ _ _).tr S') (fun b o hb e => k' b o hb (k2 _ _ e)) r'
end

theorem preSum_eq (xs : List Int) (j : Nat) : preSum (fun i => xs.getD i 0) j = (xs.take j).sum := preSum_take xs j

/-- a list or a tuple -/
def IsSq (h : Heap) (a : Addr) (vs : List Value) : Prop := h.IsList a vs.toArray ∨ h.IsTuple a vs.toArray
theorem IsSq.keeps {h h' : Heap} {a vs} (x : IsSq h a vs) (k : Ext h h') : IsSq h' a vs :=
  x.imp (fun ⟨o, ho, r⟩ => ⟨o, k _ _ ho, r⟩) fun ⟨o, ho, r⟩ => ⟨o, k _ _ ho, r⟩
theorem IsSq.lt {h : Heap} {a vs} (x : IsSq h a vs) : a < h.objs.size := x.elim (fun ⟨_, ho, _⟩ => Heap.lt_size ho) fun ⟨_, ho, _⟩ => Heap.lt_size ho
theorem IsSq.some {h : Heap} {a vs} (x : IsSq h a vs) : ∃ o, h.get? a = some o := x.elim (fun ⟨o, ho, _⟩ => ⟨o, ho⟩) fun ⟨o, ho, _⟩ => ⟨o, ho⟩

section
variable {w : World} {A : Around} {E : Value → Shared → Prop} {s : Shared}
theorem iter_sq {a : Addr} {vs : List Value} {Q : Value → Shared → Prop} (hl : IsSq s.heap a vs)
    (h : ∀ I s' (St : Nat → Heap → Prop), Sm s s' → Ext s.heap s'.heap → s.heap.get? I = none → (∃ o, s'.heap.get? I = some o) → a ≠ I →
      (∀ A : Around, A.handled = none → Walks P w A I [I, a] [I] vs.length (fun i v => vs[i]? = some v) St) → St 0 s'.heap → Q (.ref I) s') : wpAny (model P w) A (pyIter (.ref a)) Q E s := by
  have hlt := hl.lt
  rcases hl with hl | hl
  · refine wpAny_pyIter_list hl (h _ _ (fun i h => h.IsListIter s.heap.objs.size a i ∧ h.IsList a vs.toArray) ⟨rfl, rfl, rfl⟩ (ext_push _ _) (fresh_none _) ⟨_, Heap.get?_push_size _ rfl⟩ (Nat.ne_of_lt hlt) (fun A hh => ?_) ⟨⟨_, Heap.get?_push_size _ rfl, rfl, rfl⟩, hl.at fun o e => ext_push _ _ _ o e⟩)
    have := Walks.list (prog := P) (w := w) (A := A) hh s.heap.objs.size a (Nat.ne_of_lt hlt) vs.toArray
    simpa using this
  · refine wpAny_pyIter_tuple hl (h _ _ (fun i h => h.IsTupleIter s.heap.objs.size a i ∧ h.IsTuple a vs.toArray) ⟨rfl, rfl, rfl⟩ (ext_push _ _) (fresh_none _) ⟨_, Heap.get?_push_size _ rfl⟩ (Nat.ne_of_lt hlt) (fun A hh => ?_) ⟨⟨_, Heap.get?_push_size _ rfl, rfl, rfl⟩, hl.at fun o e => ext_push _ _ _ o e⟩)
    have := Walks.tuple (prog := P) (w := w) (A := A) hh s.heap.objs.size a (Nat.ne_of_lt hlt) vs.toArray
    simpa using this

theorem intsAre_at {vs : List Value} {xs : List Int} (hi : IntsAre vs xs) {i : Nat} {v : Value} (hv : vs[i]? = some v) : i < xs.length ∧ ∃ t, v = .int (xs.getD i 0) t := by
  have hlt : i < xs.length := by
    rcases Nat.lt_or_ge i vs.length with q | q
    · rw [← hi.length]; exact q
    · rw [List.getElem?_eq_none q] at hv; cases hv
  obtain ⟨t, e⟩ := intsAre_get hi hlt
  rw [e] at hv
  cases hv
  exact ⟨hlt, t, rfl⟩

/-- fsum of a list or a tuple of ints -/
theorem fsum_il {a : Addr} {vs : List Value} {xs : List Int} {Q : Value → Shared → Prop} (hh : A.handled = none) (hl : IsSq s.heap a vs) (hi : IntsAre vs xs)
    (hb : ∀ j, j < xs.length → (xs.getD j 0).natAbs ≤ 2 ^ 51) (hs : ∀ j, j ≤ xs.length → ((xs.take j).sum).natAbs ≤ 2 ^ 51)
    (h : ∀ s' x t, Sm s s' → Ext s.heap s'.heap → IsI x xs.sum → Q (.float x t) s') : wpAny (model P w) A (call (.builtin "math.fsum") [.ref a]) Q E s := by
  refine fsum_ct hh (iter_sq hl fun I s₂ St S₂ k₂ f₂ ⟨oI, eI⟩ n₂ W₂ st₂ => ⟨I, _, _, _, _, _, fun i => xs.getD i 0, rfl, W₂ _ hh, st₂, ?_, ?_, ?_, ?_, ?_⟩)
  · intro b hb'
    have : b = I ∨ b = a := by simpa using hb'
    rcases this with rfl | rfl
    · exact Heap.lt_size eI
    · exact (hl.keeps k₂).lt
  · intro i v hv; exact (intsAre_at hi hv).2
  · intro j hj; exact hb j (by rw [← hi.length]; exact hj)
  · intro j hj
    rw [preSum_eq]; exact hs j (by rw [← hi.length]; exact hj)
  · intro s' x t S' k' r'
    rw [preSum_eq, hi.length, List.take_length] at r'
    refine h s' x t (S₂.tr S') (fun b o e => k' b o ?_ (k₂ _ _ e)) r'
    intro hb'
    have : b = I := by simpa using hb'
    subst this; rw [f₂] at e; cases e
end
end Mine
end -- F12

section -- F13
open PySem PySem.W PyProof.Rows PySem.Calls
set_option Elab.async false
set_option maxRecDepth 100000
set_option maxHeartbeats 2000000
namespace Mine
open Fp

section
variable {w : World} {A : Around} {E : Value → Shared → Prop} {s : Shared}

theorem gcode {env : Env} {c T : Addr} {ps : Array Value} {pos : Pos} {qualname : Str} {scope : Scope} {Q : Value → Shared → Prop} (hc : env.code = .ref c) (hok : s.heap.IsCode c T ps) (htab : s.heap.TableAt c T ps)
    (h : ∀ code s' more, Sm s s' → Heap.ExtBut T s.heap s'.heap → s'.heap.IsCode c T (ps ++ more) → s'.heap.TableAt c T (ps ++ more) → Q code s') :
    wpAny (model P w) A (genexprCode env pos qualname scope) Q E s := by
  cases e : codeAmong pos ps.toList with
  | none => exact wpAny_genexprCodeX hc hok htab e fun c' h' tk a _ _ d _ f _ => h _ _ _ ⟨rfl, rfl, rfl⟩ a d f
  | some c' => exact wpAny_genexprCode_hit hc hok e (h _ s #[] (Sm.refl _) (Heap.ExtBut.refl _ _) (by simpa using hok) (by simpa using htab))

theorem passing_all (n : Nat) : passing (fun _ => true) n 0 = List.range n := by simp [passing]

theorem genAt_mono {a : Addr} {g : Nat} {C : Addr} {fp wr : List Addr} {pz : Nat → Bool} {n₀ : Nat} {F : Nat → Value → Prop} {j : Nat} {s s' : Shared} (x : GenAt P w A a g C fp wr pz n₀ F j s) (hcs : cStatics ∈ fp)
    (hk : ∀ b ∈ a :: C :: fp, ∀ o, s.heap.get? b = some o → s'.heap.get? b = some o) (hg : s'.gens[g]? = s.gens[g]?) : GenAt P w A a g C fp wr pz n₀ F j s' := by
  obtain ⟨⟨o, u1, u2, ho, r⟩, ⟨mc, hn, hnone⟩, gs, hgs, hgo⟩ := x
  refine ⟨⟨o, u1, u2, hk a (.head _) _ ho, r⟩, ⟨mc, hn.at' fun o e => hk _ (List.mem_cons_of_mem _ (List.mem_cons_of_mem _ hcs)) o e, hnone⟩, gs, hg.trans hgs, fun s'' hal => hgo s'' fun b hb o e => hal b hb o (hk b (List.mem_cons_of_mem _ hb) o e)⟩

theorem walksS_monoP {I : Addr} {fp wr : List Addr} {Gg : Array GenState → Array GenState → Prop} {n : Nat} {Pv P' : Nat → Value → Prop} {St : Nat → Shared → Prop} (W : WalksS P w A I fp wr Gg n Pv St) (h : ∀ i v, Pv i v → P' i v) :
    WalksS P w A I fp wr Gg n P' St :=
  ⟨W.sub, W.grefl, W.gtrans, W.frame, fun i s Q E hi st hQ => W.item i s Q E hi st fun v s' p => hQ v s' (h _ _ p), W.done, W.self⟩

/-- a generator expression over a list or a tuple, as an iterator -/
theorem genx {env : Env} {elt iter : Expr} {x : Str} {px : Pos} {scope : Scope} {cl : List (Str × Addr)} {pos : Pos} {c T a : Addr} {ps : Array Value} {vs : List Value} {FP : List Addr} {F : Nat → Value → Prop} {Q : Value → Shared → Prop} {B : Heap}
    (hh : A.handled = none) (hroom : A.depth < recursionLimit) (hcode : env.code = .ref c) (hgl : env.globals = mainGlobals)
    (hiter : ∀ Q' : Value → Shared → Prop, Q' (.ref a) s → wpAny (model P w) A (eval iter env) Q' E s)
    (G : GF B) (kB : Ext B s.heap) (hBT : B.get? T = none) (hsq : IsSq s.heap a vs) (haT : a ≠ T) (hok : s.heap.IsCode c T ps) (htab : s.heap.TableAt c T ps)
    (hFP : ∀ b ∈ FP, b ≠ T ∧ ∃ o, s.heap.get? b = some o)
    (hq : ∀ I C code bi href, I ∉ FP → (∀ b ∈ FP, ∀ o, s.heap.get? b = some o → href.get? b = some o) → QuietGen P w (genEnv scope cl C code bi env) x [] elt (I :: a :: cStatics :: FP) [I] (fun i v => vs[i]? = some v) (fun _ => true) F href)
    (h : ∀ a' C I s' more gs (St : Nat → Shared → Prop), WalksS P w A.in4 a' (a' :: C :: I :: a :: cStatics :: FP) [C, I] (GenOnlyQ s.gens.size) vs.length F St → St 0 s' →
      (∀ j s₁ s₂, St j s₁ → (∀ b ∈ a' :: C :: I :: a :: cStatics :: FP, ∀ o, s₁.heap.get? b = some o → s₂.heap.get? b = some o) → s₂.gens[s.gens.size]? = s₁.gens[s.gens.size]? → St j s₂) →
      Heap.ExtBut T s.heap s'.heap → s'.heap.IsCode c T (ps ++ more) → s'.heap.TableAt c T (ps ++ more) → s'.gens = s.gens.push gs → gs.bare = true → s'.drawn = s.drawn → s'.os = s.os →
      s.heap.get? a' = none → s.heap.get? C = none → s.heap.get? I = none → (∃ o, s'.heap.get? a' = some o) → (∃ o, s'.heap.get? C = some o) → (∃ o, s'.heap.get? I = some o) → Q (.ref a') s')
    (hco : scope.isCoroutine = false := by rfl) (hclos : closureFor scope env = pure cl := by rfl) (hcell : ∀ y ∈ scope.names, y.2 ≠ .cell := by decide) (h0 : scope.names.lookup (".0" : Str) = some NameKind.local := by rfl)
    (hx : scope.names.lookup x = some .local := by rfl) (hkind : scope.kind = .function := by rfl) (hs : ∀ x, genFold iter env x = pure x := by intro _; rfl) :
    wpAny (model P w) A (eval (.GeneratorExp elt [⟨.Name x px, iter, [], 0⟩] scope pos) env) Q E s := by
  have hTs : T ≠ cStatics := by
    rintro rfl; obtain ⟨mc, ⟨o, _, _, e, _⟩, _⟩ := G.nolimit; rw [hBT] at e; cases e
  refine wpAny_GeneratorExp_make hco hclos hcell h0 hkind hroom (hiter _ (iter_sq hsq fun I s₂ St S₂ k₂ f₂ ⟨oI, eI⟩ n₂ W₂ st₂ => ⟨(G.keeps (kB.trans k₂)).nolimit, ?_⟩)) hs
  have nIT : I ≠ T := by rintro rfl; obtain ⟨_, q⟩ := htab; rw [f₂] at q; cases q
  refine gcode hcode (hok.keeps k₂) (htab.keeps k₂) fun code s₃ more S₃ k₃ hok₃ htab₃ => ?_
  have kB₃ : Ext B s₃.heap := fun b o e => k₃ b o (by rintro rfl; rw [hBT] at e; cases e) (k₂ _ _ (kB _ _ e))
  have G₃ := G.keeps kB₃
  obtain ⟨mg, bm, ob, b1, b2, b3, b4, b5, b6, b7⟩ := G₃.bm
  refine wpAny_builtinsFor (by rw [hgl]; exact b1) b2 b3 b4 b5 b6 b7 ?_
  intro h' hn' hs'
  have hsz : h'.objs.size = s₃.heap.objs.size + 1 := by rw [hs'.1, Heap.size_push]
  have keep' : Ext s₃.heap h' := fun b o e => hs'.extBut b o (Nat.ne_of_lt (Heap.lt_size e)) (Heap.get?_push_of_some _ e)
  have fC : s₃.heap.get? s₃.heap.objs.size = none := fresh_none _
  have fa : s₃.heap.get? h'.objs.size = none := Heap.get?_none_of_le (by omega)
  have eI₃ : ∃ o, s₃.heap.get? I = some o := ⟨oI, k₃ _ _ nIT eI⟩
  have ea₃ : ∃ o, s₃.heap.get? a = some o := let ⟨o, e⟩ := (hsq.keeps k₂).some; ⟨o, k₃ _ _ haT e⟩
  have ec₃ : ∃ o, s₃.heap.get? cStatics = some o := let ⟨_, ⟨o, _, _, e, _⟩, _⟩ := G₃.nolimit; ⟨o, e⟩
  have eF₃ : ∀ b ∈ FP, ∃ o, s₃.heap.get? b = some o := fun b hb => let ⟨n, o, e⟩ := hFP b hb; ⟨o, k₃ _ _ n (k₂ _ _ e)⟩
  have all₃ : ∀ b ∈ I :: a :: cStatics :: FP, ∃ o, s₃.heap.get? b = some o := by
    intro b hb
    rcases List.mem_cons.mp hb with rfl | hb
    · exact eI₃
    rcases List.mem_cons.mp hb with rfl | hb
    · exact ea₃
    rcases List.mem_cons.mp hb with rfl | hb
    · exact ec₃
    exact eF₃ b hb
  have lt₃ : ∀ b ∈ I :: a :: cStatics :: FP, b < s₃.heap.objs.size := fun b hb => let ⟨_, e⟩ := all₃ b hb; Heap.lt_size e
  have hIF : I ∉ FP := fun hb => by obtain ⟨_, o, e⟩ := hFP I hb; rw [f₂] at e; cases e
  have nIc : I ≠ cStatics := by
    rintro rfl; obtain ⟨_, ⟨o, _, _, e, _⟩, _⟩ := (G.keeps kB).nolimit; rw [f₂] at e; cases e
  generalize hobj : ({ cls := .type "generator", data := .fields #[.int s₃.gens.size 0, .str "<genexpr>" (s₃.toks + 1), .str (env.qual ++ "<genexpr>") (s₃.toks + 1 + 1)] } : Obj) = gob
  have keep₅ : Ext s₃.heap (h'.push gob) := keep'.trans (ext_push _ _)
  have hgsz : s₃.gens.size = s.gens.size := by rw [S₃.gens, S₂.gens]
  have W' : ∀ A' : Around, A'.handled = none → Walks P w A' I (I :: a :: cStatics :: FP) [I] vs.length (fun i v => vs[i]? = some v) St := fun A' hA => (W₂ A' hA).mono_fp fun b hb => by
    have : b = I ∨ b = a := by simpa using hb
    rcases this with rfl | rfl <;> simp
  have st₃ : St 0 s₃.heap := (W₂ A hh).frame _ _ _ st₂ fun b hb o e => k₃ b o (by
    have : b = I ∨ b = a := by simpa using hb
    rcases this with rfl | rfl
    · exact nIT
    · exact haT) e
  have WS := WalksS.genexpQ (prog := P) (w := w) (A := A.in4) hh h'.objs.size s₃.gens.size s₃.heap.objs.size (I :: a :: cStatics :: FP) [I] (fun _ => true) vs.length F (by rw [hsz]; exact Nat.succ_ne_self _)
    (fun hm => by have := lt₃ _ hm; rw [hsz] at this; exact absurd this (Nat.not_lt.mpr (Nat.le_succ _))) (fun b hb => (show b = I by simpa using hb) ▸ .head _) hroom (by simp) (Nat.ne_of_lt (lt₃ _ (by simp))) (by simpa using Ne.symm nIc)
  have GA : GenAt P w A.in4 h'.objs.size s₃.gens.size s₃.heap.objs.size (I :: a :: cStatics :: FP) [I] (fun _ => true) vs.length F 0 { s₃ with gens := s₃.gens.push (.fresh (.compStart (.GeneratorExp elt [⟨.Name x px, iter, [], 0⟩] scope pos) 0 (.ref I) .none (genEnv scope cl s₃.heap.objs.size code builtinsNs env))), toks := s₃.toks + 1 + 1 + 1, heap := h'.push gob } :=
    GenAt.fresh (A := A.in4) (cenv := genEnv scope cl s₃.heap.objs.size code builtinsNs env) (m := fun y => if y = ".0" then some (.ref I) else none) hh W' (fun _ => true) F hx (by simp [genEnv, hkind]) hco
      (fun hm => Nat.lt_irrefl _ (lt₃ _ hm)) (hq I _ _ _ _ hIF fun b hb o e => keep₅ _ _ (k₃ _ _ (hFP b hb).1 (k₂ _ _ e))) (by rw [← hobj]; exact ⟨_, _, _, Heap.get?_push_size _ rfl, rfl, rfl, rfl⟩) (Array.getElem?_push_size ..)
      ((W' A hh).frame _ _ _ st₃ fun b _ o e => keep₅ b o e) (hn'.push _) (G₃.nolimit.keeps keep₅)
  rw [passing_all, List.length_range] at WS
  have WS' := walksS_monoP WS (P' := F) fun j y ⟨i, e, f⟩ => by
    have : i = j := by
      rw [List.getElem?_range (by
        rcases Nat.lt_or_ge j vs.length with q | q
        · exact q
        · rw [List.getElem?_eq_none (by simpa using q)] at e; cases e)] at e
      cases e; rfl
    exact this ▸ f
  rw [hgsz] at WS' GA
  have k5 : Heap.ExtBut T s.heap (h'.push gob) := fun b o nb e => keep₅ _ _ (k₃ _ _ nb (k₂ _ _ e))
  have aT : ∀ b, s₃.heap.get? b = none → s.heap.get? b = none := fun b e => by
    cases q : s.heap.get? b with
    | none => rfl
    | some o =>
      have nb : b ≠ T := by rintro rfl; obtain ⟨_, r⟩ := htab₃; rw [e] at r; cases r
      rw [k₃ _ _ nb (k₂ _ _ q)] at e; cases e
  refine h _ _ I _ more (.fresh (.compStart (.GeneratorExp elt [⟨.Name x px, iter, [], 0⟩] scope pos) 0 (.ref I) .none (genEnv scope cl s₃.heap.objs.size code builtinsNs env))) _ WS' GA (fun j s₁ s₂ x hk hg => genAt_mono x (by simp) hk hg) k5 (hok₃.keeps keep₅) (htab₃.keeps keep₅) ?_ rfl (S₃.drawn.trans S₂.drawn) (S₃.os.trans S₂.os) (aT _ fa) (aT _ fC) f₂ ⟨_, Heap.get?_push_size _ (by rw [← hobj]; rfl)⟩ ?_ ?_
  · show s₃.gens.push _ = _
    rw [S₃.gens, S₂.gens]
  · obtain ⟨o, _, _, e, _⟩ := hn'
    exact ⟨o, ext_push _ _ _ _ e⟩
  · obtain ⟨o, e⟩ := eI₃
    exact ⟨o, keep₅ _ _ e⟩
end
end Mine
end -- F13

section -- F14
open PySem PySem.W PyProof.Rows PySem.Calls
set_option Elab.async false
set_option maxRecDepth 100000
set_option maxHeartbeats 2000000
namespace Mine
open Fp

def tup3 (t : UInt64 × UInt64 × UInt64) : Obj := { cls := .type "tuple", data := .seq #[rawInt t.1.toNat, rawInt t.2.1.toNat, rawInt t.2.2.toNat] }

/-- what a call that wakes generators leaves -/
structure Sg (s s' : Shared) : Prop where
  drawn : s'.drawn = s.drawn
  os : s'.os = s.os
  bare : (∀ y ∈ s.gens, y.bare = true) → ∀ y ∈ s'.gens, y.bare = true
theorem Sg.refl (s : Shared) : Sg s s := ⟨rfl, rfl, id⟩
theorem Sg.tr {a b b' c : Shared} (x : Sg a b) (y : Sg b' c) (e₁ : b'.gens = b.gens := by rfl) (e₂ : b'.drawn = b.drawn := by rfl) (e₃ : b'.os = b.os := by rfl) : Sg a c :=
  ⟨y.drawn.trans (e₂.trans x.drawn), y.os.trans (e₃.trans x.os), fun h => y.bare (by rw [e₁]; exact x.bare h)⟩
theorem Sm.sg {s s' : Shared} (x : Sm s s') : Sg s s' := ⟨x.drawn, x.os, fun h => by rw [x.gens]; exact h⟩
theorem moved_sg {wr : List Addr} {g : Nat} {s s' : Shared} (M : Moved wr (GenOnlyQ g) s s') : Sg s s' := ⟨M.drawn, M.os, M.gens.bare⟩

theorem genOnlyQ_ne {g k : Nat} {a b : Array GenState} (x : GenOnlyQ g a b) (h : k ≠ g) : b[k]? = a[k]? := by
  rcases x with rfl | ⟨x, _⟩
  · rfl
  · exact x.2 k h

theorem u64rt (x : UInt64) : ((x.toNat : Int)).toNat.toUInt64 = x := by simp

section
variable {w : World} {A : Around} {E : Value → Shared → Prop}

theorem sp_loop {R : Result → Shared → Prop} {a₁ a₂ : Addr} {fp₁ fp₂ wr₁ wr₂ : List Addr} {g₁ g₂ n : Nat} {F₁ F₂ : Nat → Value → Prop} {St₁ St₂ : Nat → Shared → Prop} {v₁ v₂ : Nat → Int}
    (W₁ : WalksS P w A.in1 a₁ fp₁ wr₁ (GenOnlyQ g₁) n F₁ St₁) (W₂ : WalksS P w A.in1 a₂ fp₂ wr₂ (GenOnlyQ g₂) n F₂ St₂) (hg : g₁ ≠ g₂)
    (m₁ : ∀ j s₁ s₂, St₁ j s₁ → (∀ b ∈ fp₁, ∀ o, s₁.heap.get? b = some o → s₂.heap.get? b = some o) → s₂.gens[g₁]? = s₁.gens[g₁]? → St₁ j s₂)
    (m₂ : ∀ j s₁ s₂, St₂ j s₁ → (∀ b ∈ fp₂, ∀ o, s₁.heap.get? b = some o → s₂.heap.get? b = some o) → s₂.gens[g₂]? = s₁.gens[g₂]? → St₂ j s₂)
    (d₁ : ∀ b ∈ fp₁, b ∉ wr₂) (d₂ : ∀ b ∈ fp₂, b ∉ wr₁)
    (hF₁ : ∀ i v, F₁ i v → ∃ x t, v = .float x t ∧ IsI x (v₁ i)) (hF₂ : ∀ i v, F₂ i v → ∃ x t, v = .float x t ∧ IsI x (v₂ i))
    (hp : ∀ j, j < n → (v₁ j * v₂ j).natAbs ≤ 2 ^ 51) (hs : ∀ j, j ≤ n → (sumTo (fun i => v₁ i * v₂ i) j).natAbs ≤ 2 ^ 51) :
    ∀ (k i : Nat) (s : Shared) (tp : Addr) (t3 : UInt64 × UInt64 × UInt64) (io fu : Bool) (t0 : Tok), n - i = k → i ≤ n → St₁ i s → St₂ i s → s.heap.get? tp = some (tup3 t3) → (∀ b ∈ wr₁ ++ wr₂, b < tp) →
    IsI t3.1 (sumTo (fun i => v₁ i * v₂ i) i) → IsI t3.2.1 0 → IsI t3.2.2 0 → (i = n → fu = true) →
    (∀ s' x t, Sg s s' → KpB (wr₁ ++ wr₂) s.heap s'.heap → IsI x (sumTo (fun i => v₁ i * v₂ i) n) → R (.ok (.ret (.float x t))) s') →
    codeAny (model P w) A (.builtin "math.sumprod.loop" ⟨[.ref a₁, .ref a₂, .int 0 t0, .bool io, .int 0 0, .bool false, .bool true, .ref tp, .bool fu], []⟩) R s := by
  intro k
  induction k with
  | zero =>
    intro i s tp t3 io fu t0 hk hi h₁ h₂ htp hlt e1 e2 e3 hfu hR
    have hin : i = n := by omega
    subst hin
    refine codeAny_builtin entry_sp_loop ?_
    rw [Around.under_plainId plain_sp_loop _]
    unfold Builtin.«math.sumprod.loop»
    dsimp only
    refine wpAny_bind (wpAny_seqItems htp rfl ?_)
    dsimp only [Option.getD_some, rawInt]
    refine wpAny_bind (W₁.done s _ _ h₁ fun s₁ M₁ => ?_)
    refine wpAny_bind (wpAny_holding (W₂.done s₁ _ _ (m₂ _ _ _ h₂ (fun b hb o e => M₁.heap b o (d₂ b hb) e) (genOnlyQ_ne M₁.gens (Ne.symm hg))) fun s₂ M₂ => ?_))
    obtain rfl := hfu rfl
    have u1 := u64rt t3.1
    have u2 := u64rt t3.2.1
    have u3 := u64rt t3.2.2
    simp only [Option.isSome_none, bne_self_eq_false, Bool.false_eq_true, if_false, if_true, u1, u2, u3]
    have tl := isI_tlToFloat e1 e2 e3 (hs _ (Nat.le_refl _))
    have fin : ∀ s₃ : Shared, s₃ = s₂ → wpAny (model P w) A.in1 (do
        let y ← mkFloat (Builtin.Math.tlToFloat (t3.1, t3.2.1, t3.2.2))
        let total ← binaryOp .Add (Value.int 0 t0) y
        ret total) (fun fin s' => match fin with | .done f => R (.ok f) s' | .again c' => c'.quiet = true ∧ codeAny (model P w) A c' R s') (fun e s' => R (.error e) s') s₃ := by
      rintro s₃ rfl
      refine wpAny_bind (wpAny_mkFloat (wpAny_bind (add_if_fits (by decide) (wpAny_pure ?_))))
      refine hR _ _ _ (((moved_sg M₁).tr (moved_sg M₂)).tr (Sm.sg (Sm.mk' _ _ _))) (fun b o hb e => M₂.heap b o (fun q => hb (List.mem_append.mpr (.inr q))) (M₁.heap b o (fun q => hb (List.mem_append.mpr (.inl q))) e)) ?_
      have := isI_add (isI_ofInt (i := 0) (by decide)) tl (by have := hs _ (Nat.le_refl i); omega)
      rwa [Int.zero_add] at this
    cases io with
    | true =>
      simp only [if_true, Bool.false_eq_true, if_false]
      refine wpAny_bind (wpAny_rule ?_)
      refine wpAny_bind (wpAny_rule ?_)
      refine wpAny_mono (fin s₂ rfl) (fun _ _ x => x) (fun _ _ x => x)
    | false =>
      simp only [Bool.false_eq_true, if_false]
      refine wpAny_bind (wpAny_rule ?_)
      refine wpAny_mono (fin s₂ rfl) (fun _ _ x => x) (fun _ _ x => x)
  | succ k ih =>
    intro i s tp t3 io fu t0 hk hi h₁ h₂ htp hlt e1 e2 e3 hfu hR
    have hin : i < n := by omega
    refine codeAny_builtin entry_sp_loop ?_
    rw [Around.under_plainId plain_sp_loop _]
    unfold Builtin.«math.sumprod.loop»
    dsimp only
    refine wpAny_bind (wpAny_seqItems htp rfl ?_)
    dsimp only [Option.getD_some, rawInt]
    refine wpAny_bind (W₁.item i s _ _ hin h₁ fun p s₁ hp₁ h₁' M₁ => ?_)
    refine wpAny_bind (wpAny_holding (W₂.item i s₁ _ _ hin (m₂ _ _ _ h₂ (fun b hb o e => M₁.heap b o (d₂ b hb) e) (genOnlyQ_ne M₁.gens (Ne.symm hg))) fun q s₂ hq₂ h₂' M₂ => ?_))
    obtain ⟨x, tx, rfl, ix⟩ := hF₁ i p hp₁
    obtain ⟨y, ty, rfl, iy⟩ := hF₂ i q hq₂
    have u1 := u64rt t3.1
    have u2 := u64rt t3.2.1
    have u3 := u64rt t3.2.2
    have nx := isI_tlFma (t := (t3.1, t3.2.1, t3.2.2)) ix iy e1 e2 e3 (hs i (by omega)) (hp i hin)
    have hfin := isI_finite nx.1
    simp only [Option.isSome_some, bne_self_eq_false, Bool.false_eq_true, if_false, if_true, u1, u2, u3, Bool.or_self]
    have h₁'' : St₁ (i + 1) s₂ := m₁ _ _ _ h₁' (fun b hb o e => M₂.heap b o (d₁ b hb) e) (genOnlyQ_ne M₂.gens hg)
    have kk : KpB (wr₁ ++ wr₂) s.heap s₂.heap := fun b o hb e => M₂.heap b o (fun q => hb (List.mem_append.mpr (.inr q))) (M₁.heap b o (fun q => hb (List.mem_append.mpr (.inl q))) e)
    have fin : wpAny (model P w) A.in1 (do
        let t ← newTuple [rawInt (Builtin.Math.tlFma x y (t3.1, t3.2.1, t3.2.2)).1.toNat, rawInt (Builtin.Math.tlFma x y (t3.1, t3.2.1, t3.2.2)).2.1.toNat, rawInt (Builtin.Math.tlFma x y (t3.1, t3.2.1, t3.2.2)).2.2.toNat]
        again (.builtin "math.sumprod.loop" ⟨[.ref a₁, .ref a₂, .int 0 t0, .bool false, .int 0 0, .bool false, .bool true, t, .bool true], []⟩))
        (fun fin s' => match fin with | .done f => R (.ok f) s' | .again c' => c'.quiet = true ∧ codeAny (model P w) A c' R s') (fun e s' => R (.error e) s') s₂ := by
      refine wpAny_bind (wpAny_newTuple (wpAny_pure ⟨plainId_quiet plain_sp_loop _, ?_⟩) (by simp [sizeLine_eq]))
      have htp₂ : tp < s₂.heap.objs.size := Heap.lt_size (kk tp _ (fun q => Nat.lt_irrefl _ (hlt _ q)) htp)
      refine ih (i + 1) _ _ (Builtin.Math.tlFma x y (t3.1, t3.2.1, t3.2.2)) false true t0 (by omega) hin ?_ ?_ (Heap.get?_push_size _ rfl) (fun b hb => Nat.lt_trans (hlt b hb) htp₂) nx.1 nx.2.1 nx.2.2 (fun _ => rfl) ?_
      · exact m₁ _ _ _ h₁'' (fun b _ o e => ext_push _ _ _ _ e) rfl
      · exact m₂ _ _ _ h₂' (fun b _ o e => ext_push _ _ _ _ e) rfl
      · intro s' z t' S' k' r'
        exact hR s' z t' (((moved_sg M₁).tr (moved_sg M₂)).tr S') (fun b o hb e => k' b o hb (ext_push _ _ _ _ (kk b o hb e))) r'
    rw [if_pos hfin]
    cases io with
    | true =>
      simp only [if_true]
      refine wpAny_bind (wpAny_rule ?_)
      exact fin
    | false =>
      simp only [Bool.false_eq_true, if_false]
      exact fin

theorem sumprod_ct {s : Shared} {a₁ a₂ : Addr} {fp₁ fp₂ wr₁ wr₂ : List Addr} {g₁ g₂ n : Nat} {F₁ F₂ : Nat → Value → Prop} {St₁ St₂ : Nat → Shared → Prop} {v₁ v₂ : Nat → Int} {Q : Value → Shared → Prop}
    (W₁ : WalksS P w A.in1 a₁ fp₁ wr₁ (GenOnlyQ g₁) n F₁ St₁) (W₂ : WalksS P w A.in1 a₂ fp₂ wr₂ (GenOnlyQ g₂) n F₂ St₂) (hg : g₁ ≠ g₂)
    (m₁ : ∀ j s₁ s₂, St₁ j s₁ → (∀ b ∈ fp₁, ∀ o, s₁.heap.get? b = some o → s₂.heap.get? b = some o) → s₂.gens[g₁]? = s₁.gens[g₁]? → St₁ j s₂)
    (m₂ : ∀ j s₁ s₂, St₂ j s₁ → (∀ b ∈ fp₂, ∀ o, s₁.heap.get? b = some o → s₂.heap.get? b = some o) → s₂.gens[g₂]? = s₁.gens[g₂]? → St₂ j s₂)
    (d₁ : ∀ b ∈ fp₁, b ∉ wr₂) (d₂ : ∀ b ∈ fp₂, b ∉ wr₁)
    (hF₁ : ∀ i v, F₁ i v → ∃ x t, v = .float x t ∧ IsI x (v₁ i)) (hF₂ : ∀ i v, F₂ i v → ∃ x t, v = .float x t ∧ IsI x (v₂ i))
    (hp : ∀ j, j < n → (v₁ j * v₂ j).natAbs ≤ 2 ^ 51) (hs : ∀ j, j ≤ n → (sumTo (fun i => v₁ i * v₂ i) j).natAbs ≤ 2 ^ 51) (hn : 0 < n)
    (h₁ : St₁ 0 s) (h₂ : St₂ 0 s) (hlt : ∀ b ∈ wr₁ ++ wr₂, b < s.heap.objs.size)
    (h : ∀ s' x t, Sg s s' → KpB (wr₁ ++ wr₂) s.heap s'.heap → IsI x (sumTo (fun i => v₁ i * v₂ i) n) → Q (.float x t) s') :
    wpAny (model P w) A (call (.builtin "math.sumprod") [.ref a₁, .ref a₂]) Q E s := by
  refine call_function_tree kind_sumprod plain_sumprod entry_sumprod (args_sumprod _ _) ?_
  unfold Builtin.«math.sumprod»
  refine wpAny_bind (wpAny_of_eq (a := [.ref a₁, .ref a₂]) rfl ?_)
  dsimp only
  refine wpAny_bind (W₁.self 0 s _ _ h₁ (wpAny_bind (wpAny_holding (W₂.self 0 s _ _ h₂ ?_))))
  refine wpAny_bind (wpAny_mkInt ?_)
  refine wpAny_bind (wpAny_newTuple ?_ (by simp [sizeLine_eq]))
  refine wpAny_pure ⟨plainId_quiet plain_sp_loop _, ?_⟩
  have hz := isI_zero false
  refine sp_loop W₁ W₂ hg m₁ m₂ d₁ d₂ hF₁ hF₂ hp hs n 0 _ _ (Float64.zero false, Float64.zero false, Float64.zero false) true false _ (by omega) (Nat.zero_le _) ?_ ?_ (Heap.get?_push_size _ rfl) hlt hz hz hz (fun e => absurd e (Nat.ne_of_lt hn)) ?_
  · exact m₁ _ _ _ h₁ (fun b _ o e => ext_push _ _ _ _ e) rfl
  · exact m₂ _ _ _ h₂ (fun b _ o e => ext_push _ _ _ _ e) rfl
  · intro s' x t S' k' r'
    exact h s' x t ((Sm.sg (Sm.mk' _ _ _)).tr S') (fun b o hb e => k' b o hb (ext_push _ _ _ _ e)) r'
end
end Mine
end -- F14

section -- F15
open PySem PySem.W PyProof.Rows PySem.Calls
set_option Elab.async false
set_option maxRecDepth 100000
set_option maxHeartbeats 2000000
namespace Mine
open Fp

theorem Fx.ofNs {h : Heap} {L : Addr} {m} (n : h.Ns L m) : Fx noHeap L h m := ⟨n, fun _ _ e => (by rw [noHeap_get] at e; cases e), rfl⟩

section
variable {w : World} {A : Around} {E : Value → Shared → Prop} {s : Shared} {env : Env}

theorem len_sq {a : Addr} {vs : List Value} {Q : Value → Shared → Prop} (hl : IsSq s.heap a vs) (hf : vs.length < 2 ^ 60)
    (h : ∀ t s', Sm s s' → s'.heap = s.heap → Q (.int vs.length t) s') : wpAny (model P w) A (call (.builtin "len") [.ref a]) Q E s := by
  have e : vs.toArray.size = vs.length := List.size_toArray
  rcases hl with hl | hl
  · refine call_len_list hl (by rw [e]; omega) ?_
    rw [e]; exact h _ _ ⟨rfl, rfl, rfl⟩ rfl
  · refine len_tuple hl (by rw [e]; omega) ?_
    rw [e]; exact h _ _ ⟨rfl, rfl, rfl⟩ rfl

theorem divi {x : UInt64} {n k : Int} {t u : Tok} {Q : Value → Shared → Prop} (hh : A.handled = none) (hx : IsI x (k * n)) (h0 : n ≠ 0) (h1 : n.natAbs ≤ 2 ^ 53) (h2 : k.natAbs ≤ 2 ^ 53)
    (h : ∀ y t', IsI y k → Q (.float y t') { s with toks := s.toks + 1 }) : wpAny (model P w) A (binaryOp .Div (.float x t) (.int n u)) Q E s :=
  Flt.truediv_fi hh (fun o => absurd o (over_small h1)) (fun e => absurd e h0) fun _ _ => h _ _ (isI_div hx (isI_ofInt h1) h0 h2)

theorem lfree {x : Str} {pos : Pos} {c : Addr} {v : Value} {Q : Value → Shared → Prop} (hv : s.heap.IsCell c (some v)) (h : Q v s)
    (hc : env.cells.lookup x = some c := by rfl) (hk : env.scope.kind = .function := by rfl) (hl : env.kindOf x = some .free := by rfl) (hn : (x == ("__classdict__" : Str)) = false := by decide)
    (hd : (x == ("__debug__" : Str)) = false := by decide) : wpAny (model P w) A (eval (.Name x pos) env) Q E s := wpAny_Name (wpAny_loadName_free hk hl hc hv h hn) hd
end

/-- covariance's own code and its table -/
def CovT (h : Heap) (T : Addr) (ps : Array Value) : Prop := ∃ pm c, h.get? 62 = some (fobj 3 pm c) ∧ h.CodeRec (.ref c) (nm 3) ∧ h.IsCode c T ps ∧ h.TableAt c T ps

structure CovIn (xs ys : List Int) (mx my c : Int) : Prop where
  len : ys.length = xs.length
  two : 2 ≤ xs.length
  most : xs.length < 1000
  sx : xs.sum = mx * xs.length
  sy : ys.sum = my * xs.length
  sp : sumTo (fun i => (xs.getD i 0 - mx) * (ys.getD i 0 - my)) xs.length = c * (xs.length - 1)
  bx : ∀ j, j < xs.length → (xs.getD j 0).natAbs ≤ 2 ^ 50
  bxs : ∀ j, j ≤ xs.length → ((xs.take j).sum).natAbs ≤ 2 ^ 51
  bY : ∀ j, j < xs.length → (ys.getD j 0).natAbs ≤ 2 ^ 50
  bys : ∀ j, j ≤ xs.length → ((ys.take j).sum).natAbs ≤ 2 ^ 51
  bp : ∀ j, j < xs.length → ((xs.getD j 0 - mx) * (ys.getD j 0 - my)).natAbs ≤ 2 ^ 51
  bsp : ∀ j, j ≤ xs.length → (sumTo (fun i => (xs.getD i 0 - mx) * (ys.getD i 0 - my)) j).natAbs ≤ 2 ^ 51
  bmx : mx.natAbs ≤ 2 ^ 50
  bmy : my.natAbs ≤ 2 ^ 50
  bc : c.natAbs ≤ 2 ^ 51

theorem cov_ct {w : World} {A : Around} {E : Value → Shared → Prop} {s : Shared} {B : Heap} {a b T : Addr} {ps : Array Value} {vx vy : List Value} {xs ys : List Int} {mx my cv : Int} {Q : Value → Shared → Prop}
    (G : GF B) (kB : Ext B s.heap) (hBT : B.get? T = none) (CT : CovT s.heap T ps) (hr : A.depth + 1 < recursionLimit) (hh : A.handled = none)
    (ha : IsSq s.heap a vx) (hx : IntsAre vx xs) (haT : a ≠ T) (hb : IsSq s.heap b vy) (hy : IntsAre vy ys) (hbT : b ≠ T) (I : CovIn xs ys mx my cv)
    (h : ∀ s' f t more, Sg s s' → KpB [T] s.heap s'.heap → CovT s'.heap T (ps ++ more) → IsI f cv → Q (.float f t) s') : wpAny (model P w) A (call (.ref 62) [.ref a, .ref b]) Q E s := by
  obtain ⟨pm, c, ho, hc, hok, htab⟩ := CT
  have hTs : s.heap.get? T ≠ none := by obtain ⟨_, q⟩ := htab; rw [q]; simp
  have hT62 : (62 : Nat) ≠ T := by
    rintro rfl; obtain ⟨_, _, q, _⟩ := G.fn (i := 3) (f := 62) (by simp); rw [hBT] at q; cases q
  refine wpAny_call (call_cells (binds := [("x", .ref a), ("y", .ref b)]) (by omega) ho rfl (G.keeps kB).nolimit hc rfl ?_ ?_)
  · intro z hz
    rcases List.mem_cons.mp hz with rfl | hz
    · exact .inl rfl
    · obtain rfl : z = (Str.ofString "y", Value.ref b) := by simpa using hz
      exact .inl rfl
  intro h₁ tk F₁ X₁
  have cX : h₁.IsCell (s.heap.objs.size + 1) none := X₁.cell "xbar" (s.heap.objs.size + 1) rfl
  have cY : h₁.IsCell (s.heap.objs.size + 1 + 1) none := X₁.cell "ybar" (s.heap.objs.size + 1 + 1) rfl
  have fX : s.heap.get? (s.heap.objs.size + 1) = none := Heap.get?_none_of_le (by omega)
  have fY : s.heap.get? (s.heap.objs.size + 1 + 1) = none := Heap.get?_none_of_le (by omega)
  have Fb := Fx.of_fr F₁
  generalize hL : s.heap.objs.size = L at cX cY fX fY Fb ⊢
  generalize hA' : Around.deeper A _ = A'
  have hh' : A'.handled = none := by rw [← hA']; exact hh
  have hr' : A'.depth < recursionLimit := by rw [← hA']; exact hr
  have S₁ : Sm s { s with heap := h₁, toks := tk } := ⟨rfl, rfl, rfl⟩
  replace cX : { s with heap := h₁, toks := tk }.heap.IsCell (L + 1) none := cX
  replace cY : { s with heap := h₁, toks := tk }.heap.IsCell (L + 1 + 1) none := cY
  replace Fb : Fx s.heap L { s with heap := h₁, toks := tk }.heap _ := Fb
  generalize { s with heap := h₁, toks := tk } = s₁ at cX cY Fb S₁ ⊢
  clear F₁ X₁
  have hlx := hx.length
  have hly := hy.length
  have two := I.two
  have most := I.most
  have hlen := I.len
  have G₁ := (G.keeps kB).keeps Fb.keep
  -- n = len(x)
  refine wpAny_execs_cons (wpAny_Assign_Name (Call1 (bi (v := .builtin "len") G₁ (by simp [bis]) (lx Fb rfl ⟨trivial, len_sq (ha.keeps Fb.keep) (by omega) fun t₁ r₁ R₁ e₁ => ?_⟩))))
  rw [← e₁] at Fb cX cY G₁
  refine sx Fb.rebase fun s₂ S₂ F₂' => ?_
  have F₂ := Fb.trans F₂'
  have cX₂ : s₂.heap.IsCell (L + 1) none := cell_at cX fun o e => F₂'.keep _ _ (by rw [get_dropA_ne _ (Nat.succ_ne_self L)]; exact e)
  have cY₂ : s₂.heap.IsCell (L + 1 + 1) none := cell_at cY fun o e => F₂'.keep _ _ (by rw [get_dropA_ne _ (show L + 1 + 1 ≠ L by omega)]; exact e)
  clear F₂' cX cY
  have G₂ := (G.keeps kB).keeps F₂.keep
  -- if len(y) != n
  refine wpAny_execs_cons (wpAny_If (wpAny_isTrue_Compare1 (Call1 (bi (v := .builtin "len") G₂ (by simp [bis]) (lx F₂ rfl ⟨trivial, len_sq (hb.keeps F₂.keep) (by omega) fun t₂ r₂ R₂ e₂ => ?_⟩)))))
  rw [← e₂] at F₂ cX₂ cY₂ G₂
  refine lx F₂ rfl (ne_int (wpAny_truthy_bool ?_))
  have en : ((vy.length : Int) != (vx.length : Int)) = false := by simp; omega
  rw [en, if_neg (by simp)]
  refine wpAny_execs_nil ?_
  -- if n < 2
  refine wpAny_execs_cons (wpAny_If (wpAny_isTrue_Compare1 (lx F₂ rfl (wpAny_Constant_int (lt_int (wpAny_truthy_bool ?_))))))
  rw [if_neg (by simp; omega)]
  refine wpAny_execs_nil ?_
  have hLT : L ≠ T := by rintro rfl; apply hTs; exact Fb.off
  have nX : (L + 1 : Nat) ≠ L := by omega
  have nY : (L + 1 + 1 : Nat) ≠ L := by omega
  have hXT : L + 1 ≠ T := by rintro rfl; exact hTs fX
  have hYT : L + 1 + 1 ≠ T := by rintro rfl; exact hTs fY
  have ev : ((vx.length : Int)) = xs.length := by rw [hlx]
  -- xbar
  refine wpAny_execs_cons (wpAny_Assign_Name (wpAny_BinOp (Call1 (gl (v := .builtin "math.fsum") G₂ (by simp [globs]) (lx F₂ rfl ⟨trivial, fsum_il hh' (ha.keeps F₂.keep) hx (fun j hj => by have := I.bx j hj; omega) I.bxs fun s₃ fx tx S₃ k₃ ix => ?_⟩)))))
  have F₃ := F₂.grow k₃
  refine lx F₃ rfl (divi (k := mx) hh' (by rw [ev, ← I.sx]; exact ix) (by omega) (by omega) (by have := I.bmx; omega) fun xb txb ixb => scell (c := L + 1) (cX₂.keeps k₃) fun s₄ S₄ b₄ cX₄ => ?_)
  have F₄ : Fx s.heap L s₄.heap _ := F₃.same b₄ fX (Ne.symm nX)
  have cY₄ : s₄.heap.IsCell (L + 1 + 1) none := (cY₂.keeps k₃).sameBut b₄ (Nat.succ_ne_self (L + 1))
  have G₄ := (G.keeps kB).keeps F₄.keep
  -- ybar
  refine wpAny_execs_cons (wpAny_Assign_Name (wpAny_BinOp (Call1 (gl (v := .builtin "math.fsum") G₄ (by simp [globs]) (lx F₄ rfl ⟨trivial, fsum_il hh' (hb.keeps F₄.keep) hy (fun j hj => by have := I.bY j (by omega); omega) (fun j hj => I.bys j (by omega)) fun s₅ fy ty S₅ k₅ iy => ?_⟩)))))
  have F₅ := F₄.grow k₅
  refine lx F₅ rfl (divi (k := my) hh' (by rw [ev, ← I.sy]; exact iy) (by omega) (by omega) (by have := I.bmy; omega) fun yb tyb iyb => scell (c := L + 1 + 1) (cY₄.keeps k₅) fun s₆ S₆ b₆ cY₆ => ?_)
  have F₆ : Fx s.heap L s₆.heap _ := F₅.same b₆ fY (Ne.symm nY)
  have cX₆ : s₆.heap.IsCell (L + 1) (some (.float xb txb)) := (cX₄.keeps k₅).sameBut b₆ (Ne.symm (Nat.succ_ne_self (L + 1)))
  have G₆ := (G.keeps kB).keeps F₆.keep
  clear F₂ F₃ F₄ F₅ cX₂ cX₄ cY₂ cY₄ G₂ G₄ Fb G₁
  have quiet : ∀ (cell : Addr) (zb : UInt64) (tz : Tok) (vz : List Value) (zs : List Int) (mz : Int) (sc : Scope) (x q : Str) (px pq pp : Pos) (az Iz Cz : Addr) (code : Value) (bi : Addr) (env : Env) (href : Heap),
      IntsAre vz zs → IsI zb mz → (∀ j, j < zs.length → (zs.getD j 0).natAbs ≤ 2 ^ 50) → mz.natAbs ≤ 2 ^ 50 → Iz ∉ [cell] → href.IsCell cell (some (.float zb tz)) →
      sc.kind = .function → sc.names.lookup x = some .local → sc.names.lookup q = some .free → (x == ("__debug__" : Str)) = false → (q == ("__debug__" : Str)) = false → (q == ("__classdict__" : Str)) = false →
      QuietGen P w (genEnv sc [(q, cell)] Cz code bi env) x [] (.BinOp (.Name x px) .Sub (.Name q pq) pp) (Iz :: az :: cStatics :: [cell]) [Iz] (fun i v => vz[i]? = some v) (fun _ => true) (fun i v => ∃ z t, v = .float z t ∧ IsI z (zs.getD i 0 - mz)) href := by
    intro cell zb tz vz zs mz sc x q px pq pp az Iz Cz code bi env href hz iz bz bm hI hcell hsk hsx hsq d1 d2 d3
    refine ⟨fun A' E' i v s₂ m₂ hA hv hn hm hk => ?_, fun A' E' i v s₂ m₂ hA hv _ hn hm hk => ?_⟩
    · rw [List.forIn_nil]; exact wpAny_pure ⟨rfl, (Sm.refl _).keeps fun _ _ e => e⟩
    · obtain ⟨hlt, t, rfl⟩ := intsAre_at hz hv
      have hc2 : s₂.heap.IsCell cell (some (.float zb tz)) := cell_at hcell fun o e => hk cell (by simp) (by simpa using fun q => hI (by simp [q])) o e
      refine wpAny_BinOp (lx (env := genEnv sc [(q, cell)] Cz code bi env) (Fx.ofNs hn) hm (lfree (c := cell) hc2 (sub_if_fits ?_ ⟨⟨_, _, rfl, ?_⟩, (Sm.mk' _ _ _).keeps fun _ _ e => e⟩) ?_ hsk hsq d3 d2) hsk hsx d1)
      · have := bz i hlt
        exact Nat.lt_of_le_of_lt this (by decide +kernel)
      · exact isI_sub (isI_ofInt (by have := bz i hlt; omega)) iz (by have := bz i hlt; omega)
      · show List.lookup q [(q, cell)] = _
        simp
  have eX : ∃ o, s₆.heap.get? (L + 1) = some o := let ⟨o, e, _⟩ := cX₆; ⟨o, e⟩
  have eY : ∃ o, s₆.heap.get? (L + 1 + 1) = some o := let ⟨o, e, _⟩ := cY₆; ⟨o, e⟩
  refine wpAny_execs_cons (wpAny_Assign_Name (Call2 (gl (v := .builtin "math.sumprod") G₆ (by simp [globs]) (genx (c := c) (T := T) (ps := ps) (vs := vx) (a := a) (FP := [L + 1]) (F := fun i v => ∃ z t, v = .float z t ∧ IsI z (xs.getD i 0 - mx)) (B := B) hh' hr' rfl rfl (fun Q' q => lx F₆ rfl q) G (kB.trans F₆.keep) hBT (ha.keeps F₆.keep) haT (hok.keeps F₆.keep) (htab.keeps F₆.keep) ?_ ?_
    fun a₁ C₁ I₁ s₇ more₁ gs₁ St₁ W₁ st₁ mono₁ k₇ hok₇ htab₇ g₇ b₇ d₇ o₇ fa₁ fC₁ fI₁ ea₁ eC₁ eI₁ => ?_))))
  · intro z hz
    obtain rfl : z = L + 1 := by simpa using hz
    exact ⟨hXT, eX⟩
  · intro Iz Cz code bi href hI hk
    exact quiet (L + 1) xb txb vx xs mx _ "xi" "xbar" _ _ _ a Iz Cz code bi _ href hx ixb I.bx I.bmx hI (cell_at cX₆ fun o e => hk _ (by simp) o e) rfl rfl rfl (by decide) (by decide) (by decide)
  have hLF : s₆.heap.get? L ≠ none := by obtain ⟨o, _, _, e, _⟩ := F₆.ns; rw [e]; simp
  have F₇ : Fx (dropA s.heap T) L s₇.heap _ := ⟨F₆.ns.at' fun o e => k₇ _ o hLT e, fun z o e => k₇ z o (get_dropA e).1 (F₆.keep z o (get_dropA e).2), dropA_none F₆.off⟩
  have kB₇ : Ext B s₇.heap := fun z o e => k₇ z o (by rintro rfl; rw [hBT] at e; cases e) (F₆.keep _ _ (kB _ _ e))
  have hb₇ : IsSq s₇.heap b vy := (hb.keeps F₆.keep).imp (fun ⟨o, e, r⟩ => ⟨o, k₇ _ _ hbT e, r⟩) fun ⟨o, e, r⟩ => ⟨o, k₇ _ _ hbT e, r⟩
  have cY₇ : s₇.heap.IsCell (L + 1 + 1) (some (.float yb tyb)) := cell_at cY₆ fun o e => k₇ _ o hYT e
  have eY₇ : ∃ o, s₇.heap.get? (L + 1 + 1) = some o := let ⟨o, e, _⟩ := cY₇; ⟨o, e⟩
  refine genx (c := c) (T := T) (ps := ps ++ more₁) (vs := vy) (a := b) (FP := [L + 1 + 1]) (F := fun i v => ∃ z t, v = .float z t ∧ IsI z (ys.getD i 0 - my)) (B := B) hh' hr' rfl rfl (fun Q' q => lx F₇ rfl q) G kB₇ hBT hb₇ hbT hok₇ htab₇ ?_ ?_
    fun a₂ C₂ I₂ s₈ more₂ gs₂ St₂ W₂ st₂ mono₂ k₈ hok₈ htab₈ g₈ b₈ d₈ o₈ fa₂ fC₂ fI₂ ea₂ eC₂ eI₂ => ?_
  · intro z hz
    obtain rfl : z = L + 1 + 1 := by simpa using hz
    exact ⟨hYT, eY₇⟩
  · intro Iz Cz code bi href hI hk
    exact quiet (L + 1 + 1) yb tyb vy ys my _ "yi" "ybar" _ _ _ b Iz Cz code bi _ href hy iyb (fun j hj => I.bY j (by omega)) I.bmy hI (cell_at cY₇ fun o e => hk _ (by simp) o e) rfl rfl rfl (by decide) (by decide) (by decide)
  refine ⟨trivial, ?_⟩
  have ne_of : ∀ {hp : Heap} {u v : Addr}, (∃ o, hp.get? u = some o) → hp.get? v = none → u ≠ v := fun {hp u v} ⟨o, e⟩ f => by rintro rfl; rw [f] at e; cases e
  have ex₇ : ∀ {u : Addr}, u ≠ T → (∃ o, s₆.heap.get? u = some o) → ∃ o, s₇.heap.get? u = some o := fun n ⟨o, e⟩ => ⟨o, k₇ _ _ n e⟩
  have ea : ∃ o, s₆.heap.get? a = some o := (ha.keeps F₆.keep).some
  have eb : ∃ o, s₆.heap.get? b = some o := (hb.keeps F₆.keep).some
  have ecs : ∃ o, s₆.heap.get? cStatics = some o := let ⟨_, ⟨o, _, _, e, _⟩, _⟩ := G₆.nolimit; ⟨o, e⟩
  have hTcs : cStatics ≠ T := by
    rintro rfl; obtain ⟨mc, ⟨o, _, _, e, _⟩, _⟩ := G.nolimit; rw [hBT] at e; cases e
  have hT₆ : ∃ o, s₆.heap.get? T = some o := ⟨_, (htab.keeps F₆.keep).2⟩
  have hT₇ : ∃ o, s₇.heap.get? T = some o := ⟨_, htab₇.2⟩
  have hn : vy.length = vx.length := by omega
  rw [hn] at W₂
  have n1T : C₁ ≠ T := Ne.symm (ne_of hT₆ fC₁)
  have n2T : I₁ ≠ T := Ne.symm (ne_of hT₆ fI₁)
  have n3T : a₁ ≠ T := Ne.symm (ne_of hT₆ fa₁)
  have ex₈ : ∀ {u : Addr}, u ≠ T → (∃ o, s₇.heap.get? u = some o) → ∃ o, s₈.heap.get? u = some o := fun n ⟨o, e⟩ => ⟨o, k₈ _ _ n e⟩
  have fpT : ∀ z ∈ a₁ :: C₁ :: I₁ :: a :: cStatics :: [L + 1], z ≠ T := by
    intro z hz
    simp only [List.mem_cons, List.not_mem_nil, or_false] at hz
    rcases hz with rfl | rfl | rfl | rfl | rfl | rfl
    · exact n3T
    · exact n1T
    · exact n2T
    · exact haT
    · exact hTcs
    · exact hXT
  have fpE : ∀ z ∈ a₁ :: C₁ :: I₁ :: a :: cStatics :: [L + 1], ∃ o, s₇.heap.get? z = some o := by
    intro z hz
    simp only [List.mem_cons, List.not_mem_nil, or_false] at hz
    rcases hz with rfl | rfl | rfl | rfl | rfl | rfl
    · exact ea₁
    · exact eC₁
    · exact eI₁
    · exact ex₇ haT ea
    · exact ex₇ hTcs ecs
    · exact ex₇ hXT eX
  have gsz : s₇.gens.size = s₆.gens.size + 1 := by rw [g₇, Array.size_push]
  refine sumprod_ct (v₁ := fun i => xs.getD i 0 - mx) (v₂ := fun i => ys.getD i 0 - my) W₁.in4_1 W₂.in4_1 (by omega) mono₁ mono₂ ?_ ?_ (fun _ _ x => x) (fun _ _ x => x) (fun j hj => I.bp j (by omega)) (fun j hj => I.bsp j (by omega)) (by omega) ?_ st₂ ?_ fun s₉ f tf S₉ K₉ i₉ => ?_
  · intro z hz hw
    have hw' : z = C₂ ∨ z = I₂ := by simpa using hw
    rcases hw' with e | e
    · exact ne_of (fpE z hz) fC₂ e
    · exact ne_of (fpE z hz) fI₂ e
  · intro z hz hw
    have hw' : z = C₁ ∨ z = I₁ := by simpa using hw
    have old : ∀ u, (∃ o, s₆.heap.get? u = some o) → u = C₁ ∨ u = I₁ → False := fun u hu q => q.elim (ne_of hu fC₁) (ne_of hu fI₁)
    have new : ∀ u, s₇.heap.get? u = none → u = C₁ ∨ u = I₁ → False := fun u hu q => q.elim (fun e => ne_of eC₁ hu e.symm) (fun e => ne_of eI₁ hu e.symm)
    simp only [List.mem_cons, List.not_mem_nil, or_false] at hz
    rcases hz with rfl | rfl | rfl | rfl | rfl | rfl
    · exact new _ fa₂ hw'
    · exact new _ fC₂ hw'
    · exact new _ fI₂ hw'
    · exact old _ eb hw'
    · exact old _ ecs hw'
    · exact old _ eY hw'
  · refine mono₁ 0 s₇ s₈ st₁ (fun z hz o e => k₈ z o (fpT z hz) e) ?_
    rw [g₈, Array.getElem?_push_lt (by omega)]
    simp
  · intro z hz
    simp only [List.cons_append, List.nil_append, List.mem_cons, List.not_mem_nil, or_false] at hz
    have : ∃ o, s₈.heap.get? z = some o := by
      rcases hz with rfl | rfl | rfl | rfl
      · exact ex₈ n1T eC₁
      · exact ex₈ n2T eI₁
      · exact eC₂
      · exact eI₂
    obtain ⟨o, e⟩ := this
    exact Heap.lt_size e
  · have nL : ∀ u, s₆.heap.get? u = none → L ≠ u := fun u hu e => hLF (e ▸ hu)
    have fr₇ : ∀ u, s₇.heap.get? u = none → s₆.heap.get? u = none := fun u hu => by
      cases q : s₆.heap.get? u with
      | none => rfl
      | some o =>
        by_cases hT : u = T
        · subst hT; obtain ⟨o', e'⟩ := hT₇; rw [hu] at e'; cases e'
        · rw [k₇ _ _ hT q] at hu; cases hu
    have n₈ : s₈.heap.Ns L _ := F₇.ns.at' fun o e => k₈ _ o hLT e
    have kk : ∀ z o, (dropA s.heap T).get? z = some o → s₉.heap.get? z = some o := fun z o e => by
      have e₆ : s₆.heap.get? z = some o := F₆.keep z o (get_dropA e).2
      refine K₉ z o ?_ (k₈ z o (get_dropA e).1 (F₇.keep z o e))
      intro hz
      simp only [List.cons_append, List.nil_append, List.mem_cons, List.not_mem_nil, or_false] at hz
      rcases hz with rfl | rfl | rfl | rfl
      · exact ne_of ⟨_, e₆⟩ fC₁ rfl
      · exact ne_of ⟨_, e₆⟩ fI₁ rfl
      · exact ne_of ⟨_, e₆⟩ (fr₇ _ fC₂) rfl
      · exact ne_of ⟨_, e₆⟩ (fr₇ _ fI₂) rfl
    have hw9 : ∀ u, u ≠ C₁ → u ≠ I₁ → u ≠ C₂ → u ≠ I₂ → u ∉ [C₁, I₁] ++ [C₂, I₂] := fun u a b c d => by simp [a, b, c, d]
    have F₉ : Fx (dropA s.heap T) L s₉.heap _ := ⟨n₈.at' fun o e => K₉ _ o (hw9 L (nL _ fC₁) (nL _ fI₁) (nL _ (fr₇ _ fC₂)) (nL _ (fr₇ _ fI₂))) e, kk, F₇.off⟩
    refine sx F₉.rebase fun s₁₀ S₁₀ F₁₀' => ?_
    have F₁₀ := F₉.trans F₁₀'
    refine wpAny_execs_cons (wpAny_Return_some (wpAny_BinOp (lx F₁₀ rfl (wpAny_BinOp (lx F₁₀ rfl (wpAny_Constant_int (sub_int (divi (k := cv) hh' ?_ ?_ ?_ ?_ fun y ty iy => ?_))))))))
    · have := I.sp
      rw [ev, ← this, ← hlx]
      exact i₉
    · omega
    · omega
    · have := I.bc; omega
    · have sg₇ : Sg s₆ s₇ := ⟨d₇, o₇, fun hb y hy => by
        rw [g₇] at hy
        rcases Array.mem_push.mp hy with q | q
        · exact hb y q
        · subst q; exact b₇⟩
      have sg₈ : Sg s₇ s₈ := ⟨d₈, o₈, fun hb y hy => by
        rw [g₈] at hy
        rcases Array.mem_push.mp hy with q | q
        · exact hb y q
        · subst q; exact b₈⟩
      have sg₆ : Sg s s₆ := (((((((S₁.tr R₁).tr S₂).tr R₂).tr S₃).tr S₄).tr S₅).tr S₆).sg
      have hok₁₀ : ∀ u o, u ≠ L → s₉.heap.get? u = some o → s₁₀.heap.get? u = some o := fun u o n e => F₁₀'.keep u o (by rw [get_dropA_ne _ n]; exact e)
      have in₁₀ : ∀ u o, u ≠ L → u ∉ [C₁, I₁] ++ [C₂, I₂] → s₈.heap.get? u = some o → s₁₀.heap.get? u = some o := fun u o n m e => hok₁₀ u o n (K₉ u o m e)
      have cE : ∃ o, s.heap.get? c = some o := let ⟨o, _, _, _, _, _, _, _, _, _, e, _⟩ := hok; ⟨o, e⟩
      have in6 : ∀ {u : Addr}, (∃ o, s.heap.get? u = some o) → ∃ o, s₆.heap.get? u = some o := fun ⟨o, e⟩ => ⟨o, F₆.keep _ _ e⟩
      have ncw : ∀ u, (∃ o, s.heap.get? u = some o) → u ∉ [C₁, I₁] ++ [C₂, I₂] := fun u hu => hw9 u (ne_of (in6 hu) fC₁) (ne_of (in6 hu) fI₁) (ne_of (in6 hu) (fr₇ _ fC₂)) (ne_of (in6 hu) (fr₇ _ fI₂))
      have ncL : ∀ u, (∃ o, s.heap.get? u = some o) → u ≠ L := fun u ⟨o, e⟩ q => by rw [q, F₆.off] at e; cases e
      have TE : ∃ o, s.heap.get? T = some o := ⟨_, htab.2⟩
      have ok' : s₁₀.heap.IsCode c T (ps ++ more₁ ++ more₂) := by
        obtain ⟨o, vs, file, tf', flags, tg, inF, text, tt, op, e1, r1, r2, r3, r4, r5, r6, e2, r⟩ := hok₈
        exact ⟨o, vs, file, tf', flags, tg, inF, text, tt, op, in₁₀ _ _ (ncL _ cE) (ncw _ cE) e1, r1, r2, r3, r4, r5, r6, in₁₀ _ _ (ncL _ TE) (ncw _ TE) e2, r⟩
      have tab' : s₁₀.heap.TableAt c T (ps ++ more₁ ++ more₂) := by
        obtain ⟨⟨o, vs, e1, r⟩, e2⟩ := htab₈
        exact ⟨⟨o, vs, in₁₀ _ _ (ncL _ cE) (ncw _ cE) e1, r⟩, in₁₀ _ _ (ncL _ TE) (ncw _ TE) e2⟩
      rw [Array.append_assoc] at ok' tab'
      have kT : KpB [T] s.heap s₁₀.heap := fun u o hu e => F₁₀.keep u o (by rw [get_dropA_ne _ (by simpa using hu)]; exact e)
      have hcT : c ≠ T := let ⟨_, _, _, _, _, _, _, _, _, _, _, _, _, _, _, _, _, _, _, _, n⟩ := hok; n
      refine h _ y _ (more₁ ++ more₂) ((((sg₆.tr sg₇).tr sg₈).tr S₉).tr (S₁₀.tr (Sm.mk' _ _ _)).sg) kT ⟨pm, c, kT _ _ (by simpa using hT62) ho, ?_, ok', tab'⟩ iy
      obtain ⟨c', o, vs, t, e1, e2, r⟩ := hc
      cases e1
      exact ⟨_, o, vs, t, rfl, kT _ _ (by simpa using hcT) e2, r⟩
end Mine
end -- F15

section -- F16
open PySem PySem.W PyProof.Rows PySem.Calls
set_option Elab.async false
set_option maxRecDepth 100000
set_option maxHeartbeats 2000000
namespace Mine
open Hp

def klt (p q : Int × Int) : Bool := decide (p.1 < q.1 ∨ (p.1 = q.1 ∧ p.2 < q.2))
def ltK (key : Value → Int × Int) : Value → Value → Bool := fun v u => klt (key v) (key u)

theorem klt_irr (p : Int × Int) : klt p p = false := by simp [klt]
theorem ltK_ordr (key : Value → Int × Int) : Ordr (ltK key) where
  asym := fun a b h => by simp only [ltK, klt, decide_eq_true_eq, decide_eq_false_iff_not] at h ⊢; omega
  tr := fun a b c h1 h2 => by simp only [ltK, klt, decide_eq_false_iff_not] at h1 h2 ⊢; omega
theorem ltK_irr (key : Value → Int × Int) (a : Value) : ltK key a a = false := klt_irr _

def keyI : Value → Int × Int
  | .int i _ => (i, 0)
  | _ => (0, 0)
def keyD : Data → Int × Int
  | .seq xs _ => (match xs.toList with | [.int x _, .int y _] => (x, y) | _ => (0, 0))
  | _ => (0, 0)
def key2 (B : Heap) : Value → Int × Int
  | .ref a => (match B.get? a with | some o => keyD o.data | none => (0, 0))
  | _ => (0, 0)

/-- a pair of ints -/
def IsT2 (h : Heap) (a : Addr) (p : Int × Int) : Prop := ∃ o n t u, h.get? a = some o ∧ o.cls = .type "tuple" ∧ o.data = .seq #[.int p.1 t, .int p.2 u] n
theorem IsT2.key {h : Heap} {a p} (x : IsT2 h a p) : key2 h (.ref a) = p := by
  obtain ⟨o, n, t, u, e, _, d⟩ := x
  simp [key2, e, d, keyD]
theorem IsT2.keeps {h h' : Heap} {a p} (x : IsT2 h a p) (k : Ext h h') : IsT2 h' a p := let ⟨o, n, t, u, e, r⟩ := x; ⟨o, n, t, u, k _ _ e, r⟩

section
variable {w : World} {A : Around} {E : Value → Shared → Prop} {s : Shared}

theorem cmpI : ∀ (B : Heap), CmpOk w B (ltK keyI) (fun v => ∃ i t, v = .int i t) := by
  rintro B v u ⟨i, t, rfl⟩ ⟨j, t', rfl⟩ A s Q E _ _ h
  have e : ltK keyI (.int i t) (.int j t') = decide (i < j) := by simp [ltK, keyI, klt]
  rw [e] at h
  exact lt_int (h s (Sm.refl _) rfl)

theorem tuple_lt_tree {a b : Addr} {p q : Int × Int} {R : Fin → Shared → Prop} (ha : IsT2 s.heap a p) (hb : IsT2 s.heap b q) (h : R (.done (.ret (.bool (klt p q)))) s) :
    wpAny (model P w) A (Builtin.«tuple.__lt__» ⟨[.ref a, .ref b], []⟩) R E s := by
  obtain ⟨oa, na, t1, u1, hoa, hca, hda⟩ := ha
  obtain ⟨ob, nb, t2, u2, hob, hcb, hdb⟩ := hb
  show wpAny _ _ (isInstance (.ref b) (.type "tuple") >>= _) _ _ s
  refine wpAny_bind (wpAny_isInstance (T := "tuple") ⟨_, hob, hcb⟩ isSubtype_tuple_tuple ?_)
  simp only [Bool.not_true, Bool.false_eq_true, if_false]
  refine wpAny_bind (wpAny_tupleItemsOf hoa hda ?_)
  refine wpAny_bind (wpAny_tupleItemsOf hob hdb ?_)
  simp only [List.zip_cons_cons, List.zip_nil_right, List.forIn_cons, List.forIn_nil]
  refine wpAny_bind (wpAny_bind (wpAny_bind (wpAny_eqBool_int ?_)))
  by_cases e1 : p.1 = q.1
  · rw [show (p.1 == q.1) = true from by simpa using e1]
    simp only [Bool.not_true, Bool.false_eq_true, if_false]
    refine wpAny_pure (wpAny_bind (wpAny_bind (wpAny_eqBool_int ?_)))
    by_cases e2 : p.2 = q.2
    · rw [show (p.2 == q.2) = true from by simpa using e2]
      simp only [Bool.not_true, Bool.false_eq_true, if_false]
      have ek : klt p q = false := by simp [klt, e1, e2]
      rw [ek] at h
      exact wpAny_pure (wpAny_pure (wpAny_pure h))
    · rw [show (p.2 == q.2) = false from by simpa using e2]
      simp only [Bool.not_false, if_true]
      have ek : klt p q = decide (p.2 < q.2) := by simp [klt, e1]
      rw [ek] at h
      refine wpAny_bind (wpAny_rule (wpAny_bind (show wpAny _ _ (compareOp .Lt _ _) _ _ _ from lt_int ?_)))
      exact wpAny_bind (wpAny_pure (wpAny_pure (wpAny_pure (wpAny_pure h))))
  · rw [show (p.1 == q.1) = false from by simpa using e1]
    simp only [Bool.not_false, if_true]
    have ek : klt p q = decide (p.1 < q.1) := by simp [klt, e1]
    rw [ek] at h
    refine wpAny_bind (wpAny_rule (wpAny_bind (show wpAny _ _ (compareOp .Lt _ _) _ _ _ from lt_int ?_)))
    exact wpAny_bind (wpAny_pure (wpAny_pure (wpAny_pure (wpAny_pure h))))

theorem lt_tuple2 {a b : Addr} {p q : Int × Int} {Q : Value → Shared → Prop} (ha : IsT2 s.heap a p) (hb : IsT2 s.heap b q) (hu : A.units < cLine) (h : Q (.bool (klt p q)) s) :
    wpAny (model P w) A (compareOp .Lt (.ref a) (.ref b)) Q E s := by
  have hTa : s.TypeIs (.ref a) "tuple" := let ⟨_, _, _, _, e, c, _⟩ := ha; ⟨_, e, c⟩
  have hTb : s.TypeIs (.ref b) "tuple" := let ⟨_, _, _, _, e, c, _⟩ := hb; ⟨_, e, c⟩
  show wpAny _ _ (richCompare .Lt (.ref a) (.ref b)) _ _ _
  refine wpAny_richCompare_same_room hTa hTb PySem.F.slot_tuple_lt (wpAny_call_entry PySem.F.slot_tuple_lt hTa PySem.F.entry_tuple_lt (tuple_lt_tree ha hb ⟨_, rfl, by simp, h⟩) (PySem.F.args_tuple_lt_2 _ _)) hu

theorem cmpT (B : Heap) : CmpOk w B (ltK (key2 B)) (fun v => ∃ a p, v = .ref a ∧ IsT2 B a p) := by
  rintro v u ⟨a, p, rfl, ha⟩ ⟨b, q, rfl, hb⟩ A s Q E hu hk h
  refine lt_tuple2 (ha.keeps hk) (hb.keeps hk) (by have : cLine = 9900 := rfl; omega) ?_
  have e : ltK (key2 B) (.ref a) (.ref b) = klt p q := by simp only [ltK, ha.key, hb.key]
  rw [e] at h
  exact h s (Sm.refl _) rfl
end
end Mine
end -- F16

section -- H2
open PySem PySem.W PyProof.Rows
set_option maxRecDepth 100000
namespace Mine.Srt
open Hp

abbrev g (p : Array Nat) (i : Nat) : Nat := p.getD i 0

theorem g_of {p q : Array Nat} {i j : Nat} (h : p[i]? = q[j]?) : g p i = g q j := by
  simp only [g, Array.getD_eq_getD_getElem?, h]

theorem g_rev {p : Array Nat} {i j : Nat} (hj : j ≤ p.size) (k : Nat) : g (kas_rev p i j) k = if i ≤ k ∧ k < j then g p (i + j - 1 - k) else g p k := by
  have e := getElem?_mirror_all (xs := p) (i := i) hj k
  unfold kas_rev
  split
  · rename_i h
    rw [if_pos h] at e
    exact g_of e
  · rename_i h
    rw [if_neg h] at e
    exact g_of e

variable {n : Nat} {lt : Nat → Nat → Bool} {cmp : Nat → Nat → (Bool → Shared → Prop) → Shared → Prop} {s : Shared}

def Pm (n : Nat) (p : Array Nat) : Prop := p.Perm (List.toArray (List.range n))
theorem Pm.size {p : Array Nat} (h : Pm n p) : p.size = n := by have := h.size_eq; simpa using this
theorem Pm.ltn {p : Array Nat} (h : Pm n p) {i : Nat} (hi : i < n) : g p i < n := by
  have hs := h.size
  have hm : p.getD i 0 ∈ p := by
    have : i < p.size := by omega
    simp [Array.getD, this]
  have := h.mem_iff.mp hm
  simpa using this
theorem Pm.rev {p : Array Nat} (h : Pm n p) (i j : Nat) : Pm n (kas_rev p i j) := (mirror_perm p i j _).trans h
theorem Pm.bub {p : Array Nat} (h : Pm n p) (i j : Nat) : Pm n (bubble p i j) := (bubble_perm p i j).trans h

def Sd (lt : Nat → Nat → Bool) (k : Nat) (p : Array Nat) : Prop := ∀ i j, i ≤ j → j < k → lt (g p j) (g p i) = false
def Ni (lt : Nat → Nat → Bool) (k : Nat) (p : Array Nat) : Prop := ∀ i j, i ≤ j → j < k → lt (g p i) (g p j) = false
def Blk (lt : Nat → Nat → Bool) (b k : Nat) (p : Array Nat) : Prop := ∀ i j, b ≤ i → i < k → b ≤ j → j < k → lt (g p i) (g p j) = false

theorem irr (O : Ordr lt) (a : Nat) : lt a a = false := by
  cases h : lt a a with
  | false => rfl
  | true => rw [O.asym _ _ h] at h; cases h

theorem asc (O : Ordr lt) (hc : ∀ i j C, i < n → j < n → C (lt i j) s → cmp i j C s) {p : Array Nat} (hp : Pm n p) {G : Nat → Shared → Prop} :
    ∀ f a, 1 ≤ a → a + f ≤ n → Sd lt a p → (∀ m, a ≤ m → m ≤ a + f → Sd lt m p → (m < a + f → lt (g p m) (g p (m - 1)) = true) → G m s) → (kas_asc p f a).kasWp cmp G s
  | 0, a, h1, h2, h3, h => h a (Nat.le_refl _) (Nat.le_refl _) h3 (fun q => absurd q (Nat.lt_irrefl _))
  | f + 1, a, h1, h2, h3, h => by
    refine hc _ _ _ (hp.ltn (by omega)) (hp.ltn (by omega)) ?_
    show KasT.kasWp cmp (if lt (g p a) (g p (a - 1)) = true then .ret a else kas_asc p f (a + 1)) G s
    cases e : lt (g p a) (g p (a - 1)) with
    | true => rw [if_pos rfl]; exact h a (Nat.le_refl _) (by omega) h3 (fun _ => e)
    | false =>
      rw [if_neg (by simp)]
      refine asc O hc hp f (a + 1) (by omega) (by omega) ?_ fun m m1 m2 m3 m4 => h m (by omega) (by omega) m3 (fun q => m4 (by omega))
      intro i j hij hj
      by_cases hja : j = a
      · subst hja
        by_cases hia : i = j
        · subst hia; exact irr O _
        · exact O.tr _ _ _ (h3 i (j - 1) (by omega) (by omega)) e
      · exact h3 i j hij (by omega)

theorem Ni.rev {p : Array Nat} {b a k : Nat} (h : Ni lt k p) (hb : Blk lt b a p) (hba : b ≤ a) (hak : a ≤ k) (hs : a ≤ p.size) : Ni lt k (kas_rev p b a) := by
  intro i j hij hj
  rw [g_rev hs, g_rev hs]
  by_cases h1 : b ≤ i ∧ i < a
  · rw [if_pos h1]
    by_cases h2 : b ≤ j ∧ j < a
    · rw [if_pos h2]; exact hb _ _ (by omega) (by omega) (by omega) (by omega)
    · rw [if_neg h2]; exact h _ _ (by omega) hj
  · rw [if_neg h1]
    by_cases h2 : b ≤ j ∧ j < a
    · rw [if_pos h2]; exact h _ _ (by omega) (by omega)
    · rw [if_neg h2]; exact h _ _ hij hj

theorem desc (O : Ordr lt) (hc : ∀ i j C, i < n → j < n → C (lt i j) s → cmp i j C s) {G : Array Nat × Nat × Nat → Shared → Prop} :
    ∀ f (p : Array Nat) a q, Pm n p → q + 1 ≤ a → a + f ≤ n → Ni lt a p → Blk lt (a - (q + 1)) a p →
      (∀ p' a' q', Pm n p' → a ≤ a' → a' ≤ a + f → q' + 1 ≤ a' → Ni lt a' p' → Blk lt (a' - (q' + 1)) a' p' → G (p', a', q') s) → (kas_desc f p a q).kasWp cmp G s
  | 0, p, a, q, hp, h1, h2, h3, h4, h => h p a q hp (Nat.le_refl _) (Nat.le_refl _) h1 h3 h4
  | f + 1, p, a, q, hp, h1, h2, h3, h4, h => by
    refine hc _ _ _ (hp.ltn (by omega)) (hp.ltn (by omega)) ?_
    show KasT.kasWp cmp (if lt (g p a) (g p (a - 1)) = true then (if q > 0 then kas_desc f (kas_rev p (a - (q + 1)) a) (a + 1) 0 else kas_desc f p (a + 1) 0)
      else .ask (g p (a - 1)) (g p a) fun d => if d = true then .ret (p, a, q) else kas_desc f p (a + 1) (q + 1)) G s
    have ni1 : lt (g p (a - 1)) (g p a) = false → Ni lt (a + 1) p := fun e i j hij hj => by
      by_cases hja : j = a
      · subst hja
        by_cases hia : i = j
        · subst hia; exact irr O _
        · exact O.tr _ _ _ e (h3 i (j - 1) (by omega) (by omega))
      · exact h3 i j hij (by omega)
    cases e : lt (g p a) (g p (a - 1)) with
    | true =>
      rw [if_pos rfl]
      have n1 := ni1 (O.asym _ _ e)
      have blk0 : ∀ p' : Array Nat, Blk lt (a + 1 - (0 + 1)) (a + 1) p' := fun p' i j i1 i2 j1 j2 => by
        have : i = j := by omega
        subst this; exact irr O _
      by_cases hq : q > 0
      · rw [if_pos hq]
        exact desc O hc f _ (a + 1) 0 (hp.rev _ _) (by omega) (by omega) (n1.rev h4 (by omega) (by omega) (by rw [hp.size]; omega)) (blk0 _) fun p' a' q' x1 x2 x3 x4 x5 x6 => h p' a' q' x1 (by omega) (by omega) x4 x5 x6
      · rw [if_neg hq]
        exact desc O hc f _ (a + 1) 0 hp (by omega) (by omega) n1 (blk0 _) fun p' a' q' x1 x2 x3 x4 x5 x6 => h p' a' q' x1 (by omega) (by omega) x4 x5 x6
    | false =>
      rw [if_neg (by simp)]
      refine hc _ _ _ (hp.ltn (by omega)) (hp.ltn (by omega)) ?_
      show KasT.kasWp cmp (if lt (g p (a - 1)) (g p a) = true then .ret (p, a, q) else kas_desc f p (a + 1) (q + 1)) G s
      cases e2 : lt (g p (a - 1)) (g p a) with
      | true => rw [if_pos rfl]; exact h p a q hp (Nat.le_refl _) (by omega) h1 h3 h4
      | false =>
        rw [if_neg (by simp)]
        refine desc O hc f p (a + 1) (q + 1) hp (by omega) (by omega) (ni1 e2) ?_ fun p' a' q' x1 x2 x3 x4 x5 x6 => h p' a' q' x1 (by omega) (by omega) x4 x5 x6
        have eb : a + 1 - (q + 1 + 1) = a - (q + 1) := by omega
        rw [eb]
        intro i j i1 i2 j1 j2
        by_cases hi : i = a
        · subst hi
          by_cases hj : j = i
          · subst hj; exact irr O _
          · exact O.tr _ _ _ (h4 (i - 1) j (by omega) (by omega) j1 (by omega)) e
        · by_cases hj : j = a
          · subst hj
            exact O.tr _ _ _ e2 (h4 i (j - 1) i1 (by omega) (by omega) (by omega))
          · exact h4 i j i1 (by omega) j1 (by omega)

theorem Ni.turn {p : Array Nat} {k : Nat} (h : Ni lt k p) (hs : k ≤ p.size) : Sd lt k (kas_rev p 0 k) := by
  intro i j hij hj
  rw [g_rev hs, g_rev hs, if_pos ⟨Nat.zero_le _, hj⟩, if_pos ⟨Nat.zero_le _, by omega⟩]
  exact h _ _ (by omega) (by omega)

theorem tail3 (O : Ordr lt) (hc : ∀ i j C, i < n → j < n → C (lt i j) s → cmp i j C s) {G : Nat × Array Nat → Shared → Prop} {p : Array Nat} {a : Nat} (hp : Pm n p) (h1 : 1 ≤ a) (h2 : a ≤ n) (h3 : Ni lt a p)
    (h : ∀ m p', Pm n p' → 1 ≤ m → m ≤ n → Sd lt m p' → G (m, p') s) : (kas_tail3 a n p).kasWp cmp G s := by
  unfold kas_tail3
  rw [KasT.kasWp_bind]
  refine asc O hc (hp.rev 0 a) (n - a) a h1 (by omega) (h3.turn (by rw [hp.size]; exact h2)) fun m m1 m2 m3 _ => ?_
  exact h m _ (hp.rev 0 a) (by omega) (by omega) m3

theorem descPart (O : Ordr lt) (hc : ∀ i j C, i < n → j < n → C (lt i j) s → cmp i j C s) {G : Nat × Array Nat → Shared → Prop} {p : Array Nat} {a : Nat} (hp : Pm n p) (h1 : 1 ≤ a) (h2 : a + 1 ≤ n) (h3 : Ni lt (a + 1) p)
    (h : ∀ m p', Pm n p' → 1 ≤ m → m ≤ n → Sd lt m p' → G (m, p') s) : (kas_descPart a n p).kasWp cmp G s := by
  unfold kas_descPart
  rw [KasT.kasWp_bind]
  refine desc O hc (n - (a + 1)) p (a + 1) 0 hp (by omega) (by omega) h3 (fun i j i1 i2 j1 j2 => by
    have : i = j := by omega
    subst this; exact irr O _) fun p' a' q' x1 x2 x3 x4 x5 x6 => ?_
  dsimp only
  by_cases hq : q' > 0
  · rw [if_pos hq]
    exact tail3 O hc (x1.rev _ _) (by omega) (by omega) (x5.rev x6 (by omega) (Nat.le_refl _) (by rw [x1.size]; omega)) h
  · rw [if_neg hq]
    exact tail3 O hc x1 (by omega) (by omega) x5 h

theorem count (O : Ordr lt) (hc : ∀ i j C, i < n → j < n → C (lt i j) s → cmp i j C s) {G : Nat × Array Nat → Shared → Prop} {p : Array Nat} (hp : Pm n p) (h1 : 1 ≤ n)
    (h : ∀ m p', Pm n p' → 1 ≤ m → m ≤ n → Sd lt m p' → G (m, p') s) : (kas_count n p).kasWp cmp G s := by
  unfold kas_count
  rw [KasT.kasWp_bind]
  refine asc O hc hp (n - 1) 1 (Nat.le_refl _) (by omega) (fun i j hij hj => by
    have : i = j := by omega
    subst this; exact irr O _) fun m m1 m2 m3 m4 => ?_
  by_cases e1 : (m == n) = true
  · rw [if_pos e1]
    exact h m p hp m1 (by omega) m3
  · rw [if_neg e1]
    have hmn : m < n := by
      have : m ≠ n := by simpa using e1
      omega
    have hlt := m4 (by omega)
    by_cases e2 : m > 1
    · rw [if_pos e2]
      refine hc _ _ _ (hp.ltn (by omega)) (hp.ltn (by omega)) ?_
      show KasT.kasWp cmp (if lt (g p 0) (g p (m - 1)) = true then .ret (m, p) else kas_descPart m n (kas_rev p 0 m)) G s
      cases e3 : lt (g p 0) (g p (m - 1)) with
      | true => rw [if_pos rfl]; exact h m p hp m1 (by omega) m3
      | false =>
        rw [if_neg (by simp)]
        have hsz : m ≤ p.size := by rw [hp.size]; omega
        -- all of the run is equal
        have low : ∀ j, j < m → lt (g p 0) (g p j) = false := fun j hj => O.tr _ _ _ (m3 j (m - 1) (by omega) (by omega)) e3
        have eq' : ∀ i j, i < m → j < m → lt (g p i) (g p j) = false := fun i j hi hj => by
          refine O.tr (g p j) (g p 0) (g p i) (low j hj) ?_
          cases q : lt (g p i) (g p 0) with
          | false => rfl
          | true => rw [m3 0 i (by omega) hi] at q; cases q
        refine descPart O hc (hp.rev 0 m) m1 hmn (fun i j hij hj => ?_) h
        rw [g_rev hsz, g_rev hsz]
        by_cases hjm : j < m
        · rw [if_pos ⟨Nat.zero_le _, by omega⟩, if_pos ⟨Nat.zero_le _, hjm⟩]; exact eq' _ _ (by omega) (by omega)
        · have : j = m := by omega
          subst this
          rw [if_neg (c := 0 ≤ j ∧ j < j) (by omega)]
          by_cases him : i < j
          · rw [if_pos ⟨Nat.zero_le _, him⟩]
            exact O.tr _ _ _ (O.asym _ _ hlt) (eq' _ _ (by omega) (by omega))
          · have : i = j := by omega
            subst this
            rw [if_neg (by omega)]; exact irr O _
    · rw [if_neg e2]
      have : m = 1 := by omega
      subst this
      refine descPart O hc hp (Nat.le_refl _) hmn (fun i j hij hj => ?_) h
      by_cases hij' : i = j
      · subst hij'; exact irr O _
      · have a1 : i = 0 := by omega
        have a2 : j = 1 := by omega
        subst a1 a2
        exact O.asym _ _ hlt

theorem g_bub {p : Array Nat} {src d : Nat} (hs : src < p.size) (hd : d ≤ src) (k : Nat) : g (bubble p src d) k = if k = src - d then g p src else if src - d < k ∧ k ≤ src then g p (k - 1) else g p k := by
  have e := getElem?_bubble hs d hd k
  by_cases h : k = src - d
  · rw [if_pos h] at e ⊢
    exact g_of e
  · rw [if_neg h] at e ⊢
    by_cases h2 : src - d < k ∧ k ≤ src
    · rw [if_pos h2] at e ⊢
      exact g_of e
    · rw [if_neg h2] at e ⊢
      exact g_of e

theorem place (O : Ordr lt) (hc : ∀ i j C, i < n → j < n → C (lt i j) s → cmp i j C s) {p : Array Nat} {k : Nat} (hp : Pm n p) (hk : k < n) (hs : Sd lt k p) {G : Nat → Shared → Prop} :
    ∀ f l r, r - l ≤ f → l ≤ r → r ≤ k → (∀ i, i < l → lt (g p k) (g p i) = false) → (∀ i, r ≤ i → i < k → lt (g p k) (g p i) = true) →
      (∀ m, m ≤ k → (∀ i, i < m → lt (g p k) (g p i) = false) → (∀ i, m ≤ i → i < k → lt (g p k) (g p i) = true) → G m s) → (kas_place p k f l r).kasWp cmp G s
  | 0, l, r, hf, hlr, hrk, h1, h2, h => by
    have : l = r := by omega
    subst this
    exact h l hrk h1 h2
  | f + 1, l, r, hf, hlr, hrk, h1, h2, h => by
    unfold kas_place
    by_cases hge : l ≥ r
    · rw [if_pos hge]
      have : l = r := by omega
      subst this
      exact h l hrk h1 h2
    · rw [if_neg hge]
      refine hc _ _ _ (hp.ltn hk) (hp.ltn (by omega)) ?_
      show KasT.kasWp cmp (if lt (g p k) (g p ((l + r) / 2)) = true then kas_place p k f l ((l + r) / 2) else kas_place p k f ((l + r) / 2 + 1) r) G s
      cases e : lt (g p k) (g p ((l + r) / 2)) with
      | true =>
        rw [if_pos rfl]
        refine place O hc hp hk hs f l ((l + r) / 2) (by omega) (by omega) (by omega) h1 (fun i hi hik => ?_) h
        cases q : lt (g p k) (g p i) with
        | true => rfl
        | false => rw [O.tr _ _ _ (hs ((l + r) / 2) i hi hik) q] at e; cases e
      | false =>
        rw [if_neg (by simp)]
        refine place O hc hp hk hs f ((l + r) / 2 + 1) r (by omega) (by omega) hrk (fun i hi => ?_) h2 h
        by_cases hil : i < l
        · exact h1 i hil
        · exact O.tr _ _ _ (hs i ((l + r) / 2) (by omega) (by omega)) e

theorem bins (O : Ordr lt) (hc : ∀ i j C, i < n → j < n → C (lt i j) s → cmp i j C s) {G : Array Nat → Shared → Prop} :
    ∀ f (p : Array Nat) k, Pm n p → k + f = n → Sd lt k p → (∀ p', Pm n p' → Sd lt n p' → G p' s) → (kas_bin f p k).kasWp cmp G s
  | 0, p, k, hp, hk, hs, h => h p hp (by have : k = n := by omega
                                         exact this ▸ hs)
  | f + 1, p, k, hp, hk, hs, h => by
    unfold kas_bin
    rw [KasT.kasWp_bind]
    refine place O hc hp (by omega) hs k 0 k (by omega) (Nat.zero_le _) (Nat.le_refl _) (fun i hi => absurd hi (Nat.not_lt_zero _)) (fun i h1 h2 => absurd h2 (by omega)) fun l hl h1 h2 => ?_
    refine bins O hc f _ (k + 1) (hp.bub _ _) (by omega) (fun i j hij hj => ?_) h
    have hz : k < p.size := by rw [hp.size]; omega
    have ed : k - (k - l) = l := by omega
    rw [g_bub hz (by omega), g_bub hz (by omega), ed]
    by_cases ei : i = l
    · subst ei
      rw [if_pos (rfl : i = i)]
      by_cases ej : j = i
      · rw [if_pos ej]; exact irr O _
      · rw [if_neg ej, if_pos ⟨by omega, by omega⟩]
        exact O.asym _ _ (h2 (j - 1) (by omega) (by omega))
    · rw [if_neg ei]
      by_cases ej : j = l
      · rw [if_pos ej, if_neg (by omega)]
        exact h1 i (by omega)
      · rw [if_neg ej]
        by_cases a1 : l < j ∧ j ≤ k
        · rw [if_pos a1]
          by_cases a2 : l < i ∧ i ≤ k
          · rw [if_pos a2]; exact hs _ _ (by omega) (by omega)
          · rw [if_neg a2]; exact hs _ _ (by omega) (by omega)
        · rw [if_neg a1, if_neg (by omega)]
          exact hs _ _ hij (by omega)

/-- the sort's tree of questions puts things in order -/
theorem kas_sorts (O : Ordr lt) (hc : ∀ i j C, i < n → j < n → C (lt i j) s → cmp i j C s) (h1 : 1 ≤ n) {G : Array Nat → Shared → Prop} (h : ∀ p, Pm n p → Sd lt n p → G p s) : (kas_sort n).kasWp cmp G s := by
  unfold kas_sort
  rw [KasT.kasWp_bind]
  refine count O hc (Array.Perm.refl _) h1 fun m p hp m1 m2 m3 => ?_
  dsimp only
  by_cases hm : m < n
  · rw [if_pos hm]
    have e : max m 1 = m := by omega
    rw [e]
    exact bins O hc (n - m) p m hp (by omega) m3 h
  · rw [if_neg hm]
    have : m = n := by omega
    exact h p hp (this ▸ m3)
end Mine.Srt
end -- H2

section -- F17
open PySem PySem.W PyProof.Rows PySem.Calls
set_option Elab.async false
set_option maxRecDepth 100000
set_option maxHeartbeats 2000000
namespace Mine
open Hp

theorem katTups_of {h : Heap} : ∀ (vs : List Value), (∀ v ∈ vs, ∃ a p, v = .ref a ∧ IsT2 h a p) → ∃ fs, KatTups h vs fs ∧ fs.length = vs.length ∧ ∀ f ∈ fs, ∃ i t, f = .int i t
  | [], _ => ⟨[], .nil, rfl, fun _ h => nomatch h⟩
  | v :: r, h => by
    obtain ⟨fs, k, l, f⟩ := katTups_of r fun v hv => h v (List.mem_cons_of_mem _ hv)
    obtain ⟨a, p, rfl, o, n, t, u, e, c, d⟩ := h v (.head _)
    refine ⟨.int p.1 t :: fs, .cons e c d rfl k, by simp [l], fun g hg => ?_⟩
    rcases List.mem_cons.mp hg with rfl | hg
    · exact ⟨_, _, rfl⟩
    · exact f g hg

theorem pm_perm {vs : List Value} {p : Array Nat} (h : Srt.Pm vs.length p) : (p.toList.map fun i => vs.getD i Value.none).Perm vs := by
  have h1 : p.toList.Perm (List.range vs.length) := by
    have := h.toList
    simpa using this
  have h2 := h1.map fun i => vs.getD i Value.none
  refine h2.trans (List.Perm.of_eq ?_)
  refine List.ext_getElem (by simp) fun i h1 h2 => ?_
  simp [List.getElem?_eq_getElem h2]

theorem sd_srt {vs : List Value} {p : Array Nat} {lt : Value → Value → Bool} (hp : Srt.Pm vs.length p) (h : Srt.Sd (fun i j => lt (vs.getD i .none) (vs.getD j .none)) vs.length p) :
    Srt lt (p.toList.map fun i => vs.getD i Value.none) := by
  have hs := hp.size
  refine List.pairwise_iff_getElem.mpr fun i j hi hj hij => ?_
  have hi' : i < p.size := by simpa using hi
  have hj' : j < p.size := by simpa using hj
  have := h i j (by omega) (by omega)
  simp only [Srt.g, Array.getD, hi', hj', dif_pos] at this
  simpa using this

section
variable {w : World} {A : Around} {E : Value → Shared → Prop} {s : Shared}

theorem sorted_t {B : Heap} {L l : Addr} {m} {vs : List Value} {Q : Value → Shared → Prop} (F : Fx B L s.heap m) (hl : s.heap.IsList l vs.toArray) (ht : ∀ v ∈ vs, ∃ a p, v = .ref a ∧ IsT2 s.heap a p) (h2 : 2 ≤ vs.length) (h64 : vs.length < 64)
    (h : ∀ s' D zs, Sm s s' → Fx (dropA s.heap L) L s'.heap m → (dropA s.heap L).get? D = none → D ≠ L → s'.heap.PlainList D zs.toArray → zs.Perm vs → Srt (ltK (key2 s.heap)) zs → Q (.ref D) s') :
    wpAny (model P w) A (call (.builtin "sorted") [.ref l]) Q E s := by
  have F' := F.rebase
  have neL : ∀ {a p}, IsT2 s.heap a p → a ≠ L := by
    rintro a p ⟨o, n, t, u, e, _, d⟩ rfl
    obtain ⟨o', es, ep, e', d', _⟩ := F.ns
    rw [e] at e'; cases e'; rw [d] at d'; cases d'
  refine kat_sorted F'.fr F'.news hl h2 h64 fun D e1 h' Fr' N' hD => ?_
  have F₁ : Fx (dropA s.heap L) L h' m := Fx.back (more := [_]) Fr' N' F'.off
  have t₁ : ∀ {a p}, IsT2 s.heap a p → IsT2 h' a p := fun x => let ⟨o, n, t, u, e, r⟩ := x; ⟨o, n, t, u, F₁.keep _ _ (by rw [get_dropA_ne _ (neL x)]; exact e), r⟩
  obtain ⟨fs, hk, hfl, hf⟩ := katTups_of (h := h') vs fun v hv => let ⟨a, p, e, x⟩ := ht v hv; ⟨a, p, e, t₁ x⟩
  have fD : (dropA s.heap L).get? D = none := by
    cases q : (dropA s.heap L).get? D with
    | none => rfl
    | some o => exact absurd (hD (D, o) (mem_newsOf.mpr q)) (Nat.lt_irrefl _)
  refine kat_kind (T := .type "int") hk (by omega) (fun v hv => ?_) (by decide) ?_
  · obtain ⟨i, t, rfl⟩ := hf v hv
    exact Looks.of_pure rfl
  have eT : (Value.type "int" != Value.type "tuple") = true := by decide
  rw [eT]
  have O := ltK_ordr (key2 s.heap)
  refine Srt.kas_sorts (lt := fun i j => ltK (key2 s.heap) (vs.getD i .none) (vs.getD j .none)) ⟨fun a b => O.asym _ _, fun a b c => O.tr _ _ _⟩ (fun i j C hi hj hC => ?_) (by omega) fun p hp hsd => ?_
  · have gi : ∀ i, i < vs.length → ∃ a p, vs.getD i .none = .ref a ∧ IsT2 s.heap a p := fun i hi => ht _ (by
      have : vs.getD i .none = vs[i] := by simp [hi]
      rw [this]; exact List.getElem_mem hi)
    obtain ⟨a, p, ea, xa⟩ := gi i hi
    obtain ⟨b, q, eb, xb⟩ := gi j hj
    unfold kas_ask
    rw [ea, eb] at hC ⊢
    have ek : ltK (key2 s.heap) (.ref a) (.ref b) = klt p q := by simp only [ltK, xa.key, xb.key]
    rw [ek] at hC
    obtain ⟨oa, na, ta, ua, ga, _, da⟩ := t₁ xa
    obtain ⟨ob, nb, tb, ub, gb, _, db⟩ := t₁ xb
    refine kat_lt ga da gb db (kat_cons (wpAny_eqBool_int ?_))
    by_cases e1 : p.1 = q.1
    · rw [show (p.1 == q.1) = true from by simpa using e1]
      refine kat_yes (kat_cons (wpAny_eqBool_int ?_))
      by_cases e2 : p.2 = q.2
      · rw [show (p.2 == q.2) = true from by simpa using e2]
        have : klt p q = false := by simp [klt, e1, e2]
        rw [this] at hC
        exact kat_yes (kat_nil hC)
      · rw [show (p.2 == q.2) = false from by simpa using e2]
        have : klt p q = decide (p.2 < q.2) := by simp [klt, e1]
        rw [this] at hC
        exact kat_no (kat_one _ _ (lt_int hC))
    · rw [show (p.1 == q.1) = false from by simpa using e1]
      have : klt p q = decide (p.1 < q.1) := by simp [klt, e1]
      rw [this] at hC
      exact kat_no (oneLt_int hC)
  · refine KasFin.intro (g := fun o => (D, o) :: newsOf (dropA s.heap L)) Fr' N' (UpdF.head ?_) fun h₂ c Fr₂ N₂ => ?_
    · intro q hq; exact Nat.ne_of_lt (hD q hq)
    · have F₂ : Fx (dropA s.heap L) L h₂ m := Fx.back (more := [_]) Fr₂ N₂ F'.off
      have nD := N₂ (D, listOf (List.toArray (p.toList.map fun i => vs.getD i Value.none)) c) (.head _)
      exact h _ D _ ⟨rfl, rfl, rfl⟩ F₂ fD nD.2.1 ⟨c, nD.1⟩ (pm_perm hp) (sd_srt hp hsd)

theorem sorted_i {B : Heap} {L l : Addr} {m} {vs : List Value} {xs : List Int} {Q : Value → Shared → Prop} (F : Fx B L s.heap m) (hl : s.heap.IsList l vs.toArray) (hi : IntsAre vs xs) (h64 : xs.length < 64)
    (h : ∀ s' D zs ys, Sm s s' → Fx (dropA s.heap L) L s'.heap m → s'.heap.IsList D zs.toArray → IntsAre zs ys → ys.Perm xs → ys.Pairwise (· ≤ ·) → Q (.ref D) s') :
    wpAny (model P w) A (call (.builtin "sorted") [.ref l]) Q E s := by
  have F' := F.rebase
  refine kso_sorted F'.fr F'.news hl hi h64 fun D vs' ns' c h' Fr' N' _ hi' _ hp hs _ => ?_
  exact h _ D vs' ns' ⟨rfl, rfl, rfl⟩ (Fx.back (more := [_]) Fr' N' F'.off) (PySem.IsL.isList (n := c) (N' _ (.head _)).1) hi' hp hs
end
end Mine
end -- F17

section -- M1
open PySem PySem.W PyProof.Rows PySem.Calls
set_option Elab.async false
set_option maxRecDepth 100000
set_option maxHeartbeats 2000000
namespace Mine
open Hp

/-- an iterator of n items -/
def Src (w : World) (n : Nat) (Pv : Nat → Value → Prop) (s : Shared) (it : Value) (s₂ : Shared) : Prop :=
  ∃ I fp St, it = .ref I ∧ Sm s s₂ ∧ Ext s.heap s₂.heap ∧ s.heap.get? I = none ∧ (∀ A : Around, A.handled = none → Walks P w A I fp [I] n Pv St) ∧ St 0 s₂.heap ∧ (∃ o, s₂.heap.get? I = some o) ∧ ∀ b ∈ fp, ∃ o, s₂.heap.get? b = some o

section
variable {w : World} {A : Around} {E : Value → Shared → Prop} {s : Shared} {env : Env}

theorem src_list {a : Addr} {vs : List Value} {s₁ : Shared} {Q : Value → Shared → Prop} (S : Sm s s₁) (k : Ext s.heap s₁.heap) (hl : s₁.heap.IsList a vs.toArray)
    (h : ∀ it s₂, Src w vs.length (fun i v => vs[i]? = some v) s it s₂ → Q it s₂) : wpAny (model P w) A (pyIter (.ref a)) Q E s₁ := by
  refine iter_sq (.inl hl) fun I s₂ St S₂ k₂ f₂ e₂ n₂ W₂ st₂ => h _ _ ⟨I, _, St, rfl, S.tr S₂, k.trans k₂, none_of_ext k f₂, W₂, st₂, e₂, ?_⟩
  intro b hb
  have : b = I ∨ b = a := by simpa using hb
  rcases this with rfl | rfl
  · exact e₂
  · exact ((show IsSq _ _ _ from .inl hl).keeps k₂).some

theorem src_range {e : Expr} {rp rpos : Pos} {Q : Value → Shared → Prop} (G : GF s.heap)
    (h : wpAny (model P w) A (eval e env) (fun v s₁ => Sm s s₁ ∧ Ext s.heap s₁.heap ∧ ∃ n : Nat, ∃ t, v = .int n t ∧ n < 2 ^ 60 ∧ ∀ it s₂, Src w n (fun i v => ∃ t, v = .int i t) s it s₂ → Q it s₂) E s)
    (hk : env.scope.kind = .function := by rfl) (hx : env.kindOf "range" = some .globalImplicit := by rfl) (hg : env.globals = mainGlobals := by rfl) (hb : env.builtins = builtinsNs := by rfl)
    (ha : eval (.Call (.Name "range" rp) [e] [] rpos) env = (eval (.Name "range" rp) env >>= fun fv => callWith rpos fv [] [(false, eval e env)] []) := by rfl) :
    wpAny (model P w) A (eval (.Call (.Name "range" rp) [e] [] rpos) env) (fun x s₁ => wpAny (model P w) A (pyIter x) Q E s₁) E s := by
  refine rangeIter (wpAny_mono h (fun v s₁ h₁ => ?_) fun _ _ x => x) G hk hx hg hb ha
  obtain ⟨S, k, n, t, rfl, hn, h₁⟩ := h₁
  refine ⟨n, t, rfl, hn, fun it s' S' k' f' i' => ?_⟩
  have W : ∀ A' : Around, A'.handled = none → _ := fun A' hA => Walks.range (prog := P) (w := w) (A := A') hA it 0 1 n
  refine h₁ _ _ ⟨it, _, _, rfl, S.tr S', k.trans k', none_of_ext k f', fun A' hA => (let W := W A' hA; ⟨W.sub, W.frame, fun i s Q E hi st hQ => W.item i s Q E hi st fun v h' tk hv => hQ v h' tk (by obtain ⟨t, rfl⟩ := hv; exact ⟨t, by congr 1; omega⟩), W.done, W.self⟩), ?_, ⟨_, i'⟩, ?_⟩
  · simpa using i'
  · intro b hb
    obtain rfl : b = it := by simpa using hb
    exact ⟨_, i'⟩

/-- a comprehension of plain values, down to what follows its loop -/
theorem compCore {elt iter : Expr} {x : Str} {px : Pos} {ifs : List Expr} {scope : Scope} {pos ppos : Pos} {cl : List (Str × Addr)} {use : Option (Value → Sem Unit)} {Q : Value → Shared → Prop} {n : Nat} {Pv : Nat → Value → Prop} {p : Bool} {F : Nat → Value → Prop}
    (hh : A.handled = none) (hz : n < 1000)
    (hcell : ∀ C, cellsFrom (C + 1) scope.names cl = cl) (hxl : ∀ C, (compEnvC scope cl C env).kindOf x = some .local)
    (hcl : ∀ C, ((compEnvC scope cl C env).scope.kind == .class || ((compEnvC scope cl C env).scope.kind == .module && (compEnvC scope cl C env).locals != (compEnvC scope cl C env).globals)) = false)
    (hif : ∀ C i v s' m E', i < n → Pv i v → Ext s.heap s'.heap → s'.heap.Ns C m → m x = some v →
      wpAny (model P w) A (forIn ifs true fun c r => if r = true then do let ok ← isTrue c (compEnvC scope cl C env) (eval c (compEnvC scope cl C env)); pure (ForInStep.yield ok) else pure (ForInStep.yield r)) (fun ok s'' => ok = p ∧ Sm s' s'' ∧ Ext s'.heap s''.heap) E' s')
    (helt : ∀ C i v s' m E', i < n → Pv i v → Ext s.heap s'.heap → s'.heap.Ns C m → m x = some v → p = true → wpAny (model P w) A (eval elt (compEnvC scope cl C env)) (fun y s'' => F i y ∧ Sm s' s'' ∧ Ext s'.heap s''.heap) E' s')
    (hit : ∀ K : Value → Shared → Prop, (∀ it s₂, Src w n Pv s it s₂ → K it s₂) → wpAny (model P w) A (eval iter env) (fun x s₁ => wpAny (model P w) A (pyIter x) K E s₁) E s)
    (fin : ∀ D C m s' (ys : List Value), Sm s s' → Ext s.heap s'.heap → s.heap.get? D = none → s.heap.get? C = none → D ≠ C → s'.heap.Ns C m → s'.heap.PlainList D ys.toArray → ys.length = (if p = true then n else 0) → (∀ i y, ys[i]? = some y → F i y) →
      compPost (model P w) A E use Q (.ref D) C (.ok .next) s')
    (hclos : closureFor scope env = pure cl) (hkind : scope.kind = .function) (hnames : ∀ x ∈ scope.names, x.2 = .local → scope.names.lookup x.1 = some .local)
    (hs : ∀ x, foldedSetIterable iter env x = pure x := by intro _; rfl) :
    wpAny (model P w) A (comprehension (.ListComp elt [⟨.Name x px, iter, ifs, 0⟩] scope pos) scope env ppos (newList []) false (eval iter env) use) Q E s := by
  refine compG (cl := cl) (hit _ fun it s₂ hsrc => ?_) hclos hkind hnames hs
  obtain ⟨I, fp, St, rfl, S₂, k₂, f₂, W, st₂, e₂, hfp⟩ := hsrc
  refine ⟨fun s' Q' E' k q => (W A hh).self 0 s' Q' E' ((W A hh).frame _ _ _ st₂ fun b _ o e => k b o e) q, ?_⟩
  intro D C s₄ S₄ k₄ fD fC nDC pD nC _
  rw [hcell]
  have neE : ∀ {u v : Addr}, (∃ o, s₂.heap.get? u = some o) → s₂.heap.get? v = none → v ≠ u := fun {u v} ⟨o, e⟩ f => by rintro rfl; rw [f] at e; cases e
  have nDI : D ≠ I := neE e₂ fD
  have nCI : C ≠ I := neE e₂ fC
  have fI₅ : (dropA s₂.heap I).get? I = none := get_dropA_self _ _
  have B0 : ∀ b o, s.heap.get? b = some o → (dropA s₂.heap I).get? b = some o := fun b o e => by
    rw [get_dropA_ne _ (by rintro rfl; rw [f₂] at e; cases e)]; exact k₂ _ _ e
  have fDs : s.heap.get? D = none := none_of_ext k₂ fD
  have fCs : s.heap.get? C = none := none_of_ext k₂ fC
  refine compLoopW (W A hh) (fun i ys h => (∃ m, Fx (dropA s₂.heap I) C h m) ∧ ys.length = (if p = true then i else 0) ∧ ∀ i y, ys[i]? = some y → F i y) ?_ ?_ ?_ ?_ ?_ ?_ pD hz ?_ ?_
  · rintro i ys h h' ⟨⟨m, F⟩, r⟩ k
    exact ⟨⟨m, F.kp k (by simpa using nCI) (by simpa using fI₅)⟩, r⟩
  · rintro i ys h h' ⟨⟨m, F⟩, r⟩ k
    exact ⟨⟨m, F.same k (dropA_none fD) (Ne.symm nDC)⟩, r⟩
  · exact fun hb => neE (hfp _ hb) fD rfl
  · simpa using nDI
  · exact ⟨⟨_, nC, fun b o e => k₄ _ _ (get_dropA e).2, dropA_none fC⟩, by simp, by simp⟩
  · exact (W A hh).frame _ _ _ st₂ fun b _ o e => k₄ b o e
  · rintro i v ys s₅ hi hv ⟨⟨m, F₅⟩, hlen, hF⟩ st₅ S₅ pD₅
    refine wpAny_assign_Name (wpAny_storeName_local (hxl C) F₅.ns (fun h₆ n₆ b₆ => ?_) (hcl C))
    have S₆ : Sm s₅ { s₅ with heap := h₆, toks := s₅.toks + 1 } := ⟨rfl, rfl, rfl⟩
    replace n₆ : { s₅ with heap := h₆, toks := s₅.toks + 1 }.heap.Ns C _ := n₆
    replace b₆ : Heap.SameBut C s₅.heap { s₅ with heap := h₆, toks := s₅.toks + 1 }.heap := b₆
    generalize { s₅ with heap := h₆, toks := s₅.toks + 1 } = s₆ at n₆ b₆ S₆ ⊢
    have F₆ : Fx (dropA s₂.heap I) C s₆.heap _ := ⟨n₆, fun b o e => (b₆.2 b (by rintro rfl; rw [F₅.off] at e; cases e)).trans (F₅.keep b o e), F₅.off⟩
    have kk : Ext s.heap s₆.heap := fun b o e => F₆.keep b o (B0 b o e)
    refine wpAny_mono (hif C i v s₆ _ (fun _ _ => False) hi hv kk n₆ (by simp)) (fun ok s₇ h₇ => ?_) fun _ _ x => x
    obtain ⟨rfl, S₇, k₇⟩ := h₇
    have old : ∀ b o, b ≠ C → s₅.heap.get? b = some o → s₇.heap.get? b = some o := fun b o n e => k₇ _ _ ((b₆.2 b n).trans e)
    have fpC : ∀ b ∈ fp, b ≠ C := fun b hb => Ne.symm (neE (hfp b hb) fC)
    by_cases hp : ok = true
    · rw [if_pos hp]
      refine wpAny_mono (helt C i v s₇ _ (fun _ _ => False) hi hv (kk.trans k₇) (n₆.keeps k₇) (by simp) hp) (fun y s₈ h₈ => ?_) fun _ _ x => x
      obtain ⟨hy, S₈, k₈⟩ := h₈
      refine ⟨((S₅.tr S₆).tr S₇).tr S₈, ⟨⟨_, F₆.grow (k₇.trans k₈)⟩, ?_, ?_⟩, pD₅.at fun o e => k₈ _ _ (old _ o nDC e), fun b hb o e => k₈ _ _ (old b o (fpC b hb) e)⟩
      · rw [if_pos hp] at hlen ⊢; simp [hlen]
      · intro j z hz'
        rw [if_pos hp] at hlen
        rw [List.getElem?_append] at hz'
        split at hz'
        · exact hF j z hz'
        · rename_i hj
          have hj' : j = i := by
            rcases Nat.lt_or_ge (j - ys.length) 1 with q | q
            · omega
            · rw [List.getElem?_eq_none (by simpa using q)] at hz'; cases hz'
          subst hj'
          rw [hlen, Nat.sub_self] at hz'
          cases hz'; exact hy
    · rw [if_neg hp]
      refine ⟨(S₅.tr S₆).tr S₇, ⟨⟨_, F₆.grow k₇⟩, ?_, hF⟩, pD₅.at fun o e => old _ o nDC e, fun b hb o e => old b o (fpC b hb) e⟩
      rw [if_neg hp] at hlen ⊢; exact hlen
  · rintro ys s₅ S₅ ⟨⟨m, F₅⟩, hlen, hF⟩ pD₅
    exact fin D C m s₅ ys ((S₂.tr S₄).tr S₅) (fun b o e => F₅.keep b o (B0 b o e)) fDs fCs nDC F₅.ns pD₅ hlen hF
end
end Mine
end -- M1

section -- M2
open PySem PySem.W PyProof.Rows PySem.Calls
set_option Elab.async false
set_option maxRecDepth 100000
set_option maxHeartbeats 2000000
namespace Mine
open Hp

section
variable {w : World} {A : Around} {E : Value → Shared → Prop} {s : Shared} {env : Env}

theorem compQ {elt iter : Expr} {x : Str} {px : Pos} {ifs : List Expr} {scope : Scope} {pos : Pos} {Q : Value → Shared → Prop} (cl : List (Str × Addr)) {n : Nat} {Pv : Nat → Value → Prop} (p : Bool) (F : Nat → Value → Prop)
    (hh : A.handled = none) (hz : n < 1000)
    (hit : ∀ K : Value → Shared → Prop, (∀ it s₂, Src w n Pv s it s₂ → K it s₂) → wpAny (model P w) A (eval iter env) (fun x s₁ => wpAny (model P w) A (pyIter x) K E s₁) E s)
    (hif : ∀ C i v s' m E', i < n → Pv i v → Ext s.heap s'.heap → s'.heap.Ns C m → m x = some v →
      wpAny (model P w) A (forIn ifs true fun c r => if r = true then do let ok ← isTrue c (compEnvC scope cl C env) (eval c (compEnvC scope cl C env)); pure (ForInStep.yield ok) else pure (ForInStep.yield r)) (fun ok s'' => ok = p ∧ Sm s' s'' ∧ Ext s'.heap s''.heap) E' s')
    (helt : ∀ C i v s' m E', i < n → Pv i v → Ext s.heap s'.heap → s'.heap.Ns C m → m x = some v → p = true → wpAny (model P w) A (eval elt (compEnvC scope cl C env)) (fun y s'' => F i y ∧ Sm s' s'' ∧ Ext s'.heap s''.heap) E' s')
    (fin : ∀ D s' (ys : List Value), Sm s s' → Ext s.heap s'.heap → s.heap.get? D = none → s'.heap.PlainList D ys.toArray → ys.length = (if p = true then n else 0) → (∀ i y, ys[i]? = some y → F i y) → Q (.ref D) s')
    (hcell : ∀ C, cellsFrom (C + 1) scope.names cl = cl := by intro _; rfl) (hxl : ∀ C, (compEnvC scope cl C env).kindOf x = some .local := by intro _; rfl)
    (hcl : ∀ C, ((compEnvC scope cl C env).scope.kind == .class || ((compEnvC scope cl C env).scope.kind == .module && (compEnvC scope cl C env).locals != (compEnvC scope cl C env).globals)) = false := by intro _; rfl)
    (hclos : closureFor scope env = pure cl := by rfl) (hkind : scope.kind = .function := by rfl) (hnames : ∀ x ∈ scope.names, x.2 = .local → scope.names.lookup x.1 = some .local := by decide)
    (hs : ∀ x, foldedSetIterable iter env x = pure x := by intro _; rfl) :
    wpAny (model P w) A (eval (.ListComp elt [⟨.Name x px, iter, ifs, 0⟩] scope pos) env) Q E s := by
  refine compNone (compCore (p := p) (F := F) (cl := cl) hh hz hcell hxl hcl hif helt hit ?_ hclos hkind hnames hs)
  intro D C m s' ys S' k' fD fC nDC nC pD hlen hF
  refine ⟨m, nC, fun h' hs' => fin D _ ys (S'.tr (Sm.mk' _ _ _)) (fun b o e => (hs'.2 b (by rintro rfl; rw [fC] at e; cases e)).trans (k' _ _ e)) fD (pD.extBut hs'.extBut nDC) hlen hF⟩

theorem compU {elt iter : Expr} {x y : Str} {px py : Pos} {ifs : List Expr} {scope : Scope} {pos spos : Pos} {Q : Flow → Shared → Prop} {B : Heap} {m : Str → Option Value} (cl : List (Str × Addr)) {n : Nat} {Pv : Nat → Value → Prop} (p : Bool) (F : Nat → Value → Prop)
    (FL : Fx B env.locals s.heap m) (hh : A.handled = none) (hz : n < 1000)
    (hit : ∀ K : Value → Shared → Prop, (∀ it s₂, Src w n Pv s it s₂ → K it s₂) → wpAny (model P w) A (eval iter env) (fun x s₁ => wpAny (model P w) A (pyIter x) K E s₁) E s)
    (hif : ∀ C i v s' m E', i < n → Pv i v → Ext s.heap s'.heap → s'.heap.Ns C m → m x = some v →
      wpAny (model P w) A (forIn ifs true fun c r => if r = true then do let ok ← isTrue c (compEnvC scope cl C env) (eval c (compEnvC scope cl C env)); pure (ForInStep.yield ok) else pure (ForInStep.yield r)) (fun ok s'' => ok = p ∧ Sm s' s'' ∧ Ext s'.heap s''.heap) E' s')
    (helt : ∀ C i v s' m E', i < n → Pv i v → Ext s.heap s'.heap → s'.heap.Ns C m → m x = some v → p = true → wpAny (model P w) A (eval elt (compEnvC scope cl C env)) (fun y s'' => F i y ∧ Sm s' s'' ∧ Ext s'.heap s''.heap) E' s')
    (fin : ∀ D s' (ys : List Value), Sm s s' → Fx (dropA s.heap env.locals) env.locals s'.heap (fun z => if z = y then some (.ref D) else m z) → s.heap.get? D = none → s'.heap.PlainList D ys.toArray → ys.length = (if p = true then n else 0) → (∀ i y, ys[i]? = some y → F i y) → Q .next s')
    (hsw : swapsWith (.ListComp elt [⟨.Name x px, iter, ifs, 0⟩] scope pos) (some (.Name y py)) spos.line env = pure true := by rfl)
    (hy : env.kindOf y = some .local := by rfl) (hp : (env.scope.kind == .class || (env.scope.kind == .module && env.locals != env.globals)) = false := by rfl)
    (hcell : ∀ C, cellsFrom (C + 1) scope.names cl = cl := by intro _; rfl) (hxl : ∀ C, (compEnvC scope cl C env).kindOf x = some .local := by intro _; rfl)
    (hcl : ∀ C, ((compEnvC scope cl C env).scope.kind == .class || ((compEnvC scope cl C env).scope.kind == .module && (compEnvC scope cl C env).locals != (compEnvC scope cl C env).globals)) = false := by intro _; rfl)
    (hclos : closureFor scope env = pure cl := by rfl) (hkind : scope.kind = .function := by rfl) (hnames : ∀ x ∈ scope.names, x.2 = .local → scope.names.lookup x.1 = some .local := by decide)
    (hs : ∀ x, foldedSetIterable iter env x = pure x := by intro _; rfl) :
    wpAny (model P w) A (exec (.Assign [.Name y py] (.ListComp elt [⟨.Name x px, iter, ifs, 0⟩] scope pos) spos) env) Q E s := by
  rw [exec_Assign_Name_used _ _ _ _ hsw]
  refine wpAny_bind (wpAny_standAt (wpAny_bind ?_))
  show wpAny _ A (do let _ ← comprehension (.ListComp elt [⟨.Name x px, iter, ifs, 0⟩] scope pos) scope env _ (newList []) false (eval iter env) (some (assign (.Name y py) env))) _ _ s
  refine wpAny_bind (wpAny_mono (compCore (use := some (assign (.Name y py) env)) (Q := fun _ s' => Q .next s') (p := p) (F := F) (cl := cl) hh hz hcell hxl hcl hif helt hit ?_ hclos hkind hnames hs) (fun _ s' hq => wpAny_pure (wpAny_pure hq)) fun _ _ e => e)
  intro D C m' s' ys S' k' fD fC nDC nC pD hlen hF
  show wpAny _ A (assign (.Name y py) env (.ref D)) _ _ _
  have nLC : env.locals ≠ C := ne_of_ns FL.ns fC
  have nLD : env.locals ≠ D := ne_of_ns FL.ns fD
  refine wpAny_assign_Name (wpAny_storeName_local hy (FL.ns.keeps k') (fun h₂ hn₂ hs₂ => ?_) hp)
  refine ⟨m', nC.sameBut hs₂ (Ne.symm nLC), fun h₃ hs₃ => ?_⟩
  refine fin D _ ys (S'.tr (Sm.mk' _ _ _)) ⟨hn₂.sameBut hs₃ nLC, fun b o e => ?_, get_dropA_self _ _⟩ fD ((pD.extBut hs₂.extBut (Ne.symm nLD)).extBut hs₃.extBut nDC) hlen hF
  have e' := get_dropA e
  exact hs₃.extBut b o (by rintro rfl; rw [fC] at e'; exact nomatch e'.2) (hs₂.extBut b o e'.1 (k' _ _ e'.2))
end
end Mine
end -- M2

section -- M3
open PySem PySem.W PyProof.Rows PySem.Calls
set_option Elab.async false
set_option maxRecDepth 100000
set_option maxHeartbeats 2000000
namespace Mine
open Hp

section
variable {w : World} {A : Around} {E : Value → Shared → Prop} {s : Shared} {env : Env}

theorem newTup {vs : List Value} {Q : Value → Shared → Prop} (hz : vs.length < 1000)
    (h : ∀ s' D, Sm s s' → Ext s.heap s'.heap → s.heap.get? D = none → s'.heap.get? D = some { cls := .type "tuple", data := .seq vs.toArray } → Q (.ref D) s') : wpAny (model P w) A (newTuple vs) Q E s :=
  wpAny_newTuple (h _ _ ⟨rfl, rfl, rfl⟩ (ext_push _ _) (fresh_none _) (Heap.get?_push_size _ rfl)) (by rw [sizeLine_eq]; omega)
theorem newLst {vs : List Value} {Q : Value → Shared → Prop} (hz : vs.length < 1000)
    (h : ∀ s' D, Sm s s' → Ext s.heap s'.heap → s.heap.get? D = none → s'.heap.PlainList D vs.toArray → Q (.ref D) s') : wpAny (model P w) A (newList vs) Q E s :=
  wpAny_newObj_type (h _ _ ⟨rfl, rfl, rfl⟩ (ext_push _ _) (fresh_none _) ⟨0, Heap.get?_push_size _ rfl⟩) (by show vs.toArray.size ≤ sizeLine; rw [List.size_toArray, sizeLine_eq]; omega)

theorem Tup2 {e₁ e₂ : Expr} {k : Nat} {pos : Pos} {Q : Value → Shared → Prop}
    (h : wpAny (model P w) A (eval e₁ env) (fun v₁ s₁ => wpAny (model P w) A (eval e₂ env) (fun v₂ s₂ => ∀ s' D, Sm s₂ s' → Ext s₂.heap s'.heap → s₂.heap.get? D = none → s'.heap.get? D = some { cls := .type "tuple", data := .seq #[v₁, v₂] } → Q (.ref D) s') E s₁) E s)
    (ha : backTo pos (starEach [e₁, e₂] env) = [(false, eval e₁ env), (false, eval e₂ env)] := by rfl) : wpAny (model P w) A (eval (.Tuple [e₁, e₂] k pos) env) Q E s := by
  refine Tuple_ ?_
  rw [ha]
  exact spliced_cons (wpAny_mono h (fun v₁ s₁ h₁ => spliced_cons (wpAny_mono h₁ (fun v₂ s₂ h₂ => spliced_nil (newTup (by simp) h₂)) fun _ _ x => x)) fun _ _ x => x)

theorem Tup3 {e₁ e₂ e₃ : Expr} {k : Nat} {pos : Pos} {Q : Value → Shared → Prop}
    (h : wpAny (model P w) A (eval e₁ env) (fun v₁ s₁ => wpAny (model P w) A (eval e₂ env) (fun v₂ s₂ => wpAny (model P w) A (eval e₃ env) (fun v₃ s₃ => ∀ s' D, Sm s₃ s' → Ext s₃.heap s'.heap → s₃.heap.get? D = none → s'.heap.get? D = some { cls := .type "tuple", data := .seq #[v₁, v₂, v₃] } → Q (.ref D) s') E s₂) E s₁) E s)
    (ha : backTo pos (starEach [e₁, e₂, e₃] env) = [(false, eval e₁ env), (false, eval e₂ env), (false, eval e₃ env)] := by rfl) : wpAny (model P w) A (eval (.Tuple [e₁, e₂, e₃] k pos) env) Q E s := by
  refine Tuple_ ?_
  rw [ha]
  exact spliced_cons (wpAny_mono h (fun v₁ s₁ h₁ => spliced_cons (wpAny_mono h₁ (fun v₂ s₂ h₂ => spliced_cons (wpAny_mono h₂ (fun v₃ s₃ h₃ => spliced_nil (newTup (by simp) h₃)) fun _ _ x => x)) fun _ _ x => x)) fun _ _ x => x)

theorem Lst1 {e₁ : Expr} {pos : Pos} {Q : Value → Shared → Prop}
    (h : wpAny (model P w) A (eval e₁ env) (fun v₁ s₁ => ∀ s' D, Sm s₁ s' → Ext s₁.heap s'.heap → s₁.heap.get? D = none → s'.heap.PlainList D [v₁].toArray → Q (.ref D) s') E s)
    (ha : backTo pos (starEach [e₁] env) = [(false, eval e₁ env)] := by rfl) : wpAny (model P w) A (eval (.List [e₁] pos) env) Q E s := by
  refine List_ ?_
  rw [ha]
  exact spliced_cons (wpAny_mono h (fun v₁ s₁ h₁ => spliced_nil (newLst (by simp) h₁)) fun _ _ x => x)
theorem Lst0 {pos : Pos} {Q : Value → Shared → Prop}
    (h : ∀ s' D, Sm s s' → Ext s.heap s'.heap → s.heap.get? D = none → s'.heap.PlainList D ([] : List Value).toArray → Q (.ref D) s') : wpAny (model P w) A (eval (.List [] pos) env) Q E s := by
  refine List_ ?_
  exact spliced_nil (newLst (by simp) h)
theorem Lst4 {e₁ e₂ e₃ e₄ : Expr} {pos : Pos} {Q : Value → Shared → Prop}
    (h : wpAny (model P w) A (eval e₁ env) (fun v₁ s₁ => wpAny (model P w) A (eval e₂ env) (fun v₂ s₂ => wpAny (model P w) A (eval e₃ env) (fun v₃ s₃ => wpAny (model P w) A (eval e₄ env) (fun v₄ s₄ =>
      ∀ s' D, Sm s₄ s' → Ext s₄.heap s'.heap → s₄.heap.get? D = none → s'.heap.PlainList D [v₁, v₂, v₃, v₄].toArray → Q (.ref D) s') E s₃) E s₂) E s₁) E s)
    (ha : backTo pos (starEach [e₁, e₂, e₃, e₄] env) = [(false, eval e₁ env), (false, eval e₂ env), (false, eval e₃ env), (false, eval e₄ env)] := by rfl) : wpAny (model P w) A (eval (.List [e₁, e₂, e₃, e₄] pos) env) Q E s := by
  refine List_ ?_
  rw [ha]
  exact spliced_cons (wpAny_mono h (fun v₁ s₁ h₁ => spliced_cons (wpAny_mono h₁ (fun v₂ s₂ h₂ => spliced_cons (wpAny_mono h₂ (fun v₃ s₃ h₃ => spliced_cons (wpAny_mono h₃ (fun v₄ s₄ h₄ => spliced_nil (newLst (by simp) h₄)) fun _ _ x => x)) fun _ _ x => x)) fun _ _ x => x)) fun _ _ x => x)

/-- x, y = a tuple of two -/
theorem assign2 {xa xb : Str} {pa pb pt : Pos} {k : Nat} {T : Addr} {u v : Value} {B : Heap} {m : Str → Option Value} {Q : Unit → Shared → Prop} (hh : A.handled = none) (F : Fx B env.locals s.heap m) (ht : s.heap.IsTuple T #[u, v])
    (h : ∀ s', Sm s s' → Fx (dropA s.heap env.locals) env.locals s'.heap (fun y => if y = xb then some v else if y = xa then some u else m y) → Q () s')
    (ha : env.kindOf xa = some .local := by rfl) (hb : env.kindOf xb = some .local := by rfl) (hp : (env.scope.kind == .class || (env.scope.kind == .module && env.locals != env.globals)) = false := by rfl) :
    wpAny (model P w) A (assign (.Tuple [.Name xa pa, .Name xb pb] k pt) env (.ref T)) Q E s := by
  refine wpAny_assign_Tuple hh ht rfl rfl fun h₃ hx₃ => ?_
  have up₃ : Ext s.heap h₃ := fun b o x => hx₃ b o (Nat.ne_of_lt (Heap.lt_size x)) x
  have F₃ : Fx (dropA s.heap env.locals) env.locals { s with heap := h₃ }.heap m := F.rebase.grow up₃
  have S₃ : Sm s { s with heap := h₃ } := ⟨rfl, rfl, rfl⟩
  generalize { s with heap := h₃ } = s₃ at F₃ S₃ ⊢
  show wpAny _ A (do holding [v] (assign (.Name xa pa) env u); do holding [] (assign (.Name xb pb) env v); pure ()) _ _ _
  refine wpAny_bind (wpAny_holding (wpAny_assign_Name (sx F₃ (fun s₄ S₄ F₄ => ?_) ha hp)))
  refine wpAny_bind (wpAny_holding (wpAny_assign_Name (sx F₄ (fun s₅ S₅ F₅ => ?_) hb hp)))
  exact wpAny_pure (h _ ((S₃.tr S₄).tr S₅) F₅)
end
end Mine
end -- M3

section -- M4
open PySem PySem.W PyProof.Rows PySem.Calls
set_option Elab.async false
set_option maxRecDepth 100000
set_option maxHeartbeats 2000000
namespace Mine
open Hp

section
variable {w : World} {A : Around} {E : Value → Shared → Prop} {s : Shared} {env : Env}

theorem compLoopT {elt iter : Expr} {elts : List Expr} {k0 : Nat} {pt : Pos} {scope : Scope} {pos : Pos} {it acc : Value} {cenv : Env} {R : Result → Shared → Prop} (I : Nat → Shared → Prop)
    (turn : ∀ n s, I n s → wpAny (model P w) A (pyNext it) (fun r s₁ => match r with
      | none => R (.ok .next) s₁
      | some v => wpAny (model P w) A (letOwnedTupleGo (.Tuple elts k0 pt) it v) (fun _ s₁ => wpAny (model P w) A (assign (.Tuple elts k0 pt) cenv v) (fun _ s₂ => wpAny (model P w) A (eval elt cenv) (fun x s₃ =>
          wpAny (model P w) A (call (.builtin "list.append") [acc, x]) (fun _ s₄ => ∃ m, m < n ∧ I m s₄) (fun _ _ => False) s₃) (fun _ _ => False) s₂) (fun _ _ => False) s₁) (fun _ _ => False) s₁) (fun _ _ => False) s)
    (n : Nat) (h : I n s) :
    codeAny (model P w) A (.compLoop (.ListComp elt [⟨.Tuple elts k0 pt, iter, [], 0⟩] scope pos) 0 it acc cenv) R s := by
  refine codeAny_loop rfl I (fun n s hI => ?_) n h
  show wpAny _ _ ((compTurn (.ListComp elt [⟨.Tuple elts k0 pt, iter, [], 0⟩] scope pos) 0 it acc cenv).onRaise (fun x => do noteFrame x cenv; theTreesLotGoes x)) _ _ s
  refine wpAny_noted ?_
  rw [compTurn_list1]
  refine wpAny_bind (wpAny_standAt (wpAny_bind (wpAny_mono (turn n s hI) (fun r s₁ h₁ => ?_) fun _ _ h' => h'.elim)))
  cases r with
  | none => exact wpAny_pure h₁
  | some v =>
    refine wpAny_bind (wpAny_mono h₁ (fun _ s₁' h₁' => ?_) fun _ _ x => x.elim)
    exact wpAny_bind (wpAny_mono h₁' (fun _ s₂ h₂ => wpAny_bind (wpAny_bind (wpAny_mono h₂ (fun x s₃ h₃ => wpAny_bind (wpAny_mono h₃
      (fun _ s₄ h₄ => wpAny_pure (wpAny_pure ⟨rfl, h₄⟩)) fun _ _ h' => h'.elim)) fun _ _ h' => h'.elim))) fun _ _ h' => h'.elim)

/-- zip of two lists, as an iterator of pairs -/
theorem zip_src {l1 l2 : Addr} {xs ys : List Value} {Q : Value → Shared → Prop} (h1 : s.heap.IsList l1 xs.toArray) (h2 : s.heap.IsList l2 ys.toArray) (hlen : ys.length = xs.length)
    (h : ∀ z s' fp wr (St : Nat → Heap → Prop) (Mid : Nat → Addr → Heap → Prop), Sm s s' → Ext s.heap s'.heap →
      (∀ A : Around, A.handled = none → WalksT P w A z fp wr xs.length (fun i vals => ∃ x y, xs[i]? = some x ∧ ys[i]? = some y ∧ vals = #[x, y]) St Mid) → St 0 s'.heap → (∀ b ∈ fp, ∃ o, s'.heap.get? b = some o) → (∀ b ∈ wr, s.heap.get? b = none) → (∀ i h, St i h → ∀ b ∈ wr, ∃ o, h.get? b = some o) → Q (.ref z) s') :
    wpAny (model P w) A (call (.type "zip") [.ref l1, .ref l2]) Q E s := by
  have e1 := h1
  have e2 := h2
  obtain ⟨o1, g1, _⟩ := e1
  obtain ⟨o2, g2, _⟩ := e2
  have t1 : l1 < s.heap.objs.size := Heap.lt_size g1
  have t2 : l2 < s.heap.objs.size := Heap.lt_size g2
  generalize hN : s.heap.objs.size = N at t1 t2
  refine call_zip_2 h1 h2 fun h' hz hTI hTO i1 i2 hsz hk => ?_
  rw [hN] at hz hTI hTO i1 i2 hsz ⊢
  have nlt : ∀ {a b : Nat}, a < b → a ≠ b := fun h => Nat.ne_of_lt h
  have ngt : ∀ {a b : Nat}, b < a → a ≠ b := fun h => (Nat.ne_of_lt h).symm
  have D : ZipApart (N + 4) (N + 2) (N + 3) N (N + 1) l1 l2 :=
    ⟨nlt (by omega), nlt (by omega), nlt (by omega), nlt (by omega), nlt (by omega), ngt (by omega), ngt (by omega), ngt (by omega), ngt (by omega), nlt (by omega),
     nlt (Nat.lt_of_lt_of_le t1 (by omega)), nlt (Nat.lt_of_lt_of_le t1 (by omega)), nlt (Nat.lt_of_lt_of_le t1 (by omega)), nlt (Nat.lt_of_lt_of_le t1 (by omega)),
     nlt (Nat.lt_of_lt_of_le t2 (by omega)), nlt (Nat.lt_of_lt_of_le t2 (by omega)), nlt (Nat.lt_of_lt_of_le t2 (by omega)), nlt (Nat.lt_of_lt_of_le t2 (by omega))⟩
  have hl1' : h'.IsList l1 xs.toArray := h1.at fun o e => hk _ o e
  have hl2' : h'.IsList l2 ys.toArray := h2.at fun o e => hk _ o e
  have W : ∀ A : Around, A.handled = none → _ := fun A hA => WalksT.zip2 (prog := P) (w := w) (A := A) hA (N + 4) (N + 2) (N + 3) N (N + 1) l1 l2 D xs.toArray ys.toArray
  have emin : min xs.toArray.size ys.toArray.size = xs.length := by simp [hlen]
  rw [emin] at W
  refine h _ _ _ _ _ _ ⟨rfl, rfl, rfl⟩ hk (fun A hA => (let W := W A hA; ⟨W.sub, W.frame, fun i s Q E hi st hQ => W.item i s Q E hi st fun T vals h' tk hv => hQ T vals h' tk (by simpa using hv), W.go, W.apart, W.done, W.self⟩)) ⟨hz, hTI, ⟨_, _, hTO⟩, i1, i2, hl1', hl2'⟩ ?_ ?_ ?_
  · intro b hb
    simp only [List.mem_cons, List.not_mem_nil, or_false] at hb
    rcases hb with rfl | rfl | rfl | rfl | rfl | rfl | rfl
    · exact ⟨_, hz⟩
    · exact ⟨_, hTI⟩
    · exact ⟨_, hTO⟩
    · obtain ⟨o, e, _⟩ := i1; exact ⟨o, e⟩
    · obtain ⟨o, e, _⟩ := i2; exact ⟨o, e⟩
    · exact ⟨_, hk _ _ g1⟩
    · exact ⟨_, hk _ _ g2⟩
  · intro b hb
    simp only [List.mem_cons, List.not_mem_nil, or_false] at hb
    refine Heap.get?_none_of_le ?_
    rw [hN]
    rcases hb with rfl | rfl | rfl | rfl
    · exact Nat.le_add_right _ _
    · exact Nat.le_add_right _ _
    · exact Nat.le_refl _
    · exact Nat.le_add_right _ _
  · rintro i h ⟨a, _, ⟨_, _, c⟩, d, e, _⟩ b hb
    simp only [List.mem_cons, List.not_mem_nil, or_false] at hb
    rcases hb with rfl | rfl | rfl | rfl
    · exact ⟨_, a⟩
    · exact ⟨_, c⟩
    · obtain ⟨o, q, _⟩ := d; exact ⟨o, q⟩
    · obtain ⟨o, q, _⟩ := e; exact ⟨o, q⟩

theorem zipf_getD {xs ys : List Int} {j : Nat} (f : Int → Int) (h1 : j < xs.length) (h2 : j < ys.length) : ((xs.zip ys).map fun p => (p.1, f p.2)).getD j (0, 0) = (xs.getD j 0, f (ys.getD j 0)) := by
  have h3 : j < (xs.zip ys).length := by simp; omega
  simp only [List.getD_eq_getElem?_getD, List.getElem?_map, List.getElem?_eq_getElem h1, List.getElem?_eq_getElem h2, List.getElem?_eq_getElem h3, List.getElem_zip, Option.map_some, Option.getD_some]

/-- pairs of ints made in a heap -/
def Prs (h : Heap) (ys : List Value) (ps : List (Int × Int)) : Prop := ys.length = ps.length ∧ ∀ i y, ys[i]? = some y → ∃ a, y = .ref a ∧ IsT2 h a (ps.getD i (0, 0))

/-- [(x, f(y)) for x, y in zip(keys, values)] -/
theorem compZ {elt ek ev : Expr} {xa xb : Str} {pa pb pt : Pos} {k0 : Nat} {zp zpos : Pos} {scope : Scope} {pos : Pos} {Q : Value → Shared → Prop} {l1 l2 : Addr} {vs us : List Value} {xs ys : List Int} (f : Int → Int)
    (hh : A.handled = none) (hz : xs.length < 1000) (G : GF s.heap) (h1 : s.heap.IsList l1 vs.toArray) (i1 : IntsAre vs xs) (h2 : s.heap.IsList l2 us.toArray) (i2 : IntsAre us ys) (hlen : ys.length = xs.length)
    (hk : ∀ (Q' : Value → Shared → Prop), Q' (.ref l1) s → wpAny (model P w) A (eval ek env) Q' E s) (hv : ∀ (Q' : Value → Shared → Prop), Q' (.ref l2) s → wpAny (model P w) A (eval ev env) Q' E s)
    (helt : ∀ C s' m x y t u (Q' : Value → Shared → Prop), Fx noHeap C s'.heap m → m xa = some (.int x t) → m xb = some (.int y u) →
      (∀ s'' D, Sm s' s'' → Ext s'.heap s''.heap → s'.heap.get? D = none → IsT2 s''.heap D (x, f y) → Q' (.ref D) s'') → wpAny (model P w) A (eval elt (compEnvC scope [] C env)) Q' (fun _ _ => False) s')
    (fin : ∀ D s' zs, Sm s s' → Ext s.heap s'.heap → s.heap.get? D = none → s'.heap.PlainList D zs.toArray → Prs s'.heap zs ((xs.zip ys).map fun p => (p.1, f p.2)) → (∀ z ∈ zs, ∃ a, z = .ref a ∧ s.heap.get? a = none) → Q (.ref D) s')
    (hne : xb ≠ xa := by decide)
    (hcell : ∀ C, cellsFrom (C + 1) scope.names [] = [] := by intro _; rfl) (hxa : ∀ C, (compEnvC scope [] C env).kindOf xa = some .local := by intro _; rfl) (hxb : ∀ C, (compEnvC scope [] C env).kindOf xb = some .local := by intro _; rfl)
    (hcl : ∀ C, ((compEnvC scope [] C env).scope.kind == .class || ((compEnvC scope [] C env).scope.kind == .module && (compEnvC scope [] C env).locals != (compEnvC scope [] C env).globals)) = false := by intro _; rfl)
    (hclos : closureFor scope env = pure [] := by rfl) (hkind : scope.kind = .function := by rfl) (hnames : ∀ x ∈ scope.names, x.2 = .local → scope.names.lookup x.1 = some .local := by decide)
    (hs : ∀ x, foldedSetIterable (.Call (.Name "zip" zp) [ek, ev] [] zpos) env x = pure x := by intro _; rfl)
    (hkf : env.scope.kind = .function := by rfl) (hzip : env.kindOf "zip" = some .globalImplicit := by rfl) (hgl : env.globals = mainGlobals := by rfl) (hbu : env.builtins = builtinsNs := by rfl)
    (ha : eval (.Call (.Name "zip" zp) [ek, ev] [] zpos) env = (eval (.Name "zip" zp) env >>= fun fv => callWith zpos fv [] [(false, eval ek env), (false, eval ev env)] []) := by rfl) :
    wpAny (model P w) A (eval (.ListComp elt [⟨.Tuple [.Name xa pa, .Name xb pb] k0 pt, .Call (.Name "zip" zp) [ek, ev] [] zpos, [], 0⟩] scope pos) env) Q E s := by
  have hul : us.length = vs.length := by rw [i1.length, i2.length, hlen]
  refine compNone (compG (cl := []) (Call2 (bi G (v := .type "zip") (by simp [bis]) (hk _ (hv _ ⟨trivial, zip_src h1 h2 hul fun z s₂ fp wr St Mid S₂ k₂ W st₂ hfp hwr hstw => ?_⟩)) hkf hzip hgl hbu) ha) hclos hkind hnames hs)
  refine (W A hh).self 0 s₂ _ _ st₂ ⟨fun s' Q' E' k q => (W A hh).self 0 s' Q' E' ((W A hh).frame _ _ _ st₂ fun b _ o e => k b o e) q, ?_⟩
  intro D C s₄ S₄ k₄ fD fC nDC pD nC _
  rw [hcell]
  have neE : ∀ {u v : Addr}, (∃ o, s₂.heap.get? u = some o) → s₂.heap.get? v = none → v ≠ u := fun {u v} ⟨o, e⟩ f => by rintro rfl; rw [f] at e; cases e
  have nDw : D ∉ wr := fun hb => neE (hfp _ ((W A hh).sub _ hb)) fD rfl
  have nCw : C ∉ wr := fun hb => neE (hfp _ ((W A hh).sub _ hb)) fC rfl
  have nDf : D ∉ fp := fun hb => neE (hfp _ hb) fD rfl
  have nCf : C ∉ fp := fun hb => neE (hfp _ hb) fC rfl
  have fDs : s.heap.get? D = none := none_of_ext k₂ fD
  have fCs : s.heap.get? C = none := none_of_ext k₂ fC
  -- the invariant: s is kept, the pairs so far lie outside all that is written
  let Fr0 := fun (h : Heap) (zs : List Value) => ∀ i z, zs[i]? = some z → ∃ a, z = .ref a ∧ IsT2 h a (((xs.zip ys).map fun p => (p.1, f p.2)).getD i (0, 0)) ∧ a ≠ D ∧ a ≠ C ∧ a ∉ wr ∧ s.heap.get? a = none
  have mv : ∀ {h h' : Heap} {zs}, Fr0 h zs → (∀ b o, b ≠ D → b ≠ C → b ∉ wr → h.get? b = some o → h'.get? b = some o) → Fr0 h' zs := by
    intro h h' zs x k i z e
    obtain ⟨a, rfl, ⟨o, n, t, u, g, r⟩, d1, d2, d3, d4⟩ := x i z e
    exact ⟨a, rfl, ⟨o, n, t, u, k a o d1 d2 d3 g, r⟩, d1, d2, d3, d4⟩
  refine compLoopT (fun q s' => ∃ i zs, Sm s s' ∧ i ≤ vs.length ∧ q = vs.length - i ∧ zs.length = i ∧ (∃ m, Fx s.heap C s'.heap m) ∧ Fr0 s'.heap zs ∧ St i s'.heap ∧ s'.heap.PlainList D zs.toArray) ?_ vs.length
    ⟨0, [], S₂.tr S₄, Nat.zero_le _, rfl, rfl, ⟨_, nC, k₂.trans k₄, fCs⟩, fun i z e => by simp at e, (W A hh).frame _ _ _ st₂ fun b _ o e => k₄ b o e, pD⟩
  rintro q s₅ ⟨i, zs, S₅, hi, rfl, hzs, ⟨m, F₅⟩, P₅, st₅, p₅⟩
  by_cases hlt : i < vs.length
  · refine (W A hh).item i _ _ _ hlt st₅ fun T vals h₆ tk₆ hPt hTs hT hMid hk₆ => ?_
    obtain ⟨v0, v1, g0, g1, rfl⟩ := hPt
    obtain ⟨_, t0, rfl⟩ := intsAre_at i1 g0
    obtain ⟨_, t1, rfl⟩ := intsAre_at i2 g1
    refine (W A hh).go _ k0 pt i T _ _ _ hMid fun h₇ st₇ hk₇ => ?_
    have hT₇ : h₇.IsTuple T #[_, _] := hT.at fun o e => hk₇ T o ((W A hh).apart i T h₆ hMid) e
    have kw : KpB wr s₅.heap h₇ := fun b o hb e => hk₇ b o hb (hk₆ b o hb e)
    have S₇ : Sm s₅ { s₅ with heap := h₇, toks := tk₆ } := ⟨rfl, rfl, rfl⟩
    have F₇ : Fx s.heap C { s₅ with heap := h₇, toks := tk₆ }.heap m := F₅.kp kw nCw hwr
    have p₇ : { s₅ with heap := h₇, toks := tk₆ }.heap.PlainList D zs.toArray := p₅.at fun o e => kw _ o nDw e
    replace st₇ : St (i + 1) { s₅ with heap := h₇, toks := tk₆ }.heap := st₇
    have P₇ : Fr0 { s₅ with heap := h₇, toks := tk₆ }.heap zs := mv P₅ fun b o _ _ hb e => kw b o hb e
    replace hT₇ : { s₅ with heap := h₇, toks := tk₆ }.heap.IsTuple T #[_, _] := hT₇
    show wpAny _ _ _ _ _ { s₅ with heap := h₇, toks := tk₆ }
    generalize { s₅ with heap := h₇, toks := tk₆ } = s₇ at S₇ F₇ p₇ st₇ P₇ hT₇ ⊢
    refine assign2 (env := compEnvC scope [] C env) hh F₇ hT₇ (fun s₈ S₈ F₈ => ?_) (hxa C) (hxb C) (hcl C)
    replace F₈ : Fx (dropA s₇.heap C) C s₈.heap _ := F₈
    refine helt C s₈ _ (xs.getD i 0) (ys.getD i 0) t0 t1 _ (Fx.ofNs F₈.ns) (by simp [Ne.symm hne]) (by simp) fun s₉ y S₉ k₉ f₉ y₉ => ?_
    have kC : ∀ b o, b ≠ C → s₇.heap.get? b = some o → s₉.heap.get? b = some o := fun b o n e => k₉ _ _ (F₈.keep b o (by rw [get_dropA_ne _ n]; exact e))
    have p₉ : s₉.heap.PlainList D zs.toArray := p₇.at fun o e => kC _ o nDC e
    have fy : ∀ b, (∃ o, s₇.heap.get? b = some o) → b ≠ C → y ≠ b := fun b ⟨o, e⟩ n => by
      rintro rfl; rw [F₈.keep _ _ (by rw [get_dropA_ne _ n]; exact e)] at f₉; cases f₉
    have ny : y ≠ D := by
      obtain ⟨_, e⟩ := p₇; exact fy D ⟨_, e⟩ nDC
    have nyC : y ≠ C := Ne.symm (ne_of_ns F₈.ns f₉)
    have nyw : y ∉ wr := fun hb => fy y (hstw _ _ st₇ y hb) nyC rfl
    have fys : s.heap.get? y = none := by
      cases q : s.heap.get? y with
      | none => rfl
      | some o => exact absurd rfl (fy y ⟨o, F₇.keep _ _ q⟩ nyC)
    have hlt' : i < xs.length := by rw [← i1.length]; exact hlt
    refine wpAny_list_append_plain (hsz := by rw [List.size_toArray, sizeLine_eq]; omega) p₉ fun h₁₀ l₁₀ b₁₀ => ?_
    refine ⟨vs.length - (i + 1), by omega, i + 1, zs ++ [.ref y], (((S₅.tr S₇).tr S₈).tr S₉).tr (Sm.mk' _ _ _), hlt, rfl, by simp [hzs], ?_, ?_, ?_, by simpa using l₁₀⟩
    · refine ⟨_, ((F₈.ns.keeps k₉).sameBut b₁₀ (Ne.symm nDC)), fun b o e => (b₁₀.2 b (by rintro rfl; rw [fDs] at e; cases e)).trans (kC b o (by rintro rfl; rw [fCs] at e; cases e) (F₇.keep b o e)), fCs⟩
    · intro j z hz'
      rw [List.getElem?_append] at hz'
      split at hz'
      · exact mv P₇ (fun b o n1 n2 n3 e => (b₁₀.2 b n1).trans (kC b o n2 e)) j z hz'
      · rename_i hj
        have hj' : j = i := by
          rcases Nat.lt_or_ge (j - zs.length) 1 with q | q
          · omega
          · rw [List.getElem?_eq_none (by simpa using q)] at hz'; cases hz'
        subst hj'
        rw [hzs, Nat.sub_self] at hz'
        cases hz'
        obtain ⟨o, n, t, u, g, r⟩ := y₉
        refine ⟨y, rfl, ⟨o, n, t, u, (b₁₀.2 y ny).trans g, ?_⟩, ny, nyC, nyw, fys⟩
        have hly : j < ys.length := by omega
        have : ((xs.zip ys).map fun p => (p.1, f p.2)).getD j (0, 0) = (xs.getD j 0, f (ys.getD j 0)) := by
          exact zipf_getD f hlt' hly
        rw [this]; exact r
    · exact (W A hh).frame _ _ _ st₇ fun b hb o e => (b₁₀.2 b (fun q => nDf (q ▸ hb))).trans (kC b o (fun q => nCf (q ▸ hb)) e)
  · have hin : i = vs.length := by omega
    subst hin
    refine (W A hh).done _ _ _ st₅ fun h₆ tk₆ hk₆ => ⟨m, (F₅.kp hk₆ nCw hwr).ns, fun h' hs' => ?_⟩
    have F₆ := F₅.kp hk₆ nCw hwr
    have P₆ : Fr0 h' zs := mv P₅ fun b o _ n2 n3 e => (hs'.2 b n2).trans (hk₆ b o n3 e)
    refine fin D _ zs (S₅.tr (Sm.mk' _ _ _)) (fun b o e => (hs'.2 b (by rintro rfl; rw [fCs] at e; cases e)).trans (F₆.keep b o e)) fDs ((p₅.at fun o e => hk₆ _ o nDw e).extBut hs'.extBut nDC) ⟨?_, ?_⟩ ?_
    · rw [hzs, i1.length]; simp [hlen]
    · intro j z e
      obtain ⟨a, rfl, x, _⟩ := P₆ j z e
      exact ⟨a, rfl, x⟩
    · intro z hz'
      obtain ⟨j, e⟩ := List.getElem?_of_mem hz'
      obtain ⟨a, rfl, _, _, _, _, g⟩ := P₆ j z e
      exact ⟨a, rfl, g⟩
end
end Mine
end -- M4

section -- M5
open PySem PySem.W PyProof.Rows PySem.Calls
set_option Elab.async false
set_option maxRecDepth 100000
set_option maxHeartbeats 2000000
namespace Mine
open Hp

/-- the places that a call of the law writes -/
def mutL (L T : Addr) : List Addr := [L, L + 1, L + 2, L + 3, L + 4, T]
def baseW (L T : Addr) (h : Heap) : Heap := dropA (dropA (dropA (dropA (dropA (dropA h L) (L + 1)) (L + 2)) (L + 3)) (L + 4)) T
theorem get_baseW {L T : Addr} {h : Heap} {b : Addr} (n : b ∉ mutL L T) : (baseW L T h).get? b = h.get? b := by
  simp only [mutL, List.mem_cons, List.not_mem_nil, or_false, not_or] at n
  obtain ⟨a1, a2, a3, a4, a5, a6⟩ := n
  unfold baseW
  rw [get_dropA_ne _ a6, get_dropA_ne _ a5, get_dropA_ne _ a4, get_dropA_ne _ a3, get_dropA_ne _ a2, get_dropA_ne _ a1]
theorem baseW_none {L T : Addr} {h : Heap} {b : Addr} (n : b ∈ mutL L T) : (baseW L T h).get? b = none := by
  simp only [mutL, List.mem_cons, List.not_mem_nil, or_false] at n
  unfold baseW
  rcases n with rfl | rfl | rfl | rfl | rfl | rfl
  · exact dropA_none (dropA_none (dropA_none (dropA_none (dropA_none (get_dropA_self _ _)))))
  · exact dropA_none (dropA_none (dropA_none (dropA_none (get_dropA_self _ _))))
  · exact dropA_none (dropA_none (dropA_none (get_dropA_self _ _)))
  · exact dropA_none (dropA_none (get_dropA_self _ _))
  · exact dropA_none (get_dropA_self _ _)
  · exact get_dropA_self _ _
theorem baseW_some {L T : Addr} {h : Heap} {b : Addr} {o : Obj} (e : (baseW L T h).get? b = some o) : b ∉ mutL L T ∧ h.get? b = some o := by
  have n : b ∉ mutL L T := fun q => by rw [baseW_none q] at e; cases e
  exact ⟨n, by rwa [get_baseW n] at e⟩

structure LS (L T : Addr) (q0 : Array Value) (B h : Heap) (m : Str → Option Value) (cn co cc cs : Option Value) : Prop where
  G : GF B
  ns : h.Ns L m
  kb : Ext B h
  off : ∀ b ∈ mutL L T, B.get? b = none
  n : h.IsCell (L + 1) cn
  o : h.IsCell (L + 2) co
  c : h.IsCell (L + 3) cc
  s : h.IsCell (L + 4) cs
  ct : ∃ ps, CovT h T (q0 ++ ps)
  tl : T < L

section
variable {L T : Addr} {B h h' : Heap} {m m' : Str → Option Value} {cn co cc cs : Option Value}

theorem LS.fx (H : LS L T q0 B h m cn co cc cs) : Fx B L h m := ⟨H.ns, H.kb, H.off L (by simp [mutL])⟩
theorem LS.gf (H : LS L T q0 B h m cn co cc cs) : GF h := H.G.keeps H.kb

theorem CovT.inj {T : Addr} {ps} (x : CovT h T ps) (G : GF B) (k : Ext B h) : ∃ c, (∃ o, B.get? c = some o) ∧ ∃ pm, h.get? 62 = some (fobj 3 pm c) ∧ h.CodeRec (.ref c) (nm 3) ∧ h.IsCode c T ps ∧ h.TableAt c T ps := by
  obtain ⟨pm, c, e, r⟩ := x
  obtain ⟨pm', c', e', hc'⟩ := G.fn (i := 3) (f := 62) (by simp)
  have q := k _ _ e'
  rw [e] at q
  have : c = c' := by
    simp only [fobj, docDef, Option.some.injEq, Obj.mk.injEq, Data.func.injEq] at q
    have q := q.2.2.1
    injection q with q1 q2 q3 q4 q5 q6 q7 q8 q9 q10 q11 q12
    simp_all
  subst this
  obtain ⟨c'', o, _, _, e1, e2, _⟩ := hc'
  cases e1
  exact ⟨c, ⟨o, e2⟩, pm, e, r⟩

theorem CovT.move {T : Addr} {ps} (x : CovT h T ps) (G : GF B) (k : Ext B h) (wr : List Addr) (hB : ∀ b ∈ wr, B.get? b = none) (hT : T ∉ wr) (kk : KpB wr h h') : CovT h' T ps := by
  obtain ⟨c, ⟨oc, ec⟩, pm, e, hc, hok, htab⟩ := x.inj G k
  have nc : c ∉ wr := fun q => by rw [hB _ q] at ec; cases ec
  have n6 : (62 : Nat) ∉ wr := fun q => by
    obtain ⟨_, _, e', _⟩ := G.fn (i := 3) (f := 62) (by simp)
    rw [hB _ q] at e'; cases e'
  refine ⟨pm, c, kk _ _ n6 e, ?_, ?_, ?_⟩
  · obtain ⟨c', o, vs, t, e1, e2, r⟩ := hc
    cases e1
    exact ⟨_, o, vs, t, rfl, kk _ _ nc e2, r⟩
  · obtain ⟨o, vs, file, tf', flags, tg, inF, text, tt, op, e1, r1, r2, r3, r4, r5, r6, e2, r⟩ := hok
    exact ⟨o, vs, file, tf', flags, tg, inF, text, tt, op, kk _ _ nc e1, r1, r2, r3, r4, r5, r6, kk _ _ hT e2, r⟩
  · obtain ⟨⟨o, vs, e1, r⟩, e2⟩ := htab
    exact ⟨⟨o, vs, kk _ _ nc e1, r⟩, kk _ _ hT e2⟩

theorem nmem1 {T a : Addr} (h : T < a) : T ∉ [a] := by simpa using Nat.ne_of_lt h

theorem LS.grow (H : LS L T q0 B h m cn co cc cs) (k : Ext h h') : LS L T q0 B h' m cn co cc cs :=
  ⟨H.G, H.ns.keeps k, H.kb.trans k, H.off, H.n.keeps k, H.o.keeps k, H.c.keeps k, H.s.keeps k, let ⟨ps, x⟩ := H.ct; ⟨ps, x.move H.G H.kb [] (by simp) (by simp) fun b o _ e => k b o e⟩, H.tl⟩

theorem LS.ofFx (H : LS L T q0 B h m cn co cc cs) (F : Fx (dropA h L) L h' m') : LS L T q0 B h' m' cn co cc cs :=
  have k : ∀ b o, b ≠ L → h.get? b = some o → h'.get? b = some o := fun b o n e => F.keep b o (by rw [get_dropA_ne _ n]; exact e)
  have g : ∀ i, 0 < i → L + i ≠ L := fun i hi => (Nat.ne_of_lt (Nat.lt_add_of_pos_right hi)).symm
  ⟨H.G, F.ns, (H.fx.trans F).keep, H.off, cell_at H.n fun o e => k _ o (g 1 (by decide)) e, cell_at H.o fun o e => k _ o (g 2 (by decide)) e, cell_at H.c fun o e => k _ o (g 3 (by decide)) e, cell_at H.s fun o e => k _ o (g 4 (by decide)) e,
   let ⟨ps, x⟩ := H.ct; ⟨ps, x.move H.G H.kb [L] (by simpa using H.off L (by simp [mutL])) (nmem1 H.tl) fun b o n e => k b o (by simpa using n) e⟩, H.tl⟩

theorem addN {L i j : Nat} (h : i ≠ j) : L + i ≠ L + j := fun q => h (Nat.add_left_cancel q)

theorem LS.cellN (H : LS L T q0 B h m cn co cc cs) {v} (b : Heap.SameBut (L + 1) h h') (c : h'.IsCell (L + 1) v) : LS L T q0 B h' m v co cc cs :=
  have k : ∀ a o, a ≠ L + 1 → h.get? a = some o → h'.get? a = some o := fun a o n e => (b.2 a n).trans e
  have hB : B.get? (L + 1) = none := H.off _ (by simp [mutL])
  ⟨H.G, H.ns.at' fun o e => k _ o (Nat.ne_of_lt (Nat.lt_succ_self L)) e, fun a o e => k a o (by rintro rfl; rw [hB] at e; cases e) (H.kb a o e), H.off, c, cell_at H.o fun o e => k _ o (addN (by decide)) e, cell_at H.c fun o e => k _ o (addN (by decide)) e, cell_at H.s fun o e => k _ o (addN (by decide)) e,
   let ⟨ps, x⟩ := H.ct; ⟨ps, x.move H.G H.kb [L + 1] (by simpa using hB) (nmem1 (Nat.lt_of_lt_of_le H.tl (Nat.le_add_right _ _))) fun b o n e => k b o (by simpa using n) e⟩, H.tl⟩
theorem LS.cellO (H : LS L T q0 B h m cn co cc cs) {v} (b : Heap.SameBut (L + 2) h h') (c : h'.IsCell (L + 2) v) : LS L T q0 B h' m cn v cc cs :=
  have k : ∀ a o, a ≠ L + 2 → h.get? a = some o → h'.get? a = some o := fun a o n e => (b.2 a n).trans e
  have hB : B.get? (L + 2) = none := H.off _ (by simp [mutL])
  ⟨H.G, H.ns.at' fun o e => k _ o (Nat.ne_of_lt (Nat.lt_add_of_pos_right (by decide))) e, fun a o e => k a o (by rintro rfl; rw [hB] at e; cases e) (H.kb a o e), H.off, cell_at H.n fun o e => k _ o (addN (by decide)) e, c, cell_at H.c fun o e => k _ o (addN (by decide)) e, cell_at H.s fun o e => k _ o (addN (by decide)) e,
   let ⟨ps, x⟩ := H.ct; ⟨ps, x.move H.G H.kb [L + 2] (by simpa using hB) (nmem1 (Nat.lt_of_lt_of_le H.tl (Nat.le_add_right _ _))) fun b o n e => k b o (by simpa using n) e⟩, H.tl⟩
theorem LS.cellC (H : LS L T q0 B h m cn co cc cs) {v} (b : Heap.SameBut (L + 3) h h') (c : h'.IsCell (L + 3) v) : LS L T q0 B h' m cn co v cs :=
  have k : ∀ a o, a ≠ L + 3 → h.get? a = some o → h'.get? a = some o := fun a o n e => (b.2 a n).trans e
  have hB : B.get? (L + 3) = none := H.off _ (by simp [mutL])
  ⟨H.G, H.ns.at' fun o e => k _ o (Nat.ne_of_lt (Nat.lt_add_of_pos_right (by decide))) e, fun a o e => k a o (by rintro rfl; rw [hB] at e; cases e) (H.kb a o e), H.off, cell_at H.n fun o e => k _ o (addN (by decide)) e, cell_at H.o fun o e => k _ o (addN (by decide)) e, c, cell_at H.s fun o e => k _ o (addN (by decide)) e,
   let ⟨ps, x⟩ := H.ct; ⟨ps, x.move H.G H.kb [L + 3] (by simpa using hB) (nmem1 (Nat.lt_of_lt_of_le H.tl (Nat.le_add_right _ _))) fun b o n e => k b o (by simpa using n) e⟩, H.tl⟩
theorem LS.cellS (H : LS L T q0 B h m cn co cc cs) {v} (b : Heap.SameBut (L + 4) h h') (c : h'.IsCell (L + 4) v) : LS L T q0 B h' m cn co cc v :=
  have k : ∀ a o, a ≠ L + 4 → h.get? a = some o → h'.get? a = some o := fun a o n e => (b.2 a n).trans e
  have hB : B.get? (L + 4) = none := H.off _ (by simp [mutL])
  ⟨H.G, H.ns.at' fun o e => k _ o (Nat.ne_of_lt (Nat.lt_add_of_pos_right (by decide))) e, fun a o e => k a o (by rintro rfl; rw [hB] at e; cases e) (H.kb a o e), H.off, cell_at H.n fun o e => k _ o (addN (by decide)) e, cell_at H.o fun o e => k _ o (addN (by decide)) e, cell_at H.c fun o e => k _ o (addN (by decide)) e, c,
   let ⟨ps, x⟩ := H.ct; ⟨ps, x.move H.G H.kb [L + 4] (by simpa using hB) (nmem1 (Nat.lt_of_lt_of_le H.tl (Nat.le_add_right _ _))) fun b o n e => k b o (by simpa using n) e⟩, H.tl⟩

theorem LS.tab (H : LS L T q0 B h m cn co cc cs) {ps more} (k : KpB [T] h h') (x : CovT h' T (q0 ++ ps ++ more)) : LS L T q0 B h' m cn co cc cs :=
  have hB : B.get? T = none := H.off _ (by simp [mutL])
  have g : ∀ i, L + i ∉ [T] := fun i => by simpa using (Nat.ne_of_lt (Nat.lt_of_lt_of_le H.tl (Nat.le_add_right L i))).symm
  ⟨H.G, H.ns.at' fun o e => k _ o (g 0) e, fun a o e => k a o (by rw [List.mem_singleton]; rintro rfl; rw [hB] at e; cases e) (H.kb a o e), H.off, cell_at H.n fun o e => k _ o (g 1) e, cell_at H.o fun o e => k _ o (g 2) e, cell_at H.c fun o e => k _ o (g 3) e, cell_at H.s fun o e => k _ o (g 4) e, ⟨ps ++ more, by rwa [Array.append_assoc] at x⟩, H.tl⟩

theorem LS.in_mut (H : LS L T q0 B h m cn co cc cs) {b : Addr} (hb : b ∈ mutL L T) : ∃ o, h.get? b = some o := by
  simp only [mutL, List.mem_cons, List.not_mem_nil, or_false] at hb
  rcases hb with rfl | rfl | rfl | rfl | rfl | rfl
  · obtain ⟨o, _, _, e, _⟩ := H.ns; exact ⟨o, e⟩
  · obtain ⟨o, e, _⟩ := H.n; exact ⟨o, e⟩
  · obtain ⟨o, e, _⟩ := H.o; exact ⟨o, e⟩
  · obtain ⟨o, e, _⟩ := H.c; exact ⟨o, e⟩
  · obtain ⟨o, e, _⟩ := H.s; exact ⟨o, e⟩
  · obtain ⟨_, _, _, _, _, _, e⟩ := H.ct; exact ⟨_, e.2⟩

/-- what is new lies apart -/
theorem LS.fresh (H : LS L T q0 B h m cn co cc cs) {b : Addr} (e : h.get? b = none) : b ∉ mutL L T := fun q => by obtain ⟨o, e'⟩ := H.in_mut q; rw [e] at e'; cases e'

/-- take in what is new -/
theorem LS.base (H : LS L T q0 B h m cn co cc cs) : LS L T q0 (baseW L T h) h m cn co cc cs ∧ Ext B (baseW L T h) :=
  have k : Ext B (baseW L T h) := fun b o e => by rw [get_baseW fun q => by rw [H.off b q] at e; cases e]; exact H.kb b o e
  ⟨⟨H.G.keeps k, H.ns, fun _ _ e => (baseW_some e).2, fun _ hb => baseW_none hb, H.n, H.o, H.c, H.s, H.ct, H.tl⟩, k⟩

theorem LS.rest (H : LS L T q0 B h m cn co cc cs) (P : Heap → Prop) (D : Addr) (e : h.get? D = none) (H' : LS L T q0 B h' m' cn co cc cs) (p : (∀ o, h'.get? D = some o → (baseW L T h').get? D = some o) → P (baseW L T h')) :
    ∃ B', Ext B B' ∧ LS L T q0 B' h' m' cn co cc cs ∧ P B' :=
  ⟨_, H'.base.2, H'.base.1, p fun o q => by rw [get_baseW (H.fresh e)]; exact q⟩
end
end Mine
end -- M5

section -- M6
open PySem PySem.W PyProof.Rows PySem.Calls
set_option Elab.async false
set_option maxRecDepth 100000
set_option maxHeartbeats 2000000
namespace Mine
open Hp Fp PyProof.V PySem.Spec PySem.SeqAt

theorem push_at (h : Heap) (o : Obj) (hf : o.isFreed = false) : (h.push o).get? h.objs.size = some o := Heap.get?_push_size _ hf

theorem mulOk {a b : Int} (h : a.natAbs < 2 ^ 63) : IntMulOk a b := IntMulOk.of_left (intBits_le_64 (by omega) (by omega))

section
variable {w : World} {A : Around} {E : Value → Shared → Prop} {s : Shared} {env : Env}

/-! ## comparing lists -/
theorem eqAt_fi {f : UInt64} {c : Int} {t u : Tok} (hc : IsI f c) (A : Around) (s : Shared) : SeqAt.EqAt A s (.float f t) (.int c u) true := fun prog w E Q hq => by
  unfold eqBool
  refine wpAny_holding ?_
  rw [if_neg (by simp)]
  refine wpAny_bind (show wpAny _ _ (compareOp .Eq (.float f t) (.int c u)) _ _ _ from eq_fi ?_)
  rw [isI_cmpInt hc]
  exact wpAny_truthy_bool (by simpa using hq)

theorem ne_told {a b : Addr} {f₁ f₂ f₃ f₄ : UInt64} {t₁ t₂ t₃ t₄ u₁ u₂ u₃ u₄ : Tok} {c₁ c₂ c₃ c₄ : Int} {Q : Value → Shared → Prop} (ha : s.heap.IsList a [.float f₁ t₁, .float f₂ t₂, .float f₃ t₃, .float f₄ t₄].toArray) (hb : s.heap.IsList b [.int c₁ u₁, .int c₂ u₂, .int c₃ u₃, .int c₄ u₄].toArray)
    (hu : A.units < 1000) (h1 : IsI f₁ c₁) (h2 : IsI f₂ c₂) (h3 : IsI f₃ c₃) (h4 : IsI f₄ c₄) (h : Q (.bool false) s) : wpAny (model P w) A (compareOp .NotEq (.ref a) (.ref b)) Q E s := by
  refine SeqAt.RcNeAt.lists (e := fun _ => true) ha hb rfl (Nat.lt_of_lt_of_le hu (by decide)) ?_ P w E Q h
  intro j hj _
  simp only [List.size_toArray, List.length_cons, List.length_nil] at hj
  match j, hj with
  | 0, _ => exact eqAt_fi h1 _ _
  | 1, _ => exact eqAt_fi h2 _ _
  | 2, _ => exact eqAt_fi h3 _ _
  | 3, _ => exact eqAt_fi h4 _ _

def prD (ps : List (Int × Int)) : List PyData := ps.map fun p => .tuple [.int p.1, .int p.2]
theorem reads_t2 {h : Heap} {a : Addr} {p : Int × Int} (x : IsT2 h a p) : Reads h (.ref a) (.tuple [.int p.1, .int p.2]) [] := by
  obtain ⟨o, n, t, u, e, c, d⟩ := x
  exact Reads.tuple e c d (ReadsAll.cons (Reads.int p.1 t) (ReadsAll.cons (Reads.int p.2 u) ReadsAll.nil))

inductive T2s (h : Heap) : List Value → List (Int × Int) → Prop
  | nil : T2s h [] []
  | cons {a p vs ps} : IsT2 h a p → T2s h vs ps → T2s h (.ref a :: vs) (p :: ps)
theorem readsAll_t2 {h : Heap} : ∀ {vs ps}, T2s h vs ps → ReadsAll h vs (prD ps) []
  | _, _, .nil => .nil
  | _, _, .cons x r => by
    have := ReadsAll.cons (reads_t2 x) (readsAll_t2 r)
    simpa [prD] using this
theorem reads_prs {h : Heap} {a : Addr} {vs : List Value} {ps} (hl : h.IsList a vs.toArray) (hi : T2s h vs ps) : Reads h (.ref a) (.list (prD ps)) [a] := by
  obtain ⟨o, ho, hc, n, hd⟩ := hl
  exact Reads.list ho hc hd (by simpa using readsAll_t2 hi)
theorem canLay_prs : ∀ ps, PyData.canLayAll0 (prD ps) = true
  | [] => by simp [prD, PyData.canLayAll0]
  | p :: r => by
    have := canLay_prs r
    simp only [prD] at this
    simp [prD, PyData.canLayAll0, PyData.canLay0, this]
theorem depth_prs : ∀ ps, PyData.depthAll (prD ps) ≤ 5
  | [] => by simp [prD, PyData.depthAll]
  | p :: r => by
    have := depth_prs r
    simp only [prD] at this
    simp only [prD, List.map_cons, PyData.depthAll, PyData.depth]
    omega
theorem shaped_prs (ps) : shaped (.list (prD ps)) = true := by
  have h1 := depth_prs ps
  have h2 : PyData.depth (.list (prD ps)) ≤ 64 := by simp only [PyData.depth]; omega
  show (PyData.canLay0 (.list (prD ps)) && decide (PyData.depth (.list (prD ps)) ≤ 64)) = true
  rw [Bool.and_eq_true]
  exact ⟨by simp only [PyData.canLay0]; exact canLay_prs ps, decide_eq_true h2⟩
theorem noMix_prs : ∀ ps qs : List (Int × Int), noMixAll (prD ps) (prD qs) = true
  | [], [] => by simp [prD, noMixAll]
  | [], _ :: _ => by simp [prD, noMixAll]
  | _ :: _, [] => by simp [prD, noMixAll]
  | _ :: r, _ :: q => by
    have := noMix_prs r q
    simp only [prD] at this
    simp [prD, noMixAll, noMix, this]
theorem same_prs : ∀ ps : List (Int × Int), PySem.Spec.sameAll (prD ps) (prD ps) = true
  | [] => by simp [prD, PySem.Spec.sameAll]
  | _ :: r => by
    have := same_prs r
    simp only [prD] at this
    simp [prD, PySem.Spec.sameAll, PySem.Spec.same, this]

theorem ne_prs {a b : Addr} {vs us : List Value} {ps : List (Int × Int)} {Q : Value → Shared → Prop} (ha : s.heap.IsList a vs.toArray) (hp : T2s s.heap vs ps) (hb : s.heap.IsList b us.toArray) (hq : T2s s.heap us ps) (hu : A.units < 1000)
    (h : Q (.bool false) s) : wpAny (model P w) A (compareOp .NotEq (.ref a) (.ref b)) Q E s :=
  ne_dataH_same (reads_prs ha hp) (reads_prs hb hq) (shaped_prs ps) (shaped_prs ps) (by have : cLine = 9900 := rfl; omega) (by simp only [noMix]; exact noMix_prs ps ps) (by simp only [PySem.Spec.same]; rw [same_prs]; exact h)

theorem ne_il {a b : Addr} {xs ys : List Int} {Q : Value → Shared → Prop} (ha : IsIL s.heap a xs) (hb : IsIL s.heap b ys) (hu : A.units < 1000) (h : Q (.bool (!decide (xs = ys))) s) :
    wpAny (model P w) A (compareOp .NotEq (.ref a) (.ref b)) Q E s := by
  obtain ⟨vs, l1, i1⟩ := ha
  obtain ⟨us, l2, i2⟩ := hb
  exact ne_intsK l1 i1 l2 i2 (by have : cLine = 9900 := rfl; omega) h

theorem ne_bb {a b : Bool} {Q : Value → Shared → Prop} (h : Q (.bool (!(a == b))) s) : wpAny (model P w) A (compareOp .NotEq (.bool a) (.bool b)) Q E s := SeqAt.RcNeAt.bool_bool a b P w E Q h

theorem notIn_il {a : Addr} {xs : List Int} {k : Int} {t : Tok} {Q : Value → Shared → Prop} (ha : IsIL s.heap a xs) (h : Q (.bool (!decide (k ∈ xs))) s) : wpAny (model P w) A (compareOp .NotIn (.int k t) (.ref a)) Q E s := by
  obtain ⟨vs, l, i⟩ := ha
  refine SeqAt.notIn_listAt (fun v => match v with | .int j _ => j == k | _ => false) l (fun y hy => ?_) ?_
  · have hy' : y ∈ vs := by simpa using hy
    obtain ⟨j, e⟩ := List.getElem?_of_mem hy'
    obtain ⟨_, u, rfl⟩ := intsAre_at i e
    exact SeqAt.EqAt.int_int _ _ _ _
  · have : vs.toArray.any (fun v => match v with | .int j _ => j == k | _ => false) = decide (k ∈ xs) := by
      rw [List.any_toArray]
      clear l h
      induction i with
      | nil => simp
      | cons j u r ih =>
        simp only [List.any_cons, ih, List.mem_cons]
        by_cases e : j = k
        · simp [e]
        · have e' : ¬ k = j := fun q => e q.symm
          simp [e, e']
    rw [this]; exact h

/-! ## making lists -/
theorem slice_il {value : Expr} {lower upper : Option Expr} {p pos : Pos} {Q : Value → Shared → Prop}
    (h : wpAny (model P w) A (eval value env) (fun o s₁ => wpAny (model P w) A (evalPart lower env) (fun vl s₂ => wpAny (model P w) A (evalPart upper env) (fun vu s₃ =>
      ∃ l, ∃ vs : List Value, ∃ lo hi, o = .ref l ∧ s₃.heap.IsList l vs.toArray ∧ vs.length < 1000 ∧ IsPart vl lo ∧ IsPart vu hi ∧
        ∀ s' D, Sm s₃ s' → Ext s₃.heap s'.heap → s₃.heap.get? D = none → s'.heap.PlainList D (slicePick vs.toArray lo hi none) → Q (.ref D) s') E s₂) E s₁) E s)
    (ht : ∀ o r, letTemporaryGo value o r = pure () := by intro _ _; rfl) :
    wpAny (model P w) A (eval (.Subscript value (.Slice lower upper none p) pos) env) Q E s := by
  refine wpAny_Subscript_list_slice (wpAny_mono h (fun o s₁ h₁ => wpAny_mono h₁ (fun vl s₂ h₂ => wpAny_mono h₂ (fun vu s₃ h₃ => ?_) fun _ _ x => x) fun _ _ x => x) fun _ _ x => x) ht
  obtain ⟨l, vs, lo, hi, rfl, hl, hz, pl, pu, h₃⟩ := h₃
  refine ⟨l, vs.toArray, lo, hi, rfl, hl, by rw [List.size_toArray, sizeLine_eq]; omega, pl, pu, ?_⟩
  refine h₃ _ _ ⟨rfl, rfl, rfl⟩ ((ext_push _ _).trans (ext_push _ _)) (Heap.get?_none_of_le (Nat.le_succ _)) ⟨0, ?_⟩
  have := push_at (s₃.heap.push { cls := .type "slice", data := .fields #[vl, vu, .none] }) { cls := .type "list", data := .seq (slicePick vs.toArray lo hi none) } rfl
  rw [Heap.size_push] at this
  exact this

theorem mul_1 {l : Addr} {v : Value} {k : Nat} {t : Tok} {Q : Value → Shared → Prop} (hl : s.heap.PlainList l [v].toArray) (hk : k < 1000)
    (h : ∀ s' D, Sm s s' → Ext s.heap s'.heap → s.heap.get? D = none → s'.heap.PlainList D (List.replicate k v).toArray → Q (.ref D) s') : wpAny (model P w) A (binaryOp .Mult (.ref l) (.int k t)) Q E s := by
  obtain ⟨c, hl⟩ := hl
  replace hl : s.heap.get? l = some { cls := .type "list", dict := none, data := .seq [v].toArray c, slots := #[] } := hl
  have q1 : ¬ (!Builtin.List.listFitsIndex (k : Int)) = true := by
    simp only [Builtin.List.listFitsIndex, Bool.not_eq_true, Bool.not_eq_false', Bool.and_eq_true, decide_eq_true_eq]
    omega
  have q3 : ¬ Builtin.List.listTooLong ([v].toArray.size * (k : Int).toNat) = true := by
    have e : [v].toArray.size * (k : Int).toNat = k := by simp
    rw [e]
    simp only [Builtin.List.listTooLong, decide_eq_true_eq, sizeLine_eq]
    omega
  have q2 : ¬ [v].toArray.size * (k : Int).toNat > (2 ^ 63 - 1) / 8 := by
    have e : [v].toArray.size * (k : Int).toNat = k := by simp
    rw [e]; omega
  have e : ∀ (k : Nat) (acc : Array Value), List.foldl (fun x1 x2 => x1 ++ x2) acc (List.replicate k [v].toArray) = acc ++ (List.replicate k v).toArray := by
    intro k
    induction k with
    | zero => intro acc; simp
    | succ k ih =>
      intro acc
      rw [List.replicate_succ, List.foldl_cons, ih, List.replicate_succ]
      apply Array.toList_inj.mp
      simp
  have e' : List.foldl (fun x1 x2 => x1 ++ x2) #[] (List.replicate (if ([v].toArray).isEmpty = true then 0 else (k : Int).toNat) [v].toArray) = (List.replicate k v).toArray := by
    rw [if_neg (by simp), e]; simp
  have key : Q (.ref s.heap.objs.size) { s with heap := s.heap.push { cls := .type "list", data := .seq (List.foldl (fun x1 x2 => x1 ++ x2) #[] (List.replicate (if ([v].toArray).isEmpty = true then 0 else (k : Int).toNat) [v].toArray)) } } := by
    refine h _ _ ⟨rfl, rfl, rfl⟩ (ext_push _ _) (fresh_none _) ⟨0, ?_⟩
    have := push_at s.heap { cls := .type "list", data := .seq (List.foldl (fun x1 x2 => x1 ++ x2) #[] (List.replicate (if ([v].toArray).isEmpty = true then 0 else (k : Int).toNat) [v].toArray)) } rfl
    rw [e'] at this ⊢
    exact this
  generalize hx : (k : Int) = x at q1 q2 q3 key ⊢
  generalize hi : [v].toArray = items at hl q2 q3 key
  clear e e' h hx hi
  exact wpAny_binaryOp_repeat_ref (T := "list") (U := "int") (by decide) ⟨_, hl, rfl⟩ (fun s' => typeIs_int s' x t) noFill_list_mul PySem.F.fills_int_mul PySem.F.slot_int_rmul repeat_list PySem.F.slot_int_index.lookup
    (call_meets PySem.F.slot_int_rmul (typeIs_int s x t) PySem.F.entry_int_rmul (PySem.F.args_int_rmul_2 _ _) (int___rmul___int_list x t l items c)
      ⟨hl, rfl, ⟨_, hl, rfl⟩, call_meets PySem.F.slot_list_mul ⟨_, hl, rfl⟩ PySem.F.entry_list_mul (PySem.F.args_list_mul_2 _ _) (AutoListH.list___mul___list_int_3 l items c x t q1 q2 q3) ⟨hl, key⟩⟩)

theorem tuple_l {l : Addr} {vs : List Value} {Q : Value → Shared → Prop} (hl : s.heap.IsList l vs.toArray) (hz : vs.length < 1000)
    (h : ∀ s' D, Sm s s' → Ext s.heap s'.heap → s.heap.get? D = none → s'.heap.IsTuple D vs.toArray → Q (.ref D) s') : wpAny (model P w) A (call (.type "tuple") [.ref l]) Q E s :=
  call_tuple_list hl (fun h' hk => h _ _ ⟨rfl, rfl, rfl⟩ (fun b o e => ext_push _ _ b o (hk b o e)) (none_of_ext hk (fresh_none _)) ⟨_, Heap.get?_push_size _ rfl, rfl, 0, rfl⟩) (by rw [List.size_toArray, sizeLine_eq]; omega)

/-- o.append(e) -/
theorem appendM {o e : Expr} {apos pos : Pos} {Q : Value → Shared → Prop}
    (h : wpAny (model P w) A (eval o env) (fun ov s₁ => ∃ a vs, ov = .ref a ∧ s₁.heap.PlainList a vs ∧ wpAny (model P w) A (eval e env) (fun v s₂ => ∃ us : List Value, s₂.heap.PlainList a us.toArray ∧ us.length < 1000 ∧
      ∀ s', Sm s₂ s' → Heap.SameBut a s₂.heap s'.heap → s'.heap.PlainList a (us ++ [v]).toArray → Q .none s') E s₁) E s)
    (hbase : attributeBase o "append" env (eval o env) = eval o env := by rfl) (hline : (apos.endLine == pos.line) = true := by rfl) (htrees : backTo pos (starEach [e] env) = [(false, eval e env)] := by rfl) :
    wpAny (model P w) A (eval (.Call (.Attribute o "append" apos) [e] [] pos) env) Q E s := by
  refine wpAny_Call_method1_late hbase hline htrees (wpAny_mono h (fun ov s₁ h₁ => ?_) fun _ _ x => x)
  obtain ⟨a, vs, rfl, ⟨c, ho⟩, h₁⟩ := h₁
  refine ⟨"list", "list.append", PySem.F.plainAttrs_list, PySem.F.slot_list_append, PySem.F.type_list_append, ⟨_, ho, rfl⟩, fun a' e => by cases e; exact ⟨_, ho, rfl⟩, ?_⟩
  refine callWith_builtin rfl (evalArgs_plain (spliced_cons (wpAny_mono h₁ (fun v s₂ h₂ => spliced_nil ?_) fun _ _ x => x)))
  obtain ⟨us, hp, hz, h₂⟩ := h₂
  refine wpAny_list_append_plain (hsz := by rw [List.size_toArray, sizeLine_eq]; omega) hp fun h' hl' hs' => h₂ _ ⟨rfl, rfl, rfl⟩ hs' (by simpa using hl')

theorem item_t2 {value slice : Expr} {a : Addr} {p : Int × Int} {u : Tok} {Q : Value → Shared → Prop} (ha : IsT2 s.heap a p) (h : ∀ t, Q (.int p.2 t) s)
    (hs : subscripted slice false (.ref a) (.int 1 u) = operate [.ref a, .int 1 u] (getItem (.ref a) (.int 1 u)) := by with_unfolding_all rfl) :
    wpAny (model P w) A (subscriptTail value slice (.ref a) (.int 1 u)) Q E s := by
  obtain ⟨o, n, t, u', e, c, d⟩ := ha
  have ht : IsTup s.heap a #[.int p.1 t, .int p.2 u'] := ⟨o, e, c, n, d⟩
  exact tail_any ht.typeIs slot_tuple_getitem.lookup (getItem_tuple ht (by decide) (by decide) (j := 1) rfl rfl (h _)) hs
end
end Mine
end -- M6

section -- M7
open PySem PySem.W PyProof.Rows PySem.Calls
set_option Elab.async false
set_option maxRecDepth 100000
set_option maxHeartbeats 2000000
namespace Mine
open Hp Fp

section
variable {L T : Addr} {B h h' : Heap} {m m' : Str → Option Value} {cn co cc cs : Option Value}

theorem LS.kp (H : LS L T q0 B h m cn co cc cs) {wr : List Addr} (k : KpB wr h h') (hB : ∀ b ∈ wr, B.get? b = none) (hm : ∀ b ∈ wr, b ∉ mutL L T) : LS L T q0 B h' m cn co cc cs := by
  have g : ∀ {b}, b ∈ mutL L T → b ∉ wr := fun hb hw => hm _ hw hb
  refine ⟨H.G, H.ns.at' fun o e => k _ o (g (by simp [mutL])) e, fun b o e => k b o (fun hb => by rw [hB b hb] at e; cases e) (H.kb b o e), H.off, cell_at H.n fun o e => k _ o (g (by simp [mutL])) e, cell_at H.o fun o e => k _ o (g (by simp [mutL])) e, cell_at H.c fun o e => k _ o (g (by simp [mutL])) e, cell_at H.s fun o e => k _ o (g (by simp [mutL])) e, ?_, H.tl⟩
  obtain ⟨ps, x⟩ := H.ct
  exact ⟨ps, x.move H.G H.kb wr hB (g (by simp [mutL])) k⟩

theorem LS.sub (H : LS L T q0 B h m cn co cc cs) {B' : Heap} (k : Ext B' B) (G : GF B') : LS L T q0 B' h m cn co cc cs :=
  ⟨G, H.ns, k.trans H.kb, fun b hb => none_of_ext k (H.off b hb), H.n, H.o, H.c, H.s, H.ct, H.tl⟩

theorem LS.kpm (H : LS L T q0 (baseW L T h) h' m cn co cc cs) : KpB (mutL L T) h h' := fun b o n e => H.kb b o (by rw [get_baseW n]; exact e)
end

section
variable {w : World} {A : Around} {E : Value → Shared → Prop} {env : Env} {s s₀ : Shared}

theorem forWalkG {target : Expr} {body : List Stmt} {I : Addr} {fp wr : List Addr} {n : Nat} {Pv : Nat → Value → Prop} {St : Nat → Heap → Prop} {Q : Flow → Shared → Prop}
    (W : Walks P w A I fp wr n Pv St) (J : Nat → Heap → Prop)
    (hst : ∀ i h h', J i h → KpB wr h h' → J i h')
    (h0 : J 0 s₀.heap) (hS : St 0 s₀.heap)
    (turn : ∀ i v s, i < n → Pv i v → J i s.heap → St (i + 1) s.heap → Sg s₀ s → wpAny (model P w) A (letOwnedTupleGo target (.ref I) v) (fun _ s₁ => wpAny (model P w) A (assign target env v) (fun _ s₂ => wpAny (model P w) A (execs body env) (fun f s₃ =>
      Sg s₀ s₃ ∧ f = .next ∧ J (i + 1) s₃.heap ∧ (∀ b ∈ fp, ∀ o, s.heap.get? b = some o → s₃.heap.get? b = some o)) (fun _ _ => False) s₂) (fun _ _ => False) s₁) (fun _ _ => False) s)
    (fin : ∀ s, Sg s₀ s → J n s.heap → Q .next s) :
    codeAny (model P w) A (.forLoop target (.ref I) body [] env) (fun r s' => match r with | .ok f => Q f s' | .error e => cameBackBy (model P w) A env E e s') s₀ := by
  refine codeAny_forLoop_any (fun k s => ∃ i, Sg s₀ s ∧ i ≤ n ∧ k = n - i ∧ J i s.heap ∧ St i s.heap) ?_ n ⟨0, Sg.refl _, Nat.zero_le _, rfl, h0, hS⟩
  rintro k s ⟨i, hsm, hi, rfl, hJ, hs⟩
  by_cases hlt : i < n
  · refine W.item i _ _ _ hlt hs fun v h' tk' hv hs' hk => ?_
    refine wpAny_mono (turn i v _ hlt hv (hst _ _ _ hJ hk) hs' (hsm.tr (Sm.mk' _ _ _).sg)) (fun _ s₁ h₁ => ?_) fun _ _ x => x.elim
    refine wpAny_mono h₁ (fun _ s₂ h₂ => ?_) fun _ _ x => x.elim
    refine wpAny_mono h₂ (fun f s₃ h₃ => ?_) fun _ _ x => x.elim
    obtain ⟨hsm', rfl, hJ', hfp⟩ := h₃
    exact ⟨n - (i + 1), by omega, i + 1, hsm', hlt, rfl, hJ', W.frame _ _ _ hs' hfp⟩
  · have : i = n := by omega
    subst this
    exact W.done _ _ _ hs fun h' tk' hk => wpAny_execs_nil (fin _ (hsm.tr (Sm.mk' _ _ _).sg) (hst _ _ _ hJ hk))

theorem lot_tup {elts : List Expr} {k : Nat} {pos : Pos} {I t : Addr} {i : Nat} {v : Value} {M : Model} {Q : Unit → Shared → Prop} (hit : s.heap.IsTupleIter I t i) (hQ : Q () s) : wpAny M A (letOwnedTupleGo (.Tuple elts k pos) (.ref I) v) Q E s := by
  obtain ⟨o, ho, hc, hd⟩ := hit
  cases v with
  | ref a =>
    show wpAny _ A (load I >>= _) _ _ _
    refine wpAny_bind (wpAny_load ho ?_)
    rw [hc, hd]
    exact wpAny_pure hQ
  | _ => exact wpAny_pure hQ

/-- iter of a tuple -/
theorem iter_t {a : Addr} {vs : List Value} {Q : Value → Shared → Prop} (hl : s.heap.IsTuple a vs.toArray)
    (h : ∀ I s', Sm s s' → Ext s.heap s'.heap → s.heap.get? I = none → a ≠ I → s'.heap.IsTupleIter I a 0 → Q (.ref I) s') : wpAny (model P w) A (pyIter (.ref a)) Q E s := by
  have hlt : a < s.heap.objs.size := let ⟨_, ho, _⟩ := hl; Heap.lt_size ho
  exact wpAny_pyIter_tuple hl (h _ _ ⟨rfl, rfl, rfl⟩ (ext_push _ _) (fresh_none _) (Nat.ne_of_lt hlt) ⟨_, Heap.get?_push_size _ rfl, rfl, rfl⟩)

variable {L T : Addr} {B : Heap} {m : Str → Option Value} {cn co cc cs : Option Value}
theorem lsx {x : Str} {v : Value} {Q : Unit → Shared → Prop} (H : LS env.locals T q0 B s.heap m cn co cc cs)
    (h : ∀ s', Sm s s' → LS env.locals T q0 B s'.heap (fun y => if y = x then some v else m y) cn co cc cs → Q () s')
    (hl : env.kindOf x = some .local := by rfl) (hp : (env.scope.kind == .class || (env.scope.kind == .module && env.locals != env.globals)) = false := by rfl) :
    wpAny (model P w) A (storeName env x v) Q E s := sx H.fx.rebase (fun s' S F => h s' S (H.ofFx F)) hl hp
end
end Mine
end -- M7

section -- PM0
open PySem PySem.W PyProof.Rows PySem.Calls
set_option Elab.async false
set_option maxRecDepth 100000
set_option maxHeartbeats 2000000
namespace Mine
open Hp Fp

/-- two rows and their bounds -/
structure Rows2 (ks vs : List Int) : Prop where
  len : vs.length = ks.length
  two : 2 ≤ ks.length
  most : ks.length ≤ 8
  small : ∀ v ∈ vs, v.natAbs < 2 ^ 20

def spreadF (zs : List Int) (n : Nat) : Int := ((List.range n).map fun (k : Nat) => (2 * (k : Int) + 1 - (n : Int)) * zs.getD k 0).sum
def broadF (n : Nat) (vs : List Int) : List Int := vs.map fun y => (n : Int) * ((n : Int) - 1) * y
def risesF (ps : List (Int × Int)) (n : Nat) : List Int := (List.range (n - 1)).map fun k => sg (-(ps.getD k (0, 0)).2) (-(ps.getD (k + 1) (0, 0)).2)
def fallsF (ps : List (Int × Int)) (n : Nat) : List Int := (List.range (n - 1)).map fun k => sg (ps.getD k (0, 0)).2 (ps.getD (k + 1) (0, 0)).2
def climbP (ks vs : List Int) : List (Int × Int) := (ks.zip vs).map fun p => (p.1, -p.2)
def slideP (ks vs : List Int) : List (Int × Int) := (ks.zip vs).map fun p => (p.1, p.2)

/-- in order, pairs -/
abbrev SrtP (ps : List (Int × Int)) : Prop := ps.Pairwise fun p q => klt q p = false

theorem ints_unique {xs ys zs : List Int} (h1 : xs.Perm zs) (s1 : xs.Pairwise (· ≤ ·)) (h2 : ys.Perm zs) (s2 : ys.Pairwise (· ≤ ·)) : xs = ys :=
  List.Perm.eq_of_pairwise (le := fun a b : Int => a ≤ b) (fun _ _ _ _ h1 h2 => Int.le_antisymm h1 h2) s1 s2 (h1.trans h2.symm)
theorem prs_unique {xs ys zs : List (Int × Int)} (h1 : xs.Perm zs) (s1 : SrtP xs) (h2 : ys.Perm zs) (s2 : SrtP ys) : xs = ys :=
  List.Perm.eq_of_pairwise (le := fun p q : Int × Int => klt q p = false) (fun _ _ _ _ h1 h2 => by
    simp only [klt, decide_eq_false_iff_not] at h1 h2
    exact Prod.ext (by omega) (by omega)) s1 s2 (h1.trans h2.symm)

theorem ints_perm {zs ws : List Value} {vs : List Int} (hp : zs.Perm ws) (hi : IntsAre ws vs) : ∃ os, IntsAre zs os ∧ os.Perm vs ∧ os = zs.map fun v => (keyI v).1 := by
  refine ⟨zs.map fun v => (keyI v).1, ?_, ?_, rfl⟩
  · have : ∀ v ∈ zs, ∃ i t, v = .int i t := fun v hv => by
      obtain ⟨j, e⟩ := List.getElem?_of_mem (hp.subset hv)
      obtain ⟨_, t, rfl⟩ := intsAre_at hi e
      exact ⟨_, t, rfl⟩
    clear hp
    induction zs with
    | nil => exact .nil
    | cons v r ih =>
      obtain ⟨i, t, rfl⟩ := this v (.head _)
      exact .cons i t (ih fun v hv => this v (List.mem_cons_of_mem _ hv))
  · have e : vs = ws.map fun v => (keyI v).1 := by
      clear hp
      induction hi with
      | nil => rfl
      | cons i t r ih => rw [List.map_cons, ← ih]; rfl
    rw [e]
    exact hp.map _

theorem ints_srt {zs : List Value} (hs : Srt (ltK keyI) zs) (hz : ∀ v ∈ zs, ∃ i t, v = .int i t) : (zs.map fun v => (keyI v).1).Pairwise (· ≤ ·) := by
  rw [List.pairwise_map]
  refine List.Pairwise.imp_of_mem ?_ hs
  intro a b ha hb h
  obtain ⟨i, t, rfl⟩ := hz a ha
  obtain ⟨j, u, rfl⟩ := hz b hb
  have h' : ¬ (j < i ∨ (j = i ∧ (0 : Int) < 0)) := of_decide_eq_false h
  show i ≤ j
  omega

theorem ints_of {ys : List Value} {n : Nat} {f : Nat → Int} (hl : ys.length = n) (hF : ∀ (i : Nat) (y : Value), ys[i]? = some y → ∃ t, y = Value.int (f i) t) : IntsAre ys ((List.range n).map f) := by
  induction ys generalizing n f with
  | nil => simp at hl; subst hl; exact .nil
  | cons v r ih =>
    simp at hl; subst hl
    obtain ⟨t, rfl⟩ := hF 0 v rfl
    rw [List.range_succ_eq_map, List.map_cons, List.map_map]
    exact .cons _ t (ih (f := f ∘ Nat.succ) rfl fun i y e => hF (i + 1) y (by simpa using e))

theorem t2s_of {h : Heap} : ∀ {zs : List Value} {ps}, Prs h zs ps → T2s h zs ps
  | [], [], _ => .nil
  | [], _ :: _, x => by simp [Prs] at x
  | _ :: _, [], x => by simp [Prs] at x
  | z :: zs, p :: ps, x => by
    obtain ⟨a, rfl, y⟩ := x.2 0 z rfl
    refine .cons (by simpa using y) (t2s_of ⟨by simpa using x.1, fun i y e => ?_⟩)
    obtain ⟨a, rfl, y⟩ := x.2 (i + 1) y (by simpa using e)
    exact ⟨a, rfl, by simpa using y⟩
theorem T2s.keeps {h h' : Heap} (k : Ext h h') : ∀ {zs ps}, T2s h zs ps → T2s h' zs ps
  | _, _, .nil => .nil
  | _, _, .cons x r => .cons (x.keeps k) (r.keeps k)
theorem T2s.keys {h : Heap} : ∀ {zs ps}, T2s h zs ps → zs.map (key2 h) = ps
  | _, _, .nil => rfl
  | _, _, .cons x r => by simp [x.key, r.keys]
theorem T2s.mem {h : Heap} : ∀ {zs ps}, T2s h zs ps → ∀ v ∈ zs, ∃ a p, v = .ref a ∧ IsT2 h a p
  | _, _, .cons x r, v, hv => by
    rcases List.mem_cons.mp hv with rfl | hv
    · exact ⟨_, _, rfl, x⟩
    · exact r.mem v hv
theorem T2s.of_mem {h : Heap} : ∀ {zs : List Value}, (∀ v ∈ zs, ∃ a p, v = .ref a ∧ IsT2 h a p) → T2s h zs (zs.map (key2 h))
  | [], _ => .nil
  | v :: r, H => by
    obtain ⟨a, p, rfl, x⟩ := H v (.head _)
    have := T2s.of_mem (zs := r) fun v hv => H v (List.mem_cons_of_mem _ hv)
    rw [List.map_cons, x.key]
    exact .cons x this
theorem T2s.len {h : Heap} : ∀ {zs ps}, T2s h zs ps → zs.length = ps.length
  | _, _, .nil => rfl
  | _, _, .cons _ r => by simp [r.len]
theorem T2s.at {h : Heap} : ∀ {zs ps}, T2s h zs ps → ∀ {k : Nat}, k < zs.length → ∃ a, zs[k]? = some (.ref a) ∧ IsT2 h a (ps.getD k (0, 0))
  | _, _, .cons x r, 0, _ => ⟨_, rfl, by simpa using x⟩
  | _, _, .cons x r, k + 1, hk => by
    obtain ⟨a, e, y⟩ := r.at (k := k) (by simpa using hk)
    exact ⟨a, by simpa using e, by simpa using y⟩
theorem srt_keys {h : Heap} {zs : List Value} (hs : Srt (ltK (key2 h)) zs) : SrtP (zs.map (key2 h)) := by
  rw [SrtP, List.pairwise_map]; exact hs
end Mine
end -- PM0

section -- PA
set_option Elab.async false
set_option maxHeartbeats 2000000
namespace Mine

/-! ## sums -/
theorem sum_append (a b : List Int) : (a ++ b).sum = a.sum + b.sum := by
  induction a with
  | nil => simp
  | cons x r ih => simp only [List.cons_append, List.sum_cons, ih]; omega
theorem sumTo_range (f : Nat → Int) : ∀ n, sumTo f n = ((List.range n).map f).sum
  | 0 => rfl
  | n + 1 => by rw [List.range_succ, List.map_append, sum_append, sumTo, sumTo_range f n]; simp
theorem sum_map_add {α : Type} (f g : α → Int) (l : List α) : (l.map fun x => f x + g x).sum = (l.map f).sum + (l.map g).sum := by
  induction l with
  | nil => simp
  | cons x r ih => simp only [List.map_cons, List.sum_cons, ih]; omega
theorem sum_map_mul {α : Type} (c : Int) (f : α → Int) (l : List α) : (l.map fun x => c * f x).sum = c * (l.map f).sum := by
  induction l with
  | nil => simp
  | cons x r ih => simp only [List.map_cons, List.sum_cons, ih, Int.mul_add]
theorem sum_map_neg {α : Type} (f : α → Int) (l : List α) : (l.map fun x => -f x).sum = -(l.map f).sum := by
  induction l with
  | nil => simp
  | cons x r ih => simp only [List.map_cons, List.sum_cons, ih]; omega
theorem sum_map_const {α : Type} (c : Int) (l : List α) : (l.map fun _ => c).sum = c * l.length := by
  induction l with
  | nil => simp
  | cons x r ih => simp only [List.map_cons, List.sum_cons, ih, List.length_cons]; rw [Int.natCast_succ, Int.mul_add, Int.mul_one]; omega
theorem sum_map_congr {α : Type} {f g : α → Int} {l : List α} (h : ∀ x ∈ l, f x = g x) : (l.map f).sum = (l.map g).sum := by
  rw [List.map_congr_left h]
theorem sum_perm {a b : List Int} (h : a.Perm b) : a.sum = b.sum := by
  induction h with
  | nil => rfl
  | cons x _ ih => simp [ih]
  | swap x y l => simp only [List.sum_cons]; omega
  | trans _ _ h1 h2 => rw [h1, h2]

/-- a double sum -/
def DS {α : Type} (g : α → α → Int) (l : List α) : Int := (l.map fun p => (l.map fun q => g p q).sum).sum
theorem DS_cons {α : Type} (g : α → α → Int) (c : α) (r : List α) : DS g (c :: r) = g c c + (r.map fun q => g c q + g q c).sum + DS g r := by
  simp only [DS, List.map_cons, List.sum_cons]
  rw [sum_map_add (fun p => g p c) (fun p => (r.map fun q => g p q).sum), sum_map_add (fun q => g c q) (fun q => g q c)]
  omega
theorem DS_perm {α : Type} (g : α → α → Int) {a b : List α} (h : a.Perm b) : DS g a = DS g b := by
  unfold DS
  have h1 : (a.map fun p => (a.map fun q => g p q).sum) = a.map fun p => (b.map fun q => g p q).sum :=
    List.map_congr_left fun p _ => sum_perm (h.map _)
  rw [h1]
  exact sum_perm (h.map _)
theorem DS_add {α : Type} (f g : α → α → Int) (l : List α) : DS (fun p q => f p q + g p q) l = DS f l + DS g l := by
  unfold DS
  rw [← sum_map_add]
  exact sum_map_congr fun p _ => sum_map_add _ _ _
theorem DS_neg {α : Type} (f : α → α → Int) (l : List α) : DS (fun p q => -f p q) l = -DS f l := by
  unfold DS
  rw [← sum_map_neg]
  exact sum_map_congr fun p _ => sum_map_neg _ _
theorem DS_swap {α : Type} (f : α → α → Int) (l : List α) : DS (fun p q => f q p) l = DS f l := by
  induction l with
  | nil => rfl
  | cons c r ih =>
    rw [DS_cons, DS_cons, ih]
    have : (r.map fun q => f q c + f c q) = r.map fun q => f c q + f q c := List.map_congr_left fun q _ => Int.add_comm _ _
    rw [this]
theorem DS_congr {α : Type} {f g : α → α → Int} {l : List α} (h : ∀ p ∈ l, ∀ q ∈ l, f p q = g p q) : DS f l = DS g l := by
  unfold DS
  exact sum_map_congr fun p hp => sum_map_congr fun q hq => h p hp q hq
theorem DS_map {α β : Type} (g : β → β → Int) (f : α → β) (l : List α) : DS g (l.map f) = DS (fun p q => g (f p) (f q)) l := by
  simp only [DS, List.map_map]; rfl

/-- the sum over each two -/
def PS {α : Type} (e : α → α → Int) : List α → Int
  | [] => 0
  | c :: r => (r.map fun q => e c q).sum + PS e r
theorem DS_PS {α : Type} (g : α → α → Int) (h0 : ∀ c, g c c = 0) : ∀ l, DS g l = PS (fun p q => g p q + g q p) l
  | [] => rfl
  | c :: r => by rw [DS_cons, h0, PS, DS_PS g h0 r]; omega
theorem PS_congr {α : Type} {e e' : α → α → Int} : ∀ {l : List α}, l.Pairwise (fun p q => e p q = e' p q) → PS e l = PS e' l
  | [], _ => rfl
  | c :: r, h => by
    rw [List.pairwise_cons] at h
    simp only [PS]
    rw [sum_map_congr h.1, PS_congr h.2]
theorem sum_nonneg {l : List Int} (h : ∀ x ∈ l, 0 ≤ x) : 0 ≤ l.sum := by
  induction l with
  | nil => simp
  | cons x r ih =>
    have := ih fun y hy => h y (List.mem_cons_of_mem _ hy)
    have := h x (.head _)
    simp only [List.sum_cons]; omega
theorem sum_zero {l : List Int} (h : ∀ x ∈ l, 0 ≤ x) (e : l.sum = 0) : ∀ x ∈ l, x = 0 := by
  induction l with
  | nil => simp
  | cons x r ih =>
    have h1 := sum_nonneg fun y hy => h y (List.mem_cons_of_mem _ hy)
    have h2 := h x (.head _)
    simp only [List.sum_cons] at e
    intro y hy
    rcases List.mem_cons.mp hy with rfl | hy
    · omega
    · exact ih (fun y hy => h y (List.mem_cons_of_mem _ hy)) (by omega) y hy
theorem PS_nonneg {α : Type} {e : α → α → Int} : ∀ {l : List α}, l.Pairwise (fun p q => 0 ≤ e p q) → 0 ≤ PS e l
  | [], _ => by simp [PS]
  | c :: r, h => by
    rw [List.pairwise_cons] at h
    have h1 := PS_nonneg h.2
    have h2 : 0 ≤ (r.map fun q => e c q).sum := sum_nonneg fun x hx => by
      obtain ⟨q, hq, rfl⟩ := List.mem_map.mp hx
      exact h.1 q hq
    simp only [PS]; omega
theorem PS_zero {α : Type} {e : α → α → Int} : ∀ {l : List α}, l.Pairwise (fun p q => 0 ≤ e p q) → (PS e l = 0 ↔ l.Pairwise fun p q => e p q = 0)
  | [], _ => by simp [PS]
  | c :: r, h => by
    rw [List.pairwise_cons] at h ⊢
    have h1 := PS_nonneg h.2
    have hx : ∀ x ∈ r.map fun q => e c q, 0 ≤ x := fun x hx => by
      obtain ⟨q, hq, rfl⟩ := List.mem_map.mp hx
      exact h.1 q hq
    have h2 := sum_nonneg hx
    rw [← PS_zero h.2]
    simp only [PS]
    constructor
    · intro q
      exact ⟨fun a ha => sum_zero hx (by omega) _ (List.mem_map.mpr ⟨a, ha, rfl⟩), by omega⟩
    · rintro ⟨q1, q2⟩
      have : (r.map fun q => e c q).sum = (r.map fun _ => (0 : Int)).sum := sum_map_congr q1
      rw [this, sum_map_const, q2]; simp
end Mine
end -- PA

section -- PB
set_option Elab.async false
set_option maxHeartbeats 2000000
open PySem PySem.W PyProof.Rows PySem.Calls
namespace Mine

def pg (p q : Int × Int) : Int := if q.1 < p.1 then p.2 - q.2 else 0
def sx2 (p q : Int × Int) : Int := if q.2 < p.2 then p.2 - q.2 else 0
def s1 (x y : Int) : Int := if y < x then x - y else 0

theorem zip_range {ks vs : List Int} (h : vs.length = ks.length) : ks.zip vs = (List.range ks.length).map fun i => (ks.getD i 0, vs.getD i 0) := by
  refine List.ext_getElem (by simp [h]) fun i h1 h2 => ?_
  simp at h1 h2
  have h3 : i < vs.length := by omega
  simp [h2, h3]
theorem vs_range (vs : List Int) : vs = (List.range vs.length).map fun i => vs.getD i 0 := by
  refine List.ext_getElem (by simp) fun i h1 h2 => ?_
  simp [h1]

theorem pull_ds {ks vs : List Int} (h : vs.length = ks.length) : pullF ks vs = DS pg (ks.zip vs) := by
  rw [zip_range h, DS_map]
  unfold pullF DS
  rw [sumTo_range]
  refine sum_map_congr fun i _ => ?_
  rw [sumTo_range]
  rfl
theorem spread_ds {ks vs : List Int} (h : vs.length = ks.length) : pullF vs vs = DS sx2 (ks.zip vs) := by
  rw [zip_range h, DS_map]
  unfold pullF DS
  rw [sumTo_range, h]
  refine sum_map_congr fun i _ => ?_
  rw [sumTo_range]
  rfl
theorem spread_ds1 (vs : List Int) : pullF vs vs = DS s1 vs := by
  conv => rhs; rw [vs_range vs, DS_map]
  unfold pullF DS
  rw [sumTo_range]
  refine sum_map_congr fun i _ => ?_
  rw [sumTo_range]
  rfl

theorem spread_cons (z : Int) (r : List Int) : spreadF (z :: r) (r.length + 1) = -(r.length : Int) * z + spreadF r r.length + r.sum := by
  have hr : ((List.range r.length).map fun (k : Nat) => (2 * (k : Int) + 1 - (r.length : Int)) * r.getD k 0 + r.getD k 0).sum = spreadF r r.length + r.sum := by
    rw [sum_map_add (fun (k : Nat) => (2 * (k : Int) + 1 - (r.length : Int)) * r.getD k 0) (fun k => r.getD k 0)]
    congr 1
    conv => rhs; rw [vs_range r]
  unfold spreadF at hr ⊢
  rw [List.range_succ_eq_map, List.map_cons, List.sum_cons, List.map_map]
  have : ((List.range r.length).map ((fun (k : Nat) => (2 * (k : Int) + 1 - ((r.length + 1 : Nat) : Int)) * (z :: r).getD k 0) ∘ Nat.succ)).sum = ((List.range r.length).map fun (k : Nat) => (2 * (k : Int) + 1 - (r.length : Int)) * r.getD k 0 + r.getD k 0).sum := by
    refine sum_map_congr fun k _ => ?_
    have e1 : (z :: r).getD (Nat.succ k) 0 = r.getD k 0 := by simp
    show (2 * ((Nat.succ k : Nat) : Int) + 1 - ((r.length + 1 : Nat) : Int)) * (z :: r).getD (Nat.succ k) 0 = _
    rw [e1]
    have e2 : (2 * ((Nat.succ k : Nat) : Int) + 1 - ((r.length + 1 : Nat) : Int)) = (2 * (k : Int) + 1 - (r.length : Int)) + 1 := by
      simp only [Nat.succ_eq_add_one, Int.natCast_add, Int.natCast_one]; omega
    rw [e2, Int.add_mul, Int.one_mul]
  rw [this, hr]
  have e3 : (2 * ((0 : Nat) : Int) + 1 - ((r.length + 1 : Nat) : Int)) = -(r.length : Int) := by
    simp only [Int.natCast_add, Int.natCast_one]; omega
  have e4 : (z :: r).getD 0 0 = z := rfl
  rw [e3, e4]
  omega

theorem ds_sorted : ∀ {zs : List Int}, zs.Pairwise (· ≤ ·) → DS s1 zs = spreadF zs zs.length
  | [], _ => rfl
  | z :: r, h => by
    rw [List.pairwise_cons] at h
    rw [DS_cons, ds_sorted h.2, List.length_cons, spread_cons]
    have h0 : s1 z z = 0 := by simp [s1]
    have hq : (r.map fun q => s1 z q + s1 q z).sum = (r.map fun q => q + (-z)).sum := sum_map_congr fun q hq => by
      have := h.1 q hq
      simp only [s1]
      split <;> split <;> omega
    rw [h0, hq, sum_map_add (fun q => q) (fun _ => -z), sum_map_const, List.map_id', Int.neg_mul, Int.mul_comm z]
    rw [Int.neg_mul]
    omega

theorem spread_pull' {zs vs : List Int} (hp : zs.Perm vs) (hs : zs.Pairwise (· ≤ ·)) : spreadF zs vs.length = pullF vs vs := by
  rw [spread_ds1, ← DS_perm s1 hp, ds_sorted hs, hp.length_eq]

/-! ## the pull against the spread -/
theorem pair_adj {l : List Int} : l.Pairwise (· ≤ ·) ↔ ∀ k, k + 1 < l.length → l.getD k 0 ≤ l.getD (k + 1) 0 := by
  induction l with
  | nil => simp
  | cons x r ih =>
    rw [List.pairwise_cons, ih]
    constructor
    · rintro ⟨h1, h2⟩ k hk
      cases k with
      | zero =>
        have h3 : 0 < r.length := by simpa using hk
        have : (x :: r).getD 1 0 = r[0] := by simp [h3]
        show x ≤ (x :: r).getD 1 0
        rw [this]; exact h1 _ (List.getElem_mem h3)
      | succ k => simpa using h2 k (by simpa using hk)
    · intro h
      have h2 : ∀ k, k + 1 < r.length → r.getD k 0 ≤ r.getD (k + 1) 0 := fun k hk => by simpa using h (k + 1) (by simpa using hk)
      refine ⟨fun y hy => ?_, h2⟩
      have hs := ih.mpr h2
      obtain ⟨j, hj, rfl⟩ := List.mem_iff_getElem.mp hy
      have h0 : x ≤ r[0] := by
        have h3 : 0 < r.length := by omega
        have := h 0 (by simpa using h3)
        have e : (x :: r).getD (0 + 1) 0 = r[0] := by simp [h3]
        rw [e] at this
        exact this
      rcases Nat.eq_zero_or_pos j with rfl | hj0
      · exact h0
      · have := List.pairwise_iff_getElem.mp hs 0 j (by omega) hj hj0
        omega

theorem rise_mem {ps : List (Int × Int)} {n : Nat} (hn : ps.length = n) : ¬ (1 ∈ risesF ps n) ↔ (ps.map fun p => -p.2).Pairwise (· ≤ ·) := by
  subst hn
  rw [pair_adj]
  have gd : ∀ k, k < ps.length → (ps.map fun p => -p.2).getD k 0 = -(ps.getD k (0, 0)).2 := fun k hk => by simp [hk]
  constructor
  · intro h k hk
    rw [List.length_map] at hk
    rw [gd k (by omega), gd (k + 1) hk]
    refine Classical.byContradiction fun q => h ?_
    refine List.mem_map.mpr ⟨k, List.mem_range.mpr (by omega), ?_⟩
    have h1 : -(ps.getD (k + 1) (0, 0)).2 < -(ps.getD k (0, 0)).2 := by omega
    have h2 : ¬ (-(ps.getD k (0, 0)).2 < -(ps.getD (k + 1) (0, 0)).2) := by omega
    simp only [sg, h1, h2, decide_true, decide_false, b2i]
    decide
  · intro h hm
    obtain ⟨k, hk, e⟩ := List.mem_map.mp hm
    have hk := List.mem_range.mp hk
    have := h k (by rw [List.length_map]; omega)
    rw [gd k (by omega), gd (k + 1) (by omega)] at this
    have h1 : ¬ (-(ps.getD (k + 1) (0, 0)).2 < -(ps.getD k (0, 0)).2) := by omega
    simp only [sg, h1, decide_false] at e
    by_cases h2 : -(ps.getD k (0, 0)).2 < -(ps.getD (k + 1) (0, 0)).2
    · simp only [h2, decide_true, b2i] at e; exact absurd e (by decide)
    · simp only [h2, decide_false, b2i] at e; exact absurd e (by decide)
theorem fall_mem {ps : List (Int × Int)} {n : Nat} (hn : ps.length = n) : ¬ (-1 ∈ fallsF ps n) ↔ (ps.map fun p => -p.2).Pairwise (· ≤ ·) := by
  subst hn
  rw [pair_adj]
  have gd : ∀ k, k < ps.length → (ps.map fun p => -p.2).getD k 0 = -(ps.getD k (0, 0)).2 := fun k hk => by simp [hk]
  constructor
  · intro h k hk
    rw [List.length_map] at hk
    rw [gd k (by omega), gd (k + 1) hk]
    refine Classical.byContradiction fun q => h ?_
    refine List.mem_map.mpr ⟨k, List.mem_range.mpr (by omega), ?_⟩
    have h1 : (ps.getD k (0, 0)).2 < (ps.getD (k + 1) (0, 0)).2 := by omega
    have h2 : ¬ ((ps.getD (k + 1) (0, 0)).2 < (ps.getD k (0, 0)).2) := by omega
    simp only [sg, h1, h2, decide_true, decide_false, b2i]
    decide
  · intro h hm
    obtain ⟨k, hk, e⟩ := List.mem_map.mp hm
    have hk := List.mem_range.mp hk
    have := h k (by rw [List.length_map]; omega)
    rw [gd k (by omega), gd (k + 1) (by omega)] at this
    have h1 : ¬ ((ps.getD k (0, 0)).2 < (ps.getD (k + 1) (0, 0)).2) := by omega
    simp only [sg, h1, decide_false] at e
    by_cases h2 : (ps.getD (k + 1) (0, 0)).2 < (ps.getD k (0, 0)).2
    · simp only [h2, decide_true, b2i] at e; exact absurd e (by decide)
    · simp only [h2, decide_false, b2i] at e; exact absurd e (by decide)

theorem rise_law' {ks vs : List Int} {ps : List (Int × Int)} (R : Rows2 ks vs) (hp : ps.Perm (climbP ks vs)) (hs : SrtP ps) : (pullF ks vs = pullF vs vs) ↔ ¬ (1 ∈ risesF ps ks.length) := by
  have hl : ps.length = ks.length := by rw [hp.length_eq]; simp [climbP, R.len]
  rw [rise_mem hl]
  -- back to keys and values
  have hq : (ps.map fun p => (p.1, -p.2)).Perm (ks.zip vs) := by
    have := hp.map fun p : Int × Int => (p.1, -p.2)
    simp only [climbP, List.map_map] at this
    have e : (ks.zip vs).map ((fun p : Int × Int => (p.1, -p.2)) ∘ fun p => (p.1, -p.2)) = ks.zip vs := by
      conv => rhs; rw [← List.map_id (ks.zip vs)]
      exact List.map_congr_left fun p _ => by simp
    rwa [e] at this
  rw [pull_ds R.len, spread_ds R.len, ← DS_perm pg hq, ← DS_perm sx2 hq, DS_map, DS_map, DS_PS _ (fun c => by simp [pg]), DS_PS _ (fun c => by simp [sx2])]
  have key : PS (fun p q => (sx2 (p.1, -p.2) (q.1, -q.2) + sx2 (q.1, -q.2) (p.1, -p.2)) - (pg (p.1, -p.2) (q.1, -q.2) + pg (q.1, -q.2) (p.1, -p.2))) ps = PS (fun p q => sx2 (p.1, -p.2) (q.1, -q.2) + sx2 (q.1, -q.2) (p.1, -p.2)) ps - PS (fun p q => pg (p.1, -p.2) (q.1, -q.2) + pg (q.1, -q.2) (p.1, -p.2)) ps := by
    clear hs hp hq hl
    induction ps with
    | nil => rfl
    | cons c r ih =>
      simp only [PS, ih]
      have : (r.map fun q => (sx2 (c.1, -c.2) (q.1, -q.2) + sx2 (q.1, -q.2) (c.1, -c.2)) - (pg (c.1, -c.2) (q.1, -q.2) + pg (q.1, -q.2) (c.1, -c.2))).sum = (r.map fun q => sx2 (c.1, -c.2) (q.1, -q.2) + sx2 (q.1, -q.2) (c.1, -c.2)).sum - (r.map fun q => pg (c.1, -c.2) (q.1, -q.2) + pg (q.1, -q.2) (c.1, -c.2)).sum := by
        rw [Int.sub_eq_add_neg, ← sum_map_neg, ← sum_map_add]
        exact sum_map_congr fun q _ => Int.sub_eq_add_neg
      rw [this]; omega
  have nn : ps.Pairwise fun p q => 0 ≤ (sx2 (p.1, -p.2) (q.1, -q.2) + sx2 (q.1, -q.2) (p.1, -p.2)) - (pg (p.1, -p.2) (q.1, -q.2) + pg (q.1, -q.2) (p.1, -p.2)) := hs.imp fun {p q} h => by
    simp only [klt, decide_eq_false_iff_not] at h
    simp only [sx2, pg]
    (repeat' split) <;> omega
  have z := PS_zero nn
  rw [key] at z
  have z' : (ps.Pairwise fun p q => (sx2 (p.1, -p.2) (q.1, -q.2) + sx2 (q.1, -q.2) (p.1, -p.2)) - (pg (p.1, -p.2) (q.1, -q.2) + pg (q.1, -q.2) (p.1, -p.2)) = 0) ↔ (ps.map fun p => -p.2).Pairwise (· ≤ ·) := by
    rw [List.pairwise_map]
    constructor
    · intro h
      refine List.Pairwise.imp ?_ (List.pairwise_and_iff.mpr ⟨h, hs⟩)
      rintro p q ⟨h1, h2⟩
      simp only [klt, decide_eq_false_iff_not] at h2
      simp only [sx2, pg] at h1
      (repeat' split at h1) <;> omega
    · intro h
      refine List.Pairwise.imp ?_ (List.pairwise_and_iff.mpr ⟨h, hs⟩)
      rintro p q ⟨h1, h2⟩
      simp only [klt, decide_eq_false_iff_not] at h2
      simp only [sx2, pg]
      (repeat' split) <;> omega
  rw [← z', ← z]
  omega

theorem fall_law' {ks vs : List Int} {ps : List (Int × Int)} (R : Rows2 ks vs) (hp : ps.Perm (slideP ks vs)) (hs : SrtP ps) : (pullF ks vs = -pullF vs vs) ↔ ¬ (-1 ∈ fallsF ps ks.length) := by
  have hl : ps.length = ks.length := by rw [hp.length_eq]; simp [slideP, R.len]
  rw [fall_mem hl]
  have hq : ps.Perm (ks.zip vs) := by
    have e : slideP ks vs = ks.zip vs := by
      unfold slideP
      conv => rhs; rw [← List.map_id (ks.zip vs)]
      exact List.map_congr_left fun p _ => by simp
    rwa [e] at hp
  rw [pull_ds R.len, spread_ds R.len, ← DS_perm pg hq, ← DS_perm sx2 hq, DS_PS _ (fun c => by simp [pg]), DS_PS _ (fun c => by simp [sx2])]
  have key : PS (fun p q => (sx2 p q + sx2 q p) + (pg p q + pg q p)) ps = PS (fun p q => sx2 p q + sx2 q p) ps + PS (fun p q => pg p q + pg q p) ps := by
    clear hs hp hq hl
    induction ps with
    | nil => rfl
    | cons c r ih =>
      simp only [PS, ih]
      have : (r.map fun q => (sx2 c q + sx2 q c) + (pg c q + pg q c)).sum = (r.map fun q => sx2 c q + sx2 q c).sum + (r.map fun q => pg c q + pg q c).sum := sum_map_add _ _ _
      rw [this]; omega
  have nn : ps.Pairwise fun p q => 0 ≤ (sx2 p q + sx2 q p) + (pg p q + pg q p) := hs.imp fun {p q} h => by
    simp only [klt, decide_eq_false_iff_not] at h
    simp only [sx2, pg]
    (repeat' split) <;> omega
  have z := PS_zero nn
  rw [key] at z
  have z' : (ps.Pairwise fun p q => (sx2 p q + sx2 q p) + (pg p q + pg q p) = 0) ↔ (ps.map fun p => -p.2).Pairwise (· ≤ ·) := by
    rw [List.pairwise_map]
    constructor
    · intro h
      refine List.Pairwise.imp ?_ (List.pairwise_and_iff.mpr ⟨h, hs⟩)
      rintro p q ⟨h1, h2⟩
      simp only [klt, decide_eq_false_iff_not] at h2
      simp only [sx2, pg] at h1
      (repeat' split at h1) <;> omega
    · intro h
      refine List.Pairwise.imp ?_ (List.pairwise_and_iff.mpr ⟨h, hs⟩)
      rintro p q ⟨h1, h2⟩
      simp only [klt, decide_eq_false_iff_not] at h2
      simp only [sx2, pg]
      (repeat' split) <;> omega
  rw [← z', ← z]
  omega
end Mine
end -- PB

section -- PC
set_option Elab.async false
set_option maxHeartbeats 2000000
open PySem PySem.W PyProof.Rows PySem.Calls
namespace Mine

def tF (ks : List Int) (k : Int) : Int := (ks.map fun y => sg k y).sum

theorem sg_anti (x y : Int) : sg x y = -sg y x := by simp only [sg]; omega
theorem sg_abs (x y : Int) : (sg x y).natAbs ≤ 1 := by
  simp only [sg]
  by_cases h1 : y < x <;> by_cases h2 : x < y <;> simp [h1, h2, b2i]
theorem stand1_eq (ks : List Int) (x : Int) : stand1 ks x = (ks.length : Int) + tF ks x := by
  unfold stand1 tF
  rw [sum_map_add (fun _ => 1) (fun y => sg x y), sum_map_const]
  omega
theorem t_sum (ks : List Int) : (ks.map (tF ks)).sum = 0 := by
  have h : (ks.map (tF ks)).sum = DS sg ks := rfl
  have h1 := DS_swap sg ks
  have h2 : DS (fun p q => sg q p) ks = -DS sg ks := by
    rw [← DS_neg]
    exact DS_congr fun p _ q _ => sg_anti q p
  rw [h]; omega
theorem vt_pull {ks vs : List Int} (h : vs.length = ks.length) : ((ks.zip vs).map fun p => p.2 * tF ks p.1).sum = pullF ks vs := by
  rw [pull_ds h]
  have hk : ks = (ks.zip vs).map (·.1) := by
    rw [List.map_fst_zip (by omega)]
  have e1 : ((ks.zip vs).map fun p => p.2 * tF ks p.1).sum = DS (fun p q => p.2 * sg p.1 q.1) (ks.zip vs) := by
    unfold DS
    refine sum_map_congr fun p _ => ?_
    rw [sum_map_mul]
    congr 1
    unfold tF
    conv => lhs; rw [hk, List.map_map]
    rfl
  have e2 : DS (fun p q => p.2 * sg p.1 q.1) (ks.zip vs) = DS (fun p q : Int × Int => p.2 * b2i (decide (q.1 < p.1))) (ks.zip vs) + -DS (fun p q : Int × Int => p.2 * b2i (decide (p.1 < q.1))) (ks.zip vs) := by
    rw [← DS_neg, ← DS_add]
    exact DS_congr fun p _ q _ => by simp only [sg]; rw [Int.mul_sub]; omega
  have e3 : DS (fun p q : Int × Int => p.2 * b2i (decide (p.1 < q.1))) (ks.zip vs) = DS (fun p q : Int × Int => q.2 * b2i (decide (q.1 < p.1))) (ks.zip vs) := (DS_swap (fun p q : Int × Int => p.2 * b2i (decide (p.1 < q.1))) _).symm
  rw [e1, e2, e3, ← DS_neg, ← DS_add]
  refine DS_congr fun p _ q _ => ?_
  simp only [pg]
  by_cases hlt : q.1 < p.1
  · simp [hlt, b2i]; omega
  · simp [hlt, b2i]

theorem natAbs_sum {l : List Int} {M : Nat} (h : ∀ x ∈ l, x.natAbs ≤ M) : l.sum.natAbs ≤ l.length * M := by
  induction l with
  | nil => simp
  | cons x r ih =>
    have h1 := ih fun y hy => h y (List.mem_cons_of_mem _ hy)
    have h2 := h x (.head _)
    simp only [List.sum_cons, List.length_cons, Nat.add_mul, Nat.one_mul]
    omega
theorem natAbs_take {l : List Int} {M : Nat} (h : ∀ x ∈ l, x.natAbs ≤ M) (j : Nat) : (l.take j).sum.natAbs ≤ l.length * M :=
  Nat.le_trans (natAbs_sum fun x hx => h x (List.mem_of_mem_take hx)) (Nat.mul_le_mul (by simp; omega) (Nat.le_refl _))
theorem natAbs_sumTo {f : Nat → Int} {n M : Nat} (h : ∀ i, i < n → (f i).natAbs ≤ M) : ∀ j, j ≤ n → (sumTo f j).natAbs ≤ j * M
  | 0, _ => by simp [sumTo]
  | j + 1, hj => by
    have h1 := natAbs_sumTo h j (by omega)
    have h2 := h j (by omega)
    simp only [sumTo, Nat.add_mul, Nat.one_mul]
    omega
theorem tF_abs (ks : List Int) (k : Int) : (tF ks k).natAbs ≤ ks.length := by
  have := natAbs_sum (l := ks.map fun y => sg k y) (M := 1) fun x hx => by
    obtain ⟨y, _, rfl⟩ := List.mem_map.mp hx
    exact sg_abs _ _
  simpa [tF] using this
end Mine
end -- PC

section -- PD
set_option Elab.async false
set_option maxHeartbeats 2000000
open PySem PySem.W PyProof.Rows PySem.Calls
namespace Mine

theorem sumTo_congr {f g : Nat → Int} : ∀ {n}, (∀ i, i < n → f i = g i) → sumTo f n = sumTo g n
  | 0, _ => rfl
  | n + 1, h => by rw [sumTo, sumTo, sumTo_congr fun i hi => h i (by omega), h n (by omega)]

section
variable {ks vs : List Int} (R : Rows2 ks vs)
include R
theorem broad_at {i : Nat} (hi : i < ks.length) : (broadF ks.length vs).getD i 0 = (ks.length : Int) * ((ks.length : Int) - 1) * vs.getD i 0 := by
  have : i < vs.length := by rw [R.len]; exact hi
  simp [broadF, this]
omit R in
theorem stand_at {i : Nat} (hi : i < ks.length) : (stand ks).getD i 0 = (ks.length : Int) + tF ks (ks.getD i 0) := by
  rw [← stand1_eq]
  simp [stand, hi]
theorem v_at {i : Nat} (hi : i < ks.length) : (vs.getD i 0).natAbs ≤ 2 ^ 20 := by
  have h : i < vs.length := by rw [R.len]; exact hi
  rw [List.getD_eq_getElem?_getD, List.getElem?_eq_getElem h, Option.getD_some]
  exact Nat.le_of_lt (R.small _ (List.getElem_mem h))
theorem nn_le : ((ks.length : Int) * ((ks.length : Int) - 1)).natAbs ≤ 64 := by
  rw [Int.natAbs_mul]
  have := R.most
  exact Nat.le_trans (Nat.mul_le_mul (by omega) (by omega) : _ ≤ 8 * 8) (by decide)
theorem b_le {i : Nat} (hi : i < ks.length) : ((broadF ks.length vs).getD i 0).natAbs ≤ 2 ^ 26 := by
  rw [broad_at R hi, Int.natAbs_mul]
  exact Nat.le_trans (Nat.mul_le_mul (nn_le R) (v_at R hi)) (by decide)
omit R in
theorem s_le (h8 : ks.length ≤ 8) {i : Nat} (hi : i < ks.length) : ((stand ks).getD i 0).natAbs ≤ 16 := by
  rw [stand_at hi]
  have := tF_abs ks (ks.getD i 0)
  omega
theorem S_le : vs.sum.natAbs ≤ 2 ^ 23 := by
  have h1 := natAbs_sum (l := vs) (M := 2 ^ 20) fun x hx => Nat.le_of_lt (R.small x hx)
  have h2 := R.most
  rw [R.len] at h1
  exact Nat.le_trans h1 (Nat.le_trans (Nat.mul_le_mul h2 (Nat.le_refl _)) (by decide))
theorem mx_le : (((ks.length : Int) - 1) * vs.sum).natAbs ≤ 2 ^ 26 := by
  rw [Int.natAbs_mul]
  have := R.most
  exact Nat.le_trans (Nat.mul_le_mul (by omega) (S_le R) : _ ≤ 8 * 2 ^ 23) (by decide)
theorem pull_le : ((ks.length : Int) * pullF ks vs).natAbs ≤ 2 ^ 30 := by
  rw [← vt_pull R.len, Int.natAbs_mul]
  have h8 := R.most
  have h1 := natAbs_sum (l := (ks.zip vs).map fun p => p.2 * tF ks p.1) (M := 2 ^ 20 * 8) fun x hx => by
    obtain ⟨p, hp, rfl⟩ := List.mem_map.mp hx
    rw [Int.natAbs_mul]
    exact Nat.mul_le_mul (Nat.le_of_lt (R.small _ (List.of_mem_zip hp).2)) (Nat.le_trans (tF_abs _ _) h8)
  have h2 : ((ks.zip vs).map fun p => p.2 * tF ks p.1).length ≤ 8 := by simp; omega
  have h3 := Nat.le_trans h1 (Nat.mul_le_mul h2 (Nat.le_refl _))
  exact Nat.le_trans (Nat.mul_le_mul (by omega) h3 : _ ≤ 8 * _) (by decide)

theorem term_eq {i : Nat} (hi : i < ks.length) : ((broadF ks.length vs).getD i 0 - ((ks.length : Int) - 1) * vs.sum) * ((stand ks).getD i 0 - (ks.length : Int)) =
    ((ks.length : Int) * ((ks.length : Int) - 1)) * (vs.getD i 0 * tF ks (ks.getD i 0)) + (-(((ks.length : Int) - 1) * vs.sum)) * tF ks (ks.getD i 0) := by
  rw [broad_at R hi, stand_at hi]
  have e : (ks.length : Int) + tF ks (ks.getD i 0) - (ks.length : Int) = tF ks (ks.getD i 0) := by omega
  rw [e, Int.sub_mul, Int.mul_assoc, Int.neg_mul]
  omega
theorem term_le {i : Nat} (hi : i < ks.length) : (((broadF ks.length vs).getD i 0 - ((ks.length : Int) - 1) * vs.sum) * ((stand ks).getD i 0 - (ks.length : Int))).natAbs ≤ 2 ^ 30 := by
  have e : (stand ks).getD i 0 - (ks.length : Int) = tF ks (ks.getD i 0) := by rw [stand_at hi]; omega
  rw [e, Int.natAbs_mul]
  have h1 := b_le R hi
  have h2 := mx_le R
  have h3 : ((broadF ks.length vs).getD i 0 - ((ks.length : Int) - 1) * vs.sum).natAbs ≤ 2 ^ 27 := by omega
  exact Nat.le_trans (Nat.mul_le_mul h3 (Nat.le_trans (tF_abs _ _) R.most)) (by decide)
theorem sp_eq : sumTo (fun i => ((broadF ks.length vs).getD i 0 - ((ks.length : Int) - 1) * vs.sum) * ((stand ks).getD i 0 - (ks.length : Int))) ks.length = ((ks.length : Int) * pullF ks vs) * ((ks.length : Int) - 1) := by
  rw [sumTo_congr fun i hi => term_eq R hi, sumTo_range]
  have e : ((List.range ks.length).map fun i => ((ks.length : Int) * ((ks.length : Int) - 1)) * (vs.getD i 0 * tF ks (ks.getD i 0)) + (-(((ks.length : Int) - 1) * vs.sum)) * tF ks (ks.getD i 0)).sum =
      ((ks.zip vs).map fun p => ((ks.length : Int) * ((ks.length : Int) - 1)) * (p.2 * tF ks p.1) + (-(((ks.length : Int) - 1) * vs.sum)) * tF ks p.1).sum := by
    conv => rhs; rw [zip_range R.len, List.map_map]
    rfl
  rw [e, sum_map_add (fun p : Int × Int => ((ks.length : Int) * ((ks.length : Int) - 1)) * (p.2 * tF ks p.1)) (fun p => (-(((ks.length : Int) - 1) * vs.sum)) * tF ks p.1), sum_map_mul, sum_map_mul, vt_pull R.len]
  have z : ((ks.zip vs).map fun p => tF ks p.1).sum = 0 := by
    have := t_sum ks
    have hk : (ks.zip vs).map (·.1) = ks := List.map_fst_zip (by have := R.len; omega)
    have e2 : ((ks.zip vs).map fun p => tF ks p.1) = ((ks.zip vs).map (·.1)).map (tF ks) := by rw [List.map_map]; rfl
    rw [e2, hk]; exact this
  rw [z, Int.mul_zero, Int.add_zero, Int.mul_assoc, Int.mul_assoc, Int.mul_comm (pullF ks vs)]
theorem broad_sum : (broadF ks.length vs).sum = (((ks.length : Int) - 1) * vs.sum) * ks.length := by
  unfold broadF
  rw [sum_map_mul _ (fun y => y), List.map_id', Int.mul_comm (((ks.length : Int) - 1) * vs.sum), Int.mul_assoc]
omit R in
theorem stand_sum : (stand ks).sum = (ks.length : Int) * ks.length := by
  unfold stand
  have : ks.map (stand1 ks) = ks.map fun x => (ks.length : Int) + tF ks x := List.map_congr_left fun x _ => stand1_eq ks x
  rw [this, sum_map_add (fun _ => (ks.length : Int)) (tF ks), sum_map_const, t_sum]; omega
theorem broad_len : (broadF ks.length vs).length = ks.length := by simp [broadF, R.len]
omit R in
theorem stand_len : (stand ks).length = ks.length := by simp [stand]
theorem b_mem : ∀ x ∈ broadF ks.length vs, x.natAbs ≤ 2 ^ 26 := fun x hx => by
  obtain ⟨y, hy, rfl⟩ := List.mem_map.mp hx
  rw [Int.natAbs_mul]
  exact Nat.le_trans (Nat.mul_le_mul (nn_le R) (Nat.le_of_lt (R.small y hy))) (by decide)
omit R in
theorem s_mem (h8 : ks.length ≤ 8) : ∀ x ∈ stand ks, x.natAbs ≤ 16 := fun x hx => by
  obtain ⟨y, hy, rfl⟩ := List.mem_map.mp hx
  rw [stand1_eq]
  have := tF_abs ks y
  omega

theorem cov1 : CovIn (broadF ks.length vs) (stand ks) (((ks.length : Int) - 1) * vs.sum) ks.length ((ks.length : Int) * pullF ks vs) := by
  have hb := broad_len R
  have h8 := R.most
  have h2 := R.two
  refine ⟨by rw [hb, stand_len], by omega, by omega, by rw [hb]; exact broad_sum R, by rw [hb]; exact stand_sum, by rw [hb]; exact sp_eq R, ?_, ?_, ?_, ?_, ?_, ?_, ?_, ?_, ?_⟩
  · intro j hj; exact Nat.le_trans (b_le R (by omega)) (by decide)
  · intro j _
    refine Nat.le_trans (natAbs_take (b_mem R) j) (Nat.le_trans (Nat.mul_le_mul (by rw [hb]; exact h8) (Nat.le_refl _)) (by decide))
  · intro j hj; exact Nat.le_trans (s_le h8 (by omega)) (by decide)
  · intro j _
    refine Nat.le_trans (natAbs_take (s_mem h8) j) (Nat.le_trans (Nat.mul_le_mul (by rw [stand_len]; exact h8) (Nat.le_refl _)) (by decide))
  · intro j hj; exact Nat.le_trans (term_le R (by omega)) (by decide)
  · intro j hj
    exact Nat.le_trans (natAbs_sumTo (n := ks.length) (fun i hi => term_le R hi) j (by omega)) (Nat.le_trans (Nat.mul_le_mul (show j ≤ 8 by omega) (Nat.le_refl _)) (by decide))
  · exact Nat.le_trans (mx_le R) (by decide)
  · have : ((ks.length : Int)).natAbs ≤ 8 := by omega
    exact Nat.le_trans this (by decide)
  · exact Nat.le_trans (pull_le R) (by decide)

theorem cov2 : CovIn (stand ks) (broadF ks.length vs) ks.length (((ks.length : Int) - 1) * vs.sum) ((ks.length : Int) * pullF ks vs) := by
  have I := cov1 R
  have hb := broad_len R
  have hs := stand_len (ks := ks)
  have e : (fun i => ((stand ks).getD i 0 - (ks.length : Int)) * ((broadF ks.length vs).getD i 0 - ((ks.length : Int) - 1) * vs.sum)) = fun i => ((broadF ks.length vs).getD i 0 - ((ks.length : Int) - 1) * vs.sum) * ((stand ks).getD i 0 - (ks.length : Int)) := by
    funext i; rw [Int.mul_comm]
  refine ⟨by rw [hb, hs], by rw [hs]; exact R.two, by rw [hs]; have := R.most; omega, by rw [hs]; exact stand_sum, by rw [hs]; exact broad_sum R, ?_, ?_, ?_, ?_, ?_, ?_, ?_, I.bmy, I.bmx, I.bc⟩
  · rw [e, hs]; exact sp_eq R
  · intro j hj; exact I.bY j (by omega)
  · intro j hj; exact I.bys j (by omega)
  · intro j hj; exact I.bx j (by omega)
  · intro j hj; exact I.bxs j (by omega)
  · intro j hj; rw [Int.mul_comm]; exact I.bp j (by omega)
  · intro j hj; rw [e]; exact I.bsp j (by omega)
end
end Mine
end -- PD

section -- PM1
open PySem PySem.W PyProof.Rows PySem.Calls
set_option Elab.async false
namespace Mine
theorem spread_pull {zs vs : List Int} (hp : zs.Perm vs) (hs : zs.Pairwise (· ≤ ·)) : spreadF zs vs.length = pullF vs vs := spread_pull' hp hs
theorem rise_law {ks vs : List Int} {ps : List (Int × Int)} (R : Rows2 ks vs) (hp : ps.Perm (climbP ks vs)) (hs : SrtP ps) : (pullF ks vs = pullF vs vs) ↔ ¬ (1 ∈ risesF ps ks.length) := rise_law' R hp hs
theorem fall_law {ks vs : List Int} {ps : List (Int × Int)} (R : Rows2 ks vs) (hp : ps.Perm (slideP ks vs)) (hs : SrtP ps) : (pullF ks vs = -pullF vs vs) ↔ ¬ (-1 ∈ fallsF ps ks.length) := fall_law' R hp hs
end Mine
end -- PM1

section -- N1
open PySem PySem.W PyProof.Rows PySem.Calls
set_option Elab.async false
set_option maxRecDepth 100000
set_option maxHeartbeats 2000000
namespace Mine
open Hp Fp

/-- the body of the law's loop -/
def forBody : List Stmt → List Stmt
  | Stmt.For _ _ b _ _ :: _ => b
  | _ => []
def fbody : List Stmt := forBody ((bdy 15).drop 4)
abbrev lawEnv (L f : Addr) (cd : Value) : Env := envOfC (nm 15) (scp 15) L f cd

theorem ne_list_ns {h : Heap} {L D : Addr} {m} {vs : Array Value} (n : h.Ns L m) (l : h.IsList D vs) : D ≠ L := by
  rintro rfl
  obtain ⟨o, q, c, n', d⟩ := l
  obtain ⟨o', es, ep, q', d', _⟩ := n
  rw [q] at q'; cases q'; rw [d] at d'; cases d'

theorem IsIL.at {h h' : Heap} {a : Addr} {xs} (x : IsIL h a xs) (e : ∀ o, h.get? a = some o → h'.get? a = some o) : IsIL h' a xs := let ⟨vs, l, i⟩ := x; ⟨vs, l.at e, i⟩

section
variable {w : World} {A : Around} {E : Value → Shared → Prop} {s : Shared} {L f T : Addr} {cd : Value} {B : Heap} {m : Str → Option Value} {cc cs co : Option Value}

theorem body1 {a b : Addr} {ks vs : List Int} {tn : Tok} {Q : Flow → Shared → Prop} (H : LS L T q0 B s.heap m (some (.int ks.length tn)) co cc cs) (hh : A.handled = none) (hr : A.depth + 10 < recursionLimit) (hu : A.units < 500)
    (hv : m "values" = some (.ref b)) (kb : IsIL B b vs) (R : Rows2 ks vs)
    (K : ∀ s' B' D t, Sm s s' → Ext B B' → LS L T q0 B' s'.heap (fun y => if y = "spread" then some (.int (pullF vs vs) t) else m y) (some (.int ks.length tn)) (some (.ref D)) cc cs → wpAny (model P w) A (execs (fbody.drop 3) (lawEnv L f cd)) Q E s') :
    wpAny (model P w) A (execs fbody (lawEnv L f cd)) Q E s := by
  obtain ⟨ws, lb, ib⟩ := kb
  have hwl := ib.length
  have hlen := R.len
  have h8 := R.most
  have wsI : ∀ v ∈ ws, ∃ i t, v = Value.int i t := fun v hv => by
    obtain ⟨j, e⟩ := List.getElem?_of_mem hv
    obtain ⟨_, t, rfl⟩ := intsAre_at ib e
    exact ⟨_, t, rfl⟩
  -- off = _law_off_a_heap(values)
  refine wpAny_execs_cons (wpAny_Assign_Name (Call1 (gl (v := .ref 107) H.gf (by simp [globs]) (lx H.fx hv ⟨callee_fn (H.gf.fn (i := 13) (by simp)), ?_⟩))))
  refine off_ct (lt := ltK keyI) (S := fun v => ∃ i t, v = .int i t) (ltK_ordr _) (ltK_irr _) H.gf (cmpI _) (by omega) (by omega) hh (lb.at fun o e => H.kb _ o e) wsI (by omega) fun s₁ D zs S₁ k₁ f₁ p₁ hp₁ hs₁ => ?_
  refine scell (c := L + 2) (H.grow k₁).o fun s₂ S₂ b₂ c₂ => ?_
  have H₂ := (H.grow k₁).cellO b₂ c₂
  have nD := H.fresh f₁
  have pD : s₂.heap.PlainList D zs.toArray := p₁.at fun o e => (b₂.2 D (fun q => nD (by rw [q]; simp [mutL]))).trans e
  have H₃ := H₂.base.1
  have k₃ := H₂.base.2
  have lD : (baseW L T s₂.heap).IsList D zs.toArray := pD.isList.at fun o e => by rw [get_baseW nD]; exact e
  generalize baseW L T s₂.heap = B₂ at H₃ k₃ lD
  obtain ⟨os, iD, hpo, eo⟩ := ints_perm hp₁ ib
  have hso : os.Pairwise (· ≤ ·) := eo ▸ ints_srt hs₁ fun v hv => wsI v (hp₁.subset hv)
  have hol := hpo.length_eq
  have hzl := iD.length
  have lDs : IsIL s₂.heap D os := ⟨zs, pD.isList, iD⟩
  have lbs : IsIL B₂ b vs := ⟨ws, lb.at fun o e => k₃ _ o e, ib⟩
  have S02 := S₁.tr S₂
  clear H₂ pD b₂ c₂ hp₁ hs₁ p₁ S₁ S₂ f₁ H lb k₁
  -- spread = sum([...])
  refine wpAny_execs_cons (wpAny_Assign_Name (Call1 (bi (v := .builtin "sum") H₃.gf (by simp [bis]) (compQ [("off", L + 2), ("n", L + 1)] true (n := ks.length) (Pv := fun i v => ∃ t, v = .int i t) (fun i y => ∃ t, y = .int ((2 * (i : Int) + 1 - (ks.length : Int)) * os.getD i 0) t) hh (by omega) ?_ ?_ ?_ ?_))))
  · intro K' hK
    exact src_range H₃.gf (lcell (c := L + 1) H₃.n ⟨Sm.refl _, fun _ _ e => e, ks.length, tn, rfl, by omega, hK⟩)
  · intro C i v s' m' E' hi hv' k' n' mx
    rw [List.forIn_nil]
    exact wpAny_pure ⟨rfl, Sm.refl _, fun _ _ e => e⟩
  · rintro C i v s' m' E' hi ⟨t, rfl⟩ k' n' mx -
    have Fc := Fx.ofNs n'
    refine wpAny_BinOp (wpAny_BinOp (wpAny_BinOp (wpAny_BinOp (wpAny_Constant_int (lx Fc mx (mul_int (wpAny_Constant_int (add_int (lcell (c := L + 1) (H₃.n.keeps k') (sub_int ?_))) ) (mulOk (by decide))))))))
    refine Subscript_ (lcell (c := L + 2) (H₃.o.keeps k') (lx Fc mx (item_il (xs := os) (lDs.keeps k') (by omega) (by omega) (by omega) fun t₂ => mul_int ?_ (mulOk (by omega)))))
    have ei : (i : Int).toNat = i := by omega
    rw [ei]
    exact ⟨⟨_, rfl⟩, ⟨rfl, rfl, rfl⟩, fun _ _ e => e⟩
  · intro D₂ s₃ ys S₃ k₄ f₄ p₄ hyl hF
    rw [if_pos rfl] at hyl
    have H₄ := H₃.grow k₄
    have iy := ints_of (f := fun i => (2 * (i : Int) + 1 - (ks.length : Int)) * os.getD i 0) hyl hF
    refine ⟨trivial, sum_il hh (.of_plain p₄ iy) fun t₅ s₅ S₅ k₅ => ?_⟩
    have H₅ := H₄.grow k₅
    have espr : ((List.range ks.length).map fun (i : Nat) => (2 * (i : Int) + 1 - (ks.length : Int)) * os.getD i 0).sum = pullF vs vs := by
      have := spread_pull hpo hso
      rw [← this, hlen]; rfl
    rw [espr]
    refine lsx H₅ fun s₆ S₆ H₆ => ?_
    have lD₆ : IsIL s₆.heap D os := ⟨zs, lD.at fun o e => H₆.kb _ o e, iD⟩
    -- if sorted(off) != sorted(values) or spread != _law_pull(values, values)
    obtain ⟨zs', lD', iD'⟩ := lD₆
    obtain ⟨ws', lb', ib'⟩ := lbs
    refine wpAny_execs_cons (wpAny_If (wpAny_isTrue_BoolOp (wpAny_allTrue_Or_cons (wpAny_isTrue_Compare1 (Call1 (bi (v := .builtin "sorted") H₆.gf (by simp [bis]) (lcell (c := L + 2) H₆.o ⟨trivial, sorted_i H₆.fx lD' iD' (by omega) fun s₇ D₇ z₇ y₇ S₇ F₇ l₇ i₇ p₇ r₇ => ?_⟩)))))))
    have H₇ := H₆.ofFx F₇
    have H₇b := H₇.base.1
    refine Call1 (bi (v := .builtin "sorted") H₇.gf (by simp [bis]) (lx H₇.fx hv ⟨trivial, sorted_i H₇.fx (lb'.at fun o e => H₇.kb _ o e) ib' (by omega) fun s₈ D₈ z₈ y₈ S₈ F₈ l₈ i₈ p₈ r₈ => ?_⟩))
    have H₈ := H₇.ofFx F₈
    have nDL : D₇ ≠ L := ne_list_ns H₇.ns l₇
    have l₇' : s₈.heap.IsList D₇ z₇.toArray := l₇.at fun o e => F₈.extBut _ o nDL e
    have eq : y₇ = y₈ := ints_unique (p₇.trans hpo) r₇ p₈ r₈
    refine ne_il (xs := y₇) (ys := y₈) ⟨_, l₇', i₇⟩ ⟨_, l₈, i₈⟩ (by omega) (wpAny_truthy_bool ?_)
    rw [if_neg (by simp [eq])]
    have vI : IsIL s₈.heap b vs := ⟨ws', lb'.at fun o e => H₈.kb _ o e, ib'⟩
    refine wpAny_allTrue_Or_cons (wpAny_isTrue_Compare1 (lx H₈.fx rfl (Call2 (gl (v := .ref 114) H₈.gf (by simp [globs]) (lx H₈.fx hv (lx H₈.fx hv ⟨callee_fn (H₈.gf.fn (i := 14) (by simp)), pull_ct H₈.gf (by omega) hh vI vI rfl (by omega) fun s₉ t₉ S₉ k₉ => ?_⟩))))))
    have H₉ := H₈.grow k₉
    refine ne_int (wpAny_truthy_bool ?_)
    rw [if_neg (by simp)]
    refine wpAny_allTrue_Or_nil ?_
    rw [if_neg (by simp)]
    refine wpAny_execs_nil ?_
    exact K s₉ B₂ D _ ((((((S02.tr S₃).tr S₅).tr S₆).tr S₇).tr S₈).tr S₉) k₃ H₉
end
end Mine
end -- N1

section -- N2
open PySem PySem.W PyProof.Rows PySem.Calls
set_option Elab.async false
set_option maxRecDepth 100000
set_option maxHeartbeats 4000000
namespace Mine
open Hp Fp

inductive FlAre : List Value → List Int → Prop
  | nil : FlAre [] []
  | cons {f t c us cs} : IsI f c → FlAre us cs → FlAre (.float f t :: us) (c :: cs)
theorem FlAre.snoc {f : UInt64} {t : Tok} {c : Int} (x : IsI f c) : ∀ {us cs}, FlAre us cs → FlAre (us ++ [.float f t]) (cs ++ [c])
  | _, _, .nil => .cons x .nil
  | _, _, .cons y r => .cons y (r.snoc x)
theorem FlAre.len : ∀ {us cs}, FlAre us cs → us.length = cs.length
  | _, _, .nil => rfl
  | _, _, .cons _ r => by simp [r.len]
theorem FlAre.mem : ∀ {us cs}, FlAre us cs → ∀ u ∈ us, ∃ f t, u = Value.float f t
  | _, _, .cons _ r, u, hu => by
    rcases List.mem_cons.mp hu with rfl | hu
    · exact ⟨_, _, rfl⟩
    · exact r.mem u hu

theorem range_map {vs : List Int} {n : Nat} (g : Int → Int) (h : vs.length = n) : ((List.range n).map fun i => g (vs.getD i 0)) = vs.map g := by
  subst h
  refine List.ext_getElem (by simp) fun i h1 h2 => ?_
  simp at h1 h2
  simp [h2]

theorem Rows2.self {ks vs : List Int} (R : Rows2 ks vs) : Rows2 vs vs := ⟨rfl, R.len ▸ R.two, R.len ▸ R.most, R.small⟩

theorem LS.baseD {L T D : Addr} {B h : Heap} {m cn co cc cs} (H : LS L T q0 B h m cn co cc cs) (hD : B.get? D = none) : LS L T q0 (dropA (baseW L T h) D) h m cn co cc cs ∧ Ext B (dropA (baseW L T h) D) :=
  have k : Ext B (dropA (baseW L T h) D) := ext_dropA H.base.2 hD
  ⟨H.base.1.sub (fun _ _ e => (get_dropA e).2) (H.G.keeps k), k⟩
theorem LS.kD {L T D : Addr} {h h' : Heap} {m cn co cc cs} (H : LS L T q0 (dropA (baseW L T h) D) h' m cn co cc cs) : KpB (D :: mutL L T) h h' := fun b o n e => H.kb b o (by
  simp only [List.mem_cons, not_or] at n
  rw [get_dropA_ne _ n.1, get_baseW n.2]; exact e)

section
variable {w : World} {A : Around} {E : Value → Shared → Prop} {s : Shared} {L f T : Addr} {cd : Value} {B : Heap} {m : Str → Option Value} {cc cs co : Option Value}

/-- one turn of the loop over the rankings -/
theorem turnR {n : Nat} {tn : Tok} {xs vs : List Int} {Dt Db Dr : Addr} {us : List Value} {cls : List Int} (H : LS L T q0 B s.heap m (some (.int n tn)) co cc cs) (hh : A.handled = none) (hr : A.depth + 10 < recursionLimit)
    (R : Rows2 xs vs) (hn : xs.length = n) (m1 : m "told" = some (.ref Dt)) (m2 : m "broad" = some (.ref Db)) (m3 : m "ranks" = some (.ref Dr))
    (hDt : B.get? Dt = none) (nDt : Dt ∉ mutL L T) (pt : s.heap.PlainList Dt us.toArray) (hf : FlAre us cls) (hl : us.length < 900) (ib : IsIL B Db (broadF n vs)) (ir : IsIL B Dr (stand xs))
    {Q : Flow → Shared → Prop} (K : ∀ s' us', Sg s s' → LS L T q0 B s'.heap m (some (.int n tn)) co cc cs → s'.heap.PlainList Dt us'.toArray → FlAre us' (cls ++ [(n : Int) * pullF xs vs, (n : Int) * pullF xs vs]) → Q .next s') :
    wpAny (model P w) A (execs (forBody (fbody.drop 6)) (lawEnv L f cd)) Q E s := by
  have I1 := cov1 R
  have I2 := cov2 R
  rw [hn] at I1 I2
  obtain ⟨vb, lb, iib⟩ := ib
  obtain ⟨vr, lr, iir⟩ := ir
  have h8 := R.most
  have hvl : vb.length = n := by rw [iib.length]; simp only [broadF, List.length_map]; rw [R.len]; exact hn
  have hrl : vr.length = n := by rw [iir.length]; simp only [stand, List.length_map]; exact hn
  have hTB : B.get? T = none := H.off T (by simp [mutL])
  have ntT : ∀ {D : Addr} {vs : Array Value}, B.IsList D vs → D ≠ T := fun {D vs} ⟨o, e, _⟩ => by rintro rfl; rw [hTB] at e; cases e
  have nTt : Dt ≠ T := fun q => nDt (by rw [q]; simp [mutL])
  have kt : ∀ {h h' : Heap}, KpB [T] h h' → h.PlainList Dt us.toArray → h'.PlainList Dt us.toArray := fun k p => p.at fun o e => k _ o (by simpa using nTt) e
  have hw : ∀ b ∈ [Dt], B.get? b = none := by simpa using hDt
  have hw2 : ∀ b ∈ [Dt], b ∉ mutL L T := by simpa using nDt
  obtain ⟨ps, CT⟩ := H.ct
  refine wpAny_execs_cons (wpAny_Expr (appendM (lx H.fx m1 ⟨Dt, us.toArray, rfl, pt, Call2 (gl (v := .ref 62) H.gf (by simp [globs]) (lx H.fx m2 (lx H.fx m3 ⟨callee_fn (H.gf.fn (i := 3) (by simp)), ?_⟩)))⟩)))
  refine cov_ct H.G H.kb hTB CT (by omega) hh (.inl (lb.at fun o e => H.kb _ o e)) iib (ntT lb) (.inl (lr.at fun o e => H.kb _ o e)) iir (ntT lr) I1 fun s₁ f₁ t₁ more₁ S₁ k₁ C₁ i₁ => ?_
  have H₁ := H.tab k₁ C₁
  refine ⟨us, kt k₁ pt, by omega, fun s₂ S₂ b₂ p₂ => ?_⟩
  have H₂ := H₁.kp (wr := [Dt]) (fun b o n e => (b₂.2 b (by simpa using n)).trans e) hw hw2
  have hf₂ := hf.snoc (t := t₁) i₁
  -- the tuples
  refine wpAny_execs_cons (wpAny_Expr (appendM (lx H₂.fx m1 ⟨Dt, (us ++ [Value.float f₁ t₁]).toArray, rfl, p₂, Call2 (gl (v := .ref 62) H₂.gf (by simp [globs]) (Call1 (bi (v := .type "tuple") H₂.gf (by simp [bis]) (lx H₂.fx m3 ⟨trivial, tuple_l (lr.at fun o e => H₂.kb _ o e) (by omega) fun s₃ D₃ S₃ k₃ f₃ l₃ => ?_⟩))))⟩)))
  have H₃ := H₂.grow k₃
  refine Call1 (bi (v := .type "tuple") H₃.gf (by simp [bis]) (lx H₃.fx m2 ⟨trivial, tuple_l (lb.at fun o e => H₃.kb _ o e) (by omega) fun s₄ D₄ S₄ k₄ f₄ l₄ => ⟨callee_fn ((H₃.grow k₄).gf.fn (i := 3) (by simp)), ?_⟩⟩))
  have H₄ := H₃.grow k₄
  obtain ⟨ps', CT'⟩ := H₄.ct
  have n3 : D₃ ≠ T := fun q => H₂.fresh f₃ (by rw [q]; simp [mutL])
  have n4 : D₄ ≠ T := fun q => H₃.fresh f₄ (by rw [q]; simp [mutL])
  refine cov_ct H₄.G H₄.kb hTB CT' (by omega) hh (.inr (l₃.at fun o e => k₄ _ o e)) iir n3 (.inr l₄) iib n4 I2 fun s₅ f₅ t₅ more₅ S₅ k₅ C₅ i₅ => ?_
  have H₅ := H₄.tab k₅ C₅
  refine ⟨us ++ [Value.float f₁ t₁], (p₂.at fun o e => k₅ _ o (by simpa using nTt) (k₄ _ _ (k₃ _ _ e))), by simp; omega, fun s₆ S₆ b₆ p₆ => ?_⟩
  have H₆ := H₅.kp (wr := [Dt]) (fun b o n e => (b₆.2 b (by simpa using n)).trans e) hw hw2
  have hf₆ := hf₂.snoc (t := t₅) i₅
  refine wpAny_execs_nil (K s₆ _ (((((S₁.tr S₂.sg).tr S₃.sg).tr S₄.sg).tr S₅).tr S₆.sg) H₆ p₆ ?_)
  simpa using hf₆
end
end Mine
end -- N2

section -- N3
open PySem PySem.W PyProof.Rows PySem.Calls
set_option Elab.async false
set_option maxRecDepth 100000
set_option maxHeartbeats 4000000
namespace Mine
open Hp Fp

section
variable {w : World} {A : Around} {E : Value → Shared → Prop} {s : Shared} {L f T : Addr} {cd : Value} {B : Heap} {m : Str → Option Value} {cc cs co : Option Value}

/-- a single test of a comprehension that fails -/
theorem if1 {e : Expr} {env : Env} {Q : Bool → Shared → Prop} (h : wpAny (model P w) A (isTrue e env (eval e env)) Q E s) :
    wpAny (model P w) A (forIn [e] true fun c r => if r = true then do let ok ← isTrue c env (eval c env); pure (ForInStep.yield ok) else pure (ForInStep.yield r)) Q E s := by
  rw [List.forIn_cons]
  simp only [if_true]
  refine wpAny_bind (wpAny_bind (wpAny_mono h (fun ok s₁ h₁ => wpAny_pure ?_) fun _ _ x => x))
  simp only [List.forIn_nil]
  exact wpAny_pure h₁

def cof (n : Nat) (vs xs : List Int) : Int := (n : Int) * pullF xs vs

theorem body2 {a b : Addr} {ks vs : List Int} {tn ts : Tok} {Q : Flow → Shared → Prop} (H : LS L T q0 B s.heap m (some (.int ks.length tn)) co cc cs) (hh : A.handled = none) (hr : A.depth + 10 < recursionLimit) (hu : A.units < 500)
    (hk : m "keys" = some (.ref a)) (hv : m "values" = some (.ref b)) (hs : m "spread" = some (.int (pullF vs vs) ts)) (ka : IsIL B a ks) (kb : IsIL B b vs) (R : Rows2 ks vs)
    (K : ∀ s' m' t, Sg s s' → LS L T q0 B s'.heap m' (some (.int ks.length tn)) co cc cs → m' "keys" = some (.ref a) → m' "values" = some (.ref b) → m' "spread" = some (.int (pullF vs vs) ts) → m' "pull" = some (.int (pullF ks vs) t) →
      wpAny (model P w) A (execs (fbody.drop 8) (lawEnv L f cd)) Q E s') :
    wpAny (model P w) A (execs (fbody.drop 3) (lawEnv L f cd)) Q E s := by
  obtain ⟨wk, lk, ik⟩ := id ka
  obtain ⟨wv, lv, iv⟩ := id kb
  have hkl := ik.length
  have hvl := iv.length
  have hlen := R.len
  have h8 := R.most
  have h2 := R.two
  -- broad = [n * (n - 1) * y for y in values]
  refine wpAny_execs_cons (compU [("n", L + 1)] true (n := wv.length) (Pv := fun i v => wv[i]? = some v) (fun i y => ∃ t, y = .int (((ks.length : Int) * ((ks.length : Int) - 1)) * vs.getD i 0) t) H.fx hh (by omega) ?_ ?_ ?_ ?_)
  · intro K' hK
    exact lx H.fx hv (src_list (Sm.refl _) (fun _ _ e => e) (lv.at fun o e => H.kb _ o e) hK)
  · intro C i v s' m' E' hi hv' k' n' mx
    rw [List.forIn_nil]
    exact wpAny_pure ⟨rfl, Sm.refl _, fun _ _ e => e⟩
  · rintro C i v s' m' E' hi hv' k' n' mx -
    have Fc := Fx.ofNs n'
    obtain ⟨hi', t, rfl⟩ := intsAre_at iv hv'
    refine wpAny_BinOp (wpAny_BinOp (lcell (c := L + 1) (H.n.keeps k') (wpAny_BinOp (lcell (c := L + 1) (H.n.keeps k') (wpAny_Constant_int (sub_int (mul_int (lx Fc mx (mul_int ?_ (mulOk ?_))) (mulOk (by omega)))))))))
    · exact ⟨⟨_, rfl⟩, ⟨rfl, rfl, rfl⟩, fun _ _ e => e⟩
    · have e1 : ((ks.length : Int) * ((ks.length : Int) - 1)).natAbs ≤ 8 * 8 := by
        rw [Int.natAbs_mul]
        exact Nat.mul_le_mul (by omega) (by omega)
      omega
  intro Db s₁ ys S₁ F₁ f₁ p₁ hyl hF
  rw [if_pos rfl] at hyl
  have iy : IntsAre ys (broadF ks.length vs) := by
    have := ints_of (f := fun i => ((ks.length : Int) * ((ks.length : Int) - 1)) * vs.getD i 0) hyl hF
    rw [range_map (fun y => ((ks.length : Int) * ((ks.length : Int) - 1)) * y) (by omega)] at this
    exact this
  have H₁ := H.ofFx F₁
  have nDb := H.fresh f₁
  have Hb := H₁.base.1
  have kB₁ := H₁.base.2
  have ib : IsIL (baseW L T s₁.heap) Db (broadF ks.length vs) := ⟨ys, p₁.isList.at fun o e => by rw [get_baseW nDb]; exact e, iy⟩
  generalize baseW L T s₁.heap = B₁ at Hb kB₁ ib
  have ka₁ := ka.keeps kB₁
  have kb₁ := kb.keeps kB₁
  -- pull = _law_pull(keys, values)
  refine wpAny_execs_cons (wpAny_Assign_Name (Call2 (gl (v := .ref 114) Hb.gf (by simp [globs]) (lx Hb.fx hk (lx Hb.fx hv ⟨callee_fn (Hb.gf.fn (i := 14) (by simp)), pull_ct Hb.gf (by omega) hh (ka₁.keeps Hb.kb) (kb₁.keeps Hb.kb) hlen (by omega) fun s₂ t₂ S₂ k₂ => ?_⟩)))))
  refine lsx (Hb.grow k₂) fun s₃ S₃ H₃ => ?_
  replace H₃ : LS L T q0 B₁ s₃.heap _ _ _ _ _ := H₃
  -- told = []
  refine wpAny_execs_cons (wpAny_Assign_Name (Lst0 fun s₄ Dt S₄ k₄ f₄ p₄ => ?_))
  have H₄ := H₃.grow k₄
  have nDt := H₃.fresh f₄
  have hDt₁ : B₁.get? Dt = none := none_of_ext H₃.kb f₄
  refine sx H₄.fx.rebase fun s₅ S₅ F₅ => ?_
  have H₅ := H₄.ofFx F₅
  have nDL : Dt ≠ L := fun q => nDt (by rw [q]; simp [mutL])
  have p₅ : s₅.heap.PlainList Dt ([] : List Value).toArray := p₄.at fun o e => F₅.extBut _ o nDL e
  -- for ranks in (_law_standings(keys), _law_standings(values))
  refine wpAny_execs_cons (wpAny_For (Tup2 (Call1 (gl (v := .ref 102) H₅.gf (by simp [globs]) (lx H₅.fx hk ⟨callee_fn (H₅.gf.fn (i := 12) (by simp)), standings_ct H₅.gf (by omega) hh (ka₁.keeps H₅.kb) (by omega) fun s₆ D₁ v₁ S₆ k₆ f₆ p₆ i₆ => ?_⟩)))))
  have H₆ := H₅.grow k₆
  refine Call1 (gl (v := .ref 102) H₆.gf (by simp [globs]) (lx H₆.fx hv ⟨callee_fn (H₆.gf.fn (i := 12) (by simp)), standings_ct H₆.gf (by omega) hh (kb₁.keeps H₆.kb) (by omega) fun s₇ D₂ v₂ S₇ k₇ f₇ p₇ i₇ => ?_⟩))
  intro s₈ Tt S₈ k₈ f₈ e₈
  have lT : s₈.heap.IsTuple Tt [Value.ref D₁, .ref D₂].toArray := ⟨_, e₈, rfl, 0, rfl⟩
  refine iter_t lT fun I s₉ S₉ k₉ f₉ n₉ i₉ => ?_
  have H₉ := (((H₆.grow k₇).grow k₈).grow k₉)
  have lT₉ : s₉.heap.IsTuple Tt [Value.ref D₁, .ref D₂].toArray := lT.at fun o e => k₉ _ o e
  have nI := ((H₆.grow k₇).grow k₈).fresh f₉
  have nT := (H₆.grow k₇).fresh f₈
  have n1 := H₅.fresh f₆
  have n2 := H₆.fresh f₇
  have ex5 : ∃ o, s₅.heap.get? Dt = some o := let ⟨c, e⟩ := p₅; ⟨_, e⟩
  have nDI : Dt ≠ I := by
    rintro rfl; obtain ⟨o, e⟩ := ex5; rw [k₈ _ _ (k₇ _ _ (k₆ _ _ e))] at f₉; cases f₉
  have nDT : Dt ≠ Tt := by
    rintro rfl; obtain ⟨o, e⟩ := ex5; rw [k₇ _ _ (k₆ _ _ e)] at f₈; cases f₈
  have nD1 : Dt ≠ D₁ := by
    rintro rfl; obtain ⟨o, e⟩ := ex5; rw [e] at f₆; cases f₆
  have nD2 : Dt ≠ D₂ := by
    rintro rfl; obtain ⟨o, e⟩ := ex5; rw [k₆ _ _ e] at f₇; cases f₇
  have n1I : D₁ ≠ I := by
    rintro rfl; obtain ⟨c, e⟩ := p₆; rw [k₈ _ _ (k₇ _ _ e)] at f₉; cases f₉
  have n2I : D₂ ≠ I := by
    rintro rfl; obtain ⟨c, e⟩ := p₇; rw [k₈ _ _ e] at f₉; cases f₉
  have hDtI : (dropA B₁ I).get? Dt = none := dropA_none hDt₁
  have hI₁ : B₁.get? I = none := none_of_ext ((H₆.grow k₇).grow k₈).kb f₉
  have HD := H₉.baseD (D := Dt) hDt₁
  have hI₂ : (dropA (dropA (baseW L T s₉.heap) Dt) I).get? I = none := get_dropA_self _ _
  have hD₂ : (dropA (dropA (baseW L T s₉.heap) Dt) I).get? Dt = none := dropA_none (get_dropA_self _ _)
  have kB₂ : Ext B₁ (dropA (dropA (baseW L T s₉.heap) Dt) I) := ext_dropA HD.2 hI₁
  have HL : LS L T q0 (dropA (dropA (baseW L T s₉.heap) Dt) I) s₉.heap _ _ _ _ _ := HD.1.sub (fun _ _ e => (get_dropA e).2) (Hb.G.keeps kB₂)
  have g₂ : ∀ {D : Addr} {o}, D ∉ mutL L T → D ≠ Dt → D ≠ I → s₉.heap.get? D = some o → (dropA (dropA (baseW L T s₉.heap) Dt) I).get? D = some o := fun a b c e => by
    rw [get_dropA_ne _ c, get_dropA_ne _ b, get_baseW a]; exact e
  have ir1 : IsIL (dropA (dropA (baseW L T s₉.heap) Dt) I) D₁ (stand ks) := ⟨v₁, p₆.isList.at fun o e => g₂ n1 (Ne.symm nD1) n1I (k₉ _ _ (k₈ _ _ (k₇ _ _ e))), i₆⟩
  have ir2 : IsIL (dropA (dropA (baseW L T s₉.heap) Dt) I) D₂ (stand vs) := ⟨v₂, p₇.isList.at fun o e => g₂ n2 (Ne.symm nD2) n2I (k₉ _ _ (k₈ _ _ e)), i₇⟩
  have ib₂ := ib.keeps kB₂
  have ka₂ := ka₁.keeps kB₂
  have kb₂ := kb₁.keeps kB₂
  have p₉ : s₉.heap.PlainList Dt ([] : List Value).toArray := p₅.at fun o e => k₉ _ _ (k₈ _ _ (k₇ _ _ (k₆ _ _ e)))
  have S09 : Sm s s₉ := ((((((((S₁.tr S₂).tr S₃).tr S₄).tr S₅).tr S₆).tr S₇).tr S₈).tr S₉)
  have kB₃ := kB₁.trans kB₂
  generalize dropA (dropA (baseW L T s₉.heap) Dt) I = B₂ at HL hI₂ hD₂ kB₂ kB₃ ir1 ir2 ib₂ ka₂ kb₂
  clear HD g₂ H₉ H₆ H₅ H₄ H₃ Hb H₁
  let cl : Nat → List Int := fun i => match i with | 0 => [] | 1 => [cof ks.length vs ks, cof ks.length vs ks] | _ => [cof ks.length vs ks, cof ks.length vs ks, cof ks.length vs vs, cof ks.length vs vs]
  refine forWalkG (Walks.tuple (prog := P) (w := w) (A := A) hh I Tt n₉ [Value.ref D₁, .ref D₂].toArray) (fun i h => ∃ m' us, LS L T q0 B₂ h m' (some (.int ks.length tn)) co cc cs ∧ m' "keys" = some (.ref a) ∧ m' "values" = some (.ref b) ∧ m' "spread" = some (.int (pullF vs vs) ts) ∧
    m' "pull" = some (.int (pullF ks vs) t₂) ∧ m' "told" = some (.ref Dt) ∧ m' "broad" = some (.ref Db) ∧ h.PlainList Dt us.toArray ∧ FlAre us (cl i)) ?_ ?_ ⟨i₉, lT₉⟩ ?_ ?_
  · rintro i h h' ⟨m', us, H', a1, a2, a3, a4, a5, a6, a7, a8⟩ k
    exact ⟨m', us, H'.kp k (by simpa using hI₂) (by simpa using nI), a1, a2, a3, a4, a5, a6, a7.at fun o e => k _ o (by simpa using nDI) e, a8⟩
  · exact ⟨_, [], HL, hk, hv, hs, rfl, rfl, rfl, p₉, .nil⟩
  · rintro i v s' hi hPv ⟨m', us, H', a1, a2, a3, a4, a5, a6, a7, a8⟩ hSt Sg'
    refine lot_name (wpAny_assign_Name (sx H'.fx.rebase fun s₁' S₁' F₁' => ?_))
    have H₁' := H'.ofFx F₁'
    have a7' : s₁'.heap.PlainList Dt us.toArray := a7.at fun o e => F₁'.extBut _ o nDL e
    have HB := H₁'.baseD (D := Dt) hD₂
    have hi2 : i < 2 := hi
    have step : ∀ (xs : List Int) (Dr : Addr), v = .ref Dr → Rows2 xs vs → xs.length = ks.length → IsIL B₂ Dr (stand xs) → cl (i + 1) = cl i ++ [cof ks.length vs xs, cof ks.length vs xs] → _ := fun xs Dr ev R' hn' ir' ec =>
      turnR (w := w) (A := A) (E := fun _ _ => False) (f := f) (cd := cd) (Q := fun f s₃ => Sg s₉ s₃ ∧ f = .next ∧ (∃ m' us, LS L T q0 B₂ s₃.heap m' (some (.int ks.length tn)) co cc cs ∧ m' "keys" = some (.ref a) ∧ m' "values" = some (.ref b) ∧ m' "spread" = some (.int (pullF vs vs) ts) ∧
          m' "pull" = some (.int (pullF ks vs) t₂) ∧ m' "told" = some (.ref Dt) ∧ m' "broad" = some (.ref Db) ∧ s₃.heap.PlainList Dt us.toArray ∧ FlAre us (cl (i + 1))) ∧ (∀ b ∈ [I, Tt], ∀ o, s'.heap.get? b = some o → s₃.heap.get? b = some o)) HB.1 hh hr R' hn' (show (fun y => if y = _ then _ else m' y) _ = _ from a5) a6 (by show some v = _; rw [ev]) (get_dropA_self _ _) nDt a7' a8 (by
          have := a8.len
          have : (cl i).length ≤ 4 := by
            show List.length (match i with | 0 => [] | 1 => _ | _ => _) ≤ 4
            split <;> simp
          omega) (ib₂.keeps HB.2) (ir'.keeps HB.2) fun s'' us' Sg'' H'' p'' fl'' => by
        refine ⟨(Sg'.tr S₁'.sg).tr Sg'', rfl, ⟨_, us', H''.sub HB.2 H'.G, a1, a2, a3, a4, a5, a6, p'', ?_⟩, ?_⟩
        · rw [ec]; exact fl''
        · intro c hc o e
          have hc' : c = I ∨ c = Tt := by simpa using hc
          have c1 : c ∉ mutL L T := hc'.elim (fun q => q ▸ nI) fun q => q ▸ nT
          have c2 : c ≠ Dt := hc'.elim (fun q => q ▸ Ne.symm nDI) fun q => q ▸ Ne.symm nDT
          have c3 : c ≠ L := fun q => c1 (by rw [q]; simp [mutL])
          exact H''.kD c o (by simp [c1, c2]) (F₁'.extBut c o c3 e)
    match i, hi2, hPv, step with
    | 0, _, hPv, step => exact step ks D₁ (by simpa using hPv.symm) R rfl ir1 rfl
    | 1, _, hPv, step => exact step vs D₂ (by simpa using hPv.symm) R.self hlen ir2 rfl
  rintro s' Sg' ⟨m', us, H', a1, a2, a3, a4, a5, a6, a7, a8⟩
  replace a8 : FlAre us [cof ks.length vs ks, cof ks.length vs ks, cof ks.length vs vs, cof ks.length vs vs] := a8
  have hmem := a8.mem
  have hul : us.length = 4 := a8.len
  -- if told != [...]
  refine wpAny_execs_cons (wpAny_If (wpAny_isTrue_BoolOp (wpAny_allTrue_Or_cons (wpAny_isTrue_Compare1 (lx H'.fx a5 (Lst4 (wpAny_BinOp (lcell (c := L + 1) H'.n (lx H'.fx a4 (mul_int ?_ (mulOk (by omega))))))))))))
  refine wpAny_BinOp (lcell (c := L + 1) H'.n (lx H'.fx a4 (mul_int ?_ (mulOk (by omega)))))
  refine wpAny_BinOp (lcell (c := L + 1) H'.n (lx H'.fx a3 (mul_int ?_ (mulOk (by omega)))))
  refine wpAny_BinOp (lcell (c := L + 1) H'.n (lx H'.fx a3 (mul_int ?_ (mulOk (by omega)))))
  intro r₁ D₃ R₁ j₁ g₁ q₁
  have H₁ : LS L T q0 B₂ r₁.heap m' _ _ _ _ := H'.grow j₁
  have pt : r₁.heap.PlainList Dt us.toArray := a7.at fun o e => j₁ _ o e
  rcases a8 with _ | ⟨e1, a8⟩
  rcases a8 with _ | ⟨e2, a8⟩
  rcases a8 with _ | ⟨e3, a8⟩
  rcases a8 with _ | ⟨e4, a8⟩
  rcases a8 with _ | _
  refine ne_told pt.isList q₁.isList (by omega) e1 e2 e3 e4 (wpAny_truthy_bool ?_)
  rw [if_neg (by simp)]
  -- or [c for c in told if not isinstance(c, float)] != []
  refine wpAny_allTrue_Or_cons (wpAny_isTrue_Compare1 (compQ [] false (n := 4) (Pv := fun i v => ∃ f t, v = Value.float f t) (fun _ _ => True) hh (by omega) ?_ ?_ ?_ ?_))
  · intro K' hK
    refine lx H₁.fx a5 (src_list (Sm.refl _) (fun _ _ e => e) pt.isList fun it s₂ hs => hK it s₂ ?_)
    obtain ⟨I', fp, St, c1, c2, c3, c4, W, c6⟩ := hs
    refine ⟨I', fp, St, c1, c2, c3, c4, fun A' hA => ?_, c6⟩
    have W := W A' hA
    exact ⟨W.sub, W.frame, fun i s Q E hi st hQ => W.item i s Q E hi st fun v h' tk hv => hQ v h' tk (hmem v (List.mem_of_getElem? hv)), W.done, W.self⟩
  · rintro C i v s₅ m₅ E' hi ⟨f₅, t₅, rfl⟩ k₅ n₅ mx
    have G₅ : GF s₅.heap := H₁.gf.keeps k₅
    refine if1 (wpAny_isTrue_Not (wpAny_isTrue_value (Call2 (bi (v := .builtin "isinstance") G₅ (by simp [bis]) (lx (Fx.ofNs n₅) mx (bi (v := .type "float") G₅ (by simp [bis]) ⟨trivial, IsiPair.float_float (wpAny_truthy_bool ⟨rfl, Sm.refl _, fun _ _ e => e⟩)⟩))))))
  · intro C i v s₅ m₅ E' hi hv' k₅ n₅ mx hp
    cases hp
  intro D₅ s₅ ys₅ S₅ k₅ f₅ p₅ hl₅ _
  have hl0 : ys₅ = [] := List.length_eq_zero_iff.mp (by simpa using hl₅)
  subst hl0
  refine Lst0 fun s₆ D₆ S₆ k₆ f₆ p₆ => ?_
  refine ne_il (xs := []) (ys := []) ⟨[], (p₅.at fun o e => k₆ _ o e).isList, .nil⟩ ⟨[], p₆.isList, .nil⟩ (by omega) (wpAny_truthy_bool ?_)
  rw [if_neg (by simp)]
  refine wpAny_allTrue_Or_nil ?_
  rw [if_neg (by simp)]
  refine wpAny_execs_nil ?_
  have H₆ := (H₁.grow k₅).grow k₆
  exact K s₆ m' t₂ ((((S09.sg.tr Sg').tr (R₁.sg)).tr S₅.sg).tr S₆.sg) (H₆.sub kB₃ H.G) a1 a2 a3 a4
end
end Mine
end -- N3

section -- N4
open PySem PySem.W PyProof.Rows PySem.Calls
set_option Elab.async false
set_option maxRecDepth 100000
set_option maxHeartbeats 4000000
namespace Mine
open Hp Fp

theorem T2s.move {h h' : Heap} : ∀ {zs ps}, T2s h zs ps → (∀ a, Value.ref a ∈ zs → ∀ o, h.get? a = some o → h'.get? a = some o) → T2s h' zs ps
  | _, _, .nil, _ => .nil
  | _, _, .cons (a := a) ⟨o, n, t, u, e, r⟩ q, k => .cons ⟨o, n, t, u, k a (.head _) o e, r⟩ (q.move fun b hb => k b (List.mem_cons_of_mem _ hb))

theorem zipf_len {ks vs : List Int} {g : Int × Int → Int × Int} (h : vs.length = ks.length) : ((ks.zip vs).map g).length = ks.length := by simp [h]

section
variable {w : World} {A : Around} {E : Value → Shared → Prop} {s : Shared} {L f T : Addr} {cd : Value} {B : Heap} {m : Str → Option Value} {cc cs co cn : Option Value}

/-- the pairs of a display, off a heap -/
theorem off_prs {l : Addr} {zs : List Value} {ps : List (Int × Int)} {Q : Value → Shared → Prop} (G : GF s.heap) (hh : A.handled = none) (hr : A.depth + 10 < recursionLimit) (hu : A.units < 500) (hl : s.heap.PlainList l zs.toArray) (ht : T2s s.heap zs ps) (hz : ps.length ≤ 8)
    (h : ∀ s' D zs' qs, Sm s s' → Ext s.heap s'.heap → s.heap.get? D = none → s'.heap.PlainList D zs'.toArray → T2s s'.heap zs' qs → qs.Perm ps → SrtP qs → (∀ a, Value.ref a ∈ zs' → Value.ref a ∈ zs) → Q (.ref D) s') :
    wpAny (model P w) A (call (.ref 107) [.ref l]) Q E s := by
  have hlen := ht.len
  refine off_ct (lt := ltK (key2 s.heap)) (S := fun v => ∃ a p, v = .ref a ∧ IsT2 s.heap a p) (ltK_ordr _) (ltK_irr _) G (cmpT s.heap) (by omega) (by omega) hh hl.isList ht.mem (by omega) fun s₁ D zs' S₁ k₁ f₁ p₁ hp₁ hs₁ => ?_
  have t' := T2s.of_mem (h := s.heap) (zs := zs') fun v hv => ht.mem v (hp₁.subset hv)
  refine h s₁ D zs' _ S₁ k₁ f₁ p₁ (t'.keeps k₁) ?_ (srt_keys hs₁) fun a ha => hp₁.subset ha
  have := hp₁.map (key2 s.heap)
  rwa [ht.keys] at this

theorem sort_prs {l : Addr} {zs : List Value} {ps : List (Int × Int)} {Q : Value → Shared → Prop} (F : Fx B L s.heap m) (hl : s.heap.PlainList l zs.toArray) (ht : T2s s.heap zs ps) (h2 : 2 ≤ ps.length) (hz : ps.length ≤ 8)
    (h : ∀ s' D zs' qs, Sm s s' → Fx (dropA s.heap L) L s'.heap m → s'.heap.IsList D zs'.toArray → T2s s'.heap zs' qs → qs.Perm ps → SrtP qs → Q (.ref D) s') :
    wpAny (model P w) A (call (.builtin "sorted") [.ref l]) Q E s := by
  have hlen := ht.len
  refine sorted_t F hl.isList ht.mem (by omega) (by omega) fun s₁ D zs' S₁ F₁ f₁ n₁ p₁ hp₁ hs₁ => ?_
  have t' := T2s.of_mem (h := s.heap) (zs := zs') fun v hv => ht.mem v (hp₁.subset hv)
  have neL : ∀ {a p}, IsT2 s.heap a p → a ≠ L := by
    rintro a p ⟨o, n, t, u, e, _, d⟩ rfl
    obtain ⟨o', es, ep, e', d', _⟩ := F.ns
    rw [e] at e'; cases e'; rw [d] at d'; cases d'
  refine h s₁ D zs' _ S₁ F₁ p₁.isList (t'.move fun a ha o e => ?_) ?_ (srt_keys hs₁)
  · obtain ⟨a', p, ea, x⟩ := ht.mem _ (hp₁.subset ha)
    cases ea
    exact F₁.extBut a o (neL x) e
  · have := hp₁.map (key2 s.heap)
    rwa [ht.keys] at this

theorem body3a {a b : Addr} {ks vs : List Int} {tn : Tok} {Q : Flow → Shared → Prop} (H : LS L T q0 B s.heap m (some (.int ks.length tn)) co cc cs) (hh : A.handled = none) (hr : A.depth + 10 < recursionLimit) (hu : A.units < 500)
    (hk : m "keys" = some (.ref a)) (hv : m "values" = some (.ref b)) (ka : IsIL B a ks) (kb : IsIL B b vs) (R : Rows2 ks vs)
    (K : ∀ s' B' D₁ D₂ z₁ z₂ p₁ p₂, Sm s s' → Ext B B' → LS L T q0 B' s'.heap m (some (.int ks.length tn)) co (some (.ref D₁)) (some (.ref D₂)) → B'.PlainList D₁ z₁.toArray → T2s B' z₁ p₁ → p₁.Perm (climbP ks vs) → SrtP p₁ →
      B'.PlainList D₂ z₂.toArray → T2s B' z₂ p₂ → p₂.Perm (slideP ks vs) → SrtP p₂ → wpAny (model P w) A (execs (fbody.drop 11) (lawEnv L f cd)) Q E s') :
    wpAny (model P w) A (execs (fbody.drop 8) (lawEnv L f cd)) Q E s := by
  obtain ⟨wk, lk, ik⟩ := id ka
  obtain ⟨wv, lv, iv⟩ := id kb
  have hlen := R.len
  have h8 := R.most
  have h2 := R.two
  have lc : (climbP ks vs).length = ks.length := zipf_len hlen
  have ls : (slideP ks vs).length = ks.length := zipf_len hlen
  have neg : ∀ (C : Addr) (s' : Shared) (m' : Str → Option Value) (x y : Int) (t u : Tok) (px py pu pt : Pos) (k : Nat) (env : Env) (Q' : Value → Shared → Prop), env.locals = C → env.scope.kind = .function → env.kindOf "x" = some .local → env.kindOf "y" = some .local → Fx noHeap C s'.heap m' → m' "x" = some (.int x t) → m' "y" = some (.int y u) →
      (∀ s'' D, Sm s' s'' → Ext s'.heap s''.heap → s'.heap.get? D = none → IsT2 s''.heap D (x, -y) → Q' (.ref D) s'') → wpAny (model P w) A (eval (.Tuple [.Name "x" px, .UnaryOp .USub (.Name "y" py) pu] k pt) env) Q' (fun _ _ => False) s' := by
    intro C s' m' x y t u px py pu pt k env Q' eC e1 e2 e3 F mx my h
    subst eC
    refine Tup2 (lx F mx (wpAny_UnaryOp (lx F my (neg_int ?_) e1 e3)) e1 e2)
    intro s'' D S k f e
    exact h s'' D ⟨S.gens, S.drawn, S.os⟩ k f ⟨_, 0, t, _, e, rfl, rfl⟩
  have pos : ∀ (C : Addr) (s' : Shared) (m' : Str → Option Value) (x y : Int) (t u : Tok) (px py pt : Pos) (k : Nat) (env : Env) (Q' : Value → Shared → Prop), env.locals = C → env.scope.kind = .function → env.kindOf "x" = some .local → env.kindOf "y" = some .local → Fx noHeap C s'.heap m' → m' "x" = some (.int x t) → m' "y" = some (.int y u) →
      (∀ s'' D, Sm s' s'' → Ext s'.heap s''.heap → s'.heap.get? D = none → IsT2 s''.heap D (x, y) → Q' (.ref D) s'') → wpAny (model P w) A (eval (.Tuple [.Name "x" px, .Name "y" py] k pt) env) Q' (fun _ _ => False) s' := by
    intro C s' m' x y t u px py pt k env Q' eC e1 e2 e3 F mx my h
    subst eC
    refine Tup2 (lx F mx (lx F my ?_ e1 e3) e1 e2)
    intro s'' D S k f e
    exact h s'' D S k f ⟨_, 0, t, _, e, rfl, rfl⟩
  -- climb
  refine wpAny_execs_cons (wpAny_Assign_Name (Call1 (gl (v := .ref 107) H.gf (by simp [globs]) (compZ (fun y => -y) hh (by omega) H.gf (lk.at fun o e => H.kb _ o e) ik (lv.at fun o e => H.kb _ o e) iv hlen (fun _ q => lx H.fx hk q) (fun _ q => lx H.fx hv q)
    (fun C s' m' x y t u Q' F mx my h => neg C s' m' x y t u _ _ _ _ _ _ Q' rfl rfl rfl rfl F mx my h) fun Dc s₁ zc S₁ k₁ f₁ p₁ pr₁ nw₁ => ?_))))
  have H₁ := H.grow k₁
  refine ⟨callee_fn (H₁.gf.fn (i := 13) (by simp)), off_prs H₁.gf hh hr hu p₁ (t2s_of pr₁) (by show (climbP ks vs).length ≤ 8; omega) fun s₂ D₁ z₁ q₁ S₂ k₂ f₂ p₂ t₂ hp₂ hs₂ hm₂ => ?_⟩
  have H₂ := H₁.grow k₂
  refine scell (c := L + 3) H₂.c fun s₃ S₃ b₃ c₃ => ?_
  have H₃ := H₂.cellC b₃ c₃
  have nD₁ := H₁.fresh f₂
  have k₃ : ∀ b o, b ∉ mutL L T → s₂.heap.get? b = some o → (baseW L T s₃.heap).get? b = some o := fun b o n e => by
    rw [get_baseW n]; exact (b₃.2 b (fun q => n (by rw [q]; simp [mutL]))).trans e
  have fr₁ : ∀ a, Value.ref a ∈ z₁ → a ∉ mutL L T := fun a ha => by
    obtain ⟨a', e, g⟩ := nw₁ _ (hm₂ a ha)
    cases e; exact H.fresh g
  have pc : (baseW L T s₃.heap).PlainList D₁ z₁.toArray := p₂.at fun o e => k₃ _ o nD₁ e
  have tc : T2s (baseW L T s₃.heap) z₁ q₁ := t₂.move fun a ha o e => k₃ a o (fr₁ a ha) e
  have Hb := H₃.base.1
  have kB := H₃.base.2
  have S03 := (S₁.tr S₂).tr S₃
  generalize baseW L T s₃.heap = B₁ at pc tc Hb kB
  clear k₃ H₃ H₂ H₁ b₃ c₃ t₂ p₂ k₁ k₂ nw₁ fr₁ pr₁ p₁ f₁ f₂
  -- slide
  refine wpAny_execs_cons (wpAny_Assign_Name (Call1 (gl (v := .ref 107) Hb.gf (by simp [globs]) (compZ (fun y => y) hh (by omega) Hb.gf ((lk.at fun o e => kB _ o e).at fun o e => Hb.kb _ o e) ik ((lv.at fun o e => kB _ o e).at fun o e => Hb.kb _ o e) iv hlen (fun _ q => lx Hb.fx hk q) (fun _ q => lx Hb.fx hv q)
    (fun C s' m' x y t u Q' F mx my h => pos C s' m' x y t u _ _ _ _ _ Q' rfl rfl rfl rfl F mx my h) fun Ds s₄ zs S₄ k₄ f₄ p₄ pr₄ nw₄ => ?_))))
  have H₄ := Hb.grow k₄
  refine ⟨callee_fn (H₄.gf.fn (i := 13) (by simp)), off_prs H₄.gf hh hr hu p₄ (t2s_of pr₄) (by show (slideP ks vs).length ≤ 8; omega) fun s₅ D₂ z₂ q₂ S₅ k₅ f₅ p₅ t₅ hp₅ hs₅ hm₅ => ?_⟩
  have H₅ := H₄.grow k₅
  refine scell (c := L + 4) H₅.s fun s₆ S₆ b₆ c₆ => ?_
  have H₆ := H₅.cellS b₆ c₆
  have nD₂ := H₄.fresh f₅
  have k₆ : ∀ b o, b ∉ mutL L T → s₅.heap.get? b = some o → (baseW L T s₆.heap).get? b = some o := fun b o n e => by
    rw [get_baseW n]; exact (b₆.2 b (fun q => n (by rw [q]; simp [mutL]))).trans e
  have fr₂ : ∀ a, Value.ref a ∈ z₂ → a ∉ mutL L T := fun a ha => by
    obtain ⟨a', e, g⟩ := nw₄ _ (hm₅ a ha)
    cases e; exact Hb.fresh g
  have psl : (baseW L T s₆.heap).PlainList D₂ z₂.toArray := p₅.at fun o e => k₆ _ o nD₂ e
  have tsl : T2s (baseW L T s₆.heap) z₂ q₂ := t₅.move fun a ha o e => k₆ a o (fr₂ a ha) e
  have Hd := H₆.base.1
  have kC := H₆.base.2
  have S06 := ((S03.tr S₄).tr S₅).tr S₆
  generalize baseW L T s₆.heap = B₂ at psl tsl Hd kC
  clear k₆ H₆ H₅ H₄ b₆ c₆ t₅ p₅ k₄ k₅ nw₄ fr₂ pr₄ p₄ f₄ f₅
  have pc₂ : B₂.PlainList D₁ z₁.toArray := pc.at fun o e => kC _ o e
  have tc₂ := tc.keeps kC
  have kD := kB.trans kC
  have lk₂ := lk.at fun o e => kD _ o e
  have lv₂ := lv.at fun o e => kD _ o e
  -- if climb != sorted(...) or slide != sorted(...)
  refine wpAny_execs_cons (wpAny_If (wpAny_isTrue_BoolOp (wpAny_allTrue_Or_cons (wpAny_isTrue_Compare1 (lcell (c := L + 3) Hd.c (Call1 (bi (v := .builtin "sorted") Hd.gf (by simp [bis]) (compZ (fun y => -y) hh (by omega) Hd.gf (lk₂.at fun o e => Hd.kb _ o e) ik (lv₂.at fun o e => Hd.kb _ o e) iv hlen (fun _ q => lx Hd.fx hk q) (fun _ q => lx Hd.fx hv q)
    (fun C s' m' x y t u Q' F mx my h => neg C s' m' x y t u _ _ _ _ _ _ Q' rfl rfl rfl rfl F mx my h) fun Dc' s₇ zc' S₇ k₇ f₇ p₇ pr₇ nw₇ => ⟨trivial, ?_⟩))))))))
  have H₇ := Hd.grow k₇
  refine sort_prs H₇.fx p₇ (t2s_of pr₇) (by show 2 ≤ (climbP ks vs).length; omega) (by show (climbP ks vs).length ≤ 8; omega) fun s₈ D₈ z₈ q₈ S₈ F₈ l₈ t₈ hp₈ hs₈ => ?_
  have H₈ := H₇.ofFx F₈
  have e₈ : q₈ = q₁ := prs_unique hp₈ hs₈ hp₂ hs₂
  subst e₈
  refine ne_prs ((pc₂.at fun o e => H₈.kb _ o e).isList) (tc₂.keeps H₈.kb) l₈ t₈ (by omega) (wpAny_truthy_bool ?_)
  rw [if_neg (by simp)]
  refine wpAny_allTrue_Or_cons (wpAny_isTrue_Compare1 (lcell (c := L + 4) H₈.s (Call1 (bi (v := .builtin "sorted") H₈.gf (by simp [bis]) (compZ (fun y => y) hh (by omega) H₈.gf (lk₂.at fun o e => H₈.kb _ o e) ik (lv₂.at fun o e => H₈.kb _ o e) iv hlen (fun _ q => lx H₈.fx hk q) (fun _ q => lx H₈.fx hv q)
    (fun C s' m' x y t u Q' F mx my h => pos C s' m' x y t u _ _ _ _ _ Q' rfl rfl rfl rfl F mx my h) fun Dd' s₉ zd' S₉ k₉ f₉ p₉ pr₉ nw₉ => ⟨trivial, ?_⟩)))))
  have H₉ := H₈.grow k₉
  refine sort_prs H₉.fx p₉ (t2s_of pr₉) (by show 2 ≤ (slideP ks vs).length; omega) (by show (slideP ks vs).length ≤ 8; omega) fun s₁₀ D₁₀ z₁₀ q₁₀ S₁₀ F₁₀ l₁₀ t₁₀ hp₁₀ hs₁₀ => ?_
  have H₁₀ := H₉.ofFx F₁₀
  have e₁₀ : q₁₀ = q₂ := prs_unique hp₁₀ hs₁₀ hp₅ hs₅
  subst e₁₀
  refine ne_prs ((psl.at fun o e => H₁₀.kb _ o e).isList) (tsl.keeps H₁₀.kb) l₁₀ t₁₀ (by omega) (wpAny_truthy_bool ?_)
  rw [if_neg (by simp)]
  refine wpAny_allTrue_Or_nil ?_
  rw [if_neg (by simp)]
  refine wpAny_execs_nil ?_
  exact K s₁₀ B₂ D₁ D₂ z₁ z₂ _ _ ((((S06.tr S₇).tr S₈).tr S₉).tr S₁₀) kD H₁₀ pc₂ tc₂ hp₂ hs₂ psl tsl hp₅ hs₅
end
end Mine
end -- N4

section -- N5
open PySem PySem.W PyProof.Rows PySem.Calls
set_option Elab.async false
set_option maxRecDepth 100000
set_option maxHeartbeats 4000000
namespace Mine
open Hp Fp

section
variable {w : World} {A : Around} {E : Value → Shared → Prop} {s : Shared} {L f T : Addr} {cd : Value} {B : Heap} {m : Str → Option Value} {cc cs co cn : Option Value}

theorem body3b {ks vs : List Int} {tn ts tp : Tok} {D₁ D₂ : Addr} {z₁ z₂ : List Value} {p₁ p₂ : List (Int × Int)} {Q : Flow → Shared → Prop}
    (H : LS L T q0 B s.heap m (some (.int ks.length tn)) co (some (.ref D₁)) (some (.ref D₂))) (hh : A.handled = none) (hr : A.depth + 10 < recursionLimit) (hu : A.units < 500)
    (hs : m "spread" = some (.int (pullF vs vs) ts)) (hp : m "pull" = some (.int (pullF ks vs) tp)) (R : Rows2 ks vs)
    (l₁ : B.PlainList D₁ z₁.toArray) (t₁ : T2s B z₁ p₁) (hp₁ : p₁.Perm (climbP ks vs)) (hs₁ : SrtP p₁) (l₂ : B.PlainList D₂ z₂.toArray) (t₂ : T2s B z₂ p₂) (hp₂ : p₂.Perm (slideP ks vs)) (hs₂ : SrtP p₂)
    (K : ∀ s' m', Sm s s' → LS L T q0 B s'.heap m' (some (.int ks.length tn)) co (some (.ref D₁)) (some (.ref D₂)) → Q .next s') :
    wpAny (model P w) A (execs (fbody.drop 11) (lawEnv L f cd)) Q E s := by
  have hlen := R.len
  have h8 := R.most
  have h2 := R.two
  have lc : (climbP ks vs).length = ks.length := zipf_len hlen
  have lsl : (slideP ks vs).length = ks.length := zipf_len hlen
  have e1 := hp₁.length_eq
  have e2 := hp₂.length_eq
  have e3 := t₁.len
  have e4 := t₂.len
  have en : ((ks.length : Int) - 1) = ((ks.length - 1 : Nat) : Int) := by omega
  obtain ⟨c₁, g₁⟩ := id l₁
  obtain ⟨c₂, g₂⟩ := id l₂
  -- rises
  refine wpAny_execs_cons (compU [("climb", L + 3)] true (n := ks.length - 1) (Pv := fun i v => ∃ t, v = .int i t) (fun i y => ∃ t, y = .int (sg (-(p₁.getD i (0, 0)).2) (-(p₁.getD (i + 1) (0, 0)).2)) t) H.fx hh (by omega) ?_ ?_ ?_ ?_)
  · intro K' hK
    exact src_range H.gf (wpAny_BinOp (lcell (c := L + 1) H.n (wpAny_Constant_int (sub_int ⟨⟨rfl, rfl, rfl⟩, fun _ _ e => e, ks.length - 1, _, by rw [en], by omega, hK⟩))))
  · intro C i v s' m' E' hi hv' k' n' mx
    rw [List.forIn_nil]
    exact wpAny_pure ⟨rfl, Sm.refl _, fun _ _ e => e⟩
  · rintro C i v s' m' E' hi ⟨t, rfl⟩ k' n' mx -
    have Fc := Fx.ofNs n'
    have G' : GF s'.heap := H.gf.keeps k'
    obtain ⟨a₁, q₁, x₁⟩ := t₁.at (k := i) (by omega)
    obtain ⟨a₂, q₂, x₂⟩ := t₁.at (k := i + 1) (by omega)
    have g' : s'.heap.get? D₁ = some (PySem.W.listOf z₁.toArray c₁) := k' _ _ (H.kb _ _ g₁)
    have y₁ : IsT2 s'.heap a₁ _ := (x₁.keeps H.kb).keeps k'
    have y₂ : IsT2 s'.heap a₂ _ := (x₂.keeps H.kb).keeps k'
    refine Call2 (gl (v := .ref 97) G' (by simp [globs]) (wpAny_UnaryOp (Subscript_ (Subscript_ (lcell (c := L + 3) (H.c.keeps k') (lx Fc mx (item_v g' (by omega) (by omega) (by rw [show (i : Int).toNat = i from by omega]; exact q₁) (wpAny_Constant_int (item_t2 y₁ fun u₁ => neg_int ?_)))))))))
    refine wpAny_UnaryOp (Subscript_ (Subscript_ (lcell (c := L + 3) (H.c.keeps k') (wpAny_BinOp (lx Fc mx (wpAny_Constant_int (add_int (item_v (k := (i : Int) + 1) g' (by omega) (by omega) (by rw [show ((i : Int) + 1).toNat = i + 1 from by omega]; exact q₂) (wpAny_Constant_int (item_t2 y₂ fun u₂ => neg_int ⟨callee_fn (G'.fn (i := 10) (by simp)), ?_⟩))))))))))
    refine twc G' (by omega) fun s'' t'' S'' k'' => ⟨⟨t'', rfl⟩, ⟨S''.gens, S''.drawn, S''.os⟩, k''⟩
  intro Dr s₁ ys S₁ F₁ f₁ pr₁ hyl hF
  rw [if_pos rfl] at hyl
  have ir : IntsAre ys (risesF p₁ ks.length) := ints_of hyl hF
  have H₁ := H.ofFx F₁
  have nDr := H.fresh f₁
  have Hb := H₁.base.1
  have kB := H₁.base.2
  have lr : (baseW L T s₁.heap).IsList Dr ys.toArray := pr₁.isList.at fun o e => by rw [get_baseW nDr]; exact e
  generalize baseW L T s₁.heap = B₁ at Hb kB lr
  clear H₁ F₁
  have t₂' := t₂.keeps kB
  -- falls
  refine wpAny_execs_cons (compU [("slide", L + 4)] true (n := ks.length - 1) (Pv := fun i v => ∃ t, v = .int i t) (fun i y => ∃ t, y = .int (sg (p₂.getD i (0, 0)).2 (p₂.getD (i + 1) (0, 0)).2) t) Hb.fx hh (by omega) ?_ ?_ ?_ ?_)
  · intro K' hK
    exact src_range Hb.gf (wpAny_BinOp (lcell (c := L + 1) Hb.n (wpAny_Constant_int (sub_int ⟨⟨rfl, rfl, rfl⟩, fun _ _ e => e, ks.length - 1, _, by rw [en], by omega, hK⟩))))
  · intro C i v s' m' E' hi hv' k' n' mx
    rw [List.forIn_nil]
    exact wpAny_pure ⟨rfl, Sm.refl _, fun _ _ e => e⟩
  · rintro C i v s' m' E' hi ⟨t, rfl⟩ k' n' mx -
    have Fc := Fx.ofNs n'
    have G' : GF s'.heap := Hb.gf.keeps k'
    obtain ⟨a₁, q₁, x₁⟩ := t₂'.at (k := i) (by omega)
    obtain ⟨a₂, q₂, x₂⟩ := t₂'.at (k := i + 1) (by omega)
    have g' : s'.heap.get? D₂ = some (PySem.W.listOf z₂.toArray c₂) := k' _ _ (Hb.kb _ _ (kB _ _ g₂))
    have y₁ : IsT2 s'.heap a₁ _ := (x₁.keeps Hb.kb).keeps k'
    have y₂ : IsT2 s'.heap a₂ _ := (x₂.keeps Hb.kb).keeps k'
    refine Call2 (gl (v := .ref 97) G' (by simp [globs]) (Subscript_ (Subscript_ (lcell (c := L + 4) (Hb.s.keeps k') (lx Fc mx (item_v g' (by omega) (by omega) (by rw [show (i : Int).toNat = i from by omega]; exact q₁) (wpAny_Constant_int (item_t2 y₁ fun u₁ => ?_))))))))
    refine Subscript_ (Subscript_ (lcell (c := L + 4) (Hb.s.keeps k') (wpAny_BinOp (lx Fc mx (wpAny_Constant_int (add_int (item_v (k := (i : Int) + 1) g' (by omega) (by omega) (by rw [show ((i : Int) + 1).toNat = i + 1 from by omega]; exact q₂) (wpAny_Constant_int (item_t2 y₂ fun u₂ => ⟨callee_fn (G'.fn (i := 10) (by simp)), ?_⟩)))))))))
    refine twc G' (by omega) fun s'' t'' S'' k'' => ⟨⟨t'', rfl⟩, ⟨S''.gens, S''.drawn, S''.os⟩, k''⟩
  intro Df s₂ us S₂ F₂ f₂ pf₂ hul hF₂
  rw [if_pos rfl] at hul
  have iff : IntsAre us (fallsF p₂ ks.length) := ints_of hul hF₂
  have H₂ := Hb.ofFx F₂
  have nDf := Hb.fresh f₂
  have Hd := H₂.base.1
  have kC := H₂.base.2
  have lf : (baseW L T s₂.heap).IsList Df us.toArray := pf₂.isList.at fun o e => by rw [get_baseW nDf]; exact e
  generalize baseW L T s₂.heap = B₂ at Hd kC lf
  clear H₂ F₂
  have lr₂ := lr.at fun o e => kC _ o e
  have lrs := lr₂.at fun o e => Hd.kb _ o e
  have lfs := lf.at fun o e => Hd.kb _ o e
  have S02 := S₁.tr S₂
  -- if [c for c in rises + falls if ...] != []
  have allI : ∀ v ∈ ys ++ us, ∃ j t, v = Value.int j t := fun v hv => by
    rcases List.mem_append.mp hv with hv | hv
    · obtain ⟨j, e⟩ := List.getElem?_of_mem hv
      obtain ⟨_, t, rfl⟩ := intsAre_at ir e
      exact ⟨_, t, rfl⟩
    · obtain ⟨j, e⟩ := List.getElem?_of_mem hv
      obtain ⟨_, t, rfl⟩ := intsAre_at iff e
      exact ⟨_, t, rfl⟩
  refine wpAny_execs_cons (wpAny_If (wpAny_isTrue_Compare1 (compQ [] false (n := (ys ++ us).length) (Pv := fun i v => ∃ j t, v = Value.int j t) (fun _ _ => True) hh (by simp; omega) ?_ ?_ ?_ ?_)))
  · intro K' hK
    refine wpAny_BinOp (lx Hd.fx rfl (lx Hd.fx rfl (add_l lrs lfs (by omega) fun s₃ D₃ S₃ k₃ f₃ p₃ => ?_)))
    refine src_list S₃ k₃ p₃.isList fun it s₄ hsr => hK it s₄ ?_
    obtain ⟨I', fp, St, x1, x2, x3, x4, W, x6⟩ := hsr
    refine ⟨I', fp, St, x1, x2, x3, x4, fun A' hA => ?_, x6⟩
    have W := W A' hA
    exact ⟨W.sub, W.frame, fun i s Q E hi st hQ => W.item i s Q E hi st fun v h' tk hv => hQ v h' tk (allI v (List.mem_of_getElem? hv)), W.done, W.self⟩
  · rintro C i v s₅ m₅ E' hi ⟨j, t₅, rfl⟩ k₅ n₅ mx
    have G₅ : GF s₅.heap := Hd.gf.keeps k₅
    have Fc := Fx.ofNs n₅
    refine if1 (wpAny_isTrue_BoolOp (wpAny_allTrue_Or_cons (wpAny_isTrue_value (Call2 (bi (v := .builtin "isinstance") G₅ (by simp [bis]) (lx Fc mx (bi (v := .type "bool") G₅ (by simp [bis]) ⟨trivial, IsiPair.int_bool (wpAny_truthy_bool ?_)⟩)))))))
    rw [if_neg (by simp)]
    refine wpAny_allTrue_Or_cons (wpAny_isTrue_Not (wpAny_isTrue_value (Call2 (bi (v := .builtin "isinstance") G₅ (by simp [bis]) (lx Fc mx (bi (v := .type "int") G₅ (by simp [bis]) ⟨trivial, IsiPair.int_int (wpAny_truthy_bool ?_)⟩))))))
    rw [if_neg (by simp)]
    exact wpAny_allTrue_Or_nil ⟨rfl, ⟨rfl, rfl, rfl⟩, fun _ _ e => e⟩
  · intro C i v s₅ m₅ E' hi hv' k₅ n₅ mx hpp
    cases hpp
  intro D₅ s₅ ys₅ S₅ k₅ f₅ p₅ hl₅ _
  have hl0 : ys₅ = [] := List.length_eq_zero_iff.mp (by simpa using hl₅)
  subst hl0
  refine Lst0 fun s₆ D₆ S₆ k₆ f₆ p₆ => ?_
  refine ne_il (xs := []) (ys := []) ⟨[], (p₅.at fun o e => k₆ _ o e).isList, .nil⟩ ⟨[], p₆.isList, .nil⟩ (by omega) (wpAny_truthy_bool ?_)
  rw [if_neg (by simp)]
  refine wpAny_execs_nil ?_
  have H₆ := (Hd.grow k₅).grow k₆
  have ir₆ : IsIL s₆.heap Dr (risesF p₁ ks.length) := ⟨ys, lr₂.at fun o e => H₆.kb _ o e, ir⟩
  have if₆ : IsIL s₆.heap Df (fallsF p₂ ks.length) := ⟨us, lf.at fun o e => H₆.kb _ o e, iff⟩
  -- the last question
  refine wpAny_execs_cons (wpAny_If (wpAny_isTrue_BoolOp (wpAny_allTrue_Or_cons (wpAny_isTrue_Compare1 (wpAny_Compare1 (lx H₆.fx hp (lx H₆.fx hs (eq_int (wpAny_Compare1 (wpAny_Constant_int (lx H₆.fx rfl (notIn_il ir₆ (ne_bb (wpAny_truthy_bool ?_))))))))))))))
  have r1 := rise_law R hp₁ hs₁
  have r2 := fall_law R hp₂ hs₂
  rw [if_neg (by
    by_cases q : pullF ks vs = pullF vs vs
    · have := r1.mp q; simp [q, this]
    · have : 1 ∈ risesF p₁ ks.length := Classical.byContradiction fun x => q (r1.mpr x)
      simp [q, this])]
  refine wpAny_allTrue_Or_cons (wpAny_isTrue_Compare1 (wpAny_Compare1 (lx H₆.fx hp (wpAny_UnaryOp (lx H₆.fx hs (neg_int (eq_int (wpAny_Compare1 (wpAny_UnaryOp (wpAny_Constant_int (neg_int (lx H₆.fx rfl (notIn_il if₆ (ne_bb (wpAny_truthy_bool ?_)))))))))))))))
  rw [if_neg (by
    by_cases q : pullF ks vs = -pullF vs vs
    · have := r2.mp q; simp [q, this]
    · have : -1 ∈ fallsF p₂ ks.length := Classical.byContradiction fun x => q (r2.mpr x)
      simp [q, this])]
  refine wpAny_allTrue_Or_nil ?_
  rw [if_neg (by simp)]
  refine wpAny_execs_nil (wpAny_execs_nil ?_)
  exact K _ _ (((S02.tr S₅).tr S₆).tr (Sm.mk' _ _ _)) (H₆.sub (kB.trans kC) H.G)
end
end Mine
end -- N5

section -- N6
open PySem PySem.W PyProof.Rows PySem.Calls
set_option Elab.async false
set_option maxRecDepth 100000
set_option maxHeartbeats 4000000
namespace Mine
open Hp Fp

theorem slice_take (vs : List Value) (b : Nat) : slicePick vs.toArray none (some (b : Int)) none = (vs.take b).toArray := by
  rcases Nat.le_total b vs.length with h | h
  · rw [slicePick_upto _ _ (by simpa using h)]
  · have e : sliceBounds none (some (b : Int)) none vs.toArray.size = sliceBounds none (some (vs.length : Int)) none vs.toArray.size := by
      simp only [sliceBounds, Option.getD_none, List.size_toArray]
      have h1 : ¬ ((b : Int) < 0) := by omega
      have h2 : ¬ ((vs.length : Int) < 0) := by omega
      simp only [h1, h2, if_false, show (1 : Int) > 0 by decide, if_true]
      congr 1
      congr 1
      omega
    have e2 : slicePick vs.toArray none (some (b : Int)) none = slicePick vs.toArray none (some (vs.length : Int)) none := by
      unfold slicePick
      rw [e]
    rw [e2, slicePick_upto _ _ (by simp)]
    simp [List.take_of_length_le h]

/-- the law's rows -/
def clip (y : Int) : Int := if -1048576 < y ∧ y < 1048576 then y else y.fmod 1048576
def numsF (xs : List Int) : List Int := xs.take 12 ++ [5, 1, 3, 2]
def halfF (xs : List Int) : Nat := (numsF xs).length / 2
def firstF (xs : List Int) : List Int := (numsF xs).take (halfF xs)
def secondF (xs : List Int) : List Int := (((numsF xs).drop (halfF xs)).take (2 * halfF xs - halfF xs)).map clip

theorem clip_small (y : Int) : (clip y).natAbs < 2 ^ 20 := by
  unfold clip
  split
  · omega
  · rw [Int.fmod_eq_emod_of_nonneg _ (by decide)]
    omega
theorem nums_len (xs : List Int) : 4 ≤ (numsF xs).length ∧ (numsF xs).length ≤ 16 := by
  simp only [numsF, List.length_append, List.length_take, List.length_cons, List.length_nil]; omega
theorem half_le (xs : List Int) : 2 ≤ halfF xs ∧ halfF xs ≤ 8 ∧ 2 * halfF xs ≤ (numsF xs).length := by
  have := nums_len xs
  unfold halfF; omega
theorem first_len (xs : List Int) : (firstF xs).length = halfF xs := by
  have := half_le xs
  simp only [firstF, List.length_take]; omega
theorem second_len (xs : List Int) : (secondF xs).length = halfF xs := by
  have := half_le xs
  simp only [secondF, List.length_map, List.length_take, List.length_drop]; omega
theorem rows1 (xs : List Int) : Rows2 (firstF xs) (secondF xs) := by
  have := half_le xs
  refine ⟨by rw [first_len, second_len], by rw [first_len]; omega, by rw [first_len]; omega, fun v hv => ?_⟩
  obtain ⟨y, _, rfl⟩ := List.mem_map.mp hv
  exact clip_small y
theorem rows2 (xs : List Int) : Rows2 ((firstF xs).map (·.fmod 3)) ((secondF xs).map (·.fmod 3)) := by
  have := half_le xs
  refine ⟨by simp [first_len, second_len], by simp [first_len]; omega, by simp [first_len]; omega, fun v hv => ?_⟩
  obtain ⟨y, _, rfl⟩ := List.mem_map.mp hv
  rw [Int.fmod_eq_emod_of_nonneg _ (by decide)]
  omega
theorem rows3 (xs : List Int) : Rows2 (firstF xs) (List.replicate (halfF xs) ((secondF xs).getD 0 0)) := by
  have h := half_le xs
  refine ⟨by simp [first_len], by rw [first_len]; omega, by rw [first_len]; omega, fun v hv => ?_⟩
  obtain rfl := (List.mem_replicate.mp hv).2
  have hl := second_len xs
  refine (rows1 xs).small _ ?_
  have : 0 < (secondF xs).length := by omega
  rw [List.getD_eq_getElem?_getD, List.getElem?_eq_getElem this, Option.getD_some]
  exact List.getElem_mem this

section
variable {w : World} {A : Around} {E : Value → Shared → Prop} {s : Shared} {L f T : Addr} {cd : Value} {B : Heap} {m : Str → Option Value} {cc cs co cn : Option Value}

theorem bodyAll {a b : Addr} {ks vs : List Int} {tn : Tok} {Q : Flow → Shared → Prop} (H : LS L T q0 B s.heap m (some (.int ks.length tn)) co cc cs) (hh : A.handled = none) (hr : A.depth + 10 < recursionLimit) (hu : A.units < 500)
    (hk : m "keys" = some (.ref a)) (hv : m "values" = some (.ref b)) (ka : IsIL B a ks) (kb : IsIL B b vs) (R : Rows2 ks vs)
    (K : ∀ s' m' co' cc' cs', Sg s s' → LS L T q0 B s'.heap m' (some (.int ks.length tn)) co' cc' cs' → Q .next s') :
    wpAny (model P w) A (execs fbody (lawEnv L f cd)) Q E s := by
  refine body1 (a := a) H hh hr hu hv kb R fun s₁ B₁ D₁ t₁ S₁ k₁ H₁ => ?_
  refine body2 H₁ hh hr hu hk hv rfl (ka.keeps k₁) (kb.keeps k₁) R fun s₂ m₂ t₂ S₂ H₂ a1 a2 a3 a4 => ?_
  refine body3a H₂ hh hr hu a1 a2 (ka.keeps k₁) (kb.keeps k₁) R fun s₃ B₃ E₁ E₂ z₁ z₂ p₁ p₂ S₃ k₃ H₃ b1 b2 b3 b4 b5 b6 b7 b8 => ?_
  refine body3b H₃ hh hr hu a3 a4 R b1 b2 b3 b4 b5 b6 b7 b8 fun s₄ m₄ S₄ H₄ => ?_
  exact K s₄ m₄ _ _ _ (((S₁.sg.tr S₂).tr S₃.sg).tr S₄.sg) (H₄.sub (k₁.trans k₃) H.G)
end

theorem intsAre_app : ∀ {vs us : List Value} {xs ys : List Int}, IntsAre vs xs → IntsAre us ys → IntsAre (vs ++ us) (xs ++ ys)
  | _, _, _, _, .nil, h => h
  | _, _, _, _, .cons i t r, h => .cons i t (intsAre_app r h)
theorem intsAre_drop : ∀ {vs : List Value} {xs : List Int}, IntsAre vs xs → ∀ k, IntsAre (vs.drop k) (xs.drop k)
  | _, _, .nil, k => by simp; exact .nil
  | _, _, .cons i t r, 0 => .cons i t r
  | _, _, .cons i t r, k + 1 => by simpa using intsAre_drop r k
theorem intsAre_rep (x : Int) (t : Tok) : ∀ n, IntsAre (List.replicate n (.int x t)) (List.replicate n x)
  | 0 => .nil
  | n + 1 => by rw [List.replicate_succ, List.replicate_succ]; exact .cons x t (intsAre_rep x t n)
end Mine
end -- N6

section -- N7
open PySem PySem.W PyProof.Rows PySem.Calls
set_option Elab.async false
set_option maxRecDepth 100000
set_option maxHeartbeats 4000000
namespace Mine
open Hp Fp

section
variable {w : World} {A : Around} {E : Value → Shared → Prop} {s : Shared} {L f T : Addr} {cd : Value} {B : Heap} {m : Str → Option Value} {cc cs co cn : Option Value}

/-- what the loop walks -/
def PairIn (B : Heap) (n : Nat) (v : Value) : Prop := ∃ t a b ks vs, v = .ref t ∧ B.IsTuple t #[.ref a, .ref b] ∧ IsIL B a ks ∧ IsIL B b vs ∧ Rows2 ks vs ∧ ks.length = n

theorem lawLoop {n : Nat} {tn : Tok} {I TT : Addr} {items : List Value} {Q : Flow → Shared → Prop} (H : LS L T q0 B s.heap m (some (.int n tn)) co cc cs) (hh : A.handled = none) (hr : A.depth + 10 < recursionLimit) (hu : A.units < 500)
    (hI : B.get? I = none) (nI : I ∉ mutL L T) (it : s.heap.IsTupleIter I TT 0) (lt : B.IsTuple TT items.toArray) (all : ∀ v ∈ items, PairIn B n v)
    (K : ∀ s' m' co' cc' cs', Sg s s' → LS L T q0 B s'.heap m' (some (.int n tn)) co' cc' cs' → Q .next s') :
    codeAny (model P w) A (.forLoop (match (bdy 15).drop 4 with | Stmt.For t _ _ _ _ :: _ => t | _ => .Constant .none 0 default) (.ref I) fbody [] (lawEnv L f cd)) (fun r s' => match r with | .ok f => Q f s' | .error e => cameBackBy (model P w) A (lawEnv L f cd) E e s') s := by
  have nTI : TT ≠ I := by rintro rfl; obtain ⟨o, e, _⟩ := lt; rw [hI] at e; cases e
  have nTT : TT ∉ mutL L T := fun q => by obtain ⟨o, e, _⟩ := lt; rw [H.off _ q] at e; cases e
  refine forWalkG (Walks.tuple (prog := P) (w := w) (A := A) hh I TT nTI items.toArray) (fun i h => ∃ m' co' cc' cs', LS L T q0 B h m' (some (.int n tn)) co' cc' cs') ?_ ⟨_, _, _, _, H⟩ ⟨it, lt.at fun o e => H.kb _ o e⟩ ?_ ?_
  · rintro i h h' ⟨m', co', cc', cs', H'⟩ k
    exact ⟨m', co', cc', cs', H'.kp k (by simpa using hI) (by simpa using nI)⟩
  · rintro i v s' hi hPv ⟨m', co', cc', cs', H'⟩ hSt Sg'
    obtain ⟨t, a, b, ks, vs, rfl, ht, ha, hb, R, rfl⟩ := all v (List.mem_of_getElem? (by simpa using hPv))
    refine lot_tup hSt.1 (assign2 hh H'.fx (ht.at fun o e => H'.kb _ o e) fun s₁ S₁ F₁ => ?_)
    have H₁ := H'.ofFx F₁
    have HB := H₁.base
    refine bodyAll (a := a) (b := b) (ks := ks) (vs := vs) HB.1 hh hr hu rfl rfl ((ha.keeps HB.2)) ((hb.keeps HB.2)) R fun s₂ m₂ co₂ cc₂ cs₂ S₂ H₂ => ?_
    refine ⟨(Sg'.tr S₁.sg).tr S₂, rfl, ⟨_, _, _, _, H₂.sub HB.2 H.G⟩, fun c hc o e => ?_⟩
    have hc' : c = I ∨ c = TT := by simpa using hc
    have c1 : c ∉ mutL L T := hc'.elim (fun q => q ▸ nI) fun q => q ▸ nTT
    have c3 : c ≠ L := fun q => c1 (by rw [q]; simp [mutL])
    exact H₂.kpm c o c1 (F₁.extBut c o c3 e)
  · rintro s' Sg' ⟨m', co', cc', cs', H'⟩
    exact K s' m' co' cc' cs' Sg' H'
end
end Mine
end -- N7

section -- N8
open PySem PySem.W PyProof.Rows PySem.Calls
set_option Elab.async false
set_option maxRecDepth 100000
set_option maxHeartbeats 4000000
namespace Mine
open Hp Fp

section
variable {M : Model} {A : Around} {E : Value → Shared → Prop} {s : Shared} {env : Env}
theorem epN {Q : Value → Shared → Prop} (h : Q .none s) : wpAny M A (evalPart none env) Q E s := wpAny_pure h
theorem epS {e : Expr} {Q : Value → Shared → Prop} (h : wpAny M A (eval e env) Q E s) : wpAny M A (evalPart (some e) env) Q E s := h
end

section
variable {w : World} {A : Around} {s : Shared} {f T sc : Addr} {B₀ : Heap} {xs : List Int} {ps : Array Value}

theorem lawHead {R : Result → Shared → Prop} (G : GF B₀) (kB : Ext B₀ s.heap) (hBT : B₀.get? T = none) (CT : CovT s.heap T ps) (hf : IsFn s.heap 15 f) (hsc : IsIL s.heap sc xs) (nsT : sc ≠ T) (hx : xs.length < 900)
    (hh : A.handled = none) (hr : A.depth + 20 < recursionLimit) (hu : A.units < 400)
    (K : ∀ L c A' s' B m Df Ds tn E, Sm s s' → KpB [T] s.heap B → A'.handled = none → A'.depth + 10 < recursionLimit → A'.units < 500 → LS L T ps B s'.heap m (some (.int (halfF xs) tn)) none none none → m "first" = some (.ref Df) → m "second" = some (.ref Ds) → IsIL B Df (firstF xs) → IsIL B Ds (secondF xs) →
      wpAny (model P w) A' (execs ((bdy 15).drop 4) (lawEnv L f (.ref c))) (fun f s' => R (.ok (.ret (match f with | .ret v => v | _ => .none))) s') E s') : codeAny (model P w) A (.call (.ref f) ⟨[.ref sc], []⟩) R s := by
  obtain ⟨pm, c, ho, hc⟩ := hf
  refine call_cells (binds := [("script", .ref sc)]) (by omega) ho rfl (G.keeps kB).nolimit hc rfl ?_ ?_
  · intro x hx
    obtain rfl : x = (Str.ofString "script", Value.ref sc) := by simpa using hx
    exact .inl rfl
  intro h₁ tk F₁ X₁
  have c1 : h₁.IsCell (s.heap.objs.size + 1) none := X₁.cell "n" _ rfl
  have c2 : h₁.IsCell (s.heap.objs.size + 2) none := X₁.cell "off" _ rfl
  have c3 : h₁.IsCell (s.heap.objs.size + 3) none := X₁.cell "climb" _ rfl
  have c4 : h₁.IsCell (s.heap.objs.size + 4) none := X₁.cell "slide" _ rfl
  have hTL : T < s.heap.objs.size := by
    obtain ⟨_, _, _, _, _, e⟩ := CT
    exact Heap.lt_size e.2
  have fL : ∀ b, s.heap.objs.size ≤ b → s.heap.get? b = none := fun b hb => Heap.get?_none_of_le hb
  have oldL : ∀ {b o}, s.heap.get? b = some o → b < s.heap.objs.size := fun e => Heap.lt_size e
  have Fb := Fx.of_fr F₁
  generalize hL : s.heap.objs.size = L at c1 c2 c3 c4 hTL fL oldL Fb ⊢
  generalize hA' : Around.deeper A _ = A'
  have hh' : A'.handled = none := by rw [← hA']; exact hh
  have hr' : A'.depth + 10 < recursionLimit := by rw [← hA']; show A.depth + 1 + 10 < recursionLimit; omega
  have hu' : A'.units < 500 := by rw [← hA']; show A.units + 3 < 500; omega
  have S₁ : Sm s { s with heap := h₁, toks := tk } := ⟨rfl, rfl, rfl⟩
  replace Fb : Fx s.heap L { s with heap := h₁, toks := tk }.heap _ := Fb
  replace c1 : { s with heap := h₁, toks := tk }.heap.IsCell (L + 1) none := c1
  replace c2 : { s with heap := h₁, toks := tk }.heap.IsCell (L + 2) none := c2
  replace c3 : { s with heap := h₁, toks := tk }.heap.IsCell (L + 3) none := c3
  replace c4 : { s with heap := h₁, toks := tk }.heap.IsCell (L + 4) none := c4
  generalize { s with heap := h₁, toks := tk } = s₁ at c1 c2 c3 c4 Fb S₁ ⊢
  clear F₁ X₁ ho hc
  have nm : ∀ {b o}, s.heap.get? b = some o → b ≠ T → b ∉ mutL L T := fun {b o} e n q => by
    have hb := oldL e
    simp only [mutL, List.mem_cons, List.not_mem_nil, or_false] at q
    rcases q with rfl | rfl | rfl | rfl | rfl | rfl
    · exact Nat.lt_irrefl _ hb
    · exact Nat.lt_irrefl _ (Nat.lt_of_le_of_lt (Nat.le_add_right _ _) hb)
    · exact Nat.lt_irrefl _ (Nat.lt_of_le_of_lt (Nat.le_add_right _ _) hb)
    · exact Nat.lt_irrefl _ (Nat.lt_of_le_of_lt (Nat.le_add_right _ _) hb)
    · exact Nat.lt_irrefl _ (Nat.lt_of_le_of_lt (Nat.le_add_right _ _) hb)
    · exact n rfl
  have H₀ : LS L T ps B₀ s₁.heap _ none none none none := ⟨G, Fb.ns, kB.trans Fb.keep, fun b hb => by
      simp only [mutL, List.mem_cons, List.not_mem_nil, or_false] at hb
      rcases hb with rfl | rfl | rfl | rfl | rfl | rfl
      · exact none_of_ext kB (fL _ (Nat.le_refl _))
      · exact none_of_ext kB (fL _ (Nat.le_add_right _ _))
      · exact none_of_ext kB (fL _ (Nat.le_add_right _ _))
      · exact none_of_ext kB (fL _ (Nat.le_add_right _ _))
      · exact none_of_ext kB (fL _ (Nat.le_add_right _ _))
      · exact hBT, c1, c2, c3, c4, ⟨#[], by
        have := CT.move G kB [] (by simp) (by simp) fun b o _ e => Fb.keep b o e
        simpa using this⟩, hTL⟩
  have HB := H₀.base
  have old : KpB [T] s.heap (baseW L T s₁.heap) := fun b o n e => by
    rw [get_baseW (nm e (by simpa using n))]; exact Fb.keep b o e
  have Hs := HB.1
  generalize baseW L T s₁.heap = B₁ at HB Hs old
  obtain ⟨vs, lsc, isc⟩ := hsc
  have lsc₁ : B₁.IsList sc vs.toArray := lsc.at fun o e => old _ o (by simpa using nsT) e
  have hvl := isc.length
  have hN := nums_len xs
  have hH := half_le xs
  clear H₀ c1 c2 c3 c4 HB
  -- numbers = script[:12] + [5, 1, 3, 2]
  refine wpAny_execs_cons (wpAny_Assign_Name (wpAny_BinOp (slice_il (lx Hs.fx rfl (epN (epS (wpAny_Constant_int ⟨sc, vs, none, some ((12 : Nat) : Int), rfl, lsc₁.at fun o e => Hs.kb _ o e, by omega, .none, .int _ _, fun s₂ D₂ S₂ k₂ f₂ p₂ => ?_⟩)))))))
  rw [slice_take] at p₂
  refine Lst4 (wpAny_Constant_int (wpAny_Constant_int (wpAny_Constant_int (wpAny_Constant_int fun s₃ D₃ S₃ k₃ f₃ p₃ => ?_))))
  have H₃ : LS L T ps B₁ s₃.heap _ _ _ _ _ := (Hs.grow k₂).grow k₃
  refine add_l (p₂.isList.at fun o e => k₃ _ o e) p₃.isList (by simp; omega) fun s₄ Dn S₄ k₄ f₄ p₄ => ?_
  have H₄ := H₃.grow k₄
  have in₄ : IsIL s₄.heap Dn (numsF xs) := ⟨_, p₄.isList, intsAre_app (intsAre_take isc 12) (.cons 5 _ (.cons 1 _ (.cons 3 _ (.cons 2 _ .nil))))⟩
  have S₃' : Sm s₂ s₃ := ⟨S₃.gens, S₃.drawn, S₃.os⟩
  have S₂' : Sm s₁ s₂ := ⟨S₂.gens, S₂.drawn, S₂.os⟩
  have S04 := ((S₁.tr S₂').tr S₃').tr S₄
  have nDn := H₃.fresh f₄
  clear S₂ S₃ S₂' S₃' S₁ S₄ p₄ p₃ p₂ f₄ f₃ f₂
  refine sx H₄.fx.rebase fun s₅ S₅ F₅ => ?_
  have H₅ := H₄.ofFx F₅
  have in₅ : IsIL s₅.heap Dn (numsF xs) := in₄.at fun o e => F₅.extBut _ o (fun q => nDn (by rw [q]; simp [mutL])) e
  have Hb := H₅.base.1
  have kb₁ := H₅.base.2
  have inB : IsIL (baseW L T s₅.heap) Dn (numsF xs) := in₅.at fun o e => by rw [get_baseW nDn]; exact e
  have S05 := S04.tr S₅
  generalize baseW L T s₅.heap = B₂ at Hb kb₁ inB
  clear H₅ H₄ H₃ in₄ in₅ F₅
  -- n = len(numbers) // 2
  refine wpAny_execs_cons (wpAny_Assign_Name (wpAny_BinOp (Call1 (bi (v := .builtin "len") Hb.gf (by simp [bis]) (lx Hb.fx rfl ⟨trivial, len_il (inB.keeps Hb.kb) (by omega) fun t₆ s₆ S₆ e₆ => ?_⟩)))))
  refine wpAny_Constant_int (floordiv_int (by decide) ?_)
  have en : ((numsF xs).length : Int).fdiv 2 = ((halfF xs : Nat) : Int) := by
    rw [Int.fdiv_eq_ediv_of_nonneg _ (by decide)]
    simp only [halfF]; omega
  rw [en]
  rw [← e₆] at Hb
  refine scell (c := L + 1) Hb.n fun s₇ S₇ b₇ c₇ => ?_
  have H₇ := Hb.cellN b₇ c₇
  have S07 : Sm s s₇ := (S05.tr S₆).tr ⟨S₇.gens, S₇.drawn, S₇.os⟩
  clear Hb S₇ b₇ c₇
  obtain ⟨vn, ln, iin⟩ := inB
  have hvn := iin.length
  -- first = numbers[:n]
  refine wpAny_execs_cons (wpAny_Assign_Name (slice_il (lx H₇.fx rfl (epN (epS (lcell (c := L + 1) H₇.n ⟨Dn, vn, none, some ((halfF xs : Nat) : Int), rfl, ln.at fun o e => H₇.kb _ o e, by omega, .none, .int _ _, fun s₈ Df S₈ k₈ f₈ p₈ => ?_⟩))))))
  rw [slice_take] at p₈
  have if₈ : IsIL s₈.heap Df (firstF xs) := ⟨_, p₈.isList, intsAre_take iin _⟩
  have H₈ := H₇.grow k₈
  have nDf := H₇.fresh f₈
  refine sx H₈.fx.rebase fun s₉ S₉ F₉ => ?_
  have H₉ := H₈.ofFx F₉
  have if₉ : IsIL s₉.heap Df (firstF xs) := if₈.at fun o e => F₉.extBut _ o (fun q => nDf (by rw [q]; simp [mutL])) e
  have Hc := H₉.base.1
  have kb₂ := H₉.base.2
  have ifB : IsIL (baseW L T s₉.heap) Df (firstF xs) := if₉.at fun o e => by rw [get_baseW nDf]; exact e
  have S09 := (S07.tr S₈).tr S₉
  generalize baseW L T s₉.heap = B₃ at Hc kb₂ ifB
  clear H₇ H₈ H₉ if₈ if₉ F₉ p₈
  have ln₃ := ln.at fun o e => kb₂ _ o e
  -- second
  have i2 : IntsAre ((vn.drop (halfF xs)).take (2 * halfF xs - halfF xs)) (((numsF xs).drop (halfF xs)).take (2 * halfF xs - halfF xs)) := intsAre_take (intsAre_drop iin _) _
  have l2 : ((vn.drop (halfF xs)).take (2 * halfF xs - halfF xs)).length = halfF xs := by simp; omega
  refine wpAny_execs_cons (compU [] true (n := halfF xs) (Pv := fun i v => ((vn.drop (halfF xs)).take (2 * halfF xs - halfF xs))[i]? = some v) (fun i y => ∃ t, y = .int (clip ((((numsF xs).drop (halfF xs)).take (2 * halfF xs - halfF xs)).getD i 0)) t) Hc.fx hh' (by omega) ?_ ?_ ?_ ?_)
  · intro K hK
    refine slice_il (lx Hc.fx rfl (epS (lcell (c := L + 1) Hc.n (epS (wpAny_BinOp (wpAny_Constant_int (lcell (c := L + 1) Hc.n (mul_int ⟨Dn, vn, some ((halfF xs : Nat) : Int), some ((2 * halfF xs : Nat) : Int), rfl, ln₃.at fun o e => Hc.kb _ o e, by omega, .int _ _, ?_, fun s₁₀ D₁₀ S₁₀ k₁₀ f₁₀ p₁₀ => ?_⟩ (mulOk (by decide))))))))))
    · have : (2 : Int) * ((halfF xs : Nat) : Int) = ((2 * halfF xs : Nat) : Int) := by omega
      rw [this]; exact .int _ _
    · rw [slicePick_run _ _ _ (by simp; omega) (by omega)] at p₁₀
      refine src_list (s := s₉) ⟨S₁₀.gens, S₁₀.drawn, S₁₀.os⟩ k₁₀ (vs := (vn.drop (halfF xs)).take (2 * halfF xs - halfF xs)) p₁₀.isList fun it s₁₁ hsr => hK it s₁₁ ?_
      rw [l2] at hsr
      exact hsr
  · intro C i v s' m' E' hi hv' k' n' mx
    rw [List.forIn_nil]
    exact wpAny_pure ⟨rfl, Sm.refl _, fun _ _ e => e⟩
  · rintro C i v s' m' E' hi hv' k' n' mx -
    have Fc := Fx.ofNs n'
    obtain ⟨hi', t, rfl⟩ := intsAre_at i2 hv'
    generalize (((numsF xs).drop (halfF xs)).take (2 * halfF xs - halfF xs)).getD i 0 = y at mx ⊢
    have p20 : (2 : Int) ^ (20 : Int).toNat = 1048576 := by decide
    refine wpAny_IfExp (isTrue_chain (wpAny_UnaryOp (wpAny_BinOp (wpAny_Constant_int (wpAny_Constant_int (pow_int_small (by decide) (by decide) (by decide) (neg_int (test_link (lx Fc mx (lt_int (wpAny_truthy_bool ?_)))))))))))
    rw [p20]
    by_cases q1 : -1048576 < y
    · rw [if_pos (by simpa using q1)]
      refine test_last (wpAny_BinOp (wpAny_Constant_int (wpAny_Constant_int (pow_int_small (by decide) (by decide) (by decide) (lt_int (wpAny_truthy_bool ?_))))))
      rw [p20]
      by_cases q2 : y < 1048576
      · rw [if_pos (by simpa using q2)]
        exact lx Fc mx ⟨⟨t, by rw [clip, if_pos ⟨q1, q2⟩]⟩, ⟨rfl, rfl, rfl⟩, fun _ _ e => e⟩
      · rw [if_neg (by simpa using q2)]
        refine wpAny_BinOp (lx Fc mx (wpAny_BinOp (wpAny_Constant_int (wpAny_Constant_int (pow_int_small (by decide) (by decide) (by decide) (mod_int (by decide) ?_))))))
        exact ⟨⟨_, by rw [clip, if_neg (fun q => q2 q.2), p20]⟩, ⟨rfl, rfl, rfl⟩, fun _ _ e => e⟩
    · rw [if_neg (by simpa using q1)]
      refine wpAny_BinOp (lx Fc mx (wpAny_BinOp (wpAny_Constant_int (wpAny_Constant_int (pow_int_small (by decide) (by decide) (by decide) (mod_int (by decide) ?_))))))
      exact ⟨⟨_, by rw [clip, if_neg (fun q => q1 q.1), p20]⟩, ⟨rfl, rfl, rfl⟩, fun _ _ e => e⟩
  intro Ds s₁₁ ys S₁₁ F₁₁ f₁₁ p₁₁ hyl hF
  rw [if_pos rfl] at hyl
  have iys : IntsAre ys (secondF xs) := by
    have := ints_of (f := fun i => clip ((((numsF xs).drop (halfF xs)).take (2 * halfF xs - halfF xs)).getD i 0)) hyl hF
    rw [range_map clip (by rw [← i2.length]; exact l2)] at this
    exact this
  have H₁₁ := Hc.ofFx F₁₁
  have nDs := Hc.fresh f₁₁
  have Hd := H₁₁.base.1
  have kb₃ := H₁₁.base.2
  have isB : (baseW L T s₁₁.heap).IsList Ds ys.toArray := p₁₁.isList.at fun o e => by rw [get_baseW nDs]; exact e
  have S011 := S09.tr S₁₁
  generalize baseW L T s₁₁.heap = B₄ at Hd kb₃ isB
  clear H₁₁ F₁₁ p₁₁ Hc
  have kB4 : KpB [T] s.heap B₄ := fun b o n e => kb₃ _ _ (kb₂ _ _ (kb₁ _ _ (old b o n e)))
  exact K L c A' s₁₁ B₄ _ Df Ds _ _ S011 kB4 hh' hr' hu' Hd rfl rfl (ifB.keeps kb₃) ⟨ys, isB, iys⟩
end
end Mine
end -- N8

section -- N9
open PySem PySem.W PyProof.Rows PySem.Calls
set_option Elab.async false
set_option maxRecDepth 100000
set_option maxHeartbeats 4000000
namespace Mine
open Hp Fp

section
variable {w : World} {A : Around} {s : Shared} {f T sc : Addr} {B₀ : Heap} {xs : List Int} {ps : Array Value}

/-- [x % 3 for x in a list] -/
theorem mod3 {E : Value → Shared → Prop} {env : Env} {x : Str} {px cp pos npx bpos : Pos} {k : Nat} {scope : Scope} {y : Expr} {Da : Addr} {xs : List Int} {Q : Value → Shared → Prop} (hh : A.handled = none) (ha : IsIL s.heap Da xs) (hz : xs.length < 1000)
    (hy : ∀ Q' : Value → Shared → Prop, Q' (.ref Da) s → wpAny (model P w) A (eval y env) Q' E s)
    (h : ∀ D s', Sm s s' → Ext s.heap s'.heap → s.heap.get? D = none → IsIL s'.heap D (xs.map (·.fmod 3)) → Q (.ref D) s')
    (hk : ∀ C, (compEnvC scope [] C env).scope.kind = .function := by intro _; rfl) (hd : (x == ("__debug__" : Str)) = false := by decide)
    (hcell : ∀ C, cellsFrom (C + 1) scope.names [] = [] := by intro _; rfl) (hxl : ∀ C, (compEnvC scope [] C env).kindOf x = some .local := by intro _; rfl)
    (hcl : ∀ C, ((compEnvC scope [] C env).scope.kind == .class || ((compEnvC scope [] C env).scope.kind == .module && (compEnvC scope [] C env).locals != (compEnvC scope [] C env).globals)) = false := by intro _; rfl)
    (hclos : closureFor scope env = pure [] := by rfl) (hkind : scope.kind = .function := by rfl) (hnames : ∀ x ∈ scope.names, x.2 = .local → scope.names.lookup x.1 = some .local := by decide)
    (hs : ∀ x, foldedSetIterable y env x = pure x := by intro _; rfl) :
    wpAny (model P w) A (eval (.ListComp (.BinOp (.Name x npx) .Mod (.Constant (.int 3) k cp) bpos) [⟨.Name x px, y, [], 0⟩] scope pos) env) Q E s := by
  obtain ⟨vs, l, i⟩ := ha
  have hl := i.length
  refine compQ [] true (n := vs.length) (Pv := fun i v => vs[i]? = some v) (fun i y => ∃ t, y = .int ((xs.getD i 0).fmod 3) t) hh (by omega) ?_ ?_ ?_ ?_ hcell hxl hcl hclos hkind hnames hs
  · intro K hK
    exact hy _ (src_list (Sm.refl _) (fun _ _ e => e) l hK)
  · intro C i v s' m' E' hi hv' k' n' mx
    rw [List.forIn_nil]
    exact wpAny_pure ⟨rfl, Sm.refl _, fun _ _ e => e⟩
  · rintro C j v s' m' E' hi hv' k' n' mx -
    obtain ⟨hi', t, rfl⟩ := intsAre_at i hv'
    exact wpAny_BinOp (lx (env := compEnvC scope [] C env) (Fx.ofNs n') mx (wpAny_Constant_int (mod_int (by decide) ⟨⟨_, rfl⟩, ⟨rfl, rfl, rfl⟩, fun _ _ e => e⟩)) (hk C) (hxl C) hd)
  · intro D s' ys S' k' f' p' hyl hF
    rw [if_pos rfl] at hyl
    have := ints_of (f := fun i => (xs.getD i 0).fmod 3) hyl hF
    rw [range_map (·.fmod 3) hl.symm] at this
    exact h D s' S' k' f' ⟨ys, p'.isList, this⟩

theorem law_ct {R : Result → Shared → Prop} (G : GF B₀) (kB : Ext B₀ s.heap) (hBT : B₀.get? T = none) (CT : CovT s.heap T ps) (hf : IsFn s.heap 15 f) (hsc : IsIL s.heap sc xs) (nsT : sc ≠ T) (hx : xs.length < 900)
    (hh : A.handled = none) (hr : A.depth + 20 < recursionLimit) (hu : A.units < 400)
    (h : ∀ s' more, Sg s s' → KpB [T] s.heap s'.heap → CovT s'.heap T (ps ++ more) → R (.ok (.ret (.bool true))) s') : codeAny (model P w) A (.call (.ref f) ⟨[.ref sc], []⟩) R s := by
  refine lawHead G kB hBT CT hf hsc nsT hx hh hr hu fun L c A' s₀ B m Df Ds tn E S₀ kT hh' hr' hu' H m1 m2 i1 i2 => ?_
  have hH := half_le xs
  have hfl := first_len xs
  have hsl := second_len xs
  have i1s := i1.keeps H.kb
  have i2s := i2.keeps H.kb
  refine wpAny_execs_cons (wpAny_For (Tup3 (Tup2 (lx H.fx m1 (lx H.fx m2 fun s₁ T₁ S₁ k₁ f₁ e₁ => ?_)))))
  have H₁ := H.grow k₁
  refine Tup2 (mod3 hh' (i1s.keeps k₁) (by omega) (fun _ q => lx H₁.fx m1 q) fun Da s₂ S₂ k₂ f₂ ia => ?_)
  have H₂ := H₁.grow k₂
  refine mod3 hh' ((i2s.keeps k₁).keeps k₂) (by omega) (fun _ q => lx H₂.fx m2 q) fun Db s₃ S₃ k₃ f₃ ib => ?_
  have H₃ := H₂.grow k₃
  intro s₄ T₂ S₄ k₄ f₄ e₄
  have H₄ := H₃.grow k₄
  have i2₄ := (((i2s.keeps k₁).keeps k₂).keeps k₃).keeps k₄
  refine Tup2 (lx H₄.fx m1 (wpAny_BinOp (Lst1 (Subscript_ (lx H₄.fx m2 (wpAny_Constant_int (item_il i2₄ (by decide) (by rw [hsl]; show 0 < _; omega) (by decide) fun t₅ => ?_)))))))
  intro s₅ D₅ S₅ k₅ f₅ p₅
  have H₅ : LS L T ps B s₅.heap m _ _ _ _ := H₄.grow k₅
  refine lcell (c := L + 1) H₅.n (mul_1 p₅ (by omega) fun s₆ Dr S₆ k₆ f₆ p₆ => ?_)
  have ir : IsIL s₆.heap Dr (List.replicate (halfF xs) ((secondF xs).getD 0 0)) := ⟨_, p₆.isList, intsAre_rep _ _ _⟩
  have H₆ := H₅.grow k₆
  intro s₇ T₃ S₇ k₇ f₇ e₇
  have H₇ := H₆.grow k₇
  intro s₈ TT S₈ k₈ f₈ e₈
  have H₈ := H₇.grow k₈
  have lTT : s₈.heap.IsTuple TT [Value.ref T₁, .ref T₂, .ref T₃].toArray := ⟨_, e₈, rfl, 0, rfl⟩
  refine iter_t lTT fun I s₉ S₉ k₉ f₉ n₉ i₉ => ?_
  have H₉ := H₈.grow k₉
  have nI := H₈.fresh f₉
  -- all of it in one base
  have k89 := k₉
  have k79 := k₈.trans k89
  have k69 := k₇.trans k79
  have k59 := k₆.trans k69
  have k49 := (show Ext s₄.heap s₅.heap from k₅).trans k59
  have k39 := k₄.trans k49
  have k29 := k₃.trans k39
  have k19 := k₂.trans k29
  have k09 := k₁.trans k19
  have hIB : B.get? I = none := none_of_ext H₈.kb f₉
  have kB₂ : Ext B (dropA (baseW L T s₉.heap) I) := ext_dropA H₉.base.2 hIB
  have HL : LS L T ps (dropA (baseW L T s₉.heap) I) s₉.heap _ _ _ _ _ := H₉.base.1.sub (fun _ _ e => (get_dropA e).2) (H.G.keeps kB₂)
  have hI₂ : (dropA (baseW L T s₉.heap) I).get? I = none := get_dropA_self _ _
  have gg : ∀ {D : Addr} {o : Obj} {hp : Heap}, D ∉ mutL L T → Ext hp s₈.heap → hp.get? D = some o → (dropA (baseW L T s₉.heap) I).get? D = some o := fun {D o hp} n k e => by
    have e8 := k _ _ e
    rw [get_dropA_ne _ (by rintro rfl; rw [f₉] at e8; cases e8), get_baseW n]
    exact k₉ _ _ e8
  have k78 := k₈
  have k68 := k₇.trans k78
  have k58 := k₆.trans k68
  have k48 := (show Ext s₄.heap s₅.heap from k₅).trans k58
  have k38 := k₄.trans k48
  have k28 := k₃.trans k38
  have k18 := k₂.trans k28
  have t1 : (dropA (baseW L T s₉.heap) I).IsTuple T₁ #[.ref Df, .ref Ds] := ⟨_, gg (H.fresh f₁) k18 e₁, rfl, 0, rfl⟩
  have t2 : (dropA (baseW L T s₉.heap) I).IsTuple T₂ #[.ref Da, .ref Db] := ⟨_, gg (H₃.fresh f₄) k48 e₄, rfl, 0, rfl⟩
  have t3 : (dropA (baseW L T s₉.heap) I).IsTuple T₃ #[.ref Df, .ref Dr] := ⟨_, gg (H₆.fresh f₇) k78 e₇, rfl, 0, rfl⟩
  have tt : (dropA (baseW L T s₉.heap) I).IsTuple TT [Value.ref T₁, .ref T₂, .ref T₃].toArray := ⟨_, gg (H₇.fresh f₈) (fun _ _ e => e) e₈, rfl, 0, rfl⟩
  have ja : IsIL (dropA (baseW L T s₉.heap) I) Da ((firstF xs).map (·.fmod 3)) := ia.at fun o e => gg (H₁.fresh f₂) k28 e
  have jb : IsIL (dropA (baseW L T s₉.heap) I) Db ((secondF xs).map (·.fmod 3)) := ib.at fun o e => gg (H₂.fresh f₃) k38 e
  have jr : IsIL (dropA (baseW L T s₉.heap) I) Dr (List.replicate (halfF xs) ((secondF xs).getD 0 0)) := ir.at fun o e => gg (H₅.fresh f₆) k68 e
  have j1 := i1.keeps kB₂
  have j2 := i2.keeps kB₂
  have S5' : Sm s₄ s₅ := ⟨S₅.gens, S₅.drawn, S₅.os⟩
  have S09 : Sm s s₉ := ((((((((S₀.tr S₁).tr S₂).tr S₃).tr S₄).tr S5').tr S₆).tr S₇).tr S₈).tr S₉
  have kT₂ : KpB [T] s.heap (dropA (baseW L T s₉.heap) I) := fun b o n e => kB₂ _ _ (kT b o n e)
  generalize dropA (baseW L T s₉.heap) I = B₂ at HL hI₂ t1 t2 t3 tt ja jb jr j1 j2 kT₂ kB₂
  refine lawLoop (items := [Value.ref T₁, .ref T₂, .ref T₃]) HL hh' hr' hu' hI₂ nI i₉ tt ?_ ?_
  · intro v hv
    simp only [List.mem_cons, List.not_mem_nil, or_false] at hv
    rcases hv with rfl | rfl | rfl
    · exact ⟨T₁, Df, Ds, _, _, rfl, t1, j1, j2, rows1 xs, hfl⟩
    · exact ⟨T₂, Da, Db, _, _, rfl, t2, ja, jb, rows2 xs, by simp [hfl]⟩
    · exact ⟨T₃, Df, Dr, _, _, rfl, t3, j1, jr, rows3 xs, hfl⟩
  · intro s' m' co' cc' cs' Sg' H'
    refine wpAny_execs_cons (wpAny_Return_some (wpAny_Constant_bool ?_))
    obtain ⟨more, C⟩ := H'.ct
    exact h s' more (S09.sg.tr Sg') (fun b o n e => H'.kb _ _ (kT₂ b o n e)) C
end
end Mine
end -- N9

section -- J0
open PySem PySem.W PyProof.Rows PySem.Calls
set_option Elab.async false
set_option maxRecDepth 100000
set_option maxHeartbeats 4000000
namespace Mine
open Hp Fp

theorem GF.drop {h : Heap} {T : Addr} {ot : Obj} (G : GF h) (ht : h.get? T = some ot) (hd : ot.data = .fields #[]) : GF (dropA h T) := by
  have ns : ∀ {a m}, h.Ns a m → (dropA h T).Ns a m := fun {a m} ⟨o, es, ep, e, d, r⟩ =>
    ⟨o, es, ep, by
      rw [get_dropA_ne _ (by rintro rfl; rw [ht] at e; cases e; rw [hd] at d; cases d)]; exact e, d, r⟩
  refine ⟨?_, ?_, ?_, ?_, ?_⟩
  · obtain ⟨mg, a, b⟩ := G.g; exact ⟨mg, ns a, b⟩
  · obtain ⟨mg, a, b⟩ := G.b; exact ⟨mg, ns a, b⟩
  · obtain ⟨mc, a, b⟩ := G.nolimit; exact ⟨mc, ns a, b⟩
  · obtain ⟨mg, bm, ob, a, b, c, d, e, e2, e3⟩ := G.bm
    exact ⟨mg, bm, ob, ns a, b, c, by
      rw [get_dropA_ne _ (by rintro rfl; rw [ht] at d; cases d; rw [hd] at e3; cases e3)]; exact d, e, e2, e3⟩
  · intro p hp
    obtain ⟨pm, c, a, c', o, vs, t, e1, e2, e3, e4⟩ := G.fns p hp
    refine ⟨pm, c, ?_, c', o, vs, t, e1, ?_, e3, e4⟩
    · rw [get_dropA_ne _ (by intro q; rw [q, ht] at a; cases a; cases hd)]; exact a
    · rw [get_dropA_ne _ (by rintro rfl; rw [ht] at e2; cases e2; rw [hd] at e3; cases e3; simp at e4)]; exact e2

theorem law_good {w : World} {A : Around} {s₁ : Shared} {c : ClaimW} {cl : Str → Option Addr} {mean : ExcName → Option Value} {args : List WData} {f T sc : Addr} {xs : List Int}
    (G : GF s₁.heap) (CT : CovT s₁.heap T #[]) (hf : IsFn s₁.heap 15 f) (hsc : IsIL s₁.heap sc xs) (hx : xs.length < 900) (hg : s₁.gens = #[])
    (hh : A.handled = none) (hr : A.depth + 20 < recursionLimit) (hu : A.units < 400)
    (h1 : ∀ cls, c.raises args cls = false) (h2 : c.post args (.bool true) args = true) :
    codeAny (model P w) A (.call (.ref f) ⟨[.ref sc], []⟩) (GoodWG c cl mean args s₁) s₁ := by
  obtain ⟨pm, cc, e62, hc, hok, htab⟩ := id CT
  have hT := htab.2
  have nsT : sc ≠ T := by
    rintro rfl
    obtain ⟨vs, ⟨o, e, hcl, _⟩, _⟩ := hsc
    rw [hT] at e; cases e; cases hcl
  have nTc : T ≠ cStatics := by
    rintro rfl
    obtain ⟨mc, ⟨o, es, ep, e, d, _⟩, _⟩ := G.nolimit
    rw [hT] at e; cases e; cases d
  refine law_ct (G.drop hT rfl) (fun _ _ e => (get_dropA e).2) (get_dropA_self _ _) CT hf hsc nsT hx hh hr hu fun s' more S k C => ?_
  refine ⟨.inl ⟨_, .bool true, [], rfl, h1, .bool true, h2, fun _ => ⟨List.nodup_nil, fun a ha => nomatch ha⟩⟩, ?_, S.os, S.bare (AllBare.of_eq hg)⟩
  obtain ⟨cc', ⟨oc, ec⟩, pm', e62', hc', hok', htab'⟩ := C.inj (G.drop hT rfl) (fun b o e => k b o (by simpa using (get_dropA e).1) (get_dropA e).2)
  have ecc : cc' = cc := by
    have n62 : (62 : Nat) ≠ T := by
      intro q
      rw [q, hT] at e62; cases e62
    have := k 62 _ (by simpa using n62) e62
    rw [e62'] at this
    simp only [fobj, docDef, Option.some.injEq, Obj.mk.injEq, Data.func.injEq] at this
    have q := this.2.2.1
    injection q with q1 q2 q3 q4 q5 q6 q7 q8 q9 q10 q11 q12
    simp_all
  subst ecc
  exact (OldK.refl _).step_table htab htab htab' (fun b o n e => k b o (by simpa using n) e) nTc
end Mine
end -- J0

section -- J2
open PySem PySem.W PyProof.Rows PySem.Calls
set_option Elab.async false
set_option maxRecDepth 100000
set_option maxHeartbeats 4000000
namespace Mine
open Hp Fp

/-- the module's name that a def of the written part bears -/
def pmIn (K : Frag) (f : Addr) : Value := match K.lookup f with
  | some o => (match o.data with | .func fd => fd.pyModule | _ => .none)
  | none => .none
/-- the written part holds a code object of that name -/
def codeIn (K : Frag) (c : Addr) (q : Str) : Bool := match K.lookup c with
  | some o => (match o.data with | .fields vs => (match (vs[1]? : Option Value) with | some (.str s _) => s == q | _ => false) | _ => false)
  | none => false

theorem codeIn_rec {K : Frag} {h : Heap} {c : Addr} {q : Str} (X : K.In h) (e : codeIn K c q = true) : h.CodeRec (.ref c) q := by
  unfold codeIn at e
  split at e
  · rename_i o ho
    split at e
    · rename_i vs hd
      split at e
      · rename_i s t hv
        exact ⟨c, o, vs, t, rfl, X _ _ ho, hd, by rw [hv, beq_iff_eq.mp e]⟩
      · cases e
    · cases e
  · cases e

theorem fn_of {K : Frag} {h : Heap} {i : Nat} {f c : Addr} (X : K.In h) (e : K.lookup f = some (fobj i (pmIn K f) c)) (q : codeIn K c (nm i) = true) : IsFn h i f :=
  ⟨_, c, X _ _ e, codeIn_rec X q⟩

theorem gf_of {K : Frag} {p : Program} {loose : List Str} {mean : ExcName → Option Value} {mg mb : Str → Option Value} {h : Heap} (X : K.In h) (T : Top p loose mean mg mb h)
    (hg : ∀ p ∈ globs, nsIn K mainGlobals p.1 = some (some p.2)) (hn : ∀ p ∈ bis, nsIn K mainGlobals p.1 = some none)
    (hf : ∀ p ∈ [(3, 62), (5, 69), (6, 76), (7, 83), (8, 90), (10, 97), (12, 102), (13, 107), (14, 114)], IsFn h p.1 p.2) : GF h where
  g := ⟨mg, T.g, fun p hp => mg_of X T.g (hg p hp), fun p hp => mg_none_of X T.g (hn p hp)⟩
  b := ⟨mb, T.b, fun p hp => by
    rw [T.builtins p.1 (by
      simp only [bis, List.mem_cons, List.not_mem_nil, or_false] at hp
      rcases hp with rfl | rfl | rfl | rfl | rfl | rfl | rfl | rfl | rfl | rfl | rfl | rfl <;> decide)]
    simp only [bis, List.mem_cons, List.not_mem_nil, or_false] at hp
    rcases hp with rfl | rfl | rfl | rfl | rfl | rfl | rfl | rfl | rfl | rfl | rfl | rfl <;> rfl⟩
  nolimit := T.nolimit
  bm := by
    obtain ⟨bm, ob, h1, h2, h3, h4⟩ := T.bmain
    exact ⟨mg, bm, ob, T.g, h1, h2, h3, h4⟩
  fns := hf

theorem covT_of {K : Frag} {p : Program} {loose : List Str} {mean : ExcName → Option Value} {mg mb : Str → Option Value} {h : Heap} (X : K.In h) (T : Top p loose mean mg mb h)
    (e1 : nsIn K mainGlobals "covariance" = some (some (.ref 62))) (e2 : K.lookup 62 = some (fobj 3 (pmIn K 62) 61)) (e3 : codeIn K 61 (nm 3) = true)
    (e4 : ((recsOf p).any fun d => d.name == ("covariance" : Str)) = true) : ∃ P, CovT h P #[] := by
  obtain ⟨d, hd, hn⟩ := List.any_eq_true.mp e4
  obtain ⟨a, o, fd, c, P, h1, h2, h3, h4, h5, h6⟩ := T.tab d hd
  rw [beq_iff_eq.mp hn, mg_of X T.g e1] at h1
  cases h1
  rw [X _ _ e2] at h2
  cases h2
  cases h3
  cases h4
  exact ⟨P, _, _, X _ _ e2, codeIn_rec X e3, h5, h6⟩
end Mine
end -- J2

open PySem PySem.W PyProof.Rows
set_option maxRecDepth 100000 in
set_option maxHeartbeats 8000000 in
theorem PySem.Challenge.cw_oh0010_01_holds : PySem.Challenge.rw_oh0010_01.Holds := by
  w_on
  o_law
  k_head
  (case hw => w_witness2)
  w_strict (
    k_fill
    intro w s₀ s₁ mg mb G Y fa o pm cd doc dV kV ho hd hcd hD hmg hg args vals as hpre hlay hrd hwl hlo
    have KX := kIn_of Y
    refine Ground.open G ?_
    intro T B D TE TW
    try (refine guard_noD D (by decide +kernel) ?_; clear D)
    have e62 : Mine.IsFn s₁.heap 3 62 := Mine.fn_of (c := 61) KX (by kernel_rfl) (by kernel_rfl)
    have e69 : Mine.IsFn s₁.heap 5 69 := Mine.fn_of (c := 68) KX (by kernel_rfl) (by kernel_rfl)
    have e76 : Mine.IsFn s₁.heap 6 76 := Mine.fn_of (c := 75) KX (by kernel_rfl) (by kernel_rfl)
    have e83 : Mine.IsFn s₁.heap 7 83 := Mine.fn_of (c := 82) KX (by kernel_rfl) (by kernel_rfl)
    have e90 : Mine.IsFn s₁.heap 8 90 := Mine.fn_of (c := 89) KX (by kernel_rfl) (by kernel_rfl)
    have e97 : Mine.IsFn s₁.heap 10 97 := Mine.fn_of (c := 96) KX (by kernel_rfl) (by kernel_rfl)
    have e102 : Mine.IsFn s₁.heap 12 102 := Mine.fn_of (c := 101) KX (by kernel_rfl) (by kernel_rfl)
    have e107 : Mine.IsFn s₁.heap 13 107 := Mine.fn_of (c := 106) KX (by kernel_rfl) (by kernel_rfl)
    have e114 : Mine.IsFn s₁.heap 14 114 := Mine.fn_of (c := 113) KX (by kernel_rfl) (by kernel_rfl)
    have e119 : Mine.IsFn s₁.heap 15 119 := Mine.fn_of (c := 118) KX (by kernel_rfl) (by kernel_rfl)
    have GH : Mine.GF s₁.heap := Mine.gf_of KX T (by
        intro p hp
        simp only [Mine.globs, List.mem_cons, List.not_mem_nil, or_false] at hp
        rcases hp with rfl | rfl | rfl | rfl | rfl | rfl | rfl | rfl | rfl | rfl | rfl <;> kernel_rfl) (by
        intro p hp
        simp only [Mine.bis, List.mem_cons, List.not_mem_nil, or_false] at hp
        rcases hp with rfl | rfl | rfl | rfl | rfl | rfl | rfl | rfl | rfl | rfl | rfl | rfl <;> kernel_rfl) (by
        intro p hp
        simp only [List.mem_cons, List.not_mem_nil, or_false] at hp
        rcases hp with rfl | rfl | rfl | rfl | rfl | rfl | rfl | rfl | rfl <;> assumption)
    obtain ⟨TT, CT⟩ := Mine.covT_of KX T (by kernel_rfl) (by kernel_rfl) (by kernel_rfl) (by kernel_rfl)
    have hla : mg "law" = some (.ref 119) := mg_of KX T.g (by kernel_rfl)
    have hfa : fa = 119 := by
      have q : some (Value.ref 119) = some (Value.ref fa) := hla.symm.trans hmg
      cases q
      rfl
    clear hd hcd hD hmg
    subst hfa
    wrow_args hpre hlay hrd hwl hlo
    all_goals (
      first | refine callC_kw (enter_call ?_) | refine enter_call ?_ | refine callC_kw (enter_callW ?_) | refine enter_callW ?_ | w_how
      w_top on)
    refine Mine.law_good GH CT e119 ⟨_, by assumption, by assumption⟩ (by omega) hg rfl (by decide) (by decide) ?_ ?_
    · intro cls
      rfl
    · generalize [ofPy _] = ar
      first | kernel_rfl | exact postW_of (by kernel_rfl) (by kernel_rfl) rfl)
