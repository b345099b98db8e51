import PyProof.Rows.All
import Wide.All
import OpenK.AllK
import Wide.FinOn
import Lean
import PySem.Challenge.RW_ik0061_01
set_option Elab.async false
set_option maxRecDepth 100000
set_option maxHeartbeats 8000000
set_option linter.unusedVariables false
namespace Mine
open PySem PySem.W PySem.Calls PyProof.Rows

/-! ## MBase -/
abbrev PW : Program := PySem.Challenge.pw_ik0061_01

/-- where we stand in a frame: `g` is what does not change, `news` what the frame has made and may change -/
structure At (g : Heap) (L : Addr) (m : Str → Option Value) (news : List (Addr × Obj)) (s₀ s : Shared) : Prop where
  ns : s.heap.Ns L m
  keep : ∀ b o, g.get? b = some o → s.heap.get? b = some o
  gL : g.get? L = none
  N : News g L s.heap news
  nd : (news.map (·.1)).Nodup
  e : s = { s₀ with heap := s.heap, toks := s.toks }

noncomputable def upd (m : Str → Option Value) (x : Str) (v : Value) : Str → Option Value := fun y => if y = x then some v else m y

theorem lk_here {m : Str → Option Value} {x : Str} {v : Value} : upd m x v x = some v := by unfold upd; rw [if_pos rfl]
theorem lk_there {m : Str → Option Value} {x y : Str} {v u : Value} (h : m y = some u) (hd : (decide (y = x)) = false) : upd m x v y = some u := by unfold upd; rw [if_neg (of_decide_eq_false hd)]; exact h
local macro_rules | `(tactic| walk_at "lk") => `(tactic| first | with_reducible assumption | with_reducible exact lk_here | (with_reducible apply lk_there; (case h => walk_at "lk"); decide +kernel) | with_unfolding_all rfl)

structure Room (A : Around) (k : Nat) : Prop where
  h : A.handled = none
  d : A.depth + k < 1000
  u : A.units + 10 * k + 10 < 9900

theorem Room.in1 {A : Around} {k : Nat} (R : Room A (k + 1)) : Room A.in1 k := ⟨R.h, by have := R.d; show A.depth + k < 1000; omega, by have := R.u; show A.units + 1 + 10 * k + 10 < 9900; omega⟩
theorem Room.deeper {A : Around} {k : Nat} {env : Env} (R : Room A (k + 1)) : Room (A.deeper env) k :=
  ⟨R.h, by have := R.d; show A.depth + 1 + k < 1000; omega, by have := R.u; show A.units + 3 + 10 * k + 10 < 9900; omega⟩
theorem Room.less {A : Around} {k j : Nat} (R : Room A k) (h : j ≤ k := by omega) : Room A j := ⟨R.h, by have := R.d; omega, by have := R.u; omega⟩
theorem Room.depth {A : Around} {k : Nat} (R : Room A k) : A.depth < recursionLimit := by have := R.d; show A.depth < 1000; omega
theorem Room.units {A : Around} {k : Nat} (R : Room A k) : A.units < cLine := by have := R.u; show A.units < 9900; omega

def nthStmt : List Stmt → Nat → Stmt
  | [], _ => .Pass ⟨0, 0, 0, 0⟩
  | s :: _, 0 => s
  | _ :: r, k + 1 => nthStmt r k

noncomputable def fnIdx (k : Nat) : Stmt := nthStmt PW.main.body k
noncomputable def fnName (k : Nat) : Str := match fnIdx k with | .FunctionDef n _ _ _ _ _ _ _ _ _ => n | _ => Str.empty
noncomputable def fnParams (k : Nat) : Arguments := match fnIdx k with | .FunctionDef _ a _ _ _ _ _ _ _ _ => a | _ => default
noncomputable def fnBody (k : Nat) : List Stmt := match fnIdx k with | .FunctionDef _ _ b _ _ _ _ _ _ _ => b | _ => []
noncomputable def fnScope (k : Nat) : Scope := match fnIdx k with | .FunctionDef _ _ _ _ _ _ s _ _ _ => s | _ => default

noncomputable def fdOf (k c : Nat) (dV pm : Value) : FuncData := fnOf (fnName k) (fnName k) (fnParams k) (fnBody k) (fnScope k) dV .none .none pm none (.ref c) .none

noncomputable def FnAt (h : Heap) (a k c : Nat) (dV : Value) : Prop := ∃ o pm, h.get? a = some o ∧ o.data = .func (fdOf k c dV pm) ∧ h.CodeRec (.ref c) (fnName k)

theorem FnAt.keeps {h h' : Heap} {a k c : Nat} {dV : Value} (x : FnAt h a k c dV) (hk : ∀ b o, h.get? b = some o → h'.get? b = some o) : FnAt h' a k c dV :=
  let ⟨o, pm, h1, h2, h3⟩ := x; ⟨o, pm, hk _ _ h1, h2, h3.keeps hk⟩

/-- name, address, index in the program, code's address, defaults -/
noncomputable def fns : List (Str × Nat × Nat × Nat × Value) :=
  [("reduce", 30, 3, 29, .ref 23), ("_c3_merge", 35, 4, 34, .none), ("fspath", 108, 13, 107, .none), ("_get_sep", 122, 17, 121, .none), ("join", 129, 18, 128, .none),
   ("splitroot", 136, 19, 135, .none), ("dirname", 143, 20, 142, .none), ("normpath", 150, 21, 149, .none), ("commonpath", 155, 22, 154, .none),
   ("_law_places", 160, 24, 159, .none), ("_law_line", 167, 25, 166, .none), ("_law_clash", 172, 26, 171, .none)]

noncomputable def blts : List Str := ["str", "bytes", "type", "isinstance", "issubclass", "tuple", "map", "min", "max", "enumerate", "range", "len", "iter", "next", "sorted", "abs", "ValueError", "TypeError", "RuntimeError", "AttributeError", "BytesWarning", "StopIteration"]

structure GF (mg mb : Str → Option Value) (h : Heap) : Prop where
  g : h.Ns mainGlobals mg
  b : h.Ns builtinsNs mb
  nolimit : h.NoLimit
  bi : ∀ x : Str, x ≠ "__name__" → mb x = bootBuiltins x
  free : ∀ x ∈ blts, mg x = none
  fn : ∀ d ∈ fns, mg d.1 = some (.ref d.2.1) ∧ FnAt h d.2.1 d.2.2.1 d.2.2.2.1 d.2.2.2.2
  miss : mg "_initial_missing" = some (.ref 22)
  missO : ∃ o, h.get? 22 = some o ∧ o.cls = .type "object"
  dflt : IsTup h 23 #[.ref 22]

theorem GF.keeps {mg mb : Str → Option Value} {h h' : Heap} (G : GF mg mb h) (hk : ∀ b o, h.get? b = some o → h'.get? b = some o) : GF mg mb h' where
  g := G.g.keeps hk
  b := G.b.keeps hk
  nolimit := G.nolimit.keeps hk
  bi := G.bi
  free := G.free
  fn := fun d hd => ⟨(G.fn d hd).1, (G.fn d hd).2.keeps hk⟩
  miss := G.miss
  missO := let ⟨o, h1, h2⟩ := G.missO; ⟨o, hk _ _ h1, h2⟩
  dflt := let ⟨o, h1, h2⟩ := G.dflt; ⟨o, hk _ _ h1, h2⟩

section
variable {M : Model} {A : Around} {E : Value → Shared → Prop} {s s₀ : Shared} {g : Heap} {L : Addr} {m : Str → Option Value} {news : List (Addr × Obj)} {env : Env} {mg mb : Str → Option Value}

noncomputable def allObjs (h : Heap) (L : Addr) : List (Addr × Obj) := (List.range h.objs.size).filterMap fun a => if a = L then none else (h.get? a).map fun o => (a, o)
theorem mem_allObjs {h : Heap} {L a : Addr} {o : Obj} : (a, o) ∈ allObjs h L ↔ a ≠ L ∧ h.get? a = some o := by
  unfold allObjs
  rw [List.mem_filterMap]
  constructor
  · rintro ⟨b, hb, e⟩
    by_cases hL : b = L
    · simp [hL] at e
    · rw [if_neg hL] at e
      cases ho : h.get? b with
      | none => simp [ho] at e
      | some o' => simp [ho] at e; obtain ⟨rfl, rfl⟩ := e; exact ⟨hL, ho⟩
  · rintro ⟨hL, ho⟩
    exact ⟨a, List.mem_range.mpr (Heap.lt_size ho), by rw [if_neg hL, ho]; rfl⟩
theorem empty_get (a : Addr) : (({} : Heap)).get? a = none := by unfold Heap.get?; simp
theorem At.fr (I : At g L m news s₀ s) : Fr {} L s.heap m := ⟨I.ns, (fun b o e => by rw [empty_get] at e; cases e), Nat.zero_le _⟩
theorem At.all (I : At g L m news s₀ s) : News {} L s.heap (allObjs s.heap L) := fun p hp => by
  obtain ⟨a, o⟩ := p
  obtain ⟨h1, h2⟩ := mem_allObjs.mp hp
  exact ⟨h2, h1, empty_get a⟩
theorem At.move (I : At g L m news s₀ s) {m' : Str → Option Value} {h' : Heap} {tk : Nat} (hn : h'.Ns L m') (hk : ∀ b o, b ≠ L → s.heap.get? b = some o → h'.get? b = some o) : At g L m' news s₀ { s with heap := h', toks := tk } :=
  ⟨hn, fun b o e => hk b o (fun h => by rw [h, I.gL] at e; cases e) (I.keep b o e), I.gL, fun p hp => ⟨hk _ _ (I.N p hp).2.1 (I.N p hp).1, (I.N p hp).2⟩, I.nd, by have := I.e; rw [this]⟩
theorem At.back (I : At g L m news s₀ s) {h' : Heap} {tk : Nat} (F : Fr {} L h' m) (N : News {} L h' (allObjs s.heap L)) : At g L m news s₀ { s with heap := h', toks := tk } :=
  I.move F.ns fun b o hb e => (N (b, o) (mem_allObjs.mpr ⟨hb, e⟩)).1
theorem At.tick (I : At g L m news s₀ s) (n : Nat) : At g L m news s₀ { s with toks := n } := I.move I.ns fun _ _ _ e => e
theorem At.grow (I : At g L m news s₀ s) {s' : Shared} (K : Keeps s s') : At g L m news s₀ s' := by
  obtain ⟨h', tk, rfl, hk⟩ := K
  exact I.move (I.ns.keeps hk) fun b o _ e => hk b o e
theorem At.keeps (I : At g L m news s₀ s) (h : ∀ b o, s₀.heap.get? b = some o → g.get? b = some o) : Keeps s₀ s := ⟨s.heap, s.toks, I.e, fun b o e => I.keep b o (h b o e)⟩
theorem At.drop {news' : List (Addr × Obj)} (I : At g L m news s₀ s) (h : news'.Sublist news) : At g L m news' s₀ s :=
  ⟨I.ns, I.keep, I.gL, fun p hp => I.N p (h.subset hp), (h.map _).nodup I.nd, I.e⟩
theorem At.tail {p : Addr × Obj} (I : At g L m (p :: news) s₀ s) : At g L m news s₀ s := I.drop (List.sublist_cons_self ..)
theorem At.perm {news' : List (Addr × Obj)} (I : At g L m news s₀ s) (h : news'.Perm news) : At g L m news' s₀ s :=
  ⟨I.ns, I.keep, I.gL, fun p hp => I.N p (h.subset hp), ((h.map _).nodup_iff).mpr I.nd, I.e⟩
theorem At.get {a : Addr} {o : Obj} (I : At g L m news s₀ s) (h : (a, o) ∈ news) : s.heap.get? a = some o := (I.N _ h).1
theorem At.ltL (I : At g L m news s₀ s) : L < s.heap.objs.size := I.ns.lt
theorem At.push (I : At g L m news s₀ s) (o : Obj) {tk : Nat} (ho : o.isFreed = false := by rfl) : At g L m ((s.heap.objs.size, o) :: news) s₀ { s with heap := s.heap.push o, toks := tk } := by
  have J := I.move (tk := tk) (I.ns.push o) fun b o' _ e => Heap.get?_push_of_some o e
  refine ⟨J.ns, J.keep, J.gL, fun p hp => ?_, ?_, J.e⟩
  · rcases List.mem_cons.mp hp with rfl | hp
    · refine ⟨Heap.get?_push_size _ ho, Nat.ne_of_gt I.ltL, ?_⟩
      cases hq : g.get? s.heap.objs.size with
      | none => rfl
      | some o' => exact absurd (Heap.lt_size (I.keep _ _ hq)) (Nat.lt_irrefl _)
    · exact J.N p hp
  · rw [List.map_cons, List.nodup_cons]
    refine ⟨fun h => ?_, I.nd⟩
    obtain ⟨p, hp, e⟩ := List.mem_map.mp h
    exact absurd (Heap.lt_size (I.N p hp).1) (by rw [e]; exact Nat.lt_irrefl _)
theorem At.backPush (I : At g L m news s₀ s) {h' : Heap} {tk : Nat} {o : Obj} (F : Fr {} L h' m) (N : News {} L h' ((s.heap.objs.size, o) :: allObjs s.heap L)) : At g L m ((s.heap.objs.size, o) :: news) s₀ { s with heap := h', toks := tk } := by
  have J := I.back (tk := tk) F fun p hp => N p (.tail _ hp)
  refine ⟨J.ns, J.keep, J.gL, fun p hp => ?_, ?_, J.e⟩
  · rcases List.mem_cons.mp hp with rfl | hp
    · refine ⟨(N _ (.head _)).1, Nat.ne_of_gt I.ltL, ?_⟩
      cases hq : g.get? s.heap.objs.size with
      | none => rfl
      | some o' => exact absurd (Heap.lt_size (I.keep _ _ hq)) (Nat.lt_irrefl _)
    · exact J.N p hp
  · rw [List.map_cons, List.nodup_cons]
    refine ⟨fun h => ?_, I.nd⟩
    obtain ⟨p, hp, e⟩ := List.mem_map.mp h
    exact absurd (Heap.lt_size (I.N p hp).1) (by rw [e]; exact Nat.lt_irrefl _)
/-- a mutable object is changed -/
theorem At.change {a : Addr} {o o' : Obj} {f : Obj → Obj} (I : At g L m ((a, o) :: news) s₀ s) {h' : Heap} {tk : Nat} (hs : Heap.SameBut a s.heap h') (ho : h'.get? a = some o') : At g L m ((a, o') :: news) s₀ { s with heap := h', toks := tk } := by
  have hN := I.N (a, o) (.head _)
  have nd := I.nd
  rw [List.map_cons, List.nodup_cons] at nd
  refine ⟨I.ns.sameBut hs (Ne.symm hN.2.1), fun b x e => (hs.2 b fun h => ?_).trans (I.keep b x e), I.gL, fun p hp => ?_, I.nd, by have := I.e; rw [this]⟩
  · have := hN.2.2; rw [← h, e] at this; cases this
  · rcases List.mem_cons.mp hp with rfl | hp
    · exact ⟨ho, hN.2⟩
    · exact ⟨(hs.2 _ fun h => nd.1 (List.mem_map.mpr ⟨p, hp, h⟩)).trans (I.N p (.tail _ hp)).1, (I.N p (.tail _ hp)).2⟩

/-- a local name -/
theorem r_loc {x : Str} {pos : Pos} {v : Value} {Q : Value → Shared → Prop} (I : At g L m news s₀ s) (h : Q v s) (hl : env.kindOf x = some .local := by with_unfolding_all rfl) (hL : env.locals = L := by with_unfolding_all rfl) (hv : m x = some v := by walk_at "lk")
    (hk : env.scope.kind = .function := by with_unfolding_all rfl)
    (hd : (x == ("__debug__" : Str)) = false := by decide +kernel) : wpAny M A (eval (.Name x pos) env) Q E s :=
  wpAny_Name (wpAny_loadName_local hk hl (hL ▸ I.ns) hv h) hd

theorem r_blt {x : Str} {pos : Pos} {v : Value} {Q : Value → Shared → Prop} (I : At g L m news s₀ s) (G : GF mg mb g) (hv : bootBuiltins x = some v) (h : Q v s)
    (hf : x ∈ blts := by decide +kernel) (hn : x ≠ "__name__" := by decide +kernel)
    (hk : env.scope.kind = .function := by with_unfolding_all rfl) (hl : env.kindOf x = some .globalImplicit := by with_unfolding_all rfl) (hg : env.globals = mainGlobals := by with_unfolding_all rfl) (hb : env.builtins = builtinsNs := by with_unfolding_all rfl)
    (hd : (x == ("__debug__" : Str)) = false := by decide +kernel) : wpAny M A (eval (.Name x pos) env) Q E s :=
  Name_function_global hk hl (loadGlobal_builtin (env := env) (hg ▸ G.g.keeps I.keep) (G.free x hf) (hb ▸ G.b.keeps I.keep) ((G.bi x hn).trans hv) h) hd

theorem r_glob {x : Str} {pos : Pos} {v : Value} {Q : Value → Shared → Prop} (I : At g L m news s₀ s) (G : GF mg mb g) (hv : mg x = some v) (h : Q v s)
    (hk : env.scope.kind = .function := by with_unfolding_all rfl) (hl : env.kindOf x = some .globalImplicit := by with_unfolding_all rfl) (hg : env.globals = mainGlobals := by with_unfolding_all rfl)
    (hd : (x == ("__debug__" : Str)) = false := by decide +kernel) : wpAny M A (eval (.Name x pos) env) Q E s :=
  Name_function_global hk hl (loadGlobal_global (env := env) (hg ▸ G.g.keeps I.keep) hv h) hd

theorem r_store {x : Str} {v : Value} {Q : Unit → Shared → Prop} (I : At g L m news s₀ s) (h : ∀ s', At g L (upd m x v) news s₀ s' → Q () s')
    (hk : env.scope.kind = .function := by with_unfolding_all rfl) (hl : env.kindOf x = some .local := by with_unfolding_all rfl) (hL : env.locals = L := by with_unfolding_all rfl) : wpAny M A (storeName env x v) Q E s :=
  wpAny_storeName_local hl (hL ▸ I.ns) (fun h' hn hs => h _ (I.move (hL ▸ hn) fun b o hb e => ((hL ▸ hs : Heap.SameBut L s.heap h').2 b hb).trans e))
    (by rw [hk]; rfl)

theorem r_str {x : Str} {k : Nat} {pos : Pos} {Q : Value → Shared → Prop} (I : At g L m news s₀ s) (h : ∀ t s', At g L m news s₀ s' → Q (.str x t) s') : wpAny M A (eval (.Constant (.str x) k pos) env) Q E s :=
  Calls.Constant_str (h _ _ (I.tick _))
theorem r_int {i : Int} {k : Nat} {pos : Pos} {Q : Value → Shared → Prop} (I : At g L m news s₀ s) (h : ∀ t s', At g L m news s₀ s' → Q (.int i t) s') : wpAny M A (eval (.Constant (.int i) k pos) env) Q E s :=
  wpAny_Constant_int (h _ _ (I.tick _))
theorem r_bool {b : Bool} {k : Nat} {pos : Pos} {Q : Value → Shared → Prop} (h : Q (.bool b) s) : wpAny M A (eval (.Constant (.bool b) k pos) env) Q E s := wpAny_Constant_bool h
theorem r_none {k : Nat} {pos : Pos} {Q : Value → Shared → Prop} (h : Q .none s) : wpAny M A (eval (.Constant .none k pos) env) Q E s := wpAny_Constant_none h
end

noncomputable def Done (s : Shared) (P : Value → Shared → Prop) (f : Flow) (s' : Shared) : Prop := Keeps s s' ∧ P (match f with | .ret v => v | _ => .none) s'
section
variable {prog : Program} {w : World} {A : Around} {E : Value → Shared → Prop} {s : Shared} {mg mb : Str → Option Value}
theorem enter {a k c : Nat} {dV : Value} {args : List Value} {binds : List (Str × Value)} {body : List Stmt} {P : Value → Shared → Prop} {n : Nat} (R : Room A (n + 1)) (hf : FnAt s.heap a k c dV) (hlim : s.heap.NoLimit)
    (hbody : fnBody k = body)
    (hbind : ∀ pm, BindsTo s (fdOf k c dV pm) ⟨args, []⟩ binds)
    {names : List Str} (hcell : ((fnScope k).names.all fun x => decide (x.2 ≠ .cell)) = true) (hloc : (names.all fun x => decide ((fnScope k).names.lookup x = some .local)) = true)
    (h : ∀ pm A' s₁, Room A' n → A' = A.deeper (callEnv (fdOf k c dV pm) s.heap.objs.size a) → At s.heap s.heap.objs.size (fun x => binds.reverse.lookup x) [] s s₁ →
      let KP : Flow → Shared → Prop := Done s P
      let EV : Env := callEnv (fdOf k c dV pm) s.heap.objs.size a
      wpAny (model prog w) A' (execs body EV) KP (fun _ _ => False) s₁)
    (hnames : binds.map (·.1) = names := by with_unfolding_all rfl)
    (hco : (fnScope k).isCoroutine = false := by with_unfolding_all rfl) (hgen : (fnScope k).isGenerator = false := by with_unfolding_all rfl) (hk : (fnScope k).kind = .function := by with_unfolding_all rfl) :
    wpAny (model prog w) A (call (.ref a) args) (fun v s' => Keeps s s' ∧ P v s') E s := by
  obtain ⟨o, pm, ho, hd, hcd⟩ := hf
  subst hbody
  refine wpAny_call (codeAny_call_def R.depth ho hd hlim hcd rfl (hbind pm) (fun x hx => of_decide_eq_true (List.all_eq_true.mp hcell x hx)) (fun x hx => of_decide_eq_true (List.all_eq_true.mp hloc x.1 (hnames ▸ List.mem_map_of_mem hx))) (fun h₀ hns hk₀ => ?_) hco hgen hk)
  refine wpAny_mono (h pm _ _ R.deeper rfl ⟨hns, hk₀, by
    cases hq : s.heap.get? s.heap.objs.size with
    | none => rfl
    | some o' => exact absurd (Heap.lt_size hq) (Nat.lt_irrefl _), News.nil, List.nodup_nil, rfl⟩) (fun _ _ x => x) fun _ _ x => x.elim

theorem use {t : Sem Value} {P : Value → Shared → Prop} {g : Heap} {L : Addr} {m : Str → Option Value} {news : List (Addr × Obj)} {s₀ : Shared} {Q : Value → Shared → Prop} (I : At g L m news s₀ s)
    (hc : wpAny (model prog w) A t (fun v s' => Keeps s s' ∧ P v s') E s) (h : ∀ v s', At g L m news s₀ s' → P v s' → Q v s') : wpAny (model prog w) A t Q E s :=
  wpAny_mono hc (fun v s' x => h v s' (I.grow x.1) x.2) fun _ _ x => x
end
/-! ## MTop -/
def s0x : Stmt := nthStmt PW.main.body 0
def s1x : Stmt := nthStmt PW.main.body 1
def s2x : Stmt := nthStmt PW.main.body 2
def s3x : Stmt := nthStmt PW.main.body 3
def s4x : Stmt := nthStmt PW.main.body 4
def s5x : Stmt := nthStmt PW.main.body 5
def s6x : Stmt := nthStmt PW.main.body 6
def s7x : Stmt := nthStmt PW.main.body 7
def s8x : Stmt := nthStmt PW.main.body 8
def s9x : Stmt := nthStmt PW.main.body 9
def s10x : Stmt := nthStmt PW.main.body 10
def s11x : Stmt := nthStmt PW.main.body 11
def s12x : Stmt := nthStmt PW.main.body 12
def s13x : Stmt := nthStmt PW.main.body 13
def s14x : Stmt := nthStmt PW.main.body 14
def s15x : Stmt := nthStmt PW.main.body 15
def s16x : Stmt := nthStmt PW.main.body 16
def s17x : Stmt := nthStmt PW.main.body 17
def s18x : Stmt := nthStmt PW.main.body 18
def s19x : Stmt := nthStmt PW.main.body 19
def s20x : Stmt := nthStmt PW.main.body 20
def s21x : Stmt := nthStmt PW.main.body 21
def s22x : Stmt := nthStmt PW.main.body 22
def s23x : Stmt := nthStmt PW.main.body 23
def s24x : Stmt := nthStmt PW.main.body 24
def s25x : Stmt := nthStmt PW.main.body 25
def s26x : Stmt := nthStmt PW.main.body 26
def s27x : Stmt := nthStmt PW.main.body 27
def s28x : Stmt := nthStmt PW.main.body 28
def PW2 : Program := { PW with main := { PW.main with body := [s0x, s1x, s2x, s3x, s4x, s5x, s6x, s7x, s8x, s9x, s10x, s11x, s12x, s13x, s14x, s15x, s16x, s17x, s18x, s19x, s20x, s21x, s22x, s23x, s24x, s25x, s26x, s27x, s28x] } }
def RW2 : OpenLaw := { PySem.Challenge.rw_ik0061_01 with prog := PW2 }
theorem rw2_eq : RW2 = PySem.Challenge.rw_ik0061_01 := rfl
noncomputable def fnO (k c : Nat) (dV pm : Value) : Obj := { cls := .type "function", data := .func (fdOf k c dV pm) }
noncomputable def codeO (nm : Str) (t line argc flags r8 : Nat) (full : Bool) (ih : Nat) : Obj :=
  { cls := .type "code", data := .fields #[.str nm t, .str nm (t + 1), .str "/claim/cut.py" (t + 2), .int line 0, .int argc 0, .int 0 0, .int 0 0, .int flags 0, .ref r8, .bool true, .int 181 0, .ref (r8 + 1), .none,
      (if full then .ref (r8 + 2) else .none), (if full then .ref (r8 + 3) else .none), .ref (if full then r8 + 4 else r8 + 2), .int ih 0, .int line 0, .str "/claim/cut.py" (ih + 1)] }
noncomputable def enD (P : Params) (x : Str) (t : Nat) (v : Value) : DictEntry := { hash := PyData.keyHash P x, key := .str x t, val := v }
noncomputable def dA (P : Params) : List DictEntry := [enD P "__name__" 165 (.str "law_ik0061_01" 387), enD P "__doc__" 166 .none, enD P "__package__" 167 .none, enD P "__loader__" 168 (.builtin "__main__.__loader__#opaque"), enD P "__spec__" 169 .none,
  enD P "__annotations__" 170 (.ref 6), enD P "__builtins__" 171 (.ref 4), enD P "__file__" 173 (.str "/claim/cut.py" 172), enD P "__cached__" 174 .none, enD P "_wall" 193 (.ref 21)]
noncomputable def dB (P : Params) : List DictEntry := [enD P "_initial_missing" 196 (.ref 22), enD P "reduce" 208 (.ref 30), enD P "_c3_merge" 214 (.ref 35), enD P "_plain_name" 225 (.ref 42), enD P "ABCMeta" 251 (.ref 59),
  enD P "_ABCLike" 294 (.ref 92), enD P "_abc_plain_meta" 301 (.ref 101), enD P "fspath" 313 (.ref 108), enD P "_check_arg_types" 326 (.ref 115), enD P "_get_sep" 335 (.ref 122)]
noncomputable def dC (P : Params) : List DictEntry := [enD P "join" 346 (.ref 129), enD P "splitroot" 355 (.ref 136), enD P "dirname" 365 (.ref 143), enD P "normpath" 380 (.ref 150), enD P "commonpath" 386 (.ref 155),
  enD P "_law_places" 394 (.ref 160), enD P "_law_line" 404 (.ref 167), enD P "_law_clash" 410 (.ref 172), enD P "_law_told" 426 (.ref 179), enD P "law" 432 (.ref 184)]
noncomputable def mainO (P : Params) : Obj := { cls := .type "dict", data := .dict ⟨dA P ++ (dB P ++ dC P)⟩ 30 }
noncomputable def tk : Value := .str "cpy313.functools" 194
noncomputable def tp : Value := .str "cpy313.posixpath" 327
noncomputable def tl : Value := .str "law_ik0061_01" 387
noncomputable def K2 (P : Params) : Frag :=
  [(nat_lit 3, mainO P),
   (nat_lit 22, { cls := .type "object" }),
   (nat_lit 23, { cls := .type "tuple", data := .seq #[.ref 22] }),
   (nat_lit 29, codeO (fnName 3) 197 6 3 3 24 true 206),
   (nat_lit 30, fnO 3 29 (.ref 23) tk),
   (nat_lit 34, codeO (fnName 4) 209 18 1 3 31 false 212),
   (nat_lit 35, fnO 4 34 .none tk),
   (nat_lit 107, codeO (fnName 13) 304 69 1 3 102 true 311),
   (nat_lit 108, fnO 13 107 .none (.str "os" 302)),
   (nat_lit 121, codeO (fnName 17) 329 98 1 3 116 true 333),
   (nat_lit 122, fnO 17 121 .none tp),
   (nat_lit 128, codeO (fnName 18) 336 103 1 7 123 true 344),
   (nat_lit 129, fnO 18 128 .none tp),
   (nat_lit 135, codeO (fnName 19) 347 120 1 3 130 true 353),
   (nat_lit 136, fnO 19 135 .none tp),
   (nat_lit 142, codeO (fnName 20) 356 134 1 3 137 true 363),
   (nat_lit 143, fnO 20 142 .none tp),
   (nat_lit 149, codeO (fnName 21) 366 142 1 3 144 true 378),
   (nat_lit 150, fnO 21 149 .none tp),
   (nat_lit 154, codeO (fnName 22) 381 167 1 3 151 false 384),
   (nat_lit 155, fnO 22 154 .none tp),
   (nat_lit 159, codeO (fnName 24) 389 197 1 3 156 false 392),
   (nat_lit 160, fnO 24 159 .none tl),
   (nat_lit 166, codeO (fnName 25) 395 219 1 3 161 true 402),
   (nat_lit 167, fnO 25 166 .none tl),
   (nat_lit 171, codeO (fnName 26) 405 227 1 3 168 false 408),
   (nat_lit 172, fnO 26 171 .none tl),
   (nat_lit 178, codeO (fnName 27) 411 231 1 3 173 true 424),
   (nat_lit 179, fnO 27 178 .none tl),
   (nat_lit 183, codeO (fnName 28) 427 249 1 3 180 false 430),
   (nat_lit 184, fnO 28 183 .none tl)]
/-! ## MTopL -/
/-- the program with the defs that the head looks at -/
noncomputable def VW : Program := { PW2 with main := { PW2.main with body := [s0x, s2x, s4x, s6x, s8x, s10x, s11x, s13x, s15x, s17x, s18x, s19x, s20x, s21x, s22x, s24x, s25x, s26x, s27x, s28x] } }
noncomputable def hkl : List Addr := [3, 22, 23, 29, 30, 34, 35, 107, 108, 121, 122, 128, 129, 135, 136, 142, 143, 149, 150, 154, 155, 159, 160, 166, 167, 171, 172, 178, 179, 183, 184]
theorem hke : ∀ P, hkl = (K2 P).map (·.1) := fun _ => by kernel_rfl
/-- the top, run once by the kernel, with the library's quick twins -/
theorem left_all : LeftO RW2.row.prog VW ["_initial_missing", "reduce"] (fun s => xlAt VW [] s && recOk (RowW.records RW2.row.toRowW) s) (Hook.obs (kmHook K2 hkl hke [174, 181])) (Hook.val (kmHook K2 hkl hke [174, 181])) 2464 := by
  intro w
  unfold openEnds topFrom fencedOpening
  simp only [PySem.W.Fast.te14364793385576792824, PySem.W.Fast.te14082659384304107361, PySem.W.Fast.te4187177175401517315]
  kernel_rfl
/-! ## MRules -/
noncomputable def Seq (M : Model) (A : Around) (rest : List Stmt) (env : Env) (Q : Flow → Shared → Prop) (E : Value → Shared → Prop) (f : Flow) (s : Shared) : Prop :=
  match f with | .next => wpAny M A (execs rest env) Q E s | f => Q f s

noncomputable def Br (b : Bool) (X Y : Prop) : Prop := match b with | true => X | false => Y
theorem Br.t {X Y : Prop} (h : X) : Br true X Y := h
theorem Br.f {X Y : Prop} (h : Y) : Br false X Y := h
theorem Br.tt {b : Bool} {X Y : Prop} (hb : b = true) (h : X) : Br b X Y := by subst hb; exact h
theorem Br.ff {b : Bool} {X Y : Prop} (hb : b = false) (h : Y) : Br b X Y := by subst hb; exact h
theorem Br.split {b : Bool} {X Y : Prop} (h1 : b = true → X) (h2 : b = false → Y) : Br b X Y := by cases b; exact h2 rfl; exact h1 rfl

noncomputable def TB (c : Value) (X : Bool → Prop) : Prop := ∃ b, c = .bool b ∧ X b
theorem TB.intro {b : Bool} {X : Bool → Prop} (h : X b) : TB (.bool b) X := ⟨b, rfl, h⟩
noncomputable def NR (v : Value) (X : Prop) : Prop := (∀ a, v ≠ .ref a) ∧ X
theorem NR.none {X : Prop} (h : X) : NR .none X := ⟨nofun, h⟩
theorem NR.str {x : Str} {t : Tok} {X : Prop} (h : X) : NR (.str x t) X := ⟨nofun, h⟩
noncomputable def retOf (f : Flow) : Value := match f with | .ret v => v | _ => .none

section
variable {M : Model} {A : Around} {E : Value → Shared → Prop} {s s₀ : Shared} {g : Heap} {L : Addr} {m : Str → Option Value} {news : List (Addr × Obj)} {env : Env} {mg mb : Str → Option Value}

theorem sq_next {rest : List Stmt} {Q : Flow → Shared → Prop} (h : wpAny M A (execs rest env) Q E s) : Seq M A rest env Q E .next s := h
theorem sq_ret {rest : List Stmt} {v : Value} {Q : Flow → Shared → Prop} (h : Q (.ret v) s) : Seq M A rest env Q E (.ret v) s := h
theorem sq_brk {rest : List Stmt} {Q : Flow → Shared → Prop} (h : Q .brk s) : Seq M A rest env Q E .brk s := h
theorem sq_cont {rest : List Stmt} {Q : Flow → Shared → Prop} (h : Q .cont s) : Seq M A rest env Q E .cont s := h
theorem x_cons {st : Stmt} {rest : List Stmt} {Q : Flow → Shared → Prop} (h : wpAny M A (exec st env) (Seq M A rest env Q E) E s) : wpAny M A (execs (st :: rest) env) Q E s :=
  wpAny_execs_cons (wpAny_mono h (fun f _ hf => by cases f <;> exact hf) fun _ _ e => e)
theorem x_nil {Q : Flow → Shared → Prop} (h : Q .next s) : wpAny M A (execs [] env) Q E s := wpAny_execs_nil h
theorem x_ret {e : Expr} {pos : Pos} {rest : List Stmt} {Q : Flow → Shared → Prop} (h : wpAny M A (eval e env) (fun v s' => Q (.ret v) s') E s) : wpAny M A (execs (.Return (some e) pos :: rest) env) Q E s :=
  x_cons (wpAny_Return_some h)
theorem x_brk {pos : Pos} {rest : List Stmt} {Q : Flow → Shared → Prop} (h : Q .brk s) : wpAny M A (execs (.Break pos :: rest) env) Q E s := x_cons (wpAny_Break h)
theorem x_cont {pos : Pos} {rest : List Stmt} {Q : Flow → Shared → Prop} (h : Q .cont s) : wpAny M A (execs (.Continue pos :: rest) env) Q E s := x_cons (wpAny_Continue h)
theorem x_assign {x : Str} {pos' pos : Pos} {value : Expr} {rest : List Stmt} {Q : Flow → Shared → Prop}
    (h : wpAny M A (eval value env) (fun v s₁ => wpAny M A (storeName env x v) (fun _ s₂ => wpAny M A (execs rest env) Q E s₂) E s₁) E s)
    (hs : swapsWith value (some (.Name x pos')) pos.line env = pure false := by with_unfolding_all rfl) : wpAny M A (execs (.Assign [.Name x pos'] value pos :: rest) env) Q E s :=
  x_cons (wpAny_Assign_Name h hs)
noncomputable def SetK (env : Env) (x : Str) (v : Value) (P : Shared → Prop) (s₁ : Shared) : Prop :=
  ∃ g L m news s₀, At g L m news s₀ s₁ ∧ env.locals = L ∧ ∀ s', At g L (upd m x v) news s₀ s' → P s'
theorem SetK.intro {x : Str} {v : Value} {P : Shared → Prop} (I : At g L m news s₀ s) (h : ∀ s', At g L (upd m x v) news s₀ s' → P s') (hL : env.locals = L := by with_unfolding_all rfl) : SetK env x v P s :=
  ⟨_, _, _, _, _, I, hL, h⟩
noncomputable def NewK (c : String) (vs : List Value) (P : Value → Shared → Prop) (s₁ : Shared) : Prop :=
  ∃ g L m news s₀, At g L m news s₀ s₁ ∧ vs.length ≤ sizeLine ∧ ∀ a s', At g L m ((a, { cls := .type c, data := .seq vs.toArray }) :: news) s₀ s' → P (.ref a) s'
theorem NewK.intro {c : String} {vs : List Value} {P : Value → Shared → Prop} (I : At g L m news s₀ s) (h : ∀ a s', At g L m ((a, { cls := .type c, data := .seq vs.toArray }) :: news) s₀ s' → P (.ref a) s') (hz : vs.length ≤ sizeLine := by rw [sizeLine_eq]; simp only [List.length_cons, List.length_nil]; omega) : NewK c vs P s :=
  ⟨_, _, _, _, _, I, hz, h⟩
/-- assignment in a frame -/
theorem x_set {x : Str} {pos' pos : Pos} {value : Expr} {rest : List Stmt} {Q : Flow → Shared → Prop}
    (h : wpAny M A (eval value env) (fun v s₁ => SetK env x v (fun s' => wpAny M A (execs rest env) Q E s') s₁) E s)
    (hs : swapsWith value (some (.Name x pos')) pos.line env = pure false := by with_unfolding_all rfl)
    (hk : env.scope.kind = .function := by with_unfolding_all rfl) (hl : env.kindOf x = some .local := by with_unfolding_all rfl) : wpAny M A (execs (.Assign [.Name x pos'] value pos :: rest) env) Q E s :=
  x_assign (wpAny_mono h (fun v s₁ h₁ => let ⟨_, _, _, _, _, I, hL, k⟩ := h₁; r_store I k hk hl hL) fun _ _ e => e) hs
theorem x_if {test : Expr} {body orelse rest : List Stmt} {pos : Pos} {Q : Flow → Shared → Prop}
    (h : wpAny M A (isTrue test env (eval test env)) (fun b s₂ => Br b (wpAny M A (execs body env) (Seq M A rest env Q E) E s₂) (wpAny M A (execs orelse env) (Seq M A rest env Q E) E s₂)) E s) :
    wpAny M A (execs (.If test body orelse pos :: rest) env) Q E s :=
  x_cons (wpAny_If (wpAny_mono h (fun b _ hb => by cases b <;> exact hb) fun _ _ e => e))
theorem x_expr {e : Expr} {pos : Pos} {rest : List Stmt} {Q : Flow → Shared → Prop}
    (h : wpAny M A (eval e env) (fun v s' => NR v (wpAny M A (execs rest env) Q E s')) E s) (hi : interactive env = false := by with_unfolding_all rfl) (hs : swapsWith e none pos.line env = pure false := by with_unfolding_all rfl) :
    wpAny M A (execs (.Expr e pos :: rest) env) Q E s :=
  x_cons (wpAny_Expr (wpAny_mono h (fun v _ hv => by
    cases v <;> first | exact hv.2 | exact (hv.1 _ rfl).elim) fun _ _ e => e) hi hs)

theorem t_plain {e : Expr} {whole : Sem Value} {Q : Bool → Shared → Prop} (h : wpAny M A whole (fun v s₁ => wpAny M A (truthy v) Q E s₁) E s)
    (he : isTrue e env whole = (do let v ← whole; standAt e.pos; holding [v] (truthy v)) := by with_unfolding_all rfl) : wpAny M A (isTrue e env whole) Q E s := isTrue_plain h he
theorem e_cmp {l r : Expr} {op : CmpOp} {pos : Pos} {Q : Value → Shared → Prop}
    (h : wpAny M A (eval l env) (fun a s₁ => wpAny M A (eval r env) (fun b s₂ => wpAny M A (compareOp op a b) Q E s₂) E s₁) E s)
    (hm : behindInMarks op r = false := by with_unfolding_all rfl) : wpAny M A (eval (.Compare l [op] [r] pos) env) Q E s := wpAny_Compare1 h hm
theorem t_cmp {l r : Expr} {op : CmpOp} {pos : Pos} {whole : Sem Value} {Q : Bool → Shared → Prop}
    (h : wpAny M A (eval l env) (fun a s₁ => wpAny M A (eval r env) (fun b s₂ => wpAny M A (compareOp op a b) (fun c s₃ => TB c fun b => Q b s₃) E s₂) E s₁) E s)
    (hm : behindInMarks op r = false := by with_unfolding_all rfl) : wpAny M A (isTrue (.Compare l [op] [r] pos) env whole) Q E s :=
  wpAny_isTrue_Compare1 (wpAny_mono h (fun _ _ h₁ => wpAny_mono h₁ (fun _ _ h₂ => wpAny_mono h₂ (fun _ _ h₃ => let ⟨_, hc, hq⟩ := h₃; hc ▸ wpAny_truthy_bool hq) fun _ _ e => e) fun _ _ e => e) fun _ _ e => e) hm
end

section
variable {prog : Program} {w : World} {A : Around} {E : Value → Shared → Prop} {s s₀ : Shared} {g : Heap} {L : Addr} {m : Str → Option Value} {news : List (Addr × Obj)} {env : Env} {mg mb : Str → Option Value}

/-- a call of a function of the program, by its name -/
theorem e_call1 {f : Str} {p pos : Pos} {e : Expr} {rest : List Expr} {a k c : Nat} {dV : Value} {Q : Value → Shared → Prop} (I : At g L m news s₀ s) (G : GF mg mb g) (hd : (f, a, k, c, dV) ∈ fns)
    (h : wpAny (model prog w) A (spliced (backTo pos (starEach (e :: rest) env))) (fun vs s₁ => (∃ L m news s₀, At g L m news s₀ s₁) ∧ wpAny (model prog w) A (call (.ref a) vs) Q E s₁) E s)
    (hse : starEach (e :: rest) env = (false, eval e env) :: starEach rest env := by with_unfolding_all rfl)
    (hk : env.scope.kind = .function := by with_unfolding_all rfl) (hl : env.kindOf f = some .globalImplicit := by with_unfolding_all rfl) (hg : env.globals = mainGlobals := by with_unfolding_all rfl)
    (hdb : (f == ("__debug__" : Str)) = false := by decide +kernel) :
    wpAny (model prog w) A (eval (.Call (.Name f p) (e :: rest) [] pos) env) Q E s := by
  obtain ⟨hv, o, pm, ho, hdt, _⟩ := G.fn _ hd
  refine Call_ (r_glob I G hv ?_ hk hl hg hdb)
  refine callWith_def (o := o) hdt (wpAny_mono h (fun vs s₁ h₁ => ?_) fun _ _ e => e) hse
  obtain ⟨⟨_, _, _, _, I'⟩, h₁⟩ := h₁
  exact ⟨I'.keep _ _ ho, h₁⟩


/-- a call of a built-in function, by its name -/
theorem e_blt {f : Str} {p pos : Pos} {id : String} {e : Expr} {rest : List Expr} {Q : Value → Shared → Prop} (I : At g L m news s₀ s) (G : GF mg mb g) (hv : bootBuiltins f = some (.builtin id))
    (h : wpAny (model prog w) A (spliced (backTo pos (starEach (e :: rest) env))) (fun vs s₁ => wpAny (model prog w) A (call (.builtin id) vs) Q E s₁) E s)
    (hf : f ∈ blts := by decide +kernel) (hn : f ≠ "__name__" := by decide +kernel)
    (hse : starEach (e :: rest) env = (false, eval e env) :: starEach rest env := by with_unfolding_all rfl) (hst : ((backTo pos (starEach rest env)).any (·.1)) = false := by with_unfolding_all rfl)
    (hk : env.scope.kind = .function := by with_unfolding_all rfl) (hl : env.kindOf f = some .globalImplicit := by with_unfolding_all rfl) (hg : env.globals = mainGlobals := by with_unfolding_all rfl) (hb : env.builtins = builtinsNs := by with_unfolding_all rfl)
    (hdb : (f == ("__debug__" : Str)) = false := by decide +kernel) :
    wpAny (model prog w) A (eval (.Call (.Name f p) (e :: rest) [] pos) env) Q E s :=
  Call_ (r_blt I G hv (PyProof.Rows.callWith_builtin1 h hse hst) hf hn hk hl hg hb hdb)
theorem e_type {f : Str} {p pos : Pos} {id : String} {e : Expr} {rest : List Expr} {Q : Value → Shared → Prop} (I : At g L m news s₀ s) (G : GF mg mb g) (hv : bootBuiltins f = some (.type id))
    (h : wpAny (model prog w) A (spliced (backTo pos (starEach (e :: rest) env))) (fun vs s₁ => wpAny (model prog w) A (call (.type id) vs) Q E s₁) E s)
    (hf : f ∈ blts := by decide +kernel) (hn : f ≠ "__name__" := by decide +kernel)
    (hse : starEach (e :: rest) env = (false, eval e env) :: starEach rest env := by with_unfolding_all rfl) (hst : ((backTo pos (starEach rest env)).any (·.1)) = false := by with_unfolding_all rfl)
    (hk : env.scope.kind = .function := by with_unfolding_all rfl) (hl : env.kindOf f = some .globalImplicit := by with_unfolding_all rfl) (hg : env.globals = mainGlobals := by with_unfolding_all rfl) (hb : env.builtins = builtinsNs := by with_unfolding_all rfl)
    (hdb : (f == ("__debug__" : Str)) = false := by decide +kernel) :
    wpAny (model prog w) A (eval (.Call (.Name f p) (e :: rest) [] pos) env) Q E s :=
  Call_ (r_blt I G hv (PyProof.Rows.callWith_type1 h hse hst) hf hn hk hl hg hb hdb)
theorem sp_cons {e : Expr} {rest : List Expr} {pos : Pos} {Q : List Value → Shared → Prop} (h : wpAny (model prog w) A (eval e env) (fun v s₁ => wpAny (model prog w) A (spliced (backTo pos (starEach rest env))) (fun vs s₂ => Q (v :: vs) s₂) E s₁) E s)
    (hse : starEach (e :: rest) env = (false, eval e env) :: starEach rest env := by with_unfolding_all rfl) : wpAny (model prog w) A (spliced (backTo pos (starEach (e :: rest) env))) Q E s := spliced_more h hse
theorem sp_nil {pos : Pos} {Q : List Value → Shared → Prop} (h : Q [] s) : wpAny (model prog w) A (spliced (backTo pos (starEach [] env))) Q E s := spliced_none h

theorem keeps_refl (s : Shared) : Keeps s s := ⟨s.heap, s.toks, rfl, fun _ _ e => e⟩
end
/-! ## MPrim -/
section
variable {prog : Program} {w : World} {A : Around} {E : Value → Shared → Prop} {s s₀ : Shared} {g : Heap} {L : Addr} {m : Str → Option Value} {news : List (Addr × Obj)} {env : Env} {mg mb : Str → Option Value}

theorem issub_nested_self {k : Value} {Q : Fin → Shared → Prop} {dep : Int} {tk : Tok} (hk : k = .int dep tk) (hq : Q (.done (.ret (.bool true))) s) :
    wpAny (model prog w) A (Builtin.«issubclass.nested» ⟨[.type "str", .type "str", k], []⟩) Q E s := by
  subst hk
  have h1 := sub_str_str
  have h2 := F.sub_type_type
  repeat (any_goals (first | assumption | (rw [h1]) | wp_step))

theorem issub_nested_tup {a : Addr} {k : Value} {Q : Value → Shared → Prop} {tk : Tok} (hk : k = .int 0 tk) (ht : IsTup s.heap a #[.type "str", .type "bytes"])
    (hq : Q (.bool true) s) :
    wpAny (model prog w) A (Builtin.«issubclass.nested» ⟨[.type "str", .ref a, k], []⟩) (fun fin s' => ∃ v, fin = .done (.ret v) ∧ Q v s') E s := by
  subst hk
  have hT : s.TypeIs (.ref a) "tuple" := ht.typeIs
  obtain ⟨o, ho, hc, n, hd⟩ := ht
  have h1 := sub_tuple_tuple
  show wpAny _ _ (typeOf (.ref a) >>= _) _ _ s
  refine wpAny_bind (wpAny_typeOf hT ?_)
  rw [if_neg (by decide)]
  refine wpAny_bind (m := Builtin.Builtins.unionMembers (.ref a)) (wpAny_bind (wpAny_typeOf hT ?_))
  rw [if_neg (by decide)]
  refine wpAny_pure (wpAny_bind (wpAny_isInstance hT h1 ?_))
  rw [if_pos rfl, if_neg (by decide)]
  refine wpAny_bind (wpAny_seqItems ho hd ?_)
  show wpAny _ _ (forIn (#[Value.type "str", Value.type "bytes"] : Array Value) _ _ >>= _) _ _ s
  rw [← Array.forIn_toList]
  show wpAny _ _ (forIn [Value.type "str", Value.type "bytes"] _ _ >>= _) _ _ s
  rw [List.forIn_cons]
  refine wpAny_bind (wpAny_bind (wpAny_bind (wpAny_call ?_)))
  refine codeAny_call_builtin (by decide +kernel) F.entry_issubclass_nested ?_
  refine wpAny_mono (Q := fun _ s' => s' = s) (E := fun _ _ => False) ?_ (fun _ s₁ e => ?_) (fun _ _ x => x.elim)
  · exact wpAny_of_eq (a := ()) (by unfold checkBuiltinCall; kernel_rfl) rfl
  subst e
  refine issub_nested_self (dep := 1) rfl ?_
  exact wpAny_bind (wpAny_truthy_bool (wpAny_bind (wpAny_pure (wpAny_pure (wpAny_pure (wpAny_pure ⟨_, rfl, hq⟩))))))

theorem issub_tup {a : Addr} {Q : Value → Shared → Prop} (ht : IsTup s.heap a #[.type "str", .type "bytes"]) (hq : Q (.bool true) s) :
    wpAny (model prog w) A (call (.builtin "issubclass") [.type "str", .ref a]) Q E s := by
  refine wpAny_call (codeAny_call_builtin F.plain_issubclass F.entry_issubclass ?_)
  refine wpAny_mono (Q := fun _ s' => s' = s) (E := fun _ _ => False) ?_ (fun _ s₁ e => ?_) (fun _ _ x => x.elim)
  · exact wpAny_of_eq (a := ()) (by unfold checkBuiltinCall; kernel_rfl) rfl
  subst e
  refine issubclass_outer ?_
  refine wpAny_mono (issub_nested_tup (k := rawInt 0) rfl ht hq) (fun fin s' h => ?_) fun _ _ e => e
  obtain ⟨v, rfl, h⟩ := h
  exact h

theorem type_str {x : Str} {t : Tok} {Q : Value → Shared → Prop} (h : Q (.type "str") s) : wpAny (model prog w) A (call (.type "type") [.str x t]) Q E s :=
  call_type_of (Tx := "str") rfl (by decide) h

theorem r_tuple {elts : List Expr} {k : Nat} {pos : Pos} {Q : Value → Shared → Prop}
    (h : wpAny (model prog w) A (spliced (backTo pos (starEach elts env))) (fun vs s₁ => NewK "tuple" vs Q s₁) E s) :
    wpAny (model prog w) A (eval (.Tuple elts k pos) env) Q E s :=
  Tuple_ (wpAny_mono h (fun vs s₁ h₁ => let ⟨_, _, _, _, _, I, hz, k⟩ := h₁; wpAny_newObj_type (k _ _ (I.push (tk := _) _)) (by show vs.toArray.size ≤ sizeLine; rw [List.size_toArray]; exact hz)) fun _ _ e => e)
theorem r_list {elts : List Expr} {pos : Pos} {Q : Value → Shared → Prop}
    (h : wpAny (model prog w) A (spliced (backTo pos (starEach elts env))) (fun vs s₁ => NewK "list" vs Q s₁) E s) :
    wpAny (model prog w) A (eval (.List elts pos) env) Q E s :=
  List_ (wpAny_mono h (fun vs s₁ h₁ => let ⟨_, _, _, _, _, I, hz, k⟩ := h₁; wpAny_newObj_type (k _ _ (I.push (tk := _) _)) (by show vs.toArray.size ≤ sizeLine; rw [List.size_toArray]; exact hz)) fun _ _ e => e)

theorem At.tup {a : Addr} {vs : List Value} (I : At g L m ((a, { cls := .type "tuple", data := .seq vs.toArray }) :: news) s₀ s) : IsTup s.heap a vs.toArray := ⟨_, I.get (.head _), rfl, _, rfl⟩
theorem At.list {a : Addr} {vs : List Value} (I : At g L m ((a, { cls := .type "list", data := .seq vs.toArray }) :: news) s₀ s) : s.heap.IsList a vs.toArray := ⟨_, I.get (.head _), rfl, _, rfl⟩
end

theorem fa_fspath {mg mb : Str → Option Value} {h : Heap} (G : GF mg mb h) : FnAt h 108 13 107 .none := (G.fn ("fspath", 108, 13, 107, .none) (by decide +kernel)).2
theorem fa_get_sep {mg mb : Str → Option Value} {h : Heap} (G : GF mg mb h) : FnAt h 122 17 121 .none := (G.fn ("_get_sep", 122, 17, 121, .none) (by decide +kernel)).2
theorem fa_join {mg mb : Str → Option Value} {h : Heap} (G : GF mg mb h) : FnAt h 129 18 128 .none := (G.fn ("join", 129, 18, 128, .none) (by decide +kernel)).2
theorem fa_splitroot {mg mb : Str → Option Value} {h : Heap} (G : GF mg mb h) : FnAt h 136 19 135 .none := (G.fn ("splitroot", 136, 19, 135, .none) (by decide +kernel)).2
theorem fa_dirname {mg mb : Str → Option Value} {h : Heap} (G : GF mg mb h) : FnAt h 143 20 142 .none := (G.fn ("dirname", 143, 20, 142, .none) (by decide +kernel)).2
theorem fa_normpath {mg mb : Str → Option Value} {h : Heap} (G : GF mg mb h) : FnAt h 150 21 149 .none := (G.fn ("normpath", 150, 21, 149, .none) (by decide +kernel)).2

local macro_rules | `(tactic| walk_at "go") => `(tactic| first
  | with_reducible refine x_if ?_
  | with_reducible refine x_ret ?_
  | with_reducible refine x_set ?_
  | with_reducible refine x_expr ?_
  | with_reducible refine x_nil ?_
  | with_reducible refine x_brk ?_
  | with_reducible refine x_cont ?_
  | with_reducible refine sp_cons ?_
  | with_reducible refine sp_nil ?_
  | with_reducible refine r_loc (by assumption) ?_
  | (with_reducible refine r_str (by assumption) ?_; intro _ _ _)
  | (with_reducible refine r_int (by assumption) ?_; intro _ _ _)
  | with_reducible refine r_bool ?_
  | with_reducible refine r_none ?_
  | with_reducible refine r_tuple ?_
  | with_reducible refine r_list ?_
  | (with_reducible refine SetK.intro (by assumption) ?_; intro _ _)
  | (with_reducible refine NewK.intro (by assumption) ?_; intro _ _ _)
  | with_reducible refine t_cmp ?_
  | with_reducible refine e_cmp ?_
  | with_reducible refine wpAny_truthy_bool ?_
  | with_reducible refine TB.intro ?_
  | with_reducible refine NR.none ?_
  | with_reducible refine NR.str ?_
  | with_reducible refine sq_next ?_
  | with_reducible refine sq_ret ?_
  | with_reducible refine sq_brk ?_
  | with_reducible refine sq_cont ?_
  | with_reducible refine Br.t ?_
  | with_reducible refine Br.f ?_)

section
variable {prog : Program} {w : World} {A : Around} {E : Value → Shared → Prop} {s : Shared} {mg mb : Str → Option Value}

theorem c_get_sep {x : Str} {t : Tok} (R : Room A 5) (G : GF mg mb s.heap) :
    wpAny (model prog w) A (call (.ref 122) [.str x t]) (fun v s' => Keeps s s' ∧ ∃ t', v = .str "/" t') E s := by
  refine enter (binds := [("path", .str x t)]) (P := fun v _ => ∃ t', v = .str "/" t') (n := 4) R (fa_get_sep G) G.nolimit rfl (fun pm => .of_eq rfl) (by decide +kernel) (names := ["path"]) (by decide +kernel) ?_
  intro pm A s R hA I KP EV
  refine x_if ?_
  with_reducible refine t_plain ?_
  with_reducible refine e_blt I G Boot.«isinstance» ?_
  walk_at "go"
  walk_at "go"
  walk_at "go"
  with_reducible refine r_blt I G Boot.«bytes» ?_
  walk_at "go"
  refine IsiPair.str_bytes ?_
  have I := I.tick (s.toks + 1)
  repeat walk_at "go"
  rename At _ _ _ _ _ _ => I
  exact ⟨I.keeps (fun _ _ e => e), _, rfl⟩

theorem c_fspath {x : Str} {t : Tok} (R : Room A 5) (G : GF mg mb s.heap) :
    wpAny (model prog w) A (call (.ref 108) [.str x t]) (fun v s' => Keeps s s' ∧ v = .str x t) E s := by
  refine enter (binds := [("path", .str x t)]) (P := fun v _ => v = .str x t) (n := 4) R (fa_fspath G) G.nolimit rfl (fun pm => .of_eq rfl) (by decide +kernel) (names := ["path"]) (by decide +kernel) ?_
  intro pm A s R hA I KP EV
  refine x_set ?_
  with_reducible refine e_type I G Boot.«type» ?_
  repeat walk_at "go"
  refine type_str ?_
  repeat walk_at "go"
  rename At _ _ _ _ _ _ => I
  with_reducible refine t_plain ?_
  with_reducible refine e_blt I G Boot.«issubclass» ?_
  repeat walk_at "go"
  with_reducible refine r_blt (by assumption) G Boot.«str» ?_
  repeat walk_at "go"
  with_reducible refine r_blt (by assumption) G Boot.«bytes» ?_
  repeat walk_at "go"
  rename At _ _ _ _ _ _ => I
  refine issub_tup I.tup ?_
  repeat walk_at "go"
  rename At _ _ _ _ _ _ => I
  exact ⟨I.keeps (fun _ _ e => e), rfl⟩
end
/-! ## MStr -/
section
variable {prog : Program} {w : World} {A : Around} {E : Value → Shared → Prop} {s s₀ : Shared} {g : Heap} {L : Addr} {m : Str → Option Value} {news : List (Addr × Obj)} {env : Env} {mg mb : Str → Option Value}

theorem e_bin {l r : Expr} {op : Operator} {pos : Pos} {Q : Value → Shared → Prop}
    (h : wpAny (model prog w) A (eval l env) (fun a s₁ => wpAny (model prog w) A (eval r env) (fun b s₂ => wpAny (model prog w) A (binaryOp op a b) Q E s₂) E s₁) E s) :
    wpAny (model prog w) A (eval (.BinOp l op r pos) env) Q E s := wpAny_BinOp h
theorem e_meth {o : Expr} {name : Str} {apos pos : Pos} {args : List Expr} {pl : Sem Bool} {Q : Value → Shared → Prop}
    (h : wpAny (model prog w) A (eval o env) (fun ov s₁ => wpAny (model prog w) A (getMethod ov name pl) (fun fx s₂ => wpAny (model prog w) A (callWith pos fx.1 fx.2 (backTo pos (starEach args env)) []) Q E s₂) E s₁) E s)
    (he : eval (.Call (.Attribute o name apos) args [] pos) env = (do let ov ← eval o env; standAt apos.atName; let (f, first) ← holding [ov] (getMethod ov name pl); callWith pos f first (backTo pos (starEach args env)) []) := by with_unfolding_all rfl) :
    wpAny (model prog w) A (eval (.Call (.Attribute o name apos) args [] pos) env) Q E s := MethodCall_ h he
theorem cw_m0 {pos : Pos} {id : String} {a : Value} {Q : Value → Shared → Prop} (h : wpAny (model prog w) A (call (.builtin id) [a]) Q E s) :
    wpAny (model prog w) A (callWith pos (Value.builtin id, [a]).1 (Value.builtin id, [a]).2 (backTo pos (starEach [] env)) []) Q E s := callWith_method0 h
theorem cw_m1 {pos : Pos} {id : String} {a : Value} {e : Expr} {rest : List Expr} {Q : Value → Shared → Prop}
    (h : wpAny (model prog w) A (spliced (backTo pos (starEach (e :: rest) env))) (fun vs s₁ => wpAny (model prog w) A (call (.builtin id) (a :: vs)) Q E s₁) E s)
    (hse : starEach (e :: rest) env = (false, eval e env) :: starEach rest env := by with_unfolding_all rfl) (hst : ((backTo pos (starEach rest env)).any (·.1)) = false := by with_unfolding_all rfl) :
    wpAny (model prog w) A (callWith pos (Value.builtin id, [a]).1 (Value.builtin id, [a]).2 (backTo pos (starEach (e :: rest) env)) []) Q E s := callWith_method1 h hse hst

theorem q_rfind {x y : Str} {t u : Tok} {Q : Value → Shared → Prop} (I : At g L m news s₀ s) (h : ∀ t' s', At g L m news s₀ s' → Q (.int (Txt.rfind x y) t') s') :
    wpAny (model prog w) A (call (.builtin "str.rfind") [.str x t, .str y u]) Q E s := SC.rfind (h _ _ (I.tick _))
theorem q_rstripC {x y : Str} {t u : Tok} {Q : Value → Shared → Prop} (I : At g L m news s₀ s) (h : ∀ t' s', At g L m news s₀ s' → Q (.str (Txt.rstripChars x y) t') s') (hx : x.length ≤ sizeLine) :
    wpAny (model prog w) A (call (.builtin "str.rstrip") [.str x t, .str y u]) Q E s := SC.rstripChars (fun _ _ => h _ _ (I.tick _)) hx
theorem q_startswith {x y : Str} {t u : Tok} {Q : Value → Shared → Prop} (h : Q (.bool (Txt.startswith x y)) s) :
    wpAny (model prog w) A (call (.builtin "str.startswith") [.str x t, .str y u]) Q E s := SC.startswith h
theorem q_endswith {x y : Str} {t u : Tok} {Q : Value → Shared → Prop} (h : Q (.bool (Txt.endswith x y)) s) :
    wpAny (model prog w) A (call (.builtin "str.endswith") [.str x t, .str y u]) Q E s := SC.endswith h
theorem q_len_str {x : Str} {t : Tok} {Q : Value → Shared → Prop} (I : At g L m news s₀ s) (hx : x.length ≤ sizeLine) (h : ∀ t' s', At g L m news s₀ s' → Q (.int x.length t') s') :
    wpAny (model prog w) A (call (.builtin "len") [.str x t]) Q E s := len_str (by rw [sizeLine_eq] at hx; omega) (h _ _ (I.tick _))
theorem q_split {x y : Str} {t u : Tok} {Q : Value → Shared → Prop} (I : At g L m news s₀ s) (hy : (y.length == 0) = false) (hx : x.length + 2 ≤ sizeLine)
    (h : ∀ a (l : List (Str × Tok)) s', l.map (·.1) = Txt.split x y → At g L m ((a, { cls := .type "list", data := .seq (strValues l).toArray }) :: news) s₀ s' → Q (.ref a) s') :
    wpAny (model prog w) A (call (.builtin "str.split") [.str x t, .str y u]) Q E s := by
  exact splitN1 I.fr I.all hy (fun l h' k hl F N => h _ l _ hl (I.backPush F N)) hx

theorem q_add {x y : Str} {t u : Tok} {Q : Value → Shared → Prop} (I : At g L m news s₀ s) (hz : x.length + y.length ≤ sizeLine) (h : ∀ t' s', At g L m news s₀ s' → Q (.str (x ++ y) t') s') :
    wpAny (model prog w) A (binaryOp .Add (.str x t) (.str y u)) Q E s := add_str (fun _ _ => h _ _ (I.tick _)) hz
theorem q_iadd {x y : Str} {t u : Tok} {Q : Value → Shared → Prop} (I : At g L m news s₀ s) (hz : x.length + y.length ≤ sizeLine) (h : ∀ t' s', At g L m news s₀ s' → Q (.str (x ++ y) t') s') :
    wpAny (model prog w) A (inplaceOp .Add (.str x t) (.str y u)) Q E s := iadd_str (fun _ _ => h _ _ (I.tick _)) hz
theorem q_addi {a b : Int} {t u : Tok} {Q : Value → Shared → Prop} (I : At g L m news s₀ s) (h : ∀ t' s', At g L m news s₀ s' → Q (.int (a + b) t') s') :
    wpAny (model prog w) A (binaryOp .Add (.int a t) (.int b u)) Q E s := wpAny_add_int (h _ _ (I.tick _))
theorem q_muls {x : Str} {n : Int} {t u : Tok} {Q : Value → Shared → Prop} (I : At g L m news s₀ s) (hok : MulOk x n) (h : ∀ t' s', At g L m news s₀ s' → Q (.str (Txt.mul x n) t') s') :
    wpAny (model prog w) A (binaryOp .Mult (.str x t) (.int n u)) Q E s := SB.mul hok (fun _ _ => h _ _ (I.tick _))
theorem q_eqs {x y : Str} {t u : Tok} {Q : Value → Shared → Prop} (h : Q (.bool (x == y)) s) :
    wpAny (model prog w) A (compareOp .Eq (.str x t) (.str y u)) Q E s := eq_str h
theorem q_nes {x y : Str} {t u : Tok} {Q : Value → Shared → Prop} (h : Q (.bool (x != y)) s) :
    wpAny (model prog w) A (compareOp .NotEq (.str x t) (.str y u)) Q E s := ne_str h
theorem q_trs {x : Str} {t : Tok} {Q : Bool → Shared → Prop} (I : At g L m news s₀ s) (hx : x.length ≤ sizeLine) (h : ∀ s', At g L m news s₀ s' → Q (x.length != 0) s') :
    wpAny (model prog w) A (truthy (.str x t)) Q E s := by
  refine P.truthy_str (by rw [sizeLine_eq] at hx; omega) ?_
  have := h _ (I.tick (s.toks + 1 + 1))
  have e : ((x.length : Int) != 0) = (x.length != 0) := by cases hn : x.length <;> rfl
  rw [e]; exact this

theorem r_sub {value slice : Expr} {pos : Pos} {Q : Value → Shared → Prop}
    (h : wpAny (model prog w) A (eval value env) (fun o s₁ => wpAny (model prog w) A (eval slice env) (fun i s₂ => wpAny (model prog w) A (subscriptTail value slice o i) Q E s₂) E s₁) E s) :
    wpAny (model prog w) A (eval (.Subscript value slice pos) env) Q E s := Subscript_ h

/-- a slice object, as it lies: `x[i:j]` -/
theorem r_slice {lower upper : Option Expr} {p : Pos} {Q : Value → Shared → Prop}
    (h : wpAny (model prog w) A (evalPart lower env) (fun l s₁ => wpAny (model prog w) A (evalPart upper env) (fun u s₂ =>
      Q (.ref s₂.heap.objs.size) { s₂ with heap := s₂.heap.push { cls := .type "slice", data := .fields #[l, u, .none] } }) E s₁) E s) :
    wpAny (model prog w) A (eval (.Slice lower upper none p) env) Q E s :=
  wpAny_Slice (wpAny_mono h (fun _ _ h₁ => wpAny_mono h₁ (fun _ _ h₂ => wpAny_evalPart_none h₂) fun _ _ e => e) fun _ _ e => e)
theorem q_slice_ns {value slice : Expr} {x : Str} {t uj : Tok} {j : Int} {Q : Value → Shared → Prop} (I : At g L m news s₀ s) (hx : x.length ≤ sizeLine)
    (h : ∀ t' s', At g L m news s₀ s' → (Txt.slice x none (some j)).length ≤ x.length → Q (.str (Txt.slice x none (some j)) t') s')
    (hs : subscripted slice false (.str x t) (.ref s.heap.objs.size) = operate [.ref s.heap.objs.size, .str x t] (getItem (.str x t) (.ref s.heap.objs.size)) := by with_unfolding_all rfl)
    (hl : ∀ r, letTemporaryGo value (.str x t) r = pure () := by intro _; with_unfolding_all rfl) :
    wpAny (model prog w) A (subscriptTail value slice (.str x t) (.ref s.heap.objs.size)) Q E { s with heap := s.heap.push { cls := .type "slice", data := .fields #[.none, .int j uj, .none] } } :=
  slice_strN_ns_len I.fr I.all (fun h' t' k F N z => h t' _ (I.back F N) z) hs hl hx
theorem q_slice_sn {value slice : Expr} {x : Str} {t ui : Tok} {i : Int} {Q : Value → Shared → Prop} (I : At g L m news s₀ s) (hx : x.length ≤ sizeLine)
    (h : ∀ t' s', At g L m news s₀ s' → (Txt.slice x (some i) none).length ≤ x.length → Q (.str (Txt.slice x (some i) none) t') s')
    (hs : subscripted slice false (.str x t) (.ref s.heap.objs.size) = operate [.ref s.heap.objs.size, .str x t] (getItem (.str x t) (.ref s.heap.objs.size)) := by with_unfolding_all rfl)
    (hl : ∀ r, letTemporaryGo value (.str x t) r = pure () := by intro _; with_unfolding_all rfl) :
    wpAny (model prog w) A (subscriptTail value slice (.str x t) (.ref s.heap.objs.size)) Q E { s with heap := s.heap.push { cls := .type "slice", data := .fields #[.int i ui, .none, .none] } } :=
  slice_strN_sn_len I.fr I.all (fun h' t' k F N z => h t' _ (I.back F N) z) hs hl hx
theorem q_slice_ss {value slice : Expr} {x : Str} {t ui uj : Tok} {i j : Int} {Q : Value → Shared → Prop} (I : At g L m news s₀ s) (hx : x.length ≤ sizeLine)
    (h : ∀ t' s', At g L m news s₀ s' → (Txt.slice x (some i) (some j)).length ≤ x.length → Q (.str (Txt.slice x (some i) (some j)) t') s')
    (hs : subscripted slice false (.str x t) (.ref s.heap.objs.size) = operate [.ref s.heap.objs.size, .str x t] (getItem (.str x t) (.ref s.heap.objs.size)) := by with_unfolding_all rfl)
    (hl : ∀ r, letTemporaryGo value (.str x t) r = pure () := by intro _; with_unfolding_all rfl) :
    wpAny (model prog w) A (subscriptTail value slice (.str x t) (.ref s.heap.objs.size)) Q E { s with heap := s.heap.push { cls := .type "slice", data := .fields #[.int i ui, .int j uj, .none] } } :=
  slice_strN_ss_len I.fr I.all (fun h' t' k F N z => h t' _ (I.back F N) z) hs hl hx

theorem r_pnone {Q : Value → Shared → Prop} (h : Q .none s) : wpAny (model prog w) A (evalPart none env) Q E s := wpAny_evalPart_none h
theorem r_psome {e : Expr} {Q : Value → Shared → Prop} (h : wpAny (model prog w) A (eval e env) Q E s) : wpAny (model prog w) A (evalPart (some e) env) Q E s := wpAny_evalPart_some h

theorem t_and {x : Expr} {rest : List Expr} {pos : Pos} {whole : Sem Value} {Q : Bool → Shared → Prop}
    (h : wpAny (model prog w) A (isTrue x env (eval x env)) (fun c s' => Br c (wpAny (model prog w) A (isTrue (.BoolOp .And rest pos) env whole) Q E s') (Q false s')) E s) :
    wpAny (model prog w) A (isTrue (.BoolOp .And (x :: rest) pos) env whole) Q E s :=
  isTrue_and (wpAny_mono h (fun c _ hc => by cases c <;> exact hc) fun _ _ e => e)
theorem t_or {x : Expr} {rest : List Expr} {pos : Pos} {whole : Sem Value} {Q : Bool → Shared → Prop}
    (h : wpAny (model prog w) A (isTrue x env (eval x env)) (fun c s' => Br c (Q true s') (wpAny (model prog w) A (isTrue (.BoolOp .Or rest pos) env whole) Q E s')) E s) :
    wpAny (model prog w) A (isTrue (.BoolOp .Or (x :: rest) pos) env whole) Q E s :=
  isTrue_or (wpAny_mono h (fun c _ hc => by cases c <;> exact hc) fun _ _ e => e)
theorem t_and0 {pos : Pos} {whole : Sem Value} {Q : Bool → Shared → Prop} (h : Q true s) : wpAny (model prog w) A (isTrue (.BoolOp .And [] pos) env whole) Q E s := isTrue_and_nil h
theorem t_or0 {pos : Pos} {whole : Sem Value} {Q : Bool → Shared → Prop} (h : Q false s) : wpAny (model prog w) A (isTrue (.BoolOp .Or [] pos) env whole) Q E s := isTrue_or_nil h
theorem t_not {x : Expr} {pos : Pos} {whole : Sem Value} {Q : Bool → Shared → Prop} (h : wpAny (model prog w) A (isTrue x env (eval x env)) (fun c s' => Q (!c) s') E s) :
    wpAny (model prog w) A (isTrue (.UnaryOp .Not x pos) env whole) Q E s := isTrue_not h
theorem e_or {e₁ e₂ : Expr} {rest : List Expr} {pos : Pos} {Q : Value → Shared → Prop}
    (h : wpAny (model prog w) A (eval e₁ env) (fun v s₁ => wpAny (model prog w) A (truthy v) (fun c s₂ => Br c (Q v s₂) (wpAny (model prog w) A (eval (.BoolOp .Or (e₂ :: rest) pos) env) Q E s₂)) E s₁) E s) :
    wpAny (model prog w) A (eval (.BoolOp .Or (e₁ :: e₂ :: rest) pos) env) Q E s :=
  BoolOp_or (wpAny_mono h (fun v _ h₁ => wpAny_mono h₁ (fun c _ hc => by cases c <;> exact hc) fun _ _ e => e) fun _ _ e => e)
theorem e_and {e₁ e₂ : Expr} {rest : List Expr} {pos : Pos} {Q : Value → Shared → Prop}
    (h : wpAny (model prog w) A (eval e₁ env) (fun v s₁ => wpAny (model prog w) A (truthy v) (fun c s₂ => Br c (wpAny (model prog w) A (eval (.BoolOp .And (e₂ :: rest) pos) env) Q E s₂) (Q v s₂)) E s₁) E s) :
    wpAny (model prog w) A (eval (.BoolOp .And (e₁ :: e₂ :: rest) pos) env) Q E s :=
  BoolOp_and (wpAny_mono h (fun v _ h₁ => wpAny_mono h₁ (fun c _ hc => by cases c <;> exact hc) fun _ _ e => e) fun _ _ e => e)
theorem e_bo1 {op : BoolOp} {e : Expr} {pos : Pos} {Q : Value → Shared → Prop} (h : wpAny (model prog w) A (eval e env) Q E s) : wpAny (model prog w) A (eval (.BoolOp op [e] pos) env) Q E s := BoolOp_one h
theorem e_un {op : UnaryOp} {x : Expr} {pos : Pos} {Q : Value → Shared → Prop} (h : wpAny (model prog w) A (eval x env) (fun v s₁ => wpAny (model prog w) A (unaryOp op v) Q E s₁) E s) :
    wpAny (model prog w) A (eval (.UnaryOp op x pos) env) Q E s := UnaryOp_ h
theorem x_aug {x : Str} {p pos : Pos} {op : Operator} {value : Expr} {rest : List Stmt} {Q : Flow → Shared → Prop} {v : Value} (I : At g L m news s₀ s)
    (h : wpAny (model prog w) A (eval value env) (fun r s₂ => wpAny (model prog w) A (inplaceOp op v r) (fun z s₃ => SetK env x z (fun s' => wpAny (model prog w) A (execs rest env) Q E s') s₃) E s₂) E s)
    (hv : m x = some v := by walk_at "lk")
    (hk : env.scope.kind = .function := by with_unfolding_all rfl) (hl : env.kindOf x = some .local := by with_unfolding_all rfl) (hL : env.locals = L := by with_unfolding_all rfl) :
    wpAny (model prog w) A (execs (.AugAssign (.Name x p) op value pos :: rest) env) Q E s :=
  x_cons (wpAny_AugAssign_Name (wpAny_loadName_local hk hl (hL ▸ I.ns) hv (wpAny_mono h (fun _ _ h₁ => wpAny_mono h₁ (fun z s₃ h₂ => let ⟨_, _, _, _, _, I', hL', k⟩ := h₂; r_store I' k hk hl hL') fun _ _ e => e) fun _ _ e => e)))
end

local macro_rules | `(tactic| walk_at "go2") => `(tactic| first
  | walk_at "go"
  | with_reducible refine e_bin ?_
  | with_reducible refine e_meth ?_
  | with_reducible refine cw_m0 ?_
  | with_reducible refine cw_m1 ?_
  | with_reducible refine r_sub ?_
  | with_reducible refine r_slice ?_
  | with_reducible refine r_pnone ?_
  | with_reducible refine r_psome ?_
  | with_reducible refine t_and ?_
  | with_reducible refine t_or ?_
  | with_reducible refine t_and0 ?_
  | with_reducible refine t_or0 ?_
  | with_reducible refine t_not ?_
  | with_reducible refine e_or ?_
  | with_reducible refine e_and ?_
  | with_reducible refine e_bo1 ?_
  | with_reducible refine e_un ?_
  | with_reducible refine x_aug (by assumption) ?_
  | (with_reducible refine q_rfind (by assumption) ?_; intro _ _ _)
  | with_reducible refine q_startswith ?_
  | with_reducible refine q_endswith ?_
  | (with_reducible refine q_addi (by assumption) ?_; intro _ _ _)
  | with_reducible refine q_eqs ?_
  | with_reducible refine q_nes ?_
  | with_reducible refine GM.rfind ?_
  | with_reducible refine GM.startswith ?_
  | with_reducible refine GM.endswith ?_
  | with_reducible refine GM.rstrip ?_
  | with_reducible refine GM.split ?_
  | with_reducible refine GM.join ?_)

noncomputable def Ab (g : Heap) (s₁ : Shared) (X : Prop) : Prop := (∃ L m news s₀, At g L m news s₀ s₁) ∧ X
section
variable {prog : Program} {w : World} {A : Around} {E : Value → Shared → Prop} {s s₀ : Shared} {g : Heap} {L : Addr} {m : Str → Option Value} {news : List (Addr × Obj)} {env : Env} {mg mb : Str → Option Value}
theorem Ab.intro {X : Prop} (I : At g L m news s₀ s) (h : X) : Ab g s X := ⟨⟨_, _, _, _, I⟩, h⟩
theorem e_fspath {p pos : Pos} {e : Expr} {rest : List Expr} {Q : Value → Shared → Prop} (I : At g L m news s₀ s) (G : GF mg mb g)
    (h : wpAny (model prog w) A (spliced (backTo pos (starEach (e :: rest) env))) (fun vs s₁ => Ab g s₁ (wpAny (model prog w) A (call (.ref 108) vs) Q E s₁)) E s)
    (hse : starEach (e :: rest) env = (false, eval e env) :: starEach rest env := by with_unfolding_all rfl)
    (hk : env.scope.kind = .function := by with_unfolding_all rfl) (hl : env.kindOf "fspath" = some .globalImplicit := by with_unfolding_all rfl) (hg : env.globals = mainGlobals := by with_unfolding_all rfl) :
    wpAny (model prog w) A (eval (.Call (.Name "fspath" p) (e :: rest) [] pos) env) Q E s := e_call1 I G (a := 108) (k := 13) (c := 107) (dV := .none) (by decide +kernel) h hse hk hl hg
theorem e_get_sep {p pos : Pos} {e : Expr} {rest : List Expr} {Q : Value → Shared → Prop} (I : At g L m news s₀ s) (G : GF mg mb g)
    (h : wpAny (model prog w) A (spliced (backTo pos (starEach (e :: rest) env))) (fun vs s₁ => Ab g s₁ (wpAny (model prog w) A (call (.ref 122) vs) Q E s₁)) E s)
    (hse : starEach (e :: rest) env = (false, eval e env) :: starEach rest env := by with_unfolding_all rfl)
    (hk : env.scope.kind = .function := by with_unfolding_all rfl) (hl : env.kindOf "_get_sep" = some .globalImplicit := by with_unfolding_all rfl) (hg : env.globals = mainGlobals := by with_unfolding_all rfl) :
    wpAny (model prog w) A (eval (.Call (.Name "_get_sep" p) (e :: rest) [] pos) env) Q E s := e_call1 I G (a := 122) (k := 17) (c := 121) (dV := .none) (by decide +kernel) h hse hk hl hg
theorem u_fspath {k : Nat} {x : Str} {t : Tok} {Q : Value → Shared → Prop} (I : At g L m news s₀ s) (G : GF mg mb g) (R : Room A k) (h : ∀ s', At g L m news s₀ s' → Q (.str x t) s') (hk : 5 ≤ k := by omega) :
    wpAny (model prog w) A (call (.ref 108) [.str x t]) Q E s := use I (c_fspath (R.less hk) (G.keeps I.keep)) fun _ s' I' e => e ▸ h s' I'
theorem u_get_sep {k : Nat} {x : Str} {t : Tok} {Q : Value → Shared → Prop} (I : At g L m news s₀ s) (G : GF mg mb g) (R : Room A k) (h : ∀ t' s', At g L m news s₀ s' → Q (.str "/" t') s') (hk : 5 ≤ k := by omega) :
    wpAny (model prog w) A (call (.ref 122) [.str x t]) Q E s := use I (c_get_sep (R.less hk) (G.keeps I.keep)) fun _ s' I' e => by obtain ⟨t', rfl⟩ := e; exact h t' s' I'
end

local macro_rules | `(tactic| walk_at "go3") => `(tactic| first
  | walk_at "go2"
  | with_reducible refine e_blt (by assumption) (by assumption) Boot.len ?_
  | with_reducible refine e_blt (by assumption) (by assumption) Boot.isinstance ?_
  | with_reducible refine r_blt (by assumption) (by assumption) Boot.bytes ?_
  | with_reducible refine r_blt (by assumption) (by assumption) Boot.str ?_
  | (with_reducible refine q_muls (by assumption) (by assumption) ?_; intro _ _ _)
  | (with_reducible refine q_rstripC (by assumption) ?_ (by rw [sizeLine_eq]; omega); intro _ _ _)
  | with_reducible refine e_fspath (by assumption) (by assumption) ?_
  | with_reducible refine e_get_sep (by assumption) (by assumption) ?_
  | with_reducible refine Ab.intro (by assumption) ?_
  | (with_reducible refine u_fspath (by assumption) (by assumption) (by assumption) ?_; intro _ _)
  | (with_reducible refine u_get_sep (by assumption) (by assumption) (by assumption) ?_; intro _ _ _)
  | (with_reducible refine q_slice_ns (by assumption) (by rw [sizeLine_eq]; omega) ?_; intro _ _ _ _)
  | (with_reducible refine q_slice_sn (by assumption) (by rw [sizeLine_eq]; omega) ?_; intro _ _ _ _)
  | (with_reducible refine q_slice_ss (by assumption) (by rw [sizeLine_eq]; omega) ?_; intro _ _ _ _)
  | (with_reducible refine q_trs (by assumption) (by first | (rw [sizeLine_eq]; omega) | decide +kernel) ?_; intro _ _)
  | (with_reducible refine q_len_str (by assumption) (by first | (rw [sizeLine_eq]; omega) | decide +kernel) ?_; intro _ _ _)
  | (with_reducible refine q_add (by assumption) (by rw [sizeLine_eq]; (try simp only [Str.length_append]); omega) ?_; intro _ _ _)
  | (with_reducible refine q_iadd (by assumption) (by rw [sizeLine_eq]; (try simp only [Str.length_append]); omega) ?_; intro _ _ _)
  | with_reducible refine t_plain ?_)

noncomputable def dirF (p : Str) : Str :=
  bif (Txt.slice p none (some (Txt.rfind p "/" + 1))).length != 0 && Txt.slice p none (some (Txt.rfind p "/" + 1)) != Txt.mul "/" (Txt.slice p none (some (Txt.rfind p "/" + 1))).length
  then Txt.rstripChars (Txt.slice p none (some (Txt.rfind p "/" + 1))) "/" else Txt.slice p none (some (Txt.rfind p "/" + 1))

theorem mulOk_sep {n : Nat} (h : n ≤ 1000) : MulOk "/" (n : Int) := by
  have e : (Str.ofString "/").length = 1 := by decide +kernel
  refine ⟨?_, fun h1 h2 => ?_, fun h1 h2 => ?_⟩
  · simp only [Bool.or_eq_false_iff, decide_eq_false_iff_not]; omega
  · rw [e]
    have h3 : (1 : Int) ≤ n := by omega
    have : (1 : Int) ≤ (2 ^ 63 - 1) / (n : Int) := by
      apply (Int.le_ediv_iff_mul_le (by omega)).mpr
      omega
    omega
  · rw [e]
    show decide (_ > _) = false
    rw [sizeLine_eq]
    simp only [decide_eq_false_iff_not]
    omega

section
variable {prog : Program} {w : World} {A : Around} {E : Value → Shared → Prop} {s : Shared} {mg mb : Str → Option Value}
theorem c_dirname {x : Str} {t : Tok} (R : Room A 9) (G : GF mg mb s.heap) (hx : x.length ≤ 1000) :
    wpAny (model prog w) A (call (.ref 143) [.str x t]) (fun v s' => Keeps s s' ∧ ∃ t', v = .str (dirF x) t') E s := by
  refine enter (binds := [("p", .str x t)]) (P := fun v _ => ∃ t', v = .str (dirF x) t') (n := 8) R (fa_dirname G) G.nolimit rfl (fun pm => .of_eq rfl) (by decide +kernel) (names := ["p"]) (by decide +kernel) ?_
  intro pm A s R hA I KP EV
  refine x_set ?_
  repeat walk_at "go3"
  have hmul : MulOk "/" (Txt.slice x none (some (Txt.rfind x "/" + 1))).length := mulOk_sep (by omega)
  refine Br.split (fun hb1 => ?_) (fun hb1 => ?_)
  · repeat walk_at "go3"
    refine Br.split (fun hb2 => ?_) (fun hb2 => ?_)
    · repeat walk_at "go3"
      rename At _ _ _ _ _ _ => I
      exact ⟨I.keeps fun _ _ e => e, _, by unfold dirF; rw [hb1, hb2]; rfl⟩
    · repeat walk_at "go3"
      rename At _ _ _ _ _ _ => I
      exact ⟨I.keeps fun _ _ e => e, _, by unfold dirF; rw [hb1, hb2]; rfl⟩
  · repeat walk_at "go3"
    rename At _ _ _ _ _ _ => I
    exact ⟨I.keeps fun _ _ e => e, _, by unfold dirF; rw [hb1]; rfl⟩
end
/-! ## MLoop -/
/-- an iterator `I` in a for with target `tg`: `n` items, the `i`-th is a `v` with `P i v heap` -/
structure Wk (prog : Program) (w : World) (A : Around) (I : Addr) (fp wr : List Addr) (n : Nat) (tg : Expr) (P : Nat → Value → Heap → Prop) (St : Nat → Heap → Prop) : Prop where
  sub : ∀ b ∈ wr, b ∈ fp
  frame : ∀ i h h', St i h → (∀ b ∈ fp, ∀ o, h.get? b = some o → h'.get? b = some o) → St i h'
  live : ∀ i h, St i h → ∀ b ∈ fp, ∃ o, h.get? b = some o
  item : ∀ i (s : Shared) (Q : Option Value → Shared → Prop) (E : Value → Shared → Prop), i < n → St i s.heap →
    (∀ v h' tk, (∀ (s₁ : Shared) (Q' : Unit → Shared → Prop) (E' : Value → Shared → Prop), s₁.heap = h' → (∀ h'', P i v h'' → St (i + 1) h'' → (∀ b o, b ∉ wr → h'.get? b = some o → h''.get? b = some o) → Q' () { s₁ with heap := h'' }) → wpAny (model prog w) A (letOwnedTupleGo tg (.ref I) v) Q' E' s₁) →
      (∀ b o, b ∉ wr → s.heap.get? b = some o → h'.get? b = some o) → Q (some v) { s with heap := h', toks := tk }) → wpAny (model prog w) A (pyNext (.ref I)) Q E s
  done : ∀ (s : Shared) (Q : Option Value → Shared → Prop) (E : Value → Shared → Prop), St n s.heap →
    (∀ h' tk, (∀ b o, b ∉ wr → s.heap.get? b = some o → h'.get? b = some o) → Q none { s with heap := h', toks := tk }) → wpAny (model prog w) A (pyNext (.ref I)) Q E s
  self : ∀ i (s : Shared) (Q : Value → Shared → Prop) (E : Value → Shared → Prop), St i s.heap → Q (.ref I) s → wpAny (model prog w) A (pyIter (.ref I)) Q E s

theorem live_list {h : Heap} {I ax : Addr} {items : Array Value} {i : Nat} (st : h.IsListIter I ax i ∧ h.IsList ax items) : ∀ b ∈ [I, ax], ∃ o, h.get? b = some o := fun b hb => by
  obtain ⟨⟨o1, h1, _⟩, ⟨o2, h2, _⟩⟩ := st
  simp only [List.mem_cons, List.not_mem_nil, or_false] at hb
  rcases hb with rfl | rfl
  · exact ⟨_, h1⟩
  · exact ⟨_, h2⟩
theorem Wk.name {prog : Program} {w : World} {A : Around} {I : Addr} {fp wr : List Addr} {n : Nat} {x : Str} {px : Pos} {P : Nat → Value → Prop} {St : Nat → Heap → Prop} (W : Walks prog w A I fp wr n P St) (live : ∀ i h, St i h → ∀ b ∈ fp, ∃ o, h.get? b = some o) :
    Wk prog w A I fp wr n (.Name x px) (fun i v _ => P i v) St where
  sub := W.sub
  frame := W.frame
  live := live
  item := fun i s Q E hi st hQ => W.item i s Q E hi st fun v h' tk hP hst hk => hQ v h' tk (fun s₁ Q' E' e hQ' => by
    show wpAny _ _ (pure ()) Q' E' s₁
    subst e
    exact wpAny_pure (hQ' _ hP hst fun _ _ _ e => e)) hk
  done := W.done
  self := W.self

theorem Wk.tup {prog : Program} {w : World} {A : Around} (hh : A.handled = none) (I ax : Addr) (hne : ax ≠ I) (items : Array Value) {elts : List Expr} {k : Nat} {pos : Pos} (href : ∀ (i : Nat) (v : Value), items[i]? = some v → ∃ a, v = Value.ref a) :
    Wk prog w A I [I, ax] [I] items.size (.Tuple elts k pos) (fun i v _ => items[i]? = some v) (fun i h => h.IsListIter I ax i ∧ h.IsList ax items) where
  sub := (Walks.list (prog := prog) (w := w) hh I ax hne items).sub
  frame := (Walks.list (prog := prog) (w := w) hh I ax hne items).frame
  live := fun i h st b hb => live_list st b hb
  item := fun i s Q E hi st hQ => (Walks.list (prog := prog) (w := w) hh I ax hne items).item i s Q E hi st fun v h' tk hP hst hk => hQ v h' tk (fun s₁ Q' E' e hQ' => by
    obtain ⟨a, rfl⟩ := href i v hP
    subst e
    exact wpAny_letOwnedTupleGo_listiter hst.1 (hQ' _ hP hst fun _ _ _ e => e)) hk
  done := (Walks.list (prog := prog) (w := w) hh I ax hne items).done
  self := (Walks.list (prog := prog) (w := w) hh I ax hne items).self

noncomputable def dedup : List Addr → List Addr
  | [] => []
  | a :: r => if a ∈ r then dedup r else a :: dedup r
theorem mem_dedup {b : Addr} : ∀ {l : List Addr}, b ∈ dedup l ↔ b ∈ l
  | [] => by simp [dedup]
  | a :: r => by
    unfold dedup
    split
    · rename_i h; rw [mem_dedup]; constructor
      · exact fun x => .tail _ x
      · intro x; rcases List.mem_cons.mp x with rfl | x; exact h; exact x
    · rw [List.mem_cons, List.mem_cons, mem_dedup]
theorem nodup_dedup : ∀ (l : List Addr), (dedup l).Nodup
  | [] => by simp [dedup]
  | a :: r => by
    unfold dedup
    split
    · exact nodup_dedup r
    · rename_i h; rw [List.nodup_cons, mem_dedup]; exact ⟨h, nodup_dedup r⟩
noncomputable def ownOf' (g : Heap) (fp : List Addr) (h : Heap) : List (Addr × Obj) := (dedup fp).filterMap fun b => if (g.get? b).isNone then (h.get? b).map fun o => (b, o) else none
theorem mem_ownOf' {g h : Heap} {fp : List Addr} {b : Addr} {o : Obj} : (b, o) ∈ ownOf' g fp h ↔ b ∈ fp ∧ g.get? b = none ∧ h.get? b = some o := by
  unfold ownOf'
  rw [List.mem_filterMap]
  constructor
  · rintro ⟨a, ha, e⟩
    cases hg : g.get? a with
    | some x => simp [hg] at e
    | none =>
      cases ho : h.get? a with
      | none => simp [hg, ho] at e
      | some o' => simp [hg, ho] at e; obtain ⟨rfl, rfl⟩ := e; exact ⟨mem_dedup.mp ha, hg, ho⟩
  · rintro ⟨hb, hg, ho⟩
    exact ⟨b, mem_dedup.mpr hb, by simp [hg, ho]⟩
theorem ownOf'_nodup {g h : Heap} : ∀ {fp : List Addr}, fp.Nodup → ((fp.filterMap fun b => if (g.get? b).isNone then (h.get? b).map fun o => (b, o) else none).map (·.1)).Nodup := by
  intro fp
  induction fp with
  | nil => intro _; simp
  | cons a r ih =>
    intro nd
    rw [List.nodup_cons] at nd
    rw [List.filterMap_cons]
    split
    · exact ih nd.2
    · rename_i p hp
      rw [List.map_cons, List.nodup_cons]
      refine ⟨fun hm => nd.1 ?_, ih nd.2⟩
      obtain ⟨q, hq, e⟩ := List.mem_map.mp hm
      obtain ⟨b, hb, e2⟩ := List.mem_filterMap.mp hq
      have h1 : p.1 = a := by
        cases hg : g.get? a with
        | some x => simp [hg] at hp
        | none => cases ho : h.get? a with
          | none => simp [hg, ho] at hp
          | some o' => simp [hg, ho] at hp; rw [← hp]
      have h2 : q.1 = b := by
        cases hg : g.get? b with
        | some x => simp [hg] at e2
        | none => cases ho : h.get? b with
          | none => simp [hg, ho] at e2
          | some o' => simp [hg, ho] at e2; rw [← e2]
      rw [← h1, ← e, h2]; exact hb

section
variable {prog : Program} {w : World} {A : Around} {E : Value → Shared → Prop} {s s₀ : Shared} {g : Heap} {L : Addr} {m : Str → Option Value} {news : List (Addr × Obj)} {env : Env}

/-- the ledger with the iterator's own objects -/
theorem At.owned (I : At g L m news s₀ s) {fp : List Addr} (hL : L ∉ fp) (hn : ∀ p ∈ news, p.1 ∉ fp) : At g L m (ownOf' g fp s.heap ++ news) s₀ s := by
  refine ⟨I.ns, I.keep, I.gL, fun p hp => ?_, ?_, I.e⟩
  · rcases List.mem_append.mp hp with h | h
    · obtain ⟨h1, h2, h3⟩ := mem_ownOf'.mp (show (p.1, p.2) ∈ _ from h)
      exact ⟨h3, fun e => hL (e ▸ h1), h2⟩
    · exact I.N p h
  · rw [List.map_append, List.nodup_append]
    refine ⟨ownOf'_nodup (nodup_dedup _), I.nd, fun a ha b hb e => ?_⟩
    obtain ⟨p, hp, rfl⟩ := List.mem_map.mp ha
    obtain ⟨q, hq, rfl⟩ := List.mem_map.mp hb
    exact hn q hq (e ▸ (mem_ownOf'.mp (show (p.1, p.2) ∈ _ from hp)).1)

inductive LoopOn (prog : Program) (w : World) (A : Around) (E : Value → Shared → Prop) (env : Env) (tg : Expr) (body orelse rest : List Stmt) (Q : Flow → Shared → Prop) (Inv : Nat → (Str → Option Value) → List (Addr × Obj) → Prop) (it : Value) (s₂ : Shared) : Prop
  | mk (g : Heap) (L : Addr) (m : Str → Option Value) (news : List (Addr × Obj)) (s₀ : Shared) (I : Addr) (fp : List Addr) (wr : List Addr) (n : Nat) (P : Nat → Value → Heap → Prop) (St : Nat → Heap → Prop)
    (q0 : it = .ref I)
    (q1 : At g L m news s₀ s₂)
    (q2 : env.locals = L)
    (q3 : Wk prog w A I fp wr n tg P St)
    (q4 : L ∉ fp)
    (q5 : (∀ b ∈ wr, g.get? b = none))
    (q6 : (∀ p ∈ news, p.1 ∉ fp))
    (q7 : St 0 s₂.heap)
    (q8 : Inv 0 m news)
    (q9 : (∀ i v own m₁ news₁ s₁, i < n → P i v s₁.heap → Inv i m₁ news₁ → At g L m₁ (own ++ news₁) s₀ s₁ → wpAny (model prog w) A (assign tg env v) (fun _ s₃ => wpAny (model prog w) A (execs body env) (fun f s₄ => match f with
      | .next | .cont => ∃ m₂ news₂, At g L m₂ (own ++ news₂) s₀ s₄ ∧ Inv (i + 1) m₂ news₂
      | .brk => wpAny (model prog w) A (execs rest env) Q E s₄
      | .ret v => Q (.ret v) s₄) (fun _ _ => False) s₃) (fun _ _ => False) s₁))
    (q10 : (∀ m' news' s', At g L m' news' s₀ s' → Inv n m' news' → wpAny (model prog w) A (execs orelse env) (Seq (model prog w) A rest env Q E) (fun _ _ => False) s')) : LoopOn prog w A E env tg body orelse rest Q Inv it s₂

theorem x_for {tg iter : Expr} {body orelse rest : List Stmt} {pos : Pos} {Q : Flow → Shared → Prop} (Inv : Nat → (Str → Option Value) → List (Addr × Obj) → Prop)
    (h : let INV : Nat → (Str → Option Value) → List (Addr × Obj) → Prop := Inv; wpAny (model prog w) A (eval iter env) (fun x s₁ => wpAny (model prog w) A (pyIter x) (fun it s₂ => LoopOn prog w A E env tg body orelse rest Q INV it s₂) E s₁) E s)
    (hs : ∀ x, foldedSetIterable iter env x = pure x := by intro _; with_unfolding_all rfl) :
    wpAny (model prog w) A (execs (.For tg iter body orelse pos :: rest) env) Q E s := by
  refine x_cons (wpAny_For (wpAny_mono h (fun x s₁ h₁ => wpAny_mono h₁ (fun it s₂ h₂ => ?_) fun _ _ e => e) fun _ _ e => e) hs)
  obtain ⟨g, L, m, news, s₀, I, fp, wr, n, P, St, rfl, hI, hL, W, hLf, hwr, hnw, hst, h0, step, fin⟩ := h₂
  have hLw : L ∉ wr := fun h => hLf (W.sub _ h)
  refine codeAny_forLoop_any (fun k s' => ∃ i m' news', At g L m' news' s₀ s' ∧ (∀ p ∈ news', p.1 ∉ fp) ∧ St i s'.heap ∧ Inv i m' news' ∧ i ≤ n ∧ k = n + 1 - i ) ?_ (n + 1) ⟨0, m, news, hI, hnw, hst, h0, Nat.zero_le _, rfl⟩
  rintro k s' ⟨i, m', news', hI', hnw', hst', hInv, hi, rfl⟩
  have move : ∀ {news'} (s' : Shared), At g L m' news' s₀ s' → (∀ p ∈ news', p.1 ∉ fp) → ∀ h' tk, (∀ b o, b ∉ wr → s'.heap.get? b = some o → h'.get? b = some o) → At g L m' news' s₀ { s' with heap := h', toks := tk } := fun {news'} s' J hn h' tk hk =>
    ⟨J.ns.at' fun o e => hk _ o hLw e, fun b o e => hk b o (fun hb => by rw [hwr b hb] at e; cases e) (J.keep b o e), J.gL, fun p hp => ⟨hk _ _ (fun hb => hn p hp (W.sub _ hb)) (J.N p hp).1, (J.N p hp).2⟩, J.nd, by have := J.e; rw [this]⟩
  by_cases hlt' : i < n
  · refine W.item i _ _ _ hlt' hst' fun v h' tk hgo hk => ?_
    have J₁ := move _ hI' hnw' h' tk hk
    refine hgo _ _ _ rfl fun h'' hP hst₁ hk₁ => ?_
    have J₂ : At g L m' news' s₀ { s' with heap := h'', toks := tk } := move _ J₁ hnw' h'' tk hk₁
    have J₃ := J₂.owned hLf hnw'
    refine wpAny_mono (step i v _ m' news' _ hlt' hP hInv J₃) (fun _ s₃ h₃ => wpAny_mono h₃ (fun f s₄ h₄ => ?_) fun _ _ x => x.elim) fun _ _ x => x.elim
    have cont : (∃ m₂ news₂, At g L m₂ (ownOf' g fp h'' ++ news₂) s₀ s₄ ∧ Inv (i + 1) m₂ news₂) → ∃ mm, mm < n + 1 - i ∧ ∃ i_1 m' news', At g L m' news' s₀ s₄ ∧ (∀ p ∈ news', p.1 ∉ fp) ∧ St i_1 s₄.heap ∧ Inv i_1 m' news' ∧ i_1 ≤ n ∧ mm = n + 1 - i_1 := by
      rintro ⟨m₂, news₂, J₄, hInv₂⟩
      have hst₄ : St (i + 1) s₄.heap := W.frame _ _ _ hst₁ fun b hb o e => by
        cases hn : g.get? b with
        | some o₀ =>
          have e1 := J₂.keep b o₀ hn
          have : o₀ = o := by have e2 : h''.get? b = some o₀ := e1; rw [e] at e2; exact (Option.some.inj e2).symm
          exact this ▸ J₄.keep b o₀ hn
        | none => exact J₄.get (List.mem_append_left _ (mem_ownOf'.mpr ⟨hb, hn, e⟩))
      refine ⟨n + 1 - (i + 1), by omega, i + 1, m₂, news₂, J₄.drop (List.sublist_append_right ..), fun p hp hf => ?_, hst₄, hInv₂, hlt', rfl⟩
      have nd := J₄.nd
      rw [List.map_append, List.nodup_append] at nd
      obtain ⟨o, ho⟩ := W.live _ _ hst₁ p.1 hf
      have hg := (J₄.N p (List.mem_append_right _ hp)).2.2
      exact nd.2.2 p.1 (List.mem_map.mpr ⟨(p.1, o), mem_ownOf'.mpr ⟨hf, hg, ho⟩, rfl⟩) p.1 (List.mem_map_of_mem hp) rfl
    cases f with
    | next => exact cont h₄
    | cont => exact cont h₄
    | brk => exact h₄
    | ret v => exact h₄
  · have hin : i = n := by omega
    subst hin
    refine W.done _ _ _ hst' fun h' tk hk => ?_
    exact wpAny_mono (fin _ _ _ (move _ hI' hnw' h' tk hk) hInv) (fun _ _ e => e) fun _ _ x => x.elim
end
/-! ## MComp -/
/-- a list object -/
noncomputable def LL (vs : List Value) (n : Nat) : Obj := { cls := .type "list", data := .seq vs.toArray n }
theorem LL.list {h : Heap} {a : Addr} {vs : List Value} {n : Nat} (hg : h.get? a = some (LL vs n)) : h.IsList a vs.toArray := ⟨_, hg, rfl, n, rfl⟩
theorem LL.plain {h : Heap} {a : Addr} {vs : List Value} {n : Nat} (hg : h.get? a = some (LL vs n)) : h.PlainList a vs.toArray := ⟨n, hg⟩

section
variable {prog : Program} {w : World} {A : Around} {E : Value → Shared → Prop} {s s₀ : Shared} {g : Heap} {L : Addr} {m : Str → Option Value} {news : List (Addr × Obj)} {env : Env}

theorem none_of {g g' : Heap} (h : ∀ b o, g'.get? b = some o → g.get? b = some o) {a : Addr} (e : g.get? a = none) : g'.get? a = none := by
  cases q : g'.get? a with
  | none => rfl
  | some o => have := h _ _ q; rw [e] at this; cases this
theorem At.base {g' : Heap} (I : At g L m news s₀ s) (h : ∀ b o, g'.get? b = some o → g.get? b = some o) : At g' L m news s₀ s :=
  ⟨I.ns, fun b o e => I.keep b o (h b o e), none_of h I.gL, fun p hp => ⟨(I.N p hp).1, (I.N p hp).2.1, none_of h (I.N p hp).2.2⟩, I.nd, I.e⟩

/-- `l.append(v)` on an own list -/
theorem q_appendS {a : Addr} {n : Nat} {vs : List Value} {x : Value} {Q : Value → Shared → Prop} (I : At g L m ((a, LL vs n) :: news) s₀ s) (hz : vs.length ≤ sizeLine)
    (h : ∀ n' s', Heap.SameBut a s.heap s'.heap → At g L m ((a, LL (vs ++ [x]) n') :: news) s₀ s' → Q .none s') : wpAny (model prog w) A (call (.builtin "list.append") [.ref a, x]) Q E s := by
  refine wpAny_list_append_plain (LL.plain (I.get (.head _))) (fun h' hl hs => ?_) (by simpa using hz)
  obtain ⟨n', e⟩ := hl
  have e' : h'.get? a = some (LL (vs ++ [x]) n') := by rw [e]; unfold LL; simp
  exact h n' _ hs (I.change (o' := LL (vs ++ [x]) n') (f := id) hs e')
theorem q_append {a : Addr} {n : Nat} {vs : List Value} {x : Value} {Q : Value → Shared → Prop} (I : At g L m ((a, LL vs n) :: news) s₀ s) (hz : vs.length ≤ sizeLine)
    (h : ∀ n' s', At g L m ((a, LL (vs ++ [x]) n') :: news) s₀ s' → Q .none s') : wpAny (model prog w) A (call (.builtin "list.append") [.ref a, x]) Q E s :=
  q_appendS I hz fun n' s' _ => h n' s'

noncomputable def hid (h : Heap) (as : List Addr) : Heap := hideAll h as

/-- what does not change any more goes into the base -/
theorem At.freeze (I : At g L m news s₀ s) {news' : List (Addr × Obj)} (hsub : news'.Sublist news) :
    ∃ g', At g' L m news' s₀ s ∧ (∀ b o, g.get? b = some o → g'.get? b = some o) ∧ (∀ a o, s.heap.get? a = some o → a ≠ L → a ∉ news'.map (·.1) → g'.get? a = some o) := by
  refine ⟨hideAll s.heap (L :: news'.map (·.1)), ⟨I.ns, fun b o e => of_hideAll _ e, hideAll_none _ (.head _), fun p hp => ⟨(I.N p (hsub.subset hp)).1, (I.N p (hsub.subset hp)).2.1, hideAll_none _ (.tail _ (List.mem_map_of_mem hp))⟩, (hsub.map _).nodup I.nd, I.e⟩, fun b o e => ?_, fun a o e h1 h2 => ?_⟩
  · refine hideAll_get _ (I.keep b o e) fun h => ?_
    rcases List.mem_cons.mp h with rfl | h
    · rw [I.gL] at e; cases e
    · obtain ⟨p, hp, rfl⟩ := List.mem_map.mp h
      have := (I.N p (hsub.subset hp)).2.2; rw [e] at this; cases this
  · exact hideAll_get _ e fun h => by
      rcases List.mem_cons.mp h with rfl | h
      · exact h1 rfl
      · exact h2 h
theorem At.freeze1 {a : Addr} {o : Obj} (I : At g L m ((a, o) :: news) s₀ s) : ∃ g', At g' L m news s₀ s ∧ (∀ b o, g.get? b = some o → g'.get? b = some o) ∧ g'.get? a = some o := by
  obtain ⟨g', I', h1, h2⟩ := I.freeze (List.sublist_cons_self ..)
  have nd := I.nd
  rw [List.map_cons, List.nodup_cons] at nd
  exact ⟨g', I', h1, h2 a o (I.get (.head _)) (I.N _ (.head _)).2.1 nd.1⟩

inductive CompOn (prog : Program) (w : World) (A : Around) (env : Env) (scope : Scope) (cl : List (Str × Addr)) (tg elt : Expr) (ifs : List Expr) (fin : Heap → Addr → (Str → Option Value) → Shared → List (Addr × Obj) → Addr → Prop) (Inv : Nat → List Value → List (Addr × Obj) → Prop) (it : Value) (s₂ : Shared) : Prop
  | mk (g : Heap) (L : Addr) (m : Str → Option Value) (news : List (Addr × Obj)) (s₀ : Shared) (I : Addr) (fp : List Addr) (wr : List Addr) (n : Nat) (P : Nat → Value → Heap → Prop) (St : Nat → Heap → Prop)
    (q0 : it = .ref I)
    (q1 : At g L m news s₀ s₂)
    (q2 : Wk prog w A I fp wr n tg P St)
    (q3 : n ≤ sizeLine)
    (q4 : L ∉ fp)
    (q5 : (∀ b ∈ wr, g.get? b = none))
    (q6 : (∀ p ∈ news, p.1 ∉ fp))
    (q7 : St 0 s₂.heap)
    (q8 : Inv 0 [] [])
    (q9 : (∀ G C i v own m₁ ys nw s₁, (∀ b o, b ∉ wr → s₂.heap.get? b = some o → G.get? b = some o) → i < n → P i v s₁.heap → Inv i ys nw → At G C m₁ (own ++ nw) s₀ s₁ →
      wpAny (model prog w) A (assign tg (compEnvC scope cl C env) v) (fun _ s₃ =>
        wpAny (model prog w) A (forIn ifs true fun c r => if r = true then do let ok ← isTrue c (compEnvC scope cl C env) (eval c (compEnvC scope cl C env)); pure (ForInStep.yield ok) else pure (ForInStep.yield r)) (fun ok s₄ =>
          Br ok (wpAny (model prog w) A (eval elt (compEnvC scope cl C env)) (fun y s₅ => ∃ m₂ nw', At G C m₂ (own ++ nw') s₀ s₅ ∧ Inv (i + 1) (ys ++ [y]) nw') (fun _ _ => False) s₄)
            (∃ m₂ nw', At G C m₂ (own ++ nw') s₀ s₄ ∧ Inv (i + 1) ys nw')) (fun _ _ => False) s₃) (fun _ _ => False) s₁))
    (q10 : (∀ D k ys nw, Inv n ys nw → ys.length ≤ n → fin g L m s₀ (((D, LL ys k) :: nw) ++ news) D)) : CompOn prog w A env scope cl tg elt ifs fin Inv it s₂

theorem At.aside (I : At g L m news s₀ s) {C : Addr} {h' : Heap} (hs : Heap.SameBut C s.heap h') (h1 : L ≠ C) (h2 : g.get? C = none) (h3 : ∀ p ∈ news, p.1 ≠ C) : At g L m news s₀ { s with heap := h' } :=
  ⟨I.ns.sameBut hs h1, fun b o e => (hs.2 b fun h => by rw [h, h2] at e; cases e).trans (I.keep b o e), I.gL, fun p hp => ⟨(hs.2 _ (h3 p hp)).trans (I.N p hp).1, (I.N p hp).2⟩, I.nd, by have := I.e; rw [this]⟩

/-- a comprehension's loop, whatever its target -/
theorem comp_loop {elt tg iter : Expr} {ifs : List Expr} {scope : Scope} {pos : Pos} {it acc : Value} {cenv : Env} {R : Result → Shared → Prop} (J : Nat → Shared → Prop)
    (turn : ∀ n s, J n s → wpAny (model prog w) A (pyNext it) (fun r s₁ => match r with
      | none => R (.ok .next) s₁
      | some v => wpAny (model prog w) A (letOwnedTupleGo tg it v) (fun _ s₂ => wpAny (model prog w) A (assign tg cenv v) (fun _ s₃ =>
          wpAny (model prog w) A (forIn ifs true fun c r => if r = true then do let ok ← isTrue c cenv (eval c cenv); pure (ForInStep.yield ok) else pure (ForInStep.yield r)) (fun ok s₄ =>
            Br ok (wpAny (model prog w) A (eval elt cenv) (fun x s₅ => wpAny (model prog w) A (call (.builtin "list.append") [acc, x]) (fun _ s₆ => ∃ m, m < n ∧ J m s₆) (fun _ _ => False) s₅) (fun _ _ => False) s₄)
              (∃ m, m < n ∧ J m s₄)) (fun _ _ => False) s₃) (fun _ _ => False) s₂) (fun _ _ => False) s₁) (fun _ _ => False) s)
    (n : Nat) (h : J n s) : codeAny (model prog w) A (.compLoop (.ListComp elt [⟨tg, iter, ifs, 0⟩] scope pos) 0 it acc cenv) R s := by
  refine codeAny_loop rfl J (fun n s hJ => ?_) n h
  show wpAny _ A ((compTurn (.ListComp elt [⟨tg, iter, ifs, 0⟩] scope pos) 0 it acc cenv).onRaise (fun x => do noteFrame x cenv; theTreesLotGoes x)) _ _ s
  refine wpAny_noted ?_
  rw [compTurn_list]
  have fe : ∀ {α : Type} {t : Sem α} {Q' : α → Shared → Prop} {E' : Value → Shared → Prop} {s'}, wpAny (model prog w) A t Q' (fun _ _ => False) s' → wpAny (model prog w) A t Q' E' s' := fun h => wpAny_mono h (fun _ _ x => x) fun _ _ x => x.elim
  refine wpAny_bind (wpAny_standAt (wpAny_bind (fe (wpAny_mono (turn n s hJ) (fun r s₁ h₁ => ?_) fun _ _ x => x))))
  cases r with
  | none => exact wpAny_pure h₁
  | some v =>
    refine wpAny_bind (fe (wpAny_mono h₁ (fun _ s₂ h₂ => wpAny_bind (fe (wpAny_mono h₂ (fun _ s₃ h₃ => wpAny_bind (fe (wpAny_mono h₃ (fun ok s₄ h₄ => ?_) fun _ _ x => x))) fun _ _ x => x))) fun _ _ x => x))
    cases ok with
    | false => exact wpAny_pure ⟨rfl, h₄⟩
    | true =>
      exact wpAny_bind (wpAny_bind (fe (wpAny_mono h₄ (fun x s₅ h₅ => wpAny_bind (fe (wpAny_mono h₅ (fun _ s₆ h₆ => wpAny_pure (wpAny_pure ⟨rfl, h₆⟩)) fun _ _ x => x))) fun _ _ x => x)))

noncomputable def CJ (G : Heap) (C D : Addr) (obj : List Value → Nat → Obj) (fp : List Addr) (n : Nat) (St : Nat → Heap → Prop) (Inv : Nat → List Value → List (Addr × Obj) → Prop) (s₀ : Shared) (k : Nat) (s' : Shared) : Prop :=
  ∃ i m' ys c nw, At G C m' ((D, obj ys c) :: nw) s₀ s' ∧ (∀ p ∈ nw, p.1 ∉ fp) ∧ St i s'.heap ∧ Inv i ys nw ∧ i ≤ n ∧ ys.length ≤ i ∧ k = n + 1 - i
theorem At.walk {G h' : Heap} {C : Addr} {m' : Str → Option Value} {nws : List (Addr × Obj)} {fp wr : List Addr} {s' s₀ : Shared} {tk : Nat} (J : At G C m' nws s₀ s') (hs : ∀ b ∈ wr, b ∈ fp) (hCf : C ∉ fp) (hG : ∀ b ∈ wr, G.get? b = none) (hn : ∀ p ∈ nws, p.1 ∉ fp)
    (hk : ∀ b o, b ∉ wr → s'.heap.get? b = some o → h'.get? b = some o) : At G C m' nws s₀ { s' with heap := h', toks := tk } :=
  ⟨J.ns.at' fun o e => hk _ o (fun h => hCf (hs _ h)) e, fun b o e => hk b o (fun hb => by rw [hG _ hb] at e; cases e) (J.keep b o e), J.gL, fun p hp => ⟨hk _ _ (fun hb => hn p hp (hs _ hb)) (J.N p hp).1, (J.N p hp).2⟩, J.nd, by have := J.e; rw [this]⟩
/-- back to the frame of old, behind a comprehension -/
theorem At.home {G g : Heap} {C L : Addr} {m mC : Str → Option Value} {nws news : List (Addr × Obj)} {fp wr : List Addr} {s₂ s' s₀ : Shared} (K : At G C mC nws s₀ s') (hI : At g L m news s₀ s₂) (hs : ∀ b ∈ wr, b ∈ fp) (hLf : L ∉ fp) (hwr : ∀ b ∈ wr, g.get? b = none) (hnw : ∀ p ∈ news, p.1 ∉ fp)
    (hG : ∀ b o, b ∉ wr → s₂.heap.get? b = some o → G.get? b = some o) : At g L m (nws ++ news) s₀ s' ∧ g.get? C = none ∧ ∀ p ∈ nws ++ news, p.1 ≠ C := by
  have up : ∀ b o, b ∉ wr → s₂.heap.get? b = some o → s'.heap.get? b = some o := fun b o hb e => K.keep b o (hG b o hb e)
  have hgw : ∀ b o, g.get? b = some o → b ∉ wr := fun b o e hb => by rw [hwr b hb] at e; cases e
  have hnG : ∀ p ∈ news, G.get? p.1 = some p.2 := fun p hp => hG _ _ (fun hb => hnw p hp (hs _ hb)) (hI.N p hp).1
  obtain ⟨oL, _, _, hoL, _⟩ := id hI.ns
  have hLG := hG L oL (fun hb => hLf (hs _ hb)) hoL
  have hgG : ∀ {a}, G.get? a = none → g.get? a = none := fun {a} k3 => by
    cases q : g.get? a with
    | none => rfl
    | some o => have := hG _ _ (hgw _ _ q) (hI.keep _ _ q); rw [k3] at this; cases this
  refine ⟨⟨hI.ns.at' fun o e => up _ o (fun hb => hLf (hs _ hb)) e, fun b o e => up b o (hgw b o e) (hI.keep b o e), hI.gL, fun p hp => ?_, ?_, K.e⟩, hgG K.gL, fun p hp h => ?_⟩
  · rcases List.mem_append.mp hp with hp | hp
    · obtain ⟨k1, k2, k3⟩ := K.N p hp
      refine ⟨k1, fun h => ?_, hgG k3⟩
      rw [h, hLG] at k3; cases k3
    · exact ⟨up _ _ (fun hb => hnw p hp (hs _ hb)) (hI.N p hp).1, (hI.N p hp).2⟩
  · rw [List.map_append, List.nodup_append]
    refine ⟨K.nd, hI.nd, fun a ha b hb e => ?_⟩
    obtain ⟨p, hp, rfl⟩ := List.mem_map.mp ha
    obtain ⟨q, hq, rfl⟩ := List.mem_map.mp hb
    have k3 := (K.N p hp).2.2
    rw [e, hnG q hq] at k3; cases k3
  · rcases List.mem_append.mp hp with hp | hp
    · exact (K.N p hp).2.1 h
    · have := hnG p hp; rw [h, K.gL] at this; cases this
theorem hideAll_new {h : Heap} {wr : List Addr} {b : Addr} (hb : h.objs.size ≤ b) : (hideAll h wr).get? b = none := by
  cases q : (hideAll h wr).get? b with
  | none => rfl
  | some o => exact absurd (Heap.lt_size (of_hideAll _ q)) (Nat.not_lt.mpr hb)
theorem At.unowned {G h : Heap} {C : Addr} {m₂ : Str → Option Value} {p : Addr × Obj} {nw' : List (Addr × Obj)} {fp : List Addr} {s₅ s₀ : Shared} (K : At G C m₂ ((ownOf' G fp h ++ [p]) ++ nw') s₀ s₅) (hkeep : ∀ b o, G.get? b = some o → h.get? b = some o)
    (live : ∀ b ∈ fp, ∃ o, h.get? b = some o) : At G C m₂ (p :: nw') s₀ s₅ ∧ (∀ p ∈ nw', p.1 ∉ fp) ∧ ∀ b ∈ fp, ∀ o, h.get? b = some o → s₅.heap.get? b = some o := by
  refine ⟨K.drop (by rw [List.append_assoc]; exact List.sublist_append_right ..), fun p hp hf => ?_, fun b hb o e => ?_⟩
  · have nd := K.nd
    rw [List.map_append, List.nodup_append] at nd
    obtain ⟨o, ho⟩ := live p.1 hf
    exact nd.2.2 p.1 (List.mem_map.mpr ⟨(p.1, o), List.mem_append_left _ (mem_ownOf'.mpr ⟨hf, (K.N p (List.mem_append_right _ hp)).2.2, ho⟩), rfl⟩) p.1 (List.mem_map_of_mem hp) rfl
  · cases hn : G.get? b with
    | some o₀ =>
      have e1 : h.get? b = some o₀ := hkeep b o₀ hn
      rw [e] at e1
      exact (Option.some.inj e1) ▸ K.keep b o₀ hn
    | none => exact K.get (List.mem_append_left _ (List.mem_append_left _ (mem_ownOf'.mpr ⟨hb, hn, e⟩)))
theorem comp_turn {tg elt : Expr} {ifs : List Expr} {cenv : Env} {id : String} {G : Heap} {D C I : Addr} {fp wr : List Addr} {n : Nat} {P : Nat → Value → Heap → Prop} {St : Nat → Heap → Prop} {obj : List Value → Nat → Obj} {PY : Value → Prop} (KY : Value → Prop → Prop)
    {Inv : Nat → List Value → List (Addr × Obj) → Prop} {s₀ : Shared} {R : Shared → Prop}
    (W : Wk prog w A I fp wr n tg P St) (hn : n ≤ sizeLine) (hDf : D ∉ fp) (hCf : C ∉ fp) (hG : ∀ b ∈ wr, G.get? b = none) (hKY : ∀ y X, KY y X → PY y ∧ X)
    (step : ∀ i v own m₁ ys nw s₁, i < n → P i v s₁.heap → Inv i ys nw → At G C m₁ (own ++ nw) s₀ s₁ →
      wpAny (model prog w) A (assign tg cenv v) (fun _ s₃ => wpAny (model prog w) A (forIn ifs true fun c r => if r = true then do let ok ← isTrue c cenv (eval c cenv); pure (ForInStep.yield ok) else pure (ForInStep.yield r)) (fun ok s₄ =>
        Br ok (wpAny (model prog w) A (eval elt cenv) (fun y s₅ => KY y (∃ m₂ nw', At G C m₂ (own ++ nw') s₀ s₅ ∧ Inv (i + 1) (ys ++ [y]) nw')) (fun _ _ => False) s₄)
          (∃ m₂ nw', At G C m₂ (own ++ nw') s₀ s₄ ∧ Inv (i + 1) ys nw')) (fun _ _ => False) s₃) (fun _ _ => False) s₁)
    (add : ∀ {m nw ys c y s} {Q : Value → Shared → Prop}, PY y → ys.length ≤ sizeLine → At G C m ((D, obj ys c) :: nw) s₀ s → (∀ c' s', Heap.SameBut D s.heap s'.heap → At G C m ((D, obj (ys ++ [y]) c') :: nw) s₀ s' → Q .none s') → wpAny (model prog w) A (call (.builtin id) [.ref D, y]) Q (fun _ _ => False) s)
    (fin : ∀ mC ys c nw s', At G C mC ((D, obj ys c) :: nw) s₀ s' → Inv n ys nw → ys.length ≤ n → R s') (k : Nat) (s' : Shared) (h : CJ G C D obj fp n St Inv s₀ k s') :
    wpAny (model prog w) A (pyNext (.ref I)) (fun r s₁ => match r with
      | none => R s₁
      | some v => wpAny (model prog w) A (letOwnedTupleGo tg (.ref I) v) (fun _ s₂ => wpAny (model prog w) A (assign tg cenv v) (fun _ s₃ =>
          wpAny (model prog w) A (forIn ifs true fun c r => if r = true then do let ok ← isTrue c cenv (eval c cenv); pure (ForInStep.yield ok) else pure (ForInStep.yield r)) (fun ok s₄ =>
            Br ok (wpAny (model prog w) A (eval elt cenv) (fun x s₅ => wpAny (model prog w) A (call (.builtin id) [.ref D, x]) (fun _ s₆ => ∃ m, m < k ∧ CJ G C D obj fp n St Inv s₀ m s₆) (fun _ _ => False) s₅) (fun _ _ => False) s₄)
              (∃ m, m < k ∧ CJ G C D obj fp n St Inv s₀ m s₄)) (fun _ _ => False) s₃) (fun _ _ => False) s₂) (fun _ _ => False) s₁) (fun _ _ => False) s' := by
  obtain ⟨i, m', ys, c, nw, J, hnw', hst', hInv, hi, hys, rfl⟩ := h
  have hall : ∀ p ∈ (D, obj ys c) :: nw, p.1 ∉ fp := fun p hp => by
    rcases List.mem_cons.mp hp with rfl | hp
    · exact hDf
    · exact hnw' p hp
  by_cases hlt' : i < n
  · have hk : n + 1 - (i + 1) < n + 1 - i := by omega
    refine W.item i _ _ _ hlt' hst' fun v h' tk hgo hk => ?_
    have J₁ := J.walk W.sub hCf hG hall (tk := tk) hk
    refine hgo _ _ _ rfl fun h'' hP hst₁ hk₁ => ?_
    have J₂ := J₁.walk W.sub hCf hG hall (tk := tk) hk₁
    have J₄ : At G C m' ((ownOf' G fp h'' ++ [(D, obj ys c)]) ++ nw) s₀ { s' with heap := h'', toks := tk } := by simpa using J₂.owned hCf hall
    refine wpAny_mono (step i v _ m' ys nw _ hlt' hP hInv J₄) (fun _ s₃ h₃ => wpAny_mono h₃ (fun ok s₄ h₄ => ?_) fun _ _ x => x) fun _ _ x => x
    cases ok with
    | false =>
      obtain ⟨m₂, nw', K, hInv'⟩ := h₄
      obtain ⟨K1, K2, K3⟩ := K.unowned J₂.keep (W.live _ _ hst₁)
      exact ⟨n + 1 - (i + 1), by assumption, i + 1, m₂, ys, c, nw', K1, K2, W.frame _ _ _ hst₁ K3, hInv', hlt', Nat.le_succ_of_le hys, rfl⟩
    | true =>
      refine wpAny_mono h₄ (fun y s₅ h₅ => ?_) fun _ _ x => x
      obtain ⟨hy, m₂, nw', K, hInv'⟩ := hKY _ _ h₅
      obtain ⟨K1, K2, K3⟩ := K.unowned J₂.keep (W.live _ _ hst₁)
      refine add hy (Nat.le_trans hys (Nat.le_trans hi hn)) K1 fun c' s₆ hs₆ K' => ?_
      refine ⟨n + 1 - (i + 1), by assumption, i + 1, m₂, ys ++ [y], c', nw', K', K2, ?_, hInv', hlt', by rw [List.length_append]; exact Nat.succ_le_succ hys, rfl⟩
      exact W.frame _ _ _ (W.frame _ _ _ hst₁ K3) fun b hb o e => (hs₆.2 b fun h => hDf (h ▸ hb)).trans e
  · obtain rfl : i = n := Nat.le_antisymm hi (Nat.not_lt.mp hlt')
    refine W.done _ _ _ hst' fun h' tk hk => ?_
    exact fin m' ys c nw _ (J.walk W.sub hCf hG hall hk) hInv hys

/-- behind the frame's making, whatever is gathered -/
theorem comp_done {L I : Addr} {news : List (Addr × Obj)} {fp wr : List Addr} {n : Nat} {tg : Expr} {P : Nat → Value → Heap → Prop} {St : Nat → Heap → Prop} {s₂ s₀ : Shared} {g : Heap} {m : Str → Option Value} (hI : At g L m news s₀ s₂) (W : Wk prog w A I fp wr n tg P St) (hst : St 0 s₂.heap)
    {D C : Addr} (hD : D = s₂.heap.objs.size) (hC : C = s₂.heap.objs.size + 1) : D ∉ fp ∧ C ∉ fp ∧ L ≠ C ∧ (∀ b ∈ wr, (hideAll s₂.heap wr).get? b = none) ∧ (hideAll s₂.heap wr).get? D = none ∧ (hideAll s₂.heap wr).get? C = none := by
  subst hD; subst hC
  have fpok : ∀ b ∈ fp, b < s₂.heap.objs.size := fun b hb => by obtain ⟨o, ho⟩ := W.live _ _ hst b hb; exact Heap.lt_size ho
  exact ⟨fun h => absurd (fpok _ h) (Nat.lt_irrefl _), fun h => absurd (fpok _ h) (Nat.not_lt.mpr (Nat.le_succ _)), Nat.ne_of_lt (Nat.lt_succ_of_lt hI.ltL), fun b hb => hideAll_none _ hb, hideAll_new (Nat.le_refl _), hideAll_new (Nat.le_succ _)⟩

theorem comp_core {tg elt iter : Expr} {ifs : List Expr} {scope : Scope} {cl : List (Str × Addr)} {pos : Pos} {s₂ : Shared} {it : Value} {Inv : Nat → List Value → List (Addr × Obj) → Prop} {fin : Heap → Addr → (Str → Option Value) → Shared → List (Addr × Obj) → Addr → Prop} {RR : Value → Addr → Result → Shared → Prop}
    (hcell : ∀ y ∈ scope.names, y.2 ≠ .cell) (hkind : scope.kind = .function)
    (h : CompOn prog w A env scope cl tg elt ifs fin Inv it s₂)
    (hRR : ∀ g L m news s₀ D C mC s', s'.heap.Ns C mC → At g L m news s₀ s' → L ≠ C → g.get? C = none → (∀ p ∈ news, p.1 ≠ C) → fin g L m s₀ news D → RR (.ref D) C (.ok .next) s') :
    wpAny (model prog w) A (newList []) (fun acc s₃ => wpAny (model prog w) A (newFunctionEnv scope env.globals cl [] env.qual none .none (some env)) (fun cenv s₄ =>
      codeAny (model prog w) A (.compStart (.ListComp elt [⟨tg, iter, ifs, 0⟩] scope pos) 0 it acc { cenv with scope := relabel scope env }) (RR acc cenv.locals) s₄) E s₃) E s₂ := by
  obtain ⟨g, L, m, news, s₀, I, fp, wr, n, P, St, rfl, hI, W, hn, hLf, hwr, hnw, hst, h0, step, hfin⟩ := h
  refine wpAny_newObj_type (wpAny_newFunctionEnv hcell (by intro y hy; simp at hy) (fun h₁ hns₁ hsb₁ => ?_) hkind)
  obtain ⟨k1, k2, k3, k4, k5, k6⟩ := comp_done hI W hst rfl rfl
  have hz : (s₂.heap.push (LL [] 0)).objs.size = s₂.heap.objs.size + 1 := Heap.size_push ..
  show codeAny _ _ (.compStart _ 0 (.ref I) (.ref s₂.heap.objs.size) (compEnvC scope cl (s₂.heap.push (LL [] 0)).objs.size env)) (RR (.ref s₂.heap.objs.size) (s₂.heap.push (LL [] 0)).objs.size) _
  have hns₁ : h₁.Ns (s₂.heap.push (LL [] 0)).objs.size fun _ => none := hns₁
  have hsb₁ : Heap.SameBut (s₂.heap.push (LL [] 0)).objs.size ((s₂.heap.push (LL [] 0)).push { cls := .type "dict", data := .dict #[] }) h₁ := hsb₁
  rw [hz] at hns₁ hsb₁ ⊢
  have old : ∀ b o, s₂.heap.get? b = some o → h₁.get? b = some o := fun b o e => (hsb₁.2 b (Nat.ne_of_lt (Nat.lt_succ_of_lt (Heap.lt_size e)))).trans (Heap.get?_push_of_some _ (Heap.get?_push_of_some _ e))
  have hD : h₁.get? s₂.heap.objs.size = some (LL [] 0) := (hsb₁.2 _ (Nat.ne_of_lt (Nat.lt_succ_self _))).trans (Heap.get?_push_of_some _ (Heap.get?_push_size _ rfl))
  have hst₁ : St 0 h₁ := W.frame _ _ _ hst fun b _ o e => old b o e
  have hG : ∀ b o, b ∉ wr → s₂.heap.get? b = some o → (hideAll s₂.heap wr).get? b = some o := fun b o hb e => hideAll_get _ e hb
  have J0 : At (hideAll s₂.heap wr) (s₂.heap.objs.size + 1) (fun _ => none) [(s₂.heap.objs.size, LL [] 0)] s₀ { s₂ with heap := h₁, toks := s₂.toks + 0 } :=
    ⟨hns₁, fun b o e => old b o (of_hideAll _ e), k6, fun p hp => by
      rw [List.mem_singleton] at hp; subst hp
      exact ⟨hD, Nat.ne_of_lt (Nat.lt_succ_self _), k5⟩, by simp, by have := hI.e; rw [this]⟩
  have loop := comp_loop (iter := iter) (scope := scope) (pos := pos) (R := RR (.ref s₂.heap.objs.size) (s₂.heap.objs.size + 1)) _ (comp_turn (id := "list.append") (obj := LL) (PY := fun _ => True) (R := fun s' => RR (.ref s₂.heap.objs.size) (s₂.heap.objs.size + 1) (.ok .next) s') (fun _ X => X) W hn k1 k2 k4 (fun _ _ h => ⟨trivial, h⟩) (fun i v own m₁ ys nw s₁ => step _ _ i v own m₁ ys nw s₁ hG)
    (fun _ hz K h => q_appendS K hz h) fun mC ys c nw s' K hv hl => let ⟨a, b, d⟩ := K.home hI W.sub hLf hwr hnw hG; hRR _ _ _ _ _ _ _ _ _ K.ns a k3 b d (hfin _ c ys nw hv hl))
    (n + 1) ⟨0, _, [], 0, [], J0, (fun p hp => nomatch hp), hst₁, h0, Nat.zero_le _, Nat.le_refl _, rfl⟩
  exact codeAny_compStart_list loop (W.self 0 _ _ _ hst₁ loop)
end
/-! ## MComp2 -/
section
variable {prog : Program} {w : World} {A : Around} {E : Value → Shared → Prop} {s s₀ : Shared} {g : Heap} {L : Addr} {m : Str → Option Value} {news : List (Addr × Obj)} {env : Env}

theorem e_comp {tg elt iter : Expr} {ifs : List Expr} {scope : Scope} {pos : Pos} {Q : Value → Shared → Prop} {cl : List (Str × Addr)} (Inv : Nat → List Value → List (Addr × Obj) → Prop)
    (h : let INV : Nat → List Value → List (Addr × Obj) → Prop := Inv; wpAny (model prog w) A (eval iter env) (fun x s₁ => wpAny (model prog w) A (pyIter x) (fun it s₂ => CompOn prog w A env scope cl tg elt ifs (fun g L m s₀ nw D => ∀ s', At g L m nw s₀ s' → Q (.ref D) s') INV it s₂) E s₁) E s)
    (hclos : closureFor scope env = pure cl := by with_unfolding_all rfl)
    (hcell : (scope.names.all fun y => decide (y.2 ≠ .cell)) = true := by decide +kernel) (hkind : scope.kind = .function := by with_unfolding_all rfl)
    (hnames : (scope.names.all fun x => decide (x.2 = .local → scope.names.lookup x.1 = some .local)) = true := by decide +kernel)
    (hs : ∀ x, foldedSetIterable iter env x = pure x := by intro _; with_unfolding_all rfl) :
    wpAny (model prog w) A (eval (.ListComp elt [⟨tg, iter, ifs, 0⟩] scope pos) env) Q E s := by
  rw [eval_ListComp]
  refine wpAny_comprehension_free (use := none) rfl hs hclos hkind (fun x hx => of_decide_eq_true (List.all_eq_true.mp hnames x hx)) (wpAny_mono h (fun x s₁ h₁ => wpAny_mono h₁ (fun it s₂ h₂ => ?_) fun _ _ e => e) fun _ _ e => e)
  refine comp_core (RR := fun acc C => compPost (model prog w) A E none Q acc C) (fun y hy => of_decide_eq_true (List.all_eq_true.mp hcell y hy)) hkind h₂ fun g L m news s₀ D C mC s' hn I h1 h2 h3 hq => ?_
  exact ⟨mC, hn, fun h' hs' => hq _ (I.aside hs' h1 h2 h3)⟩

theorem x_setcomp {x : Str} {pos' spos : Pos} {tg elt iter : Expr} {ifs : List Expr} {scope : Scope} {pos : Pos} {rest : List Stmt} {Q : Flow → Shared → Prop} {cl : List (Str × Addr)} (Inv : Nat → List Value → List (Addr × Obj) → Prop)
    (h : let INV : Nat → List Value → List (Addr × Obj) → Prop := Inv; wpAny (model prog w) A (eval iter env) (fun xv s₁ => wpAny (model prog w) A (pyIter xv) (fun it s₂ => CompOn prog w A env scope cl tg elt ifs
      (fun g L m s₀ nw D => env.locals = L ∧ ∀ s', At g L (upd m x (.ref D)) nw s₀ s' → wpAny (model prog w) A (execs rest env) Q E s') INV it s₂) E s₁) E s)
    (hsw : swapsWith (.ListComp elt [⟨tg, iter, ifs, 0⟩] scope pos) (some (.Name x pos')) spos.line env = pure true := by with_unfolding_all rfl)
    (hclos : closureFor scope env = pure cl := by with_unfolding_all rfl)
    (hcell : (scope.names.all fun y => decide (y.2 ≠ .cell)) = true := by decide +kernel) (hkind : scope.kind = .function := by with_unfolding_all rfl)
    (hnames : (scope.names.all fun x => decide (x.2 = .local → scope.names.lookup x.1 = some .local)) = true := by decide +kernel)
    (hs : ∀ x, foldedSetIterable iter env x = pure x := by intro _; with_unfolding_all rfl)
    (hk : env.scope.kind = .function := by with_unfolding_all rfl) (hl : env.kindOf x = some .local := by with_unfolding_all rfl) :
    wpAny (model prog w) A (execs (.Assign [.Name x pos'] (.ListComp elt [⟨tg, iter, ifs, 0⟩] scope pos) spos :: rest) env) Q E s := by
  refine x_cons ?_
  rw [exec_Assign_Name_used _ _ _ _ hsw]
  refine wpAny_bind (wpAny_standAt (wpAny_bind ?_))
  show wpAny _ A (do let _ ← comprehension (.ListComp elt [⟨tg, iter, ifs, 0⟩] scope pos) scope env _ (newList []) false (eval iter env) (some (assign (.Name x pos') env))) _ _ s
  refine wpAny_bind (wpAny_mono (wpAny_comprehension_free (use := some (assign (.Name x pos') env)) (Q := fun _ s' => wpAny (model prog w) A (execs rest env) Q E s') rfl hs hclos hkind (fun x hx => of_decide_eq_true (List.all_eq_true.mp hnames x hx))
    (wpAny_mono h (fun xv s₁ h₁ => wpAny_mono h₁ (fun it s₂ h₂ => ?_) fun _ _ e => e) fun _ _ e => e)) (fun _ s' hq => wpAny_pure (wpAny_pure hq)) fun _ _ e => e)
  refine comp_core (RR := fun acc C => compPost (model prog w) A E (some (assign (.Name x pos') env)) (fun _ s' => wpAny (model prog w) A (execs rest env) Q E s') acc C) (fun y hy => of_decide_eq_true (List.all_eq_true.mp hcell y hy)) hkind h₂ fun g L m news s₀ D C mC s' hn I h1 h2 h3 hq => ?_
  show wpAny _ A (assign (.Name x pos') env (.ref D)) _ _ _
  obtain ⟨hL, hq⟩ := hq
  subst hL
  refine wpAny_assign_Name (wpAny_storeName_local hl I.ns (fun h' hn' hs' => ?_) (by rw [hk]; rfl))
  exact ⟨mC, hn.sameBut hs' (Ne.symm h1), fun h'' hs'' => hq _ ((I.move (tk := s'.toks + 1) (m' := upd m x (.ref D)) hn' fun b o hb e => (hs'.2 b hb).trans e).aside hs'' h1 h2 h3)⟩
end
/-! ## MSrc -/
/-- something to loop over, apart from the frame -/
inductive Src (prog : Program) (w : World) (A : Around) (tg : Expr) (n : Nat) (P : Nat → Value → Heap → Prop) (g : Heap) (L : Addr) (news : List (Addr × Obj)) (it : Value) (s₂ : Shared) : Prop
  | mk (I : Addr) (fp : List Addr) (wr : List Addr) (St : Nat → Heap → Prop)
    (q0 : it = .ref I)
    (q1 : Wk prog w A I fp wr n tg P St)
    (q2 : L ∉ fp)
    (q3 : (∀ b ∈ wr, g.get? b = none))
    (q4 : (∀ p ∈ news, p.1 ∉ fp))
    (q5 : St 0 s₂.heap) : Src prog w A tg n P g L news it s₂

section
variable {prog : Program} {w : World} {A : Around} {E : Value → Shared → Prop} {s s₀ : Shared} {g : Heap} {L : Addr} {m : Str → Option Value} {news : List (Addr × Obj)} {env : Env} {tg : Expr} {n : Nat} {P : Nat → Value → Heap → Prop}

theorem Src.loop {it : Value} {body orelse rest : List Stmt} {Q : Flow → Shared → Prop} {Inv : Nat → (Str → Option Value) → List (Addr × Obj) → Prop} (S : Src prog w A tg n P g L news it s) (I : At g L m news s₀ s) (h0 : Inv 0 m news)
    (step : ∀ i v own m₁ news₁ s₁, i < n → P i v s₁.heap → Inv i m₁ news₁ → At g L m₁ (own ++ news₁) s₀ s₁ → let K : Flow → Shared → Prop := fun f s₄ => match f with
      | .next | .cont => ∃ m₂ news₂, At g L m₂ (own ++ news₂) s₀ s₄ ∧ Inv (i + 1) m₂ news₂
      | .brk => wpAny (model prog w) A (execs rest env) Q E s₄
      | .ret v => Q (.ret v) s₄
      wpAny (model prog w) A (assign tg env v) (fun _ s₃ => wpAny (model prog w) A (execs body env) K (fun _ _ => False) s₃) (fun _ _ => False) s₁)
    (fin : ∀ m' news' s', At g L m' news' s₀ s' → Inv n m' news' → wpAny (model prog w) A (execs orelse env) (Seq (model prog w) A rest env Q E) (fun _ _ => False) s')
    (hL : env.locals = L := by with_unfolding_all rfl) : LoopOn prog w A E env tg body orelse rest Q Inv it s := by
  obtain ⟨Ia, fp, wr, St, rfl, W, h1, h2, h3, h4⟩ := S
  exact ⟨g, L, m, news, s₀, Ia, fp, wr, n, P, St, rfl, I, hL, W, h1, h2, h3, h4, h0, step, fin⟩

theorem Src.comp {it : Value} {scope : Scope} {cl : List (Str × Addr)} {elt : Expr} {ifs : List Expr} {fin : Heap → Addr → (Str → Option Value) → Shared → List (Addr × Obj) → Addr → Prop} {Inv : Nat → List Value → List (Addr × Obj) → Prop} (S : Src prog w A tg n P g L news it s) (I : At g L m news s₀ s) (hn : n ≤ sizeLine) (h0 : Inv 0 [] [])
    (step : ∀ G C i v own m₁ ys nw s₁, (∀ b o, g.get? b = some o → G.get? b = some o) → (∀ p ∈ news, G.get? p.1 = some p.2) → G.Ns L m → i < n → P i v s₁.heap → Inv i ys nw → At G C m₁ (own ++ nw) s₀ s₁ →
      let K1 : Value → Shared → Prop := fun y s₅ => ∃ m₂ nw', At G C m₂ (own ++ nw') s₀ s₅ ∧ Inv (i + 1) (ys ++ [y]) nw'
      let K2 : Shared → Prop := fun s₄ => ∃ m₂ nw', At G C m₂ (own ++ nw') s₀ s₄ ∧ Inv (i + 1) ys nw'
      let EV : Env := compEnvC scope cl C env
      wpAny (model prog w) A (assign tg EV v) (fun _ s₃ =>
        wpAny (model prog w) A (forIn ifs true fun c r => if r = true then do let ok ← isTrue c EV (eval c EV); pure (ForInStep.yield ok) else pure (ForInStep.yield r)) (fun ok s₄ =>
          Br ok (wpAny (model prog w) A (eval elt EV) K1 (fun _ _ => False) s₄) (K2 s₄)) (fun _ _ => False) s₃) (fun _ _ => False) s₁)
    (hfin : ∀ D k ys nw, Inv n ys nw → ys.length ≤ n → fin g L m s₀ (((D, LL ys k) :: nw) ++ news) D) : CompOn prog w A env scope cl tg elt ifs fin Inv it s := by
  obtain ⟨Ia, fp, wr, St, rfl, W, h1, h2, h3, h4⟩ := S
  refine ⟨g, L, m, news, s₀, Ia, fp, wr, n, P, St, rfl, I, W, hn, h1, h2, h3, h4, h0, fun G C i v own m₁ ys nw s₁ hG => step G C i v own m₁ ys nw s₁ (fun b o e => hG b o (fun hb => by rw [h2 b hb] at e; cases e) (I.keep b o e)) (fun p hp => hG _ _ (fun hb => h3 p hp (W.sub _ hb)) (I.N p hp).1) ?_, hfin⟩
  exact I.ns.at' fun o e => hG _ o (fun hb => h1 (W.sub _ hb)) e

/-- the fresh address of an iterator -/
theorem At.fresh (I : At g L m news s₀ s) : L ≠ s.heap.objs.size ∧ g.get? s.heap.objs.size = none ∧ ∀ p ∈ news, p.1 ≠ s.heap.objs.size := by
  refine ⟨Nat.ne_of_lt I.ltL, ?_, fun p hp => Nat.ne_of_lt (Heap.lt_size (I.N p hp).1)⟩
  cases q : g.get? s.heap.objs.size with
  | none => rfl
  | some o => exact absurd (Heap.lt_size (I.keep _ _ q)) (Nat.lt_irrefl _)

theorem src_list {ax : Addr} {items : Array Value} {Q : Value → Shared → Prop} (hh : A.handled = none) (I : At g L m news s₀ s) (hl : g.IsList ax items)
    (h : ∀ it s', At g L m news s₀ s' → (∀ x px, Src prog w A (.Name x px) items.size (fun i v _ => items[i]? = some v) g L news it s') → Q it s') : wpAny (model prog w) A (pyIter (.ref ax)) Q E s := by
  obtain ⟨ol, hol, hol'⟩ := id hl
  have hol₁ := I.keep _ _ hol
  have hlt := Heap.lt_size hol₁
  refine wpAny_pyIter_list (⟨ol, hol₁, hol'⟩ : s.heap.IsList ax items) ?_
  obtain ⟨f1, f2, f3⟩ := I.fresh
  have st : (s.heap.push { cls := .type "list_iterator", data := .fields #[.ref ax, .int 0 0] }).IsListIter s.heap.objs.size ax (0 : Nat) ∧ (s.heap.push { cls := .type "list_iterator", data := .fields #[.ref ax, .int 0 0] }).IsList ax items :=
    ⟨⟨_, Heap.get?_push_size _ rfl, rfl, rfl⟩, ⟨ol, Heap.get?_push_of_some _ hol₁, hol'⟩⟩
  refine h _ _ (I.push (tk := s.toks) { cls := .type "list_iterator", data := .fields #[.ref ax, .int 0 0] }).tail fun x px => ⟨s.heap.objs.size, [s.heap.objs.size, ax], [s.heap.objs.size], _, rfl, Wk.name (Walks.list hh _ ax (Nat.ne_of_lt hlt) items) (fun i h st => live_list st), ?_, ?_, ?_, st⟩
  · intro hm
    simp only [List.mem_cons, List.not_mem_nil, or_false] at hm
    rcases hm with h | h
    · exact f1 h
    · rw [← h, I.gL] at hol; cases hol
  · intro b hb; rw [List.mem_singleton] at hb; subst hb; exact f2
  · intro p hp hm
    simp only [List.mem_cons, List.not_mem_nil, or_false] at hm
    rcases hm with h | h
    · exact f3 p hp h
    · have := (I.N p hp).2.2; rw [h, hol] at this; cases this

theorem src_listT {ax : Addr} {items : Array Value} {Q : Value → Shared → Prop} (hh : A.handled = none) (I : At g L m news s₀ s) (hl : g.IsList ax items) (href : ∀ (i : Nat) (v : Value), items[i]? = some v → ∃ a, v = Value.ref a)
    (h : ∀ it s', At g L m news s₀ s' → (∀ elts k pos, Src prog w A (.Tuple elts k pos) items.size (fun i v _ => items[i]? = some v) g L news it s') → Q it s') : wpAny (model prog w) A (pyIter (.ref ax)) Q E s := by
  obtain ⟨ol, hol, hol'⟩ := id hl
  have hol₁ := I.keep _ _ hol
  have hlt := Heap.lt_size hol₁
  refine wpAny_pyIter_list (⟨ol, hol₁, hol'⟩ : s.heap.IsList ax items) ?_
  obtain ⟨f1, f2, f3⟩ := I.fresh
  have st : (s.heap.push { cls := .type "list_iterator", data := .fields #[.ref ax, .int 0 0] }).IsListIter s.heap.objs.size ax (0 : Nat) ∧ (s.heap.push { cls := .type "list_iterator", data := .fields #[.ref ax, .int 0 0] }).IsList ax items :=
    ⟨⟨_, Heap.get?_push_size _ rfl, rfl, rfl⟩, ⟨ol, Heap.get?_push_of_some _ hol₁, hol'⟩⟩
  refine h _ _ (I.push (tk := s.toks) { cls := .type "list_iterator", data := .fields #[.ref ax, .int 0 0] }).tail fun elts k pos => ⟨s.heap.objs.size, [s.heap.objs.size, ax], [s.heap.objs.size], _, rfl, Wk.tup hh _ ax (Nat.ne_of_lt hlt) items href, ?_, ?_, ?_, st⟩
  · intro hm
    simp only [List.mem_cons, List.not_mem_nil, or_false] at hm
    rcases hm with h | h
    · exact f1 h
    · rw [← h, I.gL] at hol; cases hol
  · intro b hb; rw [List.mem_singleton] at hb; subst hb; exact f2
  · intro p hp hm
    simp only [List.mem_cons, List.not_mem_nil, or_false] at hm
    rcases hm with h | h
    · exact f3 p hp h
    · have := (I.N p hp).2.2; rw [h, hol] at this; cases this

theorem src_tuple {ax : Addr} {items : Array Value} {Q : Value → Shared → Prop} (hh : A.handled = none) (I : At g L m news s₀ s) (hl : IsTup g ax items)
    (h : ∀ it s', At g L m news s₀ s' → (∀ x px, Src prog w A (.Name x px) items.size (fun i v _ => items[i]? = some v) g L news it s') → Q it s') : wpAny (model prog w) A (pyIter (.ref ax)) Q E s := by
  obtain ⟨ol, hol, hol'⟩ := id hl
  have hol₁ := I.keep _ _ hol
  have hlt := Heap.lt_size hol₁
  refine wpAny_pyIter_tuple (⟨ol, hol₁, hol'⟩ : s.heap.IsTuple ax items) ?_
  obtain ⟨f1, f2, f3⟩ := I.fresh
  have st : (s.heap.push { cls := .type "tuple_iterator", data := .fields #[.ref ax, .int 0 0] }).IsTupleIter s.heap.objs.size ax (0 : Nat) ∧ (s.heap.push { cls := .type "tuple_iterator", data := .fields #[.ref ax, .int 0 0] }).IsTuple ax items :=
    ⟨⟨_, Heap.get?_push_size _ rfl, rfl, rfl⟩, ⟨ol, Heap.get?_push_of_some _ hol₁, hol'⟩⟩
  refine h _ _ (I.push (tk := s.toks) { cls := .type "tuple_iterator", data := .fields #[.ref ax, .int 0 0] }).tail fun x px => ⟨s.heap.objs.size, [s.heap.objs.size, ax], [s.heap.objs.size], _, rfl, Wk.name (Walks.tuple hh _ ax (Nat.ne_of_lt hlt) items) (fun i h st b hb => ?_), ?_, ?_, ?_, st⟩
  · obtain ⟨⟨o1, h1, _⟩, ⟨o2, h2, _⟩⟩ := st
    simp only [List.mem_cons, List.not_mem_nil, or_false] at hb
    rcases hb with rfl | rfl
    · exact ⟨_, h1⟩
    · exact ⟨_, h2⟩
  · intro hm
    simp only [List.mem_cons, List.not_mem_nil, or_false] at hm
    rcases hm with h | h
    · exact f1 h
    · rw [← h, I.gL] at hol; cases hol
  · intro b hb; rw [List.mem_singleton] at hb; subst hb; exact f2
  · intro p hp hm
    simp only [List.mem_cons, List.not_mem_nil, or_false] at hm
    rcases hm with h | h
    · exact f3 p hp h
    · have := (I.N p hp).2.2; rw [h, hol] at this; cases this

theorem a_name {x : Str} {pos : Pos} {v : Value} {Q : Unit → Shared → Prop} (I : At g L m news s₀ s) (h : ∀ s', At g L (upd m x v) news s₀ s' → Q () s')
    (hk : env.scope.kind = .function := by with_unfolding_all rfl) (hl : env.kindOf x = some .local := by with_unfolding_all rfl) (hL : env.locals = L := by with_unfolding_all rfl) :
    wpAny (model prog w) A (assign (.Name x pos) env v) Q E s := PyProof.Rows.assign_Name (r_store I h hk hl hL)
theorem f_nil {env : Env} {Q : Bool → Shared → Prop} (h : Q true s) :
    wpAny (model prog w) A (forIn ([] : List Expr) true fun c r => if r = true then do let ok ← isTrue c env (eval c env); pure (ForInStep.yield ok) else pure (ForInStep.yield r)) Q E s := wpAny_tests_nil h
theorem f_one {env : Env} {c : Expr} {Q : Bool → Shared → Prop} (h : wpAny (model prog w) A (isTrue c env (eval c env)) Q E s) :
    wpAny (model prog w) A (forIn [c] true fun c r => if r = true then do let ok ← isTrue c env (eval c env); pure (ForInStep.yield ok) else pure (ForInStep.yield r)) Q E s := wpAny_tests_one h
end
/-! ## MPath -/
section
variable {prog : Program} {w : World} {A : Around} {E : Value → Shared → Prop} {s s₀ : Shared} {g : Heap} {L : Addr} {m : Str → Option Value} {news : List (Addr × Obj)} {env : Env} {mg mb : Str → Option Value}

/-- unpacking of a tuple in hand -/
theorem a_tup {elts : List Expr} {k : Nat} {pos : Pos} {t : Addr} {vs : List Value} {Q : Unit → Shared → Prop} (hh : A.handled = none) (I : At g L m news s₀ s) (ht : IsTup s.heap t vs.toArray)
    (h : ∀ s', At g L m news s₀ s' → wpAny (model prog w) A (assignInOrder ((assignEach elts env).map (·.2)) vs) Q E s')
    (hlen : (assignEach elts env).length = vs.length := by with_unfolding_all rfl) (hst : (assignEach elts env).findIdx? (·.1) = none := by with_unfolding_all rfl) :
    wpAny (model prog w) A (assign (.Tuple elts k pos) env (.ref t)) Q E s :=
  assign_Tuple_tuple hh ht (by simpa using hlen) hst fun h' hx => by
    have := h _ (I.move (tk := s.toks) (I.ns.at' fun o e => hx _ o (Nat.ne_of_lt (Heap.lt_size e)) e) fun b o _ e => hx b o (Nat.ne_of_lt (Heap.lt_size e)) e)
    simpa using this
theorem a_cons {x : Str} {px : Pos} {elts : List Expr} {v : Value} {vs : List Value} {Q : Unit → Shared → Prop} (I : At g L m news s₀ s)
    (h : ∀ s', At g L (upd m x v) news s₀ s' → wpAny (model prog w) A (assignInOrder ((assignEach elts env).map (·.2)) vs) Q E s')
    (hk : env.scope.kind = .function := by with_unfolding_all rfl) (hl : env.kindOf x = some .local := by with_unfolding_all rfl) (hL : env.locals = L := by with_unfolding_all rfl) :
    wpAny (model prog w) A (assignInOrder ((assignEach (.Name x px :: elts) env).map (·.2)) (v :: vs)) Q E s := by
  show wpAny _ _ (do holding vs (assign (.Name x px) env v); assignInOrder ((assignEach elts env).map (·.2)) vs) Q E s
  exact wpAny_bind (wpAny_holding (a_name I (fun s' I' => h s' I') hk hl hL))
theorem a_nil {Q : Unit → Shared → Prop} (h : Q () s) : wpAny (model prog w) A (assignInOrder ((assignEach [] env).map (·.2)) []) Q E s := wpAny_pure h
theorem x_settup {elts : List Expr} {k : Nat} {tpos pos : Pos} {value : Expr} {rest : List Stmt} {Q : Flow → Shared → Prop}
    (h : wpAny (model prog w) A (eval value env) (fun v s₁ => wpAny (model prog w) A (assign (.Tuple elts k tpos) env v) (fun _ s₂ => wpAny (model prog w) A (execs rest env) Q E s₂) E s₁) E s)
    (h1 : swapsWithSole [Expr.Tuple elts k tpos] value pos.line env = pure false := by with_unfolding_all rfl) (h2 : swappedStores [Expr.Tuple elts k tpos] value env = pure none := by with_unfolding_all rfl) :
    wpAny (model prog w) A (execs (.Assign [.Tuple elts k tpos] value pos :: rest) env) Q E s := x_cons (Assign_Tuple h h1 h2)

theorem x_try {body orelse rest : List Stmt} {h₀ : ExceptHandler} {hs : List ExceptHandler} {pos : Pos} {Q : Flow → Shared → Prop}
    (h : wpAny (model prog w) A (execs body env) (fun f s₁ => match f with | .next => wpAny (model prog w) A (execs orelse env) (Seq (model prog w) A rest env Q E) E s₁ | f => Seq (model prog w) A rest env Q E f s₁) (fun _ _ => False) s) :
    wpAny (model prog w) A (execs (.Try body (h₀ :: hs) orelse [] pos :: rest) env) Q E s :=
  x_cons (wpAny_Try_except (wpAny_mono h (fun f s' hf => by cases f <;> exact hf) fun _ _ x => x.elim))

theorem q_isb {x : Str} {t : Tok} {Q : Value → Shared → Prop} (I : At g L m news s₀ s) (h : ∀ s', At g L m news s₀ s' → Q (.bool false) s') :
    wpAny (model prog w) A (call (.builtin "isinstance") [.str x t, .type "bytes"]) Q E s := IsiPair.str_bytes (h _ (I.tick _))
end

local macro_rules | `(tactic| walk_at "go4") => `(tactic| first
  | walk_at "go3"
  | with_reducible refine x_settup ?_
  | with_reducible refine x_try ?_
  | (with_reducible refine a_name (by assumption) ?_; intro _ _)
  | (with_reducible refine a_cons (by assumption) ?_; intro _ _)
  | with_reducible refine a_nil ?_
  | (with_reducible refine q_isb (by assumption) ?_; intro _ _))

section
variable {prog : Program} {w : World} {A : Around} {E : Value → Shared → Prop} {s s₀ : Shared} {g : Heap} {L : Addr} {m : Str → Option Value} {news : List (Addr × Obj)} {env : Env} {mg mb : Str → Option Value}

theorem c_splitroot {x : Str} {t : Tok} (R : Room A 9) (G : GF mg mb s.heap) (hx : x.length ≤ 1000) (h1 : Txt.slice x none (some 1) = "/") (h2 : Txt.slice x (some 1) (some 2) ≠ "/") :
    wpAny (model prog w) A (call (.ref 136) [.str x t]) (fun v s' => Keeps s s' ∧ ∃ a t1 t2 t3, v = .ref a ∧ IsTup s'.heap a #[.str "" t1, .str "/" t2, .str (Txt.slice x (some 1) none) t3]) E s := by
  refine enter (binds := [("p", .str x t)]) (P := fun v s' => ∃ a t1 t2 t3, v = .ref a ∧ IsTup s'.heap a #[.str "" t1, .str "/" t2, .str (Txt.slice x (some 1) none) t3]) (n := 8) R (fa_splitroot G) G.nolimit rfl (fun pm => .of_eq rfl) (by decide +kernel) (names := ["p"]) (by decide +kernel) ?_
  intro pm A s R hA I KP EV
  refine x_set ?_
  repeat walk_at "go4"
  refine Br.ff (by rw [h1]; decide +kernel) ?_
  repeat walk_at "go4"
  refine Br.tt (by simpa using h2) ?_
  repeat walk_at "go4"
  rename At _ _ _ _ _ _ => I
  exact ⟨I.keeps fun _ _ e => e, _, _, _, _, rfl, I.tup⟩

/-- a call of a def with a `*p` -/
theorem enterV {a k c : Nat} {dV : Value} {args extra : List Value} {mk : Value → List (Str × Value)} {body : List Stmt} {P : Value → Shared → Prop} {n : Nat} (R : Room A (n + 1)) (hf : FnAt s.heap a k c dV) (hlim : s.heap.NoLimit)
    (hbody : fnBody k = body)
    (hbind : ∀ pm, bindArgs (fdOf k c dV pm) ⟨args, []⟩ = (newTuple extra >>= fun t => pure (mk t))) (hz : extra.length ≤ sizeLine)
    {names : List Str} (hcell : ((fnScope k).names.all fun x => decide (x.2 ≠ .cell)) = true) (hloc : (names.all fun x => decide ((fnScope k).names.lookup x = some .local)) = true)
    (h : ∀ pm A' L s₁, Room A' n → At s.heap L (fun x => (mk (.ref s.heap.objs.size)).reverse.lookup x) [(s.heap.objs.size, { cls := .type "tuple", data := .seq extra.toArray })] s s₁ →
      let KP : Flow → Shared → Prop := Done s P
      let EV : Env := callEnv (fdOf k c dV pm) L a
      wpAny (model prog w) A' (execs body EV) KP (fun _ _ => False) s₁)
    (hnames : (mk (.ref s.heap.objs.size)).map (·.1) = names := by with_unfolding_all rfl)
    (hco : (fnScope k).isCoroutine = false := by with_unfolding_all rfl) (hgen : (fnScope k).isGenerator = false := by with_unfolding_all rfl) (hk : (fnScope k).kind = .function := by with_unfolding_all rfl) :
    wpAny (model prog w) A (call (.ref a) args) (fun v s' => Keeps s s' ∧ P v s') E s := by
  obtain ⟨o, pm, ho, hd, hcd⟩ := hf
  subst hbody
  refine wpAny_call (codeAny_call_function R.depth ho hd hco hgen rfl hcd ?_)
  rw [hbind pm]
  refine wpAny_bind (wpAny_newObj_type (wpAny_pure ?_) (by show extra.toArray.size ≤ sizeLine; simpa using hz))
  refine wpAny_newFunctionEnv (fun x hx => of_decide_eq_true (List.all_eq_true.mp hcell x hx)) (fun x hx => of_decide_eq_true (List.all_eq_true.mp hloc x.1 (hnames ▸ List.mem_map_of_mem hx))) (fun h₀ hns₀ hsb₀ => ⟨?_, codeAny_func ?_⟩) hk
  · exact (hlim.push _).fresh _ hsb₀
  have e1 : (s.heap.push { cls := .type "tuple", data := .seq extra.toArray }).objs.size = s.heap.objs.size + 1 := Heap.size_push ..
  refine wpAny_mono (h pm _ _ _ R.deeper ?_) (fun _ _ x => x) fun _ _ (x : False) => x.elim
  have up : ∀ b o, (s.heap.push { cls := .type "tuple", data := .seq extra.toArray }).get? b = some o → h₀.get? b = some o := fun b o e => hsb₀.extBut b o (Nat.ne_of_lt (Heap.lt_size e)) (Heap.get?_push_of_some _ e)
  have none_at : ∀ b, s.heap.objs.size ≤ b → s.heap.get? b = none := fun b hb => by
    cases q : s.heap.get? b with
    | none => rfl
    | some o => exact absurd (Heap.lt_size q) (Nat.not_lt.mpr hb)
  refine ⟨hns₀, fun b o e => up b o (Heap.get?_push_of_some _ e), none_at _ (by rw [e1]; exact Nat.le_succ _), fun p hp => ?_, by simp, rfl⟩
  rw [List.mem_singleton] at hp
  subst hp
  exact ⟨up _ _ (Heap.get?_push_size _ rfl), by rw [e1]; exact Nat.ne_of_lt (Nat.lt_succ_self _), none_at _ (Nat.le_refl _)⟩

noncomputable def joinF (a b : Str) : Str := bif Txt.endswith a "/" then a ++ b else a ++ ("/" ++ b)

theorem c_join {x y : Str} {t u : Tok} (R : Room A 9) (G : GF mg mb s.heap) (hx : x.length ≤ 400) (hy : y.length ≤ 400) (hx0 : x.length ≠ 0) (hy0 : Txt.startswith y "/" = false) :
    wpAny (model prog w) A (call (.ref 129) [.str x t, .str y u]) (fun v s' => Keeps s s' ∧ ∃ t', v = .str (joinF x y) t') E s := by
  refine enterV (mk := fun v => [("a", .str x t), ("p", v)]) (extra := [.str y u]) (P := fun v _ => ∃ t', v = .str (joinF x y) t') (n := 8) R (fa_join G) G.nolimit rfl (fun pm => rfl) (by rw [sizeLine_eq]; simp) (by decide +kernel) (names := ["a", "p"]) (by decide +kernel) ?_
  obtain ⟨s₀, hs₀⟩ : ∃ s₀, s₀ = s := ⟨_, rfl⟩
  rw [← hs₀] at G ⊢
  intro pm A L s R I KP EV
  refine x_set ?_
  repeat walk_at "go4"
  rename At _ _ _ _ _ _ => I
  obtain ⟨g', I, hg, hT⟩ := I.freeze1
  have G' := G.keeps hg
  have I0 := I
  generalize hM : upd _ _ _ = M0 at I I0
  have hpath : M0 "path" = some (.str x t) := by rw [← hM]; walk_at "lk"
  have hp : M0 "p" = some (.ref s₀.heap.objs.size) := by rw [← hM]; walk_at "lk"
  have hsep : ∃ t', M0 "sep" = some (.str "/" t') := ⟨_, by rw [← hM]; walk_at "lk"⟩
  obtain ⟨t2, hsep⟩ := hsep
  clear hM
  refine x_for (fun i m nw => nw = [] ∧ (i = 0 → m = M0) ∧ (i = 1 → ∃ t', m "path" = some (.str (joinF x y) t'))) ?_
  intro INV
  repeat walk_at "go4"
  refine src_tuple R.h I ⟨_, hT, rfl, _, rfl⟩ fun it s I S => ?_
  refine (S _ _).loop I ⟨rfl, fun _ => rfl, fun h => by cases h⟩ ?_ ?_
  · rintro i v own m₁ nw s hi hv ⟨rfl, hm, _⟩ I
    intro KK
    obtain rfl : i = 0 := by simp at hi; exact hi
    obtain rfl := hm rfl
    obtain rfl : v = .str y u := by simpa using hv.symm
    repeat walk_at "go4"
    refine Br.ff hy0 ?_
    repeat walk_at "go4"
    refine Br.ff (by simpa using hx0) ?_
    repeat walk_at "go4"
    have hsl : (Str.ofString "/").length = 1 := by decide +kernel
    refine Br.split (fun hb => ?_) (fun hb => ?_)
    · repeat walk_at "go4"
      rename At _ _ _ _ _ _ => I
      exact ⟨_, [], I, rfl, (fun h => by cases h), fun _ => ⟨_, by unfold joinF; rw [hb]; exact lk_here⟩⟩
    · repeat walk_at "go4"
      rename At _ _ _ _ _ _ => I
      exact ⟨_, [], I, rfl, (fun h => by cases h), fun _ => ⟨_, by unfold joinF; rw [hb]; exact lk_here⟩⟩
  · rintro m nw s I ⟨rfl, _, hm⟩
    obtain ⟨t', hm⟩ := hm rfl
    repeat walk_at "go4"
    rename At _ _ _ _ _ _ => I
    exact ⟨I.keeps hg, _, rfl⟩
end
/-! ## MList -/
section
variable {prog : Program} {w : World} {A : Around} {E : Value → Shared → Prop} {s s₀ : Shared} {g : Heap} {L : Addr} {m : Str → Option Value} {news pre post : List (Addr × Obj)} {env : Env} {mg mb : Str → Option Value}

theorem LL_mk (vs : List Value) : ({ cls := .type "list", data := .seq vs.toArray } : Obj) = LL vs 0 := rfl
/-- the entry in the middle comes ahead, and goes back -/
theorem At.mid {p : Addr × Obj} (I : At g L m (pre ++ p :: post) s₀ s) : At g L m (p :: (pre ++ post)) s₀ s := I.perm List.perm_middle.symm
theorem At.unmid {p : Addr × Obj} (I : At g L m (p :: (pre ++ post)) s₀ s) : At g L m (pre ++ p :: post) s₀ s := I.perm List.perm_middle

theorem gm_append {a : Addr} {vs : List Value} {n : Nat} {pl : Sem Bool} {Q : Value × List Value → Shared → Prop} (hg : s.heap.get? a = some (LL vs n)) (h : Q (.builtin "list.append", [.ref a]) s) :
    wpAny (model prog w) A (getMethod (.ref a) "append" pl) Q E s :=
  getMethod_append_N (h₀ := {}) (L := a + 1) (news := [(a, LL vs n)]) (fun p hp => by rw [List.mem_singleton] at hp; subst hp; exact ⟨hg, Nat.ne_of_lt (Nat.lt_succ_self _), empty_get _⟩) (.head _) h rfl rfl
theorem gm_pop {a : Addr} {vs : List Value} {n : Nat} {pl : Sem Bool} {Q : Value × List Value → Shared → Prop} (hg : s.heap.get? a = some (LL vs n)) (h : Q (.builtin "list.pop", [.ref a]) s) :
    wpAny (model prog w) A (getMethod (.ref a) "pop" pl) Q E s := Copied.getMethod_pop_at hg rfl rfl h

theorem q_app_mid {a : Addr} {n : Nat} {vs : List Value} {x : Value} {Q : Value → Shared → Prop} (I : At g L m (pre ++ (a, LL vs n) :: post) s₀ s) (hz : vs.length ≤ sizeLine)
    (h : ∀ n' s', At g L m (pre ++ (a, LL (vs ++ [x]) n') :: post) s₀ s' → Q .none s') : wpAny (model prog w) A (call (.builtin "list.append") [.ref a, x]) Q E s :=
  q_append I.mid hz fun n' s' I' => h n' s' I'.unmid

theorem q_pop {a : Addr} {n : Nat} {vs : List Value} {x : Value} {Q : Value → Shared → Prop} (I : At g L m ((a, LL (vs ++ [x]) n) :: news) s₀ s) (hz : vs.length + 1 ≤ sizeLine)
    (h : ∀ n' s', At g L m ((a, LL vs n') :: news) s₀ s' → Q x s') : wpAny (model prog w) A (call (.builtin "list.pop") [.ref a]) Q E s := by
  refine Copied.pop_at (its := (vs ++ [x]).toArray) (n := n) (y := x) (I.get (.head _)) (by simp) (fun h' hs e => ?_) (by simpa using hz)
  exact h (n + 1) _ (I.change (o' := LL vs (n + 1)) (f := id) hs (by rw [e]; unfold LL; simp))
theorem q_pop_mid {a : Addr} {n : Nat} {vs : List Value} {x : Value} {Q : Value → Shared → Prop} (I : At g L m (pre ++ (a, LL (vs ++ [x]) n) :: post) s₀ s) (hz : vs.length + 1 ≤ sizeLine)
    (h : ∀ n' s', At g L m (pre ++ (a, LL vs n') :: post) s₀ s' → Q x s') : wpAny (model prog w) A (call (.builtin "list.pop") [.ref a]) Q E s :=
  q_pop I.mid hz fun n' s' I' => h n' s' I'.unmid

theorem q_trl {a : Addr} {vs : List Value} {Q : Bool → Shared → Prop} (I : At g L m news s₀ s) (hl : s.heap.IsList a vs.toArray) (hz : vs.length ≤ sizeLine)
    (h : ∀ s', At g L m news s₀ s' → Q (!vs.isEmpty) s') : wpAny (model prog w) A (truthy (.ref a)) Q E s :=
  wpAny_truthy_list hl (by rw [sizeLine_eq] at hz; simp; omega) (by have := h _ (I.tick (s.toks + 1 + 1)); simpa using this)

theorem q_last {value slice : Expr} {a : Addr} {vs : List Value} {x : Value} {u : Tok} {Q : Value → Shared → Prop} (hl : s.heap.IsList a (vs ++ [x]).toArray) (h : Q x s)
    (h1 : subscripted slice false (.ref a) (.int (-1) u) = operate [.ref a, .int (-1) u] (getItem (.ref a) (.int (-1) u)) := by with_unfolding_all rfl)
    (h2 : ∀ r, letTemporaryGo value (.ref a) r = pure () := by intro _; with_unfolding_all rfl) :
    wpAny (model prog w) A (subscriptTail value slice (.ref a) (.int (-1) u)) Q E s := item_last hl h h1 h2
end

section
variable {prog : Program} {w : World} {A : Around} {E : Value → Shared → Prop} {s s₀ : Shared} {g : Heap} {L : Addr} {m : Str → Option Value} {news pre post : List (Addr × Obj)} {env : Env} {mg mb : Str → Option Value}
theorem e_fn {f : Str} {p pos : Pos} {e : Expr} {rest : List Expr} {a k c : Nat} {dV : Value} {Q : Value → Shared → Prop} (I : At g L m news s₀ s) (G : GF mg mb g) (hd : (f, a, k, c, dV) ∈ fns)
    (h : wpAny (model prog w) A (spliced (backTo pos (starEach (e :: rest) env))) (fun vs s₁ => Ab g s₁ (wpAny (model prog w) A (call (.ref a) vs) Q E s₁)) E s)
    (hse : starEach (e :: rest) env = (false, eval e env) :: starEach rest env := by with_unfolding_all rfl)
    (hk : env.scope.kind = .function := by with_unfolding_all rfl) (hl : env.kindOf f = some .globalImplicit := by with_unfolding_all rfl) (hg : env.globals = mainGlobals := by with_unfolding_all rfl)
    (hdb : (f == ("__debug__" : Str)) = false := by decide +kernel) :
    wpAny (model prog w) A (eval (.Call (.Name f p) (e :: rest) [] pos) env) Q E s := e_call1 I G hd h hse hk hl hg hdb
end

section
variable {prog : Program} {w : World} {A : Around} {E : Value → Shared → Prop} {s s₀ : Shared} {g : Heap} {L : Addr} {m : Str → Option Value} {news pre post : List (Addr × Obj)} {env : Env}
theorem q_neg {a : Int} {t : Tok} {Q : Value → Shared → Prop} (I : At g L m news s₀ s) (h : ∀ t' s', At g L m news s₀ s' → Q (.int (-a) t') s') :
    wpAny (model prog w) A (unaryOp .USub (.int a t)) Q E s := PyProof.Rows.neg_int (h _ _ (I.tick _))
end

local macro_rules | `(tactic| walk_at "go5") => `(tactic| first
  | walk_at "go4"
  | (with_reducible refine q_neg (by assumption) ?_; intro _ _ _)
  | with_reducible refine wpAny_truthy_bool ?_
  | (with_reducible refine q_app_mid (by assumption) ?_ ?_; rotate_left; intro _ _ _)
  | (with_reducible refine q_append (by assumption) ?_ ?_; rotate_left; intro _ _ _))

theorem At.freeze_tail {g : Heap} {L : Addr} {m : Str → Option Value} {p : Addr × Obj} {q : List (Addr × Obj)} {s₀ s : Shared} (I : At g L m (p :: q) s₀ s) :
    ∃ g', At g' L m [p] s₀ s ∧ (∀ b o, g.get? b = some o → g'.get? b = some o) ∧ ∀ r ∈ q, g'.get? r.1 = some r.2 := by
  obtain ⟨g', I', h1, h2⟩ := I.freeze (news' := [p]) (List.Sublist.cons_cons _ (List.nil_sublist _))
  refine ⟨g', I', h1, fun r hr => h2 r.1 r.2 (I.N r (.tail _ hr)).1 (I.N r (.tail _ hr)).2.1 fun h => ?_⟩
  have nd := I.nd
  rw [List.map_cons, List.nodup_cons] at nd
  simp only [List.map_cons, List.map_nil, List.mem_cons, List.not_mem_nil, or_false] at h
  exact nd.1 (h ▸ List.mem_map_of_mem hr)

theorem strsAre_concat : ∀ {vs : List Value} {v : Value} {acc : List Str}, StrsAre (vs ++ [v]) acc → ∃ acc' z tz, acc = acc' ++ [z] ∧ v = .str z tz ∧ StrsAre vs acc'
  | [], v, acc, h => by
    cases h with
    | cons y t h => cases h; exact ⟨[], y, t, rfl, rfl, .nil⟩
  | u :: vs, v, acc, h => by
    cases h with
    | cons y t h =>
      obtain ⟨acc', z, tz, rfl, rfl, h'⟩ := strsAre_concat h
      exact ⟨y :: acc', z, tz, rfl, rfl, .cons y t h'⟩
noncomputable def wt (l : List Str) : Nat := (l.map (·.length)).sum + l.length
theorem wt_append (a b : List Str) : wt (a ++ b) = wt a + wt b := by unfold wt; simp; omega
theorem wt_dropLast (a : List Str) : wt a.dropLast ≤ wt a := by
  rcases List.eq_nil_or_concat a with rfl | ⟨b, x, rfl⟩
  · exact Nat.le_refl _
  · simp [wt_append]

noncomputable def npStep (acc : List Str) (c : Str) : List Str :=
  if c.length = 0 ∨ c = "." then acc
  else if c ≠ ".." ∨ (acc ≠ [] ∧ acc.getLast? = some "..") then acc ++ [c] else if acc ≠ [] then acc.dropLast else acc
theorem wt_step (acc : List Str) (c : Str) : wt (npStep acc c) ≤ wt acc + wt [c] := by
  unfold npStep
  split
  · omega
  · split
    · rw [wt_append]; exact Nat.le_refl _
    · split
      · have := wt_dropLast acc; omega
      · omega
theorem wt_fold (l : List Str) : ∀ acc, wt (l.foldl npStep acc) ≤ wt acc + wt l := by
  induction l with
  | nil => intro acc; exact Nat.le_refl _
  | cons c l ih =>
    intro acc
    have h1 := ih (npStep acc c)
    have h2 := wt_step acc c
    have h3 : wt (c :: l) = wt [c] + wt l := by rw [← wt_append]; rfl
    simp only [List.foldl_cons]
    omega
theorem len_join (l : List Str) : (Txt.join "/" l).length ≤ wt l := by
  have h : (Txt.join "/" l).length = _ := size_glued "/" l
  rw [h, show (Str.ofString "/").length = 1 from by decide +kernel]
  unfold wt; omega
theorem wt_split (x : Str) : wt (Txt.split x "/") ≤ x.length + 1 := split_weight x "/" (by decide +kernel)
theorem len_wt (l : List Str) : l.length ≤ wt l := by unfold wt; omega
theorem wt_take (l : List Str) (i : Nat) : wt (l.take i) ≤ wt l := by
  have h : wt l = wt (l.take i) + wt (l.drop i) := by rw [← wt_append, List.take_append_drop]
  omega
/-- normpath of a text that begins with one slash -/
noncomputable def normF (x : Str) : Str := "/" ++ Txt.join "/" ((Txt.split (Txt.slice x (some 1) none) "/").foldl npStep [])

section
variable {prog : Program} {w : World} {A : Around} {E : Value → Shared → Prop} {s : Shared} {mg mb : Str → Option Value}
theorem c_normpath {x : Str} {t : Tok} (R : Room A 12) (G : GF mg mb s.heap) (hx : x.length ≤ 900) (h1 : Txt.slice x none (some 1) = "/") (h2 : Txt.slice x (some 1) (some 2) ≠ "/") (hx0 : x.length ≠ 0) :
    wpAny (model prog w) A (call (.ref 150) [.str x t]) (fun v s' => Keeps s s' ∧ ∃ t', v = .str (normF x) t') E s := by
  obtain ⟨s₀, hs₀⟩ : ∃ s₀, s₀ = s := ⟨_, rfl⟩
  rw [← hs₀] at G ⊢
  refine enter (binds := [("path", .str x t)]) (P := fun v _ => ∃ t', v = .str (normF x) t') (n := 11) R (fa_normpath G) G.nolimit rfl (fun pm => .of_eq rfl) (by decide +kernel) (names := ["path"]) (by decide +kernel) ?_
  intro pm A s R hA I KP EV
  refine x_set ?_
  repeat walk_at "go4"
  refine Br.ff (by simpa using hx0) ?_
  repeat walk_at "go4"
  rename At _ _ _ _ _ _ => I
  refine e_fn I G (a := 136) (k := 19) (c := 135) (dV := .none) (by decide +kernel) ?_
  repeat walk_at "go5"
  rename At _ _ _ _ _ _ => I
  refine use I (c_splitroot R.less (G.keeps I.keep) (by omega) h1 h2) ?_
  rintro v s I ⟨a, t1, t2, t3, rfl, ht⟩
  refine a_tup R.h I ht ?_
  intro s I
  repeat walk_at "go5"
  rename At _ _ _ _ _ _ => I
  have hsl := PyProof.Txt.length_slice_le x (some 1) none
  refine q_split I (by decide +kernel) (by rw [sizeLine_eq]; omega) ?_
  intro lc l s hl I
  walk_at "go5"
  rename At _ _ _ _ _ _ => I
  refine x_set (r_list (sp_nil (NewK.intro I ?_)))
  intro nc s I
  refine SetK.intro I ?_
  intro s I
  obtain ⟨g', I, hg, hfr⟩ := I.freeze_tail
  have hlc : g'.IsList lc (strValues l).toArray := LL.list (hfr _ (.head _))
  have G' := G.keeps hg
  have hwt := wt_split (Txt.slice x (some 1) none)
  generalize hM : upd _ _ _ = M0 at I
  have hx : (∃ t', M0 "sep" = some (.str "/" t')) ∧ (∃ t', M0 "dot" = some (.str "." t')) ∧ (∃ t', M0 "dotdot" = some (.str ".." t')) ∧ (∃ t', M0 "initial_slashes" = some (.str "/" t')) ∧ M0 "new_comps" = some (.ref nc) ∧ M0 "comps" = some (.ref lc) := by
    rw [← hM]
    refine ⟨⟨_, by walk_at "lk"⟩, ⟨_, by walk_at "lk"⟩, ⟨_, by walk_at "lk"⟩, ⟨_, by walk_at "lk"⟩, by walk_at "lk", by walk_at "lk"⟩
  clear hM
  generalize hcs0 : Txt.split (Txt.slice x (some 1) none) "/" = cs at *
  refine x_for (fun i m nw => ((∃ t', m "sep" = some (.str "/" t')) ∧ (∃ t', m "dot" = some (.str "." t')) ∧ (∃ t', m "dotdot" = some (.str ".." t')) ∧ (∃ t', m "initial_slashes" = some (.str "/" t')) ∧ m "new_comps" = some (.ref nc) ∧ m "comps" = some (.ref lc)) ∧
    ∃ vs n, nw = [(nc, LL vs n)] ∧ StrsAre vs ((cs.take i).foldl npStep [])) ?_
  intro INV
  obtain ⟨_, _, _, _, _, hcomps⟩ := id hx
  walk_at "go5"
  refine src_list R.h I hlc fun it s I S => ?_
  refine (S _ _).loop I ⟨hx, [], 0, rfl, .nil⟩ ?_ ?_
  · rintro i v own m₁ nw s hi hv ⟨⟨⟨ts, hsep⟩, ⟨td, hdot⟩, ⟨tdd, hdd⟩, ⟨ti, his⟩, hnc, hcs'⟩, vs, n, rfl, hvs⟩ I
    intro KK
    obtain ⟨c, tc, rfl, hci⟩ := StrsAre.item (strsAre_of_values l) i v (by simpa using hv)
    rw [hl] at hci
    have hcl : c.length ≤ (Txt.slice x (some 1) none).length := part_short (y := "/") (hcs0 ▸ List.mem_of_getElem? hci)
    have hfold : (cs.take (i + 1)).foldl npStep [] = npStep ((cs.take i).foldl npStep []) c := by rw [List.take_add_one, hci]; simp
    have hvl : vs.length ≤ 1000 := by
      have h1 := hvs.length
      have h2 := wt_fold (cs.take i) []
      have h3 := wt_take cs i
      have h4 := len_wt ((cs.take i).foldl npStep [])
      have h5 : wt [] = 0 := rfl
      omega
    generalize hacc : (cs.take i).foldl npStep [] = acc at *
    repeat walk_at "go5"
    have fin : ∀ {m' s'} vs' n', At g' s₀.heap.objs.size m' (own ++ [(nc, LL vs' n')]) s₀ s' → m' "sep" = some (.str "/" ts) → m' "dot" = some (.str "." td) → m' "dotdot" = some (.str ".." tdd) → m' "initial_slashes" = some (.str "/" ti) → m' "new_comps" = some (.ref nc) → m' "comps" = some (.ref lc) → StrsAre vs' (npStep acc c) →
        ∃ m₂ news₂, At g' s₀.heap.objs.size m₂ (own ++ news₂) s₀ s' ∧ ((∃ t', m₂ "sep" = some (.str "/" t')) ∧ (∃ t', m₂ "dot" = some (.str "." t')) ∧ (∃ t', m₂ "dotdot" = some (.str ".." t')) ∧ (∃ t', m₂ "initial_slashes" = some (.str "/" t')) ∧ m₂ "new_comps" = some (.ref nc) ∧ m₂ "comps" = some (.ref lc)) ∧
          ∃ vs n, news₂ = [(nc, LL vs n)] ∧ StrsAre vs ((cs.take (i + 1)).foldl npStep []) := fun vs' n' I' a1 a2 a3 a4 a5 a6 a7 =>
      ⟨_, _, I', ⟨⟨_, a1⟩, ⟨_, a2⟩, ⟨_, a3⟩, ⟨_, a4⟩, a5, a6⟩, _, _, rfl, by rw [hfold]; exact a7⟩
    by_cases h0 : c.length = 0
    · refine Br.tt (by simp [h0]) ?_
      repeat walk_at "go5"
      rename At _ _ _ _ _ _ => I
      refine fin _ _ I (by walk_at "lk") (by walk_at "lk") (by walk_at "lk") (by walk_at "lk") (by walk_at "lk") (by walk_at "lk") ?_
      unfold npStep; rw [if_pos (.inl h0)]; exact hvs
    refine Br.ff (by simp [h0]) ?_
    repeat walk_at "go5"
    by_cases h1 : c = "."
    · refine Br.tt (by simp [h1]) ?_
      repeat walk_at "go5"
      rename At _ _ _ _ _ _ => I
      refine fin _ _ I (by walk_at "lk") (by walk_at "lk") (by walk_at "lk") (by walk_at "lk") (by walk_at "lk") (by walk_at "lk") ?_
      unfold npStep; rw [if_pos (.inr h1)]; exact hvs
    refine Br.ff (by simp [h1]) ?_
    repeat walk_at "go5"
    have fin' : ∀ {m' s'} vs' n', At g' s₀.heap.objs.size m' (own ++ [(nc, LL vs' n')]) s₀ s' → m' = upd m₁ "comp" (.str c tc) → StrsAre vs' (npStep acc c) →
        ∃ m₂ news₂, At g' s₀.heap.objs.size m₂ (own ++ news₂) s₀ s' ∧ ((∃ t', m₂ "sep" = some (.str "/" t')) ∧ (∃ t', m₂ "dot" = some (.str "." t')) ∧ (∃ t', m₂ "dotdot" = some (.str ".." t')) ∧ (∃ t', m₂ "initial_slashes" = some (.str "/" t')) ∧ m₂ "new_comps" = some (.ref nc) ∧ m₂ "comps" = some (.ref lc)) ∧
          ∃ vs n, news₂ = [(nc, LL vs n)] ∧ StrsAre vs ((cs.take (i + 1)).foldl npStep []) := fun vs' n' I' e a7 => by
      subst e
      exact fin _ _ I' (by walk_at "lk") (by walk_at "lk") (by walk_at "lk") (by walk_at "lk") (by walk_at "lk") (by walk_at "lk") a7
    by_cases h2 : c = ".."
    · refine Br.ff (by simp [h2]) ?_
      repeat walk_at "go5"
      refine Br.ff (by decide +kernel) ?_
      repeat walk_at "go5"
      rename At _ _ _ _ _ _ => I
      refine q_trl I (LL.list (I.get (List.mem_append_right _ (.head _)))) (by rw [sizeLine_eq]; omega) ?_
      intro s I
      rcases List.eq_nil_or_concat vs with rfl | ⟨vs', v', hcc⟩
      · obtain rfl : acc = [] := by cases hvs; rfl
        refine Br.ff rfl ?_
        repeat walk_at "go5"
        rename At _ _ _ _ _ _ => I
        refine q_trl I (LL.list (I.get (List.mem_append_right _ (.head _)))) (by rw [sizeLine_eq]; omega) ?_
        intro s I
        refine Br.ff rfl ?_
        repeat walk_at "go5"
        rename At _ _ _ _ _ _ => I
        refine fin' _ _ I rfl ?_
        unfold npStep; rw [if_neg (by simp [h0, h1]), if_neg (by simp [h2]), if_neg (by simp)]; exact hvs
      · rw [List.concat_eq_append] at hcc
        subst hcc
        obtain ⟨acc', z, tz, rfl, rfl, hvs'⟩ : ∃ acc' z tz, acc = acc' ++ [z] ∧ v' = .str z tz ∧ StrsAre vs' acc' := strsAre_concat hvs
        refine Br.tt (by simp) ?_
        repeat walk_at "go5"
        rename At _ _ _ _ _ _ => I
        refine q_last (LL.list (I.get (List.mem_append_right _ (.head _)))) ?_
        repeat walk_at "go5"
        by_cases h3 : z = ".."
        · refine Br.tt (by simp [h3]) ?_
          repeat walk_at "go5"
          rename At _ _ _ _ _ _ => I
          refine gm_append (I.get (List.mem_append_right _ (.head _))) ?_
          repeat walk_at "go5"
          · rename At _ _ _ _ _ _ => I
            refine fin' _ _ I rfl ?_
            unfold npStep; rw [if_neg (by simp [h0, h1]), if_pos (.inr ⟨by simp, by simp [h3]⟩)]
            exact hvs.append' (.cons _ _ .nil)
          · rw [sizeLine_eq]; omega
        · refine Br.ff (by simp [h3]) ?_
          repeat walk_at "go5"
          rename At _ _ _ _ _ _ => I
          refine q_trl I (LL.list (I.get (List.mem_append_right _ (.head _)))) (by rw [sizeLine_eq]; omega) ?_
          intro s I
          refine Br.tt (by simp) ?_
          repeat walk_at "go5"
          rename At _ _ _ _ _ _ => I
          refine gm_pop (I.get (List.mem_append_right _ (.head _))) ?_
          repeat walk_at "go5"
          refine q_pop_mid I (by rw [sizeLine_eq]; simp at hvl; omega) ?_
          intro n' s I
          repeat walk_at "go5"
          refine fin' _ _ I rfl ?_
          unfold npStep; rw [if_neg (by simp [h0, h1]), if_neg (by simp [h2, h3]), if_pos (by simp)]
          simpa using hvs'
    · refine Br.tt (by simp [h2]) ?_
      repeat walk_at "go5"
      rename At _ _ _ _ _ _ => I
      refine gm_append (I.get (List.mem_append_right _ (.head _))) ?_
      repeat walk_at "go5"
      · rename At _ _ _ _ _ _ => I
        refine fin' _ _ I rfl ?_
        unfold npStep; rw [if_neg (by simp [h0, h1]), if_pos (.inl h2)]
        exact hvs.append' (.cons _ _ .nil)
      · rw [sizeLine_eq]; omega
  · rintro m nw s I ⟨⟨⟨ts, hsep⟩, ⟨td, hdot⟩, ⟨tdd, hdd⟩, ⟨ti, his⟩, hnc, hcs⟩, vs, n, rfl, hvs⟩
    repeat walk_at "go5"
    rename At _ _ _ _ _ _ => I
    rw [show cs.take (strValues l).toArray.size = cs from by rw [← hl]; simp only [strValues, List.size_toArray, List.length_map]; exact List.take_of_length_le (by simp)] at hvs
    have hw := wt_fold cs []
    have h5 : wt [] = 0 := rfl
    refine join_list (LL.list (I.get (.head _))) (by simpa using hvs) ?_ ?_
    · unfold wt at hw h5 hwt; simp only [show (Str.ofString "/").length = 1 from by decide +kernel]; simp only [List.map_nil, List.sum_nil, List.length_nil] at *; omega
    intro t' k
    have I := I.tick k
    have hjl := len_join (cs.foldl npStep [])
    have h6 : (Str.ofString "/").length = 1 := by decide +kernel
    refine q_add I (by rw [sizeLine_eq]; omega) ?_
    intro t2 s I
    repeat walk_at "go5"
    rename At _ _ _ _ _ _ => I
    refine q_trs I (by simp only [Str.length_append]; rw [sizeLine_eq]; omega) ?_
    intro s I
    · refine Br.tt ?_ ?_
      · simp only [Str.length_append, bne_iff_ne, ne_eq]; omega
      repeat walk_at "go5"
      rename At _ _ _ _ _ _ => I
      exact ⟨I.keeps hg, _, by unfold normF; rw [hcs0]⟩
end
/-! ## MLine -/
section
variable {prog : Program} {w : World} {A : Around} {E : Value → Shared → Prop} {s s₀ : Shared} {g : Heap} {L : Addr} {m : Str → Option Value} {news pre post : List (Addr × Obj)} {env : Env}
theorem src_range {n : Nat} {t : Tok} {Q : Value → Shared → Prop} (hh : A.handled = none) (I : At g L m news s₀ s) (hn : n ≤ 100000)
    (h : ∀ it s', At g L m news s₀ s' → (∀ x px, Src prog w A (.Name x px) n (fun i v _ => ∃ t, v = .int i t) g L news it s') → Q it s') :
    wpAny (model prog w) A (call (.type "range") [.int n t]) (fun v s₁ => wpAny (model prog w) A (pyIter v) Q E s₁) E s := by
  have hsz : Builtin.Range.rangeSize 0 (n : Int) 1 = n := by
    unfold Builtin.Range.rangeSize
    rw [if_pos (by decide)]
    split
    · simp
    · omega
  refine call_range_1 ?_
  have J := I.push (tk := s.toks + 1 + 1) { cls := .type "range", data := .fields #[Value.int 0 s.toks, Value.int n t, Value.int 1 (s.toks + 1)] }
  refine wpAny_pyIter_range (a := 0) (b := n) (c := 1) (Heap.get?_push_size _ rfl) ?_ ?_
  · unfold Builtin.Range.small
    rw [hsz]
    simp [Builtin.Range.rangeFitsLong]
    omega
  have K := J.push (tk := s.toks + 1 + 1) { cls := .type "range_iterator", data := .fields #[rawInt 0, rawInt (Builtin.Range.rangeSize 0 n 1), rawInt 1] }
  obtain ⟨f1, f2, f3⟩ := J.tail.fresh
  have W := Walks.range (prog := prog) (w := w) (A := A) hh (s.heap.push { cls := .type "range", data := .fields #[Value.int 0 s.toks, Value.int n t, Value.int 1 (s.toks + 1)] }).objs.size 0 1 n
  refine h _ _ K.tail.tail fun x px => ⟨_, [(s.heap.push { cls := .type "range", data := .fields #[Value.int 0 s.toks, Value.int n t, Value.int 1 (s.toks + 1)] }).objs.size], [(s.heap.push { cls := .type "range", data := .fields #[Value.int 0 s.toks, Value.int n t, Value.int 1 (s.toks + 1)] }).objs.size], _, rfl, Wk.name (St := fun i h => IsRangeIter h _ (0 + (i : Nat) * 1) ((n : Int) - (i : Nat)) 1) ⟨W.sub, W.frame, fun i s Q E hi st hQ => W.item i s Q E hi st fun v h' tk hP => hQ v h' tk (by simpa using hP), W.done, W.self⟩ (fun i h st b hb => ?_), ?_, ?_, ?_, ?_⟩
  · rw [List.mem_singleton] at hb; subst hb; exact ⟨_, st⟩
  · rw [List.mem_singleton]; exact f1
  · intro b hb; rw [List.mem_singleton] at hb; subst hb; exact f2
  · intro p hp hm; rw [List.mem_singleton] at hm; exact f3 p hp hm
  · show Heap.get? _ _ = _
    rw [Heap.get?_push_size _ rfl, hsz]; simp [rawInt]
end

theorem fa_line {mg mb : Str → Option Value} {h : Heap} (G : GF mg mb h) : FnAt h 167 25 166 .none := (G.fn ("_law_line", 167, 25, 166, .none) (by decide +kernel)).2

theorem len_dirF (y : Str) : (dirF y).length ≤ y.length := by
  unfold dirF
  have h1 := PyProof.Txt.length_slice_le y none (some (Txt.rfind y "/" + 1))
  have h2 := len_rstripChars (Txt.slice y none (some (Txt.rfind y "/" + 1))) "/"
  generalize (_ && _) = b
  cases b
  · exact h1
  · exact Nat.le_trans h2 h1
/-- the chain of dirnames -/
noncomputable def lineF : Nat → Str → List Str
  | 0, x => [x]
  | n + 1, x => if dirF x = x then [x] else x :: lineF n (dirF x)

section
variable {prog : Program} {w : World} {A : Around} {E : Value → Shared → Prop} {s : Shared} {mg mb : Str → Option Value}
theorem c_line {x : Str} {t : Tok} (R : Room A 12) (G : GF mg mb s.heap) (hx : x.length ≤ 900) :
    wpAny (model prog w) A (call (.ref 167) [.str x t]) (fun v s' => Keeps s s' ∧ ∃ a vs n, v = .ref a ∧ s.heap.get? a = none ∧ s'.heap.get? a = some (LL vs n) ∧ StrsAre vs (lineF x.length x)) E s := by
  obtain ⟨s₀, hs₀⟩ : ∃ s₀, s₀ = s := ⟨_, rfl⟩
  rw [← hs₀] at G ⊢
  refine enter (binds := [("place", .str x t)]) (P := fun v s' => ∃ a vs n, v = .ref a ∧ s₀.heap.get? a = none ∧ s'.heap.get? a = some (LL vs n) ∧ StrsAre vs (lineF x.length x)) (n := 11) R (fa_line G) G.nolimit rfl (fun pm => .of_eq rfl) (by decide +kernel) (names := ["place"]) (by decide +kernel) ?_
  intro pm A s R hA I KP EV
  refine x_set ?_
  walk_at "go5"
  walk_at "go5"
  walk_at "go5"
  walk_at "go5"
  refine NewK.intro I ?_
  intro la s I
  refine SetK.intro I ?_
  intro s I
  have hla : s₀.heap.get? la = none := (I.N _ (.head _)).2.2
  generalize hM : upd _ _ _ = M0 at I
  have hline : M0 "line" = some (.ref la) := by rw [← hM]; walk_at "lk"
  have hplace : M0 "place" = some (.str x t) := by rw [← hM]; walk_at "lk"
  clear hM
  refine x_for (fun i m nw => m "line" = some (.ref la) ∧ ∃ vs n pre y ty, nw = [(la, LL (vs ++ [.str y ty]) n)] ∧ StrsAre vs pre ∧ pre.length = i ∧ y.length ≤ 900 ∧ lineF x.length x = pre ++ lineF (x.length - i) y) ?_
  intro INV
  refine e_type I G Boot.«range» ?_
  repeat walk_at "go5"
  rename At _ _ _ _ _ _ => I
  refine src_range R.h I (by omega) fun it s I S => ?_
  refine (S _ _).loop I ⟨hline, [], 0, [], x, t, rfl, .nil, rfl, hx, by simp⟩ ?_ ?_
  · rintro i v own m₁ nw s hi hv ⟨hline, vs, n, pre, y, ty, rfl, hvs, hpre, hy, hl⟩ I
    intro KK
    obtain ⟨ti, rfl⟩ := hv
    have hvl : vs.length ≤ 900 := by have := hvs.length; omega
    repeat walk_at "go5"
    rename At _ _ _ _ _ _ => I
    refine e_fn I G (a := 143) (k := 20) (c := 142) (dV := .none) (by decide +kernel) ?_
    repeat walk_at "go5"
    rename At _ _ _ _ _ _ => I
    refine q_last (LL.list (I.get (List.mem_append_right _ (.head _)))) ?_
    repeat walk_at "go5"
    rename At _ _ _ _ _ _ => I
    refine use I (c_dirname R.less (G.keeps I.keep) (by omega)) ?_
    rintro v s I ⟨t2, rfl⟩
    repeat walk_at "go5"
    rename At _ _ _ _ _ _ => I
    refine q_last (LL.list (I.get (List.mem_append_right _ (.head _)))) ?_
    repeat walk_at "go5"
    by_cases hd : dirF y = y
    · refine Br.tt (by simp [hd]) ?_
      repeat walk_at "go5"
      rename At _ _ _ _ _ _ => I
      refine ⟨I.keeps fun _ _ e => e, la, _, _, rfl, hla, I.get (List.mem_append_right _ (.head _)), ?_⟩
      have : lineF (x.length - i) y = [y] := by
        cases x.length - i with
        | zero => rfl
        | succ k => unfold lineF; rw [if_pos hd]
      rw [hl, this]
      exact hvs.append' (.cons _ _ .nil)
    · refine Br.ff (by simp [hd]) ?_
      repeat walk_at "go5"
      rename At _ _ _ _ _ _ => I
      refine gm_append (I.get (List.mem_append_right _ (.head _))) ?_
      repeat walk_at "go5"
      · rename At _ _ _ _ _ _ => I
        refine ⟨_, _, I, by walk_at "lk", vs ++ [.str y ty], _, pre ++ [y], dirF y, t2, rfl, hvs.append' (.cons _ _ .nil), by simp [hpre], ?_, ?_⟩
        · have := len_dirF y; omega
        · obtain ⟨k, hk⟩ : ∃ k, x.length - i = k + 1 := ⟨x.length - i - 1, by omega⟩
          rw [hl, hk, show x.length - (i + 1) = k from by omega]
          conv => lhs; unfold lineF
          rw [if_neg hd]; simp
      · simp; rw [sizeLine_eq]; omega
  · rintro m nw s I ⟨hline, vs, n, pre, y, ty, rfl, hvs, hpre, hy, hl⟩
    repeat walk_at "go5"
    rename At _ _ _ _ _ _ => I
    refine ⟨I.keeps fun _ _ e => e, la, _, _, rfl, hla, I.get (.head _), ?_⟩
    rw [hl, Nat.sub_self]
    exact hvs.append' (.cons _ _ .nil)
end
/-! ## MC3a -/
section
variable {prog : Program} {w : World} {A : Around} {E : Value → Shared → Prop} {s s₀ : Shared} {g : Heap} {L : Addr} {m : Str → Option Value} {news pre post : List (Addr × Obj)} {env : Env} {mg mb : Str → Option Value}

theorem x_while {test : Expr} {body orelse rest : List Stmt} {pos : Pos} {Q : Flow → Shared → Prop} (J : Nat → Shared → Prop) (n : Nat) (h : J n s)
    (step : ∀ n s, J n s → let K : Flow → Shared → Prop := fun f s₃ => match f with
        | .next | .cont => ∃ m, m < n ∧ J m s₃
        | .brk => wpAny (model prog w) A (execs rest env) Q E s₃
        | .ret v => Q (.ret v) s₃
      wpAny (model prog w) A (PySem.isTrue test env (eval test env)) (fun b s₂ => Br b
      (wpAny (model prog w) A (execs body env) K E s₂)
      (wpAny (model prog w) A (execs orelse env) (Seq (model prog w) A rest env Q E) E s₂)) E s)
    (hE : PassesOwn (model prog w) A env E) : wpAny (model prog w) A (execs (.While test body orelse pos :: rest) env) Q E s := by
  refine x_cons (wpAny_While ?_)
  refine codeAny_whileLoop J (fun n s hJ => ?_) n h
  refine wpAny_passesOwn hE (wpAny_mono (step n s hJ) (fun b s₂ h₂ => ?_) fun _ _ e => e)
  cases b with
  | false => exact wpAny_passesOwn hE h₂
  | true =>
    refine wpAny_passesOwn hE (wpAny_mono h₂ (fun f s₃ h₃ => ?_) fun _ _ e => e)
    cases f <;> exact h₃

theorem x_del {o : Expr} {i : Expr} {p1 pos : Pos} {rest : List Stmt} {Q : Flow → Shared → Prop}
    (h : wpAny (model prog w) A (eval o env) (fun ov s₁ => wpAny (model prog w) A (eval i env) (fun iv s₂ => wpAny (model prog w) A (delItem ov iv) (fun _ s₃ => wpAny (model prog w) A (execs rest env) Q E s₃) E s₂) E s₁) E s) :
    wpAny (model prog w) A (execs (.Delete [.Subscript o i p1] pos :: rest) env) Q E s := by
  refine x_cons (wpAny_Delete ?_)
  rw [arm_deleteEach_cons]
  refine wpAny_bind (PyProof.Rows.delete_Subscript (wpAny_mono h (fun _ _ h₁ => wpAny_mono h₁ (fun _ _ h₂ => wpAny_mono h₂ (fun _ _ h₃ => wpAny_pure h₃) fun _ _ e => e) fun _ _ e => e) fun _ _ e => e))

theorem At.backPush' (I : At g L m news s₀ s) {D : Addr} {h' : Heap} {tk : Nat} {o : Obj} (F : Fr {} L h' m) (N : News {} L h' ((D, o) :: allObjs s.heap L)) (hD : ∀ p ∈ allObjs s.heap L, p.1 < D) : At g L m ((D, o) :: news) s₀ { s with heap := h', toks := tk } := by
  have J := I.back (tk := tk) F fun p hp => N p (.tail _ hp)
  have hDn : s.heap.get? D = none := by
    cases q : s.heap.get? D with
    | none => rfl
    | some o' => exact absurd (hD (D, o') (mem_allObjs.mpr ⟨(N _ (.head _)).2.1, q⟩)) (Nat.lt_irrefl _)
  refine ⟨J.ns, J.keep, J.gL, fun p hp => ?_, ?_, J.e⟩
  · rcases List.mem_cons.mp hp with rfl | hp
    · exact ⟨(N _ (.head _)).1, (N _ (.head _)).2.1, none_of I.keep hDn⟩
    · exact J.N p hp
  · rw [List.map_cons, List.nodup_cons]
    refine ⟨fun h => ?_, I.nd⟩
    obtain ⟨p, hp, e⟩ := List.mem_map.mp h
    have := (I.N p hp).1
    rw [e, hDn] at this; cases this

theorem q_lslice {value slice : Expr} {l : Addr} {vs : List Value} {vl vu : Value} {lo hi : Option Int} {Q : Value → Shared → Prop} (I : At g L m news s₀ s) (hl : s.heap.IsList l vs.toArray) (h1 : IsPart vl lo) (h2 : IsPart vu hi) (hz : vs.length ≤ sizeLine)
    (h : ∀ D s', At g L m ((D, LL (slicePick vs.toArray lo hi none).toList 0) :: news) s₀ s' → Q (.ref D) s')
    (hs : subscripted slice false (.ref l) (.ref s.heap.objs.size) = operate [.ref s.heap.objs.size, .ref l] (getItem (.ref l) (.ref s.heap.objs.size)) := by with_unfolding_all rfl)
    (ht : ∀ r, letTemporaryGo value (.ref l) r = pure () := by intro _; with_unfolding_all rfl) :
    wpAny (model prog w) A (subscriptTail value slice (.ref l) (.ref s.heap.objs.size)) Q E { s with heap := s.heap.push { cls := .type "slice", data := .fields #[vl, vu, .none] } } :=
  kmk_slice I.fr I.all hl h1 h2 (fun D h' F N hD => h D _ (I.backPush' (o := LL (slicePick vs.toArray lo hi none).toList 0) F (by unfold LL; simpa using N) hD)) hs ht (by simpa using hz)

theorem q_item {value slice : Expr} {a : Addr} {vs : List Value} {k : Int} {u : Tok} {x : Value} {Q : Value → Shared → Prop} (hl : s.heap.IsList a vs.toArray) (h0 : 0 ≤ k) (hk : k < 2 ^ 63) (hx : vs[k.toNat]? = some x) (h : Q x s)
    (hs : subscripted slice false (.ref a) (.int k u) = operate [.ref a, .int k u] (getItem (.ref a) (.int k u)) := by with_unfolding_all rfl)
    (ht : ∀ r, letTemporaryGo value (.ref a) r = pure () := by intro _; with_unfolding_all rfl) :
    wpAny (model prog w) A (subscriptTail value slice (.ref a) (.int k u)) Q E s := item_listL hl h0 hk hx h hs ht

theorem At.thaw {g₂ : Heap} {m₂ : Str → Option Value} {s₂ : Shared} (J : At g L m news s₀ s) (I : At g₂ L m₂ [] s₀ s₂) (hg : ∀ b o, g.get? b = some o → g₂.get? b = some o) (hn : ∀ p ∈ news, g₂.get? p.1 = some p.2) : At g L m₂ news s₀ s₂ :=
  ⟨I.ns, fun b o e => I.keep b o (hg b o e), J.gL, fun p hp => ⟨I.keep _ _ (hn p hp), (J.N p hp).2⟩, J.nd, I.e⟩
theorem At.freeze_all (I : At g L m news s₀ s) : ∃ g', At g' L m [] s₀ s ∧ (∀ b o, g.get? b = some o → g'.get? b = some o) ∧ ∀ r ∈ news, g'.get? r.1 = some r.2 := by
  obtain ⟨g', I', h1, h2⟩ := I.freeze (news' := []) (List.nil_sublist _)
  exact ⟨g', I', h1, fun r hr => h2 r.1 r.2 (I.N r hr).1 (I.N r hr).2.1 (by simp)⟩
theorem q_del {a : Addr} {n : Nat} {v : Value} {vs : List Value} {u : Tok} {Q : Unit → Shared → Prop} (I : At g L m ((a, LL (v :: vs) n) :: news) s₀ s) (hz : vs.length + 1 ≤ sizeLine)
    (h : ∀ n' s', At g L m ((a, LL vs n') :: news) s₀ s' → Q () s') : wpAny (model prog w) A (delItem (.ref a) (.int 0 u)) Q E s := by
  refine delItem_at (its := (v :: vs).toArray) (n := n) (k := 0) (I.get (.head _)) (by decide +kernel) (by simp [seqIndex?]) (fun h' hs e => ?_) (by simpa using hz)
  exact h (n + 1) _ (I.change (o' := LL vs (n + 1)) (f := id) hs (by rw [e]; unfold LL; simp))
end
/-! ## MC3 -/
/-- a list that the merge may shorten: its address, its texts, its age -/
abbrev Cel := Addr × List (Str × Tok) × Nat
noncomputable def Cel.ob (p : Cel) : Addr × Obj := (p.1, LL (strValues p.2.1) p.2.2)
noncomputable def Cel.txt (p : Cel) : List Str := p.2.1.map (·.1)
noncomputable def inn (ls : List Cel) : List (Addr × Obj) := ls.map Cel.ob
noncomputable def con (ls : List Cel) : List (List Str) := ls.map Cel.txt
noncomputable def full (p : Cel) : Bool := !p.2.1.isEmpty

noncomputable def blocked (T : List (List Str)) (h : Str) : Bool := T.any fun l => l.tail.any (· == h)
noncomputable def c3cand (T : List (List Str)) : Option Str := T.findSome? fun l => match l with | [] => none | h :: _ => if blocked T h then none else some h
noncomputable def c3del (c : Str) (l : List Str) : List Str := if l.head? = some c then l.tail else l
/-- the merge: what it gives, whether it comes through, what it leaves -/
noncomputable def c3run : Nat → List (List Str) → List Str → List Str × Bool × List (List Str)
  | 0, S, r => (r, true, S)
  | k + 1, S, r => if S.all List.isEmpty then (r, true, S) else match c3cand (S.filter fun l => !l.isEmpty) with
    | none => (r, false, S)
    | some c => c3run k (S.map (c3del c)) (r ++ [c])

theorem map_ob (ls : List Cel) : (inn ls).map (·.1) = ls.map (·.1) := by simp [inn, Function.comp_def, Cel.ob]
theorem con_full (ls : List Cel) : con (ls.filter full) = (con ls).filter fun l => !l.isEmpty := by
  unfold con
  rw [List.filter_map]
  congr 1
  refine List.filter_congr fun p _ => ?_
  simp [full, Cel.txt]
theorem addr_inj {ls : List Cel} (nd : (ls.map (·.1)).Nodup) {p q : Cel} (hp : p ∈ ls) (hq : q ∈ ls) (e : p.1 = q.1) : p = q := by
  induction ls with
  | nil => cases hp
  | cons x ls ih =>
    rw [List.map_cons, List.nodup_cons] at nd
    rcases List.mem_cons.mp hp with rfl | hp' <;> rcases List.mem_cons.mp hq with rfl | hq'
    · rfl
    · exact (nd.1 (List.mem_map.mpr ⟨q, hq', e.symm⟩)).elim
    · exact (nd.1 (List.mem_map.mpr ⟨p, hp', e⟩)).elim
    · exact ih nd.2 hp' hq'
/-- the addresses that still hold something -/
noncomputable def fulls (ls : List Cel) (a : Addr) : Bool := (ls.filter full).any fun p => decide (p.1 = a)
theorem fulls_at {ls : List Cel} (nd : (ls.map (·.1)).Nodup) {p : Cel} (hp : p ∈ ls) : fulls ls p.1 = full p := by
  unfold fulls
  cases h : full p with
  | true => exact List.any_eq_true.mpr ⟨p, List.mem_filter.mpr ⟨hp, h⟩, by simp⟩
  | false =>
    rw [List.any_eq_false]
    rintro q hq
    obtain ⟨h1, h2⟩ := List.mem_filter.mp hq
    intro e
    have := addr_inj nd h1 hp (of_decide_eq_true e)
    rw [this, h] at h2; cases h2
theorem filter_fulls {ls : List Cel} (nd : (ls.map (·.1)).Nodup) : (ls.map (·.1)).filter (fulls ls) = (ls.filter full).map (·.1) := by
  rw [List.filter_map]
  congr 1
  exact List.filter_congr fun p hp => fulls_at nd hp
theorem filter_two {ls : List Cel} (nd : (ls.map (·.1)).Nodup) {f : Addr → Bool} (hf : ∀ p ∈ ls, f p.1 = false → p.2.1 = []) :
    ((ls.map (·.1)).filter f).filter (fulls ls) = (ls.filter full).map (·.1) := by
  rw [List.filter_filter, List.filter_map]
  congr 1
  refine List.filter_congr fun p hp => ?_
  show (fulls ls p.1 && f p.1) = full p
  rw [fulls_at nd hp]
  cases h : f p.1 with
  | true => simp
  | false => simp [full, hf p hp h]
theorem c3_sum {c : Str} : ∀ (S : List (List Str)), ((S.map (c3del c)).map List.length).sum ≤ (S.map List.length).sum
  | [] => Nat.le_refl _
  | l :: S => by
    have ih := c3_sum (c := c) S
    have : (c3del c l).length ≤ l.length := by unfold c3del; split <;> simp
    simp only [List.map_cons, List.sum_cons]; omega
theorem c3_sum_lt {c : Str} : ∀ {S : List (List Str)}, (∃ l ∈ S, l.head? = some c) → ((S.map (c3del c)).map List.length).sum < (S.map List.length).sum
  | l :: S, ⟨l', hl, e⟩ => by
    have h1 : (c3del c l).length ≤ l.length := by unfold c3del; split <;> simp
    have h2 := c3_sum (c := c) S
    simp only [List.map_cons, List.sum_cons]
    rcases List.mem_cons.mp hl with rfl | hl
    · have : (c3del c l').length < l'.length := by
        unfold c3del; rw [if_pos e]
        cases l' with
        | nil => cases e
        | cons _ _ => simp
      omega
    · have := c3_sum_lt ⟨l', hl, e⟩; omega
theorem c3cand_mem {T : List (List Str)} {c : Str} (h : c3cand T = some c) : ∃ l ∈ T, l.head? = some c := by
  obtain ⟨l, hl, e⟩ := List.exists_of_findSome?_eq_some h
  refine ⟨l, hl, ?_⟩
  cases l with
  | nil => cases e
  | cons x l =>
    simp only at e
    split at e
    · cases e
    · simpa using e
theorem c3run_end {n : Nat} {S : List (List Str)} {r : List Str} (h : S.all List.isEmpty = true) : c3run n S r = (r, true, S) := by
  cases n with
  | zero => rfl
  | succ n => unfold c3run; rw [if_pos h]
theorem c3run_bad {n : Nat} {S : List (List Str)} {r : List Str} (h : S.all List.isEmpty = false) (hc : c3cand (S.filter fun l => !l.isEmpty) = none) : c3run (n + 1) S r = (r, false, S) := by
  unfold c3run; rw [if_neg (by simp [h])]; rw [hc]
theorem c3run_step {n : Nat} {S : List (List Str)} {r : List Str} {c : Str} (h : S.all List.isEmpty = false) (hc : c3cand (S.filter fun l => !l.isEmpty) = some c) : c3run (n + 1) S r = c3run n (S.map (c3del c)) (r ++ [c]) := by
  conv => lhs; unfold c3run
  rw [if_neg (by simp [h])]; rw [hc]
theorem fa_c3 {mg mb : Str → Option Value} {h : Heap} (G : GF mg mb h) : FnAt h 35 4 34 .none := (G.fn ("_c3_merge", 35, 4, 34, .none) (by decide +kernel)).2
/-- one cell of a row is changed -/
noncomputable def key (p : Cel) : Addr × List (Str × Tok) := (p.1, p.2.1)
noncomputable def kdel (c : Str) (l : List (Str × Tok)) : List (Str × Tok) := if (l.map (·.1)).head? = some c then l.tail else l
theorem cel_split {lsi : List Cel} (nd : (lsi.map (·.1)).Nodup) {a : Addr} {l : List (Str × Tok)} (h : (a, l) ∈ lsi.map key) : ∃ l1 n l2, lsi = l1 ++ (a, l, n) :: l2 ∧ (∀ x ∈ l1, x.1 ≠ a) ∧ ∀ x ∈ l2, x.1 ≠ a := by
  obtain ⟨⟨a', l', n⟩, hp, e⟩ := List.mem_map.mp h
  simp only [key, Prod.mk.injEq] at e
  obtain ⟨rfl, rfl⟩ := e
  obtain ⟨l1, l2, rfl⟩ := List.append_of_mem hp
  rw [List.map_append, List.map_cons, List.nodup_append, List.nodup_cons] at nd
  refine ⟨l1, n, l2, rfl, fun x hx e => nd.2.2 x.1 (List.mem_map_of_mem hx) a' (.head _) e, fun x hx e => nd.2.1.1 (List.mem_map.mpr ⟨x, hx, e⟩)⟩
theorem mem_inn {p : Cel} {ls : List Cel} (h : p ∈ ls) : (p.1, LL (strValues p.2.1) p.2.2) ∈ inn ls := List.mem_map_of_mem (f := Cel.ob) h
theorem len_le_sum {p : Cel} : ∀ {ls : List Cel}, p ∈ ls → p.2.1.length ≤ ((con ls).map List.length).sum
  | x :: ls, h => by
    have e : (Cel.txt x).length = x.2.1.length := by simp [Cel.txt]
    show _ ≤ (((Cel.txt x) :: con ls).map List.length).sum
    rw [List.map_cons, List.sum_cons]
    rcases List.mem_cons.mp h with rfl | h
    · omega
    · have := len_le_sum h; omega
theorem len_strValues (l : List (Str × Tok)) : (strValues l).length = l.length := by simp [strValues]
theorem all_empty (lsi : List Cel) : (con lsi).all List.isEmpty = (lsi.filter full).isEmpty := by
  have h1 := con_full lsi
  cases h : lsi.filter full with
  | nil =>
    rw [h] at h1
    refine List.all_eq_true.mpr fun l hl => ?_
    have h3 : l ∉ (con lsi).filter fun l => !l.isEmpty := by rw [← h1]; exact List.not_mem_nil
    rw [List.mem_filter] at h3
    simpa [hl] using h3
  | cons p ps =>
    have h2 : p ∈ lsi.filter full := by rw [h]; exact .head _
    obtain ⟨h3, h4⟩ := List.mem_filter.mp h2
    refine Bool.eq_false_iff.mpr fun h5 => ?_
    have h6 := List.all_eq_true.mp h5 (Cel.txt p) (List.mem_map_of_mem h3)
    simp [full, Cel.txt] at h4 h6
    exact h4 h6
theorem key_addr (lsi : List Cel) : (lsi.map key).map (·.1) = lsi.map (·.1) := by simp [key, Function.comp_def]
theorem c3cand_none {T : List (List Str)} (h : ∀ l ∈ T, ∀ h', l.head? = some h' → blocked T h' = true) : c3cand T = none := by
  unfold c3cand
  rw [List.findSome?_eq_none_iff]
  intro l hl
  cases l with
  | nil => rfl
  | cons x l => simp only; rw [h _ hl x rfl]; rfl
theorem c3cand_at {T : List (List Str)} {i : Nat} {l : List Str} {h : Str} (h1 : T[i]? = some l) (h2 : l.head? = some h) (h3 : ∀ l ∈ T.take i, ∀ h', l.head? = some h' → blocked T h' = true) (h4 : blocked T h = false) : c3cand T = some h := by
  obtain ⟨hi, e⟩ := List.getElem?_eq_some_iff.mp h1
  have hT : T = T.take i ++ l :: T.drop (i + 1) := by rw [← e, ← List.drop_eq_getElem_cons, List.take_append_drop]
  unfold c3cand
  generalize hB : blocked T = B at *
  rw [hT, List.findSome?_append]
  have : (T.take i).findSome? (fun l => match l with | [] => none | h :: _ => if B h then none else some h) = none := by
    rw [List.findSome?_eq_none_iff]
    intro l hl
    cases l with
    | nil => rfl
    | cons x l => simp only; rw [h3 _ hl x rfl]; rfl
  rw [this]
  cases l with
  | nil => cases h2
  | cons x l =>
    simp only [List.head?_cons, Option.some.injEq] at h2
    subst h2
    simp [h4]
noncomputable def upto (lv : List Cel) (c : Str) (i : Nat) (p : Cel) : Addr × List (Str × Tok) := (p.1, if p.1 ∈ (lv.take i).map (·.1) then kdel c p.2.1 else p.2.1)
theorem c3_end {lsi lsc lv : List Cel} (nd : (lsi.map (·.1)).Nodup) (hlv : lsi.filter full = lv) {c : Str} (h : lsc.map key = lsi.map (upto lv c lv.length)) :
    lsc.map (·.1) = lsi.map (·.1) ∧ con lsc = (con lsi).map (c3del c) ∧ ∀ p ∈ lsc, fulls lsi p.1 = false → p.2.1 = [] := by
  have hin : ∀ p ∈ lsi, (p.1 ∈ (lv.take lv.length).map (·.1)) ↔ full p = true := fun p hp => by
    rw [List.take_length]
    constructor
    · intro hm
      obtain ⟨q, hq, e⟩ := List.mem_map.mp hm
      rw [← hlv] at hq
      obtain ⟨h1, h2⟩ := List.mem_filter.mp hq
      rw [addr_inj nd hp h1 e.symm]; exact h2
    · intro hf; exact List.mem_map.mpr ⟨p, hlv ▸ List.mem_filter.mpr ⟨hp, hf⟩, rfl⟩
  refine ⟨?_, ?_, ?_⟩
  · rw [← key_addr lsc, h, List.map_map]; rfl
  · have h1 : con lsc = (lsc.map key).map fun k => k.2.map (·.1) := by unfold con; rw [List.map_map]; rfl
    rw [h1, h]; unfold con; rw [List.map_map, List.map_map]
    refine List.map_congr_left fun p hp => ?_
    show (upto lv c lv.length p).2.map (·.1) = c3del c (p.2.1.map (·.1))
    unfold upto
    by_cases hf : full p = true
    · simp only [if_pos ((hin p hp).mpr hf)]
      unfold kdel c3del
      split <;> simp [List.map_tail]
    · simp only [if_neg (fun x => hf ((hin p hp).mp x))]
      have : p.2.1 = [] := by simpa [full] using hf
      rw [this]; rfl
  · intro p hp hf
    have h1 : key p ∈ lsi.map (upto lv c lv.length) := h ▸ List.mem_map_of_mem hp
    obtain ⟨q, hq, e⟩ := List.mem_map.mp h1
    simp only [upto, key, Prod.mk.injEq] at e
    obtain ⟨e1, e2⟩ := e
    rw [← e1, fulls_at nd hq] at hf
    rw [if_neg (fun x => by rw [(hin q hq).mp x] at hf; cases hf)] at e2
    rw [← e2]; simpa [full] using hf
theorem c3_turn {lsi lsc lv : List Cel} (nd : (lsi.map (·.1)).Nodup) (hlv : lsi.filter full = lv) {c : Str} {i : Nat} {p : Cel} (hp : lv[i]? = some p) (h : lsc.map key = lsi.map (upto lv c i)) :
    ∃ l1 n l2, lsc = l1 ++ (p.1, p.2.1, n) :: l2 ∧ ∀ n', (l1 ++ (p.1, kdel c p.2.1, n') :: l2).map key = lsi.map (upto lv c (i + 1)) := by
  have hpm : p ∈ lsi := (List.mem_filter.mp (hlv ▸ List.mem_of_getElem? hp)).1
  have ndv : (lv.map (·.1)).Nodup := by
    rw [← hlv]; exact ((List.filter_sublist).map _).nodup nd
  have hpi : p.1 ∉ (lv.take i).map (·.1) := by
    intro hm
    obtain ⟨hi, e⟩ := List.getElem?_eq_some_iff.mp hp
    have hT : lv = lv.take i ++ p :: lv.drop (i + 1) := by rw [← e, ← List.drop_eq_getElem_cons, List.take_append_drop]
    rw [hT, List.map_append, List.nodup_append] at ndv
    exact ndv.2.2 p.1 hm p.1 (by simp) rfl
  have hk : (p.1, p.2.1) ∈ lsc.map key := by
    rw [h]; refine List.mem_map.mpr ⟨p, hpm, ?_⟩
    unfold upto; rw [if_neg hpi]
  have nds : (lsc.map (·.1)).Nodup := by
    rw [← key_addr lsc, h, List.map_map]; exact nd
  obtain ⟨l1, n, l2, rfl, h1, h2⟩ := cel_split nds hk
  refine ⟨l1, n, l2, rfl, fun n' => ?_⟩
  have hG : lsi.map (upto lv c (i + 1)) = (lsi.map (upto lv c i)).map fun k => if k.1 = p.1 then (k.1, kdel c p.2.1) else k := by
    rw [List.map_map]
    refine List.map_congr_left fun x hx => ?_
    show upto lv c (i + 1) x = if x.1 = p.1 then (x.1, kdel c p.2.1) else upto lv c i x
    unfold upto
    rw [List.take_add_one, hp]
    by_cases hx1 : x.1 = p.1
    · have := addr_inj nd hx hpm hx1
      subst this
      simp
    · rw [if_neg hx1]
      simp [hx1]
  rw [hG, ← h]
  simp only [List.map_append, List.map_cons, List.map_map]
  have k1 : ∀ {l : List Cel}, (∀ x ∈ l, x.1 ≠ p.1) → l.map ((fun k => if k.1 = p.1 then (k.1, kdel c p.2.1) else k) ∘ key) = l.map key := fun hl => List.map_congr_left fun x hx => if_neg (hl x hx)
  rw [k1 h1, k1 h2]
  simp [key]
/-! ## MC3b -/
section
variable {prog : Program} {w : World} {A : Around} {E : Value → Shared → Prop} {s : Shared} {mg mb : Str → Option Value}
/-- entering a def that may raise -/
theorem enterE {a k c : Nat} {dV : Value} {args : List Value} {binds : List (Str × Value)} {body : List Stmt} {P : Value → Shared → Prop} {n : Nat} (R : Room A (n + 1)) (hf : FnAt s.heap a k c dV) (hlim : s.heap.NoLimit)
    (hbody : fnBody k = body)
    (hbind : ∀ pm, BindsTo s (fdOf k c dV pm) ⟨args, []⟩ binds)
    {names : List Str} (hcell : ((fnScope k).names.all fun x => decide (x.2 ≠ .cell)) = true) (hloc : (names.all fun x => decide ((fnScope k).names.lookup x = some .local)) = true)
    (h : ∀ pm s₁, At s.heap s.heap.objs.size (fun x => binds.reverse.lookup x) [] s s₁ →
      ∀ A', A' = A.deeper (callEnv (fdOf k c dV pm) s.heap.objs.size a) → let EV : Env := callEnv (fdOf k c dV pm) s.heap.objs.size a
      let KP : Flow → Shared → Prop := fun f s' => P (match f with | .ret v => v | _ => .none) s'
      let KE : Value → Shared → Prop := fun e s' => wpAny (model prog w) A' (leaving EV e) (fun _ s'' => E e s'') (fun e' s'' => E e' s'') s'
      wpAny (model prog w) A' (execs body EV) KP KE s₁)
    (hnames : binds.map (·.1) = names := by with_unfolding_all rfl)
    (hco : (fnScope k).isCoroutine = false := by with_unfolding_all rfl) (hgen : (fnScope k).isGenerator = false := by with_unfolding_all rfl) (hk : (fnScope k).kind = .function := by with_unfolding_all rfl) :
    wpAny (model prog w) A (call (.ref a) args) P E s := by
  obtain ⟨o, pm, ho, hd, hcd⟩ := hf
  subst hbody
  refine wpAny_call (codeAny_call_def R.depth ho hd hlim hcd rfl (hbind pm) (fun x hx => of_decide_eq_true (List.all_eq_true.mp hcell x hx)) (fun x hx => of_decide_eq_true (List.all_eq_true.mp hloc x.1 (hnames ▸ List.mem_map_of_mem hx))) (fun h₀ hns hk₀ => ?_) hco hgen hk)
  exact h pm _ (by
    exact ⟨hns, hk₀, by
    cases hq : s.heap.get? s.heap.objs.size with
    | none => rfl
    | some o' => exact absurd (Heap.lt_size hq) (Nat.lt_irrefl _), News.nil, List.nodup_nil, rfl⟩) _ rfl

theorem x_raise {A : Around} {E : Value → Shared → Prop} {s : Shared} {env : Env} {np cpos pos : Pos} {e₀ : Expr} {rest : List Stmt} {Q : Flow → Shared → Prop} {g : Heap} {L : Addr} {m : Str → Option Value} {news : List (Addr × Obj)} {s₀ : Shared} (hh : A.handled = none) (I : At g L m news s₀ s) (G : GF mg mb g)
    (h : wpAny (model prog w) A (spliced (backTo cpos (starEach (e₀ :: []) env))) (fun vs s₂ => vs.length ≤ sizeLine ∧ ∀ h' e, Heap.MadeExc s₂.heap h' e "RuntimeError" vs → E (.ref e) { s₂ with heap := h' }) E s)
    (hk : env.scope.kind = .function := by with_unfolding_all rfl) (hl : env.kindOf "RuntimeError" = some .globalImplicit := by with_unfolding_all rfl) (hg : env.globals = mainGlobals := by with_unfolding_all rfl) (hb : env.builtins = builtinsNs := by with_unfolding_all rfl)
    (he : starEach (e₀ :: []) env = (false, eval e₀ env) :: starEach [] env := by with_unfolding_all rfl) (hplain : (backTo cpos (starEach [] env)).any (·.1) = false := by with_unfolding_all rfl) :
    wpAny (model prog w) A (execs (.Raise (some (.Call (.Name "RuntimeError" np) (e₀ :: []) [] cpos)) none pos :: rest) env) Q E s :=
  x_cons (Raise_madeB PySem.F.excCall_RuntimeError PySem.F.excRaise_RuntimeError hh (r_blt I G Boot.«RuntimeError» ⟨rfl, h⟩ (by decide +kernel) (by decide +kernel) hk hl hg hb (by decide +kernel)) he hplain)
end

section
variable {prog : Program} {w : World} {A : Around} {E : Value → Shared → Prop} {s : Shared} {mg mb : Str → Option Value}
/-- what `_c3_merge` does to the lists, and what it gives -/
theorem c_c3 {g : Heap} {la : Addr} {ls : List Cel} {P : Value → Shared → Prop} {env₀ : Env} {L₀ : Addr} (R : Room A 12) (G : GF mg mb g) (hg : ∀ b o, g.get? b = some o → s.heap.get? b = some o)
    (hfr : A.frames = some [env₀]) (hf0 : env₀.frame = some L₀) (hk0 : env₀.scope.kind ≠ .module) (hL0 : ∃ o, s.heap.get? L₀ = some o ∧ ∀ vs, o.data ≠ .fields vs) (hL1 : L₀ ∉ ls.map (·.1))
    (hN : ∀ p ∈ inn ls, s.heap.get? p.1 = some p.2 ∧ g.get? p.1 = none) (hnd : (ls.map (·.1)).Nodup)
    (hl : g.IsList la (ls.map fun p => Value.ref p.1).toArray) (hsz : ls.length ≤ 1000 ∧ ((con ls).map List.length).sum ≤ 100000)
    {S : List (List Str)} {r : List Str} {ok : Bool} (hrun : c3run (((con ls).map List.length).sum + 1) (con ls) [] = (r, ok, S))
    (hP : ok = true → ∀ (a : Addr) (rl : List (Str × Tok)) (n : Nat) (ls' : List Cel) (h' : Heap) (tk : Nat), ls'.map (·.1) = ls.map (·.1) → con ls' = S → (∀ p ∈ inn ls', h'.get? p.1 = some p.2) → s.heap.get? a = none → h'.get? a = some (LL (strValues rl) n) → rl.map (·.1) = r →
      (∀ b o, b ∉ ls.map (·.1) → s.heap.get? b = some o → h'.get? b = some o) → P (.ref a) { s with heap := h', toks := tk })
    (hX : ok = false → ∀ (e t : Addr) (B h₁ : Heap) (ls' : List Cel) (h' : Heap) (tk : Nat), ls'.map (·.1) = ls.map (·.1) → con ls' = S → (∀ p ∈ inn ls', h₁.get? p.1 = some p.2) →
      (∀ b o, b ∉ ls.map (·.1) → s.heap.get? b = some o → h₁.get? b = some o) → (∀ b o, b ≠ L₀ → b ≠ s.heap.objs.size → h₁.get? b = some o → B.get? b = some o) → Heap.FlyingW B [env₀] e (.type "RuntimeError") (.ref t) h' → h₁.UpToSlots h' → E (.ref e) { s with heap := h', toks := tk }) :
    wpAny (model prog w) A (call (.ref 35) [.ref la]) P E s := by
  obtain ⟨s₀, hs₀⟩ : ∃ s₀, s₀ = s := ⟨_, rfl⟩
  rw [← hs₀] at hg hN hP hX hL0 ⊢
  refine enterE (binds := [("sequences", .ref la)]) (n := 11) R ((fa_c3 G).keeps hg) (G.nolimit.keeps hg) rfl (fun pm => .of_eq rfl) (by decide +kernel) (names := ["sequences"]) (by decide +kernel) ?_
  intro pm s I A' hA'
  have R' : Room A' 11 := hA' ▸ R.deeper
  have hfr' : A'.frames = some (callEnv (fdOf 4 34 .none pm) s₀.heap.objs.size 35 :: [env₀]) := hA' ▸ Around.frames_deeper hfr
  clear hA'
  intro EV KP KE
  have I : At (hideAll s₀.heap (ls.map (·.1))) s₀.heap.objs.size (fun x => [(Str.ofString "sequences", Value.ref la)].reverse.lookup x) (inn ls) s₀ s := by
    refine ⟨I.ns, fun b o e => I.keep b o (of_hideAll _ e), none_of (fun b o e => of_hideAll _ e) I.gL, fun p hp => ⟨I.keep _ _ (hN p hp).1, (fun e => ?_), hideAll_none _ ?_⟩, by rw [map_ob]; exact hnd, I.e⟩
    · have := Heap.lt_size (hN p hp).1; rw [e] at this; exact Nat.lt_irrefl _ this
    · obtain ⟨q, hq, rfl⟩ := List.mem_map.mp hp; exact List.mem_map_of_mem hq
  have hgh : ∀ b o, g.get? b = some o → (hideAll s₀.heap (ls.map (·.1))).get? b = some o := fun b o e => hideAll_get _ (hg b o e) fun hm => by
    obtain ⟨q, hq, rfl⟩ := List.mem_map.mp hm
    have h2 : g.get? q.1 = none := (hN _ (List.mem_map_of_mem hq)).2
    rw [e] at h2; cases h2
  have hGh : ∀ b o, b ∉ ls.map (·.1) → s₀.heap.get? b = some o → (hideAll s₀.heap (ls.map (·.1))).get? b = some o := fun b o hb e => hideAll_get _ e hb
  have G0 := G.keeps hgh
  have hl0 : (hideAll s₀.heap (ls.map (·.1))).IsList la (ls.map fun p => Value.ref p.1).toArray := let ⟨o, h1, h2⟩ := hl; ⟨o, hgh _ _ h1, h2⟩
  generalize hg0 : hideAll s₀.heap (ls.map (·.1)) = g0 at I hgh hGh G0 hl0
  have hLo : g0.get? s₀.heap.objs.size = none := I.gL
  refine x_set ?_
  walk_at "go5"
  walk_at "go5"
  refine NewK.intro I ?_
  intro res s I
  refine SetK.intro I ?_
  intro s I
  have hres : s₀.heap.get? res = none := by
    have h1 := (I.N _ (.head _)).2.2
    cases q : s₀.heap.get? res with
    | none => rfl
    | some o =>
      have nd := I.nd
      rw [List.map_cons, List.nodup_cons, map_ob] at nd
      rw [hGh _ _ nd.1 q] at h1; cases h1
  refine x_while (fun n s => ∃ (g' : Heap) (m : Str → Option Value) (rl : List (Str × Tok)) (rn : Nat) (q : Addr) (lsi : List Cel) (f : Addr → Bool), At g' s₀.heap.objs.size m ((res, LL (strValues rl) rn) :: inn lsi) s₀ s ∧ (∀ b o, g0.get? b = some o → g'.get? b = some o) ∧ m "sequences" = some (.ref q) ∧ m "result" = some (.ref res) ∧
      g'.IsList q (((ls.map (·.1)).filter f).map Value.ref).toArray ∧ lsi.map (·.1) = ls.map (·.1) ∧ (∀ p ∈ lsi, f p.1 = false → p.2.1 = []) ∧ rl.length + n = ((con ls).map List.length).sum + 1 ∧ c3run n (con lsi) (rl.map (·.1)) = (r, ok, S) ∧ ((con lsi).map List.length).sum < n) (((con ls).map List.length).sum + 1) ?_ ?_ PassesOwn.leaving
  · refine ⟨g0, _, [], 0, la, ls, fun _ => true, I, fun _ _ e => e, by walk_at "lk", by walk_at "lk", ?_, rfl, fun p _ h => (by cases h), by simp, hrun, Nat.lt_succ_self _⟩
    rw [List.filter_eq_self.mpr (fun _ _ => rfl), List.map_map]; exact hl0
  · rintro n s ⟨g', M0, rl, rn, q, lsi, f, I, hg', hseq, hresm, hlq, hadr, hf, hn, hrun, hsum⟩
    obtain ⟨n, rfl⟩ : ∃ k, n = k + 1 := ⟨n - 1, by omega⟩
    have nd : (lsi.map (·.1)).Nodup := hadr ▸ hnd
    have hlen : lsi.length ≤ 1000 := by have := congrArg List.length hadr; simp at this; omega
    repeat walk_at "go5"
    have hA : ∀ (i : Nat) (v : Value), ((((ls.map (·.1)).filter f).map Value.ref).toArray)[i]? = some v → ∃ p ∈ lsi, v = .ref p.1 ∧ ((ls.map (·.1)).filter f)[i]? = some p.1 := by
      intro i v h
      simp only [List.getElem?_toArray, List.getElem?_map, Option.map_eq_some_iff] at h
      obtain ⟨a, h1, rfl⟩ := h
      have h2 := (List.mem_filter.mp (List.mem_of_getElem? h1)).1
      rw [← hadr] at h2
      obtain ⟨p, hp, rfl⟩ := List.mem_map.mp h2
      exact ⟨p, hp, rfl, h1⟩
    refine x_setcomp (fun i ys nw => nw = [] ∧ ys = ((((ls.map (·.1)).filter f).take i).filter (fulls lsi)).map Value.ref) ?_
    intro INV
    repeat walk_at "go5"
    refine src_list R'.h I hlq fun it s I Sc => ?_
    refine (Sc _ _).comp I (by simp; rw [sizeLine_eq]; have := List.length_filter_le f (ls.map (·.1)); simp at this; omega) ⟨rfl, by simp⟩ ?_ ?_
    · rintro G₁ C i v own m₁ ys nw s hG1 hG2 hG3 hi hv ⟨rfl, rfl⟩ I
      intro K1 K2 EV
      obtain ⟨p, hp, rfl, hpi⟩ := hA i v hv
      refine a_name I fun s I => ?_
      refine f_one ?_
      repeat walk_at "go5"
      have hpl : s.heap.get? p.1 = some (LL (strValues p.2.1) p.2.2) := I.keep _ _ (hG2 (p.1, _) (.tail _ (mem_inn hp)))
      refine q_trl I (LL.list hpl) ?_ ?_
      · have := len_le_sum hp; rw [len_strValues, sizeLine_eq]; omega
      intro s I
      have htk : ((ls.map (·.1)).filter f).take (i + 1) = ((ls.map (·.1)).filter f).take i ++ [p.1] := by rw [List.take_add_one, hpi]; rfl
      have hfu := fulls_at nd hp
      cases hpe : full p with
      | true =>
        refine Br.tt (by simpa [full, strValues] using hpe) ?_
        repeat walk_at "go5"
        rename At _ _ _ _ _ _ => I
        refine ⟨_, [], I, rfl, ?_⟩
        rw [htk, List.filter_append, List.map_append]
        simp [hfu, hpe]
      | false =>
        refine Br.ff (by simpa [full, strValues] using hpe) ?_
        refine ⟨_, [], I, rfl, ?_⟩
        rw [htk, List.filter_append, List.map_append]
        simp [hfu, hpe]
    · rintro D k ys nw ⟨rfl, rfl⟩ hys
      refine ⟨rfl, fun s I => ?_⟩
      rw [List.take_of_length_le (by simp), ← hadr, filter_two nd hf, List.map_map] at I
      have hfull := all_empty lsi
      have hlvlen : (lsi.filter full).length ≤ 1000 := Nat.le_trans (List.length_filter_le ..) hlen
      generalize hM : upd _ _ _ = M1 at I
      have hseq1 : M1 "sequences" = some (.ref D) := by rw [← hM]; walk_at "lk"
      have hres1 : M1 "result" = some (.ref res) := by rw [← hM]; walk_at "lk"
      clear hM
      repeat walk_at "go5"
      refine q_trl I (LL.list (I.get (.head _))) (by rw [sizeLine_eq, List.length_map]; omega) ?_
      intro s I
      cases hlv : (lsi.filter full).isEmpty with
      | true =>
        rw [List.isEmpty_iff] at hlv
        refine Br.tt (by simp [hlv]) ?_
        repeat walk_at "go5"
        rename At _ _ _ _ _ _ => I
        have hrun' := (c3run_end (n := n + 1) (r := rl.map (·.1)) (hfull.trans (by rw [hlv]; rfl))).symm.trans hrun
        simp only [Prod.mk.injEq] at hrun'
        obtain ⟨rfl, rfl, rfl⟩ := hrun'
        have h1 := hP rfl res rl rn lsi s.heap s.toks hadr rfl (fun p hp => I.get (.tail _ (.tail _ hp))) hres (I.get (.tail _ (.head _))) rfl (fun b o hb e => I.keep _ _ (hg' _ _ (hGh _ _ hb e)))
        have e := I.e
        rw [e]; exact h1
      | false =>
        refine Br.ff (by rw [List.isEmpty_eq_false_iff] at hlv; simpa using hlv) ?_
        repeat walk_at "go5"
        rename At _ _ _ _ _ _ => I
        obtain ⟨g₁, I₁, hg₁, hD⟩ := (show At g' s₀.heap.objs.size M1 ((D, LL ((lsi.filter full).map (Value.ref ∘ fun x => x.1)) k) :: (res, LL (strValues rl) rn) :: inn lsi) s₀ _ from I).freeze1
        have hDl : g₁.IsList D ((lsi.filter full).map (Value.ref ∘ fun x => x.1)).toArray := LL.list hD
        obtain ⟨g₂, I₂, hg₂, hn₂⟩ := I₁.freeze_all
        have hDl₂ : g₂.IsList D ((lsi.filter full).map (Value.ref ∘ fun x => x.1)).toArray := LL.list (hg₂ _ _ hD)
        have hcell : ∀ p ∈ lsi.filter full, g₂.get? p.1 = some (LL (strValues p.2.1) p.2.2) := fun p hp => hn₂ _ (.tail _ (mem_inn (List.mem_filter.mp hp).1))
        have hitem : ∀ (i : Nat) (v : Value), ((lsi.filter full).map (Value.ref ∘ fun x => x.1)).toArray[i]? = some v → ∃ p, (lsi.filter full)[i]? = some p ∧ p ∈ lsi.filter full ∧ v = .ref p.1 ∧ ∃ h th tl, p.2.1 = (h, th) :: tl := by
          intro i v h
          simp only [List.getElem?_toArray, List.getElem?_map, Option.map_eq_some_iff] at h
          obtain ⟨p, h1, rfl⟩ := h
          have hp := List.mem_of_getElem? h1
          refine ⟨p, h1, hp, rfl, ?_⟩
          have h2 := (List.mem_filter.mp hp).2
          cases h3 : p.2.1 with
          | nil => simp [full, h3] at h2
          | cons x tl => exact ⟨x.1, x.2, tl, rfl⟩
        have hsmall : ∀ p ∈ lsi.filter full, p.2.1.length ≤ 200000 := fun p hp => by have := len_le_sum (List.mem_filter.mp hp).1; omega
        generalize hlive : lsi.filter full = lv at *
        refine x_for (fun i m nw => nw = [] ∧ m "sequences" = some (.ref D) ∧ m "result" = some (.ref res) ∧ (∀ l ∈ (con lv).take i, ∀ h, l.head? = some h → blocked (con lv) h = true) ∧ (0 < i → m "candidate" = some .none)) ?_
        intro INV
        repeat walk_at "go5"
        refine src_list R'.h I₂ hDl₂ fun it s I So => ?_
        refine (So _ _).loop I ⟨rfl, hseq1, hres1, (fun l hl => nomatch hl), nofun⟩ ?_ ?_
        · rintro i v own m₁ nw s hi hv ⟨rfl, hseq, hres, hbl, hca⟩ I
          intro KK
          obtain ⟨p, hpi, hp, rfl, h, th, tl, hpt⟩ := hitem i v hv
          repeat walk_at "go5"
          rename At _ _ _ _ _ _ => I
          refine q_item (LL.list (I.keep _ _ (hcell p hp))) (by decide) (by decide) (x := .str h th) (by rw [hpt]; rfl) ?_
          repeat walk_at "go5"
          rename At _ _ _ _ _ _ => I
          rw [List.append_nil] at I
          generalize hM : upd _ _ _ = M2 at I
          have hseq2 : M2 "sequences" = some (.ref D) := by rw [← hM]; walk_at "lk"
          have hres2 : M2 "result" = some (.ref res) := by rw [← hM]; walk_at "lk"
          have hca2 : M2 "candidate" = some (.str h th) := by rw [← hM]; walk_at "lk"
          clear hM
          have hph : (Cel.txt p).head? = some h := by simp [Cel.txt, hpt]
          refine x_for (fun j m nw => nw = own ∧ m "sequences" = some (.ref D) ∧ m "result" = some (.ref res) ∧ m "candidate" = some (.str h th) ∧ ∀ l ∈ (con lv).take j, l.tail.any (· == h) = false) ?_
          intro INV
          repeat walk_at "go5"
          rename At _ _ _ _ _ _ => I
          refine src_list R'.h I hDl₂ fun it2 s I Si => ?_
          refine (Si _ _).loop I ⟨rfl, hseq2, hres2, hca2, fun l hl => nomatch hl⟩ ?_ ?_
          · rintro j v own2 m₂ nw s hj hv ⟨rfl, hseq, hres, hca, hnb⟩ I
            intro KK
            obtain ⟨p2, hpj, hp2, rfl, h2, th2, tl2, hpt2⟩ := hitem j v hv
            have hcj : (con lv)[j]? = some (Cel.txt p2) := by unfold con; rw [List.getElem?_map, hpj]; rfl
            repeat walk_at "go5"
            rename At _ _ _ _ _ _ => I
            refine q_lslice I (LL.list (I.keep _ _ (hcell p2 hp2))) (lo := some 1) (hi := none) ?_ ?_ ?_ ?_
            · exact .int 1 _
            · exact .none
            · have := hsmall p2 hp2; rw [len_strValues, sizeLine_eq]; omega
            intro D2 s I
            have hsl : (slicePick (strValues p2.2.1).toArray (some 1) none none).toList = strValues (p2.2.1.drop 1) := by
              rw [show (1 : Int) = ((1 : Nat) : Int) from rfl, slicePick_from']; simp [strValues]
            rw [hsl] at I
            refine in_list_strs (LL.list (I.get (.head _))) (strsAre_of_values _) ?_
            repeat walk_at "go5"
            have hdr : (p2.2.1.drop 1).map (·.1) = (Cel.txt p2).tail := by unfold Cel.txt; rw [List.drop_one, List.map_tail]
            rw [hdr]
            cases hb : (Cel.txt p2).tail.any (· == h) with
            | true =>
              refine Br.t ?_
              repeat walk_at "go5"
              rename At _ _ _ _ _ _ => I
              have hT : blocked (con lv) h = true := List.any_eq_true.mpr ⟨_, List.mem_map_of_mem hp2, hb⟩
              refine ⟨_, [], (show At g₂ s₀.heap.objs.size _ _ s₀ _ from I).tail.drop ?_, rfl, by walk_at "lk", by walk_at "lk", ?_, fun _ => by walk_at "lk"⟩
              · simp
              · intro l hl h' hh'
                have hci : (con lv)[i]? = some (Cel.txt p) := by unfold con; rw [List.getElem?_map, hpi]; rfl
                rw [List.take_add_one, hci] at hl
                rcases List.mem_append.mp hl with hl | hl
                · exact hbl l hl h' hh'
                · simp at hl; subst hl
                  rw [hph] at hh'; cases hh'; exact hT
            | false =>
              refine Br.f ?_
              repeat walk_at "go5"
              rename At _ _ _ _ _ _ => I
              refine ⟨_, _, (show At g₂ s₀.heap.objs.size _ _ s₀ _ from I).tail, rfl, by walk_at "lk", by walk_at "lk", by walk_at "lk", ?_⟩
              intro l hl
              rw [List.take_add_one, hcj] at hl
              rcases List.mem_append.mp hl with hl | hl
              · exact hnb l hl
              · simp at hl; subst hl; exact hb
          · rintro m₂ nw s Ix ⟨rfl, hseq, hres, hca, hnb⟩
            rw [List.take_of_length_le (by simp [con])] at hnb
            have hT : blocked (con lv) h = false := by
              refine Bool.eq_false_iff.mpr fun hb => ?_
              obtain ⟨l, hl, e⟩ := List.any_eq_true.mp hb
              rw [hnb l hl] at e; cases e
            repeat walk_at "go5"
            refine is_str_none ?_
            repeat walk_at "go5"
            have hci : (con lv)[i]? = some (Cel.txt p) := by unfold con; rw [List.getElem?_map, hpi]; rfl
            have hcand : c3cand (con lv) = some h := c3cand_at hci hph hbl hT
            have hrun' := (c3run_step (n := n) (r := rl.map (·.1)) (hfull.trans hlv) (by rw [← con_full, hlive]; exact hcand)).symm.trans hrun
            have I := I₁.thaw (Ix.drop (List.nil_sublist _)) hg₂ hn₂
            refine gm_append (I.get (.head _)) ?_
            repeat walk_at "go5"
            · rename At _ _ _ _ _ _ => I
              rename Nat => n'
              have hvs : strValues rl ++ [.str h th] = strValues (rl ++ [(h, th)]) := by simp [strValues]
              rw [hvs] at I
              refine x_for (fun i m nw => m "sequences" = some (.ref D) ∧ m "result" = some (.ref res) ∧ m "candidate" = some (.str h th) ∧ ∃ n' lsc, nw = (res, LL (strValues (rl ++ [(h, th)])) n') :: inn lsc ∧ lsc.map key = lsi.map (upto lv h i)) ?_
              intro INV
              repeat walk_at "go5"
              rename At _ _ _ _ _ _ => I
              refine src_list R'.h I hDl fun it3 s I Sq => ?_
              refine (Sq _ _).loop I ⟨hseq, hres, hca, n', lsi, rfl, ?_⟩ ?_ ?_
              · exact List.map_congr_left fun x _ => by simp [upto, key]
              · rintro j v own3 m₃ nw3 s hj hv ⟨hseq, hres, hca, n3, lsc, rfl, hk⟩ I
                intro KK
                obtain ⟨p3, hpj, hp3, rfl, h3, th3, tl3, hpt3⟩ := hitem j v hv
                obtain ⟨l1, ag, l2, rfl, hnew⟩ := c3_turn nd hlive hpj hk
                have hin : (p3.1, LL (strValues p3.2.1) ag) ∈ own3 ++ (res, LL (strValues (rl ++ [(h, th)])) n3) :: inn (l1 ++ (p3.1, p3.2.1, ag) :: l2) :=
                  List.mem_append_right _ (.tail _ (mem_inn (p := (p3.1, p3.2.1, ag)) (List.mem_append_right _ (.head _))))
                repeat walk_at "go5"
                rename At _ _ _ _ _ _ => I
                refine q_item (LL.list (I.get hin)) (by decide) (by decide) (x := .str h3 th3) (by rw [hpt3]; rfl) ?_
                repeat walk_at "go5"
                rename At _ _ _ _ _ _ => I
                by_cases he : h3 = h
                · refine Br.tt (by simp [he]) ?_
                  refine x_del ?_
                  repeat walk_at "go5"
                  rename At _ _ _ _ _ _ => I
                  rename Shared => s5
                  have I : At g₁ s₀.heap.objs.size (upd m₃ "seq" (.ref p3.1)) ((own3 ++ (res, LL (strValues (rl ++ [(h, th)])) n3) :: inn l1) ++ (p3.1, LL (.str h3 th3 :: strValues tl3) ag) :: inn l2) s₀ s5 := by
                    rw [hpt3] at I; simpa [inn, Cel.ob, strValues] using I
                  refine q_del I.mid (by have := hsmall p3 hp3; rw [hpt3] at this; rw [len_strValues, sizeLine_eq]; simp at this; omega) fun n4 s I => ?_
                  have I := I.unmid
                  repeat walk_at "go5"
                  have hkd : kdel h p3.2.1 = tl3 := by unfold kdel; rw [hpt3]; simp [he]
                  refine ⟨upd m₃ "seq" (.ref p3.1), (res, LL (strValues (rl ++ [(h, th)])) n3) :: inn (l1 ++ (p3.1, tl3, n4) :: l2), ?_, by walk_at "lk", by walk_at "lk", by walk_at "lk", n3, _, rfl, ?_⟩
                  rotate_left
                  · have := hnew n4; rw [hkd] at this; exact this
                  · simpa [inn, Cel.ob] using I
                · refine Br.ff (by simp [he]) ?_
                  repeat walk_at "go5"
                  rename At _ _ _ _ _ _ => I
                  refine ⟨_, _, I, by walk_at "lk", by walk_at "lk", by walk_at "lk", n3, _, rfl, ?_⟩
                  have := hnew ag
                  rw [show kdel h p3.2.1 = p3.2.1 from by unfold kdel; rw [hpt3]; simp [he]] at this
                  exact this
              · rintro m₃ nw3 s I ⟨hseq, hres, hca, n3, lsc, rfl, hk⟩
                rw [show (List.map (Value.ref ∘ fun x => x.1) lv).toArray.size = lv.length from by simp] at hk
                obtain ⟨e1, e2, e3⟩ := c3_end nd hlive hk
                repeat walk_at "go5"
                refine ⟨n, Nat.lt_succ_self _, g₁, m₃, rl ++ [(h, th)], n3, D, lsc, fulls lsi, I, fun b o e => hg₁ _ _ (hg' _ _ e), hseq, hres, ?_, e1.trans hadr, e3, by simp; omega, ?_, ?_⟩
                · rw [← hadr, filter_fulls nd, hlive, List.map_map]; exact hDl
                · rw [e2, List.map_append]; exact hrun'
                · have := c3_sum_lt (c := h) (S := con lsi) ?_
                  · rw [e2]; omega
                  · obtain ⟨l, hl, hh⟩ := c3cand_mem hcand
                    rw [← hlive, con_full] at hl
                    exact ⟨l, (List.mem_filter.mp hl).1, hh⟩
            · rw [len_strValues, sizeLine_eq]; omega
        · rintro m nw s I ⟨rfl, hseq, hres, hbl, hca⟩
          rw [List.take_of_length_le (by simp [con])] at hbl
          have hca := hca (by rw [List.isEmpty_eq_false_iff] at hlv; have := List.length_pos_iff.mpr hlv; simpa using this)
          repeat walk_at "go5"
          refine is_none_none ?_
          repeat walk_at "go5"
          have hcand : c3cand (con lv) = none := c3cand_none hbl
          have hrun' := (c3run_bad (n := n) (r := rl.map (·.1)) (hfull.trans hlv) (by rw [← con_full, hlive]; exact hcand)).symm.trans hrun
          simp only [Prod.mk.injEq] at hrun'
          obtain ⟨rfl, rfl, rfl⟩ := hrun'
          refine x_raise R'.h I (G0.keeps fun b o e => hg₂ _ _ (hg₁ _ _ (hg' _ _ e))) ?_
          repeat walk_at "go5"
          rename At _ _ _ _ _ _ => I
          refine ⟨by rw [sizeLine_eq]; simp, fun h' e hm => ?_⟩
          rename Shared => s5
          have hmx := Heap.MadeExc.of hm
          obtain ⟨oL, es, ep, hoL, hdL, _⟩ := id I.ns
          obtain ⟨o0, ho0, hd0⟩ := hL0
          have hkeep : ∀ b o, b ∉ ls.map (·.1) → s₀.heap.get? b = some o → s5.heap.get? b = some o := fun b o hb e => I.keep _ _ (hg₂ _ _ (hg₁ _ _ (hg' _ _ (hGh _ _ hb e))))
          refine wpAny_leaves_madeW (base := hideAll s5.heap [L₀, s₀.heap.objs.size]) hfr' rfl (fun b o e => of_hideAll _ e) ⟨(by show ScopeKind.function ≠ .module; decide), ⟨_, oL, rfl, hideAll_none _ (.tail _ (.head _)), hoL, fun vs e => by rw [hdL] at e; cases e⟩, hk0, ⟨L₀, o0, hf0, hideAll_none _ (.head _), hkeep _ _ hL1 ho0, hd0⟩, trivial⟩ hmx fun h'' t hfly htup hnone hslots => ?_
          have h1 := hX rfl e t (hideAll s5.heap [L₀, s₀.heap.objs.size]) s5.heap lsi h'' s5.toks hadr rfl (fun p hp => I.keep _ _ (hn₂ _ (.tail _ hp))) hkeep (fun b o h1 h2 e => hideAll_get _ e (by simp [h1, h2])) hfly ((Heap.UpToSlots.of_keeps hmx.keeps).trans hslots)
          have e2 := I.e
          rw [e2]; exact h1
end
/-! ## MTxt -/
noncomputable def tx (x : Str) : List Nat := x.cps.toList
theorem tx_inj {x y : Str} (h : tx x = tx y) : x = y := PySem.Str.ext' (Array.toList_inj.mp h)
theorem tx_append (x y : Str) : tx (x ++ y) = tx x ++ tx y := by
  show (x.cps ++ y.cps).toList = _
  rw [Array.toList_append]; rfl
theorem tx_len (x : Str) : (tx x).length = x.length := by simp [tx, Str.length]
theorem tx_slash : tx "/" = [47] := by decide +kernel
theorem slash_is : ("/" : Str) = ⟨#[47]⟩ := by decide +kernel
/-- the folded texts, a slash ahead of each -/
noncomputable def fl (l : List (List Nat)) : List Nat := l.flatMap (47 :: ·)
theorem fl_cons (a : List Nat) (l : List (List Nat)) : fl (a :: l) = 47 :: (a ++ fl l) := by simp [fl]
theorem fl_append (a b : List (List Nat)) : fl (a ++ b) = fl a ++ fl b := by simp [fl]
theorem tx_join (a : Str) (l : List Str) : tx (Txt.join "/" (a :: l)) = tx a ++ fl (l.map tx) := by
  unfold Txt.join
  rw [StrLaws.glued_eq_join]
  induction l generalizing a with
  | nil => simp [Str.join, fl]
  | cons b l ih =>
    show tx (a ++ "/" ++ Str.join "/" (b :: l)) = _
    rw [tx_append, tx_append, tx_slash, ih, List.map_cons, fl_cons]
    simp
theorem fl_inj : ∀ {r q : List (List Nat)} {a b : List Nat}, 47 ∉ a → 47 ∉ b → (∀ p ∈ r, 47 ∉ p) → (∀ p ∈ q, 47 ∉ p) → a ++ fl r = b ++ fl q → a = b ∧ r = q := by
  have key : ∀ {a b X Y : List Nat}, 47 ∉ a → 47 ∉ b → (X = [] ∨ ∃ X', X = 47 :: X') → (Y = [] ∨ ∃ Y', Y = 47 :: Y') → a ++ X = b ++ Y → a = b ∧ X = Y := by
    intro a
    induction a with
    | nil =>
      intro b X Y _ hb hX hY e
      cases b with
      | nil => exact ⟨rfl, e⟩
      | cons y b =>
        rcases hX with rfl | ⟨X', rfl⟩
        · simp at e
        · simp only [List.nil_append, List.cons_append, List.cons.injEq] at e
          exact (hb (e.1 ▸ .head _)).elim
    | cons x a ih =>
      intro b X Y ha hb hX hY e
      cases b with
      | nil =>
        rcases hY with rfl | ⟨Y', rfl⟩
        · simp at e
        · simp only [List.nil_append, List.cons_append, List.cons.injEq] at e
          exact (ha (e.1 ▸ .head _)).elim
      | cons y b =>
        simp only [List.cons_append, List.cons.injEq] at e
        obtain ⟨h1, h2⟩ := ih (fun h => ha (.tail _ h)) (fun h => hb (.tail _ h)) hX hY e.2
        exact ⟨by rw [e.1, h1], h2⟩
  have shape : ∀ r : List (List Nat), fl r = [] ∨ ∃ X, fl r = 47 :: X := fun r => by
    cases r with
    | nil => exact .inl rfl
    | cons a r => exact .inr ⟨_, fl_cons a r⟩
  intro r
  induction r with
  | nil =>
    intro q a b ha hb _ _ e
    obtain ⟨h1, h2⟩ := key ha hb (shape []) (shape q) e
    cases q with
    | nil => exact ⟨h1, rfl⟩
    | cons c q => rw [fl_cons] at h2; cases h2
  | cons c r ih =>
    intro q a b ha hb hr hq e
    obtain ⟨h1, h2⟩ := key ha hb (shape _) (shape q) e
    cases q with
    | nil => rw [fl_cons] at h2; cases h2
    | cons d q =>
      rw [fl_cons, fl_cons, List.cons.injEq] at h2
      obtain ⟨h3, h4⟩ := ih (hr c (.head _)) (hq d (.head _)) (fun p hp => hr p (.tail _ hp)) (fun p hp => hq p (.tail _ hp)) h2.2
      exact ⟨h1, by rw [h3, h4]⟩
noncomputable def free (x : Str) : Prop := 47 ∉ tx x
theorem map_tx_inj : ∀ {a b : List Str}, a.map tx = b.map tx → a = b
  | [], [], _ => rfl
  | [], _ :: _, h => by cases h
  | _ :: _, [], h => by cases h
  | x :: a, y :: b, h => by
    simp only [List.map_cons, List.cons.injEq] at h
    rw [tx_inj h.1, map_tx_inj h.2]
theorem split_join {L : List Str} (h0 : L ≠ []) (hf : ∀ p ∈ L, free p) : Txt.split (Txt.join "/" L) "/" = L := by
  have h1 : Txt.join "/" (Txt.split (Txt.join "/" L) "/") = Txt.join "/" L := by
    conv => lhs; unfold Txt.join
    rw [StrLaws.glued_eq_join, StrLaws.join_split]; rfl
  have h2 : ∀ p ∈ Txt.split (Txt.join "/" L) "/", free p := by
    rw [slash_is]; exact StrLaws.split_free _ _
  have h3 := split_pos (Txt.join "/" L) "/"
  generalize Txt.split (Txt.join "/" L) "/" = M at *
  cases M with
  | nil => simp at h3
  | cons a r =>
    cases L with
    | nil => exact (h0 rfl).elim
    | cons b q =>
      have e := congrArg tx h1
      rw [tx_join, tx_join] at e
      obtain ⟨e1, e2⟩ := fl_inj (h2 a (.head _)) (hf b (.head _)) (fun p hp => by
        obtain ⟨x, hx, rfl⟩ := List.mem_map.mp hp; exact h2 x (.tail _ hx)) (fun p hp => by
        obtain ⟨x, hx, rfl⟩ := List.mem_map.mp hp; exact hf x (.tail _ hx)) e
      rw [tx_inj e1, map_tx_inj e2]

/-- the names in the law -/
noncomputable def Nm (n : Str) : Prop := n = "a" ∨ n = "b" ∨ n = "c"
theorem Nm.tx {n : Str} (h : Nm n) : ∃ k, Mine.tx n = [k] ∧ k ≠ 47 ∧ k ≠ 46 := by
  rcases h with rfl | rfl | rfl
  · exact ⟨97, by decide +kernel, by decide, by decide⟩
  · exact ⟨98, by decide +kernel, by decide, by decide⟩
  · exact ⟨99, by decide +kernel, by decide, by decide⟩
theorem Nm.free {n : Str} (h : Nm n) : Mine.free n := by
  obtain ⟨k, e, h1, _⟩ := h.tx
  unfold Mine.free; rw [e]; simp; exact fun h => h1 h.symm
theorem Nm.len {n : Str} (h : Nm n) : n.length = 1 := by
  obtain ⟨k, e, _⟩ := h.tx
  rw [← tx_len, e]; rfl
theorem Nm.dotdot {n : Str} (h : Nm n) : n ≠ ".." := by
  intro e; have := h.len; rw [e] at this; exact absurd this (by decide +kernel)
theorem Nm.dot {n : Str} (h : Nm n) : n ≠ "." := by
  obtain ⟨k, e, _, h2⟩ := h.tx
  intro e'; rw [e'] at e; rw [show Mine.tx "." = [46] from by decide +kernel] at e
  simp at e; exact h2 e.symm
noncomputable def pathS (ns : List Str) : Str := "/" ++ Txt.join "/" ns
theorem tx_path (a : Str) (r : List Str) : tx (pathS (a :: r)) = fl ((a :: r).map tx) := by
  unfold pathS; rw [tx_append, tx_slash, tx_join, List.map_cons, fl_cons]; rfl
theorem tx_path0 : tx (pathS []) = [47] := by decide +kernel
theorem path0 : pathS [] = "/" := by decide +kernel
theorem pathS_inj {a b : List Str} (ha : ∀ n ∈ a, Nm n) (hb : ∀ n ∈ b, Nm n) (h : pathS a = pathS b) : a = b := by
  have e := congrArg tx h
  have fr : ∀ {l : List Str}, (∀ n ∈ l, Nm n) → ∀ p ∈ l.map tx, 47 ∉ p := fun hl p hp => by
    obtain ⟨x, hx, rfl⟩ := List.mem_map.mp hp; exact (hl x hx).free
  cases a with
  | nil =>
    cases b with
    | nil => rfl
    | cons y b =>
      rw [tx_path0, tx_path, List.map_cons, fl_cons] at e
      obtain ⟨k, hk, _⟩ := (hb y (.head _)).tx
      rw [hk] at e; cases e
  | cons x a =>
    cases b with
    | nil =>
      rw [tx_path0, tx_path, List.map_cons, fl_cons] at e
      obtain ⟨k, hk, _⟩ := (ha x (.head _)).tx
      rw [hk] at e; cases e
    | cons y b =>
      rw [tx_path, tx_path] at e
      exact map_tx_inj (fl_inj (a := []) (b := []) (by simp) (by simp) (fr ha) (fr hb) e).2
/-- the names below a place -/
noncomputable def nmStep (acc : List Str) (c : Str) : List Str := if c = ".." then acc.dropLast else if c.length ≠ 0 ∧ c ≠ "." then acc ++ [c] else acc
noncomputable def Piece (c : Str) : Prop := c = "." ∨ c = ".." ∨ c = "" ∨ Nm c
theorem npStep_nm {acc : List Str} {c : Str} (ha : ∀ n ∈ acc, Nm n) (hc : Piece c) : npStep acc c = nmStep acc c := by
  unfold npStep nmStep
  by_cases h : c = ".."
  · rw [if_neg, if_neg, if_pos h]
    · cases acc <;> simp
    · rintro (h1 | ⟨h1, h2⟩)
      · exact h1 h
      · exact (ha _ (List.mem_of_getLast? h2)).dotdot rfl
    · rw [h]; decide +kernel
  · rw [if_neg h]
    by_cases h2 : c.length = 0 ∨ c = "."
    · rw [if_pos h2, if_neg]; rintro ⟨h3, h4⟩; exact h2.elim h3 h4
    · rw [if_neg h2, if_pos (.inl h), if_pos]
      exact ⟨fun h3 => h2 (.inl h3), fun h3 => h2 (.inr h3)⟩
theorem nmStep_nm {acc : List Str} {c : Str} (ha : ∀ n ∈ acc, Nm n) (hc : Piece c) : ∀ n ∈ nmStep acc c, Nm n := by
  unfold nmStep
  split
  · exact fun n hn => ha n (List.dropLast_subset _ hn)
  · rename_i h1
    split
    · rename_i h2
      intro n hn
      rcases List.mem_append.mp hn with hn | hn
      · exact ha n hn
      · rw [List.mem_singleton.mp hn]
        rcases hc with h | h | h | h
        · exact (h2.2 h).elim
        · exact (h1 h).elim
        · exact (h2.1 (by rw [h]; decide +kernel)).elim
        · exact h
    · exact ha
theorem fold_nm : ∀ {ps acc : List Str}, (∀ n ∈ acc, Nm n) → (∀ c ∈ ps, Piece c) → ps.foldl npStep acc = ps.foldl nmStep acc ∧ ∀ n ∈ ps.foldl nmStep acc, Nm n
  | [], acc, ha, _ => ⟨rfl, ha⟩
  | c :: ps, acc, ha, hp => by
    have h1 := npStep_nm ha (hp c (.head _))
    have h2 := nmStep_nm ha (hp c (.head _))
    have := fold_nm (ps := ps) h2 fun c hc => hp c (.tail _ hc)
    simp only [List.foldl_cons, h1]; exact this
theorem fold_self : ∀ {ns acc : List Str}, (∀ n ∈ ns, Nm n) → ns.foldl npStep acc = acc ++ ns
  | [], acc, _ => by simp
  | n :: ns, acc, h => by
    have hn := h n (.head _)
    have : npStep acc n = acc ++ [n] := by
      unfold npStep
      rw [if_neg (by rintro (h1 | h1); have := hn.len; omega; exact hn.dot h1), if_pos (.inl hn.dotdot)]
    rw [List.foldl_cons, this, fold_self fun m hm => h m (.tail _ hm)]; simp
theorem Piece.free {c : Str} (h : Piece c) : Mine.free c := by
  rcases h with rfl | rfl | rfl | h
  · unfold Mine.free; decide +kernel
  · unfold Mine.free; decide +kernel
  · unfold Mine.free; decide +kernel
  · exact h.free
theorem Piece.len {c : Str} (h : Piece c) : c.length ≤ 2 := by
  rcases h with rfl | rfl | rfl | h
  · decide +kernel
  · decide +kernel
  · decide +kernel
  · rw [h.len]; omega
/-! ## MTxt2 -/
theorem tx_slice_from {x : Str} {i : Nat} (h : i ≤ x.length) : tx (Txt.slice x (some (i : Int)) none) = (tx x).drop i := by
  have hl := tx_len x
  have := eq_of_beq (slice_closes_from (x := x) (i := (i : Int)) ⟨by omega, by unfold tx at hl; omega⟩)
  rw [this]
  show List.take _ _ = _
  rw [List.take_of_length_le]
  · rfl
  · simp
theorem tx_slice_to {x : Str} {j : Nat} (h : j ≤ x.length) : tx (Txt.slice x none (some (j : Int))) = (tx x).take j := by
  have hl := tx_len x
  have := eq_of_beq (slice_closes_to (x := x) (j := (j : Int)) ⟨by omega, by unfold tx at hl; omega⟩)
  rw [this]
  show List.take _ _ = _
  simp [tx]
theorem tx_slice_12 {x : Str} (h : 2 ≤ x.length) : tx (Txt.slice x (some 1) (some 2)) = ((tx x).drop 1).take 1 := by
  have hl := tx_len x
  have := eq_of_beq (slice_closes (x := x) (i := 1) (j := 2) ⟨by omega, by omega, by unfold tx at hl; omega⟩)
  rw [this]; rfl
theorem fl_len (l : List (List Nat)) : (fl l).length = (l.map List.length).sum + l.length := by
  induction l with
  | nil => rfl
  | cons a l ih => rw [fl_cons]; simp [ih]; omega
theorem ends_path {ns : List Str} (h0 : ns ≠ []) (hn : ∀ n ∈ ns, Nm n) : ∃ A k, tx (pathS ns) = A ++ [47, k] ∧ k ≠ 47 ∧ A = fl (ns.dropLast.map tx) := by
  rcases List.eq_nil_or_concat ns with rfl | ⟨r, n, rfl⟩
  · exact (h0 rfl).elim
  · rw [List.concat_eq_append] at *
    obtain ⟨k, hk, h1, _⟩ := (hn n (by simp)).tx
    refine ⟨fl (r.map tx), k, ?_, h1, by simp⟩
    have e : tx (pathS (r ++ [n])) = fl ((r ++ [n]).map tx) := by
      cases r with
      | nil => exact tx_path _ _
      | cons a r => exact tx_path _ _
    rw [e, List.map_append, fl_append]
    simp [fl, hk]
theorem endswith_path {ns : List Str} (h0 : ns ≠ []) (hn : ∀ n ∈ ns, Nm n) : Txt.endswith (pathS ns) "/" = false := by
  obtain ⟨A, k, e, hk, _⟩ := ends_path h0 hn
  refine Bool.eq_false_iff.mpr fun h => ?_
  unfold Txt.endswith at h
  rw [Bool.and_eq_true] at h
  obtain ⟨h1, h2⟩ := h
  have hlen : (pathS ns).length = A.length + 2 := by rw [← tx_len, e]; simp
  have hs : (Str.ofString "/").length = 1 := by decide +kernel
  rw [hlen, hs] at h2
  rw [slash_is] at h2
  have := (StrLaws.subAt_one (pathS ns) 47 (A.length + 2 - 1)).mp ⟨by rw [hlen]; show A.length + 2 - 1 + 1 ≤ _; omega, h2⟩
  rw [show (pathS ns).cps.toList = A ++ [47, k] from e] at this
  rw [List.getElem?_append_right (by omega)] at this
  simp at this
  exact hk this
theorem tx_joined {ns ps : List Str} (hn : ∀ n ∈ ns, Nm n) (h0 : ps ≠ []) : tx (joinF (pathS ns) (Txt.join "/" ps)) = fl ((ns ++ ps).map tx) := by
  cases ps with
  | nil => exact (h0 rfl).elim
  | cons p ps =>
    unfold joinF
    cases ns with
    | nil =>
      rw [show Txt.endswith (pathS []) "/" = true from by decide +kernel]
      show tx (pathS [] ++ _) = _
      rw [tx_append, tx_path0, tx_join, List.nil_append, List.map_cons, fl_cons]; rfl
    | cons n ns =>
      rw [endswith_path (by simp) hn]
      show tx (pathS (n :: ns) ++ ("/" ++ _)) = _
      rw [tx_append, tx_path, tx_append, tx_slash, tx_join, List.map_append, fl_append, List.map_cons (l := ps), fl_cons]; rfl
theorem sum_len_nm {ns : List Str} (hn : ∀ n ∈ ns, Nm n) : ((ns.map tx).map List.length).sum = ns.length := by
  induction ns with
  | nil => rfl
  | cons n ns ih => simp only [List.map_cons, List.sum_cons, List.length_cons]; rw [ih fun m hm => hn m (.tail _ hm), tx_len, (hn n (.head _)).len]; omega
theorem sum_len_ps {ps : List Str} (hn : ∀ n ∈ ps, Piece n) : ((ps.map tx).map List.length).sum ≤ 2 * ps.length := by
  induction ps with
  | nil => simp
  | cons n ns ih => simp only [List.map_cons, List.sum_cons, List.length_cons]; have := ih fun m hm => hn m (.tail _ hm); have := (hn n (.head _)).len; rw [tx_len]; omega
theorem norm_joined {ns qs : List Str} (hn : ∀ n ∈ ns, Nm n) (hq : ∀ c ∈ qs, Piece c) :
    normF (joinF (pathS ns) (Txt.join "/" ("." :: qs))) = pathS (qs.foldl nmStep ns) ∧ (∀ n ∈ qs.foldl nmStep ns, Nm n) ∧ Txt.slice (joinF (pathS ns) (Txt.join "/" ("." :: qs))) none (some 1) = "/" ∧
    Txt.slice (joinF (pathS ns) (Txt.join "/" ("." :: qs))) (some 1) (some 2) ≠ "/" ∧ (joinF (pathS ns) (Txt.join "/" ("." :: qs))).length ≤ 2 * ns.length + 3 * qs.length + 2 ∧ (joinF (pathS ns) (Txt.join "/" ("." :: qs))).length ≠ 0 := by
  have hx := tx_joined (ps := "." :: qs) hn (by simp)
  have hdot : tx "." = [46] := by decide +kernel
  have hpd : ∀ c ∈ (("." : Str) :: qs), Piece c := fun c hc => by
    rcases List.mem_cons.mp hc with rfl | hc
    · exact .inl rfl
    · exact hq c hc
  generalize joinF (pathS ns) (Txt.join "/" ("." :: qs)) = x at hx
  have hlen : x.length = ((ns.map tx).map List.length).sum + (1 + ((qs.map tx).map List.length).sum) + (ns.length + (1 + qs.length)) := by
    rw [← tx_len, hx, fl_len]; simp [hdot]; omega
  have h1 := sum_len_nm hn
  have h2 := sum_len_ps hq
  obtain ⟨c, r, hcr, hc⟩ : ∃ c r, (ns ++ ("." : Str) :: qs) = c :: r ∧ ∃ k, tx c = [k] ∧ k ≠ 47 := by
    cases ns with
    | nil => exact ⟨_, _, rfl, 46, hdot, by decide⟩
    | cons n ns => obtain ⟨k, h1, h2, _⟩ := (hn n (.head _)).tx; exact ⟨_, _, rfl, k, h1, h2⟩
  obtain ⟨k, hk, hk47⟩ := hc
  have hx2 : tx x = 47 :: k :: fl (r.map tx) := by rw [hx, hcr, List.map_cons, fl_cons, hk]; rfl
  have hsl : Txt.slice x (some 1) none = Txt.join "/" (ns ++ ("." : Str) :: qs) := by
    apply tx_inj
    rw [show (1 : Int) = ((1 : Nat) : Int) from rfl, tx_slice_from (by omega), hx2, hcr, tx_join, hk]; rfl
  refine ⟨?_, (fold_nm hn hq).2, ?_, ?_, by omega, by omega⟩
  · unfold normF
    rw [hsl, split_join (by simp) ?_]
    · rw [List.foldl_append, fold_self hn, List.nil_append, (fold_nm hn hpd).1]
      show "/" ++ Txt.join "/" (List.foldl nmStep (nmStep ns ".") qs) = _
      have : nmStep ns "." = ns := by unfold nmStep; rw [if_neg (by decide +kernel), if_neg (by simp)]
      rw [this]; rfl
    · intro p hp
      rcases List.mem_append.mp hp with hp | hp
      · exact (hn p hp).free
      · exact (hpd p hp).free
  · apply tx_inj
    rw [show (1 : Int) = ((1 : Nat) : Int) from rfl, tx_slice_to (by omega), hx2, tx_slash]; rfl
  · intro e
    have := congrArg tx e
    rw [tx_slice_12 (by omega), hx2, tx_slash] at this
    simp at this
    exact hk47 this
theorem rfind_at {x : Str} {A : List Nat} {k : Nat} (h : tx x = A ++ [47, k]) (hk : k ≠ 47) : Txt.rfind x "/" = (A.length : Int) := by
  have hlen : x.length = A.length + 2 := by rw [← tx_len, h]; simp
  have at' : ∀ i, StrLaws.At x "/" x.length i ↔ (tx x)[i]? = some 47 := fun i => by
    rw [slash_is]; exact StrLaws.subAt_one x 47 i
  unfold Txt.rfind
  have h0 : (tx x)[A.length]? = some 47 := by rw [h]; simp
  rcases StrLaws.last_spec x "/" with ⟨e, hno⟩ | ⟨i, e, hi, hno⟩
  · exact (hno A.length ((at' _).mpr h0)).elim
  · rw [e]
    rw [at'] at hi
    have : i = A.length := by
      rcases Nat.lt_trichotomy i A.length with hlt | heq | hgt
      · exact (hno _ hlt ((at' _).mpr h0)).elim
      · exact heq
      · exfalso
        rw [h, List.getElem?_append_right (by omega)] at hi
        obtain ⟨j, hj⟩ : ∃ j, i - A.length = j + 1 := ⟨i - A.length - 1, by omega⟩
        rw [hj] at hi
        cases j with
        | zero => simp at hi; exact hk hi
        | succ j => simp at hi
    rw [this]
theorem dir_root : dirF "/" = "/" := by decide +kernel
theorem dir_path {ns : List Str} {n : Str} (hn : ∀ m ∈ ns ++ [n], Nm m) : dirF (pathS (ns ++ [n])) = pathS ns := by
  obtain ⟨A, k, e, hk, hA⟩ := ends_path (ns := ns ++ [n]) (by simp) hn
  rw [List.dropLast_concat] at hA
  have hlen : (pathS (ns ++ [n])).length = A.length + 2 := by rw [← tx_len, e]; simp
  unfold dirF
  rw [rfind_at e hk]
  have hhead : tx (Txt.slice (pathS (ns ++ [n])) none (some ((A.length : Int) + 1))) = A ++ [47] := by
    rw [show ((A.length : Int) + 1) = ((A.length + 1 : Nat) : Int) from rfl, tx_slice_to (by omega), e, List.take_append, List.take_of_length_le (Nat.le_succ _)]
    simp
  generalize hH : Txt.slice (pathS (ns ++ [n])) none (some ((A.length : Int) + 1)) = H at hhead
  have hHl : H.length = A.length + 1 := by rw [← tx_len, hhead]; simp
  cases ns with
  | nil =>
    have : H = "/" := by apply tx_inj; rw [hhead, hA, tx_slash]; rfl
    rw [this, path0]; decide +kernel
  | cons a r =>
    have hm : (H != Txt.mul "/" (H.length : Int)) = true := by
      rw [bne_iff_ne]
      intro e2
      have e3 := congrArg tx e2
      rw [hhead, slash_is, show tx (Txt.mul ⟨#[47]⟩ (H.length : Int)) = _ from mul_one_list 47 _] at e3
      obtain ⟨k', hk', hk1, _⟩ := (hn a (by simp)).tx
      rw [hA, List.map_cons, fl_cons, hk'] at e3
      have : k' ∈ List.replicate (H.length : Int).toNat 47 := by rw [← e3]; simp
      exact hk1 (List.eq_of_mem_replicate this)
    rw [hm, show (H.length != 0) = true from by rw [hHl]; simp]
    show Txt.rstripChars H "/" = _
    unfold Txt.rstripChars
    rw [PyProof.Rows.stripBy_eq]
    apply tx_inj
    show (Builtin.Str.strSub H _ _).cps.toList = _
    rw [StrLaws.strSub_toList]
    show List.take (stripHi _ true H 0 - 0) (List.drop 0 (tx H)) = _
    have hA2 : ∃ B k2, A = B ++ [k2] ∧ k2 ≠ 47 := by
      obtain ⟨A', k2, e4, hk2, _⟩ := ends_path (ns := a :: r) (by simp) fun m hm => hn m (List.mem_append_left _ hm)
      refine ⟨A' ++ [47], k2, ?_, hk2⟩
      rw [hA, ← tx_path, e4]; simp
    have hgo : ∀ c, (Str.ofString "/").cps.contains c = (c == 47) := fun c => by
      rw [slash_is]; simp [Bool.beq_eq_decide_eq]
    generalize (Str.ofString "/").cps.contains = goes at hgo ⊢
    have hhi : stripHi goes true H 0 = A.length := by
      unfold stripHi
      rw [if_pos rfl, hHl, show H.cps.toList = A ++ [47] from hhead]
      obtain ⟨B, k2, rfl, hk2⟩ := hA2
      simp [List.takeWhile_cons, hgo, hk2]
    rw [hhi, hhead, hA, ← tx_path]
    simp
/-- a way up: the place, and all the folders above it -/
noncomputable def upsL (ns : List Str) : List (List Str) := (List.range (ns.length + 1)).reverse.map ns.take
theorem upsL_nil : upsL [] = [[]] := rfl
theorem upsL_concat (ns : List Str) (n : Str) : upsL (ns ++ [n]) = (ns ++ [n]) :: upsL ns := by
  unfold upsL
  rw [List.length_append, List.length_singleton, List.range_succ, List.reverse_append, List.reverse_singleton, List.singleton_append, List.map_cons]
  congr 1
  · exact List.take_of_length_le (by simp)
  · refine List.map_congr_left fun i hi => ?_
    rw [List.mem_reverse, List.mem_range] at hi
    exact List.take_append_of_le_length (by omega)
theorem line_path : ∀ (k : Nat) {ns : List Str}, (∀ n ∈ ns, Nm n) → ns.length = k → ∀ j, k ≤ j → lineF j (pathS ns) = (upsL ns).map pathS
  | 0, ns, hn, hk, j, hj => by
    obtain rfl := List.length_eq_zero_iff.mp hk
    rw [path0, upsL_nil]
    cases j with
    | zero => rfl
    | succ j => unfold lineF; rw [dir_root, if_pos rfl]; rfl
  | k + 1, ns, hn, hk, j, hj => by
    rcases List.eq_nil_or_concat ns with rfl | ⟨r, n, rfl⟩
    · cases hk
    · rw [List.concat_eq_append] at *
      obtain ⟨j, rfl⟩ : ∃ i, j = i + 1 := ⟨j - 1, by omega⟩
      unfold lineF
      have hr : ∀ m ∈ r, Nm m := fun m hm => hn m (List.mem_append_left _ hm)
      rw [dir_path hn, if_neg, upsL_concat, line_path k hr (by simpa using hk) j (by omega)]
      · rfl
      · intro e
        have := congrArg List.length (pathS_inj hr hn e)
        simp at this
theorem path_len {ns : List Str} (hn : ∀ n ∈ ns, Nm n) : ns.length ≤ (pathS ns).length ∧ (pathS ns).length ≤ 2 * ns.length + 1 := by
  cases ns with
  | nil => exact ⟨Nat.zero_le _, by decide +kernel⟩
  | cons a r =>
    have h1 := sum_len_nm hn
    rw [← tx_len, tx_path, fl_len, List.length_map, h1]; omega
theorem line_place {ns : List Str} (hn : ∀ n ∈ ns, Nm n) : lineF (pathS ns).length (pathS ns) = (upsL ns).map pathS := line_path _ hn rfl _ (path_len hn).1
/-! ## MPlr -/
section
variable {prog : Program} {w : World} {A : Around} {E : Value → Shared → Prop} {s s₀ : Shared} {g : Heap} {L : Addr} {m : Str → Option Value} {news pre post : List (Addr × Obj)} {env : Env} {mg mb : Str → Option Value}
theorem fmod_nat (n k : Nat) : ((n : Int)).fmod (k : Int) = ((n % k : Nat) : Int) := by
  rw [Int.fmod_eq_emod_of_nonneg _ (Int.natCast_nonneg k)]; exact (Int.natCast_emod n k).symm
theorem fdiv_nat (n k : Nat) : ((n : Int)).fdiv (k : Int) = ((n / k : Nat) : Int) := by
  rw [Int.fdiv_eq_ediv_of_nonneg _ (Int.natCast_nonneg k)]; exact (Int.natCast_ediv n k).symm
theorem q_mod {n : Nat} {b : Int} {t u : Tok} {Q : Value → Shared → Prop} (k : Nat) (I : At g L m news s₀ s) (h : ∀ t' s', At g L m news s₀ s' → Q (.int ((n % k : Nat) : Int) t') s') (hb : b = (k : Int) := by rfl) (hk : k ≠ 0 := by decide) :
    wpAny (model prog w) A (binaryOp .Mod (.int (n : Int) t) (.int b u)) Q E s := by
  subst hb
  exact mod_int (by omega) (by rw [fmod_nat]; exact h _ _ (I.tick _))
theorem q_div {n : Nat} {b : Int} {t u : Tok} {Q : Value → Shared → Prop} (k : Nat) (I : At g L m news s₀ s) (h : ∀ t' s', At g L m news s₀ s' → Q (.int ((n / k : Nat) : Int) t') s') (hb : b = (k : Int) := by rfl) (hk : k ≠ 0 := by decide) (hk2 : k < 1000 := by decide) :
    wpAny (model prog w) A (binaryOp .FloorDiv (.int (n : Int) t) (.int b u)) Q E s := by
  subst hb
  exact floordiv_int (by omega) (by rw [fdiv_nat]; exact h _ _ (I.tick _)) (.inl (PyProof.noPylong_small (by omega)))
theorem q_eqi {n : Nat} {b : Int} {t u : Tok} {Q : Value → Shared → Prop} (k : Nat) (h : Q (.bool (n == k)) s) (hb : b = (k : Int) := by rfl) : wpAny (model prog w) A (compareOp .Eq (.int (n : Int) t) (.int b u)) Q E s := by
  subst hb
  refine eq_int ?_
  have : (((n : Int)) == (k : Int)) = (n == k) := by
    rw [Bool.eq_iff_iff]; simp [Int.ofNat_inj]
  rw [this]; exact h
theorem q_gti {n : Nat} {b : Int} {t u : Tok} {Q : Value → Shared → Prop} (k : Nat) (h : Q (.bool (decide (k < n))) s) (hb : b = (k : Int) := by rfl) : wpAny (model prog w) A (compareOp .Gt (.int (n : Int) t) (.int b u)) Q E s := by
  subst hb
  refine gt_int ?_
  have : decide ((k : Int) < (n : Int)) = decide (k < n) := by simp [Int.ofNat_lt]
  rw [this]; exact h
theorem q_addl {a b : Addr} {vs ws : List Value} {Q : Value → Shared → Prop} (I : At g L m news s₀ s) (h1 : s.heap.IsList a vs.toArray) (h2 : s.heap.IsList b ws.toArray) (hz : vs.length + ws.length ≤ sizeLine)
    (h : ∀ D s', At g L m ((D, LL (vs ++ ws) 0) :: news) s₀ s' → Q (.ref D) s') : wpAny (model prog w) A (binaryOp .Add (.ref a) (.ref b)) Q E s :=
  add_lists I.fr I.all h1 h2 (fun h' F N => h _ _ (I.backPush F N)) hz
/-- the base for what a name means does not matter here -/
theorem sub_any {value slice : Expr} {o i : Value} {Q : Value → Shared → Prop} (h : wpAny (model prog w) A (subscriptTail (.Name "x" ⟨0, 0, 0, 0⟩) slice o i) Q E s) : wpAny (model prog w) A (subscriptTail value slice o i) Q E s := kba_turn (fun _ => rfl) h
/-- back to the base before the freeze, with what has come since -/
theorem At.thaw' {g₂ : Heap} {m₂ : Str → Option Value} {s₂ : Shared} {more : List (Addr × Obj)} (J : At g L m news s₀ s) (I : At g₂ L m₂ more s₀ s₂) (hg : ∀ b o, g.get? b = some o → g₂.get? b = some o) (hn : ∀ p ∈ news, g₂.get? p.1 = some p.2) : At g L m₂ (more ++ news) s₀ s₂ := by
  refine ⟨I.ns, fun b o e => I.keep b o (hg b o e), J.gL, fun p hp => ?_, ?_, I.e⟩
  · rcases List.mem_append.mp hp with hp | hp
    · exact ⟨(I.N p hp).1, (I.N p hp).2.1, none_of hg (I.N p hp).2.2⟩
    · exact ⟨I.keep _ _ (hn p hp), (J.N p hp).2⟩
  · rw [List.map_append, List.nodup_append]
    refine ⟨I.nd, J.nd, fun a ha b hb e => ?_⟩
    obtain ⟨p, hp, rfl⟩ := List.mem_map.mp ha
    obtain ⟨q, hq, rfl⟩ := List.mem_map.mp hb
    have h1 := (I.N p hp).2.2
    rw [e, hn q hq] at h1; cases h1
end

theorem isl_keeps {h h' : Heap} {a : Addr} {v : Array Value} (x : h.IsList a v) (k : ∀ b o, h.get? b = some o → h'.get? b = some o) : h'.IsList a v := lstKept x k

noncomputable def SeqC (C : Shared → Prop) (Q : Flow → Shared → Prop) (f : Flow) (s : Shared) : Prop := match f with | .next => C s | f => Q f s
theorem sc_next {C : Shared → Prop} {Q : Flow → Shared → Prop} {s : Shared} (h : C s) : SeqC C Q .next s := h
/-- an if whose branches meet again -/
theorem x_ifC {M : Model} {A : Around} {E : Value → Shared → Prop} {s : Shared} {env : Env} {test : Expr} {body orelse rest : List Stmt} {pos : Pos} {Q : Flow → Shared → Prop} (C : Shared → Prop)
    (h : let KC : Flow → Shared → Prop := SeqC C Q; wpAny M A (isTrue test env (eval test env)) (fun b s₂ => Br b (wpAny M A (execs body env) KC E s₂) (wpAny M A (execs orelse env) KC E s₂)) E s)
    (cont : ∀ s, C s → wpAny M A (execs rest env) Q E s) :
    wpAny M A (execs (.If test body orelse pos :: rest) env) Q E s :=
  x_cons (wpAny_If (wpAny_mono h (fun b _ hb => by
    cases b <;> exact wpAny_mono hb (fun f s' hf => by cases f <;> first | exact cont _ hf | exact hf) fun _ _ e => e) fun _ _ e => e))
theorem At.sink {g : Heap} {L : Addr} {m : Str → Option Value} {s₀ s : Shared} {own rest : List (Addr × Obj)} {x y : Addr × Obj} (I : At g L m (x :: (own ++ y :: rest)) s₀ s) : At g L m (own ++ y :: x :: rest) s₀ s := by
  refine I.perm ?_
  have h1 : own ++ y :: x :: rest = (own ++ [y]) ++ x :: rest := by simp
  have h2 : x :: (own ++ y :: rest) = x :: ((own ++ [y]) ++ rest) := by simp
  rw [h1, h2]
  exact List.perm_middle
/-- one place of the row, in the ledger -/
noncomputable def PlIn (nw : List (Addr × Obj)) (v : Value) (p : List Str × Bool) : Prop :=
  ∃ ta t na nv k, v = .ref ta ∧ (ta, ({ cls := .type "tuple", data := .seq #[.str (pathS p.1) t, .ref na, .bool p.2] } : Obj)) ∈ nw ∧ (na, LL nv k) ∈ nw ∧ StrsAre nv p.1
inductive PlsIn (nw : List (Addr × Obj)) : List Value → List (List Str × Bool) → Prop
  | nil : PlsIn nw [] []
  | cons {v p vs ps} : PlIn nw v p → PlsIn nw vs ps → PlsIn nw (v :: vs) (p :: ps)
theorem PlIn.mono {nw nw' : List (Addr × Obj)} {v : Value} {p : List Str × Bool} (h : PlIn nw v p) (hs : ∀ q ∈ nw, q ∈ nw') : PlIn nw' v p :=
  let ⟨ta, t, na, nv, k, h1, h2, h3, h4⟩ := h; ⟨ta, t, na, nv, k, h1, hs _ h2, hs _ h3, h4⟩
theorem PlsIn.mono {nw nw' : List (Addr × Obj)} {vs : List Value} {ps : List (List Str × Bool)} (h : PlsIn nw vs ps) (hs : ∀ q ∈ nw, q ∈ nw') : PlsIn nw' vs ps := by
  induction h with
  | nil => exact .nil
  | cons h _ ih => exact .cons (h.mono hs) ih
theorem PlsIn.snoc {nw : List (Addr × Obj)} {vs : List Value} {ps : List (List Str × Bool)} {v : Value} {p : List Str × Bool} (h : PlsIn nw vs ps) (hv : PlIn nw v p) : PlsIn nw (vs ++ [v]) (ps ++ [p]) := by
  induction h with
  | nil => exact .cons hv .nil
  | cons h _ ih => exact .cons h ih
theorem PlsIn.length {nw : List (Addr × Obj)} {vs : List Value} {ps : List (List Str × Bool)} (h : PlsIn nw vs ps) : vs.length = ps.length := by
  induction h with
  | nil => rfl
  | cons _ _ ih => simp [ih]

noncomputable def pieceF (d : Nat) : Str := if d = 0 then "." else if d = 1 then "a" else if d = 2 then "b" else if d = 3 then ".." else if d = 4 then "" else "c"
noncomputable def digs : Nat → Nat → List Str
  | 0, _ => []
  | k + 1, f => if f = 0 then [] else pieceF (f % 6) :: digs k (f / 6)
noncomputable def dstep (ns : List Str) (d : Nat) : List Str := (digs 4 (d / 10 % 216)).foldl nmStep (if d / 5 % 2 = 0 then [] else ns)
noncomputable def placesF : List Nat → List Str → List (List Str × Bool)
  | [], _ => []
  | d :: ds, ns => (dstep ns d, d % 5 == 4) :: placesF ds (dstep ns d)
theorem pieceF_piece (d : Nat) : Piece (pieceF d) := by
  unfold pieceF Piece Nm
  repeat (split; · simp)
  simp
theorem digs_piece : ∀ (k f : Nat), ∀ c ∈ digs k f, Piece c
  | 0, _ => fun c h => nomatch h
  | k + 1, f => fun c h => by
    unfold digs at h
    split at h
    · cases h
    · rcases List.mem_cons.mp h with rfl | h
      · exact pieceF_piece _
      · exact digs_piece k _ c h
theorem digs_len : ∀ (k f : Nat), (digs k f).length ≤ k
  | 0, _ => Nat.le_refl _
  | k + 1, f => by
    unfold digs
    split
    · exact Nat.zero_le _
    · have := digs_len k (f / 6); simp; exact this
theorem nm_len (acc : List Str) (ps : List Str) : (ps.foldl nmStep acc).length ≤ acc.length + ps.length := by
  induction ps generalizing acc with
  | nil => simp
  | cons c ps ih =>
    have h1 := ih (nmStep acc c)
    have h2 : (nmStep acc c).length ≤ acc.length + 1 := by
      unfold nmStep
      split
      · simp; omega
      · split <;> simp
    simp only [List.foldl_cons, List.length_cons]; omega
theorem dstep_nm {ns : List Str} (hn : ∀ n ∈ ns, Nm n) (d : Nat) : ∀ n ∈ dstep ns d, Nm n := by
  unfold dstep
  refine (fold_nm ?_ (digs_piece _ _)).2
  split
  · exact fun n h => nomatch h
  · exact hn
theorem dstep_len (ns : List Str) (d : Nat) : (dstep ns d).length ≤ ns.length + 4 := by
  unfold dstep
  have h1 := nm_len (if d / 5 % 2 = 0 then [] else ns) (digs 4 (d / 10 % 216))
  have h2 := digs_len 4 (d / 10 % 216)
  have h3 : (if d / 5 % 2 = 0 then [] else ns).length ≤ ns.length := by split <;> simp
  omega
theorem placesF_nm : ∀ (ds : List Nat) {ns : List Str}, (∀ n ∈ ns, Nm n) → ∀ p ∈ placesF ds ns, ∀ n ∈ p.1, Nm n
  | [], _, _ => fun p h => nomatch h
  | d :: ds, ns, hn => fun p h => by
    rcases List.mem_cons.mp h with rfl | h
    · exact dstep_nm hn d
    · exact placesF_nm ds (dstep_nm hn d) p h
theorem placesF_len : ∀ (ds : List Nat) {ns : List Str}, (placesF ds ns).length = ds.length
  | [], _ => rfl
  | d :: ds, ns => by simp [placesF, placesF_len ds]
theorem placesF_names : ∀ (ds : List Nat) {ns : List Str}, ∀ p ∈ placesF ds ns, p.1.length ≤ ns.length + 4 * ds.length
  | [], _ => fun p h => nomatch h
  | d :: ds, ns => fun p h => by
    have h1 := dstep_len ns d
    rcases List.mem_cons.mp h with rfl | h
    · simp; omega
    · have := placesF_names ds p h; simp; omega
theorem placesF_take : ∀ (ds : List Nat) (ns : List Str) (i : Nat) (d : Nat), ds[i]? = some d → placesF (ds.take (i + 1)) ns = placesF (ds.take i) ns ++ [(dstep ((ds.take i).foldl dstep ns) d, d % 5 == 4)]
  | [], _, _, _, h => by cases h
  | e :: ds, ns, 0, d, h => by simp at h; subst h; rfl
  | e :: ds, ns, i + 1, d, h => by
    simp only [List.take_succ_cons, placesF, List.foldl_cons]
    rw [placesF_take ds (dstep ns e) i d (by simpa using h)]
    rfl
theorem item_six {prog : Program} {w : World} {A : Around} {E : Value → Shared → Prop} {s s₀ : Shared} {g : Heap} {L : Addr} {m : Str → Option Value} {news : List (Addr × Obj)} {da : Addr} {a b c d e f : Tok} {k : Nat} {u : Tok} {value slice : Expr} {Q : Value → Shared → Prop}
    (I : At g L m ((da, { cls := .type "list", data := .seq [.str "." a, .str "a" b, .str "b" c, .str ".." d, .str "" e, .str "c" f].toArray }) :: news) s₀ s) (hk : k < 6) (h : ∀ t, Q (.str (pieceF k) t) s)
    (hs : subscripted slice false (.ref da) (.int (k : Int) u) = operate [.ref da, .int (k : Int) u] (getItem (.ref da) (.int (k : Int) u)) := by with_unfolding_all rfl) :
    wpAny (model prog w) A (subscriptTail value slice (.ref da) (.int (k : Int) u)) Q E s := by
  refine sub_any ?_
  have hl : s.heap.IsList da [Value.str "." a, .str "a" b, .str "b" c, .str ".." d, .str "" e, .str "c" f].toArray := LL.list (n := 0) (I.get (.head _))
  have key : ∃ t, ([Value.str "." a, .str "a" b, .str "b" c, .str ".." d, .str "" e, .str "c" f] : List Value)[(k : Int).toNat]? = some (.str (pieceF k) t) := by
    rw [Int.toNat_natCast]
    rcases (by omega : k = 0 ∨ k = 1 ∨ k = 2 ∨ k = 3 ∨ k = 4 ∨ k = 5) with rfl | rfl | rfl | rfl | rfl | rfl <;> exact ⟨_, rfl⟩
  obtain ⟨t, ht⟩ := key
  exact item_listL hl (by omega) (by omega) ht (h t) hs
theorem digs_pos {k f : Nat} (h : f ≠ 0) : digs (k + 1) f = pieceF (f % 6) :: digs k (f / 6) := by
  conv => lhs; unfold digs
  rw [if_neg h]
theorem starts_dot (acc : List Str) : Txt.startswith (Txt.join "/" (("." : Str) :: acc)) "/" = false := by
  have hx : tx (Txt.join "/" (("." : Str) :: acc)) = 46 :: fl (acc.map tx) := by rw [tx_join]; rfl
  generalize Txt.join "/" (("." : Str) :: acc) = y at hx
  have hl : y.length ≠ 0 := by rw [← tx_len, hx]; simp
  refine Bool.eq_false_iff.mpr fun h => ?_
  unfold Txt.startswith at h
  rw [Bool.and_eq_true] at h
  obtain ⟨h1, h2⟩ := h
  rw [slash_is] at h2
  have := (PySem.StrLaws.subAt_one y 47 0).mp ⟨by show 0 + 1 ≤ _; omega, h2⟩
  rw [show y.cps.toList = 46 :: fl (acc.map tx) from hx] at this
  simp at this
theorem sum_piece {l : List Str} (h : ∀ c ∈ l, Piece c) : (l.map (·.length)).sum ≤ 2 * l.length := by
  induction l with
  | nil => simp
  | cons c l ih =>
    have h1 := (h c (.head _)).len
    have h2 := ih fun d hd => h d (.tail _ hd)
    simp only [List.map_cons, List.sum_cons, List.length_cons]; omega
theorem At.last {g : Heap} {L : Addr} {m : Str → Option Value} {s₀ s : Shared} {own nw : List (Addr × Obj)} {x : Addr × Obj} (I : At g L m (x :: (own ++ nw)) s₀ s) : At g L m (own ++ [x]) s₀ s :=
  (I.drop ((List.sublist_append_left own nw).cons_cons x)).perm (List.perm_append_singleton x own)
theorem fold_facts : ∀ (ds : List Nat) {ns : List Str}, (∀ n ∈ ns, Nm n) → (∀ n ∈ ds.foldl dstep ns, Nm n) ∧ (ds.foldl dstep ns).length ≤ ns.length + 4 * ds.length
  | [], ns, h => ⟨h, by simp⟩
  | d :: ds, ns, h => by
    have := fold_facts ds (dstep_nm h d)
    have h2 := dstep_len ns d
    refine ⟨this.1, ?_⟩
    have h3 := this.2
    simp only [List.foldl_cons, List.length_cons]; omega
theorem digs_zero (k : Nat) : digs k 0 = [] := by cases k <;> rfl
/-! ## MPl -/
theorem fa_places {mg mb : Str → Option Value} {h : Heap} (G : GF mg mb h) : FnAt h 160 24 159 .none := (G.fn ("_law_places", 160, 24, 159, .none) (by decide +kernel)).2
/-- the numbers that a script draws -/
noncomputable def drawsF (ns : List Int) : List Nat := [130, 50, 1895, 84] ++ (ns.take 6).map fun n => n.natAbs % 1000000

section
variable {prog : Program} {w : World} {A : Around} {E : Value → Shared → Prop} {s : Shared} {mg mb : Str → Option Value}
theorem c_places {sa : Addr} {sv : List Value} {ns : List Int} (R : Room A 14) (G : GF mg mb s.heap) (hsl : s.heap.IsList sa sv.toArray) (hsi : IntsAre sv ns) (hns : ns.length ≤ 63) :
    wpAny (model prog w) A (call (.ref 160) [.ref sa]) (fun v s' => Keeps s s' ∧ ∃ fa vs n nw, v = .ref fa ∧ s'.heap.get? fa = some (LL vs n) ∧ (∀ q ∈ nw, s'.heap.get? q.1 = some q.2) ∧ PlsIn nw vs (placesF (drawsF ns) [])) E s := by
  obtain ⟨s₀, hs₀⟩ : ∃ s₀, s₀ = s := ⟨_, rfl⟩
  rw [← hs₀] at G hsl ⊢
  refine enter (args := [.ref sa]) (binds := [("script", .ref sa)]) (P := fun v s' => ∃ fa vs n nw, v = .ref fa ∧ s'.heap.get? fa = some (LL vs n) ∧ (∀ q ∈ nw, s'.heap.get? q.1 = some q.2) ∧ PlsIn nw vs (placesF (drawsF ns) [])) (n := 13) R (fa_places G) G.nolimit rfl (fun pm => .of_eq rfl) (by decide +kernel) (names := ["script"]) (by decide +kernel) ?_
  intro pm A s R hA I KP EV
  refine x_set ?_
  walk_at "go5"
  repeat walk_at "go5"
  rename At _ _ _ _ _ _ => I
  refine e_comp (fun i ys nw => nw = [] ∧ IntsAre ys (((ns.take 6).take i).map fun n => ((n.natAbs % 1000000 : Nat) : Int))) ?_
  intro INV
  repeat walk_at "go5"
  rename At _ _ _ _ _ _ => I
  rename Addr => l0
  refine q_lslice I (isl_keeps hsl I.keep) (lo := none) (hi := some 6) .none (.int 6 _) ?_ ?_
  · rw [hsi.length, sizeLine_eq]; omega
  intro D1 s I
  have hpk : (slicePick sv.toArray none (some 6) none).toList = sv.take 6 := by
    rw [show (6 : Int) = ((6 : Nat) : Int) from rfl, slicePick_upto']
  rw [hpk] at I
  obtain ⟨g₁, I, hg₁, hD1⟩ := I.freeze1
  refine src_list R.h I (LL.list hD1) fun it s I S => ?_
  have hT : IntsAre (sv.take 6) (ns.take 6) := hsi.take 6
  have hlen6 : (sv.take 6).toArray.size = (ns.take 6).length := by rw [List.size_toArray]; exact hT.length
  refine (S _ _).comp I (by rw [List.size_toArray, sizeLine_eq]; simp; omega) ⟨rfl, .nil⟩ ?_ ?_
  · rintro G₁ C i v own m₁ ys nw s hG1 hG2 hG3 hi hv ⟨rfl, hys⟩ I
    intro K1 K2 EV
    obtain ⟨n, t, rfl, hn⟩ := hT.at i v (by simpa using hv)
    have GG := (G.keeps hg₁).keeps hG1
    refine a_name I fun s I => ?_
    refine f_nil ?_
    refine Br.t ?_
    repeat walk_at "go5"
    refine e_blt I GG Boot.«abs» ?_
    repeat walk_at "go5"
    rename At _ _ _ _ _ _ => I
    refine call_abs_int fun u tk => ?_
    have I := I.tick tk
    rw [show (if n < 0 then -n else n) = ((n.natAbs : Nat) : Int) from by split <;> omega]
    repeat walk_at "go5"
    rename At _ _ _ _ _ _ => I
    rename Shared => s5
    refine pow_int_small (by decide) (by decide) (by decide) ?_
    have I := I.tick (s5.toks + 1)
    refine q_mod 1000000 I (fun t' s I => ?_) (by decide +kernel) (by decide)
    refine ⟨_, [], I, rfl, ?_⟩
    rw [List.take_add_one, hn, List.map_append]
    exact hys.append (.cons _ _ .nil)
  · rintro D2 k2 ys nw ⟨rfl, hys⟩ hyl
    intro s I
    rw [hlen6] at hys
    rw [List.take_of_length_le (Nat.le_refl _)] at hys
    have hyl : ys.length ≤ 6 := by rw [hys.length]; simp; omega
    refine q_addl (vs := [.int 130 _, .int 50 _, .int 1895 _, .int 84 _]) (ws := ys) I (LL.list (n := 0) (I.get (.tail _ (.head _)))) (LL.list (I.get (.head _))) (by rw [sizeLine_eq]; simp; omega) ?_
    intro Dd s I
    obtain ⟨g₂, I, hg₂, hDd⟩ := I.freeze1
    obtain ⟨dv, hds, hDd⟩ : ∃ dv : List Value, IntsAre dv ((drawsF ns).map fun d : Nat => (d : Int)) ∧ g₂.get? Dd = some (LL dv 0) := by
      refine ⟨_, ?_, hDd⟩
      unfold drawsF
      rw [List.map_append, List.map_map]
      exact .cons _ _ (.cons _ _ (.cons _ _ (.cons _ _ hys)))
    have hdl : (drawsF ns).length ≤ 10 := by unfold drawsF; simp; omega
    have hdb : ∀ d ∈ drawsF ns, d < 1000000 := by
      intro d hd
      unfold drawsF at hd
      rcases List.mem_append.mp hd with hd | hd
      · simp at hd; omega
      · obtain ⟨n, _, rfl⟩ := List.mem_map.mp hd; exact Nat.mod_lt _ (by decide)
    generalize hdrw : drawsF ns = ds at *
    have I := I.drop (List.nil_sublist _)
    have G₂ := G.keeps fun b o e => hg₂ _ _ (hg₁ _ _ e)
    have hg02 : ∀ b o, s₀.heap.get? b = some o → g₂.get? b = some o := fun b o e => hg₂ _ _ (hg₁ _ _ e)
    refine SetK.intro I ?_
    intro s I
    refine x_set ?_
    walk_at "go5"
    walk_at "go5"
    refine NewK.intro I ?_
    intro fa s I
    refine SetK.intro I ?_
    intro s I
    refine x_set ?_
    walk_at "go5"
    refine SetK.intro (by assumption) ?_
    intro s I
    refine x_set ?_
    walk_at "go5"
    walk_at "go5"
    refine NewK.intro I ?_
    intro na0 s I
    refine SetK.intro I ?_
    intro s I
    have I := I.perm (List.Perm.swap (na0, ({ cls := .type "list", data := .seq ([] : List Value).toArray } : Obj)) (fa, ({ cls := .type "list", data := .seq ([] : List Value).toArray } : Obj)) [])
    generalize hM : upd _ _ _ = M0 at I
    have hdraws : M0 "draws" = some (.ref Dd) := by rw [← hM]; walk_at "lk"
    have hfound : M0 "found" = some (.ref fa) := by rw [← hM]; walk_at "lk"
    have hplace : ∃ t, M0 "place" = some (.str "/" t) := ⟨_, by rw [← hM]; walk_at "lk"⟩
    have hnames : M0 "names" = some (.ref na0) := by rw [← hM]; walk_at "lk"
    clear hM
    refine x_for (fun i m nw => m "found" = some (.ref fa) ∧ ∃ t na nv kn vs k rest, m "place" = some (.str (pathS ((ds.take i).foldl dstep [])) t) ∧ m "names" = some (.ref na) ∧ StrsAre nv ((ds.take i).foldl dstep []) ∧ nw = (fa, LL vs k) :: rest ∧ (na, LL nv kn) ∈ rest ∧ PlsIn rest vs (placesF (ds.take i) [])) ?_
    intro INV
    repeat walk_at "go5"
    refine src_list R.h I (LL.list hDd) fun it s I S => ?_
    refine (S _ _).loop I ⟨hfound, ?_⟩ ?_ ?_
    · obtain ⟨t, ht⟩ := hplace
      exact ⟨t, na0, [], 0, [], 0, [(na0, LL [] 0)], by rw [ht, ← path0]; rfl, hnames, .nil, rfl, .head _, .nil⟩
    · rintro i v own m₁ nw s hi hv ⟨hfound, t, na, nv, kn, vs, k, rest, hplace, hnames, hnv, rfl, hna, hpl⟩ I
      intro KK
      obtain ⟨n, td, rfl, hn⟩ := hds.at i v (by simpa using hv)
      rw [List.getElem?_map] at hn
      obtain ⟨d, hd, rfl⟩ := Option.map_eq_some_iff.mp hn
      have hdmem := hdb d (List.mem_of_getElem? hd)
      have hi10 : i < ds.length := by obtain ⟨h, _⟩ := List.getElem?_eq_some_iff.mp hd; exact h
      obtain ⟨hNm, hNl⟩ := fold_facts (ds.take i) (ns := []) (fun n h => nomatch h)
      have htk : (ds.take i).length ≤ 10 := by simp; omega
      have hplt := placesF_take ds [] i d hd
      generalize hnsq : (ds.take i).foldl dstep [] = nsq at *
      refine a_name I fun s I => ?_
      generalize hM : upd _ _ _ = M1 at I
      have hfound1 : M1 "found" = some (.ref fa) := by rw [← hM]; walk_at "lk"
      have hplace1 : M1 "place" = some (.str (pathS nsq) t) := by rw [← hM]; walk_at "lk"
      have hnames1 : M1 "names" = some (.ref na) := by rw [← hM]; walk_at "lk"
      have hdraw1 : M1 "draw" = some (.int d td) := by rw [← hM]; walk_at "lk"
      clear hM
      refine x_ifC (fun s => ∃ m t na nv kn rest', At g₂ s₀.heap.objs.size m (own ++ (fa, LL vs k) :: rest') s₀ s ∧ m "found" = some (.ref fa) ∧ m "place" = some (.str (pathS (if d / 5 % 2 = 0 then [] else nsq)) t) ∧ m "names" = some (.ref na) ∧ m "draw" = some (.int d td) ∧
        StrsAre nv (if d / 5 % 2 = 0 then [] else nsq) ∧ (na, LL nv kn) ∈ rest' ∧ ∀ q ∈ rest, q ∈ rest') ?_ ?_
      · intro KC
        repeat walk_at "go5"
        rename At _ _ _ _ _ _ => I
        refine q_div 5 I fun t5 s I => ?_
        repeat walk_at "go5"
        rename At _ _ _ _ _ _ => I
        refine q_mod 2 I fun t5 s I => ?_
        repeat walk_at "go5"
        rename At _ _ _ _ _ _ => I
        refine q_eqi 0 ?_
        repeat walk_at "go5"
        by_cases hz : d / 5 % 2 = 0
        · refine Br.tt (by simp [hz]) ?_
          refine x_set ?_
          walk_at "go5"
          refine SetK.intro (by assumption) ?_
          intro s I
          refine x_set ?_
          walk_at "go5"
          walk_at "go5"
          refine NewK.intro I ?_
          intro na1 s I
          refine SetK.intro I ?_
          intro s I
          repeat walk_at "go5"
          refine ⟨_, _, na1, [], 0, _, I.sink, by walk_at "lk", by rw [if_pos hz, path0]; walk_at "lk", by walk_at "lk", by walk_at "lk", by rw [if_pos hz]; exact .nil, .head _, fun q hq => .tail _ hq⟩
        · refine Br.ff (by simp [hz]) ?_
          repeat walk_at "go5"
          refine ⟨M1, t, na, nv, kn, rest, I, hfound1, by rw [if_neg hz]; exact hplace1, hnames1, hdraw1, by rw [if_neg hz]; exact hnv, hna, fun q hq => hq⟩
      · rintro s ⟨m, t, na, nv, kn, rest', I, hfound, hplace, hnames, hdraw, hnv, hna, hsub⟩
        have hNm1 : ∀ n ∈ (if d / 5 % 2 = 0 then [] else nsq), Nm n := by
          split
          · exact fun n h => nomatch h
          · exact hNm
        have hNl1 : (if d / 5 % 2 = 0 then [] else nsq).length ≤ 40 := by
          split
          · exact Nat.zero_le _
          · simp at hNl; omega
        have hst : dstep nsq d = (digs 4 (d / 10 % 216)).foldl nmStep (if d / 5 % 2 = 0 then [] else nsq) := rfl
        generalize hns1 : (if d / 5 % 2 = 0 then [] else nsq) = ns1 at *
        have hF : d / 10 % 216 < 6 ^ 4 := Nat.lt_of_lt_of_le (Nat.mod_lt _ (by decide)) (by decide)
        generalize hFd : d / 10 % 216 = F at *
        refine x_set ?_
        walk_at "go5"
        walk_at "go5"
        walk_at "go5"
        walk_at "go5"
        rename At _ _ _ _ _ _ => I
        refine NewK.intro I ?_
        intro pa s I
        refine SetK.intro I ?_
        intro s I
        repeat walk_at "go5"
        rename At _ _ _ _ _ _ => I
        refine q_div 10 I fun t5 s I => ?_
        repeat walk_at "go5"
        rename At _ _ _ _ _ _ => I
        refine q_mod 216 I fun t5 s I => ?_
        rw [hFd]
        refine SetK.intro I ?_
        intro s I
        generalize hM : upd _ _ _ = M2 at I
        have hfound2 : M2 "found" = some (.ref fa) := by rw [← hM]; walk_at "lk"
        have hplace2 : M2 "place" = some (.str (pathS ns1) t) := by rw [← hM]; walk_at "lk"
        have hnames2 : M2 "names" = some (.ref na) := by rw [← hM]; walk_at "lk"
        have hdraw2 : M2 "draw" = some (.int d td) := by rw [← hM]; walk_at "lk"
        have hpcs2 : M2 "pieces" = some (.ref pa) := by rw [← hM]; walk_at "lk"
        have hfig2 : M2 "figures" = some (.int (F : Int) t5) := by rw [← hM]; walk_at "lk"
        clear hM
        generalize hW : own ++ (fa, LL vs k) :: rest' = W at *
        refine x_while (fun j s => ∃ m pv kp f tf acc, At g₂ s₀.heap.objs.size m ((pa, LL pv kp) :: W) s₀ s ∧ m "found" = some (.ref fa) ∧ m "place" = some (.str (pathS ns1) t) ∧ m "names" = some (.ref na) ∧ m "draw" = some (.int d td) ∧ m "pieces" = some (.ref pa) ∧ m "figures" = some (.int ((f : Nat) : Int) tf) ∧
          StrsAre pv ((Str.ofString ".") :: acc) ∧ digs 4 F = acc ++ digs j f ∧ f < 6 ^ j) 4 ?_ ?_ PassesOwn.never
        · exact ⟨M2, _, 0, F, t5, [], I, hfound2, hplace2, hnames2, hdraw2, hpcs2, hfig2, .cons _ _ .nil, rfl, hF⟩
        · rintro j s ⟨m, pv, kp, f, tf, acc, I, hfound, hplace, hnames, hdraw, hpcs, hfig, hpv, hdg, hf⟩
          repeat walk_at "go5"
          rename At _ _ _ _ _ _ => I
          refine q_gti 0 ?_
          repeat walk_at "go5"
          have hacc : acc.length ≤ 4 := by have := digs_len 4 F; rw [hdg] at this; simp at this; omega
          by_cases hf0 : f = 0
          · refine Br.ff (by simp [hf0]) ?_
            rw [hf0, digs_zero, List.append_nil] at hdg
            have hps : ∀ c ∈ acc, Piece c := hdg ▸ digs_piece 4 F
            obtain ⟨j1, j2, j3, j4, j5, j6⟩ := norm_joined hNm1 hps
            repeat walk_at "go5"
            rename At _ _ _ _ _ _ => I
            refine e_fn I G₂ (a := 150) (k := 21) (c := 149) (dV := .none) (by decide +kernel) ?_
            repeat walk_at "go5"
            rename At _ _ _ _ _ _ => I
            refine e_fn I G₂ (a := 129) (k := 18) (c := 128) (dV := .none) (by decide +kernel) ?_
            repeat walk_at "go5"
            rename At _ _ _ _ _ _ => I
            have hpd : ∀ c ∈ ((Str.ofString ".") :: acc), Piece c := fun c hc => by
              rcases List.mem_cons.mp hc with rfl | hc
              · exact .inl rfl
              · exact hps c hc
            have hsum := sum_piece hpd
            have hjl := len_join ((Str.ofString ".") :: acc)
            have hpl2 := path_len hNm1
            unfold wt at hjl
            simp only [List.length_cons] at hsum hjl
            refine join_listW (LL.list (I.get (.head _))) hpv (by decide +kernel) (by simp only [List.length_cons]; omega) ?_
            intro t8 k8
            have I := I.tick k8
            repeat walk_at "go5"
            rename At _ _ _ _ _ _ => I
            have hp0 : (pathS ns1).length ≠ 0 := by unfold pathS; rw [Str.length_append, show (Str.ofString "/").length = 1 from by decide +kernel]; omega
            refine use I (c_join R.less (G₂.keeps I.keep) (by omega) (by omega) hp0 (starts_dot acc)) ?_
            rintro v s I ⟨t9, rfl⟩
            repeat walk_at "go5"
            rename At _ _ _ _ _ _ => I
            refine use I (c_normpath R.less (G₂.keeps I.keep) (by omega) j3 j4 j6) ?_
            rintro v s I ⟨t10, rfl⟩
            rw [j1]
            refine SetK.intro I ?_
            intro s I
            obtain ⟨g₃, I3, hg₃, hn₃⟩ := I.freeze_all
            generalize hM : upd _ _ _ = M3 at I I3
            have hfound3 : M3 "found" = some (.ref fa) := by rw [← hM]; walk_at "lk"
            have hplace3 : M3 "place" = some (.str (pathS (List.foldl nmStep ns1 acc)) t10) := by rw [← hM]; walk_at "lk"
            have hnames3 : M3 "names" = some (.ref na) := by rw [← hM]; walk_at "lk"
            have hdraw3 : M3 "draw" = some (.int d td) := by rw [← hM]; walk_at "lk"
            have hpcs3 : M3 "pieces" = some (.ref pa) := by rw [← hM]; walk_at "lk"
            clear hM
            have hrW : ∀ q ∈ rest', q ∈ W := fun q hq => by rw [← hW]; exact List.mem_append_right _ (.tail _ hq)
            refine x_for (fun i m nw => m "found" = some (.ref fa) ∧ m "place" = some (.str (pathS (List.foldl nmStep ns1 acc)) t10) ∧ m "draw" = some (.int d td) ∧
              ∃ na nv kn, m "names" = some (.ref na) ∧ StrsAre nv (List.foldl nmStep ns1 (((Str.ofString ".") :: acc).take i)) ∧ ((nw = [] ∧ (na, LL nv kn) ∈ rest') ∨ nw = [(na, LL nv kn)])) ?_
            intro INV
            repeat walk_at "go5"
            refine src_list R.h I3 (LL.list (hn₃ _ (.head _))) fun it2 s I4 S2 => ?_
            refine (S2 _ _).loop I4 ⟨hfound3, hplace3, hdraw3, na, nv, kn, hnames3, hnv, .inl ⟨rfl, hna⟩⟩ ?_ ?_
            · rintro i2 v own2 m₁ nw s hi2 hv2 ⟨hfound, hplace, hdraw, na, nv, kn, hnames, hnv, hwh⟩ I
              intro KK
              obtain ⟨c, tc, rfl, hc⟩ := hpv.item i2 v (by simpa using hv2)
              have hcp : Piece c := hpd c (List.mem_of_getElem? hc)
              have hstep : List.foldl nmStep ns1 (((Str.ofString ".") :: acc).take (i2 + 1)) = nmStep (List.foldl nmStep ns1 (((Str.ofString ".") :: acc).take i2)) c := by
                rw [List.take_add_one, hc, List.foldl_append]; rfl
              have hnl := nm_len ns1 (((Str.ofString ".") :: acc).take i2)
              have hnl2 : (((Str.ofString ".") :: acc).take i2).length ≤ 5 := by rw [List.length_take, List.length_cons]; omega
              generalize List.foldl nmStep ns1 (((Str.ofString ".") :: acc).take i2) = cur at *
              have hnvl : nv.length ≤ 50 := by rw [hnv.length]; omega
              have hnl : ∀ {h : Heap}, (∀ p ∈ own2 ++ nw, h.get? p.1 = some p.2) → (∀ b o, g₃.get? b = some o → h.get? b = some o) → h.IsList na nv.toArray := fun h1 h2 => by
                rcases hwh with ⟨rfl, h⟩ | rfl
                · exact LL.list (h2 _ _ (hn₃ _ (.tail _ (hrW _ h))))
                · exact LL.list (h1 _ (List.mem_append_right _ (.head _)))
              refine a_name I fun s I => ?_
              repeat walk_at "go5"
              by_cases hdd : c = ".."
              · refine Br.tt (by simp [hdd]) ?_
                repeat walk_at "go5"
                rename At _ _ _ _ _ _ => I
                refine q_lslice I (hnl (fun p hp => (I.N p hp).1) I.keep) (lo := none) (hi := some (-1)) .none (.int (-1) _) (by rw [sizeLine_eq]; omega) ?_
                intro D4 s I
                have hpk : (slicePick nv.toArray none (some (-1)) none).toList = nv.take (nv.length - 1) := by
                  rw [show (-1 : Int) = -((1 : Nat) : Int) from rfl, slicePick_butLast _ _ (by omega)]; simp
                rw [hpk] at I
                repeat walk_at "go5"
                rename At _ _ _ _ _ _ => I
                refine ⟨_, [(D4, LL (nv.take (nv.length - 1)) 0)], I.last, by walk_at "lk", by walk_at "lk", by walk_at "lk", D4, _, 0, by walk_at "lk", ?_, .inr rfl⟩
                · rw [hstep]; unfold nmStep; rw [if_pos hdd, List.dropLast_eq_take, ← hnv.length]; exact hnv.take' _
              · refine Br.ff (by simp [hdd]) ?_
                repeat walk_at "go5"
                by_cases hne : c = "" ∨ c = "."
                · have hst2 : nmStep cur c = cur := by
                    unfold nmStep; rw [if_neg hdd, if_neg]; rintro ⟨h1, h2⟩
                    rcases hne with h | h
                    · exact h1 (by rw [h]; decide +kernel)
                    · exact h2 h
                  by_cases hc1 : c = ""
                  · refine Br.ff (by simp [hc1]) ?_
                    repeat walk_at "go5"
                    rename At _ _ _ _ _ _ => I
                    exact ⟨_, nw, I, by walk_at "lk", by walk_at "lk", by walk_at "lk", na, nv, kn, by walk_at "lk", by rw [hstep, hst2]; exact hnv, hwh⟩
                  · refine Br.tt (by simp [hc1]) ?_
                    repeat walk_at "go5"
                    have hc2 : c = "." := hne.resolve_left hc1
                    refine Br.ff (by simp [hc2]) ?_
                    repeat walk_at "go5"
                    rename At _ _ _ _ _ _ => I
                    exact ⟨_, nw, I, by walk_at "lk", by walk_at "lk", by walk_at "lk", na, nv, kn, by walk_at "lk", by rw [hstep, hst2]; exact hnv, hwh⟩
                · have hc1 : c ≠ "" := fun h => hne (.inl h)
                  have hc2 : c ≠ "." := fun h => hne (.inr h)
                  have hst2 : nmStep cur c = cur ++ [c] := by
                    have hl0 : c.length ≠ 0 := by
                      intro h; apply hc1; apply tx_inj
                      have : (tx c).length = 0 := by rw [tx_len]; exact h
                      rw [List.length_eq_zero_iff.mp this]; decide +kernel
                    unfold nmStep; rw [if_neg hdd, if_pos ⟨hl0, hc2⟩]
                  refine Br.tt (by simp [hc1]) ?_
                  repeat walk_at "go5"
                  refine Br.tt (by simp [hc2]) ?_
                  repeat walk_at "go5"
                  rename At _ _ _ _ _ _ => I
                  refine q_addl (vs := nv) (ws := [.str c tc]) I (hnl (fun p hp => (I.N p (.tail _ hp)).1) I.keep) (LL.list (n := 0) (I.get (.head _))) (by rw [sizeLine_eq]; simp; omega) ?_
                  intro D4 s I
                  repeat walk_at "go5"
                  rename At _ _ _ _ _ _ => I
                  refine ⟨_, [(D4, LL (nv ++ [.str c tc]) 0)], (I.drop (.cons_cons _ (.cons _ (List.Sublist.refl _)))).last, by walk_at "lk", by walk_at "lk", by walk_at "lk", D4, _, 0, by walk_at "lk", ?_, .inr rfl⟩
                  rw [hstep, hst2]; exact hnv.append' (.cons _ _ .nil)
            · rintro m nw s I5 ⟨hfound, hplace, hdraw, na, nv, kn, hnames, hnv, hwh⟩
              rw [show pv.toArray.size = ((Str.ofString ".") :: acc).length from by rw [List.size_toArray, hpv.length], List.take_length] at hnv
              have hnv : StrsAre nv (dstep nsq d) := by
                rw [hst, hdg]
                have : nmStep ns1 "." = ns1 := by unfold nmStep; rw [if_neg (by decide +kernel), if_neg (by simp)]
                rw [← this]; exact hnv
              have I := I.thaw' I5 hg₃ hn₃
              have hplace : m "place" = some (.str (pathS (dstep nsq d)) t10) := by rw [hplace, hst, hdg]
              rw [← hW] at I
              have hnaZ : (na, LL nv kn) ∈ nw ++ (pa, LL pv kp) :: rest' := by
                rcases hwh with ⟨rfl, h⟩ | rfl
                · exact .tail _ h
                · exact .head _
              repeat walk_at "go5"
              refine gm_append (I.get (List.mem_append_right _ (.tail _ (List.mem_append_right _ (.head _))))) ?_
              repeat walk_at "go5"
              rename At _ _ _ _ _ _ => I
              refine q_mod 5 I fun t11 s I => ?_
              repeat walk_at "go5"
              rename At _ _ _ _ _ _ => I
              refine q_eqi 4 ?_
              walk_at "go5"
              refine NewK.intro I ?_
              intro ta s I
              have I := I.perm (news' := own ++ (fa, LL vs k) :: (((ta, ({ cls := .type "tuple", data := .seq [.str (pathS (dstep nsq d)) t10, .ref na, .bool (d % 5 == 4)].toArray } : Obj)) :: nw ++ [(pa, LL pv kp)]) ++ rest')) (by
                refine (List.Perm.append_left own (List.perm_middle.symm)).trans ?_
                refine (List.perm_append_comm_assoc _ _ _).trans ?_
                simp)
              refine sp_nil ?_
              refine q_app_mid I (by rw [sizeLine_eq, hpl.length, placesF_len]; simp; omega) fun k' s I => ?_
              repeat walk_at "go5"
              have htk2 : (ds.take (i + 1)).foldl dstep [] = dstep nsq d := by
                rw [List.take_add_one, hd, List.foldl_append, hnsq]; rfl
              refine ⟨m, _, I, hfound, t10, na, nv, kn, _, k', _, htk2.symm ▸ hplace, hnames, htk2.symm ▸ hnv, rfl, ?_, ?_⟩
              · rcases List.mem_append.mp hnaZ with h | h
                · exact List.mem_append_left _ (.tail _ (List.mem_append_left _ h))
                · rcases List.mem_cons.mp h with h | h
                  · exact List.mem_append_left _ (.tail _ (List.mem_append_right _ (h ▸ .head _)))
                  · exact List.mem_append_right _ h
              · rw [hplt]
                refine (hpl.mono fun q hq => List.mem_append_right _ (hsub q hq)).snoc ⟨ta, t10, na, nv, kn, rfl, List.mem_append_left _ (.head _), ?_, hnv⟩
                rcases List.mem_append.mp hnaZ with h | h
                · exact List.mem_append_left _ (.tail _ (List.mem_append_left _ h))
                · rcases List.mem_cons.mp h with h | h
                  · exact List.mem_append_left _ (.tail _ (List.mem_append_right _ (h ▸ .head _)))
                  · exact List.mem_append_right _ h
          · refine Br.tt (by simp; omega) ?_
            repeat walk_at "go5"
            refine gm_append (I.get (.head _)) ?_
            repeat walk_at "go5"
            rename At _ _ _ _ _ _ => I
            refine q_mod 6 I fun t6 s I => ?_
            refine item_six I (Nat.mod_lt _ (by decide)) fun t7 => ?_
            repeat walk_at "go5"
            have hpvl : pv.length ≤ 5 := by rw [hpv.length]; simp; omega
            have I := I.perm (List.Perm.swap _ _ _)
            refine q_append I (by rw [sizeLine_eq]; omega) fun kp' s I => ?_
            have I := (I.perm (List.Perm.swap _ _ _)).tail
            repeat walk_at "go5"
            rename At _ _ _ _ _ _ => I
            refine q_div 6 I fun t8 s I => ?_
            repeat walk_at "go5"
            rename At _ _ _ _ _ _ => I
            obtain ⟨j, rfl⟩ : ∃ i, j = i + 1 := ⟨j - 1, by
              cases j with
              | zero => simp at hf; exact (hf0 hf).elim
              | succ j => rfl⟩
            refine ⟨j, Nat.lt_succ_self _, _, _, kp', f / 6, t8, acc ++ [pieceF (f % 6)], I, by walk_at "lk", by walk_at "lk", by walk_at "lk", by walk_at "lk", by walk_at "lk", by walk_at "lk", hpv.append' (.cons _ _ .nil), ?_, ?_⟩
            · rw [hdg, digs_pos hf0]; simp
            · rw [Nat.pow_succ] at hf; omega
    · rintro m nw s I ⟨hfound, t, na, nv, kn, vs, k, rest, hplace, hnames, hnv, rfl, hna, hpl⟩
      rw [show dv.toArray.size = ds.length from by rw [List.size_toArray, hds.length]; simp, List.take_length] at hpl
      repeat walk_at "go5"
      refine ⟨I.keeps hg02, fa, vs, k, rest, rfl, I.get (.head _), fun q hq => I.get (.tail _ hq), hdrw ▸ hpl⟩
end
/-! ## MCell -/
section
variable {M : Model} {A : Around} {E : Value → Shared → Prop} {s s₀ : Shared} {g : Heap} {L : Addr} {m : Str → Option Value} {news : List (Addr × Obj)} {env : Env} {mg mb : Str → Option Value}
theorem r_cell {x : Str} {pos : Pos} {c : Addr} {o : Obj} {v : Value} {Q : Value → Shared → Prop} (hv : s.heap.get? c = some o) (hd : o.data = .cell (some v)) (h : Q v s) (hc : env.cells.lookup x = some c := by with_unfolding_all rfl)
    (hl : env.kindOf x = some .cell := by with_unfolding_all rfl) (hk : env.scope.kind = .function := by with_unfolding_all rfl)
    (hd' : (x == ("__debug__" : Str)) = false := by decide +kernel) : wpAny M A (eval (.Name x pos) env) Q E s :=
  wpAny_Name (wpAny_loadName_cell hk hl hc ⟨o, hv, hd⟩ h) hd'
theorem r_free {x : Str} {pos : Pos} {c : Addr} {o : Obj} {v : Value} {Q : Value → Shared → Prop} (hv : s.heap.get? c = some o) (hd : o.data = .cell (some v)) (h : Q v s) (hc : env.cells.lookup x = some c := by with_unfolding_all rfl)
    (hl : env.kindOf x = some .free := by with_unfolding_all rfl) (hk : env.scope.kind = .function := by with_unfolding_all rfl) (hn : (x == ("__classdict__" : Str)) = false := by decide +kernel)
    (hd' : (x == ("__debug__" : Str)) = false := by decide +kernel) : wpAny M A (eval (.Name x pos) env) Q E s :=
  wpAny_Name (wpAny_loadName_free hk hl hc ⟨o, hv, hd⟩ h hn) hd'
theorem s_cell {x : Str} {c : Addr} {o : Obj} {v₀ : Option Value} {v : Value} {Q : Unit → Shared → Prop} (I : At g L m ((c, o) :: news) s₀ s) (hd : o.data = .cell v₀) (h : ∀ o' s', o'.data = .cell (some v) → At g L m ((c, o') :: news) s₀ s' → Q () s')
    (hc : env.cells.lookup x = some c := by with_unfolding_all rfl) (hl : env.kindOf x = some .cell := by with_unfolding_all rfl) (hk : env.scope.kind = .function := by with_unfolding_all rfl) : wpAny M A (storeName env x v) Q E s := by
  refine wpAny_storeName_cell hk hl hc ⟨o, I.get (.head _), hd⟩ fun h' hv hs => ?_
  obtain ⟨o', ho', hd'⟩ := hv
  exact h o' _ hd' (I.change (tk := s.toks) (f := id) hs ho')
noncomputable def SetCK (env : Env) (x : Str) (v : Value) (P : Shared → Prop) (s₁ : Shared) : Prop :=
  ∃ g L m c o v₀ news s₀, At g L m ((c, o) :: news) s₀ s₁ ∧ o.data = .cell v₀ ∧ env.cells.lookup x = some c ∧ ∀ o' s', o'.data = .cell (some v) → At g L m ((c, o') :: news) s₀ s' → P s'
theorem SetCK.intro {x : Str} {c : Addr} {o : Obj} {v₀ : Option Value} {v : Value} {P : Shared → Prop} (I : At g L m ((c, o) :: news) s₀ s) (hd : o.data = .cell v₀) (h : ∀ o' s', o'.data = .cell (some v) → At g L m ((c, o') :: news) s₀ s' → P s')
    (hc : env.cells.lookup x = some c := by with_unfolding_all rfl) : SetCK env x v P s := ⟨_, _, _, _, _, _, _, _, I, hd, hc, h⟩
theorem x_setc {x : Str} {pos' pos : Pos} {value : Expr} {rest : List Stmt} {Q : Flow → Shared → Prop}
    (h : wpAny M A (eval value env) (fun v s₁ => SetCK env x v (fun s' => wpAny M A (execs rest env) Q E s') s₁) E s)
    (hs : swapsWith value (some (.Name x pos')) pos.line env = pure false := by with_unfolding_all rfl)
    (hl : env.kindOf x = some .cell := by with_unfolding_all rfl) (hk : env.scope.kind = .function := by with_unfolding_all rfl) : wpAny M A (execs (.Assign [.Name x pos'] value pos :: rest) env) Q E s :=
  x_assign (wpAny_mono h (fun v s₁ h₁ => let ⟨_, _, _, _, _, _, _, _, I, hd, hc, k⟩ := h₁; s_cell I hd k hc hl hk) fun _ _ e => e) hs

theorem led1 {s s₁ : Shared} {m cm : Str → Option Value} {n : Str} {c : Addr} (X : InCallC s s.heap.objs.size m [(n, c)] cm s₁) : ∃ o, o.data = .cell (cm n) ∧ At s.heap s.heap.objs.size m [(c, o)] s s₁ := by
  obtain ⟨o, ho, hd⟩ := X.cell n c (by simp [List.lookup])
  have ha := X.above n c (.head _)
  have gn : ∀ b, s.heap.objs.size ≤ b → s.heap.get? b = none := fun b hb => by
    cases q : s.heap.get? b with
    | none => rfl
    | some o => exact absurd (Heap.lt_size q) (Nat.not_lt.mpr hb)
  obtain ⟨h₁, tk, e⟩ := X.toInCall.same
  refine ⟨o, hd, X.toInCall.ns, X.toInCall.keep, gn _ (Nat.le_refl _), fun p hp => ?_, by simp, by rw [e]⟩
  rw [List.mem_singleton] at hp; subst hp
  exact ⟨ho, Nat.ne_of_gt ha, gn _ (Nat.le_of_lt ha)⟩
theorem led2 {s s₁ : Shared} {m cm : Str → Option Value} {n1 n2 : Str} {c1 c2 : Addr} (hn : n1 ≠ n2) (X : InCallC s s.heap.objs.size m [(n1, c1), (n2, c2)] cm s₁) :
    ∃ o1 o2, o1.data = .cell (cm n1) ∧ o2.data = .cell (cm n2) ∧ At s.heap s.heap.objs.size m [(c1, o1), (c2, o2)] s s₁ := by
  obtain ⟨o1, ho1, hd1⟩ := X.cell n1 c1 (by simp [List.lookup])
  obtain ⟨o2, ho2, hd2⟩ := X.cell n2 c2 (by
    rw [List.lookup_cons, show (n2 == n1) = false from by simp [Ne.symm hn]]; simp [List.lookup])
  have ha1 := X.above n1 c1 (.head _)
  have ha2 := X.above n2 c2 (.tail _ (.head _))
  have gn : ∀ b, s.heap.objs.size ≤ b → s.heap.get? b = none := fun b hb => by
    cases q : s.heap.get? b with
    | none => rfl
    | some o => exact absurd (Heap.lt_size q) (Nat.not_lt.mpr hb)
  obtain ⟨h₁, tk, e⟩ := X.toInCall.same
  refine ⟨o1, o2, hd1, hd2, X.toInCall.ns, X.toInCall.keep, gn _ (Nat.le_refl _), fun p hp => ?_, ?_, by rw [e]⟩
  · simp only [List.mem_cons, List.not_mem_nil, or_false] at hp
    rcases hp with rfl | rfl
    · exact ⟨ho1, Nat.ne_of_gt ha1, gn _ (Nat.le_of_lt ha1)⟩
    · exact ⟨ho2, Nat.ne_of_gt ha2, gn _ (Nat.le_of_lt ha2)⟩
  · have := X.apart
    simp at this ⊢
    exact this
end
section
variable {prog : Program} {w : World} {A : Around} {E : Value → Shared → Prop} {s : Shared} {mg mb : Str → Option Value}
/-- entering a def with cells, whose parameters are plain -/
theorem enterC {a k c : Nat} {dV : Value} {args : List Value} {binds : List (Str × Value)} {body : List Stmt} {P : Value → Shared → Prop} {n : Nat} (R : Room A (n + 1)) (hf : FnAt s.heap a k c dV) (hlim : s.heap.NoLimit)
    (hbody : fnBody k = body)
    (hbind : ∀ pm, bindArgs (fdOf k c dV pm) ⟨args, []⟩ = pure binds)
    {names : List Str} (hloc : (names.all fun x => decide ((fnScope k).names.lookup x = some .local)) = true)
    (h : ∀ pm A' s₁, Room A' n → A' = A.deeper (callEnvC (fdOf k c dV pm) s.heap.objs.size a) → InCallC s s.heap.objs.size (bindL (callEnvC (fdOf k c dV pm) s.heap.objs.size a).kindOf binds fun _ => none) (cellsFrom (s.heap.objs.size + 1) (fnScope k).names []) (bindC (callEnvC (fdOf k c dV pm) s.heap.objs.size a).kindOf binds fun _ => none) s₁ →
      let KP : Flow → Shared → Prop := Done s P
      let EV : Env := callEnvC (fdOf k c dV pm) s.heap.objs.size a
      wpAny (model prog w) A' (execs body EV) KP (fun _ _ => False) s₁)
    (hnames : binds.map (·.1) = names := by with_unfolding_all rfl)
    (hco : (fnScope k).isCoroutine = false := by with_unfolding_all rfl) (hgen : (fnScope k).isGenerator = false := by with_unfolding_all rfl) (hk : (fnScope k).kind = .function := by with_unfolding_all rfl) :
    wpAny (model prog w) A (call (.ref a) args) (fun v s' => Keeps s s' ∧ P v s') E s := by
  obtain ⟨o, pm, ho, hd, hcd⟩ := hf
  subst hbody
  refine wpAny_call (codeAny_call_cells R.depth ho hd hlim hcd rfl (hbind pm) rfl (fun x hx => .inl (of_decide_eq_true (List.all_eq_true.mp hloc x.1 (hnames ▸ List.mem_map_of_mem hx)))) (fun s₁ X => ?_) hco hgen hk)
  refine wpAny_mono (h pm _ _ R.deeper rfl X) (fun _ _ x => x) fun _ _ x => x.elim
end
/-! ## MClash -/
/-- one place of the row, in the heap -/
noncomputable def PlAt (h : Heap) (v : Value) (p : List Str × Bool) : Prop :=
  ∃ ta t na nv, v = .ref ta ∧ IsTup h ta [.str (pathS p.1) t, .ref na, .bool p.2].toArray ∧ h.IsList na nv.toArray ∧ StrsAre nv p.1
structure PlsAt (h : Heap) (vs : List Value) (ps : List (List Str × Bool)) : Prop where
  len : vs.length = ps.length
  at' : ∀ (i : Nat) (v : Value), vs[i]? = some v → ∃ p, ps[i]? = some p ∧ PlAt h v p
theorem PlAt.keeps {h h' : Heap} {v : Value} {p : List Str × Bool} (x : PlAt h v p) (k : ∀ b o, h.get? b = some o → h'.get? b = some o) : PlAt h' v p :=
  let ⟨ta, t, na, nv, h1, ⟨o, h2, h3⟩, h4, h5⟩ := x; ⟨ta, t, na, nv, h1, ⟨o, k _ _ h2, h3⟩, isl_keeps h4 k, h5⟩
theorem PlsAt.keeps {h h' : Heap} {vs : List Value} {ps : List (List Str × Bool)} (x : PlsAt h vs ps) (k : ∀ b o, h.get? b = some o → h'.get? b = some o) : PlsAt h' vs ps :=
  ⟨x.len, fun i v e => let ⟨p, h1, h2⟩ := x.at' i v e; ⟨p, h1, h2.keeps k⟩⟩
theorem PlsIn.at' {nw : List (Addr × Obj)} {h : Heap} {vs : List Value} {ps : List (List Str × Bool)} (x : PlsIn nw vs ps) (k : ∀ q ∈ nw, h.get? q.1 = some q.2) : PlsAt h vs ps := by
  refine ⟨x.length, ?_⟩
  induction x with
  | nil => intro i v e; simp at e
  | cons h1 _ ih =>
    intro i v e
    cases i with
    | zero =>
      simp at e; subst e
      obtain ⟨ta, t, na, nv, kn, h1, h2, h3, h4⟩ := h1
      exact ⟨_, rfl, ta, t, na, nv, h1, ⟨_, k _ h2, rfl, _, rfl⟩, LL.list (k _ h3), h4⟩
    | succ i => exact ih i v (by simpa using e)
theorem PlsAt.ref {h : Heap} {vs : List Value} {ps : List (List Str × Bool)} (x : PlsAt h vs ps) : ∀ (i : Nat) (v : Value), vs.toArray[i]? = some v → ∃ a, v = .ref a := fun i v e => by
  obtain ⟨p, _, ta, t, na, nv, rfl, _⟩ := x.at' i v (by simpa using e)
  exact ⟨ta, rfl⟩

noncomputable def firsts (b : Bool) (ps : List (List Str × Bool)) : List Str := ps.filterMap fun p => if p.2 = b then p.1.head? else none
noncomputable def clashF (ps : List (List Str × Bool)) : Bool := (firsts false ps).any fun n => (firsts true ps).any (· == n)

theorem fa_clash {mg mb : Str → Option Value} {h : Heap} (G : GF mg mb h) : FnAt h 172 26 171 .none := (G.fn ("_law_clash", 172, 26, 171, .none) (by decide +kernel)).2
section
variable {prog : Program} {w : World} {A : Around} {E : Value → Shared → Prop} {s : Shared} {mg mb : Str → Option Value}
theorem c_clash {fa : Addr} {fv : List Value} {ps : List (List Str × Bool)} (R : Room A 12) (G : GF mg mb s.heap) (hfl : s.heap.IsList fa fv.toArray) (hpl : PlsAt s.heap fv ps) (hsz : ps.length ≤ 100 ∧ ∀ p ∈ ps, p.1.length ≤ 1000) :
    wpAny (model prog w) A (call (.ref 172) [.ref fa]) (fun v s' => Keeps s s' ∧ v = .bool (clashF ps)) E s := by
  obtain ⟨s₀, hs₀⟩ : ∃ s₀, s₀ = s := ⟨_, rfl⟩
  rw [← hs₀] at G hfl hpl ⊢
  refine enterC (args := [.ref fa]) (binds := [("found", .ref fa)]) (P := fun v s' => v = .bool (clashF ps)) (n := 11) R (fa_clash G) G.nolimit rfl (fun pm => rfl) (names := ["found"]) (by decide +kernel) ?_
  intro pm A s R hA X KP EV
  obtain ⟨oc, hoc, I⟩ := led1 X
  have I : At s₀.heap s₀.heap.objs.size (upd (fun _ => none) "found" (.ref fa)) [(s₀.heap.objs.size + 1, oc)] s₀ s := I
  clear X
  have hg0 : ∀ b o, s₀.heap.get? b = some o → s₀.heap.get? b = some o := fun _ _ e => e
  have step : ∀ (b : Bool) {i : Nat} {p : List Str × Bool}, ps[i]? = some p → firsts b (ps.take (i + 1)) = firsts b (ps.take i) ++ (if p.2 = b then p.1.head? else none).toList := by
    intro b i p h
    rw [List.take_add_one, h]
    unfold firsts
    rw [List.filterMap_append]
    congr 1
  refine x_setcomp (fun i ys nw => nw = [] ∧ StrsAre ys (firsts false (ps.take i))) ?_
  intro INV
  repeat walk_at "go5"
  refine src_listT R.h I hfl hpl.ref fun it s I S => ?_
  refine (S _ _ _).comp I (by rw [List.size_toArray, hpl.len, sizeLine_eq]; omega) ⟨rfl, .nil⟩ ?_ ?_
  · rintro G₁ C i v own m₁ ys nw s hG1 hG2 hG3 hi hv ⟨rfl, hys⟩ I
    intro K1 K2 EV
    skip
    obtain ⟨p, hp, ta, t, na, nv, rfl, hta, hna, hnv⟩ := hpl.at' i v (by simpa using hv)
    have hk : ∀ b o, s₀.heap.get? b = some o → s.heap.get? b = some o := fun b o e => I.keep _ _ (hG1 _ _ e)
    have hnl : nv.length ≤ 1000 := by rw [hnv.length]; exact hsz.2 p (List.mem_of_getElem? hp)
    have hst := step false hp
    refine a_tup R.h I (let ⟨o, h1, h2⟩ := hta; ⟨o, hk _ _ h1, h2⟩) fun s I => ?_
    refine a_cons I fun s I => ?_
    refine a_cons I fun s I => ?_
    refine a_cons I fun s I => ?_
    refine a_nil ?_
    refine f_one ?_
    repeat walk_at "go5"
    have hna' : ∀ {h : Heap}, (∀ b o, G₁.get? b = some o → h.get? b = some o) → h.IsList na nv.toArray := fun k => isl_keeps hna fun b o e => k _ _ (hG1 _ _ e)
    refine q_trl I (hna' I.keep) (by rw [sizeLine_eq]; omega) ?_
    intro s I
    generalize hpn : p.1 = pn at *
    cases hnv with
    | nil =>
      refine Br.ff rfl ?_
      repeat walk_at "go5"
      exact ⟨_, [], I, rfl, by rw [hst]; simpa using hys⟩
    | @cons y ty vs' ys' hnv =>
      refine Br.tt rfl ?_
      repeat walk_at "go5"
      by_cases hfa : p.2 = false
      · refine Br.tt (by simp [hfa]) ?_
        repeat walk_at "go5"
        rename At _ _ _ _ _ _ => I
        refine q_item (hna' I.keep) (by decide) (by decide) (x := .str y ty) rfl ?_
        exact ⟨_, [], I, rfl, by rw [hst, if_pos hfa]; exact hys.append' (.cons _ _ .nil)⟩
      · refine Br.ff (by simpa using hfa) ?_
        exact ⟨_, [], I, rfl, by rw [hst, if_neg hfa]; simpa using hys⟩
  · rintro D1 k1 ys1 nw ⟨rfl, hy1⟩ hyl1
    rw [List.take_of_length_le (by rw [List.size_toArray, hpl.len]; exact Nat.le_refl _)] at hy1
    refine ⟨rfl, fun s I => ?_⟩
    obtain ⟨g1, I, hg1, hD1⟩ := (show At s₀.heap s₀.heap.objs.size _ ((D1, LL ys1 k1) :: [(s₀.heap.objs.size + 1, oc)]) s₀ s from I).freeze1
    refine x_setc ?_
    refine e_comp (fun i ys nw => nw = [] ∧ StrsAre ys (firsts true (ps.take i))) ?_
    intro INV
    repeat walk_at "go5"
    refine src_listT R.h I (isl_keeps hfl hg1) hpl.ref fun it s I S => ?_
    refine (S _ _ _).comp I (by rw [List.size_toArray, hpl.len, sizeLine_eq]; omega) ⟨rfl, .nil⟩ ?_ ?_
    · rintro G₁ C i v own m₁ ys nw s hG1 hG2 hG3 hi hv ⟨rfl, hys⟩ I
      intro K1 K2 EV
      have hG1 : ∀ b o, s₀.heap.get? b = some o → G₁.get? b = some o := fun b o e => hG1 _ _ (hg1 _ _ e)
      obtain ⟨p, hp, ta, t, na, nv, rfl, hta, hna, hnv⟩ := hpl.at' i v (by simpa using hv)
      have hk : ∀ b o, s₀.heap.get? b = some o → s.heap.get? b = some o := fun b o e => I.keep _ _ (hG1 _ _ e)
      have hnl : nv.length ≤ 1000 := by rw [hnv.length]; exact hsz.2 p (List.mem_of_getElem? hp)
      have hst := step true hp
      refine a_tup R.h I (let ⟨o, h1, h2⟩ := hta; ⟨o, hk _ _ h1, h2⟩) fun s I => ?_
      refine a_cons I fun s I => ?_
      refine a_cons I fun s I => ?_
      refine a_cons I fun s I => ?_
      refine a_nil ?_
      refine f_one ?_
      repeat walk_at "go5"
      have hna' : ∀ {h : Heap}, (∀ b o, G₁.get? b = some o → h.get? b = some o) → h.IsList na nv.toArray := fun k => isl_keeps hna fun b o e => k _ _ (hG1 _ _ e)
      refine q_trl I (hna' I.keep) (by rw [sizeLine_eq]; omega) ?_
      intro s I
      generalize hpn : p.1 = pn at *
      cases hnv with
      | nil =>
        refine Br.ff rfl ?_
        repeat walk_at "go5"
        exact ⟨_, [], I, rfl, by rw [hst]; simpa using hys⟩
      | @cons y ty vs' ys' hnv =>
        refine Br.tt rfl ?_
        repeat walk_at "go5"
        by_cases hfa : p.2 = true
        · refine Br.tt (by simp [hfa]) ?_
          repeat walk_at "go5"
          rename At _ _ _ _ _ _ => I
          refine q_item (hna' I.keep) (by decide) (by decide) (x := .str y ty) rfl ?_
          exact ⟨_, [], I, rfl, by rw [hst, if_pos hfa]; exact hys.append' (.cons _ _ .nil)⟩
        · refine Br.ff (by simpa using hfa) ?_
          exact ⟨_, [], I, rfl, by rw [hst, if_neg hfa]; simpa using hys⟩
    · rintro D2 k2 ys2 nw ⟨rfl, hy2⟩ hyl2
      rw [List.take_of_length_le (by rw [List.size_toArray, hpl.len]; exact Nat.le_refl _)] at hy2
      intro s I
      refine SetCK.intro (I.perm (List.Perm.swap (D2, LL ys2 k2) (s₀.heap.objs.size + 1, oc) [])) hoc ?_
      intro oc' s hoc' I
      refine x_ret ?_
      refine e_cmp ?_
      refine r_bool ?_
      refine e_comp (fun i ys nw => nw = [] ∧ ys = ((firsts false ps).take i).map fun n => .bool ((firsts true ps).any (· == n))) ?_
      intro INV
      repeat walk_at "go5"
      refine src_list R.h I (LL.list hD1) fun it s I S => ?_
      refine (S _ _).comp I (by rw [List.size_toArray, sizeLine_eq]; simp at hyl1; rw [hpl.len] at hyl1; omega) ⟨rfl, rfl⟩ ?_ ?_
      · rintro G₁ C i v own m₁ ys nw s hG1 hG2 hG3 hi hv ⟨rfl, rfl⟩ I
        intro K1 K2 EV
        obtain ⟨y, ty, rfl, hy⟩ := hy1.item i v (by simpa using hv)
        refine a_name I fun s I => ?_
        refine f_nil ?_
        refine Br.t ?_
        repeat walk_at "go5"
        refine r_cell (I.keep _ _ (hG2 _ (.head _))) hoc' ?_
        refine in_list_strs (LL.list (I.keep _ _ (hG2 _ (.tail _ (.head _))))) hy2 ?_
        refine ⟨_, [], I, rfl, ?_⟩
        rw [List.take_add_one, hy]
        simp
      · rintro D3 k3 ys3 nw ⟨rfl, rfl⟩ hyl3
        intro s I
        rw [show ys1.toArray.size = (firsts false ps).length from by rw [List.size_toArray, hy1.length], List.take_length] at I
        refine SeqAt.in_listAt (items := (List.map (fun n => Value.bool ((firsts true ps).any (· == n))) (firsts false ps)).toArray) (fun v => match v with | .bool b => b | _ => false) (LL.list (I.get (.head _))) (fun y hy => ?_) ?_
        · simp only [List.mem_toArray, List.mem_map] at hy
          obtain ⟨n, _, rfl⟩ := hy
          have := SeqAt.EqAt.bool_bool (A := A.in1) (s := s) ((firsts true ps).any (· == n)) true
          simpa using this
        · refine ⟨I.keeps fun b o e => hg1 _ _ e, ?_⟩
          unfold clashF
          simp
          rfl
end
/-! ## MRed -/
section
variable {prog : Program} {w : World} {A : Around} {E : Value → Shared → Prop} {s s₀ : Shared} {g : Heap} {L : Addr} {m : Str → Option Value} {news : List (Addr × Obj)} {env : Env} {mg mb : Str → Option Value}
/-- `iter(list)` -/
theorem q_iter {la : Addr} {items : Array Value} {Q : Value → Shared → Prop} (I : At g L m news s₀ s) (hl : s.heap.IsList la items)
    (h : ∀ it s', At g L m ((it, { cls := .type "list_iterator", data := .fields #[.ref la, .int 0 0] }) :: news) s₀ s' → Q (.ref it) s') : wpAny (model prog w) A (call (.builtin "iter") [.ref la]) Q E s := by
  refine call_function_entry (by decide +kernel) (by decide +kernel) kdk_entry_iter (kdk_args_iter _) ?_
  unfold Builtin.«iter»
  refine wpAny_bind (m := someArgs "iter" 1 2 _) (wpAny_of_eq (a := [Value.ref la]) (by first | rfl | kernel_rfl!) ?_)
  show wpAny _ _ (pyIter (.ref la) >>= _) _ _ _
  refine wpAny_bind (wpAny_pyIter_list hl ?_)
  exact wpAny_pure ⟨_, rfl, h _ _ (I.push (tk := s.toks) _)⟩
/-- an iterator in the ledger as a source -/
theorem src_iter {it la : Addr} {items : Array Value} {Q : Value → Shared → Prop} (hh : A.handled = none) (I : At g L m ((it, { cls := .type "list_iterator", data := .fields #[.ref la, .int 0 0] }) :: news) s₀ s) (hl : g.IsList la items)
    (h : At g L m news s₀ s → (∀ x px, Src prog w A (.Name x px) items.size (fun i v _ => items[i]? = some v) g L news (.ref it) s) → Q (.ref it) s) : wpAny (model prog w) A (pyIter (.ref it)) Q E s := by
  have st : s.heap.IsListIter it la (0 : Nat) ∧ s.heap.IsList la items := ⟨⟨_, I.get (.head _), rfl, rfl⟩, isl_keeps hl I.keep⟩
  refine wpAny_pyIter_listiter st.1 ?_
  obtain ⟨hit, hitL, hitg⟩ := I.N _ (.head _)
  have nd := I.nd
  rw [List.map_cons, List.nodup_cons] at nd
  obtain ⟨ol, hol, _⟩ := id hl
  have hne : la ≠ it := fun e => by rw [e] at hol; rw [hitg] at hol; cases hol
  refine h I.tail fun x px => ⟨it, [it, la], [it], _, rfl, Wk.name (Walks.list hh it la hne items) (fun i h st => live_list st), ?_, ?_, ?_, st⟩
  · intro hm
    simp only [List.mem_cons, List.not_mem_nil, or_false] at hm
    rcases hm with h | h
    · exact hitL h.symm
    · rw [← h, I.gL] at hol; cases hol
  · intro b hb; rw [List.mem_singleton] at hb; subst hb; exact hitg
  · intro p hp hm
    simp only [List.mem_cons, List.not_mem_nil, or_false] at hm
    rcases hm with h | h
    · exact nd.1 (List.mem_map.mpr ⟨p, hp, h⟩)
    · have := (I.N p (.tail _ hp)).2.2; rw [h, hol] at this; cases this
/-- what a call has made goes into the ledger -/
theorem At.add {s' : Shared} {a : Addr} {o : Obj} (I : At g L m news s₀ s) (K : Keeps s s') (hnew : s.heap.get? a = none) (ha : s'.heap.get? a = some o) : At g L m ((a, o) :: news) s₀ s' := by
  have J := I.grow K
  refine ⟨J.ns, J.keep, J.gL, fun p hp => ?_, ?_, J.e⟩
  · rcases List.mem_cons.mp hp with rfl | hp
    · refine ⟨ha, fun e => ?_, none_of I.keep hnew⟩
      obtain ⟨oL, _, _, hoL, _⟩ := I.ns
      rw [show a = L from e, hoL] at hnew; cases hnew
    · exact J.N p hp
  · rw [List.map_cons, List.nodup_cons]
    refine ⟨fun h => ?_, I.nd⟩
    obtain ⟨p, hp, e⟩ := List.mem_map.mp h
    have := (I.N p hp).1
    rw [e, hnew] at this; cases this
/-- a call of a function that lies in a local name -/
theorem e_local {f : Str} {p pos : Pos} {e : Expr} {rest : List Expr} {fa : Addr} {o : Obj} {fd : FuncData} {Q : Value → Shared → Prop} (I : At g L m news s₀ s) (hf : m f = some (.ref fa)) (ho : g.get? fa = some o) (hd : o.data = .func fd)
    (h : wpAny (model prog w) A (spliced (backTo pos (starEach (e :: rest) env))) (fun vs s₁ => Ab g s₁ (wpAny (model prog w) A (call (.ref fa) vs) Q E s₁)) E s)
    (hse : starEach (e :: rest) env = (false, eval e env) :: starEach rest env := by with_unfolding_all rfl)
    (hk : env.scope.kind = .function := by with_unfolding_all rfl) (hl : env.kindOf f = some .local := by with_unfolding_all rfl) (hL : env.locals = L := by with_unfolding_all rfl)
    (hdb : (f == ("__debug__" : Str)) = false := by decide +kernel) :
    wpAny (model prog w) A (eval (.Call (.Name f p) (e :: rest) [] pos) env) Q E s := by
  refine Call_ (r_loc I ?_ hl hL hf hk hdb)
  refine callWith_def (o := o) hd (wpAny_mono h (fun vs s₁ h₁ => ?_) fun _ _ e => e) hse
  obtain ⟨⟨_, _, _, _, I'⟩, h₁⟩ := h₁
  exact ⟨I'.keep _ _ ho, h₁⟩
end

theorem fa_reduce {mg mb : Str → Option Value} {h : Heap} (G : GF mg mb h) : FnAt h 30 3 29 (.ref 23) := (G.fn ("reduce", 30, 3, 29, .ref 23) (by decide +kernel)).2
section
variable {prog : Program} {w : World} {A : Around} {E : Value → Shared → Prop} {s : Shared} {mg mb : Str → Option Value}
theorem c_reduce {fa la va : Addr} {items : Array Value} {o : Obj} {fd : FuncData} {v0 : List Value} {n0 : Nat} (fs : Nat → List Str) (R : Room A 30) (G : GF mg mb s.heap) (hl : s.heap.IsList la items) (hz : items.size ≤ 1000)
    (ho : s.heap.get? fa = some o) (hd : o.data = .func fd) (hov : s.heap.get? va = some (LL v0 n0)) (h0 : StrsAre v0 (fs 0))
    (step : ∀ (A' : Around) i a vs n x s', Room A' 29 → i < items.size → s'.heap.get? a = some (LL vs n) → StrsAre vs (fs i) → (∀ b o, s.heap.get? b = some o → s'.heap.get? b = some o) → items[i]? = some x →
      wpAny (model prog w) A' (call (.ref fa) [.ref a, x]) (fun v' s'' => Keeps s' s'' ∧ ∃ a' vs' n', v' = .ref a' ∧ s''.heap.get? a' = some (LL vs' n') ∧ StrsAre vs' (fs (i + 1)) ∧ (a' = a ∨ s'.heap.get? a' = none)) (fun _ _ => False) s') :
    wpAny (model prog w) A (call (.ref 30) [.ref fa, .ref la, .ref va]) (fun v s' => Keeps s s' ∧ ∃ a vs n, v = .ref a ∧ s'.heap.get? a = some (LL vs n) ∧ StrsAre vs (fs items.size)) E s := by
  obtain ⟨s₀, hs₀⟩ : ∃ s₀, s₀ = s := ⟨_, rfl⟩
  rw [← hs₀] at G hl ho hov step ⊢
  obtain ⟨od, hod, _, nd, hdd⟩ := G.dflt
  obtain ⟨om, hom, homc⟩ := G.missO
  have hov22 : va ≠ 22 := by
    intro e; rw [e, hom] at hov
    have := Option.some.inj hov
    rw [this] at homc; exact absurd homc (by unfold LL; simp)
  refine enter (args := [.ref fa, .ref la, .ref va]) (binds := [("function", .ref fa), ("sequence", .ref la), ("initial", .ref va)]) (P := fun v s' => ∃ a vs n, v = .ref a ∧ s'.heap.get? a = some (LL vs n) ∧ StrsAre vs (fs items.size)) (n := 29) R (fa_reduce G) G.nolimit rfl (fun pm => .of_defaults rfl hod hdd rfl rfl) (by decide +kernel) (names := ["function", "sequence", "initial"]) (by decide +kernel) ?_
  intro pm A s R hA I KP EV
  refine x_set ?_
  refine e_blt I G Boot.«iter» ?_
  repeat walk_at "go5"
  rename At _ _ _ _ _ _ => I
  refine q_iter I (isl_keeps hl I.keep) fun it s I => ?_
  repeat walk_at "go5"
  rename At _ _ _ _ _ _ => I
  refine r_glob I G G.miss ?_
  refine kto_is (I.keep _ _ hov) (I.keep _ _ hom) hov22 (by unfold LL; simp) ?_
  repeat walk_at "go5"
  rename At _ _ _ _ _ _ => I
  generalize hM : upd _ _ _ = M0 at I
  have hit : M0 "it" = some (.ref it) := by rw [← hM]; walk_at "lk"
  have hfn : M0 "function" = some (.ref fa) := by rw [← hM]; walk_at "lk"
  have hvl : M0 "value" = some (.ref va) := by rw [← hM]; walk_at "lk"
  clear hM
  refine x_for (fun i m nw => m "function" = some (.ref fa) ∧ ∃ a vs n, m "value" = some (.ref a) ∧ StrsAre vs (fs i) ∧ ((nw = [] ∧ s₀.heap.get? a = some (LL vs n)) ∨ nw = [(a, LL vs n)])) ?_
  intro INV
  repeat walk_at "go5"
  refine src_iter R.h I hl fun I S => ?_
  refine (S _ _).loop I ⟨hfn, va, v0, n0, hvl, h0, .inl ⟨rfl, hov⟩⟩ ?_ ?_
  · rintro i v own m₁ nw s hi hv ⟨hfn, a, vs, n, hvl, hvs, hwh⟩ I
    intro KK
    refine a_name I fun s I => ?_
    refine x_set ?_
    refine e_local I (by walk_at "lk") ho hd ?_
    repeat walk_at "go5"
    rename At _ _ _ _ _ _ => I
    rename Shared => s5
    have ha : s5.heap.get? a = some (LL vs n) := by
      rcases hwh with ⟨rfl, h⟩ | rfl
      · exact I.keep _ _ h
      · exact I.get (List.mem_append_right _ (.head _))
    refine wpAny_mono (step A i a vs n v s5 (R.less) hi ha hvs I.keep hv) (fun v' s'' hq => ?_) fun _ _ x => x
    obtain ⟨K, a', vs', n', rfl, ha', hvs', hor⟩ := hq
    rcases hor with rfl | hnew
    · have I := I.grow K
      have e : LL vs n = LL vs' n' := by
        obtain ⟨h', tk, rfl, hk⟩ := K
        have := hk _ _ ha; rw [ha'] at this; exact (Option.some.inj this).symm
      refine SetK.intro I ?_
      intro s I
      repeat walk_at "go5"
      refine ⟨_, nw, I, by walk_at "lk", _, vs', n', by walk_at "lk", hvs', ?_⟩
      rw [← e]; exact hwh
    · have I := (I.add K hnew ha').last
      refine SetK.intro I ?_
      intro s I
      repeat walk_at "go5"
      exact ⟨_, [(a', LL vs' n')], I, by walk_at "lk", a', vs', n', by walk_at "lk", hvs', .inr rfl⟩
  · rintro m nw s I ⟨hfn, a, vs, n, hvl, hvs, hwh⟩
    repeat walk_at "go5"
    refine ⟨I.keeps fun _ _ e => e, a, vs, n, rfl, ?_, hvs⟩
    rcases hwh with ⟨rfl, h⟩ | rfl
    · exact I.keep _ _ h
    · exact I.get (.head _)
end
/-! ## MMap -/
theorem mp_owner : Manifest.owners.lookup (String.ofList ['p', 'a', 'm'].reverse) = some Manifest.sig_map := by kernel_rfl
theorem mp_slot_next : Slot "map" "__next__" "map.__next__" :=
  .of (owner := "map") (n := "__next__") (by rw [typeLookup_type, builtinLookup_eq_fast]; kernel_rfl) (by decide +kernel) (by decide +kernel) (by decide +kernel)
    (by first | exact .inl (by decide +kernel) | exact .inr (by decide +kernel)) (by rw [isSubtype_type]; kernel_rfl)
theorem mp_slot_iter : Slot "map" "__iter__" "map.__iter__" :=
  .of (owner := "map") (n := "__iter__") (by rw [typeLookup_type, builtinLookup_eq_fast]; kernel_rfl) (by decide +kernel) (by decide +kernel) (by decide +kernel)
    (by first | exact .inl (by decide +kernel) | exact .inr (by decide +kernel)) (by rw [isSubtype_type]; kernel_rfl)
theorem mp_slot_init : Slot "map" "__init__" "object.__init__" :=
  .of (owner := "object") (n := "__init__") (by rw [typeLookup_type, builtinLookup_eq_fast]; kernel_rfl) (by decide +kernel) (by decide +kernel) (by decide +kernel)
    (by first | exact .inl (by decide +kernel) | exact .inr (by decide +kernel)) (by rw [isSubtype_type]; kernel_rfl)
theorem mp_entry_next : entryFor table "map.__next__" = some Builtin.«map.__next__» := entryFor_of_tree (by kernel_rfl)
theorem mp_args_next (a : Value) : argsOk "map.__next__" ⟨[a], []⟩ := by
  unfold argsOk; rw [signature?_of (id := "map.__next__") (n := ['_', '_', 't', 'x', 'e', 'n', '_', '_']) (o := ['p', 'a', 'm']) (by kernel_rfl) mp_owner]; kernel_rfl
theorem mp_args_iter (a : Value) : argsOk "map.__iter__" ⟨[a], []⟩ := by
  unfold argsOk; rw [signature?_of (id := "map.__iter__") (n := ['_', '_', 'r', 'e', 't', 'i', '_', '_']) (o := ['p', 'a', 'm']) (by kernel_rfl) mp_owner]; kernel_rfl
theorem mp_entry_iter : entryFor table "map.__iter__" = some Builtin.«dict_keyiterator.__iter__» :=
  entryFor_alias (id' := "dict_keyiterator.__iter__") (by kernel_rfl) (by first | rfl | decide +kernel | (unfold String.splitOn; simp +decide [String.splitOnAux])) (by decide +kernel) (by kernel_rfl)
theorem mp_mro : mroOf (.type "map") = pure [.type "map", .type "object"] := by rw [mroOf_type]; kernel_rfl
theorem mp_lookup_new : typeLookup (.type "map") "__new__" = pure (some (.builtin "map.__new__")) := by rw [typeLookup_type, builtinLookup_eq_fast]; kernel_rfl
theorem mp_called : TypeCalled "map" "map.__new__" "object.__init__" :=
  ⟨by decide +kernel, by decide +kernel, ⟨_, _, mp_mro⟩, madeBy_type mp_mro mp_lookup_new (by decide +kernel), by decide +kernel, by rw [isSubtype_type]; kernel_rfl, mp_slot_init⟩
theorem mp_typeCall (a b : Value) : checkTypeCall "map" ⟨[a, b], []⟩ = pure () := by kernel_rfl
theorem mp_newCall (a b : Value) : checkBuiltinCall "map.__new__" ⟨[.type "map", a, b], []⟩ = pure () := by kernel_rfl
theorem mp_entry_new : entryFor table "map.__new__" = some Builtin.«map.__new__» := entryFor_of_tree (by kernel_rfl)
theorem mp_nolen : typeLookup (.type "map") "__len__" = pure none := by rw [typeLookup_type, builtinLookup_eq_fast]; kernel_rfl
theorem mp_nohint : typeLookup (.type "map") "__length_hint__" = pure none := by rw [typeLookup_type, builtinLookup_eq_fast]; kernel_rfl
/-! ## MMap2 -/
open AutoSeq1 (wpAny_loadPart')

theorem mp_sub : isSubtype (.type "map") (.type "map") = pure true := by rw [isSubtype_type]; kernel_rfl
noncomputable def mapObj (f : Value) (T : Addr) : Obj := { cls := .type "map", data := .fields #[.ref T, f] }
noncomputable def mapHeap (h : Heap) (f : Value) (l : Addr) : Heap := ((h.push { cls := .type "list_iterator", data := .fields #[.ref l, .int 0 0] }).push { cls := .type "tuple", data := .seq #[.ref h.objs.size] }).push (mapObj f (h.objs.size + 1))
theorem meets_map_new (f : Value) (l : Addr) (items : Array Value) :
    Meets (Builtin.«map.__new__» ⟨[.type "map", f, .ref l], []⟩) (fun _ R s => s.heap.IsList l items ∧ R (.ok (.ret (.ref (s.heap.objs.size + 2)))) { s with heap := mapHeap s.heap f l }) :=
  .of_wp fun prog w A R s h => by
    obtain ⟨hp, g, d, tk, os⟩ := s; obtain ⟨hL, h⟩ := h
    have hsub := mp_sub
    have e1 : (hp.push { cls := .type "list_iterator", data := .fields #[.ref l, .int 0 0] }).objs.size = hp.objs.size + 1 := Heap.size_push ..
    have e2 : ((hp.push { cls := .type "list_iterator", data := .fields #[.ref l, .int 0 0] }).push { cls := .type "tuple", data := .seq #[.ref hp.objs.size] }).objs.size = hp.objs.size + 2 := by rw [Heap.size_push, e1]
    wp_walk using wpAny_pyIter_list hL
    refine ⟨_, rfl, ?_⟩
    dsimp only at h ⊢
    simp only [Heap.size_push]
    exact h
theorem call_map {prog : Program} {w : World} {A : Around} {E : Value → Shared → Prop} {s : Shared} {f : Value} {l : Addr} {items : Array Value} {Q : Value → Shared → Prop} (hL : s.heap.IsList l items)
    (h : Q (.ref (s.heap.objs.size + 2)) { s with heap := mapHeap s.heap f l }) : wpAny (model prog w) A (call (.type "map") [f, .ref l]) Q E s := by
  have e1 : (s.heap.push { cls := .type "list_iterator", data := .fields #[.ref l, .int 0 0] }).objs.size = s.heap.objs.size + 1 := Heap.size_push ..
  have e2 : ((s.heap.push { cls := .type "list_iterator", data := .fields #[.ref l, .int 0 0] }).push { cls := .type "tuple", data := .seq #[.ref s.heap.objs.size] }).objs.size = s.heap.objs.size + 2 := by rw [Heap.size_push, e1]
  refine callType_new mp_called (by decide) (mp_typeCall _ _) (mp_newCall _ _) (fun obj => F.args_object_init_3 obj _ _) mp_entry_new (meets_map_new f l items) ⟨hL, ⟨mapObj f (s.heap.objs.size + 1), ?_, rfl⟩, h⟩
  · show Heap.get? (mapHeap s.heap f l) _ = _
    unfold mapHeap
    rw [← e2]
    exact Heap.get?_push_size _ rfl
/-- a map over a list, at its `i`-th item -/
structure IsMap (h : Heap) (p it T l : Addr) (f : Value) (i : Nat) (items : Array Value) : Prop where
  map : h.get? p = some (mapObj f T)
  tup : h.get? T = some { cls := .type "tuple", data := .seq #[.ref it] }
  iter : h.IsListIter it l i
  list : h.IsList l items
theorem isMap_new {h : Heap} {f : Value} {l : Addr} {items : Array Value} (hL : h.IsList l items) : IsMap (mapHeap h f l) (h.objs.size + 2) h.objs.size (h.objs.size + 1) l f 0 items := by
  have e1 : (h.push { cls := .type "list_iterator", data := .fields #[.ref l, .int 0 0] }).objs.size = h.objs.size + 1 := Heap.size_push ..
  have e2 : ((h.push { cls := .type "list_iterator", data := .fields #[.ref l, .int 0 0] }).push { cls := .type "tuple", data := .seq #[.ref h.objs.size] }).objs.size = h.objs.size + 2 := by rw [Heap.size_push, e1]
  unfold mapHeap
  obtain ⟨o, ho, hr⟩ := hL
  refine ⟨?_, ?_, ⟨_, Heap.get?_push_of_some _ (Heap.get?_push_of_some _ (Heap.get?_push_size _ rfl)), rfl, rfl⟩, ⟨o, Heap.get?_push_of_some _ (Heap.get?_push_of_some _ (Heap.get?_push_of_some _ ho)), hr⟩⟩
  · rw [← e2]; exact Heap.get?_push_size _ rfl
  · refine Heap.get?_push_of_some _ ?_
    rw [← e1]; exact Heap.get?_push_size _ rfl
section
variable {prog : Program} {w : World} {A : Around} {E : Value → Shared → Prop} {s : Shared} {p it T l : Addr} {f : Value} {i : Nat} {items : Array Value}
theorem map_next {x : Value} {Q : Value → Shared → Prop} (M : IsMap s.heap p it T l f i items) (hx : items[i]? = some x) (hpi : p ≠ it) (hTi : T ≠ it)
    (h : ∀ h₁, Heap.SameBut it s.heap h₁ → IsMap h₁ p it T l f (i + 1) items → wpAny (model prog w) A (call f [x]) Q E { s with heap := h₁ }) :
    wpAny (model prog w) A (Builtin.«map.__next__» ⟨[.ref p], []⟩) (fun fin s' => ∃ v, fin = .done (.ret v) ∧ Q v s') E s := by
  obtain ⟨m1, m2, m3, m4⟩ := M
  have m1' := m1
  unfold mapObj at m1'
  show wpAny _ _ (field (.ref p) 0 >>= _) _ _ _
  refine wpAny_bind (wpAny_field m1' rfl (x := .ref T) rfl ?_)
  refine wpAny_bind (wpAny_seqItems m2 rfl ?_)
  dsimp only
  rw [← Array.forIn_toList]
  show wpAny _ _ (forIn [Value.ref it] _ _ >>= _) _ _ s
  rw [List.forIn_cons]
  refine wpAny_bind (wpAny_bind (wpAny_bind (wpAny_holding (wpAny_nextOf_list_item m3 m4 hx fun h₁ hit₁ hs₁ => ?_))))
  have M₁ : IsMap h₁ p it T l f (i + 1) items := ⟨(hs₁.2 p hpi).trans m1, (hs₁.2 T hTi).trans m2, hit₁, m4.extBut hs₁.extBut (by
    intro e; obtain ⟨o, ho, hc, _⟩ := m4; obtain ⟨o2, ho2, hc2, _⟩ := m3
    rw [e, ho2] at ho; cases ho; rw [hc2] at hc; exact absurd hc (by decide))⟩
  refine wpAny_pure ?_
  dsimp only
  rw [List.forIn_nil]
  refine wpAny_pure ?_
  have m1'' : h₁.get? p = some { cls := .type "map", data := .fields #[.ref T, f] } := M₁.map
  show wpAny _ _ (field (.ref p) 1 >>= _) _ _ _
  refine wpAny_bind (wpAny_field m1'' rfl (x := f) rfl ?_)
  refine wpAny_bind (wpAny_holding (wpAny_mono (h h₁ hs₁ M₁) (fun v s' hq => ?_) fun _ _ x => x))
  refine wpAny_bind (wpAny_letGo ?_)
  exact wpAny_pure ⟨v, rfl, hq⟩
theorem map_end {Q : Value → Shared → Prop} (hh : A.handled = none) (M : IsMap s.heap p it T l f i items) (hx : items[i]? = none)
    (h : ∀ h' e, Heap.ExtBut it s.heap h' → (∃ o, h'.get? e = some o ∧ o.cls = .type "StopIteration") → E (.ref e) { s with heap := h' }) :
    wpAny (model prog w) A (Builtin.«map.__next__» ⟨[.ref p], []⟩) (fun fin s' => ∃ v, fin = .done (.ret v) ∧ Q v s') E s := by
  obtain ⟨m1, m2, m3, m4⟩ := M
  have m1' := m1
  unfold mapObj at m1'
  show wpAny _ _ (field (.ref p) 0 >>= _) _ _ _
  refine wpAny_bind (wpAny_field m1' rfl (x := .ref T) rfl ?_)
  refine wpAny_bind (wpAny_seqItems m2 rfl ?_)
  dsimp only
  rw [← Array.forIn_toList]
  show wpAny _ _ (forIn [Value.ref it] _ _ >>= _) _ _ s
  rw [List.forIn_cons]
  exact wpAny_bind (wpAny_bind (wpAny_bind (wpAny_holding (wpAny_nextOf_list_end hh m3 m4 hx h))))
theorem pyNext_map {x : Value} {Q : Option Value → Shared → Prop} (M : IsMap s.heap p it T l f i items) (hx : items[i]? = some x) (hpi : p ≠ it) (hTi : T ≠ it)
    (h : ∀ h₁, Heap.SameBut it s.heap h₁ → IsMap h₁ p it T l f (i + 1) items → wpAny (model prog w) A.in1 (call f [x]) (fun v s' => Q (some v) s') (fun _ _ => False) { s with heap := h₁ }) : wpAny (model prog w) A (pyNext (.ref p)) Q E s := by
  have hT : s.TypeIs (.ref p) "map" := ⟨_, M.map, rfl⟩
  unfold pyNext
  refine wpAny_bind (wpAny_attempt (wpAny_callSpecial?_slot (name := Str.ofString "__next__") hT mp_slot_next
    (wpAny_call_entry mp_slot_next hT mp_entry_next (map_next M hx hpi hTi fun h₁ hs M₁ => ?_) (mp_args_next _))))
  exact wpAny_mono (h h₁ hs M₁) (fun v s' hq => wpAny_pure hq) fun _ _ x => x.elim
theorem pyIter_map {Q : Value → Shared → Prop} (M : IsMap s.heap p it T l f i items) (h : Q (.ref p) s) : wpAny (model prog w) A (pyIter (.ref p)) Q E s := by
  have hT : s.TypeIs (.ref p) "map" := ⟨_, M.map, rfl⟩
  refine wpAny_pyIter_slot hT mp_slot_iter (wpAny_call_entry mp_slot_iter hT mp_entry_iter ?_ (mp_args_iter _))
  show wpAny _ _ (ret (.ref p)) _ _ s
  exact wpAny_pure ⟨_, rfl, "map", _, hT, mp_slot_next.lookup, h⟩
theorem pyNext_map_end {Q : Option Value → Shared → Prop} (hh : A.handled = none) (M : IsMap s.heap p it T l f i items) (hx : items[i]? = none)
    (hQ : ∀ h', Heap.ExtBut it s.heap h' → Q none { s with heap := h' }) : wpAny (model prog w) A (pyNext (.ref p)) Q E s := by
  have hT : s.TypeIs (.ref p) "map" := ⟨_, M.map, rfl⟩
  unfold pyNext
  refine wpAny_bind (wpAny_attempt (wpAny_callSpecial?_slot (name := Str.ofString "__next__") hT mp_slot_next
    (wpAny_call_entry mp_slot_next hT mp_entry_next (map_end hh M hx fun h' e he hx' => ?_) (mp_args_next _))))
  obtain ⟨o, ho, hc⟩ := hx'
  refine wpAny_bind (wpAny_isInstance (T := "StopIteration") (b := true) ⟨o, ho, hc⟩ isSubtype_stop ?_)
  exact wpAny_pure (hQ _ he)
end
theorem IsMap.keeps {h h' : Heap} {p it T l : Addr} {f : Value} {i : Nat} {items : Array Value} (M : IsMap h p it T l f i items) (k : ∀ b ∈ [p, it, T, l], ∀ o, h.get? b = some o → h'.get? b = some o) : IsMap h' p it T l f i items := by
  obtain ⟨m1, m2, ⟨o3, h3, r3⟩, ⟨o4, h4, r4⟩⟩ := M
  exact ⟨k _ (by simp) _ m1, k _ (by simp) _ m2, ⟨o3, k _ (by simp) _ h3, r3⟩, ⟨o4, k _ (by simp) _ h4, r4⟩⟩
section
variable {prog : Program} {w : World} {A : Around} {R : Result → Shared → Prop} {p it T l S : Addr} {items : Array Value} {mg mb : Str → Option Value} {g : Heap}
theorem extend_map (hA : Room A.in1.in1 5) (G : GF mg mb g) (hgi : g.get? it = none) (hgS : g.get? S = none) (hn : items.size ≤ 1000) (hstr : ∀ (j : Nat) (v : Value), items[j]? = some v → ∃ x t, v = .str x t) (hpi : p ≠ it) (hTi : T ≠ it) (hS : S ∉ [p, it, T, l]) (res : Value) :
    ∀ (k i : Nat) (s : Shared) (acc : Array Value) (c : Nat), items.size - i = k → i ≤ items.size → IsMap s.heap p it T l (.ref 108) i items → (∀ b o, g.get? b = some o → s.heap.get? b = some o) → s.heap.get? S = some { cls := .type "list", data := .seq acc c } → acc.toList = items.toList.take i →
    (∀ h' tk c', (∀ b o, b ≠ S → b ≠ it → s.heap.get? b = some o → h'.get? b = some o) → h'.get? S = some { cls := .type "list", data := .seq items c' } → R (.ok (.ret res)) { s with heap := h', toks := tk }) →
    codeAny (model prog w) A (.builtin "list.extend.loop" ⟨[.ref S, .ref p, res], []⟩) R s := by
  simp only [List.mem_cons, List.not_mem_nil, or_false, not_or] at hS
  obtain ⟨hSp, hSi, hST, hSl⟩ := hS
  intro k
  induction k with
  | zero =>
    intro i s acc c hk hi M hg hSs hacc hR
    have hin : i = items.size := by omega
    subst hin
    refine codeAny_builtin F.entry_extend_loop ?_
    rw [Around.under_plainId F.plain_extend_loop _]
    show wpAny _ A.in1 (pyNext (.ref p) >>= _) _ _ s
    refine wpAny_bind (pyNext_map_end hA.h M (Array.getElem?_eq_none (Nat.le_refl _)) fun h' he => ?_)
    have : acc = items := by apply Array.toList_inj.mp; rw [hacc]; exact List.take_of_length_le (by rw [Array.length_toList]; exact Nat.le_refl _)
    subst this
    exact wpAny_pure (hR h' s.toks c (fun b o _ hb e => he b o hb e) (he S _ hSi hSs))
  | succ k ih =>
    intro i s acc c hk hi M hg hSs hacc hR
    have hlt : i < items.size := by omega
    have hx : items[i]? = some items[i] := by simp [hlt]
    obtain ⟨x, t, hxt⟩ := hstr i _ hx
    refine codeAny_builtin F.entry_extend_loop ?_
    rw [Around.under_plainId F.plain_extend_loop _]
    show wpAny _ A.in1 (pyNext (.ref p) >>= _) _ _ s
    refine wpAny_bind (pyNext_map M hx hpi hTi fun h₁ hs₁ M₁ => ?_)
    have hg₁ : ∀ b o, g.get? b = some o → h₁.get? b = some o := fun b o e => (hs₁.2 b fun h => by rw [h, hgi] at e; cases e).trans (hg b o e)
    rw [hxt]
    refine wpAny_mono (c_fspath (s := { s with heap := h₁ }) hA (G.keeps hg₁)) (fun v s' hq => ?_) fun _ _ x => x
    obtain ⟨⟨h₂, tk₂, rfl, hk₂⟩, rfl⟩ := hq
    have hk₂ : ∀ b o, h₁.get? b = some o → h₂.get? b = some o := hk₂
    have hS₂ : h₂.get? S = some { cls := .type "list", data := .seq acc c } := hk₂ _ _ ((hs₁.2 S hSi).trans hSs)
    have hsz : acc.size = i := by rw [← Array.length_toList, hacc, List.length_take, Array.length_toList]; omega
    show wpAny _ A.in1 (updateSeq S (·.push (.str x t)) >>= _) _ _ _
    refine wpAny_bind ?_
    have M₂ : IsMap h₂ p it T l (.ref 108) (i + 1) items := M₁.keeps fun b _ o e => hk₂ b o e
    refine wpAny_updateSeq hS₂ rfl (wpAny_pure ⟨plainId_quiet F.plain_extend_loop _, ih (i + 1) _ (acc.push (.str x t)) _ (by omega) hlt (M₂.keeps fun b hb o e => ?_) (fun b o e => ?_) (Heap.get?_update_self _ hS₂ rfl) ?_ fun h' tk c' hk' hS' => ?_⟩) (by rw [hsz, sizeLine_eq]; omega) (by show (acc.push _).size ≤ sizeLine + 1; rw [Array.size_push, hsz, sizeLine_eq]; omega)
    · refine (Heap.get?_update_other _ _ (fun h : S = b => ?_)).trans e
      subst h
      simp only [List.mem_cons, List.not_mem_nil, or_false] at hb
      rcases hb with h | h | h | h
      · exact hSp h
      · exact hSi h
      · exact hST h
      · exact hSl h
    · exact (Heap.get?_update_other _ _ (fun h : S = b => by subst h; rw [hgS] at e; cases e)).trans (hk₂ _ _ (hg₁ _ _ e))
    · rw [Array.toList_push, hacc, List.take_add_one]
      have : items.toList[i]? = some (.str x t) := by rw [Array.getElem?_toList, hx, hxt]
      rw [this]; rfl
    · exact hR h' tk c' (fun b o hbS hbi e => hk' b o hbS hbi ((Heap.get?_update_other _ _ (Ne.symm hbS)).trans (hk₂ _ _ ((hs₁.2 b hbi).trans e)))) hS'
end
/-! ## MMap3 -/
open AutoSeq1 (wpAny_loadPart')
section
variable {prog : Program} {w : World} {A : Around} {E : Value → Shared → Prop} {s : Shared} {p it T l : Addr} {items : Array Value} {mg mb : Str → Option Value} {g : Heap}
theorem collect_map {Q : List Value → Shared → Prop} (hA : Room A.in1.in1 5) (G : GF mg mb g) (hg : ∀ b o, g.get? b = some o → s.heap.get? b = some o) (hgi : g.get? it = none) (hn : items.size ≤ 1000) (hstr : ∀ (j : Nat) (v : Value), items[j]? = some v → ∃ x t, v = .str x t) (hpi : p ≠ it) (hTi : T ≠ it)
    (M : IsMap s.heap p it T l (.ref 108) 0 items)
    (hQ : ∀ (h' : Heap) (tk : Nat), (∀ b o, b ≠ it → s.heap.get? b = some o → h'.get? b = some o) → Q items.toList { s with heap := h', toks := tk }) : wpAny (model prog w) A (collect (.ref p)) Q E s := by
  have hlt : ∀ b ∈ [p, it, T, l], b < s.heap.objs.size := fun b hb => by
    obtain ⟨m1, m2, ⟨o3, h3, _⟩, ⟨o4, h4, _⟩⟩ := M
    simp only [List.mem_cons, List.not_mem_nil, or_false] at hb
    rcases hb with rfl | rfl | rfl | rfl
    · exact Heap.lt_size m1
    · exact Heap.lt_size h3
    · exact Heap.lt_size m2
    · exact Heap.lt_size h4
  have hSf : s.heap.objs.size ∉ [p, it, T, l] := fun hm => Nat.lt_irrefl _ (hlt _ hm)
  have hSI : s.heap.objs.size ≠ p := fun e => hSf (e ▸ .head _)
  have hgS : g.get? s.heap.objs.size = none := by
    cases q : g.get? s.heap.objs.size with
    | none => rfl
    | some o => exact absurd (Heap.lt_size (hg _ _ q)) (Nat.lt_irrefl _)
  unfold collect
  refine wpAny_bind (wpAny_runValue (codeAny_builtin F.entry_proto_collect ?_))
  rw [Around.under_plainId F.plain_proto_collect _]
  show wpAny _ A.in1 (newList [] >>= fun l => again (.builtin "list.__iadd__" ⟨[l, .ref p], []⟩)) _ _ s
  refine wpAny_bind (wpAny_newObj_type ?_)
  refine wpAny_pure ⟨plainId_quiet F.plain_list_iadd _, codeAny_builtin F.entry_list_iadd ?_⟩
  rw [Around.under_plainId F.plain_list_iadd _]
  have M₁ : IsMap (s.heap.push { cls := .type "list", data := .seq ([] : List Value).toArray }) p it T l (.ref 108) 0 items := M.keeps fun b _ o e => Heap.get?_push_of_some _ e
  have hT₁ : ({ s with heap := s.heap.push { cls := .type "list", data := .seq ([] : List Value).toArray } } : Shared).TypeIs (.ref p) "map" := ⟨_, M₁.map, rfl⟩
  show wpAny _ A.in1 (Builtin.List.listExtendWith (.ref s.heap.objs.size) (.ref p) (.ref s.heap.objs.size)) _ _ _
  unfold Builtin.List.listExtendWith
  refine wpAny_bind (wpAny_typeOf hT₁ ?_)
  have h1 : Builtin.List.listSameRef (.ref s.heap.objs.size) (.ref p) = false := by simp [Builtin.List.listSameRef, hSI]
  have h2 : (Value.type "map" == Value.type "list") = false := by decide
  have h3 : (Value.type "map" == Value.type "tuple") = false := by decide
  simp only [h1, h2, h3, Bool.or_false, Bool.false_eq_true, if_false]
  refine wpAny_bind (pyIter_map M₁ ?_)
  refine wpAny_bind (wpAny_holding ?_)
  unfold Builtin.List.listLengthHint
  refine wpAny_bind (wpAny_specialOf hT₁ mp_nolen ?_)
  show wpAny _ A.in1 (specialOf (Value.ref p) (Str.ofString "__length_hint__") >>= _) _ _ _
  refine wpAny_bind (wpAny_specialOf hT₁ mp_nohint ?_)
  refine wpAny_pure ?_
  show wpAny _ A.in1 (rule "list.extend.makes-room" >>= fun _ => Builtin.List.listTouch (.ref s.heap.objs.size) >>= fun _ =>
    again (.builtin "list.extend.loop" ⟨[.ref s.heap.objs.size, .ref p, .ref s.heap.objs.size], []⟩)) _ _ _
  refine wpAny_bind (wpAny_rule ?_)
  have hS₁ : (s.heap.push { cls := .type "list", data := .seq ([] : List Value).toArray }).get? s.heap.objs.size = some { cls := .type "list", data := .seq ([] : List Value).toArray } := Heap.get?_push_size _ rfl
  refine wpAny_bind ?_
  show wpAny _ A.in1 (updateSeq s.heap.objs.size (·.push .none) >>= fun _ => updateSeq s.heap.objs.size (·.pop)) _ _ _
  refine wpAny_bind (wpAny_updateSeq hS₁ rfl ?_)
  have hS₂ := Heap.get?_update_self (Obj.mapSeq (·.push Value.none)) hS₁ rfl
  refine wpAny_updateSeq hS₂ rfl ?_
  have hS₃ := Heap.get?_update_self (Obj.mapSeq (·.pop)) hS₂ rfl
  have oth : ∀ b o, b ≠ s.heap.objs.size → (s.heap.push { cls := .type "list", data := .seq ([] : List Value).toArray }).get? b = some o →
      (((s.heap.push { cls := .type "list", data := .seq ([] : List Value).toArray }).update s.heap.objs.size (Obj.mapSeq (·.push Value.none))).update s.heap.objs.size (Obj.mapSeq (·.pop))).get? b = some o :=
    fun b o hb e => (Heap.get?_update_other _ _ (Ne.symm hb)).trans ((Heap.get?_update_other _ _ (Ne.symm hb)).trans e)
  refine wpAny_pure ⟨plainId_quiet F.plain_extend_loop _, extend_map hA G hgi hgS hn hstr hpi hTi hSf _ items.size 0 _ #[] _ (by omega) (Nat.zero_le _)
    (M₁.keeps fun b hb o e => oth b o (fun h => hSf (h ▸ hb)) e) (fun b o e => oth b o (fun h => by rw [h, hgS] at e; cases e) (Heap.get?_push_of_some _ (hg _ _ e))) hS₃ (by simp) fun h' tk c' hk hS' => ?_⟩
  show wpAny _ A (load s.heap.objs.size >>= _) _ _ _
  refine wpAny_bind (wpAny_load hS' ?_)
  exact wpAny_pure (hQ h' tk fun b o hb e => hk b o (Nat.ne_of_lt (Heap.lt_size e)) hb (oth b o (Nat.ne_of_lt (Heap.lt_size e)) (Heap.get?_push_of_some _ e)))

theorem code_tuple_map {Q₁ : Value → Shared → Prop} (hA : Room A.in1.in1.in1 5) (G : GF mg mb g) (hg : ∀ b o, g.get? b = some o → s.heap.get? b = some o) (hgi : g.get? it = none) (hn : items.size ≤ 1000) (hstr : ∀ (j : Nat) (v : Value), items[j]? = some v → ∃ x t, v = .str x t) (hpi : p ≠ it) (hTi : T ≠ it)
    (M : IsMap s.heap p it T l (.ref 108) 0 items)
    (h : ∀ (h' : Heap) (tk : Nat), (∀ b o, b ≠ it → s.heap.get? b = some o → h'.get? b = some o) → Q₁ (.ref h'.objs.size) { s with heap := h'.push { cls := .type "tuple", data := .seq items }, toks := tk }) :
    codeAny (model prog w) A (.call (.builtin "tuple.__new__") ⟨[.type "tuple", .ref p], []⟩) (wants Q₁ E) s := by
  refine codeAny_of_tree ?_
  show wpAny _ A.in1 (do checkBuiltinCall "tuple.__new__" ⟨[.type "tuple", .ref p], []⟩; again (.builtin "tuple.__new__" ⟨[.type "tuple", .ref p], []⟩)) _ _ s
  refine wpAny_bind (wpAny_of_eq (F.newCall_tuple_1 _) (wpAny_pure ⟨plainId_quiet F.plain_tuple_new _, codeAny_builtin F.entry_tuple_new ?_⟩))
  rw [Around.under_plainId F.plain_tuple_new _]
  have hsub := sub_tuple_self
  have hinit := init_tuple_lookup
  have hmh := madeHere_tuple
  have hTI : s.TypeIs (.ref p) "map" := ⟨_, M.map, rfl⟩
  wp_walk using wpAny_typeOf hTI, collect_map hA G hg hgi hn hstr hpi hTi M
  intro h' tk hk
  show wpAny _ _ (Builtin.Tuple.tupleExact items.toList.toArray >>= fun v => ret v) _ _ _
  unfold Builtin.Tuple.tupleExact
  refine wpAny_bind (wpAny_newObj_type ?_ (by show items.toList.toArray.size ≤ sizeLine; simp only [Array.toArray_toList]; rw [sizeLine_eq]; omega))
  refine wpAny_pure ?_
  have e : items.toList.toArray = items := by simp
  rw [e]
  exact h h' tk hk
theorem call_tuple_map {Q : Value → Shared → Prop} (hA : Room A.in1.in1.in1.in1 5) (G : GF mg mb g) (hg : ∀ b o, g.get? b = some o → s.heap.get? b = some o) (hgi : g.get? it = none) (hn : items.size ≤ 1000) (hstr : ∀ (j : Nat) (v : Value), items[j]? = some v → ∃ x t, v = .str x t) (hpi : p ≠ it) (hTi : T ≠ it)
    (M : IsMap s.heap p it T l (.ref 108) 0 items)
    (h : ∀ (h' : Heap) (tk : Nat), (∀ b o, b ≠ it → s.heap.get? b = some o → h'.get? b = some o) → Q (.ref h'.objs.size) { s with heap := h'.push { cls := .type "tuple", data := .seq items }, toks := tk }) :
    wpAny (model prog w) A (call (.type "tuple") [.ref p]) Q E s := by
  refine callType_codes (Q₁ := fun obj s₁ => s₁.TypeIs obj "tuple" ∧ Q obj s₁) F.called_tuple (F.typeCall_tuple_1 _) F.entry_object_init
    (code_tuple_map hA G hg hgi hn hstr hpi hTi M fun h' tk hk => ⟨⟨_, Heap.get?_push_size _ rfl, rfl⟩, h h' tk hk⟩) fun obj s₁ h₁ => ?_
  exact ⟨h₁.1, F.args_object_init_2 obj _, object_init_meets F.called_tuple.init.lookup F.called_tuple.made (by decide) prog w A.in1 _ s₁ ⟨h₁.1, rfl, h₁.2⟩⟩
end
section
variable {prog : Program} {w : World} {A : Around} {E : Value → Shared → Prop} {s s₀ : Shared} {g : Heap} {L : Addr} {m : Str → Option Value} {news : List (Addr × Obj)} {mg mb : Str → Option Value}
/-- `tuple(map(fspath, l))` of a list of texts -/
theorem q_tuple_map {l : Addr} {items : Array Value} {Q : Value → Shared → Prop} (R : Room A 10) (I : At g L m news s₀ s) (G : GF mg mb g) (hl : s.heap.IsList l items) (hn : items.size ≤ 1000) (hstr : ∀ (j : Nat) (v : Value), items[j]? = some v → ∃ x t, v = .str x t)
    (h : ∀ D s', At g L m ((D, { cls := .type "tuple", data := .seq items }) :: news) s₀ s' → Q (.ref D) s') :
    wpAny (model prog w) A (call (.type "map") [.ref 108, .ref l]) (fun v s₁ => wpAny (model prog w) A (call (.type "tuple") [v]) Q E s₁) E s := by
  refine call_map hl ?_
  have hkm : ∀ b o, s.heap.get? b = some o → (mapHeap s.heap (.ref 108) l).get? b = some o := fun b o e => Heap.get?_push_of_some _ (Heap.get?_push_of_some _ (Heap.get?_push_of_some _ e))
  have J : At g L m news s₀ { s with heap := mapHeap s.heap (.ref 108) l } := I.grow ⟨_, s.toks, rfl, hkm⟩
  have hit : ∀ {h' : Heap}, (∀ b o, h'.get? b = some o → s.heap.get? b = some o) → h'.get? s.heap.objs.size = none := fun {h'} k => by
    cases q : h'.get? s.heap.objs.size with
    | none => rfl
    | some o => exact absurd (Heap.lt_size (k _ _ q)) (Nat.lt_irrefl _)
  refine call_tuple_map (g := g) (p := s.heap.objs.size + 2) (it := s.heap.objs.size) (T := s.heap.objs.size + 1) (l := l) (items := items) (R.less (j := 9) (by omega)).in1.in1.in1.in1 G J.keep (hit I.keep) hn hstr (Nat.ne_of_gt (Nat.lt_add_of_pos_right (by decide))) (Nat.ne_of_gt (Nat.lt_succ_self _)) (isMap_new hl) fun h' tk hk => ?_
  have hks : ∀ b o, s.heap.get? b = some o → h'.get? b = some o := fun b o e => hk b o (Nat.ne_of_lt (Heap.lt_size e)) (hkm b o e)
  have K : At g L m news s₀ { s with heap := h', toks := tk } := I.grow ⟨h', tk, rfl, hks⟩
  exact h _ _ (K.push (tk := tk) _)
end
/-! ## MSet -/
noncomputable def setT (led : Bool) : SetTable := { mask := 7, place := #[1], dummies := #[], finger := 0, led := led, moves := 0, plain := true }
noncomputable def set0 (led : Bool) : Obj := { cls := .type "set", dict := none, data := .set #[] 0 (.fresh 0 0 led) }
noncomputable def set1 (led : Bool) : Obj := { cls := .type "set", dict := none, data := .set #[(1, .bool true)] 1 (setT led) }
theorem fits0 (led : Bool) : (SetTable.fresh 0 0 led).fits (#[] : Array (Int × Value)).size = true := by cases led <;> decide +kernel
theorem fits1 (led : Bool) : (setT led).fits (#[((1 : Int), Value.bool true)] : Array (Int × Value)).size = true := by cases led <;> decide +kernel
theorem lay1 (led : Bool) : layNew (.fresh 0 0 led) #[] 1 (.bool true) = (#[(1, .bool true)], setT led, false, false) := by cases led <;> decide +kernel
theorem full1 (led : Bool) : (setT led).tooFull = false := by cases led <;> decide +kernel
section
variable {prog : Program} {w : World} {A : Around} {E : Value → Shared → Prop} {s : Shared} {a : Addr} {led : Bool}
theorem hash_true {Q : Int → Shared → Prop} (h : Q 1 { s with toks := s.toks + 1 }) : wpAny (model prog w) A (pyHash (.bool true)) Q E s := by
  have hT : s.TypeIs (.bool true) "bool" := rfl
  unfold pyHash
  have hv : [Value.bool true].any Value.onHeap = false := rfl
  refine wpAny_bind ?_
  rw [cRoomFor, if_neg (by rw [hv]; exact Bool.false_ne_true)]; refine wpAny_pure ?_
  refine wpAny_bind (wpAny_specialOf hT F.slot_bool_hash.lookup ?_)
  show wpAny _ _ (if (some (Value.builtin "int.__hash__") == some Value.none) = true then _ else _) Q E s
  rw [if_neg (by rw [beq_builtin_none]; exact Bool.false_ne_true)]
  refine wpAny_bind (wpAny_specialOf hT F.slot_bool_hash.lookup ?_)
  show wpAny _ _ (callSpecialIfBoundUnlessNone? (.bool true) "__hash__" _ >>= _) Q E s
  refine wpAny_bind (wpAny_callSpecialIfBoundUnlessNone?_slot hT F.slot_bool_hash
    (wpAny_call_entry F.slot_bool_hash hT entry_int_hash
      (show wpAny _ _ (do ret (← mkInt 1)) _ _ s from wpAny_ret_mkInt ?_) (args_int_hash _)))
  exact wpAny_pure h
/-- `set.add(True)` on an empty set -/
theorem add_first {Q : Value → Shared → Prop} (ho : s.heap.get? a = some (set0 led)) (h : ∀ h', Heap.SameBut a s.heap h' → h'.get? a = some (set1 led) → Q .none { s with heap := h', toks := s.toks + 1 }) :
    wpAny (model prog w) A (call (.builtin "set.add") [.ref a, .bool true]) Q E s := by
  have hT : s.TypeIs (.ref a) "set" := ⟨_, ho, rfl⟩
  refine wpAny_call_entry F.slot_set_add hT F.entry_set_add ?_ (F.args_set_add_2 _ _)
  unfold Builtin.«set.add» Builtin.Frozenset.oneOther
  simp only [List.isEmpty_nil, bind_assoc]
  unfold Builtin.Frozenset.addrOf setAdd
  refine wpAny_bind (wpAny_pure ?_)
  try dsimp only
  refine wpAny_bind (wpAny_pure ?_)
  try dsimp only
  refine wpAny_bind ?_
  refine wpAny_holding ?_
  refine wpAny_bind (hash_true ?_)
  unfold setAddHashed setAddHashedIn
  refine wpAny_holding (wpAny_bind (wpAny_setState_of (s := { s with toks := s.toks + 1 }) ho rfl (fits0 led) ?_))
  dsimp only
  rw [show byScan (.bool true) (#[] : Array (Int × Value)) = true from by decide +kernel]
  simp only [↓reduceIte]
  unfold setAddByScan
  refine wpAny_bind ?_
  refine wpAny_bind (wpAny_rule ?_)
  show wpAny _ _ (setScan a (.bool true) 1 true #[] >>= _) _ _ _
  refine wpAny_bind (show wpAny _ _ (pure ScanMet.absent) _ _ _ from wpAny_pure ?_)
  dsimp only
  rw [lay1]
  dsimp only
  refine wpAny_bind (show wpAny _ _ (pure ()) _ _ _ from wpAny_pure ?_)
  rw [if_pos (show (setT led).plain = true from rfl), hashByValue_scannable 8 rfl]
  refine wpAny_bind (wpAny_pure ?_)
  rw [if_pos (show plainKind (.bool true) = true from rfl)]
  refine wpAny_bind (wpAny_storeSet_of (s := { s with toks := s.toks + 1 }) ho rfl ?_ (by rw [sizeLine_eq]; decide))
  rw [full1]
  have hg : (s.heap.update a (Obj.putSet #[(1, .bool true)] (setT led))).get? a = some (set1 led) := by
    have := Heap.get?_update_self (Obj.putSet #[(1, .bool true)] (setT led)) ho (by rw [putSet_of _ _ (show (set0 led).data = .set #[] 0 (.fresh 0 0 led) from rfl)]; rfl)
    rw [putSet_of _ _ (show (set0 led).data = .set #[] 0 (.fresh 0 0 led) from rfl)] at this; exact this
  refine wpAny_pure (wpAny_pure ?_)
  show wpAny _ _ (ret Value.none) _ _ _
  exact wpAny_pure ⟨_, rfl, h _ (Heap.SameBut.update ..) hg⟩
/-- `set.add(True)` on the set of True -/
theorem add_again {Q : Value → Shared → Prop} (ho : s.heap.get? a = some (set1 led)) (h : Q .none { s with toks := s.toks + 1 }) :
    wpAny (model prog w) A (call (.builtin "set.add") [.ref a, .bool true]) Q E s := by
  have hT : s.TypeIs (.ref a) "set" := ⟨_, ho, rfl⟩
  refine wpAny_call_entry F.slot_set_add hT F.entry_set_add ?_ (F.args_set_add_2 _ _)
  unfold Builtin.«set.add» Builtin.Frozenset.oneOther
  simp only [List.isEmpty_nil, bind_assoc]
  unfold Builtin.Frozenset.addrOf setAdd
  refine wpAny_bind (wpAny_pure ?_)
  try dsimp only
  refine wpAny_bind (wpAny_pure ?_)
  try dsimp only
  refine wpAny_bind ?_
  refine wpAny_holding ?_
  refine wpAny_bind (hash_true ?_)
  unfold setAddHashed setAddHashedIn
  refine wpAny_holding (wpAny_bind (wpAny_setState_of (s := { s with toks := s.toks + 1 }) ho rfl (fits1 led) ?_))
  dsimp only
  rw [show byScan (.bool true) (#[((1 : Int), Value.bool true)] : Array (Int × Value)) = true from by decide +kernel]
  simp only [↓reduceIte]
  unfold setAddByScan
  refine wpAny_bind ?_
  refine wpAny_bind (wpAny_rule ?_)
  show wpAny _ _ (setScanFrom a (.bool true) 1 true [((1 : Int), Value.bool true)] 0 >>= _) _ _ _
  refine wpAny_bind ?_
  unfold setScanFrom
  rw [if_pos (show ((1 : Int) == 1) = true from rfl)]
  refine wpAny_bind (wpAny_setEpoch_of (s := { s with toks := s.toks + 1 }) ho rfl (fits1 led) ?_)
  refine wpAny_bind (SeqAt.EqAt.same (.bool true) _ _ _ _ ?_)
  simp only [Bool.and_self, ↓reduceIte]
  refine wpAny_pure ?_
  dsimp only
  refine wpAny_pure (wpAny_pure ?_)
  show wpAny _ _ (ret Value.none) _ _ _
  exact wpAny_pure ⟨_, rfl, h⟩
/-- a new set knows whether its order is a text's -/
theorem new_set {Q : Value → Shared → Prop} (h : Q (.ref s.heap.objs.size) { s with heap := s.heap.push (set0 (!(w.params.followText "set-order"))) }) : wpAny (model prog w) A (newSet (.type "set")) Q E s := by
  unfold newSet setsByText
  refine wpAny_bind (wpAny_bind (wpAny_askSetting (wpAny_pure ?_)))
  dsimp only
  simp only [newObj]
  refine wpAny_bind (wpAny_alloc (wpAny_pure ?_))
  exact h
end
/-! ## MSet2 -/
open AutoSeq1 (wpAny_loadPart')
theorem si_owner : Manifest.owners.lookup (String.ofList ['r', 'o', 't', 'a', 'r', 'e', 't', 'i', '_', 't', 'e', 's'].reverse) = some Manifest.sig_set_iterator := by kernel_rfl
theorem si_slot_next : Slot "set_iterator" "__next__" "set_iterator.__next__" :=
  .of (owner := "set_iterator") (n := "__next__") (by rw [typeLookup_type, builtinLookup_eq_fast]; kernel_rfl) (by decide +kernel) (by decide +kernel) (by decide +kernel)
    (by first | exact .inl (by decide +kernel) | exact .inr (by decide +kernel)) (by rw [isSubtype_type]; kernel_rfl)
theorem si_entry_next : entryFor table "set_iterator.__next__" = some Builtin.«set_iterator.__next__» := entryFor_of_tree (by kernel_rfl)
theorem si_args_next (a : Value) : argsOk "set_iterator.__next__" ⟨[a], []⟩ := by
  unfold argsOk; rw [signature?_of (id := "set_iterator.__next__") (n := ['_', '_', 't', 'x', 'e', 'n', '_', '_']) (o := ['r', 'o', 't', 'a', 'r', 'e', 't', 'i', '_', 't', 'e', 's']) (by kernel_rfl) si_owner]; kernel_rfl
theorem set_entry_iter : entryFor table "set.__iter__" = some Builtin.«frozenset.__iter__» :=
  entryFor_alias (id' := "frozenset.__iter__") (by kernel_rfl) (by first | rfl | decide +kernel | (unfold String.splitOn; simp +decide [String.splitOnAux])) (by decide +kernel) (by kernel_rfl)
noncomputable def setIt (a : Addr) (slot i : Int) : Obj := { cls := .type "set_iterator", data := .fields #[rawInt slot, rawInt i, .ref a, rawInt 1, rawInt 1] }
section
variable {prog : Program} {w : World} {A : Around} {E : Value → Shared → Prop} {s : Shared} {a it : Addr} {led : Bool}
theorem iter_set {Q : Value → Shared → Prop} (ho : s.heap.get? a = some (set1 led)) (h : Q (.ref s.heap.objs.size) { s with heap := s.heap.push (setIt a 0 0) }) :
    wpAny (model prog w) A (pyIter (.ref a)) Q E s := by
  have hT : s.TypeIs (.ref a) "set" := ⟨_, ho, rfl⟩
  refine wpAny_pyIter_slot hT F.slot_set_iter (wpAny_call_entry F.slot_set_iter hT set_entry_iter ?_ (F.args_set_iter_1 _))
  unfold Builtin.«frozenset.__iter__» Builtin.Frozenset.slot0 Builtin.Frozenset.addrOf Builtin.Frozenset.sizeOf setEntries setDrawn setEpoch
  simp only [bind_assoc, pure_bind]
  refine wpAny_bind (m := slotArgs "__iter__" 0 _) (wpAny_of_eq (a := (Value.ref a, [])) (by first | rfl | kernel_rfl!) ?_)
  refine wpAny_bind (wpAny_pure ?_)
  refine wpAny_bind (wpAny_setState_of ho rfl (fits1 led) ?_)
  refine wpAny_bind (wpAny_setState_of ho rfl (fits1 led) ?_)
  unfold setsByText
  refine wpAny_bind (wpAny_bind (wpAny_askSetting (wpAny_pure ?_)))
  rw [if_neg (by
    intro h
    rw [Bool.and_eq_true] at h
    have h2 := h.2
    revert h2
    cases led <;> exact (by decide +kernel))]
  refine wpAny_bind (wpAny_setState_of ho rfl (fits1 led) ?_)
  unfold newFields
  refine wpAny_bind (wpAny_newObj_type ?_)
  refine wpAny_pure ⟨_, rfl, "set_iterator", _, ⟨_, Heap.get?_push_size _ rfl, rfl⟩, si_slot_next.lookup, ?_⟩
  exact h
theorem pick_one {α : Type} (next : Nat → Nat) (x : α) : pickOrder next #[x] = #[x] := by
  unfold pickOrder
  show pickOrder.go next 1 0 [x] #[] = #[x]
  unfold pickOrder.go
  have : next 0 % [x].length = 0 := Nat.mod_one _
  rw [this]
  rfl
theorem setNext_first {Q : Option (Value × Nat) → Shared → Prop} (ho : s.heap.get? a = some (set1 (!(w.params.followText "set-order"))))
    (h : ∀ sl : Nat, (w.params.followText "set-order" = false → sl = 2) → Q (some (.bool true, sl)) s) : wpAny (model prog w) A (setNext a 0 0 1) Q E s := by
  unfold setNext
  refine wpAny_bind (wpAny_setState_of ho rfl (fits1 _) ?_)
  dsimp only
  unfold setsByText
  refine wpAny_bind (wpAny_bind (wpAny_askSetting (wpAny_pure ?_)))
  show wpAny _ _ (if w.params.followText "set-order" = true then _ else _) _ _ _
  cases hf : w.params.followText "set-order" with
  | true =>
    rw [if_pos rfl]
    rw [hf] at ho
    rw [if_neg (by decide)]
    refine wpAny_bind ?_
    unfold setWalk
    refine wpAny_bind (wpAny_setState_of ho rfl (fits1 _) ?_)
    dsimp only
    unfold setsByText
    refine wpAny_bind (wpAny_bind (wpAny_askSetting (wpAny_pure ?_)))
    show wpAny _ _ (if w.params.followText "set-order" = true then _ else _) _ _ _
    rw [hf, if_pos rfl]
    refine wpAny_bind (wpAny_askSetting (wpAny_pure ?_))
    rw [pick_one]
    exact wpAny_pure (h 0 (by intro h'; first | (rw [hf] at h'; cases h') | cases h'))
  | false =>
    rw [if_neg (by decide)]
    rw [hf] at ho
    rw [if_neg (by decide)]
    refine wpAny_bind (show wpAny _ _ (pure ()) _ _ _ from wpAny_pure ?_)
    exact wpAny_pure (h 2 fun _ => rfl)
theorem setNext_end {Q : Option (Value × Nat) → Shared → Prop} {sl : Nat} (ho : s.heap.get? a = some (set1 (!(w.params.followText "set-order")))) (hsl : w.params.followText "set-order" = false → sl = 2)
    (h : Q none s) : wpAny (model prog w) A (setNext a sl 1 1) Q E s := by
  unfold setNext
  refine wpAny_bind (wpAny_setState_of ho rfl (fits1 _) ?_)
  dsimp only
  unfold setsByText
  refine wpAny_bind (wpAny_bind (wpAny_askSetting (wpAny_pure ?_)))
  show wpAny _ _ (if w.params.followText "set-order" = true then _ else _) _ _ _
  cases hf : w.params.followText "set-order" with
  | true =>
    rw [if_pos rfl]
    rw [hf] at ho
    rw [if_neg (by decide)]
    refine wpAny_bind ?_
    unfold setWalk
    refine wpAny_bind (wpAny_setState_of ho rfl (fits1 _) ?_)
    dsimp only
    unfold setsByText
    refine wpAny_bind (wpAny_bind (wpAny_askSetting (wpAny_pure ?_)))
    show wpAny _ _ (if w.params.followText "set-order" = true then _ else _) _ _ _
    rw [hf, if_pos rfl]
    refine wpAny_bind (wpAny_askSetting (wpAny_pure ?_))
    rw [pick_one]
    exact wpAny_pure h
  | false =>
    obtain rfl := hsl hf
    rw [if_neg (by decide)]
    rw [hf] at ho
    rw [if_neg (by decide)]
    refine wpAny_bind (show wpAny _ _ (pure ()) _ _ _ from wpAny_pure ?_)
    exact wpAny_pure h
/-- the walk over the set of True: its one item -/
theorem next_set {Q : Option Value → Shared → Prop} (ho : s.heap.get? a = some (set1 (!(w.params.followText "set-order")))) (hi : s.heap.get? it = some (setIt a 0 0)) (hne : a ≠ it)
    (h : ∀ h' (sl : Nat), Heap.SameBut it s.heap h' → h'.get? it = some (setIt a sl 1) → (w.params.followText "set-order" = false → sl = 2) → Q (some (.bool true)) { s with heap := h' }) : wpAny (model prog w) A (pyNext (.ref it)) Q E s := by
  have hT : s.TypeIs (.ref it) "set_iterator" := ⟨_, hi, rfl⟩
  unfold pyNext
  refine wpAny_bind (wpAny_attempt (wpAny_callSpecial?_slot (name := Str.ofString "__next__") hT si_slot_next
    (wpAny_call_entry si_slot_next hT si_entry_next ?_ (si_args_next _))))
  unfold Builtin.«set_iterator.__next__»
  refine wpAny_bind (m := slotArgs "__next__" 0 _) (wpAny_of_eq (a := (Value.ref it, [])) (by first | rfl | kernel_rfl!) ?_)
  dsimp only
  refine wpAny_bind (wpAny_fieldsOf hi rfl ?_)
  dsimp only [rawInt]
  refine wpAny_bind (wpAny_setEntries_of ho rfl (fits1 _) ?_)
  rw [if_neg (by decide)]
  refine wpAny_bind (setNext_first ho fun sl hsl => ?_)
  dsimp only
  refine wpAny_bind (wpAny_setField_rec hi (by simp) fun h₁ hi₁ hs₁ => ?_)
  refine wpAny_bind (wpAny_setField_rec hi₁ (by simp) fun h₂ hi₂ hs₂ => ?_)
  exact wpAny_pure ⟨_, rfl, wpAny_pure (h h₂ sl (Heap.SameBut.trans hs₁ hs₂) (by rw [hi₂]; rfl) hsl)⟩
theorem next_set_end {Q : Option Value → Shared → Prop} {sl : Nat} (hh : A.handled = none) (ho : s.heap.get? a = some (set1 (!(w.params.followText "set-order")))) (hi : s.heap.get? it = some (setIt a sl 1)) (hsl : w.params.followText "set-order" = false → sl = 2)
    (hQ : ∀ h', Heap.ExtBut it s.heap h' → Q none { s with heap := h' }) : wpAny (model prog w) A (pyNext (.ref it)) Q E s := by
  have hT : s.TypeIs (.ref it) "set_iterator" := ⟨_, hi, rfl⟩
  unfold pyNext
  refine wpAny_bind (wpAny_attempt (wpAny_callSpecial?_slot (name := Str.ofString "__next__") hT si_slot_next
    (wpAny_call_entry si_slot_next hT si_entry_next ?_ (si_args_next _))))
  unfold Builtin.«set_iterator.__next__»
  refine wpAny_bind (m := slotArgs "__next__" 0 _) (wpAny_of_eq (a := (Value.ref it, [])) (by first | rfl | kernel_rfl!) ?_)
  dsimp only
  refine wpAny_bind (wpAny_fieldsOf hi rfl ?_)
  dsimp only [rawInt]
  refine wpAny_bind (wpAny_setEntries_of ho rfl (fits1 _) ?_)
  rw [if_neg (by decide)]
  refine wpAny_bind (setNext_end ho hsl ?_)
  dsimp only
  refine wpAny_bind (wpAny_setField_rec hi (by simp) fun h₁ hi₁ hs₁ => ?_)
  refine wpAny_bind ?_
  simp only [newExc, newTuple]
  refine wpAny_bind (wpAny_newObj_type ?_ (by size_fits))
  refine wpAny_bind (m := firstArgMember _ _) (wpAny_of_eq (a := Value.none) (by first | rfl | (simp only [firstArgMember]; rfl)) ?_)
  refine wpAny_newObj_type ?_ (by size_fits)
  simp only [raiseNew]
  refine wpAny_bind (wpAny_handled ?_)
  first | rw [show A.in1.handled = none from hh] | rw [hh]
  refine wpAny_bind (wpAny_pure (wpAny_throw ?_))
  refine wpAny_bind (wpAny_isInstance (T := "StopIteration") (b := true) ⟨_, Heap.get?_push_size _ rfl, rfl⟩ isSubtype_stop ?_)
  exact wpAny_pure (hQ _ ((hs₁.extBut.push _).push _))
end
/-! ## MSet3 -/
section
variable {prog : Program} {w : World} {A : Around} {E : Value → Shared → Prop} {s s₀ : Shared} {a it : Addr} {env : Env} {g : Heap} {L : Addr} {m : Str → Option Value} {news : List (Addr × Obj)}
theorem unpack_set {elts : List Expr} {x1 : Nat} {pos : Pos} {Q : Unit → Shared → Prop} (hh : A.handled = none) (I : At g L m news s₀ s) (ho : s.heap.get? a = some (set1 (!(w.params.followText "set-order"))))
    (hn : (assignEach elts env).length = 1) (hstar : (assignEach elts env).findIdx? (·.1) = none)
    (h : ∀ s', At g L m news s₀ s' → wpAny (model prog w) A (assignInOrder ((assignEach elts env).map (·.2)) [.bool true]) Q E s') :
    wpAny (model prog w) A (assign (.Tuple elts x1 pos) env (.ref a)) Q E s := by
  have hlt : a ≠ s.heap.objs.size := Nat.ne_of_lt (Heap.lt_size ho)
  have hT : s.TypeIs (.ref a) "set" := ⟨_, ho, rfl⟩
  rw [assign_Tuple]
  refine wpAny_bind (wpAny_standAt ?_)
  unfold unpack
  rw [hn, hstar]
  refine wpAny_bind (wpAny_holding ?_)
  unfold unpackItems
  refine wpAny_bind ?_
  · unfold notIterableAtAll
    refine wpAny_bind (wpAny_specialOf hT F.slot_set_iter.lookup ?_)
    refine wpAny_pure ?_
    simp only [Bool.false_eq_true, if_false]
    refine wpAny_bind (wpAny_holding (iter_set ho ?_))
    refine wpAny_bind (wpAny_holding ?_)
    have hi₀ : (s.heap.push (setIt a 0 0)).get? s.heap.objs.size = some (setIt a 0 0) := Heap.get?_push_size _ rfl
    have ho₀ : (s.heap.push (setIt a 0 0)).get? a = some (set1 (!(w.params.followText "set-order"))) := Heap.get?_push_of_some _ ho
    unfold draw
    refine wpAny_bind (next_set (s := { s with heap := s.heap.push (setIt a 0 0) }) ho₀ hi₀ hlt fun h₁ sl hs₁ hi₁ hsl => ?_)
    dsimp only
    unfold draw
    refine wpAny_bind (wpAny_holding (wpAny_pure (wpAny_pure ?_)))
    rw [if_neg (by decide)]
    have ho₁ : h₁.get? a = some (set1 (!(w.params.followText "set-order"))) := (hs₁.2 a hlt).trans ho₀
    refine wpAny_bind (wpAny_holding (next_set_end (s := { s with heap := h₁ }) hh ho₁ hi₁ hsl fun h₂ he₂ => ?_))
    simp only [Option.isSome_none, Bool.false_eq_true, if_false]
    have hk : ∀ b o, s.heap.get? b = some o → h₂.get? b = some o := fun b o e => he₂ b o (Nat.ne_of_lt (Heap.lt_size e)) ((hs₁.2 b (Nat.ne_of_lt (Heap.lt_size e))).trans (Heap.get?_push_of_some _ e))
    exact wpAny_pure (h _ (I.grow ⟨h₂, s.toks, rfl, hk⟩))
theorem compTurn_set (elt target iter : Expr) (ifs : List Expr) (scope : Scope) (pos : Pos) (it acc : Value) (env : Env) :
    compTurn (.SetComp elt [⟨target, iter, ifs, 0⟩] scope pos) 0 it acc env = (do
      standAt iter.pos
      match ← pyNext it with
      | none => pure (.done .next)
      | some v =>
        letOwnedTupleGo target it v
        assign target env v
        let mut ok := true
        for c in ifs do
          if ok then ok ← isTrue c env (eval c env)
        if ok then
          (do let v ← eval elt env; standAt elt.pos; let _ ← call (.builtin "set.add") [acc, v])
        again (.compLoop (.SetComp elt [⟨target, iter, ifs, 0⟩] scope pos) 0 it acc env)) := by rfl
theorem codeAny_compStart_set {R : Result → Shared → Prop} {elt target iter : Expr} {ifs : List Expr} {rest : List Comprehension} {scope : Scope} {pos : Pos} {it acc : Value} {env : Env}
    (h0 : codeAny (model prog w) A (.compLoop (.SetComp elt (⟨target, iter, ifs, 0⟩ :: rest) scope pos) 0 it acc env) R s)
    (h : wpAny (model prog w) A (pyIter it) (fun it' s' => codeAny (model prog w) A (.compLoop (.SetComp elt (⟨target, iter, ifs, 0⟩ :: rest) scope pos) 0 it' acc env) R s')
      (notedBy (model prog w) A env fun x s' => R (.error x) s') s) :
    codeAny (model prog w) A (.compStart (.SetComp elt (⟨target, iter, ifs, 0⟩ :: rest) scope pos) 0 it acc env) R s := by
  refine codeAny_of_tree ?_
  show wpAny _ _ ((compStart (.SetComp elt (⟨target, iter, ifs, 0⟩ :: rest) scope pos) 0 it acc env).onRaise (fun x => do noteFrame x env; standAt theWindowsPlace)) _ _ s
  refine wpAny_notedAt ?_
  unfold compStart
  show wpAny _ _ (ask >>= _) _ _ s
  refine wpAny_bind (wpAny_askSetting (wpAny_ite ?_))
  split
  · first
      | exact wpAny_bind (wpAny_pure (wpAny_pure (And.intro rfl h0)))
      | exact wpAny_pure (And.intro rfl h0)
  · first
      | exact wpAny_bind (wpAny_rule (wpAny_bind (wpAny_standAt (wpAny_bind (wpAny_mono h (fun it' s' h' => wpAny_pure (And.intro rfl h')) fun _ _ x => x)))))
      | (refine wpAny_bind (wpAny_rule ?_); show wpAny _ _ (standAt iter.pos >>= _) _ _ s; exact wpAny_bind (wpAny_standAt (wpAny_bind (wpAny_mono h (fun it' s' h' => wpAny_pure (And.intro rfl h')) fun _ _ x => x))))
/-- the set as it stands after so many Trues -/
noncomputable def sob (w : World) (i : Nat) : Obj := if i = 0 then set0 (!(w.params.followText "set-order")) else set1 (!(w.params.followText "set-order"))
theorem q_setadd {i : Nat} {Q : Value → Shared → Prop} (I : At g L m ((a, sob w i) :: news) s₀ s) (h : ∀ s', Heap.SameBut a s.heap s'.heap → At g L m ((a, sob w (i + 1)) :: news) s₀ s' → Q .none s') :
    wpAny (model prog w) A (call (.builtin "set.add") [.ref a, .bool true]) Q E s := by
  have ho := I.get (.head _)
  cases i with
  | zero =>
    exact add_first (led := !(w.params.followText "set-order")) ho fun h' hs he => h _ hs (I.change (o' := sob w 1) (f := id) hs he)
  | succ i =>
    refine add_again (led := !(w.params.followText "set-order")) ho (h _ (Heap.SameBut.refl ..) ?_)
    exact (I.tick _)
inductive CompOnS (prog : Program) (w : World) (A : Around) (env : Env) (scope : Scope) (cl : List (Str × Addr)) (tg elt : Expr) (ifs : List Expr) (fin : Heap → Addr → (Str → Option Value) → Shared → List (Addr × Obj) → Addr → Prop) (Inv : Nat → List Value → List (Addr × Obj) → Prop) (it : Value) (s₂ : Shared) : Prop
  | mk (g : Heap) (L : Addr) (m : Str → Option Value) (news : List (Addr × Obj)) (s₀ : Shared) (I : Addr) (fp : List Addr) (wr : List Addr) (n : Nat) (P : Nat → Value → Heap → Prop) (St : Nat → Heap → Prop)
    (q0 : it = .ref I)
    (q1 : At g L m news s₀ s₂)
    (q2 : Wk prog w A I fp wr n tg P St)
    (q3 : n ≤ sizeLine)
    (q4 : L ∉ fp)
    (q5 : (∀ b ∈ wr, g.get? b = none))
    (q6 : (∀ p ∈ news, p.1 ∉ fp))
    (q7 : St 0 s₂.heap)
    (q8 : Inv 0 [] [])
    (q9 : (∀ G C i v own m₁ ys nw s₁, (∀ b o, b ∉ wr → s₂.heap.get? b = some o → G.get? b = some o) → i < n → P i v s₁.heap → Inv i ys nw → At G C m₁ (own ++ nw) s₀ s₁ →
      wpAny (model prog w) A (assign tg (compEnvC scope cl C env) v) (fun _ s₃ =>
        wpAny (model prog w) A (forIn ifs true fun c r => if r = true then do let ok ← isTrue c (compEnvC scope cl C env) (eval c (compEnvC scope cl C env)); pure (ForInStep.yield ok) else pure (ForInStep.yield r)) (fun ok s₄ =>
          Br ok (wpAny (model prog w) A (eval elt (compEnvC scope cl C env)) (fun y s₅ => y = .bool true ∧ ∃ m₂ nw', At G C m₂ (own ++ nw') s₀ s₅ ∧ Inv (i + 1) (ys ++ [y]) nw') (fun _ _ => False) s₄)
            (∃ m₂ nw', At G C m₂ (own ++ nw') s₀ s₄ ∧ Inv (i + 1) ys nw')) (fun _ _ => False) s₃) (fun _ _ => False) s₁))
    (q10 : (∀ D ys nw, Inv n ys nw → ys.length ≤ n → fin g L m s₀ (((D, sob w ys.length) :: nw) ++ news) D)) : CompOnS prog w A env scope cl tg elt ifs fin Inv it s₂
/-- a comprehension's loop, whatever its target -/
theorem comp_loopS {elt tg iter : Expr} {ifs : List Expr} {scope : Scope} {pos : Pos} {it acc : Value} {cenv : Env} {R : Result → Shared → Prop} (J : Nat → Shared → Prop)
    (turn : ∀ n s, J n s → wpAny (model prog w) A (pyNext it) (fun r s₁ => match r with
      | none => R (.ok .next) s₁
      | some v => wpAny (model prog w) A (letOwnedTupleGo tg it v) (fun _ s₂ => wpAny (model prog w) A (assign tg cenv v) (fun _ s₃ =>
          wpAny (model prog w) A (forIn ifs true fun c r => if r = true then do let ok ← isTrue c cenv (eval c cenv); pure (ForInStep.yield ok) else pure (ForInStep.yield r)) (fun ok s₄ =>
            Br ok (wpAny (model prog w) A (eval elt cenv) (fun x s₅ => wpAny (model prog w) A (call (.builtin "set.add") [acc, x]) (fun _ s₆ => ∃ m, m < n ∧ J m s₆) (fun _ _ => False) s₅) (fun _ _ => False) s₄)
              (∃ m, m < n ∧ J m s₄)) (fun _ _ => False) s₃) (fun _ _ => False) s₂) (fun _ _ => False) s₁) (fun _ _ => False) s)
    (n : Nat) (h : J n s) : codeAny (model prog w) A (.compLoop (.SetComp elt [⟨tg, iter, ifs, 0⟩] scope pos) 0 it acc cenv) R s := by
  refine codeAny_loop rfl J (fun n s hJ => ?_) n h
  show wpAny _ A ((compTurn (.SetComp elt [⟨tg, iter, ifs, 0⟩] scope pos) 0 it acc cenv).onRaise (fun x => do noteFrame x cenv; theTreesLotGoes x)) _ _ s
  refine wpAny_noted ?_
  rw [compTurn_set]
  have fe : ∀ {α : Type} {t : Sem α} {Q' : α → Shared → Prop} {E' : Value → Shared → Prop} {s'}, wpAny (model prog w) A t Q' (fun _ _ => False) s' → wpAny (model prog w) A t Q' E' s' := fun h => wpAny_mono h (fun _ _ x => x) fun _ _ x => x.elim
  refine wpAny_bind (wpAny_standAt (wpAny_bind (fe (wpAny_mono (turn n s hJ) (fun r s₁ h₁ => ?_) fun _ _ x => x))))
  cases r with
  | none => exact wpAny_pure h₁
  | some v =>
    refine wpAny_bind (fe (wpAny_mono h₁ (fun _ s₂ h₂ => wpAny_bind (fe (wpAny_mono h₂ (fun _ s₃ h₃ => wpAny_bind (fe (wpAny_mono h₃ (fun ok s₄ h₄ => ?_) fun _ _ x => x))) fun _ _ x => x))) fun _ _ x => x))
    cases ok with
    | false => exact wpAny_pure ⟨rfl, h₄⟩
    | true =>
      exact wpAny_bind (wpAny_bind (fe (wpAny_mono h₄ (fun x s₅ h₅ => wpAny_bind (wpAny_standAt (wpAny_bind (fe (wpAny_mono h₅ (fun _ s₆ h₆ => wpAny_pure (wpAny_pure ⟨rfl, h₆⟩)) fun _ _ x => x))))) fun _ _ x => x)))

theorem comp_coreS {tg elt iter : Expr} {ifs : List Expr} {scope : Scope} {cl : List (Str × Addr)} {pos : Pos} {s₂ : Shared} {it : Value} {Inv : Nat → List Value → List (Addr × Obj) → Prop} {fin : Heap → Addr → (Str → Option Value) → Shared → List (Addr × Obj) → Addr → Prop} {RR : Value → Addr → Result → Shared → Prop}
    (hcell : ∀ y ∈ scope.names, y.2 ≠ .cell) (hkind : scope.kind = .function)
    (h : CompOnS prog w A env scope cl tg elt ifs fin Inv it s₂)
    (hRR : ∀ g L m news s₀ D C mC s', s'.heap.Ns C mC → At g L m news s₀ s' → L ≠ C → g.get? C = none → (∀ p ∈ news, p.1 ≠ C) → fin g L m s₀ news D → RR (.ref D) C (.ok .next) s') :
    wpAny (model prog w) A (newSet (.type "set")) (fun acc s₃ => wpAny (model prog w) A (newFunctionEnv scope env.globals cl [] env.qual none .none (some env)) (fun cenv s₄ =>
      codeAny (model prog w) A (.compStart (.SetComp elt [⟨tg, iter, ifs, 0⟩] scope pos) 0 it acc { cenv with scope := relabel scope env }) (RR acc cenv.locals) s₄) E s₃) E s₂ := by
  obtain ⟨g, L, m, news, s₀, I, fp, wr, n, P, St, rfl, hI, W, hn, hLf, hwr, hnw, hst, h0, step, hfin⟩ := h
  refine new_set (wpAny_newFunctionEnv hcell (by intro y hy; simp at hy) (fun h₁ hns₁ hsb₁ => ?_) hkind)
  obtain ⟨k1, k2, k3, k4, k5, k6⟩ := comp_done hI W hst rfl rfl
  have hz : (s₂.heap.push (sob w 0)).objs.size = s₂.heap.objs.size + 1 := Heap.size_push ..
  show codeAny _ _ (.compStart _ 0 (.ref I) (.ref s₂.heap.objs.size) (compEnvC scope cl (s₂.heap.push (sob w 0)).objs.size env)) (RR (.ref s₂.heap.objs.size) (s₂.heap.push (sob w 0)).objs.size) _
  have hns₁ : h₁.Ns (s₂.heap.push (sob w 0)).objs.size fun _ => none := hns₁
  have hsb₁ : Heap.SameBut (s₂.heap.push (sob w 0)).objs.size ((s₂.heap.push (sob w 0)).push { cls := .type "dict", data := .dict #[] }) h₁ := hsb₁
  rw [hz] at hns₁ hsb₁ ⊢
  have old : ∀ b o, s₂.heap.get? b = some o → h₁.get? b = some o := fun b o e => (hsb₁.2 b (Nat.ne_of_lt (Nat.lt_succ_of_lt (Heap.lt_size e)))).trans (Heap.get?_push_of_some _ (Heap.get?_push_of_some _ e))
  have hD : h₁.get? s₂.heap.objs.size = some (sob w 0) := (hsb₁.2 _ (Nat.ne_of_lt (Nat.lt_succ_self _))).trans (Heap.get?_push_of_some _ (Heap.get?_push_size _ rfl))
  have hst₁ : St 0 h₁ := W.frame _ _ _ hst fun b _ o e => old b o e
  have hG : ∀ b o, b ∉ wr → s₂.heap.get? b = some o → (hideAll s₂.heap wr).get? b = some o := fun b o hb e => hideAll_get _ e hb
  have J0 : At (hideAll s₂.heap wr) (s₂.heap.objs.size + 1) (fun _ => none) [(s₂.heap.objs.size, sob w 0)] s₀ { s₂ with heap := h₁, toks := s₂.toks + 0 } :=
    ⟨hns₁, fun b o e => old b o (of_hideAll _ e), k6, fun p hp => by
      rw [List.mem_singleton] at hp; subst hp
      exact ⟨hD, Nat.ne_of_lt (Nat.lt_succ_self _), k5⟩, by simp, by have := hI.e; rw [this]⟩
  have loop := comp_loopS (iter := iter) (scope := scope) (pos := pos) (R := RR (.ref s₂.heap.objs.size) (s₂.heap.objs.size + 1)) _ (comp_turn (id := "set.add") (obj := fun ys _ => sob w ys.length) (PY := fun y => y = .bool true) (R := fun s' => RR (.ref s₂.heap.objs.size) (s₂.heap.objs.size + 1) (.ok .next) s') (fun y X => y = .bool true ∧ X) W hn k1 k2 k4 (fun _ _ h => h) (fun i v own m₁ ys nw s₁ => step _ _ i v own m₁ ys nw s₁ hG)
    (fun hy _ K h => by subst hy; exact q_setadd K fun s' hs K' => h 0 s' hs (by rw [List.length_append]; exact K')) fun mC ys c nw s' K hv hl => let ⟨a, b, d⟩ := K.home hI W.sub hLf hwr hnw hG; hRR _ _ _ _ _ _ _ _ _ K.ns a k3 b d (hfin _ ys nw hv hl))
    (n + 1) ⟨0, _, [], 0, [], J0, (fun p hp => nomatch hp), hst₁, h0, Nat.zero_le _, Nat.le_refl _, rfl⟩
  exact codeAny_compStart_set loop (W.self 0 _ _ _ hst₁ loop)
theorem e_setcomp {tg elt iter : Expr} {ifs : List Expr} {scope : Scope} {pos : Pos} {Q : Value → Shared → Prop} {cl : List (Str × Addr)} (Inv : Nat → List Value → List (Addr × Obj) → Prop)
    (h : let INV : Nat → List Value → List (Addr × Obj) → Prop := Inv; wpAny (model prog w) A (eval iter env) (fun x s₁ => wpAny (model prog w) A (pyIter x) (fun it s₂ => CompOnS prog w A env scope cl tg elt ifs (fun g L m s₀ nw D => ∀ s', At g L m nw s₀ s' → Q (.ref D) s') INV it s₂) E s₁) E s)
    (hclos : closureFor scope env = pure cl := by with_unfolding_all rfl)
    (hcell : (scope.names.all fun y => decide (y.2 ≠ .cell)) = true := by decide +kernel) (hkind : scope.kind = .function := by with_unfolding_all rfl)
    (hnames : (scope.names.all fun x => decide (x.2 = .local → scope.names.lookup x.1 = some .local)) = true := by decide +kernel)
    (hs : ∀ x, foldedSetIterable iter env x = pure x := by intro _; with_unfolding_all rfl) :
    wpAny (model prog w) A (eval (.SetComp elt [⟨tg, iter, ifs, 0⟩] scope pos) env) Q E s := by
  rw [arm_eval_SetComp]
  refine wpAny_comprehension_free (use := none) rfl hs hclos hkind (fun x hx => of_decide_eq_true (List.all_eq_true.mp hnames x hx)) (wpAny_mono h (fun x s₁ h₁ => wpAny_mono h₁ (fun it s₂ h₂ => ?_) fun _ _ e => e) fun _ _ e => e)
  refine comp_coreS (RR := fun acc C => compPost (model prog w) A E none Q acc C) (fun y hy => of_decide_eq_true (List.all_eq_true.mp hcell y hy)) hkind h₂ fun g L m news s₀ D C mC s' hn I h1 h2 h3 hq => ?_
  exact ⟨mC, hn, fun h' hs' => hq _ (I.aside hs' h1 h2 h3)⟩

end
section
variable {prog : Program} {w : World} {A : Around} {E : Value → Shared → Prop} {s s₀ : Shared} {g : Heap} {L : Addr} {m : Str → Option Value} {news : List (Addr × Obj)} {env : Env} {tg : Expr} {n : Nat} {P : Nat → Value → Heap → Prop}
theorem Src.compS {it : Value} {scope : Scope} {cl : List (Str × Addr)} {elt : Expr} {ifs : List Expr} {fin : Heap → Addr → (Str → Option Value) → Shared → List (Addr × Obj) → Addr → Prop} {Inv : Nat → List Value → List (Addr × Obj) → Prop} (S : Src prog w A tg n P g L news it s) (I : At g L m news s₀ s) (hn : n ≤ sizeLine) (h0 : Inv 0 [] [])
    (step : ∀ G C i v own m₁ ys nw s₁, (∀ b o, g.get? b = some o → G.get? b = some o) → (∀ p ∈ news, G.get? p.1 = some p.2) → G.Ns L m → i < n → P i v s₁.heap → Inv i ys nw → At G C m₁ (own ++ nw) s₀ s₁ →
      let K1 : Value → Shared → Prop := fun y s₅ => y = .bool true ∧ ∃ m₂ nw', At G C m₂ (own ++ nw') s₀ s₅ ∧ Inv (i + 1) (ys ++ [y]) nw'
      let K2 : Shared → Prop := fun s₄ => ∃ m₂ nw', At G C m₂ (own ++ nw') s₀ s₄ ∧ Inv (i + 1) ys nw'
      let EV : Env := compEnvC scope cl C env
      wpAny (model prog w) A (assign tg EV v) (fun _ s₃ =>
        wpAny (model prog w) A (forIn ifs true fun c r => if r = true then do let ok ← isTrue c EV (eval c EV); pure (ForInStep.yield ok) else pure (ForInStep.yield r)) (fun ok s₄ =>
          Br ok (wpAny (model prog w) A (eval elt EV) K1 (fun _ _ => False) s₄) (K2 s₄)) (fun _ _ => False) s₃) (fun _ _ => False) s₁)
    (hfin : ∀ D ys nw, Inv n ys nw → ys.length ≤ n → fin g L m s₀ (((D, sob w ys.length) :: nw) ++ news) D) : CompOnS prog w A env scope cl tg elt ifs fin Inv it s := by
  obtain ⟨Ia, fp, wr, St, rfl, W, h1, h2, h3, h4⟩ := S
  refine ⟨g, L, m, news, s₀, Ia, fp, wr, n, P, St, rfl, I, W, hn, h1, h2, h3, h4, h0, fun G C i v own m₁ ys nw s₁ hG => step G C i v own m₁ ys nw s₁ (fun b o e => hG b o (fun hb => by rw [h2 b hb] at e; cases e) (I.keep b o e)) (fun p hp => hG _ _ (fun hb => h3 p hp (W.sub _ hb)) (I.N p hp).1) ?_, hfin⟩
  exact I.ns.at' fun o e => hG _ o (fun hb => h1 (W.sub _ hb)) e

end
/-! ## MLex -/
open AutoSeq1 (wpAny_loadPart')
noncomputable def sLt (x y : Str) : Bool := decide (x.cps.toList < y.cps.toList)
/-- `xs < ys` of lists of texts -/
noncomputable def lexLt : List Str → List Str → Bool
  | x :: xs, y :: ys => if x = y then lexLt xs ys else sLt x y
  | [], ys => !ys.isEmpty
  | _ :: _, [] => false
/-- `xs > ys` of lists of texts -/
noncomputable def lexGt : List Str → List Str → Bool
  | x :: xs, y :: ys => if x = y then lexGt xs ys else sLt y x
  | [], ys => false
  | _ :: _, [] => true
theorem strsAre_getL {vs : List Value} {xs : List Str} (h : StrsAre vs xs) {i : Nat} (hi : i < vs.length) : ∃ x t, vs[i]? = some (.str x t) ∧ xs.drop i = x :: xs.drop (i + 1) := by
  have hl := h.length
  obtain ⟨t, ht⟩ := h.at (j := i) (y := xs[i]'(by omega)) (by simp [show i < xs.length by omega])
  exact ⟨_, t, ht, by rw [List.drop_eq_getElem_cons (by omega)]⟩

theorem lt_loop (a b : Addr) (va vb : List Value) (na nb : Nat) (xs ys : List Str) (hx : StrsAre va xs) (hy : StrsAre vb ys) (k : Nat) :
    ∀ i : Nat, va.length - i = k → i ≤ va.length → i ≤ vb.length → Meets (Builtin.«list.__eq__.loop» ⟨[.ref a, .ref b, rawInt i, rawInt 0], []⟩)
      (fun A R s => s.heap.get? a = some (LL va na) ∧ s.heap.get? b = some (LL vb nb) ∧ R (.ok (.ret (.bool (lexLt (xs.drop i) (ys.drop i))))) s) := by
  have hxl := hx.length
  have hyl := hy.length
  induction k with
  | zero =>
    intro i hk hi1 hi2 prog w A R s h
    obtain ⟨hp, g, d, tk, os⟩ := s; obtain ⟨ha, hb, h⟩ := h
    unfold LL at ha hb
    wp_walk using wpAny_loadPart' ha, wpAny_loadPart' hb
    have e1 : va.toArray[((i : Nat) : Int).toNat]? = none := by simp; omega
    rw [e1]
    have hd : xs.drop i = [] := by simp; omega
    rw [hd] at h
    wp_walk using wpAny_loadPart' ha, wpAny_loadPart' hb
    show R (.ok (.ret (.bool (decide (va.toArray.size < vb.toArray.size))))) _
    have : lexLt [] (ys.drop i) = decide (va.toArray.size < vb.toArray.size) := by
      cases hq : ys.drop i with
      | nil =>
        have := congrArg List.length hq
        simp at this
        simp [lexLt]; omega
      | cons y l =>
        have := congrArg List.length hq
        simp at this
        simp [lexLt]; omega
    rw [← this]; exact h
  | succ k ih =>
    intro i hk hi1 hi2 prog w A R s h
    obtain ⟨hp, g, d, tk, os⟩ := s; obtain ⟨ha, hb, h⟩ := h
    have ha' := ha
    have hb' := hb
    unfold LL at ha hb
    obtain ⟨x, t, e1, hdx⟩ := strsAre_getL hx (i := i) (by omega)
    have e1' : va.toArray[((i : Nat) : Int).toNat]? = some (.str x t) := by simpa using e1
    wp_walk using wpAny_loadPart' ha, wpAny_loadPart' hb
    by_cases hlt : i < vb.length
    · obtain ⟨y, u, e2, hdy⟩ := strsAre_getL hy hlt
      have e2' : vb.toArray[((i : Nat) : Int).toNat]? = some (.str y u) := by simpa using e2
      rw [e1', e2']
      rw [hdx, hdy] at h
      have hc : ((i : Int) + 1) = ((i + 1 : Nat) : Int) := by push_cast; rfl
      refine wpAny_bind (eqGives_str x y t u _ _ _ _ _ _ ?_)
      by_cases hxy : x = y
      · rw [show (x == y) = true from by simp [hxy]]
        wp_walk
        rw [hc]
        exact ⟨plainId_quiet MeetsSeq3.plain_eq_loop _, codeAny_builtin MeetsSeq3.entry_eq_loop (by
          rw [Around.under_plainId MeetsSeq3.plain_eq_loop _]
          exact ih (i + 1) (by omega) (by omega) (by omega) prog w A R _ ⟨ha', hb', by unfold lexLt at h; rw [if_pos hxy] at h; exact h⟩)⟩
      · rw [show (x == y) = false from by simp [hxy]]
        wp_walk using wpAny_loadPart' ha, wpAny_loadPart' hb
        rw [e1', e2']
        refine wpAny_bind ?_
        show wpAny _ _ (compareOp .Lt (.str x t) (.str y u)) _ _ _
        refine lt_str ?_
        refine wpAny_pure ?_
        unfold lexLt at h
        rw [if_neg hxy] at h
        exact h
    · have e2' : vb.toArray[((i : Nat) : Int).toNat]? = none := by simp; omega
      rw [e1', e2']
      have hdy : ys.drop i = [] := by simp; omega
      rw [hdx, hdy] at h
      wp_walk using wpAny_loadPart' ha, wpAny_loadPart' hb
      show R (.ok (.ret (.bool (decide (va.toArray.size < vb.toArray.size))))) _
      have : lexLt (x :: xs.drop (i + 1)) [] = decide (va.toArray.size < vb.toArray.size) := by
        simp [lexLt]; omega
      rw [← this]; exact h

theorem gt_loop (a b : Addr) (va vb : List Value) (na nb : Nat) (xs ys : List Str) (hx : StrsAre va xs) (hy : StrsAre vb ys) (k : Nat) :
    ∀ i : Nat, va.length - i = k → i ≤ va.length → i ≤ vb.length → Meets (Builtin.«list.__eq__.loop» ⟨[.ref a, .ref b, rawInt i, rawInt 4], []⟩)
      (fun A R s => s.heap.get? a = some (LL va na) ∧ s.heap.get? b = some (LL vb nb) ∧ R (.ok (.ret (.bool (lexGt (xs.drop i) (ys.drop i))))) s) := by
  have hxl := hx.length
  have hyl := hy.length
  induction k with
  | zero =>
    intro i hk hi1 hi2 prog w A R s h
    obtain ⟨hp, g, d, tk, os⟩ := s; obtain ⟨ha, hb, h⟩ := h
    unfold LL at ha hb
    wp_walk using wpAny_loadPart' ha, wpAny_loadPart' hb
    have e1 : va.toArray[((i : Nat) : Int).toNat]? = none := by simp; omega
    rw [e1]
    have hd : xs.drop i = [] := by simp; omega
    rw [hd] at h
    wp_walk using wpAny_loadPart' ha, wpAny_loadPart' hb
    show R (.ok (.ret (.bool (decide (va.toArray.size > vb.toArray.size))))) _
    have : lexGt [] (ys.drop i) = decide (va.toArray.size > vb.toArray.size) := by
      cases hq : ys.drop i with
      | nil =>
        have := congrArg List.length hq
        simp at this
        simp [lexGt]; omega
      | cons y l =>
        have := congrArg List.length hq
        simp at this
        simp [lexGt]; omega
    rw [← this]; exact h
  | succ k ih =>
    intro i hk hi1 hi2 prog w A R s h
    obtain ⟨hp, g, d, tk, os⟩ := s; obtain ⟨ha, hb, h⟩ := h
    have ha' := ha
    have hb' := hb
    unfold LL at ha hb
    obtain ⟨x, t, e1, hdx⟩ := strsAre_getL hx (i := i) (by omega)
    have e1' : va.toArray[((i : Nat) : Int).toNat]? = some (.str x t) := by simpa using e1
    wp_walk using wpAny_loadPart' ha, wpAny_loadPart' hb
    by_cases hlt : i < vb.length
    · obtain ⟨y, u, e2, hdy⟩ := strsAre_getL hy hlt
      have e2' : vb.toArray[((i : Nat) : Int).toNat]? = some (.str y u) := by simpa using e2
      rw [e1', e2']
      rw [hdx, hdy] at h
      have hc : ((i : Int) + 1) = ((i + 1 : Nat) : Int) := by push_cast; rfl
      refine wpAny_bind (eqGives_str x y t u _ _ _ _ _ _ ?_)
      by_cases hxy : x = y
      · rw [show (x == y) = true from by simp [hxy]]
        wp_walk
        rw [hc]
        exact ⟨plainId_quiet MeetsSeq3.plain_eq_loop _, codeAny_builtin MeetsSeq3.entry_eq_loop (by
          rw [Around.under_plainId MeetsSeq3.plain_eq_loop _]
          exact ih (i + 1) (by omega) (by omega) (by omega) prog w A R _ ⟨ha', hb', by unfold lexGt at h; rw [if_pos hxy] at h; exact h⟩)⟩
      · rw [show (x == y) = false from by simp [hxy]]
        wp_walk using wpAny_loadPart' ha, wpAny_loadPart' hb
        rw [e1', e2']
        refine wpAny_bind ?_
        show wpAny _ _ (compareOp .Gt (.str x t) (.str y u)) _ _ _
        refine P.gt_str ?_
        refine wpAny_pure ?_
        unfold lexGt at h
        rw [if_neg hxy] at h
        exact h
    · have e2' : vb.toArray[((i : Nat) : Int).toNat]? = none := by simp; omega
      rw [e1', e2']
      have hdy : ys.drop i = [] := by simp; omega
      rw [hdx, hdy] at h
      wp_walk using wpAny_loadPart' ha, wpAny_loadPart' hb
      show R (.ok (.ret (.bool (decide (va.toArray.size > vb.toArray.size))))) _
      have : lexGt (x :: xs.drop (i + 1)) [] = decide (va.toArray.size > vb.toArray.size) := by
        simp [lexGt]; omega
      rw [← this]; exact h
/-! ## MLex2 -/
open AutoSeq1 (wpAny_loadPart')

theorem list_lt (a b : Addr) (va vb : List Value) (na nb : Nat) (xs ys : List Str) (hx : StrsAre va xs) (hy : StrsAre vb ys) :
    Meets (Builtin.«list.__lt__» ⟨[.ref a, .ref b], []⟩)
      (fun A R s => s.heap.get? a = some (LL va na) ∧ s.heap.get? b = some (LL vb nb) ∧ R (.ok (.ret (.bool (lexLt xs ys)))) s) := by
  intro prog w A R s h
  obtain ⟨hp, g, d, tk, os⟩ := s; obtain ⟨hl, hb, h⟩ := h
  have f3 := AutoSeq1.sub_list_list
  have hl' := hl
  have hb' := hb
  unfold LL at hl' hb'
  wp_walk using wpAny_loadPart' hl', wpAny_loadPart' hb'
  exact ⟨plainId_quiet MeetsSeq3.plain_eq_loop _, codeAny_builtin MeetsSeq3.entry_eq_loop (by
    rw [Around.under_plainId MeetsSeq3.plain_eq_loop _]
    exact lt_loop a b va vb na nb xs ys hx hy _ 0 rfl (Nat.zero_le _) (Nat.zero_le _) prog w A R _ ⟨hl, hb, by simpa using h⟩)⟩
section
variable {prog : Program} {w : World} {A : Around} {E : Value → Shared → Prop} {s : Shared} {a b it l S : Addr}
theorem rc_lt {va vb : List Value} {na nb : Nat} {xs ys : List Str} {Q : Value → Shared → Prop} (ha : s.heap.get? a = some (LL va na)) (hb : s.heap.get? b = some (LL vb nb)) (hx : StrsAre va xs) (hy : StrsAre vb ys) (hu : A.units < cLine)
    (h : Q (.bool (lexLt xs ys)) s) : wpAny (model prog w) A (richCompare .Lt (.ref a) (.ref b)) Q E s :=
  richCompare_meets_room (op := .Lt) ⟨_, ha, rfl⟩ ⟨_, hb, rfl⟩ F.slot_list_lt F.entry_list_lt (F.args_list_lt_2 _ _) (list_lt a b va vb na nb xs ys hx hy)
    ⟨ha, hb, show Value.bool (lexLt xs ys) ≠ Value.notImplemented ∧ Q (.bool (lexLt xs ys)) s from ⟨(fun x => nomatch x), h⟩⟩ hu
end

theorem list_gt (a b : Addr) (va vb : List Value) (na nb : Nat) (xs ys : List Str) (hx : StrsAre va xs) (hy : StrsAre vb ys) :
    Meets (Builtin.«list.__gt__» ⟨[.ref a, .ref b], []⟩)
      (fun A R s => s.heap.get? a = some (LL va na) ∧ s.heap.get? b = some (LL vb nb) ∧ R (.ok (.ret (.bool (lexGt xs ys)))) s) := by
  intro prog w A R s h
  obtain ⟨hp, g, d, tk, os⟩ := s; obtain ⟨hl, hb, h⟩ := h
  have f3 := AutoSeq1.sub_list_list
  have hl' := hl
  have hb' := hb
  unfold LL at hl' hb'
  wp_walk using wpAny_loadPart' hl', wpAny_loadPart' hb'
  exact ⟨plainId_quiet MeetsSeq3.plain_eq_loop _, codeAny_builtin MeetsSeq3.entry_eq_loop (by
    rw [Around.under_plainId MeetsSeq3.plain_eq_loop _]
    exact gt_loop a b va vb na nb xs ys hx hy _ 0 rfl (Nat.zero_le _) (Nat.zero_le _) prog w A R _ ⟨hl, hb, by simpa using h⟩)⟩
section
variable {prog : Program} {w : World} {A : Around} {E : Value → Shared → Prop} {s : Shared} {a b it l S : Addr}
theorem rc_gt {va vb : List Value} {na nb : Nat} {xs ys : List Str} {Q : Value → Shared → Prop} (ha : s.heap.get? a = some (LL va na)) (hb : s.heap.get? b = some (LL vb nb)) (hx : StrsAre va xs) (hy : StrsAre vb ys) (hu : A.units < cLine)
    (h : Q (.bool (lexGt xs ys)) s) : wpAny (model prog w) A (richCompare .Gt (.ref a) (.ref b)) Q E s :=
  richCompare_meets_room (op := .Gt) ⟨_, ha, rfl⟩ ⟨_, hb, rfl⟩ F.slot_list_gt F.entry_list_gt (F.args_list_gt_2 _ _) (list_gt a b va vb na nb xs ys hx hy)
    ⟨ha, hb, show Value.bool (lexGt xs ys) ≠ Value.notImplemented ∧ Q (.bool (lexGt xs ys)) s from ⟨(fun x => nomatch x), h⟩⟩ hu
end
/-! ## MMin -/
section
variable {prog : Program} {w : World} {A : Around} {E : Value → Shared → Prop} {s s₀ : Shared} {g : Heap} {L : Addr} {m : Str → Option Value} {news : List (Addr × Obj)}

theorem q_min2 {l a b : Addr} {va vb : List Value} {na nb : Nat} {xa xb : List Str} {Q : Value → Shared → Prop} (R : Room A 10) (I : At g L m news s₀ s) (hl : s.heap.IsList l #[.ref a, .ref b]) (ha : s.heap.get? a = some (LL va na)) (hb : s.heap.get? b = some (LL vb nb)) (hx : StrsAre va xa) (hy : StrsAre vb xb)
    (h : ∀ s', At g L m news s₀ s' → Q (.ref (if lexLt xb xa = true then b else a)) s') : wpAny (model prog w) A (call (.builtin "min") [.ref l]) Q E s := by
  have hname : (toString "min" ++ toString ".loop" : String) = "min.loop" := by decide
  have hh : A.handled = none := R.h
  have fin : ∀ h' tk, (∀ b o, s.heap.get? b = some o → h'.get? b = some o) → Q (.ref (if lexLt xb xa = true then b else a)) { s with heap := h', toks := tk } := fun h' tk hk => h _ (I.grow ⟨h', tk, rfl, hk⟩)
  clear h I
  refine call_function_tree F.kind_min F.plain_min F.entry_min (F.args_min1 _) ?_
  show wpAny _ A.in1 (Builtin.Builtins.bindParams "min" ["key", "default"] 0 ⟨[], []⟩ >>= _) _ _ s
  refine wpAny_bind (wpAny_of_eq (show Builtin.Builtins.bindParams "min" ["key", "default"] 0 ⟨[], []⟩ = pure [none, none] from rfl) ?_)
  refine wpAny_bind (wpAny_pure ?_)
  refine wpAny_bind (wpAny_pyIter_list hl ?_)
  refine wpAny_bind (wpAny_newObj_type ?_)
  rw [hname]
  have e1 : (s.heap.push { cls := .type "list_iterator", data := .fields #[.ref l, .int 0 0] }).objs.size = s.heap.objs.size + 1 := Heap.size_push ..
  have hlS : l < s.heap.objs.size := by obtain ⟨o, ho, _⟩ := hl; exact Heap.lt_size ho
  have haS : a < s.heap.objs.size := Heap.lt_size ha
  have hbS : b < s.heap.objs.size := Heap.lt_size hb
  have hit₀ : ((s.heap.push { cls := .type "list_iterator", data := .fields #[.ref l, .int 0 0] }).push { cls := .type "list", data := .seq ([] : List Value).toArray }).IsListIter s.heap.objs.size l (0 : Nat) := ⟨_, Heap.get?_push_of_some _ (Heap.get?_push_size _ rfl), rfl, rfl⟩
  have hS₀ : ((s.heap.push { cls := .type "list_iterator", data := .fields #[.ref l, .int 0 0] }).push { cls := .type "list", data := .seq ([] : List Value).toArray }).get? (s.heap.objs.size + 1) = some { cls := .type "list", dict := none, data := .seq #[] 0, slots := #[] } := by
    rw [← e1]; exact Heap.get?_push_size _ rfl
  have hk₀ : ∀ b o, s.heap.get? b = some o → ((s.heap.push { cls := .type "list_iterator", data := .fields #[.ref l, .int 0 0] }).push { cls := .type "list", data := .seq ([] : List Value).toArray }).get? b = some o := fun b o e => Heap.get?_push_of_some _ (Heap.get?_push_of_some _ e)
  rw [e1]
  generalize ((s.heap.push { cls := .type "list_iterator", data := .fields #[.ref l, .int 0 0] }).push { cls := .type "list", data := .seq ([] : List Value).toArray }) = H0 at hit₀ hS₀ hk₀ ⊢
  have kp : ∀ {H : Heap}, (∀ b o, b < s.heap.objs.size → H0.get? b = some o → H.get? b = some o) → (∀ b o, s.heap.get? b = some o → H.get? b = some o) := fun k b o e => k b o (Heap.lt_size e) (hk₀ b o e)
  have isl : ∀ {H : Heap}, (∀ b o, s.heap.get? b = some o → H.get? b = some o) → H.IsList l #[.ref a, .ref b] := fun k => isl_keeps hl k
  refine wpAny_pure ⟨plainId_quiet F.plain_min_loop _, ?_⟩
  -- the first item
  refine codeAny_builtin F.entry_min_loop ?_
  rw [Around.under_plainId F.plain_min_loop _]
  show wpAny _ _ (seqItems? (.ref (s.heap.objs.size + 1)) >>= _) _ _ _
  refine wpAny_bind (wpAny_seqItems hS₀ rfl ?_)
  show wpAny _ _ (tryCatch (pyNext (.ref s.heap.objs.size)) _ >>= _) _ _ _
  refine wpAny_bind (wpAny_tryCatch (wpAny_pyNext_list_item hit₀ (isl hk₀) (x := .ref a) rfl fun H1 hit₁ hs₁ => ?_))
  replace hs₁ : Heap.SameBut s.heap.objs.size H0 H1 := hs₁
  have hS₁ : H1.get? (s.heap.objs.size + 1) = some { cls := .type "list", dict := none, data := .seq #[] 0, slots := #[] } := (hs₁.2 (s.heap.objs.size + 1) (Nat.succ_ne_self _)).trans hS₀
  show wpAny _ _ (updateSeq (s.heap.objs.size + 1) (fun _ => #[Value.ref a, Value.ref a]) >>= _) _ _ _
  refine wpAny_bind ?_
  refine wpAny_updateSeq hS₁ rfl ?_
  rw [hname]
  have hS₂ := Heap.get?_update_self (Obj.mapSeq (fun _ => #[Value.ref a, Value.ref a])) hS₁ rfl
  have k₂ : ∀ b o, b < s.heap.objs.size + 1 → H1.get? b = some o → (H1.update (s.heap.objs.size + 1) (Obj.mapSeq (fun _ => #[Value.ref a, Value.ref a]))).get? b = some o := fun b o hb e => (Heap.get?_update_other _ _ (Nat.ne_of_gt hb)).trans e
  have hit₂ : (H1.update (s.heap.objs.size + 1) (Obj.mapSeq (fun _ => #[Value.ref a, Value.ref a]))).IsListIter s.heap.objs.size l (1 : Nat) := by
    obtain ⟨o, ho, r⟩ := hit₁; exact ⟨o, k₂ _ _ (Nat.lt_succ_self _) ho, r⟩
  have hk₂ : ∀ b o, s.heap.get? b = some o → (H1.update (s.heap.objs.size + 1) (Obj.mapSeq (fun _ => #[Value.ref a, Value.ref a]))).get? b = some o := fun b o e => k₂ b o (Nat.lt_succ_of_lt (Heap.lt_size e)) ((hs₁.2 b (Nat.ne_of_lt (Heap.lt_size e))).trans (hk₀ b o e))
  generalize H1.update (s.heap.objs.size + 1) (Obj.mapSeq (fun _ => #[Value.ref a, Value.ref a])) = H2 at hS₂ hit₂ hk₂ ⊢
  refine wpAny_pure ⟨plainId_quiet F.plain_min_loop _, ?_⟩
  -- the second item
  refine codeAny_builtin F.entry_min_loop ?_
  rw [Around.under_plainId F.plain_min_loop _]
  show wpAny _ _ (seqItems? (.ref (s.heap.objs.size + 1)) >>= _) _ _ _
  refine wpAny_bind (wpAny_seqItems hS₂ rfl ?_)
  show wpAny _ _ (tryCatch (pyNext (.ref s.heap.objs.size)) _ >>= _) _ _ _
  refine wpAny_bind (wpAny_tryCatch (wpAny_pyNext_list_item hit₂ (isl hk₂) (x := .ref b) rfl fun H3 hit₃ hs₃ => ?_))
  replace hs₃ : Heap.SameBut s.heap.objs.size H2 H3 := hs₃
  have hS₃ := (hs₃.2 (s.heap.objs.size + 1) (Nat.succ_ne_self _)).trans hS₂
  have hk₃ : ∀ b o, s.heap.get? b = some o → H3.get? b = some o := fun b o e => (hs₃.2 b (Nat.ne_of_lt (Heap.lt_size e))).trans (hk₂ b o e)
  show wpAny _ _ (tryCatch (holding [Value.ref b, Value.ref b] (richCompare .Lt (.ref b) (.ref a) >>= _)) _ >>= _) _ _ _
  refine wpAny_bind (wpAny_tryCatch (wpAny_holding (wpAny_bind (rc_lt (hk₃ _ _ hb) (hk₃ _ _ ha) hy hx (R.less (j := 5) (by omega)).in1.units ?_))))
  refine wpAny_bind (wpAny_holding (wpAny_truthy_bool ?_))
  refine wpAny_bind (wpAny_letGo (wpAny_pure ?_))
  have last : ∀ (H4 : Heap) (v : Addr) (c : Nat), H4.IsListIter s.heap.objs.size l (2 : Nat) → (∀ b o, s.heap.get? b = some o → H4.get? b = some o) → H4.get? (s.heap.objs.size + 1) = some { cls := .type "list", dict := none, data := .seq #[.ref v, .ref v] c, slots := #[] } → v = (if lexLt xb xa = true then b else a) →
      codeAny (model prog w) A (.builtin "min.loop" ⟨[.ref s.heap.objs.size, .none, .ref (s.heap.objs.size + 1)], []⟩) (fun r s' => match r with | .ok (.ret v) => Q v s' | .ok _ => False | .error e => E e s') { s with heap := H4 } := by
    rintro H4 v c hit₄ hk₄ hS₄ rfl
    refine codeAny_builtin F.entry_min_loop ?_
    rw [Around.under_plainId F.plain_min_loop _]
    show wpAny _ _ (seqItems? (.ref (s.heap.objs.size + 1)) >>= _) _ _ _
    refine wpAny_bind (wpAny_seqItems hS₄ rfl ?_)
    show wpAny _ _ (tryCatch (pyNext (.ref s.heap.objs.size)) _ >>= _) _ _ _
    refine wpAny_bind (wpAny_tryCatch (wpAny_pyNext_list_end hh hit₄ (isl hk₄) rfl fun H5 hs₅ => ?_))
    replace hs₅ : Heap.ExtBut s.heap.objs.size H4 H5 := hs₅
    have hS₅ := hs₅ (s.heap.objs.size + 1) _ (Nat.succ_ne_self _) hS₄
    show wpAny _ _ (updateSeq (s.heap.objs.size + 1) (fun _ => #[]) >>= _) _ _ _
    refine wpAny_bind ?_
    refine wpAny_updateSeq hS₅ rfl (wpAny_bind (wpAny_letGo (wpAny_pure ?_)))
    exact fin _ s.toks fun b o e => (Heap.get?_update_other _ _ (Nat.ne_of_gt (Nat.lt_succ_of_lt (Heap.lt_size e)))).trans (hs₅ b o (Nat.ne_of_lt (Heap.lt_size e)) (hk₄ b o e))
  cases hc : lexLt xb xa with
  | true =>
    simp only [if_true]
    refine wpAny_bind ?_
    refine wpAny_updateSeq hS₃ rfl (wpAny_bind (wpAny_letGo ?_))
    rw [hname]
    refine wpAny_pure ⟨plainId_quiet F.plain_min_loop _, last _ b _ ?_ (fun b o e => ?_) (Heap.get?_update_self _ hS₃ rfl) (by rw [hc]; rfl)⟩
    · obtain ⟨o, ho, r⟩ := hit₃
      exact ⟨o, (Heap.get?_update_other _ _ (Nat.succ_ne_self _)).trans ho, r⟩
    · exact (Heap.get?_update_other _ _ (Nat.ne_of_gt (Nat.lt_succ_of_lt (Heap.lt_size e)))).trans (hk₃ b o e)
  | false =>
    simp only [Bool.false_eq_true, if_false]
    refine wpAny_bind (wpAny_letGo ?_)
    rw [hname]
    exact wpAny_pure ⟨plainId_quiet F.plain_min_loop _, last _ a _ hit₃ hk₃ hS₃ (by rw [hc]; rfl)⟩

theorem q_max2 {l a b : Addr} {va vb : List Value} {na nb : Nat} {xa xb : List Str} {Q : Value → Shared → Prop} (R : Room A 10) (I : At g L m news s₀ s) (hl : s.heap.IsList l #[.ref a, .ref b]) (ha : s.heap.get? a = some (LL va na)) (hb : s.heap.get? b = some (LL vb nb)) (hx : StrsAre va xa) (hy : StrsAre vb xb)
    (h : ∀ s', At g L m news s₀ s' → Q (.ref (if lexGt xb xa = true then b else a)) s') : wpAny (model prog w) A (call (.builtin "max") [.ref l]) Q E s := by
  have hname : (toString "max" ++ toString ".loop" : String) = "max.loop" := by decide
  have hh : A.handled = none := R.h
  have fin : ∀ h' tk, (∀ b o, s.heap.get? b = some o → h'.get? b = some o) → Q (.ref (if lexGt xb xa = true then b else a)) { s with heap := h', toks := tk } := fun h' tk hk => h _ (I.grow ⟨h', tk, rfl, hk⟩)
  clear h I
  refine call_function_tree F.kind_max F.plain_max F.entry_max (F.args_max1 _) ?_
  show wpAny _ A.in1 (Builtin.Builtins.bindParams "max" ["key", "default"] 0 ⟨[], []⟩ >>= _) _ _ s
  refine wpAny_bind (wpAny_of_eq (show Builtin.Builtins.bindParams "max" ["key", "default"] 0 ⟨[], []⟩ = pure [none, none] from rfl) ?_)
  refine wpAny_bind (wpAny_pure ?_)
  refine wpAny_bind (wpAny_pyIter_list hl ?_)
  refine wpAny_bind (wpAny_newObj_type ?_)
  rw [hname]
  have e1 : (s.heap.push { cls := .type "list_iterator", data := .fields #[.ref l, .int 0 0] }).objs.size = s.heap.objs.size + 1 := Heap.size_push ..
  have hlS : l < s.heap.objs.size := by obtain ⟨o, ho, _⟩ := hl; exact Heap.lt_size ho
  have haS : a < s.heap.objs.size := Heap.lt_size ha
  have hbS : b < s.heap.objs.size := Heap.lt_size hb
  have hit₀ : ((s.heap.push { cls := .type "list_iterator", data := .fields #[.ref l, .int 0 0] }).push { cls := .type "list", data := .seq ([] : List Value).toArray }).IsListIter s.heap.objs.size l (0 : Nat) := ⟨_, Heap.get?_push_of_some _ (Heap.get?_push_size _ rfl), rfl, rfl⟩
  have hS₀ : ((s.heap.push { cls := .type "list_iterator", data := .fields #[.ref l, .int 0 0] }).push { cls := .type "list", data := .seq ([] : List Value).toArray }).get? (s.heap.objs.size + 1) = some { cls := .type "list", dict := none, data := .seq #[] 0, slots := #[] } := by
    rw [← e1]; exact Heap.get?_push_size _ rfl
  have hk₀ : ∀ b o, s.heap.get? b = some o → ((s.heap.push { cls := .type "list_iterator", data := .fields #[.ref l, .int 0 0] }).push { cls := .type "list", data := .seq ([] : List Value).toArray }).get? b = some o := fun b o e => Heap.get?_push_of_some _ (Heap.get?_push_of_some _ e)
  rw [e1]
  generalize ((s.heap.push { cls := .type "list_iterator", data := .fields #[.ref l, .int 0 0] }).push { cls := .type "list", data := .seq ([] : List Value).toArray }) = H0 at hit₀ hS₀ hk₀ ⊢
  have kp : ∀ {H : Heap}, (∀ b o, b < s.heap.objs.size → H0.get? b = some o → H.get? b = some o) → (∀ b o, s.heap.get? b = some o → H.get? b = some o) := fun k b o e => k b o (Heap.lt_size e) (hk₀ b o e)
  have isl : ∀ {H : Heap}, (∀ b o, s.heap.get? b = some o → H.get? b = some o) → H.IsList l #[.ref a, .ref b] := fun k => isl_keeps hl k
  refine wpAny_pure ⟨plainId_quiet F.plain_max_loop _, ?_⟩
  -- the first item
  refine codeAny_builtin F.entry_max_loop ?_
  rw [Around.under_plainId F.plain_max_loop _]
  show wpAny _ _ (seqItems? (.ref (s.heap.objs.size + 1)) >>= _) _ _ _
  refine wpAny_bind (wpAny_seqItems hS₀ rfl ?_)
  show wpAny _ _ (tryCatch (pyNext (.ref s.heap.objs.size)) _ >>= _) _ _ _
  refine wpAny_bind (wpAny_tryCatch (wpAny_pyNext_list_item hit₀ (isl hk₀) (x := .ref a) rfl fun H1 hit₁ hs₁ => ?_))
  replace hs₁ : Heap.SameBut s.heap.objs.size H0 H1 := hs₁
  have hS₁ : H1.get? (s.heap.objs.size + 1) = some { cls := .type "list", dict := none, data := .seq #[] 0, slots := #[] } := (hs₁.2 (s.heap.objs.size + 1) (Nat.succ_ne_self _)).trans hS₀
  show wpAny _ _ (updateSeq (s.heap.objs.size + 1) (fun _ => #[Value.ref a, Value.ref a]) >>= _) _ _ _
  refine wpAny_bind ?_
  refine wpAny_updateSeq hS₁ rfl ?_
  rw [hname]
  have hS₂ := Heap.get?_update_self (Obj.mapSeq (fun _ => #[Value.ref a, Value.ref a])) hS₁ rfl
  have k₂ : ∀ b o, b < s.heap.objs.size + 1 → H1.get? b = some o → (H1.update (s.heap.objs.size + 1) (Obj.mapSeq (fun _ => #[Value.ref a, Value.ref a]))).get? b = some o := fun b o hb e => (Heap.get?_update_other _ _ (Nat.ne_of_gt hb)).trans e
  have hit₂ : (H1.update (s.heap.objs.size + 1) (Obj.mapSeq (fun _ => #[Value.ref a, Value.ref a]))).IsListIter s.heap.objs.size l (1 : Nat) := by
    obtain ⟨o, ho, r⟩ := hit₁; exact ⟨o, k₂ _ _ (Nat.lt_succ_self _) ho, r⟩
  have hk₂ : ∀ b o, s.heap.get? b = some o → (H1.update (s.heap.objs.size + 1) (Obj.mapSeq (fun _ => #[Value.ref a, Value.ref a]))).get? b = some o := fun b o e => k₂ b o (Nat.lt_succ_of_lt (Heap.lt_size e)) ((hs₁.2 b (Nat.ne_of_lt (Heap.lt_size e))).trans (hk₀ b o e))
  generalize H1.update (s.heap.objs.size + 1) (Obj.mapSeq (fun _ => #[Value.ref a, Value.ref a])) = H2 at hS₂ hit₂ hk₂ ⊢
  refine wpAny_pure ⟨plainId_quiet F.plain_max_loop _, ?_⟩
  -- the second item
  refine codeAny_builtin F.entry_max_loop ?_
  rw [Around.under_plainId F.plain_max_loop _]
  show wpAny _ _ (seqItems? (.ref (s.heap.objs.size + 1)) >>= _) _ _ _
  refine wpAny_bind (wpAny_seqItems hS₂ rfl ?_)
  show wpAny _ _ (tryCatch (pyNext (.ref s.heap.objs.size)) _ >>= _) _ _ _
  refine wpAny_bind (wpAny_tryCatch (wpAny_pyNext_list_item hit₂ (isl hk₂) (x := .ref b) rfl fun H3 hit₃ hs₃ => ?_))
  replace hs₃ : Heap.SameBut s.heap.objs.size H2 H3 := hs₃
  have hS₃ := (hs₃.2 (s.heap.objs.size + 1) (Nat.succ_ne_self _)).trans hS₂
  have hk₃ : ∀ b o, s.heap.get? b = some o → H3.get? b = some o := fun b o e => (hs₃.2 b (Nat.ne_of_lt (Heap.lt_size e))).trans (hk₂ b o e)
  show wpAny _ _ (tryCatch (holding [Value.ref b, Value.ref b] (richCompare .Gt (.ref b) (.ref a) >>= _)) _ >>= _) _ _ _
  refine wpAny_bind (wpAny_tryCatch (wpAny_holding (wpAny_bind (rc_gt (hk₃ _ _ hb) (hk₃ _ _ ha) hy hx (R.less (j := 5) (by omega)).in1.units ?_))))
  refine wpAny_bind (wpAny_holding (wpAny_truthy_bool ?_))
  refine wpAny_bind (wpAny_letGo (wpAny_pure ?_))
  have last : ∀ (H4 : Heap) (v : Addr) (c : Nat), H4.IsListIter s.heap.objs.size l (2 : Nat) → (∀ b o, s.heap.get? b = some o → H4.get? b = some o) → H4.get? (s.heap.objs.size + 1) = some { cls := .type "list", dict := none, data := .seq #[.ref v, .ref v] c, slots := #[] } → v = (if lexGt xb xa = true then b else a) →
      codeAny (model prog w) A (.builtin "max.loop" ⟨[.ref s.heap.objs.size, .none, .ref (s.heap.objs.size + 1)], []⟩) (fun r s' => match r with | .ok (.ret v) => Q v s' | .ok _ => False | .error e => E e s') { s with heap := H4 } := by
    rintro H4 v c hit₄ hk₄ hS₄ rfl
    refine codeAny_builtin F.entry_max_loop ?_
    rw [Around.under_plainId F.plain_max_loop _]
    show wpAny _ _ (seqItems? (.ref (s.heap.objs.size + 1)) >>= _) _ _ _
    refine wpAny_bind (wpAny_seqItems hS₄ rfl ?_)
    show wpAny _ _ (tryCatch (pyNext (.ref s.heap.objs.size)) _ >>= _) _ _ _
    refine wpAny_bind (wpAny_tryCatch (wpAny_pyNext_list_end hh hit₄ (isl hk₄) rfl fun H5 hs₅ => ?_))
    replace hs₅ : Heap.ExtBut s.heap.objs.size H4 H5 := hs₅
    have hS₅ := hs₅ (s.heap.objs.size + 1) _ (Nat.succ_ne_self _) hS₄
    show wpAny _ _ (updateSeq (s.heap.objs.size + 1) (fun _ => #[]) >>= _) _ _ _
    refine wpAny_bind ?_
    refine wpAny_updateSeq hS₅ rfl (wpAny_bind (wpAny_letGo (wpAny_pure ?_)))
    exact fin _ s.toks fun b o e => (Heap.get?_update_other _ _ (Nat.ne_of_gt (Nat.lt_succ_of_lt (Heap.lt_size e)))).trans (hs₅ b o (Nat.ne_of_lt (Heap.lt_size e)) (hk₄ b o e))
  cases hc : lexGt xb xa with
  | true =>
    simp only [if_true]
    refine wpAny_bind ?_
    refine wpAny_updateSeq hS₃ rfl (wpAny_bind (wpAny_letGo ?_))
    rw [hname]
    refine wpAny_pure ⟨plainId_quiet F.plain_max_loop _, last _ b _ ?_ (fun b o e => ?_) (Heap.get?_update_self _ hS₃ rfl) (by rw [hc]; rfl)⟩
    · obtain ⟨o, ho, r⟩ := hit₃
      exact ⟨o, (Heap.get?_update_other _ _ (Nat.succ_ne_self _)).trans ho, r⟩
    · exact (Heap.get?_update_other _ _ (Nat.ne_of_gt (Nat.lt_succ_of_lt (Heap.lt_size e)))).trans (hk₃ b o e)
  | false =>
    simp only [Bool.false_eq_true, if_false]
    refine wpAny_bind (wpAny_letGo ?_)
    rw [hname]
    exact wpAny_pure ⟨plainId_quiet F.plain_max_loop _, last _ a _ hit₃ hk₃ hS₃ (by rw [hc]; rfl)⟩
end
/-! ## MEnum -/
theorem Wk.enum {prog : Program} {w : World} {A : Around} (hh : A.handled = none) (e it l : Addr) (hei : e ≠ it) (hli : l ≠ it) (hle : l ≠ e) (items : Array Value) {elts : List Expr} {k : Nat} {pos : Pos} :
    Wk prog w A e [e, it, l] [e, it] items.size (.Tuple elts k pos) (fun i v h => ∃ T tk x, v = .ref T ∧ items[i]? = some x ∧ IsTup h T [.int (i : Nat) tk, x].toArray) (fun i h => (∃ old, IsEnum h e it (i : Nat) old) ∧ h.IsListIter it l i ∧ h.IsList l items) where
  sub := fun b hb => by simp at hb ⊢; rcases hb with h | h <;> simp [h]
  frame := fun i h h' ⟨⟨old, h1⟩, ⟨o2, h2, r2⟩, ⟨o3, h3, r3⟩⟩ hk => ⟨⟨old, hk e (by simp) _ h1⟩, ⟨o2, hk it (by simp) _ h2, r2⟩, ⟨o3, hk l (by simp) _ h3, r3⟩⟩
  live := fun i h ⟨⟨old, h1⟩, ⟨o2, h2, _⟩, ⟨o3, h3, _⟩⟩ b hb => by
    simp only [List.mem_cons, List.not_mem_nil, or_false] at hb
    rcases hb with rfl | rfl | rfl
    · exact ⟨_, h1⟩
    · exact ⟨_, h2⟩
    · exact ⟨_, h3⟩
  item := fun i s Q E hi ⟨⟨old, h1⟩, h2, h3⟩ hQ => by
    have hx : items[i]? = some items[i] := by simp [hi]
    have heS : e < s.heap.objs.size := Heap.lt_size h1
    refine wpAny_pyNext_enum_item h1 h2 h3 hx hei fun h' ho hit ht hz hk => hQ _ h' _ (fun s₁ Q' E' es hq => ?_) fun b o hb x => hk b o (fun q => hb (by simp [q])) (fun q => hb (by simp [q])) x
    subst es
    refine wpAny_letOwnedTupleGo_enum ho fun h'' he hs => ?_
    replace hs : Heap.SameBut e s₁.heap h'' := hs
    have hl₁ : s₁.heap.IsList l items := let ⟨o3, g3, r3⟩ := h3; ⟨o3, hk l o3 hle hli g3, r3⟩
    refine hq h'' ⟨_, _, _, rfl, hx, ⟨_, (hs.2 _ (Nat.ne_of_gt heS)).trans ht, rfl, _, rfl⟩⟩ ⟨⟨_, by have := he; simpa using this⟩, ?_, ?_⟩ fun b o hb x => (hs.2 b fun q => hb (by simp [q])).trans x
    · obtain ⟨o2, g2, r2⟩ := hit; exact ⟨o2, (hs.2 it (Ne.symm hei)).trans g2, r2⟩
    · obtain ⟨o3, g3, r3⟩ := hl₁; exact ⟨o3, (hs.2 l hle).trans g3, r3⟩
  done := fun s Q E ⟨⟨old, h1⟩, h2, h3⟩ hQ => wpAny_pyNext_enum_end hh h1 h2 h3 (Array.getElem?_eq_none (Nat.le_refl _)) fun h' he => hQ h' s.toks fun b o hb x => he b o (fun q => hb (by simp [q])) x
  self := fun i s Q E ⟨⟨old, h1⟩, _, _⟩ hQ => wpAny_pyIter_enum h1 hQ

section
variable {prog : Program} {w : World} {A : Around} {E : Value → Shared → Prop} {s s₀ : Shared} {g : Heap} {L : Addr} {m : Str → Option Value} {news : List (Addr × Obj)}
theorem src_enum {la : Addr} {items : Array Value} {Q : Value → Shared → Prop} (hh : A.handled = none) (I : At g L m news s₀ s) (hl : g.IsList la items)
    (h : ∀ it s', At g L m news s₀ s' → (∀ elts k pos, Src prog w A (.Tuple elts k pos) items.size (fun i v h => ∃ T tk x, v = .ref T ∧ items[i]? = some x ∧ IsTup h T [.int (i : Nat) tk, x].toArray) g L news it s') → Q it s') :
    wpAny (model prog w) A (call (.type "enumerate") [.ref la]) (fun v s₁ => wpAny (model prog w) A (pyIter v) Q E s₁) E s := by
  obtain ⟨f1, f2, f3⟩ := I.fresh
  refine call_enumerate_list (isl_keeps hl I.keep) fun h' he hit hz hk => ?_
  have J : At g L m news s₀ { s with heap := h' } := I.grow ⟨h', s.toks, rfl, hk⟩
  have g2 : ∀ b, s.heap.objs.size ≤ b → g.get? b = none := fun b hb => by
    cases q : g.get? b with
    | none => rfl
    | some o => exact absurd (Heap.lt_size (I.keep _ _ q)) (Nat.not_lt.mpr hb)
  obtain ⟨ol, hol, rl⟩ := id hl
  have hlt := Heap.lt_size (I.keep _ _ hol)
  refine wpAny_pyIter_enum he ?_
  refine h _ _ J fun elts k pos => ⟨s.heap.objs.size + 1, [s.heap.objs.size + 1, s.heap.objs.size, la], [s.heap.objs.size + 1, s.heap.objs.size], _, rfl, Wk.enum hh _ _ la (Nat.succ_ne_self _) (Nat.ne_of_lt hlt) (Nat.ne_of_lt (Nat.lt_succ_of_lt hlt)) items, ?_, ?_, ?_, ⟨⟨_, he⟩, hit, ⟨ol, hk _ _ (I.keep _ _ hol), rl⟩⟩⟩
  · have hLt := I.ltL
    intro hm
    simp only [List.mem_cons, List.not_mem_nil, or_false] at hm
    rcases hm with h | h | h
    · rw [h] at hLt; exact absurd hLt (Nat.not_lt.mpr (Nat.le_succ _))
    · rw [h] at hLt; exact absurd hLt (Nat.lt_irrefl _)
    · rw [← h, I.gL] at hol; cases hol
  · intro b hb
    simp only [List.mem_cons, List.not_mem_nil, or_false] at hb
    rcases hb with rfl | rfl
    · exact g2 _ (Nat.le_succ _)
    · exact g2 _ (Nat.le_refl _)
  · intro p hp hm
    have := Heap.lt_size (I.N p hp).1
    simp only [List.mem_cons, List.not_mem_nil, or_false] at hm
    rcases hm with h | h | h
    · rw [h] at this; exact absurd this (Nat.not_lt.mpr (Nat.le_succ _))
    · rw [h] at this; exact absurd this (Nat.lt_irrefl _)
    · have := (I.N p hp).2.2; rw [h, hol] at this; cases this
end
/-! ## MCp -/
/-- what two rows of names share at their heads -/
noncomputable def cpre : List Str → List Str → List Str
  | x :: a, y :: b => if x = y then x :: cpre a b else []
  | _, _ => []
theorem sLt_asymm {x y : Str} (h : sLt x y = true) : sLt y x = false := by
  unfold sLt at *
  have h1 := of_decide_eq_true h
  exact decide_eq_false fun h2 => List.lt_irrefl _ (List.lt_trans h1 h2)
theorem sLt_total {x y : Str} (hne : x ≠ y) (h : sLt x y = false) : sLt y x = true := by
  unfold sLt at *
  have h1 := of_decide_eq_false h
  refine decide_eq_true ?_
  have h2 : y.cps.toList ≤ x.cps.toList := h1
  rcases List.le_iff_lt_or_eq.mp h2 with h3 | h3
  · exact h3
  · exact (hne (tx_inj (x := x) (y := y) h3.symm)).elim
theorem lex_pair : ∀ (A B : List Str), ∃ r1 r2, (if lexLt B A = true then B else A) = cpre A B ++ r1 ∧ (if lexGt B A = true then B else A) = cpre A B ++ r2 ∧ (r1 = [] ∨ ∃ x y r1' r2', r1 = x :: r1' ∧ r2 = y :: r2' ∧ x ≠ y)
  | [], [] => ⟨[], [], rfl, rfl, .inl rfl⟩
  | [], y :: B => ⟨[], y :: B, rfl, rfl, .inl rfl⟩
  | x :: A, [] => ⟨[], x :: A, rfl, rfl, .inl rfl⟩
  | x :: A, y :: B => by
    by_cases hxy : x = y
    · subst hxy
      obtain ⟨r1, r2, h1, h2, h3⟩ := lex_pair A B
      refine ⟨r1, r2, ?_, ?_, h3⟩
      · unfold lexLt cpre
        rw [if_pos rfl, if_pos rfl, List.cons_append, ← h1]
        split <;> rfl
      · unfold lexGt cpre
        rw [if_pos rfl, if_pos rfl, List.cons_append, ← h2]
        split <;> rfl
    · have hyx : ¬ y = x := fun h => hxy h.symm
      have e1 : lexLt (y :: B) (x :: A) = sLt y x := by unfold lexLt; rw [if_neg hyx]
      have e2 : lexGt (y :: B) (x :: A) = sLt x y := by unfold lexGt; rw [if_neg hyx]
      have e3 : cpre (x :: A) (y :: B) = [] := by unfold cpre; rw [if_neg hxy]
      rw [e1, e2, e3]
      cases h : sLt y x with
      | true =>
        rw [sLt_asymm h]
        exact ⟨y :: B, x :: A, rfl, rfl, .inr ⟨y, x, B, A, rfl, rfl, hyx⟩⟩
      | false =>
        rw [sLt_total hyx h]
        exact ⟨x :: A, y :: B, rfl, rfl, .inr ⟨x, y, A, B, rfl, rfl, hxy⟩⟩
theorem cpre_nm : ∀ {A B : List Str}, (∀ n ∈ A, Nm n) → ∀ n ∈ cpre A B, Nm n
  | x :: A, y :: B, h => fun n hn => by
    unfold cpre at hn
    split at hn
    · rcases List.mem_cons.mp hn with rfl | hn
      · exact h _ (.head _)
      · exact cpre_nm (fun m hm => h m (.tail _ hm)) n hn
    · cases hn
  | [], _, _ => fun n hn => by unfold cpre at hn; cases hn
  | _ :: _, [], _ => fun n hn => by unfold cpre at hn; cases hn
theorem cpre_len : ∀ (A B : List Str), (cpre A B).length ≤ A.length
  | x :: A, y :: B => by unfold cpre; split <;> simp [cpre_len A B]
  | [], _ => by unfold cpre; simp
  | _ :: _, [] => by unfold cpre; simp
/-- the pieces of a place -/
noncomputable def slashed (ns : List Str) : List Str := if ns = [] then ["", ""] else ("" : Str) :: ns
theorem split_path {ns : List Str} (hn : ∀ n ∈ ns, Nm n) : Txt.split (pathS ns) "/" = slashed ns := by
  cases ns with
  | nil => rw [path0]; decide +kernel
  | cons n ns =>
    have e : pathS (n :: ns) = Txt.join "/" (("" : Str) :: n :: ns) := by
      apply tx_inj
      rw [tx_path, tx_join]
      rfl
    rw [e, split_join (by simp)]
    · rfl
    · intro p hp
      rcases List.mem_cons.mp hp with rfl | hp
      · unfold free; decide +kernel
      · exact (hn p hp).free
theorem filter_slashed {ns : List Str} (hn : ∀ n ∈ ns, Nm n) : (slashed ns).filter (fun c : Str => c.length != 0 && c != (Str.ofString ".")) = ns := by
  have h : ns.filter (fun c : Str => c.length != 0 && c != (Str.ofString ".")) = ns := List.filter_eq_self.mpr fun n hm => by
    have h1 := (hn n hm).len
    have h2 := (hn n hm).dot
    simp [h1, h2]
  unfold slashed
  split
  · rename_i h0; subst h0; decide +kernel
  · rw [List.filter_cons, if_neg (by decide +kernel), h]
theorem start_path {ns : List Str} : Txt.startswith (pathS ns) "/" = true := by
  have hx : ∃ r, tx (pathS ns) = 47 :: r := by
    unfold pathS; exact ⟨_, by rw [tx_append, tx_slash]; rfl⟩
  obtain ⟨r, hr⟩ := hx
  have := (PySem.StrLaws.subAt_one (pathS ns) 47 0).mpr (by rw [show (pathS ns).cps.toList = 47 :: r from hr]; rfl)
  unfold Txt.startswith
  rw [slash_is, this.2, Bool.and_true]
  have h := this.1
  exact decide_eq_true (by omega)
/-! ## MCpw -/
theorem fa_common {mg mb : Str → Option Value} {h : Heap} (G : GF mg mb h) : FnAt h 155 22 154 .none := (G.fn ("commonpath", 155, 22, 154, .none) (by decide +kernel)).2
theorem r_fn {M : Model} {A : Around} {E : Value → Shared → Prop} {s s₀ : Shared} {g : Heap} {L : Addr} {m : Str → Option Value} {news : List (Addr × Obj)} {env : Env} {mg mb : Str → Option Value} {x : Str} {pos : Pos} {a k c : Nat} {dV : Value} {Q : Value → Shared → Prop} (I : At g L m news s₀ s) (G : GF mg mb g) (hd : (x, a, k, c, dV) ∈ fns) (h : Q (.ref a) s)
    (hk : env.scope.kind = .function := by with_unfolding_all rfl) (hl : env.kindOf x = some .globalImplicit := by with_unfolding_all rfl) (hg : env.globals = mainGlobals := by with_unfolding_all rfl)
    (hdb : (x == ("__debug__" : Str)) = false := by decide +kernel) : wpAny M A (eval (.Name x pos) env) Q E s := r_glob I G (G.fn _ hd).1 h hk hl hg hdb
theorem isTup_keeps {h h' : Heap} {a : Addr} {v : Array Value} (x : IsTup h a v) (k : ∀ b o, h.get? b = some o → h'.get? b = some o) : IsTup h' a v := x.keeps k
theorem sum_nm {l : List Str} (h : ∀ n ∈ l, Nm n) : (l.map (·.length)).sum = l.length := by
  induction l with
  | nil => rfl
  | cons n l ih =>
    have h1 := (h n (.head _)).len
    have h2 := ih fun m hm => h m (.tail _ hm)
    simp only [List.map_cons, List.sum_cons, List.length_cons]; omega
section
variable {prog : Program} {w : World} {A : Around} {E : Value → Shared → Prop} {s : Shared} {mg mb : Str → Option Value}
theorem c_common {la : Addr} {na nb : List Str} {ta tb : Tok} (R : Room A 16) (G : GF mg mb s.heap) (hl : s.heap.IsList la [Value.str (pathS na) ta, .str (pathS nb) tb].toArray) (ha : ∀ n ∈ na, Nm n) (hb : ∀ n ∈ nb, Nm n) (hla : na.length ≤ 100) (hlb : nb.length ≤ 100) :
    wpAny (model prog w) A (call (.ref 155) [.ref la]) (fun v s' => Keeps s s' ∧ ∃ t, v = .str (pathS (cpre na nb)) t) E s := by
  obtain ⟨s₀, hs₀⟩ : ∃ s₀, s₀ = s := ⟨_, rfl⟩
  rw [← hs₀] at G hl ⊢
  refine enterC (args := [.ref la]) (binds := [("paths", .ref la)]) (P := fun v s' => ∃ t, v = .str (pathS (cpre na nb)) t) (n := 15) R (fa_common G) G.nolimit rfl (fun pm => rfl) (names := ["paths"]) (by decide +kernel) ?_
  intro pm A s R hA X KP EV
  obtain ⟨oc, os, hoc, hos, I⟩ := led2 (by decide +kernel) X
  have I : At s₀.heap s₀.heap.objs.size (upd (fun _ => none) "paths" (.ref la)) [(s₀.heap.objs.size + 2, oc), (s₀.heap.objs.size + 1, os)] s₀ s := I
  clear X
  refine x_set ?_
  refine e_type I G Boot.«tuple» ?_
  refine sp_cons ?_
  refine e_type I G Boot.«map» ?_
  refine sp_cons ?_
  refine r_fn I G (a := 108) (k := 13) (c := 107) (dV := .none) (by decide +kernel) ?_
  repeat walk_at "go5"
  have hstr : ∀ (j : Nat) (v : Value), ([Value.str (pathS na) ta, .str (pathS nb) tb].toArray)[j]? = some v → ∃ x t, v = .str x t := by
    intro j v h
    have h2 : v ∈ [Value.str (pathS na) ta, .str (pathS nb) tb] := List.mem_of_getElem? (by simpa using h)
    rcases List.mem_cons.mp h2 with rfl | h2
    · exact ⟨_, _, rfl⟩
    · rw [List.mem_singleton] at h2; exact ⟨_, _, h2⟩
  refine wpAny_mono (q_tuple_map R.less I G (isl_keeps hl I.keep) (by simp) hstr ?hh) (fun v s₁ h => sp_nil h) fun _ _ x => x
  intro D s I
  refine SetK.intro I ?_
  intro s I
  obtain ⟨g1, I, hg1, hD⟩ := I.freeze1
  have hDt : IsTup g1 D [Value.str (pathS na) ta, .str (pathS nb) tb].toArray := ⟨_, hD, rfl, _, rfl⟩
  have G1 := G.keeps hg1
  repeat walk_at "go5"
  rename At _ _ _ _ _ _ => I
  rename Shared => s5
  refine truthy_tuple (isTup_keeps hDt I.keep) (by simp) ?_
  have I := I.tick (s5.toks + 1 + 1)
  repeat walk_at "go5"
  rename At _ _ _ _ _ _ => I
  refine Br.ff (by simp) ?_
  repeat walk_at "go5"
  rename At _ _ _ _ _ _ => I
  refine item_tupleL (isTup_keeps hDt I.keep) (j := 0) (by decide) (by decide) (by simp [seqIndex?]) rfl ?_
  repeat walk_at "go5"
  rename At _ _ _ _ _ _ => I
  rename At _ _ _ _ _ _ => I
  refine x_setc ?_
  repeat walk_at "go5"
  rename At _ _ _ _ _ _ => I
  refine SetCK.intro (I.perm (List.Perm.swap (s₀.heap.objs.size + 2, oc) (s₀.heap.objs.size + 1, os) [])) hos ?_
  intro os s hos I
  refine x_setc ?_
  repeat walk_at "go5"
  rename At _ _ _ _ _ _ => I
  refine SetCK.intro (I.perm (List.Perm.swap (s₀.heap.objs.size + 1, os) (s₀.heap.objs.size + 2, oc) [])) hoc ?_
  intro oc s hoc I
  obtain ⟨g2, I, hg2, hn2⟩ := I.freeze_all
  have hsepO : g2.get? (s₀.heap.objs.size + 1) = some os := hn2 _ (.tail _ (.head _))
  have hcurO : g2.get? (s₀.heap.objs.size + 2) = some oc := hn2 _ (.head _)
  have G2 := G1.keeps hg2
  have hDt2 := isTup_keeps hDt hg2
  have hg02 : ∀ b o, s₀.heap.get? b = some o → g2.get? b = some o := fun b o e => hg2 _ _ (hg1 _ _ e)
  clear G1
  repeat walk_at "go5"
  refine x_setcomp (fun i ys nw => match i with
    | 0 => nw = [] ∧ ys = []
    | 1 => ∃ a1 l1, ys = [.ref a1] ∧ nw = [(a1, LL (strValues l1) 0)] ∧ l1.map (·.1) = slashed na
    | 2 => ∃ a1 l1 a2 l2, ys = [.ref a1, .ref a2] ∧ nw = [(a2, LL (strValues l2) 0), (a1, LL (strValues l1) 0)] ∧ l1.map (·.1) = slashed na ∧ l2.map (·.1) = slashed nb
    | _ => False) ?_
  intro INV
  repeat walk_at "go5"
  refine src_tuple R.h I hDt2 fun it s I S => ?_
  refine (S _ _).comp I (by rw [sizeLine_eq]; simp) ⟨rfl, rfl⟩ ?_ ?_
  · rintro G₁ C i v own m₁ ys nw s hG1 hG2 hG3 hi hv hInv I
    intro K1 K2 EV
    refine a_name I fun s I => ?_
    refine f_nil ?_
    refine Br.t ?_
    have hpa := path_len ha
    have hpb := path_len hb
    obtain ⟨ns, tn, rfl, hns, hnl⟩ : ∃ ns tn, v = .str (pathS ns) tn ∧ (∀ n ∈ ns, Nm n) ∧ ns.length ≤ 100 ∧ (i = 0 → ns = na) ∧ (i = 1 → ns = nb) := by
      rcases (by simp at hi; omega : i = 0 ∨ i = 1) with rfl | rfl
      · simp at hv; exact ⟨na, ta, hv.symm, ha, hla, (fun _ => rfl), fun h => by cases h⟩
      · simp at hv; exact ⟨nb, tb, hv.symm, hb, hlb, (fun h => by cases h), fun _ => rfl⟩
    have hpn := path_len hns
    repeat walk_at "go5"
    rename At _ _ _ _ _ _ => I
    refine r_cell (I.keep _ _ (hG1 _ _ hsepO)) hos ?_
    repeat walk_at "go5"
    rename At _ _ _ _ _ _ => I
    refine q_split I (by decide +kernel) (by rw [sizeLine_eq]; omega) fun al l s hl I => ?_
    rw [split_path hns] at hl
    refine ⟨_, (al, LL (strValues l) 0) :: nw, I.perm List.perm_middle, ?_⟩
    rcases (by simp at hi; omega : i = 0 ∨ i = 1) with rfl | rfl
    · obtain ⟨rfl, rfl⟩ := hInv
      exact ⟨al, l, rfl, rfl, by rw [hl, hnl.2.1 rfl]⟩
    · obtain ⟨a1, l1, rfl, rfl, h1⟩ := hInv
      exact ⟨a1, l1, al, l, rfl, rfl, h1, by rw [hl, hnl.2.2 rfl]⟩
  · rintro D2 k2 ys nw hInv hyl
    obtain ⟨a1, l1, a2, l2, rfl, rfl, h1, h2⟩ := hInv
    refine ⟨rfl, fun s I => ?_⟩
    obtain ⟨g3, I, hg3, hn3⟩ := I.freeze_all
    have hD2 : g3.IsList D2 [Value.ref a1, .ref a2].toArray := LL.list (hn3 _ (.head _))
    have hl1 : g3.IsList a1 (strValues l1).toArray := LL.list (hn3 _ (.tail _ (.tail _ (.head _))))
    have hl2 : g3.IsList a2 (strValues l2).toArray := LL.list (hn3 _ (.tail _ (.head _)))
    have hsepO := hg3 _ _ hsepO
    have hcurO := hg3 _ _ hcurO
    have hDt3 := isTup_keeps hDt2 hg3
    have hg03 : ∀ b o, s₀.heap.get? b = some o → g3.get? b = some o := fun b o e => hg3 _ _ (hg02 _ _ e)
    have G3 := G2.keeps hg3
    repeat walk_at "go5"
    refine e_setcomp (fun i ys nw => nw = [] ∧ ys.length = i) ?_
    intro INV
    repeat walk_at "go5"
    refine src_tuple R.h I hDt3 fun it s I S => ?_
    refine (S _ _).compS I (by rw [sizeLine_eq]; simp) ⟨rfl, rfl⟩ ?_ ?_
    · rintro G₁ C i v own m₁ ys nw s hG1 hG2 hG3 hi hv ⟨rfl, hys⟩ I
      intro K1 K2 EV
      refine a_name I fun s I => ?_
      refine f_nil ?_
      refine Br.t ?_
      obtain ⟨ns, tn, rfl⟩ : ∃ ns tn, v = .str (pathS ns) tn := by
        rcases (by simp at hi; omega : i = 0 ∨ i = 1) with rfl | rfl
        · simp at hv; exact ⟨na, ta, hv.symm⟩
        · simp at hv; exact ⟨nb, tb, hv.symm⟩
      repeat walk_at "go5"
      rename At _ _ _ _ _ _ => I
      refine r_cell (I.keep _ _ (hG1 _ _ hsepO)) hos ?_
      repeat walk_at "go5"
      rw [start_path]
      exact ⟨rfl, _, [], I, rfl, by simp [hys]⟩
    · rintro D3 ys nw ⟨rfl, hys⟩ hyl
      intro s I
      have hsob : sob w ys.length = set1 (!(w.params.followText "set-order")) := by
        rw [hys]; rfl
      rw [hsob] at I
      refine unpack_set R.h I (I.get (.head _)) (by with_unfolding_all rfl) (by with_unfolding_all rfl) fun s I => ?_
      refine a_cons I fun s I => ?_
      refine a_nil ?_
      have I := I.drop (List.nil_sublist _)
      repeat walk_at "go5"
      refine x_setcomp (fun i ys nw => match i with
        | 0 => nw = [] ∧ ys = []
        | 1 => ∃ b1 v1 n1, ys = [.ref b1] ∧ nw = [(b1, LL v1 n1)] ∧ StrsAre v1 na
        | 2 => ∃ b1 v1 n1 b2 v2 n2, ys = [.ref b1, .ref b2] ∧ nw = [(b2, LL v2 n2), (b1, LL v1 n1)] ∧ StrsAre v1 na ∧ StrsAre v2 nb
        | _ => False) ?_
      intro INV
      repeat walk_at "go5"
      refine src_list R.h I hD2 fun it s I S => ?_
      refine (S _ _).comp I (by rw [sizeLine_eq]; simp) ⟨rfl, rfl⟩ ?_ ?_
      · rintro G₁ C i v own m₁ ys nw s hG1 hG2 hG3 hi hv hInv I
        intro K1 K2 EV
        refine a_name I fun s I => ?_
        refine f_nil ?_
        refine Br.t ?_
        obtain ⟨ax, lx, ns, rfl, hlx, hsl, hns, hnl⟩ : ∃ ax lx ns, v = .ref ax ∧ g3.IsList ax (strValues lx).toArray ∧ lx.map (·.1) = slashed ns ∧ (∀ n ∈ ns, Nm n) ∧ ns.length ≤ 100 ∧ (i = 0 → ns = na) ∧ (i = 1 → ns = nb) := by
          rcases (by simp at hi; omega : i = 0 ∨ i = 1) with rfl | rfl
          · simp at hv; exact ⟨a1, l1, na, hv.symm, hl1, h1, ha, hla, (fun _ => rfl), fun h => by cases h⟩
          · simp at hv; exact ⟨a2, l2, nb, hv.symm, hl2, h2, hb, hlb, (fun h => by cases h), fun _ => rfl⟩
        have hlen : (slashed ns).length ≤ 102 := by unfold slashed; split <;> simp; omega
        have hlxl : lx.length ≤ 102 := by have := congrArg List.length hsl; simp at this; omega
        have hst : StrsAre (strValues lx) (slashed ns) := hsl ▸ strsAre_of_values lx
        have hpc : ∀ c ∈ slashed ns, c.length ≤ 1 := by
          intro c hc
          unfold slashed at hc
          split at hc
          · simp at hc; rw [hc]; decide +kernel
          · rcases List.mem_cons.mp hc with rfl | hc
            · decide +kernel
            · exact Nat.le_of_eq (hns c hc).len
        refine e_comp (fun j zs nw => nw = [] ∧ StrsAre zs (((slashed ns).take j).filter (fun c : Str => c.length != 0 && c != (Str.ofString ".")))) ?_
        intro INV
        repeat walk_at "go5"
        rename At _ _ _ _ _ _ => I
        refine src_list R.h I (isl_keeps hlx hG1) fun it2 s I S2 => ?_
        refine (S2 _ _).comp I (by rw [sizeLine_eq]; simp [strValues]; omega) ⟨rfl, .nil⟩ ?_ ?_
        · rintro G₂ C2 j v own2 m₂ zs nw2 s hG4 hG5 hG6 hj hv2 ⟨rfl, hzs⟩ I
          intro K1 K2 EV
          obtain ⟨c, tc, rfl, hc⟩ := hst.item j v (by simpa using hv2)
          have hcl := hpc c (List.mem_of_getElem? hc)
          refine a_name I fun s I => ?_
          refine f_one ?_
          repeat walk_at "go5"
          have htk : (((slashed ns).take (j + 1)).filter (fun c : Str => c.length != 0 && c != (Str.ofString "."))) = (((slashed ns).take j).filter (fun c : Str => c.length != 0 && c != (Str.ofString "."))) ++ (if (c.length != 0 && c != (Str.ofString ".")) = true then [c] else []) := by
            rw [List.take_add_one, hc, List.filter_append]
            congr 1
            show List.filter _ [c] = _
            rw [List.filter_cons, List.filter_nil]
          refine Br.split (fun hb1 => ?_) (fun hb1 => ?_)
          · repeat walk_at "go5"
            rename At _ _ _ _ _ _ => I
            refine r_cell (I.keep _ _ (hG4 _ _ (hG1 _ _ hcurO))) hoc ?_
            repeat walk_at "go5"
            refine Br.split (fun hb2 => ?_) (fun hb2 => ?_)
            · repeat walk_at "go5"
              exact ⟨_, [], I, rfl, by rw [htk, hb1, hb2]; exact hzs.append' (.cons _ _ .nil)⟩
            · repeat walk_at "go5"
              exact ⟨_, [], I, rfl, by rw [htk, hb1, hb2]; simpa using hzs⟩
          · repeat walk_at "go5"
            rename At _ _ _ _ _ _ => I
            exact ⟨_, [], I, rfl, by rw [htk, hb1]; simpa using hzs⟩
        · rintro Dx kx zs nw2 ⟨rfl, hzs⟩ hzl
          intro s I
          rw [show (strValues lx).toArray.size = (slashed ns).length from by rw [List.size_toArray, hst.length], List.take_length, filter_slashed hns] at hzs
          refine ⟨_, (Dx, LL zs kx) :: nw, I.perm ?_, ?_⟩
          · exact List.perm_middle
          · rcases (by simp at hi; omega : i = 0 ∨ i = 1) with rfl | rfl
            · obtain ⟨rfl, rfl⟩ := hInv
              exact ⟨Dx, zs, kx, rfl, rfl, by rw [← hnl.2.1 rfl]; exact hzs⟩
            · obtain ⟨b1, v1, n1, rfl, rfl, hv1⟩ := hInv
              exact ⟨b1, v1, n1, Dx, zs, kx, rfl, rfl, hv1, by rw [← hnl.2.2 rfl]; exact hzs⟩
      · rintro D4 k4 ys nw hInv hyl
        obtain ⟨b1, v1, n1, b2, v2, n2, rfl, rfl, hv1, hv2⟩ := hInv
        refine ⟨rfl, fun s I => ?_⟩
        obtain ⟨g4, I, hg4, hn4⟩ := I.freeze_all
        have hD4 : g4.IsList D4 #[Value.ref b1, .ref b2] := LL.list (n := k4) (vs := [Value.ref b1, .ref b2]) (hn4 _ (.head _))
        have hb1 : g4.get? b1 = some (LL v1 n1) := hn4 _ (.tail _ (.tail _ (.head _)))
        have hb2 : g4.get? b2 = some (LL v2 n2) := hn4 _ (.tail _ (.head _))
        have hsepO := hg4 _ _ hsepO
        have hg04 : ∀ b o, s₀.heap.get? b = some o → g4.get? b = some o := fun b o e => hg4 _ _ (hg03 _ _ e)
        have G4 := G3.keeps hg4
        refine x_set ?_
        refine e_blt I G4 Boot.«min» ?_
        repeat walk_at "go5"
        rename At _ _ _ _ _ _ => I
        refine q_min2 R.less I (isl_keeps hD4 I.keep) (I.keep _ _ hb1) (I.keep _ _ hb2) hv1 hv2 fun s I => ?_
        refine SetK.intro I ?_
        intro s I
        refine x_set ?_
        refine e_blt I G4 Boot.«max» ?_
        repeat walk_at "go5"
        rename At _ _ _ _ _ _ => I
        refine q_max2 R.less I (isl_keeps hD4 I.keep) (I.keep _ _ hb1) (I.keep _ _ hb2) hv1 hv2 fun s I => ?_
        refine SetK.intro I ?_
        intro s I
        obtain ⟨r1, r2, e1, e2, hr⟩ := lex_pair na nb
        obtain ⟨u1, k1, hu1, hs1⟩ : ∃ u1 k1, g4.get? (if lexLt nb na = true then b2 else b1) = some (LL u1 k1) ∧ StrsAre u1 (cpre na nb ++ r1) := by
          rw [← e1]
          split
          · exact ⟨v2, n2, hb2, hv2⟩
          · exact ⟨v1, n1, hb1, hv1⟩
        obtain ⟨u2, k2', hu2, hs2⟩ : ∃ u2 k2, g4.get? (if lexGt nb na = true then b2 else b1) = some (LL u2 k2) ∧ StrsAre u2 (cpre na nb ++ r2) := by
          rw [← e2]
          split
          · exact ⟨v2, n2, hb2, hv2⟩
          · exact ⟨v1, n1, hb1, hv1⟩
        have hPn := cpre_nm (B := nb) ha
        have hPl := cpre_len na nb
        have hul : u1.length ≤ 100 ∧ u2.length ≤ 100 := by
          rw [hs1.length, hs2.length, ← e1, ← e2]
          constructor <;> split <;> assumption
        generalize (if lexLt nb na = true then b2 else b1) = x1 at *
        generalize (if lexGt nb na = true then b2 else b1) = x2 at *
        generalize hcP : cpre na nb = P at *
        repeat walk_at "go5"
        rename At _ _ _ _ _ _ => I
        generalize hM : upd _ _ _ = M0 at I
        have hms1 : M0 "s1" = some (.ref x1) := by rw [← hM]; walk_at "lk"
        have hms2 : M0 "s2" = some (.ref x2) := by rw [← hM]; walk_at "lk"
        have hmab : M0 "isabs" = some (.bool true) := by rw [← hM]; walk_at "lk"
        have hmco : M0 "common" = some (.ref x1) := by rw [← hM]; walk_at "lk"
        clear hM
        refine x_for (fun i m nw => nw = [] ∧ i ≤ P.length ∧ m "s1" = some (.ref x1) ∧ m "s2" = some (.ref x2) ∧ m "isabs" = some (.bool true) ∧ m "common" = some (.ref x1)) ?_
        intro INV
        refine e_type I G4 Boot.«enumerate» ?_
        repeat walk_at "go5"
        rename At _ _ _ _ _ _ => I
        refine src_enum R.h I (LL.list hu1) fun it s I S => ?_
        refine (S _ _ _).loop I ⟨rfl, Nat.zero_le _, hms1, hms2, hmab, hmco⟩ ?_ ?_
        · rintro i v own m₁ nw s hi ⟨T, tk, x, rfl, hx, hT⟩ ⟨rfl, hiP, hms1, hms2, hmab, hmco⟩ I
          intro KK
          obtain ⟨c, tc, rfl, hc⟩ := hs1.item i x (by simpa using hx)
          have hilt : i < (P ++ r1).length := by rw [← hs1.length]; simpa using hi
          refine a_tup R.h I hT fun s I => ?_
          refine a_cons I fun s I => ?_
          refine a_cons I fun s I => ?_
          refine a_nil ?_
          have h2lt : i < (P ++ r2).length := by
            rw [List.length_append] at hilt ⊢
            rcases hr with rfl | ⟨y1, y2, q1, q2, rfl, rfl, _⟩
            · simp at hilt; omega
            · simp; omega
          obtain ⟨t2, ht2⟩ := hs2.at (j := i) (y := (P ++ r2)[i]) (by simp [h2lt])
          repeat walk_at "go5"
          rename At _ _ _ _ _ _ => I
          refine q_item (LL.list (I.keep _ _ hu2)) (by omega) (by omega) (x := .str ((P ++ r2)[i]) t2) (by simpa using ht2) ?_
          repeat walk_at "go5"
          rename At _ _ _ _ _ _ => I
          have hci : (P ++ r1)[i]? = some c := hc
          rcases Nat.lt_or_ge i P.length with hlt | hge
          · have e1 : c = P[i] := by
              rw [List.getElem?_append_left hlt, List.getElem?_eq_getElem hlt] at hci
              exact (Option.some.inj hci).symm
            have e2 : (P ++ r2)[i] = P[i] := List.getElem_append_left hlt
            refine Br.ff (by rw [e1, e2]; simp) ?_
            repeat walk_at "go5"
            rename At _ _ _ _ _ _ => I
            exact ⟨_, [], I, rfl, hlt, by walk_at "lk", by walk_at "lk", by walk_at "lk", by walk_at "lk"⟩
          · have hiP' : i = P.length := by omega
            subst hiP'
            rcases hr with rfl | ⟨y1, y2, q1, q2, rfl, rfl, hne⟩
            · simp at hilt
            · have e1 : c = y1 := by
                rw [List.getElem?_append_right (Nat.le_refl _)] at hci
                simpa using hci.symm
              have e2 : (P ++ y2 :: q2)[P.length] = y2 := by simp
              refine Br.tt (by rw [e1, e2]; simpa using hne) ?_
              repeat walk_at "go5"
              rename At _ _ _ _ _ _ => I
              refine q_lslice I (LL.list (I.keep _ _ hu1)) (lo := none) (hi := some ((P.length : Nat) : Int)) .none (.int _ _) (by rw [sizeLine_eq]; omega) ?_
              intro D5 s I
              rw [slicePick_upto'] at I
              have hv5 : StrsAre (u1.take P.length) P := by
                have := hs1.take' P.length
                simpa using this
              repeat walk_at "go5"
              rename At _ _ _ _ _ _ => I
              refine IfExp_ ?_
              repeat walk_at "go5"
              rw [if_pos rfl]
              refine r_cell (I.keep _ _ hsepO) hos ?_
              repeat walk_at "go5"
              rename At _ _ _ _ _ _ => I
              refine r_cell (I.keep _ _ hsepO) hos ?_
              repeat walk_at "go5"
              rename At _ _ _ _ _ _ => I
              refine join_listW (LL.list (I.get (.head _))) (ys := P) hv5 (by decide +kernel) ?_ fun t8 k8 => ?_
              · have := sum_nm hPn; omega
              have I := I.tick k8
              have hjl := len_join P
              have hsm := sum_nm hPn
              unfold wt at hjl
              refine q_add I ?_ fun t9 s I => ?_
              · rw [sizeLine_eq, show (Str.ofString "/").length = 1 from by decide +kernel]; omega
              repeat walk_at "go5"
              exact ⟨I.keeps hg04, t9, hcP ▸ rfl⟩
        · rintro m nw s I ⟨rfl, hiP, hms1, hms2, hmab, hmco⟩
          have hr0 : StrsAre u1 P := by
            rw [List.size_toArray, hs1.length, List.length_append] at hiP
            have : r1 = [] := List.length_eq_zero_iff.mp (by omega)
            rw [this, List.append_nil] at hs1; exact hs1
          repeat walk_at "go5"
          refine IfExp_ ?_
          repeat walk_at "go5"
          rw [if_pos rfl]
          refine r_cell (I.keep _ _ hsepO) hos ?_
          repeat walk_at "go5"
          rename At _ _ _ _ _ _ => I
          refine r_cell (I.keep _ _ hsepO) hos ?_
          repeat walk_at "go5"
          rename At _ _ _ _ _ _ => I
          refine join_listW (LL.list (I.keep _ _ hu1)) (ys := P) hr0 (by decide +kernel) ?_ fun t8 k8 => ?_
          · have := sum_nm hPn; omega
          have I := I.tick k8
          have hjl := len_join P
          have hsm := sum_nm hPn
          unfold wt at hjl
          refine q_add I ?_ fun t9 s I => ?_
          · rw [sizeLine_eq, show (Str.ofString "/").length = 1 from by decide +kernel]; omega
          repeat walk_at "go5"
          exact ⟨I.keeps hg04, t9, hcP ▸ rfl⟩
end
/-! ## MKas -/
/-- a sorting tree under a comparison: every question is of two places below `n`, and the end has `Q` -/
noncomputable def kasOk {α : Type} (c : Nat → Nat → Bool) (n : Nat) : KasT α → (α → Prop) → Prop
  | .ret a, Q => Q a
  | .ask i j k, Q => i < n ∧ j < n ∧ kasOk c n (k (c i j)) Q
theorem kasOk_bind {α β : Type} {c : Nat → Nat → Bool} {n : Nat} {f : α → KasT β} {Q : β → Prop} : ∀ {t : KasT α}, kasOk c n t (fun a => kasOk c n (f a) Q) → kasOk c n (t.bind f) Q
  | .ret _, h => h
  | .ask i j k, h => ⟨h.1, h.2.1, kasOk_bind h.2.2⟩
theorem kasOk_mono {α : Type} {c : Nat → Nat → Bool} {n : Nat} {Q Q' : α → Prop} (hq : ∀ a, Q a → Q' a) : ∀ {t : KasT α}, kasOk c n t Q → kasOk c n t Q'
  | .ret _, h => hq _ h
  | .ask i j k, h => ⟨h.1, h.2.1, kasOk_mono hq h.2.2⟩
theorem kasOk_wp {α : Type} {c : Nat → Nat → Bool} {n : Nat} {cmp : Nat → Nat → (Bool → Shared → Prop) → Shared → Prop} {s : Shared} {Q : α → Prop} {R : α → Shared → Prop} (hc : ∀ i j C, i < n → j < n → C (c i j) s → cmp i j C s) (hR : ∀ a, Q a → R a s) :
    ∀ {t : KasT α}, kasOk c n t Q → t.kasWp cmp R s
  | .ret _, h => hR _ h
  | .ask i j k, h => hc i j _ h.1 h.2.1 (kasOk_wp hc hR h.2.2)

section
variable {n : Nat} {K : Nat → Nat} (hK : ∀ i j, i < n → j < n → K i = K j → i = j)
abbrev gd (p : Array Nat) (i : Nat) : Nat := p.getD i 0
noncomputable def Okp (n : Nat) (p : Array Nat) : Prop := p.toList.Perm (List.range n)
theorem Okp.size {p : Array Nat} (h : Okp n p) : p.size = n := by have := h.length_eq; simpa using this
theorem Okp.lt {p : Array Nat} (h : Okp n p) {i : Nat} (hi : i < n) : gd p i < n := by
  have hs := h.size
  have : p[i] ∈ p.toList := by rw [Array.mem_toList_iff]; exact Array.getElem_mem (by omega)
  have := h.mem_iff.mp this
  rw [List.mem_range] at this
  unfold gd; rw [Array.getD, dif_pos (by omega)]; exact this
theorem Okp.inj {p : Array Nat} (h : Okp n p) {i j : Nat} (hi : i < n) (hj : j < n) (e : gd p i = gd p j) : i = j := by
  have hs := h.size
  have nd : p.toList.Nodup := (h.nodup_iff).mpr List.nodup_range
  unfold gd at e
  rw [Array.getD, dif_pos (by omega), Array.getD, dif_pos (by omega)] at e
  have := (List.getElem_inj (h₀ := by simp; omega) (h₁ := by simp; omega) nd).mp (show p.toList[i]'(by simp; omega) = p.toList[j]'(by simp; omega) from by simpa using e)
  exact this
/-- sorted up to `k` -/
noncomputable def Srt (K : Nat → Nat) (p : Array Nat) (k : Nat) : Prop := ∀ i, i + 1 < k → K (gd p i) < K (gd p (i + 1))
noncomputable def Dsc (K : Nat → Nat) (p : Array Nat) (k : Nat) : Prop := ∀ i, i + 1 < k → K (gd p (i + 1)) < K (gd p i)
theorem Srt.lt {p : Array Nat} {k : Nat} (h : Srt K p k) {i j : Nat} (hij : i < j) (hj : j < k) : K (gd p i) < K (gd p j) := by
  induction j with
  | zero => omega
  | succ j ih =>
    have h1 := h j hj
    rcases Nat.lt_or_ge i j with hlt | hge
    · have := ih hlt (by omega); omega
    · have : i = j := by omega
      subst this; exact h1
theorem Dsc.lt {p : Array Nat} {k : Nat} (h : Dsc K p k) {i j : Nat} (hij : i < j) (hj : j < k) : K (gd p j) < K (gd p i) := by
  induction j with
  | zero => omega
  | succ j ih =>
    have h1 := h j hj
    rcases Nat.lt_or_ge i j with hlt | hge
    · have := ih hlt (by omega); omega
    · have : i = j := by omega
      subst this; exact h1
theorem gd_opt (p : Array Nat) (i : Nat) : gd p i = (p[i]?).getD 0 := by
  unfold gd; rw [Array.getD_eq_getD_getElem?]
theorem gd_rev {p : Array Nat} {j : Nat} (hj : j ≤ p.size) (x : Nat) : gd (kas_rev p 0 j) x = if x < j then gd p (j - 1 - x) else gd p x := by
  unfold kas_rev
  rw [gd_opt, getElem?_mirror_all hj]
  split
  · rename_i h; rw [if_pos h.2, gd_opt]; simp
  · rename_i h; rw [if_neg (by omega), gd_opt]
theorem Okp.rev {p : Array Nat} (h : Okp n p) (i j : Nat) : Okp n (kas_rev p i j) := ((mirror_perm p i j _).toList).trans h
theorem Okp.bubble {p : Array Nat} (h : Okp n p) (i d : Nat) : Okp n (bubble p i d) := ((bubble_perm p i d).toList).trans h
theorem gd_bubble {p : Array Nat} {k l : Nat} (hk : k < p.size) (hl : l ≤ k) (x : Nat) : gd (bubble p k (k - l)) x = if x = l then gd p k else if l < x ∧ x ≤ k then gd p (x - 1) else gd p x := by
  rw [gd_opt, getElem?_bubble hk _ (by omega), show k - (k - l) = l from by omega]
  by_cases h1 : x = l
  · rw [if_pos h1, if_pos h1, gd_opt]
  · rw [if_neg h1, if_neg h1]
    by_cases h2 : l < x ∧ x ≤ k
    · rw [if_pos h2, if_pos h2, gd_opt]
    · rw [if_neg h2, if_neg h2, gd_opt]
include hK
theorem asc_ok {p : Array Nat} (hp : Okp n p) : ∀ (f m : Nat), 1 ≤ m → m + f ≤ n → Srt K p m → kasOk (fun i j => decide (K i < K j)) n (kas_asc p f m) (fun m' => m ≤ m' ∧ m' ≤ m + f ∧ Srt K p m' ∧ (m' < m + f → K (gd p m') < K (gd p (m' - 1))))
  | 0, m, h1, h2, hs => ⟨Nat.le_refl _, Nat.le_refl _, hs, fun h => by omega⟩
  | f + 1, m, h1, h2, hs => by
    refine ⟨hp.lt (by omega), hp.lt (by omega), ?_⟩
    dsimp only
    by_cases hc : K (p.getD m 0) < K (p.getD (m - 1) 0)
    · rw [if_pos (decide_eq_true hc)]
      exact ⟨Nat.le_refl _, by omega, hs, fun _ => hc⟩
    · rw [if_neg (by simpa using hc)]
      have hne : K (gd p (m - 1)) ≠ K (gd p m) := fun e => by
        have := hp.inj (by omega) (by omega) (hK _ _ (hp.lt (by omega)) (hp.lt (by omega)) e); omega
      have hs' : Srt K p (m + 1) := fun i hi => by
        rcases Nat.lt_or_ge (i + 1) m with h | h
        · exact hs i h
        · have : i = m - 1 := by omega
          subst this
          rw [show m - 1 + 1 = m from by omega]
          unfold gd at *; omega
      refine kasOk_mono (fun m' h => ?_) (asc_ok hp f (m + 1) (by omega) (by omega) hs')
      exact ⟨by omega, by omega, h.2.2.1, fun h' => h.2.2.2 (by omega)⟩
theorem desc_ok {p : Array Nat} (hp : Okp n p) : ∀ (f m : Nat), 1 ≤ m → m + f ≤ n → Dsc K p m → kasOk (fun i j => decide (K i < K j)) n (kas_desc f p m 0) (fun r => ∃ m', r = (p, m', 0) ∧ m ≤ m' ∧ m' ≤ m + f ∧ Dsc K p m')
  | 0, m, h1, h2, hs => ⟨m, rfl, Nat.le_refl _, Nat.le_refl _, hs⟩
  | f + 1, m, h1, h2, hs => by
    refine ⟨hp.lt (by omega), hp.lt (by omega), ?_⟩
    dsimp only
    by_cases hc : K (p.getD m 0) < K (p.getD (m - 1) 0)
    · rw [if_pos (decide_eq_true hc), if_neg (by omega)]
      have hs' : Dsc K p (m + 1) := fun i hi => by
        rcases Nat.lt_or_ge (i + 1) m with h | h
        · exact hs i h
        · have : i = m - 1 := by omega
          subst this
          rw [show m - 1 + 1 = m from by omega]
          exact hc
      refine kasOk_mono (fun r h => ?_) (desc_ok hp f (m + 1) (by omega) (by omega) hs')
      obtain ⟨m', e, a1, a2, a3⟩ := h
      exact ⟨m', e, by omega, by omega, a3⟩
    · rw [if_neg (by simpa using hc)]
      refine ⟨hp.lt (by omega), hp.lt (by omega), ?_⟩
      dsimp only
      have hne : K (gd p (m - 1)) ≠ K (gd p m) := fun e => by
        have := hp.inj (by omega) (by omega) (hK _ _ (hp.lt (by omega)) (hp.lt (by omega)) e); omega
      rw [if_pos (decide_eq_true (by unfold gd at hne; omega))]
      exact ⟨m, rfl, Nat.le_refl _, by omega, hs⟩
theorem rev_srt {p : Array Nat} (hp : Okp n p) {m : Nat} (hm : m ≤ n) (h : Dsc K p m) : Srt K (kas_rev p 0 m) m := fun i hi => by
  have hs := hp.size
  rw [gd_rev (by omega), gd_rev (by omega), if_pos (by omega), if_pos (by omega)]
  exact h.lt (by omega) (by omega)
theorem tail3_ok {p : Array Nat} (hp : Okp n p) {m : Nat} (h1 : 1 ≤ m) (hm : m ≤ n) (h : Dsc K p m) : kasOk (fun i j => decide (K i < K j)) n (kas_tail3 m n p) (fun r => r.1 ≤ n ∧ Okp n r.2 ∧ Srt K r.2 r.1) := by
  unfold kas_tail3
  refine kasOk_bind (kasOk_mono (fun m' h' => ?_) (asc_ok hK (hp.rev 0 m) (n - m) m h1 (by omega) (rev_srt hK hp hm h)))
  exact ⟨by omega, hp.rev 0 m, h'.2.2.1⟩
theorem count_ok {p : Array Nat} (hp : Okp n p) (hn : 2 ≤ n) : kasOk (fun i j => decide (K i < K j)) n (kas_count n p) (fun r => r.1 ≤ n ∧ Okp n r.2 ∧ Srt K r.2 r.1) := by
  unfold kas_count
  refine kasOk_bind (kasOk_mono (fun m h => ?_) (asc_ok hK hp (n - 1) 1 (Nat.le_refl _) (by omega) (fun i hi => by omega)))
  obtain ⟨a1, a2, a3, a4⟩ := h
  by_cases he : (m == n) = true
  · rw [if_pos he]; exact ⟨by omega, hp, a3⟩
  · rw [if_neg he]
    by_cases h1 : m > 1
    · rw [if_pos h1]
      refine ⟨hp.lt (by omega), hp.lt (by omega), ?_⟩
      dsimp only
      rw [if_pos (decide_eq_true (a3.lt (i := 0) (j := m - 1) (by omega) (by omega)))]
      exact ⟨by omega, hp, a3⟩
    · rw [if_neg h1]
      have hm1 : m = 1 := by omega
      subst hm1
      have h0 := a4 (by simp at he; omega)
      unfold kas_descPart
      refine kasOk_bind (kasOk_mono (fun r h => ?_) (desc_ok hK hp (n - (1 + 1)) (1 + 1) (by omega) (by omega) (fun i hi => by
        have : i = 0 := by omega
        subst this; exact h0)))
      obtain ⟨m', rfl, b1, b2, b3⟩ := h
      dsimp only
      rw [if_neg (by omega)]
      exact tail3_ok hK hp (by omega) (by omega) b3
theorem place_ok {p : Array Nat} (hp : Okp n p) {k : Nat} (hk : k < n) (hs : Srt K p k) : ∀ (f l r : Nat), r - l ≤ f → l ≤ r → r ≤ k → (∀ i, i < l → K (gd p i) < K (gd p k)) → (∀ i, r ≤ i → i < k → K (gd p k) < K (gd p i)) →
    kasOk (fun i j => decide (K i < K j)) n (kas_place p k f l r) (fun l' => l' ≤ k ∧ (∀ i, i < l' → K (gd p i) < K (gd p k)) ∧ ∀ i, l' ≤ i → i < k → K (gd p k) < K (gd p i))
  | 0, l, r, h1, h2, h3, h4, h5 => ⟨by omega, h4, fun i hi => h5 i (by omega)⟩
  | f + 1, l, r, h1, h2, h3, h4, h5 => by
    unfold kas_place
    by_cases hlr : l ≥ r
    · rw [if_pos hlr]; exact ⟨by omega, h4, fun i hi => h5 i (by omega)⟩
    · rw [if_neg hlr]
      refine ⟨hp.lt hk, hp.lt (by omega), ?_⟩
      dsimp only
      by_cases hc : K (p.getD k 0) < K (p.getD ((l + r) / 2) 0)
      · rw [if_pos (decide_eq_true hc)]
        refine place_ok hp hk hs f l ((l + r) / 2) (by omega) (by omega) (by omega) h4 fun i hi hik => ?_
        rcases Nat.lt_or_ge ((l + r) / 2) i with hlt | hge
        · have := hs.lt hlt hik; unfold gd at *; omega
        · have : i = (l + r) / 2 := by omega
          subst this; exact hc
      · rw [if_neg (by simpa using hc)]
        have hne : K (gd p ((l + r) / 2)) ≠ K (gd p k) := fun e => by
          have := hp.inj (by omega) hk (hK _ _ (hp.lt (by omega)) (hp.lt hk) e); omega
        refine place_ok hp hk hs f ((l + r) / 2 + 1) r (by omega) (by omega) h3 (fun i hi => ?_) h5
        rcases Nat.lt_or_ge i ((l + r) / 2) with hlt | hge
        · have := hs.lt hlt (by omega); unfold gd at *; omega
        · have : i = (l + r) / 2 := by omega
          subst this; unfold gd at *; omega
theorem bin_ok : ∀ (f k : Nat) {p : Array Nat}, Okp n p → 1 ≤ k → k + f = n → Srt K p k → kasOk (fun i j => decide (K i < K j)) n (kas_bin f p k) (fun p' => Okp n p' ∧ Srt K p' n)
  | 0, k, p, hp, h1, h2, hs => ⟨hp, by rw [← h2]; exact hs⟩
  | f + 1, k, p, hp, h1, h2, hs => by
    unfold kas_bin
    refine kasOk_bind (kasOk_mono (fun l h => ?_) (place_ok hK hp (by omega) hs k 0 k (by omega) (by omega) (Nat.le_refl _) (fun i hi => by omega) (fun i hi hik => by omega)))
    obtain ⟨a1, a2, a3⟩ := h
    have hsz := hp.size
    refine bin_ok f (k + 1) (hp.bubble k (k - l)) (by omega) (by omega) fun i hi => ?_
    rw [gd_bubble (by omega) a1, gd_bubble (by omega) a1]
    by_cases c1 : i = l
    · rw [if_pos c1, if_neg (by omega), if_pos (by omega)]
      subst c1
      exact a3 _ (by omega) (by omega)
    · rw [if_neg c1]
      by_cases c2 : l < i ∧ i ≤ k
      · rw [if_pos c2, if_neg (by omega), if_pos (by omega)]
        have := hs (i - 1) (by omega)
        rw [show i - 1 + 1 = i from by omega] at this
        simpa using this
      · rw [if_neg c2]
        by_cases c3 : i + 1 = l
        · rw [if_pos c3]; exact a2 _ (by omega)
        · rw [if_neg c3, if_neg (by omega)]; exact hs i (by omega)
theorem sort_ok (hn : 2 ≤ n) : kasOk (fun i j => decide (K i < K j)) n (kas_sort n) (fun p => Okp n p ∧ Srt K p n) := by
  unfold kas_sort
  have h0 : Okp n (List.toArray (List.range n)) := by unfold Okp; simp
  refine kasOk_bind (kasOk_mono (fun r h => ?_) (count_ok hK h0 hn))
  obtain ⟨a1, a2, a3⟩ := h
  by_cases hlt : r.1 < n
  · rw [if_pos hlt]
    refine bin_ok hK _ _ a2 (by omega) (by omega) fun i hi => a3 i (by omega)
  · rw [if_neg hlt]
    have : r.1 = n := by omega
    exact ⟨a2, this ▸ a3⟩
end
/-! ## MPlain -/
section
variable {α : Type} [DecidableEq α]
noncomputable def gBlk (T : List (List α)) (h : α) : Bool := T.any fun l => l.tail.any (· == h)
noncomputable def gCand (T : List (List α)) : Option α := T.findSome? fun l => match l with | [] => none | h :: _ => if gBlk T h then none else some h
noncomputable def gDel (c : α) (l : List α) : List α := if l.head? = some c then l.tail else l
noncomputable def gRun : Nat → List (List α) → List α → List α × Bool × List (List α)
  | 0, S, r => (r, true, S)
  | k + 1, S, r => if S.all List.isEmpty then (r, true, S) else match gCand (S.filter fun l => !l.isEmpty) with
    | none => (r, false, S)
    | some c => gRun k (S.map (gDel c)) (r ++ [c])
/-- what is left of the lines when `r` is given -/
noncomputable def left (S : List (List α)) (r : List α) : List (List α) := S.map fun l => l.filter fun x => !r.contains x
noncomputable def live (S : List (List α)) (r : List α) : List (List α) := (left S r).filter fun l => !l.isEmpty
theorem gCand_some {T : List (List α)} {c : α} (h : gCand T = some c) : (∃ l ∈ T, l.head? = some c) ∧ gBlk T c = false := by
  obtain ⟨l, hl, e⟩ := List.exists_of_findSome?_eq_some h
  cases l with
  | nil => cases e
  | cons x l =>
    simp only at e
    split at e
    · cases e
    · rename_i hb
      obtain rfl := Option.some.inj e
      exact ⟨⟨_, hl, rfl⟩, by simpa using hb⟩
theorem gDel_filter {l : List α} {c : α} (hn : l.Nodup) (h : c ∉ l.tail) : gDel c l = l.filter fun x => !(x == c) := by
  cases l with
  | nil => rfl
  | cons x l =>
    simp only [List.tail_cons] at h
    unfold gDel
    by_cases hx : x = c
    · subst hx
      rw [if_pos (by rfl), List.tail_cons, List.filter_cons, if_neg (by simp)]
      symm
      refine List.filter_eq_self.mpr fun y hy => ?_
      simp; intro e; exact h (e ▸ hy)
    · rw [if_neg (by simpa using hx)]
      symm
      refine List.filter_eq_self.mpr fun y hy => ?_
      simp
      intro e
      rcases List.mem_cons.mp hy with e2 | hy
      · exact hx (e2 ▸ e)
      · exact h (e ▸ hy)
theorem left_snoc {S : List (List α)} {r : List α} {c : α} (hn : ∀ l ∈ S, l.Nodup) (h : gBlk (live S r) c = false) : (left S r).map (gDel c) = left S (r ++ [c]) := by
  unfold left
  rw [List.map_map]
  refine List.map_congr_left fun l hl => ?_
  show gDel c (l.filter fun x => !r.contains x) = _
  rw [gDel_filter ((hn l hl).filter _)]
  · rw [List.filter_filter]
    refine List.filter_congr fun x _ => ?_
    simp only [List.contains_eq_mem, List.mem_append, List.mem_singleton, Bool.decide_or, Bool.not_or, Bool.beq_eq_decide_eq]
    exact Bool.and_comm _ _
  · intro hc
    have hm : (l.filter fun x => !r.contains x) ∈ live S r := by
      unfold live
      refine List.mem_filter.mpr ⟨List.mem_map.mpr ⟨l, hl, rfl⟩, ?_⟩
      cases hq : (l.filter fun x => !r.contains x) with
      | nil => rw [hq] at hc; cases hc
      | cons _ _ => rfl
    have : gBlk (live S r) c = true := List.any_eq_true.mpr ⟨_, hm, List.any_eq_true.mpr ⟨c, hc, by simp⟩⟩
    rw [h] at this; cases this
theorem gRun_through {S : List (List α)} (hn : ∀ l ∈ S, l.Nodup) : ∀ (rest r : List α) (k : Nat), rest.length < k →
    (∀ a c b, rest = a ++ c :: b → gCand (live S (r ++ a)) = some c) → (left S (r ++ rest)).all List.isEmpty = true →
    gRun k (left S r) r = (r ++ rest, true, left S (r ++ rest))
  | [], r, k, hk, _, he => by
    obtain ⟨k, rfl⟩ : ∃ j, k = j + 1 := ⟨k - 1, by simp at hk; omega⟩
    rw [List.append_nil] at he ⊢
    unfold gRun; rw [if_pos he]
  | c :: rest, r, k, hk, hc, he => by
    obtain ⟨k, rfl⟩ : ∃ j, k = j + 1 := ⟨k - 1, by simp at hk; omega⟩
    have h0 := hc [] c rest rfl
    rw [List.append_nil] at h0
    obtain ⟨⟨l, hl, hh⟩, hb⟩ := gCand_some h0
    have hne : ¬ (left S r).all List.isEmpty = true := fun h => by
      have h1 := List.mem_filter.mp hl
      have := List.all_eq_true.mp h l h1.1
      rw [this] at h1; exact absurd h1.2 (by simp)
    unfold gRun
    rw [if_neg hne, show (left S r).filter (fun l => !l.isEmpty) = live S r from rfl, h0]
    show gRun k ((left S r).map (gDel c)) (r ++ [c]) = _
    rw [left_snoc hn hb, gRun_through hn rest (r ++ [c]) k (by simp at hk; omega) (fun a d b e => by
      have := hc (c :: a) d b (by rw [e]; rfl)
      rw [List.append_assoc]; exact this) (by rw [List.append_assoc]; exact he)]
    simp
theorem gDel_len (c : α) (l : List α) : (gDel c l).length ≤ l.length := by unfold gDel; split <;> simp
theorem gSum_le {c : α} : ∀ (S : List (List α)), ((S.map (gDel c)).map List.length).sum ≤ (S.map List.length).sum
  | [] => Nat.le_refl _
  | l :: S => by
    have := gSum_le (c := c) S
    have := gDel_len c l
    simp only [List.map_cons, List.sum_cons]; omega
theorem gSum_lt {c : α} : ∀ {S : List (List α)}, (∃ l ∈ S, l.head? = some c) → ((S.map (gDel c)).map List.length).sum < (S.map List.length).sum
  | l :: S, ⟨l', hl, e⟩ => by
    have h1 := gDel_len c l
    have h2 := gSum_le (c := c) S
    simp only [List.map_cons, List.sum_cons]
    rcases List.mem_cons.mp hl with rfl | hl
    · have : (gDel c l').length < l'.length := by
        unfold gDel; rw [if_pos e]
        cases l' with
        | nil => cases e
        | cons _ _ => simp
      omega
    · have := gSum_lt ⟨l', hl, e⟩; omega
/-- the merge gets stuck: what may not be given stays -/
theorem gRun_stuck {S : List (List α)} (hn : ∀ l ∈ S, l.Nodup) {D : α → Bool} (hmore : ∃ l ∈ S, ∃ x ∈ l, D x = true)
    (hgood : ∀ r, (∀ x ∈ r, D x = false) → ∀ c, gCand (live S r) = some c → D c = false)
    (hbad : ∀ r, (∀ x ∈ r, D x = false) → gCand (live S r) = none → ∀ l ∈ S, ∀ x ∈ l, D x = false → x ∈ r) :
    ∀ (k : Nat) (r : List α), (∀ x ∈ r, D x = false) → ((left S r).map List.length).sum < k → ∃ r', gRun k (left S r) r = (r', false, S.map fun l => l.filter D)
  | 0, r, _, hk => by omega
  | k + 1, r, hr, hk => by
    have hne : ¬ (left S r).all List.isEmpty = true := fun h => by
      obtain ⟨l, hl, x, hx, hD⟩ := hmore
      have h1 := List.all_eq_true.mp h _ (List.mem_map.mpr ⟨l, hl, rfl⟩)
      have h2 : x ∈ l.filter fun x => !r.contains x := by
        refine List.mem_filter.mpr ⟨hx, ?_⟩
        simp only [List.contains_eq_mem, Bool.not_eq_true', decide_eq_false_iff_not]
        intro hxr; rw [hr x hxr] at hD; cases hD
      rw [List.isEmpty_iff] at h1
      rw [h1] at h2; cases h2
    unfold gRun
    rw [if_neg hne, show (left S r).filter (fun l => !l.isEmpty) = live S r from rfl]
    cases hc : gCand (live S r) with
    | none =>
      refine ⟨r, ?_⟩
      show (r, false, left S r) = _
      congr 2
      refine List.map_congr_left fun l hl => List.filter_congr fun x hx => ?_
      cases hD : D x with
      | true =>
        simp only [List.contains_eq_mem, Bool.not_eq_true', decide_eq_false_iff_not]
        intro hxr; rw [hr x hxr] at hD; cases hD
      | false => simp [hbad r hr hc l hl x hx hD]
    | some c =>
      obtain ⟨⟨l, hl, hh⟩, hb⟩ := gCand_some hc
      show ∃ r', gRun k ((left S r).map (gDel c)) (r ++ [c]) = _
      have hlt := gSum_lt (c := c) (S := left S r) ⟨l, (List.mem_filter.mp hl).1, hh⟩
      rw [left_snoc hn hb] at hlt ⊢
      refine gRun_stuck hn hmore hgood hbad k (r ++ [c]) (fun x hx => ?_) (by omega)
      rcases List.mem_append.mp hx with hx | hx
      · exact hr x hx
      · rw [List.mem_singleton.mp hx]; exact hgood r hr c hc
theorem left_nil (S : List (List α)) : left S [] = S := by
  unfold left
  have : (fun l : List α => l.filter fun x => !([] : List α).contains x) = id := by
    funext l; simp
  rw [this, List.map_id]
end
/-! ## MPlain2 -/
theorem mem_ups {x n : List Str} : x ∈ upsL n ↔ x <+: n := by
  unfold upsL
  simp only [List.mem_map, List.mem_reverse, List.mem_range]
  constructor
  · rintro ⟨i, _, rfl⟩; exact List.take_prefix i n
  · intro h
    exact ⟨x.length, by have := h.length_le; omega, (List.prefix_iff_eq_take.mp h).symm⟩
theorem ups_desc (n : List Str) : (upsL n).Pairwise fun a b => b.length < a.length := by
  unfold upsL
  rw [List.pairwise_map, List.pairwise_reverse]
  have h : ∀ k, k ≤ n.length + 1 → (List.range k).Pairwise fun a b => (n.take a).length < (n.take b).length := by
    intro k hk
    refine List.Pairwise.imp_of_mem ?_ List.pairwise_lt_range
    intro a b ha hb hab
    simp only [List.length_take, List.mem_range] at *
    omega
  exact h _ (Nat.le_refl _)
theorem ups_nodup (n : List Str) : (upsL n).Nodup := (ups_desc n).imp fun h e => by subst e; omega
/-- a candidate, said in the large -/
theorem gCand_of {α : Type} [DecidableEq α] {T : List (List α)} {c : α} (hb : gBlk T c = false) (hl : ∃ l ∈ T, l.head? = some c)
    (hA : ∀ l ∈ T, ∀ h, l.head? = some h → h ≠ c → gBlk T h = true) : gCand T = some c := by
  unfold gCand
  obtain ⟨l, hm, hh⟩ := hl
  have : ∀ (T' : List (List α)), (∀ l ∈ T', l ∈ T) → l ∈ T' → (T'.findSome? fun l => match l with | [] => none | h :: _ => if gBlk T h then none else some h) = some c := by
    intro T'
    induction T' with
    | nil => intro _ h; cases h
    | cons k T' ih =>
      intro hs hk
      rw [List.findSome?_cons]
      cases k with
      | nil =>
        refine ih (fun l h => hs l (List.mem_cons_of_mem _ h)) ?_
        rcases List.mem_cons.mp hk with rfl | h
        · cases hh
        · exact h
      | cons x k =>
        by_cases hx : x = c
        · subst hx; simp [hb]
        · have hbx := hA _ (hs _ List.mem_cons_self) x rfl hx
          simp only [hbx, if_true]
          refine ih (fun l h => hs l (List.mem_cons_of_mem _ h)) ?_
          rcases List.mem_cons.mp hk with rfl | h
          · exact absurd (Option.some.inj hh) hx
          · exact h
  exact this T (fun _ h => h) hm
/-! ## MPlain3 -/
section
variable {α : Type} [DecidableEq α]
/-- the head of a line, unless it is blocked under `B` -/
noncomputable def hd1 (B : α → Bool) (l : List α) : Option α := match l with | [] => none | h :: _ => if B h then none else some h
theorem gCand_hd (T : List (List α)) : gCand T = T.findSome? (hd1 (gBlk T)) := by
  rfl
theorem gBlk_live (T : List (List α)) (h : α) : gBlk (T.filter fun l => !l.isEmpty) h = gBlk T h := by
  unfold gBlk
  induction T with
  | nil => rfl
  | cons l T ih =>
    cases l with
    | nil => simpa using ih
    | cons x l => simp only [List.filter_cons, List.isEmpty_cons, Bool.not_false, if_true, List.any_cons, ih]
theorem gCand_live (T : List (List α)) : gCand (T.filter fun l => !l.isEmpty) = gCand T := by
  rw [gCand_hd, gCand_hd]
  have : gBlk (T.filter fun l => !l.isEmpty) = gBlk T := funext (gBlk_live T)
  rw [this]
  clear this
  generalize gBlk T = B
  induction T with
  | nil => rfl
  | cons l T ih =>
    cases l with
    | nil => rw [List.findSome?_cons]; exact ih
    | cons x l => simp only [List.filter_cons, List.isEmpty_cons, Bool.not_false, if_true, List.findSome?_cons, ih]
theorem gBlk_true {T : List (List α)} {h : α} : gBlk T h = true ↔ ∃ l ∈ T, h ∈ l.tail := by
  unfold gBlk
  rw [List.any_eq_true]
  refine exists_congr fun l => and_congr_right fun _ => ?_
  rw [List.any_eq_true]
  constructor
  · rintro ⟨x, hx, e⟩; rw [beq_iff_eq] at e; exact e ▸ hx
  · intro h'; exact ⟨h, h', by simp⟩
/-- one line without what is given -/
noncomputable def lft (r l : List α) : List α := l.filter fun x => decide (x ∉ r)
theorem left_lft (S : List (List α)) (r : List α) : left S r = S.map (lft r) := by
  unfold left lft
  refine List.map_congr_left fun l _ => List.filter_congr fun x _ => ?_
  simp
theorem mem_lft {r l : List α} {x : α} : x ∈ lft r l ↔ x ∈ l ∧ x ∉ r := by
  unfold lft; rw [List.mem_filter, decide_eq_true_iff]
theorem gBlk_left {S : List (List α)} {r : List α} {h : α} : gBlk (left S r) h = true ↔ ∃ l ∈ S, h ∈ (lft r l).tail := by
  rw [gBlk_true, left_lft]
  constructor
  · rintro ⟨l, hl, hh⟩
    obtain ⟨k, hk, rfl⟩ := List.mem_map.mp hl
    exact ⟨k, hk, hh⟩
  · rintro ⟨k, hk, hh⟩
    exact ⟨_, List.mem_map.mpr ⟨k, hk, rfl⟩, hh⟩
/-- the candidate under two sets of lines: line by line the same answer -/
theorem gCand_congr {S : List (List α)} {f g : List α → List α} {B C : α → Bool} {c : α}
    (h : (S.map f).findSome? (hd1 B) = some c) (hs : ∀ l ∈ S, hd1 B (f l) = some c → hd1 C (g l) = some c) (hn : ∀ l ∈ S, hd1 B (f l) = none → hd1 C (g l) = none) :
    (S.map g).findSome? (hd1 C) = some c := by
  induction S with
  | nil => cases h
  | cons l S ih =>
    simp only [List.map_cons, List.findSome?_cons] at h ⊢
    cases hb : hd1 B (f l) with
    | some x =>
      rw [hb] at h
      obtain rfl : x = c := by simpa using h
      rw [hs l List.mem_cons_self hb]
    | none =>
      rw [hb] at h
      rw [hn l List.mem_cons_self hb]
      exact ih h (fun k hk => hs k (List.mem_cons_of_mem _ hk)) (fun k hk => hn k (List.mem_cons_of_mem _ hk))
end
/-! ## MPlain4 -/
theorem ups_suffix {n m : List Str} (h : n <+: m) : upsL n <:+ upsL m := by
  obtain ⟨t, rfl⟩ := h
  have : ∀ (k : Nat) (t : List Str), t.length = k → upsL n <:+ upsL (n ++ t) := by
    intro k
    induction k with
    | zero => intro t ht; rw [List.length_eq_zero_iff.mp ht, List.append_nil]; exact List.suffix_refl _
    | succ k ih =>
      intro t ht
      rcases List.eq_nil_or_concat t with rfl | ⟨u, x, rfl⟩
      · simp at ht
      · rw [List.concat_eq_append, ← List.append_assoc, upsL_concat]
        exact (ih u (by simpa using ht)).trans (List.suffix_cons _ _)
  exact this _ t rfl
section
variable {α : Type} [DecidableEq α]
theorem tail_suffix {a b : List α} (h : a <:+ b) {x : α} (hx : x ∈ a.tail) : x ∈ b.tail := by
  obtain ⟨p, rfl⟩ := h
  cases p with
  | nil => exact hx
  | cons y p => exact List.mem_append_right _ (List.mem_of_mem_tail hx)
theorem filter_suffix {a b : List α} (f : α → Bool) (h : a <:+ b) : a.filter f <:+ b.filter f := by
  obtain ⟨p, rfl⟩ := h
  exact ⟨p.filter f, (List.filter_append ..).symm⟩
theorem blk_known {S : List (List α)} {k m : List α} (hm : m ∈ S) (hk : k <:+ m) (r : List α) : gBlk (left (S ++ [k]) r) = gBlk (left S r) := by
  funext h
  rw [Bool.eq_iff_iff, gBlk_left, gBlk_left]
  constructor
  · rintro ⟨l, hl, hh⟩
    rcases List.mem_append.mp hl with hl | hl
    · exact ⟨l, hl, hh⟩
    · obtain rfl := List.mem_singleton.mp hl
      exact ⟨m, hm, tail_suffix (filter_suffix _ hk) hh⟩
  · rintro ⟨l, hl, hh⟩; exact ⟨l, List.mem_append_left _ hl, hh⟩
theorem cand_known {S : List (List α)} {k m : List α} (hm : m ∈ S) (hk : k <:+ m) {r : List α} {c : α} (h : gCand (left S r) = some c) : gCand (left (S ++ [k]) r) = some c := by
  rw [gCand_hd] at h ⊢
  rw [blk_known hm hk]
  rw [show left (S ++ [k]) r = left S r ++ left [k] r from List.map_append .., List.findSome?_append, h]; rfl
end
/-- the merge of the ways up, one after the other -/
noncomputable def mUp (O : List (List Str)) (n : List Str) : List (List Str) := if n ∈ O then O else (O.filter fun x => decide (x ∉ upsL n)) ++ upsL n
/-- the order is good for the lines -/
noncomputable def Good (S : List (List (List Str))) (O : List (List Str)) : Prop := ∀ r c b, O = r ++ c :: b → gCand (left S r) = some c
theorem good_known {U : List (List Str)} {O : List (List Str)} {n m : List Str} (hg : Good (U.map upsL) O) (hm : m ∈ U) (hn : n <+: m) : Good ((U ++ [n]).map upsL) O := by
  intro r c b e
  rw [List.map_append]
  exact cand_known (List.mem_map.mpr ⟨m, hm, rfl⟩) (ups_suffix hn) (hg r c b e)
/-- the second part of a new way up: only what it holds is left -/
theorem good_new2 {U : List (List Str)} {n : List Str} {r a b : List (List Str)} {c : List Str} (he : upsL n = a ++ c :: b)
    (hr : ∀ m ∈ U, ∀ x ∈ upsL m, x ∈ r ∨ x ∈ c :: b) (hno : ∀ x ∈ c :: b, x ∉ r) (ha : ∀ x ∈ a, x ∈ r) : gCand (left ((U ++ [n]).map upsL) r) = some c := by
  have hd : (c :: b).Pairwise fun a b : List Str => b.length < a.length := (List.pairwise_append.mp (he ▸ ups_desc n)).2.1
  have hin : ∀ m ∈ U ++ [n], ∀ x ∈ lft r (upsL m), x ∈ c :: b := by
    intro m hm x hx
    have hx := mem_lft.mp hx
    have hxr : x ∉ r := hx.2
    rcases List.mem_append.mp hm with hm | hm
    · exact (hr m hm x hx.1).resolve_left hxr
    · obtain rfl := List.mem_singleton.mp hm
      have := hx.1
      rw [he] at this
      exact (List.mem_append.mp this).resolve_left fun h => hxr (ha x h)
  have hn : lft r (upsL n) = c :: b := by
    unfold lft
    rw [he, List.filter_append, List.filter_eq_nil_iff.mpr (fun x hx => by simp [ha x hx]), List.nil_append]
    exact List.filter_eq_self.mpr fun x hx => by simpa using hno x hx
  refine gCand_of ?_ ⟨c :: b, ?_, rfl⟩ ?_
  · refine Bool.eq_false_iff.mpr fun h => ?_
    obtain ⟨l, hl, hh⟩ := gBlk_left.mp h
    obtain ⟨m, hm, rfl⟩ := List.mem_map.mp hl
    have hp : (lft r (upsL m)).Pairwise fun a b => b.length < a.length := (ups_desc m).filter _
    have hq := hin m hm
    cases hf : lft r (upsL m) with
    | nil => rw [hf] at hh; cases hh
    | cons y l =>
      rw [hf] at hh hp hq
      have h1 := (List.pairwise_cons.mp hp).1 c hh
      rcases List.mem_cons.mp (hq y List.mem_cons_self) with e | e
      · rw [e] at h1; exact absurd h1 (Nat.lt_irrefl _)
      · have := (List.pairwise_cons.mp hd).1 y e; omega
  · rw [left_lft]
    exact List.mem_map.mpr ⟨upsL n, List.mem_map.mpr ⟨n, List.mem_append_right _ (List.mem_singleton.mpr rfl), rfl⟩, hn⟩
  · intro l hl h hh hne
    rw [left_lft] at hl
    obtain ⟨k, hk, rfl⟩ := List.mem_map.mp hl
    obtain ⟨m, hm, rfl⟩ := List.mem_map.mp hk
    have hmem : h ∈ c :: b := hin m hm h (List.mem_of_mem_head? (Option.mem_def.mpr hh))
    rw [gBlk_left]
    refine ⟨upsL n, List.mem_map.mpr ⟨n, List.mem_append_right _ (List.mem_singleton.mpr rfl), rfl⟩, ?_⟩
    rw [hn]
    exact (List.mem_cons.mp hmem).resolve_left hne
/-! ## MPlain5 -/
theorem ups_split (n m : List Str) : ∃ P Q, upsL m = P ++ Q ∧ (∀ x ∈ P, ¬ x <+: n) ∧ (∀ x ∈ Q, x <+: n) := by
  have : ∀ (k : Nat) (m : List Str), m.length = k → ∃ P Q, upsL m = P ++ Q ∧ (∀ x ∈ P, ¬ x <+: n) ∧ (∀ x ∈ Q, x <+: n) := by
    intro k
    induction k with
    | zero =>
      intro m hm
      rw [List.length_eq_zero_iff.mp hm]
      exact ⟨[], [[]], rfl, (fun x h => nomatch h), fun x h => by rw [List.mem_singleton.mp h]; exact List.nil_prefix⟩
    | succ k ih =>
      intro m hm
      rcases List.eq_nil_or_concat m with rfl | ⟨u, x, rfl⟩
      · simp at hm
      · rw [List.concat_eq_append] at hm ⊢
        by_cases hp : u ++ [x] <+: n
        · exact ⟨[], _, rfl, (fun x h => nomatch h), fun y hy => (mem_ups.mp hy).trans hp⟩
        · obtain ⟨P, Q, e, h1, h2⟩ := ih u (by simpa using hm)
          refine ⟨(u ++ [x]) :: P, Q, by rw [upsL_concat, e]; rfl, fun y hy => ?_, h2⟩
          rcases List.mem_cons.mp hy with rfl | hy
          · exact hp
          · exact h1 y hy
  exact this _ m rfl
theorem ups_head (n : List Str) : ∃ t, upsL n = n :: t := by
  rcases List.eq_nil_or_concat n with rfl | ⟨u, x, rfl⟩
  · exact ⟨[], rfl⟩
  · rw [List.concat_eq_append, upsL_concat]; exact ⟨_, rfl⟩
theorem tail_app {α : Type} {p q : List α} {h : α} (hq : h ∉ q) : h ∈ (p ++ q).tail ↔ h ∈ p.tail := by
  cases p with
  | nil => exact ⟨fun h' => absurd (List.mem_of_mem_tail h') hq, fun h' => nomatch h'⟩
  | cons y p => exact ⟨fun h' => (List.mem_append.mp h').resolve_right hq, fun h' => List.mem_append_left _ h'⟩
theorem lft_app {α : Type} [DecidableEq α] (r p q : List α) : lft r (p ++ q) = lft r p ++ lft r q := List.filter_append ..
theorem good_new1 {U : List (List Str)} {n c : List Str} {r₀ r : List (List Str)} (hno : ∀ m ∈ U, ¬ n <+: m) (hr : ∀ x, x ∈ r ↔ x ∈ r₀ ∧ ¬ x <+: n) (hc : ¬ c <+: n)
    (h : gCand (left (U.map upsL) r₀) = some c) : gCand (left ((U ++ [n]).map upsL) r) = some c := by
  have hP : ∀ P : List (List Str), (∀ x ∈ P, ¬ x <+: n) → lft r P = lft r₀ P := fun P hP => List.filter_congr fun x hx => by
    have := hr x
    have := hP x hx
    simp [*]
  have hQ : ∀ Q : List (List Str), (∀ x ∈ Q, x <+: n) → lft r Q = Q := fun Q hQ => List.filter_eq_self.mpr fun x hx => by
    have := hr x
    have := hQ x hx
    simp [*]
  have hB : ∀ y, ¬ y <+: n → gBlk (left (U.map upsL) r₀) y = gBlk (left ((U ++ [n]).map upsL) r) y := by
    intro y hy
    rw [Bool.eq_iff_iff, gBlk_left, gBlk_left]
    have key : ∀ m, y ∈ (lft r₀ (upsL m)).tail ↔ y ∈ (lft r (upsL m)).tail := by
      intro m
      obtain ⟨P, Q, e, h1, h2⟩ := ups_split n m
      rw [e, lft_app, lft_app, hP P h1, hQ Q h2, tail_app (fun h' => hy (h2 y (mem_lft.mp h').1)), tail_app (fun h' => hy (h2 y h'))]
    constructor
    · rintro ⟨l, hl, hh⟩
      obtain ⟨m, hm, rfl⟩ := List.mem_map.mp hl
      exact ⟨_, List.mem_map.mpr ⟨m, List.mem_append_left _ hm, rfl⟩, (key m).mp hh⟩
    · rintro ⟨l, hl, hh⟩
      obtain ⟨m, hm, rfl⟩ := List.mem_map.mp hl
      rcases List.mem_append.mp hm with hm | hm
      · exact ⟨_, List.mem_map.mpr ⟨m, hm, rfl⟩, (key m).mpr hh⟩
      · obtain rfl := List.mem_singleton.mp hm
        exact absurd (mem_ups.mp (mem_lft.mp (List.mem_of_mem_tail hh)).1) hy
  have hX : ∀ y, y <+: n → (∃ m ∈ U, y <+: m) → gBlk (left ((U ++ [n]).map upsL) r) y = true := by
    rintro y hy ⟨m, hm, hym⟩
    rw [gBlk_left]
    refine ⟨_, List.mem_map.mpr ⟨n, List.mem_append_right _ (List.mem_singleton.mpr rfl), rfl⟩, ?_⟩
    rw [hQ _ fun x hx => mem_ups.mp hx]
    obtain ⟨t, e⟩ := ups_head n
    have := mem_ups.mpr hy
    rw [e] at this ⊢
    refine (List.mem_cons.mp this).resolve_left fun e => hno m hm (e ▸ hym)
  rw [gCand_hd, left_lft] at h
  rw [← left_lft] at h
  rw [gCand_hd, show left ((U ++ [n]).map upsL) r = (U.map upsL).map (lft r) ++ left [upsL n] r by rw [left_lft, left_lft, List.map_append, List.map_append]; rfl, List.findSome?_append]
  have hC : gBlk ((U.map upsL).map (lft r) ++ left [upsL n] r) = gBlk (left ((U ++ [n]).map upsL) r) := by
    congr 1; rw [left_lft, left_lft, List.map_append, List.map_append]; rfl
  rw [hC]
  rw [show left (U.map upsL) r₀ = (U.map upsL).map (lft r₀) from left_lft ..] at h
  rw [show (U.map upsL).map (lft r₀) = left (U.map upsL) r₀ from (left_lft ..).symm] at h
  have h2 : ((U.map upsL).map (lft r₀)).findSome? (hd1 (gBlk (left (U.map upsL) r₀))) = some c := by rw [← left_lft]; exact h
  rw [gCand_congr (g := lft r) (C := gBlk (left ((U ++ [n]).map upsL) r)) h2 ?_ ?_]
  · rfl
  · intro l hl e
    obtain ⟨m, hm, rfl⟩ := List.mem_map.mp hl
    obtain ⟨P, Q, ee, h1, h2⟩ := ups_split n m
    rw [ee, lft_app] at e ⊢
    rw [hP P h1, hQ Q h2]
    cases hp : lft r₀ P with
    | cons y p =>
      rw [hp] at e
      have hy : y ∈ P := (mem_lft.mp (hp ▸ List.mem_cons_self : y ∈ lft r₀ P)).1
      simp only [List.cons_append, hd1] at e ⊢
      rw [← hB y (h1 y hy)]; exact e
    | nil =>
      rw [hp, List.nil_append] at e
      cases hq : lft r₀ Q with
      | nil => rw [hq] at e; cases e
      | cons y q =>
        rw [hq] at e
        have hy : y ∈ Q := (mem_lft.mp (hq ▸ List.mem_cons_self : y ∈ lft r₀ Q)).1
        simp only [hd1] at e
        split at e
        · cases e
        · exact absurd (Option.some.inj e ▸ h2 y hy) hc
  · intro l hl e
    obtain ⟨m, hm, rfl⟩ := List.mem_map.mp hl
    obtain ⟨P, Q, ee, h1, h2⟩ := ups_split n m
    have hmem : ∀ y ∈ Q, y <+: m := fun y hy => mem_ups.mp (ee ▸ List.mem_append_right _ hy)
    rw [ee, lft_app] at e ⊢
    rw [hP P h1, hQ Q h2]
    cases hp : lft r₀ P with
    | cons y p =>
      rw [hp] at e
      have hy : y ∈ P := (mem_lft.mp (hp ▸ List.mem_cons_self : y ∈ lft r₀ P)).1
      simp only [List.cons_append, hd1] at e ⊢
      rw [← hB y (h1 y hy)]; exact e
    | nil =>
      cases Q with
      | nil => rfl
      | cons y q =>
        simp only [List.nil_append, hd1]
        rw [hX y (h2 y List.mem_cons_self) ⟨m, hm, hmem y List.mem_cons_self⟩]; rfl
/-! ## MPlain6 -/
theorem mUp_mem {O : List (List Str)} {n x : List Str} (hcl : ∀ y ∈ O, ∀ z, z <+: y → z ∈ O) : x ∈ mUp O n ↔ x ∈ O ∨ x <+: n := by
  unfold mUp
  split
  · rename_i h
    exact ⟨Or.inl, fun h' => h'.elim id fun hx => hcl n h x hx⟩
  · rw [List.mem_append, List.mem_filter, decide_eq_true_iff, mem_ups]
    by_cases hx : x <+: n <;> simp [hx]
theorem mUps_mem (U : List (List Str)) : ∀ x, x ∈ U.foldl mUp [] ↔ ∃ m ∈ U, x <+: m := by
  have : ∀ (k : Nat) (U : List (List Str)), U.length = k → ∀ x, x ∈ U.foldl mUp [] ↔ ∃ m ∈ U, x <+: m := by
    intro k
    induction k with
    | zero => intro U hU x; rw [List.length_eq_zero_iff.mp hU]; simp
    | succ k ih =>
      intro U hU x
      rcases List.eq_nil_or_concat U with rfl | ⟨V, n, rfl⟩
      · simp at hU
      · rw [List.concat_eq_append] at hU ⊢
        have hV := ih V (by simpa using hU)
        rw [List.foldl_append, List.foldl_cons, List.foldl_nil, mUp_mem, hV x]
        · constructor
          · rintro (⟨m, hm, hx⟩ | hx)
            · exact ⟨m, List.mem_append_left _ hm, hx⟩
            · exact ⟨n, List.mem_append_right _ (List.mem_singleton.mpr rfl), hx⟩
          · rintro ⟨m, hm, hx⟩
            rcases List.mem_append.mp hm with hm | hm
            · exact Or.inl ⟨m, hm, hx⟩
            · exact Or.inr (List.mem_singleton.mp hm ▸ hx)
        · intro y hy z hz
          obtain ⟨m, hm, hx⟩ := (hV y).mp hy
          exact (hV z).mpr ⟨m, hm, hz.trans hx⟩
  exact this _ U rfl
theorem filter_split {α : Type} {f : α → Bool} {c : α} : ∀ {O r b : List α}, O.filter f = r ++ c :: b → ∃ r₀ b₀, O = r₀ ++ c :: b₀ ∧ r = r₀.filter f ∧ f c = true
  | [], r, b, h => by cases r <;> cases h
  | x :: O, r, b, h => by
    rw [List.filter_cons] at h
    split at h
    · rename_i hx
      cases r with
      | nil => cases h; exact ⟨[], O, rfl, rfl, hx⟩
      | cons y r =>
        rw [List.cons_append] at h
        obtain ⟨e0, h'⟩ := List.cons.inj h
        subst e0
        obtain ⟨r₀, b₀, e, e2, e3⟩ := filter_split h'
        exact ⟨x :: r₀, b₀, by rw [e]; rfl, by rw [List.filter_cons, if_pos hx, e2], e3⟩
    · rename_i hx
      obtain ⟨r₀, b₀, e, e2, e3⟩ := filter_split h
      exact ⟨x :: r₀, b₀, by rw [e]; rfl, by rw [List.filter_cons, if_neg hx, e2], e3⟩
theorem mUps_good (U : List (List Str)) : Good (U.map upsL) (U.foldl mUp []) ∧ (U.foldl mUp []).Nodup := by
  have : ∀ (k : Nat) (U : List (List Str)), U.length = k → Good (U.map upsL) (U.foldl mUp []) ∧ (U.foldl mUp []).Nodup := by
    intro k
    induction k with
    | zero =>
      intro U hU; rw [List.length_eq_zero_iff.mp hU]
      refine ⟨?_, List.nodup_nil⟩
      intro r c b e
      exact absurd e (by simp)
    | succ k ih =>
      intro U hU
      rcases List.eq_nil_or_concat U with rfl | ⟨V, n, rfl⟩
      · simp at hU
      · rw [List.concat_eq_append] at hU ⊢
        obtain ⟨hg, hd⟩ := ih V (by simpa using hU)
        have hV := mUps_mem V
        rw [List.foldl_append, List.foldl_cons, List.foldl_nil]
        generalize V.foldl mUp [] = O at hg hd hV
        unfold mUp
        split
        · rename_i hn
          obtain ⟨m, hm, hx⟩ := (hV n).mp hn
          exact ⟨good_known hg hm hx, hd⟩
        · rename_i hn
          have hno : ∀ m ∈ V, ¬ n <+: m := fun m hm hx => hn ((hV n).mpr ⟨m, hm, hx⟩)
          refine ⟨fun r c b e => ?_, List.nodup_append.mpr ⟨hd.filter _, ups_nodup n, fun x hx y hy e => ?_⟩⟩
          · rcases List.append_eq_append_iff.mp e with ⟨a, e1, e2⟩ | ⟨b', e1, e2⟩
            · -- the split lies in the new way
              rw [e1]
              refine good_new2 e2 ?_ ?_ ?_
              · intro m hm x hx
                by_cases hxn : x <+: n
                · have := mem_ups.mpr hxn
                  rw [e2] at this
                  rcases List.mem_append.mp this with h | h
                  · exact Or.inl (List.mem_append_right _ h)
                  · exact Or.inr h
                · refine Or.inl (List.mem_append_left _ (List.mem_filter.mpr ⟨(hV x).mpr ⟨m, hm, mem_ups.mp hx⟩, ?_⟩))
                  rw [decide_eq_true_iff, mem_ups]; exact hxn
              · intro x hx h
                have hxn : x ∈ upsL n := e2 ▸ List.mem_append_right _ hx
                rcases List.mem_append.mp h with h | h
                · exact (decide_eq_true_iff.mp (List.mem_filter.mp h).2) hxn
                · have := ups_nodup n
                  rw [e2] at this
                  exact (List.nodup_append.mp this).2.2 x h x hx rfl
              · intro x hx; exact List.mem_append_right _ hx
            · cases b' with
              | nil =>
                rw [List.append_nil] at e1
                rw [List.nil_append] at e2
                refine good_new2 (a := []) e2.symm ?_ ?_ (fun x h => nomatch h)
                · intro m hm x hx
                  by_cases hxn : x <+: n
                  · exact Or.inr (e2 ▸ mem_ups.mpr hxn)
                  · refine Or.inl (e1 ▸ List.mem_filter.mpr ⟨(hV x).mpr ⟨m, hm, mem_ups.mp hx⟩, ?_⟩)
                    rw [decide_eq_true_iff, mem_ups]; exact hxn
                · intro x hx h
                  have hxn : x ∈ upsL n := e2 ▸ hx
                  exact (decide_eq_true_iff.mp (List.mem_filter.mp (e1 ▸ h)).2) hxn
              | cons y b' =>
                rw [List.cons_append] at e2
                obtain ⟨rfl, e2⟩ := List.cons.inj e2
                obtain ⟨r₀, b₀, e3, e4, e5⟩ := filter_split e1
                rw [decide_eq_true_iff, mem_ups] at e5
                refine good_new1 hno (r₀ := r₀) (fun x => ?_) e5 (hg r₀ _ b₀ e3)
                rw [e4, List.mem_filter, decide_eq_true_iff, mem_ups]
          · subst e
            exact (decide_eq_true_iff.mp (List.mem_filter.mp hx).2) hy
  exact this _ U rfl
/-! ## MPlain7 -/
noncomputable def wayOf (p : List Str × Bool) : List (List Str) := if p.2 then (upsL p.1).reverse else upsL p.1
noncomputable def mDown (O : List (List Str)) (n : List Str) : List (List Str) := O ++ (upsL n).reverse.filter fun x => decide (x ∉ O)
theorem mem_way {x : List Str} {p : List Str × Bool} : x ∈ wayOf p ↔ x <+: p.1 := by
  unfold wayOf; split
  · rw [List.mem_reverse, mem_ups]
  · exact mem_ups
theorem way_nodup (p : List Str × Bool) : (wayOf p).Nodup := by
  unfold wayOf; split
  · exact (List.reverse_perm _).nodup_iff.mpr (ups_nodup _)
  · exact ups_nodup _
theorem down_asc (n : List Str) : (upsL n).reverse.Pairwise fun a b => a.length < b.length := by
  rw [List.pairwise_reverse]; exact ups_desc n
/-- on a way down, what stands in a tail has a proper prefix ahead of it on every way that is not given -/
theorem down_free {r : List (List Str)} {n m h : List Str} (hh : (lft r (upsL n).reverse).head? = some h) (hm : h ∈ (lft r (upsL m).reverse).tail) : False := by
  cases hq : lft r (upsL m).reverse with
  | nil => rw [hq] at hm; cases hm
  | cons g q =>
    rw [hq] at hm
    have hg : g ∈ lft r (upsL m).reverse := hq ▸ List.mem_cons_self
    have hhm : h ∈ lft r (upsL m).reverse := hq ▸ List.mem_cons_of_mem _ hm
    have hlt : g.length < h.length := by
      have hp : (lft r (upsL m).reverse).Pairwise fun a b => a.length < b.length := (down_asc m).filter _
      rw [hq] at hp
      exact (List.pairwise_cons.mp hp).1 h hm
    have g1 := mem_ups.mp (List.mem_reverse.mp (mem_lft.mp hg).1)
    have h1 := mem_ups.mp (List.mem_reverse.mp (mem_lft.mp hhm).1)
    have hgh : g <+: h := List.prefix_of_prefix_length_le g1 h1 (by omega)
    cases hp : lft r (upsL n).reverse with
    | nil => rw [hp] at hh; cases hh
    | cons y p =>
      rw [hp] at hh
      obtain rfl := Option.some.inj hh
      have hy : y ∈ lft r (upsL n).reverse := hp ▸ List.mem_cons_self
      have hn := mem_ups.mp (List.mem_reverse.mp (mem_lft.mp hy).1)
      have hgn : g ∈ lft r (upsL n).reverse := mem_lft.mpr ⟨List.mem_reverse.mpr (mem_ups.mpr (hgh.trans hn)), (mem_lft.mp hg).2⟩
      rw [hp] at hgn
      have hpw : (lft r (upsL n).reverse).Pairwise fun a b => a.length < b.length := (down_asc n).filter _
      rw [hp] at hpw
      rcases List.mem_cons.mp hgn with e | e
      · rw [e] at hlt; exact absurd hlt (Nat.lt_irrefl _)
      · have := (List.pairwise_cons.mp hpw).1 g e; omega
/-! ## MPlain8 -/
theorem lft_nil {α : Type} [DecidableEq α] {r l : List α} (h : ∀ x ∈ l, x ∈ r) : lft r l = [] := List.filter_eq_nil_iff.mpr fun x hx => by simp [h x hx]
/-- after the ways up are given, the first way down that is not given whole gives its next folder -/
theorem good_down {A B : List (List Str × Bool)} {n c : List Str} {r b : List (List Str)}
    (hu : ∀ p ∈ A ++ (n, true) :: B, p.2 = false → ∀ x ∈ wayOf p, x ∈ r) (hA : ∀ p ∈ A, ∀ x ∈ wayOf p, x ∈ r) (hl : lft r (upsL n).reverse = c :: b) :
    gCand (left ((A ++ (n, true) :: B).map wayOf) r) = some c := by
  have hb : gBlk (left ((A ++ (n, true) :: B).map wayOf) r) c = false := by
    refine Bool.eq_false_iff.mpr fun h => ?_
    obtain ⟨l, hl', hh⟩ := gBlk_left.mp h
    obtain ⟨p, hp, rfl⟩ := List.mem_map.mp hl'
    cases hf : p.2 with
    | false => rw [lft_nil (hu p hp hf)] at hh; cases hh
    | true =>
      unfold wayOf at hh
      rw [if_pos hf] at hh
      exact down_free (n := n) (by rw [hl]; rfl) hh
  rw [gCand_hd]
  generalize gBlk (left ((A ++ (n, true) :: B).map wayOf) r) = Bk at hb
  rw [left_lft, List.map_append, List.map_append, List.findSome?_append]
  have hn : ((A.map wayOf).map (lft r)).findSome? (hd1 Bk) = none := by
    rw [List.findSome?_eq_none_iff]
    intro l hl
    obtain ⟨k, hk, rfl⟩ := List.mem_map.mp hl
    obtain ⟨p, hp, rfl⟩ := List.mem_map.mp hk
    rw [lft_nil (hA p hp)]; rfl
  rw [hn, Option.none_or, List.map_cons, List.map_cons, List.findSome?_cons]
  have hw : lft r (wayOf (n, true)) = c :: b := hl
  rw [hw]
  simp [hd1, hb]
/-! ## MPlain9 -/
noncomputable def upsOf (W : List (List Str × Bool)) : List (List Str) := (W.filter fun p => !p.2).map (·.1)
theorem mem_upsOf {W : List (List Str × Bool)} {m : List Str} : m ∈ upsOf W ↔ (m, false) ∈ W := by
  unfold upsOf
  rw [List.mem_map]
  constructor
  · rintro ⟨⟨a, b⟩, hp, rfl⟩
    obtain ⟨h1, h2⟩ := List.mem_filter.mp hp
    cases b
    · exact h1
    · cases h2
  · intro h; exact ⟨_, List.mem_filter.mpr ⟨h, rfl⟩, rfl⟩
theorem down_head (n : List Str) : ∃ t, (upsL n).reverse = [] :: t := by
  unfold upsL
  rw [← List.map_reverse, List.reverse_reverse, List.range_succ_eq_map]
  exact ⟨_, rfl⟩
/-- before the root is given, the ways down change nothing -/
theorem good_mix {W : List (List Str × Bool)} {r : List (List Str)} {c : List Str} (hr : [] ∉ r) (hc : c ≠ [])
    (hno : ∀ n m, (n, true) ∈ W → (m, false) ∈ W → ∀ x, x <+: n → x <+: m → x = [])
    (h : gCand (left ((upsOf W).map upsL) r) = some c) : gCand (left (W.map wayOf) r) = some c := by
  have h0 := gCand_some h
  obtain ⟨⟨l, hl, hh⟩, _⟩ := h0
  rw [left_lft] at hl
  obtain ⟨k, hk, rfl⟩ := List.mem_map.mp hl
  obtain ⟨m, hm, rfl⟩ := List.mem_map.mp hk
  have hroot : [] ∈ (lft r (upsL m)).tail := by
    have hin : ([] : List Str) ∈ lft r (upsL m) := mem_lft.mpr ⟨mem_ups.mpr List.nil_prefix, hr⟩
    cases hq : lft r (upsL m) with
    | nil => rw [hq] at hh; cases hh
    | cons y q =>
      rw [hq] at hh hin
      obtain rfl := Option.some.inj hh
      exact (List.mem_cons.mp hin).resolve_left fun e => hc e.symm
  have hbu : gBlk (left ((upsOf W).map upsL) r) [] = true := gBlk_left.mpr ⟨_, hk, hroot⟩
  have hbw : gBlk (left (W.map wayOf) r) [] = true := gBlk_left.mpr ⟨_, List.mem_map.mpr ⟨_, mem_upsOf.mp hm, rfl⟩, hroot⟩
  have hB : ∀ y m, (m, false) ∈ W → y <+: m → gBlk (left (W.map wayOf) r) y = gBlk (left ((upsOf W).map upsL) r) y := by
    intro y m' hm' hy
    by_cases hy0 : y = []
    · rw [hy0, hbu, hbw]
    · rw [Bool.eq_iff_iff, gBlk_left, gBlk_left]
      constructor
      · rintro ⟨l, hl, hh⟩
        obtain ⟨⟨n, b⟩, hp, rfl⟩ := List.mem_map.mp hl
        have hyn : y <+: n := mem_way.mp (mem_lft.mp (List.mem_of_mem_tail hh)).1
        cases b with
        | true => exact absurd (hno n m' hp hm' y hyn hy) hy0
        | false => exact ⟨_, List.mem_map.mpr ⟨n, mem_upsOf.mpr hp, rfl⟩, hh⟩
      · rintro ⟨l, hl, hh⟩
        obtain ⟨n, hp, rfl⟩ := List.mem_map.mp hl
        exact ⟨_, List.mem_map.mpr ⟨(n, false), mem_upsOf.mp hp, rfl⟩, hh⟩
  rw [gCand_hd] at h ⊢
  generalize gBlk (left (W.map wayOf) r) = C at hbw hB
  generalize gBlk (left ((upsOf W).map upsL) r) = Bu at h hB
  rw [left_lft] at h ⊢
  have key : ∀ V : List (List Str × Bool), (∀ p ∈ V, p ∈ W) → ((V.map wayOf).map (lft r)).findSome? (hd1 C) = (((upsOf V).map upsL).map (lft r)).findSome? (hd1 Bu) := by
    intro V
    induction V with
    | nil => intro _; rfl
    | cons p V ih =>
      intro hV
      have ih := ih fun q hq => hV q (List.mem_cons_of_mem _ hq)
      obtain ⟨n, b⟩ := p
      have hp := hV _ List.mem_cons_self
      cases b with
      | true =>
        have e : upsOf ((n, true) :: V) = upsOf V := rfl
        rw [e, ← ih, List.map_cons, List.map_cons, List.findSome?_cons]
        obtain ⟨t, ht⟩ := down_head n
        have : lft r (wayOf (n, true)) = [] :: lft r t := by
          show lft r (upsL n).reverse = _
          rw [ht]; unfold lft; rw [List.filter_cons, if_pos (by simpa using hr)]
        rw [this]
        simp [hd1, hbw]
      | false =>
        have e : upsOf ((n, false) :: V) = n :: upsOf V := rfl
        rw [e, List.map_cons, List.map_cons, List.map_cons, List.map_cons, List.findSome?_cons, List.findSome?_cons, ih]
        have : hd1 C (lft r (wayOf (n, false))) = hd1 Bu (lft r (upsL n)) := by
          show hd1 C (lft r (upsL n)) = _
          cases hq : lft r (upsL n) with
          | nil => rfl
          | cons y q =>
            have hy : y ∈ lft r (upsL n) := hq ▸ List.mem_cons_self
            unfold hd1
            simp only [hB y n hp (mem_ups.mp (mem_lft.mp hy).1)]
        rw [this]
  rw [key W fun _ h => h]
  exact h
/-! ## MPlainA -/
/-- the root, when all else of the ways up is given -/
theorem good_root {W : List (List Str × Bool)} {r : List (List Str)} (hr : [] ∉ r) (hne : W ≠ []) (hu : ∀ m, (m, false) ∈ W → ∀ x, x <+: m → x ≠ [] → x ∈ r) :
    gCand (left (W.map wayOf) r) = some [] := by
  have hh : ∀ p ∈ W, (lft r (wayOf p)).head? = some [] := by
    rintro ⟨n, b⟩ hp
    cases b with
    | true =>
      obtain ⟨t, ht⟩ := down_head n
      show (lft r (upsL n).reverse).head? = _
      rw [ht]; unfold lft; rw [List.filter_cons, if_pos (by simpa using hr)]; rfl
    | false =>
      show (lft r (upsL n)).head? = _
      have hin : ([] : List Str) ∈ lft r (upsL n) := mem_lft.mpr ⟨mem_ups.mpr List.nil_prefix, hr⟩
      cases hq : lft r (upsL n) with
      | nil => rw [hq] at hin; cases hin
      | cons y q =>
        have hy := mem_lft.mp (hq ▸ List.mem_cons_self : y ∈ lft r (upsL n))
        by_cases h0 : y = []
        · rw [h0]; rfl
        · exact absurd (hu n hp y (mem_ups.mp hy.1) h0) hy.2
  refine gCand_of ?_ ?_ ?_
  · refine Bool.eq_false_iff.mpr fun h => ?_
    obtain ⟨l, hl, hm⟩ := gBlk_left.mp h
    obtain ⟨p, hp, rfl⟩ := List.mem_map.mp hl
    have hd : (lft r (wayOf p)).Nodup := (way_nodup p).filter _
    have := hh p hp
    cases hq : lft r (wayOf p) with
    | nil => rw [hq] at hm; cases hm
    | cons y q =>
      rw [hq] at hm hd this
      obtain rfl := Option.some.inj this
      exact (List.nodup_cons.mp hd).1 hm
  · obtain ⟨p, W', rfl⟩ := List.exists_cons_of_ne_nil hne
    exact ⟨_, by rw [left_lft]; exact List.mem_cons_self, hh p List.mem_cons_self⟩
  · intro l hl h hq hn
    rw [left_lft] at hl
    obtain ⟨k, hk, rfl⟩ := List.mem_map.mp hl
    obtain ⟨p, hp, rfl⟩ := List.mem_map.mp hk
    rw [hh p hp] at hq
    exact absurd (Option.some.inj hq).symm hn
/-! ## MPlainB -/
noncomputable def downsOf (W : List (List Str × Bool)) : List (List Str) := (W.filter fun p => p.2).map (·.1)
noncomputable def GoodFrom (S : List (List (List Str))) (r O : List (List Str)) : Prop := ∀ a c b, O = a ++ c :: b → gCand (left S (r ++ a)) = some c
theorem GoodFrom.app {S : List (List (List Str))} {r O P : List (List Str)} (h : GoodFrom S r O) (h2 : GoodFrom S (r ++ O) P) : GoodFrom S r (O ++ P) := by
  intro a c b e
  rcases List.append_eq_append_iff.mp e with ⟨a', e1, e2⟩ | ⟨b', e1, e2⟩
  · rw [e1, ← List.append_assoc]; exact h2 a' c b e2
  · cases b' with
    | nil =>
      rw [List.append_nil] at e1
      rw [List.nil_append] at e2
      have := h2 [] c b e2.symm
      rw [List.append_nil, e1] at this; exact this
    | cons y b' =>
      rw [List.cons_append] at e2
      obtain ⟨e3, e4⟩ := List.cons.inj e2
      subst e3
      exact h a _ b' e1
/-! ## MPlainC -/
theorem down_new {W : List (List Str × Bool)} {A B : List (List Str × Bool)} {n : List Str} {r : List (List Str)} (e : W = A ++ (n, true) :: B)
    (hu : ∀ p ∈ W, p.2 = false → ∀ x ∈ wayOf p, x ∈ r) (hA : ∀ p ∈ A, ∀ x ∈ wayOf p, x ∈ r) : GoodFrom (W.map wayOf) r ((upsL n).reverse.filter fun x => decide (x ∉ r)) := by
  intro a c b h
  subst e
  have hnd : ((upsL n).reverse.filter fun x => decide (x ∉ r)).Nodup := ((List.reverse_perm _).nodup_iff.mpr (ups_nodup _)).filter _
  refine good_down (b := b) (fun p hp hf x hx => List.mem_append_left _ (hu p hp hf x hx)) (fun p hp x hx => List.mem_append_left _ (hA p hp x hx)) ?_
  have e2 : lft (r ++ a) (upsL n).reverse = (lft r (upsL n).reverse).filter fun x => decide (x ∉ a) := by
    unfold lft
    rw [List.filter_filter]
    refine List.filter_congr fun x _ => ?_
    simp [List.mem_append, Bool.and_comm]
  have h' : lft r (upsL n).reverse = a ++ c :: b := by rw [← h]; unfold lft; exact List.filter_congr fun x _ => by simp
  rw [h] at hnd
  have hd := List.nodup_append.mp hnd
  rw [e2, h', List.filter_append, List.filter_eq_nil_iff.mpr (fun x hx => by simp [hx]), List.nil_append]
  exact List.filter_eq_self.mpr fun x hx => by
    have : x ∉ a := fun hxa => hd.2.2 x hxa x hx rfl
    simpa using this
/-! ## MPlainD -/
theorem downs_fold {W : List (List Str × Bool)} : ∀ (B A : List (List Str × Bool)) (r : List (List Str)), W = A ++ B →
    (∀ p ∈ W, p.2 = false → ∀ x ∈ wayOf p, x ∈ r) → (∀ p ∈ A, ∀ x ∈ wayOf p, x ∈ r) →
    ∃ O, (downsOf B).foldl mDown r = r ++ O ∧ GoodFrom (W.map wayOf) r O ∧ ∀ p ∈ W, ∀ x ∈ wayOf p, x ∈ r ++ O
  | [], A, r, e, hu, hA => ⟨[], (List.append_nil r).symm, (fun a c b h => absurd h (by simp)), by
      rw [List.append_nil] at e ⊢; subst e; exact hA⟩
  | (n, false) :: B, A, r, e, hu, hA => by
    refine downs_fold B (A ++ [(n, false)]) r (by rw [e]; simp) hu fun p hp => ?_
    rcases List.mem_append.mp hp with hp | hp
    · exact hA p hp
    · obtain rfl := List.mem_singleton.mp hp
      exact hu _ (e ▸ List.mem_append_right _ List.mem_cons_self) rfl
  | (n, true) :: B, A, r, e, hu, hA => by
    have h1 := down_new e hu hA
    have hm : ∀ x ∈ wayOf (n, true), x ∈ mDown r n := fun x hx => by
      unfold mDown
      by_cases hxr : x ∈ r
      · exact List.mem_append_left _ hxr
      · exact List.mem_append_right _ (List.mem_filter.mpr ⟨hx, by simpa using hxr⟩)
    have hsub : ∀ x ∈ r, x ∈ mDown r n := fun x hx => List.mem_append_left _ hx
    obtain ⟨O, e2, h2, h3⟩ := downs_fold B (A ++ [(n, true)]) (mDown r n) (by rw [e]; simp) (fun p hp hf x hx => hsub x (hu p hp hf x hx)) (fun p hp x hx => by
      rcases List.mem_append.mp hp with hp | hp
      · exact hsub x (hA p hp x hx)
      · obtain rfl := List.mem_singleton.mp hp
        exact hm x hx)
    refine ⟨((upsL n).reverse.filter fun x => decide (x ∉ r)) ++ O, ?_, h1.app h2, fun p hp x hx => ?_⟩
    · show (downsOf B).foldl mDown (mDown r n) = _
      rw [e2, ← List.append_assoc]; rfl
    · rw [← List.append_assoc]; exact h3 p hp x hx
/-! ## MPlainE -/
theorem upsL_last (n : List Str) : ∃ P, upsL n = P ++ [[]] := by
  obtain ⟨t, ht⟩ := down_head n
  refine ⟨t.reverse, ?_⟩
  have := congrArg List.reverse ht
  rw [List.reverse_reverse] at this
  rw [this]; simp
theorem mUps_last : ∀ (U : List (List Str)), U ≠ [] → ∃ P, U.foldl mUp [] = P ++ [[]] := by
  have : ∀ (k : Nat) (U : List (List Str)), U.length = k → U ≠ [] → ∃ P, U.foldl mUp [] = P ++ [[]] := by
    intro k
    induction k with
    | zero => intro U hU h; exact absurd (List.length_eq_zero_iff.mp hU) h
    | succ k ih =>
      intro U hU h
      rcases List.eq_nil_or_concat U with rfl | ⟨V, n, rfl⟩
      · exact absurd rfl h
      · rw [List.concat_eq_append] at hU ⊢
        rw [List.foldl_append, List.foldl_cons, List.foldl_nil]
        unfold mUp
        split
        · rename_i hn
          refine ih V (by simpa using hU) fun e => ?_
          subst e; simp at hn
        · obtain ⟨P, hP⟩ := upsL_last n
          exact ⟨_ ++ P, by rw [hP, List.append_assoc]⟩
  exact fun U => this _ U rfl
theorem split_last {α : Type} {r b P : List α} {c z : α} (h : r ++ c :: b = P ++ [z]) (hn : (P ++ [z]).Nodup) : (c = z → b = [] ∧ r = P) ∧ (c ≠ z → z ∉ r) := by
  rcases List.eq_nil_or_concat b with rfl | ⟨b', y, rfl⟩
  · have h' := List.append_inj' h rfl
    obtain ⟨rfl, e⟩ := h'
    have e : c = z := by simpa using e
    exact ⟨fun _ => ⟨rfl, rfl⟩, fun h => absurd e h⟩
  · rw [List.concat_eq_append, ← List.cons_append, ← List.append_assoc] at h
    obtain ⟨h1, e⟩ := List.append_inj' h rfl
    have e : y = z := by simpa using e
    subst e
    have hz : y ∉ P := fun hm => (List.nodup_append.mp hn).2.2 y hm y (List.mem_singleton.mpr rfl) rfl
    rw [← h1] at hz
    refine ⟨fun e => absurd (List.mem_append_right _ (e ▸ List.mem_cons_self)) hz, fun _ hm => hz (List.mem_append_left _ hm)⟩
/-- the whole order -/
noncomputable def orderOf (W : List (List Str × Bool)) : List (List Str) := (downsOf W).foldl mDown ((upsOf W).foldl mUp [])
theorem mUp_len (O : List (List Str)) (n : List Str) : (mUp O n).length ≤ O.length + (upsL n).length := by
  unfold mUp; split
  · omega
  · rw [List.length_append]; have := List.length_filter_le (fun x => decide (x ∉ upsL n)) O; omega
theorem mDown_len (O : List (List Str)) (n : List Str) : (mDown O n).length ≤ O.length + (upsL n).length := by
  unfold mDown; rw [List.length_append]; have := List.length_filter_le (fun x => decide (x ∉ O)) (upsL n).reverse; rw [List.length_reverse] at this; omega
theorem foldl_len {f : List (List Str) → List Str → List (List Str)} (hf : ∀ O n, (f O n).length ≤ O.length + (upsL n).length) : ∀ (U : List (List Str)) (O : List (List Str)), (U.foldl f O).length ≤ O.length + (U.map fun n => (upsL n).length).sum
  | [], O => by simp
  | n :: U, O => by
    have := foldl_len hf U (f O n)
    have := hf O n
    rw [List.foldl_cons, List.map_cons, List.sum_cons]; omega
theorem sum_ways : ∀ (W : List (List Str × Bool)), ((W.map wayOf).map List.length).sum = ((upsOf W).map fun n => (upsL n).length).sum + ((downsOf W).map fun n => (upsL n).length).sum
  | [] => rfl
  | (n, false) :: W => by
    have := sum_ways W
    have e1 : upsOf ((n, false) :: W) = n :: upsOf W := rfl
    have e2 : downsOf ((n, false) :: W) = downsOf W := rfl
    have e3 : (wayOf (n, false)).length = (upsL n).length := rfl
    rw [e1, e2, List.map_cons, List.map_cons, List.map_cons, List.sum_cons, List.sum_cons, this, e3]; omega
  | (n, true) :: W => by
    have := sum_ways W
    have e1 : upsOf ((n, true) :: W) = upsOf W := rfl
    have e2 : downsOf ((n, true) :: W) = n :: downsOf W := rfl
    have e3 : (wayOf (n, true)).length = (upsL n).length := List.length_reverse
    rw [e1, e2, List.map_cons, List.map_cons, List.map_cons, List.sum_cons, List.sum_cons, this, e3]; omega
theorem order_len (W : List (List Str × Bool)) : (orderOf W).length ≤ ((W.map wayOf).map List.length).sum := by
  rw [sum_ways]
  unfold orderOf
  have h1 := foldl_len mDown_len (downsOf W) ((upsOf W).foldl mUp [])
  have h2 := foldl_len mUp_len (upsOf W) []
  simp only [List.length_nil] at h2
  omega
theorem run_ok {W : List (List Str × Bool)} (hno : ∀ n m, (n, true) ∈ W → (m, false) ∈ W → ∀ x, x <+: n → x <+: m → x = []) :
    gRun (((W.map wayOf).map List.length).sum + 1) (W.map wayOf) [] = (orderOf W, true, W.map fun _ => []) := by
  have hg1 : GoodFrom (W.map wayOf) [] ((upsOf W).foldl mUp []) := by
    intro r c b e
    rw [List.nil_append]
    obtain ⟨hg, hd⟩ := mUps_good (upsOf W)
    have hm := mUps_mem (upsOf W)
    have hne : upsOf W ≠ [] := fun h => by rw [h] at e; simp at e
    obtain ⟨P, hP⟩ := mUps_last _ hne
    have h := split_last (e.symm.trans hP) (hP ▸ hd)
    by_cases hc : c = []
    · subst hc
      obtain ⟨rfl, rfl⟩ := h.1 rfl
      have hr : [] ∉ r := fun hm => by
        rw [hP] at hd
        exact (List.nodup_append.mp hd).2.2 [] hm [] (List.mem_singleton.mpr rfl) rfl
      refine good_root hr ?_ ?_
      · rintro rfl; exact hne rfl
      · intro m hmW x hx hx0
        have := (hm x).mpr ⟨m, mem_upsOf.mpr hmW, hx⟩
        rw [hP] at this
        exact (List.mem_append.mp this).resolve_right fun h => hx0 (List.mem_singleton.mp h)
    · exact good_mix (h.2 hc) hc hno (hg r c b e)
  obtain ⟨O, e, h2, h3⟩ := downs_fold (W := W) W [] ((upsOf W).foldl mUp []) rfl (fun p hp hf x hx => by
    obtain ⟨n, b⟩ := p
    obtain rfl : b = false := hf
    exact (mUps_mem (upsOf W) x).mpr ⟨n, mem_upsOf.mpr hp, mem_way.mp hx⟩) (fun p hp => nomatch hp)
  have hg := hg1.app (by rw [List.nil_append]; exact h2)
  rw [← e] at hg h3
  have hl : left (W.map wayOf) (orderOf W) = W.map fun _ => [] := by
    rw [left_lft, List.map_map]
    exact List.map_congr_left fun p hp => lft_nil (h3 p hp)
  have := gRun_through (S := W.map wayOf) (fun l hl => by
    obtain ⟨p, _, rfl⟩ := List.mem_map.mp hl; exact way_nodup p) (orderOf W) [] (((W.map wayOf).map List.length).sum + 1) (by have := order_len W; omega)
    (fun a c b e => by unfold live; rw [gCand_live]; exact hg a c b e) (by rw [List.nil_append, hl]; simp)
  rw [left_nil, List.nil_append, hl] at this
  exact this
/-! ## MPlainF -/
/-- on a way down -/
noncomputable def onDown (W : List (List Str × Bool)) (x : List Str) : Bool := (downsOf W).any fun n => x.isPrefixOf n
theorem onDown_iff {W : List (List Str × Bool)} {x : List Str} : onDown W x = true ↔ ∃ n, (n, true) ∈ W ∧ x <+: n := by
  unfold onDown downsOf
  rw [List.any_eq_true]
  constructor
  · rintro ⟨n, hn, h⟩
    obtain ⟨⟨a, b⟩, hp, rfl⟩ := List.mem_map.mp hn
    obtain ⟨h1, h2⟩ := List.mem_filter.mp hp
    cases b
    · cases h2
    · exact ⟨a, h1, List.isPrefixOf_iff_prefix.mp h⟩
  · rintro ⟨n, hn, h⟩
    exact ⟨n, List.mem_map.mpr ⟨_, List.mem_filter.mpr ⟨hn, rfl⟩, rfl⟩, List.isPrefixOf_iff_prefix.mpr h⟩
theorem onDown_pre {W : List (List Str × Bool)} {x y : List Str} (h : x <+: y) (hy : onDown W y = true) : onDown W x = true := by
  obtain ⟨n, h1, h2⟩ := onDown_iff.mp hy
  exact onDown_iff.mpr ⟨n, h1, h.trans h2⟩
theorem exists_max {α : Type} (f : α → Nat) {P : α → Prop} (N : Nat) (hN : ∀ x, P x → f x ≤ N) {x : α} (hx : P x) : ∃ y, P y ∧ ∀ z, P z → f z ≤ f y := by
  have : ∀ (k : Nat) (x : α), N - f x = k → P x → ∃ y, P y ∧ ∀ z, P z → f z ≤ f y := by
    intro k
    induction k using Nat.strongRecOn with
    | _ k ih =>
      intro x hk hx
      by_cases h : ∀ z, P z → f z ≤ f x
      · exact ⟨x, hx, h⟩
      · simp only [Classical.not_forall, Nat.not_le] at h
        obtain ⟨z, hz, hlt⟩ := h
        have := hN z hz
        exact ih (N - f z) (by omega) z rfl hz
  exact this _ x rfl hx
theorem gCand_none {T : List (List (List Str))} (h : gCand T = none) {l : List (List Str)} (hl : l ∈ T) {x : List Str} (hx : l.head? = some x) : gBlk T x = true := by
  rw [gCand_hd, List.findSome?_eq_none_iff] at h
  have := h l hl
  cases l with
  | nil => cases hx
  | cons y l =>
    obtain rfl := Option.some.inj hx
    unfold hd1 at this
    by_cases hb : gBlk T y = true
    · exact hb
    · simp [hb] at this
theorem len_le_all {p : List Str × Bool} : ∀ {W : List (List Str × Bool)}, p ∈ W → p.1.length ≤ (W.map fun p => p.1.length).sum
  | q :: W, hp => by
    rw [List.map_cons, List.sum_cons]
    rcases List.mem_cons.mp hp with rfl | hp
    · omega
    · have := len_le_all hp; omega
theorem run_bad {W : List (List Str × Bool)} {n₀ m₀ : List Str} {z : List Str} (hn₀ : (n₀, true) ∈ W) (hm₀ : (m₀, false) ∈ W) (hz : z ≠ []) (hzn : z <+: n₀) (hzm : z <+: m₀) :
    ∃ r, gRun (((W.map wayOf).map List.length).sum + 1) (W.map wayOf) [] = (r, false, (W.map wayOf).map fun l => l.filter (onDown W)) := by
  have hnd : ∀ l ∈ W.map wayOf, l.Nodup := fun l hl => by
    obtain ⟨p, _, rfl⟩ := List.mem_map.mp hl; exact way_nodup p
  have := gRun_stuck (S := W.map wayOf) hnd (D := onDown W) ⟨wayOf (n₀, true), List.mem_map.mpr ⟨_, hn₀, rfl⟩, n₀, mem_way.mpr (List.prefix_refl _), onDown_iff.mpr ⟨n₀, hn₀, List.prefix_refl _⟩⟩ ?_ ?_
    (((W.map wayOf).map List.length).sum + 1) [] (fun x h => nomatch h) (by rw [left_nil]; exact Nat.lt_succ_self _)
  · rw [left_nil] at this; exact this
  · intro r hr c hc
    unfold live at hc
    rw [gCand_live] at hc
    obtain ⟨_, hb⟩ := gCand_some hc
    refine Bool.eq_false_iff.mpr fun hD => ?_
    have keep : ∀ x, onDown W x = true → x ∉ r := fun x hx h => by rw [hr x h] at hx; cases hx
    obtain ⟨n, hn, hcn⟩ := onDown_iff.mp hD
    have hblk : gBlk (left (W.map wayOf) r) c = true := by
      by_cases hc0 : c = []
      · subst hc0
        refine gBlk_left.mpr ⟨_, List.mem_map.mpr ⟨_, hm₀, rfl⟩, ?_⟩
        have h1 : z ∈ lft r (wayOf (m₀, false)) := mem_lft.mpr ⟨mem_way.mpr hzm, keep z (onDown_iff.mpr ⟨n₀, hn₀, hzn⟩)⟩
        have h2 : ([] : List Str) ∈ lft r (wayOf (m₀, false)) := mem_lft.mpr ⟨mem_way.mpr List.nil_prefix, keep [] hD⟩
        have hp : (lft r (wayOf (m₀, false))).Pairwise fun a b => b.length < a.length := (ups_desc m₀).filter _
        cases hq : lft r (wayOf (m₀, false)) with
        | nil => rw [hq] at h1; cases h1
        | cons y q =>
          rw [hq] at h1 h2 hp
          rcases List.mem_cons.mp h2 with e | h2
          · subst e
            rcases List.mem_cons.mp h1 with e | h1
            · exact absurd e hz
            · exact absurd ((List.pairwise_cons.mp hp).1 z h1) (Nat.not_lt_zero _)
          · exact h2
      · refine gBlk_left.mpr ⟨_, List.mem_map.mpr ⟨_, hn, rfl⟩, ?_⟩
        obtain ⟨t, ht⟩ := down_head n
        have hw : lft r (wayOf (n, true)) = [] :: t := by
          show lft r (upsL n).reverse = _
          rw [← ht]
          refine List.filter_eq_self.mpr fun x hx => ?_
          have : x ∉ r := keep x (onDown_iff.mpr ⟨n, hn, mem_ups.mp (List.mem_reverse.mp hx)⟩)
          simpa using this
        rw [hw]
        have hm : c ∈ (upsL n).reverse := List.mem_reverse.mpr (mem_ups.mpr hcn)
        rw [ht] at hm
        exact (List.mem_cons.mp hm).resolve_left hc0
    rw [hb] at hblk; cases hblk
  · intro r hr hc l hl x hx hD
    unfold live at hc
    rw [gCand_live] at hc
    refine Classical.byContradiction fun hxr => ?_
    let P : List Str → Prop := fun y => (∃ p ∈ W, y <+: p.1) ∧ onDown W y = false ∧ y ∉ r
    have hPx : P x := by
      obtain ⟨p, hp, rfl⟩ := List.mem_map.mp hl
      exact ⟨⟨p, hp, mem_way.mp hx⟩, hD, hxr⟩
    have hN : ∀ y, P y → y.length ≤ (W.map fun p => p.1.length).sum := by
      rintro y ⟨⟨p, hp, hy⟩, _⟩
      have h1 := hy.length_le
      have h2 := len_le_all hp
      omega
    obtain ⟨y, ⟨⟨⟨m, b⟩, hp, hy⟩, hyD, hyr⟩, hmax⟩ := exists_max List.length _ hN hPx
    have hb : b = false := by
      cases b with
      | false => rfl
      | true => rw [onDown_iff.mpr ⟨m, hp, hy⟩] at hyD; cases hyD
    subst hb
    -- what is left on an up with `y` on it: nothing longer
    have long : ∀ m', (m', false) ∈ W → ∀ u ∈ lft r (upsL m'), y <+: m' → ¬ y.length < u.length := by
      intro m' hm' u hu hym hlt
      have hu1 := mem_lft.mp hu
      have hum := mem_ups.mp hu1.1
      have hyu : y <+: u := List.prefix_of_prefix_length_le hym hum (by omega)
      have huD : onDown W u = false := by
        refine Bool.eq_false_iff.mpr fun h => ?_
        rw [onDown_pre hyu h] at hyD; cases hyD
      have := hmax u ⟨⟨_, hm', hum⟩, huD, hu1.2⟩
      omega
    have hhead : (lft r (upsL m)).head? = some y := by
      have hin : y ∈ lft r (upsL m) := mem_lft.mpr ⟨mem_ups.mpr hy, hyr⟩
      have hpw : (lft r (upsL m)).Pairwise fun a b => b.length < a.length := (ups_desc m).filter _
      cases hq : lft r (upsL m) with
      | nil => rw [hq] at hin; cases hin
      | cons u q =>
        have hl := long m hp u (hq ▸ List.mem_cons_self) hy
        rw [hq] at hin hpw
        rcases List.mem_cons.mp hin with rfl | hin
        · rfl
        · exact absurd ((List.pairwise_cons.mp hpw).1 y hin) hl
    have hblk := gCand_none hc (l := lft r (upsL m)) (by
      rw [left_lft]; exact List.mem_map.mpr ⟨_, List.mem_map.mpr ⟨_, hp, rfl⟩, rfl⟩) hhead
    obtain ⟨l', hl', hy'⟩ := gBlk_left.mp hblk
    obtain ⟨⟨m', b'⟩, hp', rfl⟩ := List.mem_map.mp hl'
    have hym' : y <+: m' := mem_way.mp (mem_lft.mp (List.mem_of_mem_tail hy')).1
    cases b' with
    | true => rw [onDown_iff.mpr ⟨m', hp', hym'⟩] at hyD; cases hyD
    | false =>
      have hpw : (lft r (upsL m')).Pairwise fun a b => b.length < a.length := (ups_desc m').filter _
      change y ∈ (lft r (upsL m')).tail at hy'
      cases hq : lft r (upsL m') with
      | nil => rw [hq] at hy'; cases hy'
      | cons u q =>
        rw [hq] at hy' hpw
        exact long m' hp' u (hq ▸ List.mem_cons_self) hym' ((List.pairwise_cons.mp hpw).1 y hy')
/-! ## MTd -/
section
variable {prog : Program} {w : World} {A : Around} {E : Value → Shared → Prop} {s s₀ : Shared} {g : Heap} {L : Addr} {m : Str → Option Value} {news : List (Addr × Obj)} {env : Env} {mg mb : Str → Option Value}
/-- all of a heap but the frame and one address -/
noncomputable def restOf (h : Heap) (L k : Addr) : List (Addr × Obj) := (allObjs h L).filter fun p => decide (p.1 ≠ k)
theorem mem_restOf {h : Heap} {L k a : Addr} {o : Obj} : (a, o) ∈ restOf h L k ↔ a ≠ L ∧ a ≠ k ∧ h.get? a = some o := by
  unfold restOf
  rw [List.mem_filter, mem_allObjs, decide_eq_true_iff]
  exact ⟨fun ⟨⟨h1, h2⟩, h3⟩ => ⟨h1, h3, h2⟩, fun ⟨h1, h3, h2⟩ => ⟨⟨h1, h2⟩, h3⟩⟩
theorem restOf_ne {h : Heap} {L k : Addr} : ∀ p ∈ restOf h L k, p.1 ≠ k := fun p hp => (mem_restOf.mp (show (p.1, p.2) ∈ _ from hp)).2.1
theorem At.rest (I : At g L m news s₀ s) (k : Addr) : News {} L s.heap (restOf s.heap L k) := fun p hp => I.all p (List.mem_filter.mp hp).1
theorem At.upd1 {a : Addr} {o : Obj} (I : At g L m ((a, o) :: news) s₀ s) : News {} L s.heap ((a, o) :: restOf s.heap L a) := fun p hp => by
  rcases List.mem_cons.mp hp with rfl | hp
  · exact ⟨I.get (.head _), (I.N _ (.head _)).2.1, empty_get _⟩
  · exact I.rest a p hp
theorem upd1_U {a : Addr} {o : Obj} {h : Heap} {L : Addr} : UpdF a o ((a, o) :: restOf h L a) (fun o' => (a, o') :: restOf h L a) := .head restOf_ne
theorem At.back1 {a : Addr} {o o' : Obj} (I : At g L m ((a, o) :: news) s₀ s) {h' : Heap} {tk : Nat} (F : Fr {} L h' m) (N : News {} L h' ((a, o') :: restOf s.heap L a)) : At g L m ((a, o') :: news) s₀ { s with heap := h', toks := tk } := by
  have ha := I.N _ (.head _)
  have nd := I.nd
  rw [List.map_cons, List.nodup_cons] at nd
  refine ⟨F.ns, fun b x e => ?_, I.gL, fun p hp => ?_, I.nd, by have := I.e; rw [this]⟩
  · have hb : b ≠ a := fun h => by rw [h, ha.2.2] at e; cases e
    have hL : b ≠ L := fun h => by rw [h, I.gL] at e; cases e
    exact (N (b, x) (.tail _ (mem_restOf.mpr ⟨hL, hb, I.keep b x e⟩))).1
  · rcases List.mem_cons.mp hp with rfl | hp
    · exact ⟨(N _ (.head _)).1, ha.2⟩
    · have hp' := I.N p (.tail _ hp)
      have hb : p.1 ≠ a := fun h => nd.1 (List.mem_map.mpr ⟨p, hp, h⟩)
      exact ⟨(N p (.tail _ (mem_restOf.mpr ⟨hp'.2.1, hb, hp'.1⟩))).1, hp'.2⟩
theorem At.back2 {a k : Addr} {o o' ok : Obj} (I : At g L m ((a, o) :: news) s₀ s) {h' : Heap} {tk : Nat} (F : Fr {} L h' m) (N : News {} L h' ((k, ok) :: (a, o') :: restOf s.heap L a)) (hak : a < k) (hk : ∀ q ∈ restOf s.heap L a, q.1 < k) :
    At g L m ((k, ok) :: (a, o') :: news) s₀ { s with heap := h', toks := tk } := by
  have J := I.back1 (tk := tk) F fun p hp => N p (.tail _ hp)
  have hkL := (N _ (.head _)).2.1
  have hnew : s.heap.get? k = none := by
    cases q : s.heap.get? k with
    | none => rfl
    | some x => exact absurd (hk (k, x) (mem_restOf.mpr ⟨hkL, Nat.ne_of_gt hak, q⟩)) (Nat.lt_irrefl _)
  refine ⟨J.ns, J.keep, J.gL, fun p hp => ?_, ?_, J.e⟩
  · rcases List.mem_cons.mp hp with rfl | hp
    · exact ⟨(N _ (.head _)).1, hkL, none_of I.keep hnew⟩
    · exact J.N p hp
  · rw [List.map_cons, List.nodup_cons]
    refine ⟨fun h => ?_, I.nd⟩
    obtain ⟨p, hp, e⟩ := List.mem_map.mp h
    rcases List.mem_cons.mp hp with rfl | hp
    · exact absurd e (Nat.ne_of_lt hak)
    · have := (I.N p (.tail _ hp)).1
      rw [e, hnew] at this; cases this

/-- dicts with text keys -/
theorem q_dget {d : Addr} {kvs : List (Str × Value)} {k : Str} {t : Tok} {v : Value} {value slice : PySem.Expr} {Q : Value → Shared → Prop} (I : At g L m news s₀ s) (hD : s.heap.DictOf (PySem.strKind prog w) d kvs) (hl : valueAt kvs k = some v)
    (h : ∀ s', At g L m news s₀ s' → Q v s')
    (hs : subscripted slice false (.ref d) (.str k t) = operate [.ref d, .str k t] (getItem (.ref d) (.str k t)) := by with_unfolding_all rfl) (hg : ∀ r, letTemporaryGo value (.ref d) r = pure () := by intro _; with_unfolding_all rfl) :
    wpAny (model prog w) A (subscriptTail value slice (.ref d) (.str k t)) Q E s :=
  subscriptTail_builtin hD.typeIs slot_dict_getitem.lookup (wpAny_getItem_of (strKind_is _ _ _ _) hD.mapOf hl (h _ (I.tick _))) hs hg
theorem q_dnotin {d : Addr} {kvs : List (Str × Value)} {k : Str} {t : Tok} {Q : Value → Shared → Prop} (I : At g L m news s₀ s) (hD : s.heap.DictOf (PySem.strKind prog w) d kvs) (lo : (d == sysModules) = false)
    (h : ∀ s', At g L m news s₀ s' → Q (.bool (!(valueAt kvs k).isSome)) s') : wpAny (model prog w) A (compareOp .NotIn (.str k t) (.ref d)) Q E s :=
  wpAny_notIn_of (strKind_is _ _ _ _) lo hD.mapOf (h _ (I.tick _))
theorem q_dset {d : Addr} {o : Obj} {kvs : List (Str × Value)} {k : Str} {t : Tok} {v : Value} {Q : Unit → Shared → Prop} (I : At g L m ((d, o) :: news) s₀ s) (hd : o.IsDictOf (PySem.strKind prog w) kvs) (hz : kvs.length ≤ sizeLine)
    (h : ∀ o' s', o'.IsDictOf (PySem.strKind prog w) (stored kvs k v) → At g L m ((d, o') :: news) s₀ s' → Q () s') : wpAny (model prog w) A (setItem (.ref d) (.str k t) v) Q E s := by
  refine wpAny_setItem_pairs (hsz := hz) (strKind_is _ _ _ _) (Heap.dictOf_iff.mpr ⟨o, I.get (.head _), hd⟩) fun h' hmm hs => ?_
  obtain ⟨o', ho', hd'⟩ := Heap.dictOf_iff.mp hmm
  exact h o' _ hd' (I.change (f := id) hs ho')
theorem q_dnew {pos : Pos} {Q : Value → Shared → Prop} (I : At g L m news s₀ s) (hn : s.heap.NoLimit) (h : ∀ d o s', (d == sysModules) = false → o.IsDictOf (PySem.strKind prog w) [] → At g L m ((d, o) :: news) s₀ s' → Q (.ref d) s') : wpAny (model prog w) A (eval (.Dict [] [] pos) env) Q E s :=
  wpAny_Dict_empty (h _ _ _ (beq_eq_false_iff_ne.mpr (Nat.ne_of_gt (modules_low hn))) ⟨#[], 0, ⟨rfl, rfl, rfl⟩, rfl, (fun e he => absurd he (by simp)), .nil, .nil⟩ (I.push (tk := s.toks) _))
theorem x_setitem {o i value : Expr} {pos' pos : Pos} {rest : List Stmt} {Q : Flow → Shared → Prop}
    (h : wpAny (model prog w) A (eval value env) (fun v s₁ => wpAny (model prog w) A (eval o env) (fun ov s₂ => wpAny (model prog w) A (eval i env) (fun iv s₃ =>
      wpAny (model prog w) A (setItem ov iv v) (fun _ s₄ => wpAny (model prog w) A (execs rest env) Q E s₄) E s₃) E s₂) E s₁) E s)
    (hs : swapsWith value (some (.Subscript o i pos')) pos.line env = pure false := by with_unfolding_all rfl) : wpAny (model prog w) A (execs (.Assign [.Subscript o i pos'] value pos :: rest) env) Q E s :=
  x_cons (wpAny_Assign_Subscript h hs)
end
/-! ## MTd2 -/
/-- tuples of two ints in the heap -/
noncomputable def PairAt (h : Heap) (v : Value) (k : Int × Int) : Prop := ∃ a t1 t2, v = .ref a ∧ IsTup h a #[.int k.1 t1, .int k.2 t2]
theorem PairAt.keeps {h h' : Heap} {v : Value} {k : Int × Int} (x : PairAt h v k) (hk : ∀ b o, h.get? b = some o → h'.get? b = some o) : PairAt h' v k :=
  let ⟨a, t1, t2, e, o, ho, r⟩ := x; ⟨a, t1, t2, e, o, hk _ _ ho, r⟩
theorem PairAt.list {h : Heap} {c : Addr} {xs : List Value} {n : Nat} {v : Value} {k : Int × Int} (x : PairAt h v k) (hc : h.get? c = some (LL xs n)) : ∀ a, v = .ref a → a ≠ c := by
  obtain ⟨a, t1, t2, rfl, o, ho, hcl, _⟩ := x
  intro a' e
  cases e
  rintro rfl
  rw [ho] at hc
  have := Option.some.inj hc
  rw [this] at hcl
  exact absurd hcl (by unfold LL; simp)
theorem looks_int {M : Model} {h : Heap} {i : Int} {t : Tok} : Looks M h (typeOf (.int i t)) (.type "int") := Looks.of_pure rfl
theorem kat_tups_of {h : Heap} {K : Nat → Int × Int} : ∀ (ks : List Value) (n : Nat), (∀ i v, ks[i]? = some v → PairAt h v (K (n + i))) → ∃ fs, KatTups h ks fs ∧ fs.length = ks.length ∧ ∀ v ∈ fs, ∃ i t, v = .int i t
  | [], n, _ => ⟨[], trivial, rfl, fun v h => nomatch h⟩
  | v :: ks, n, hk => by
    obtain ⟨a, t1, t2, e, o, ho, hc, c, hd⟩ := hk 0 v rfl
    obtain ⟨fs, h1, h2, h3⟩ := kat_tups_of ks (n + 1) fun i u hu => by
      have := hk (i + 1) u (by simpa using hu)
      rwa [show n + (i + 1) = n + 1 + i by omega] at this
    refine ⟨.int (K (n + 0)).1 t1 :: fs, ⟨⟨a, o, _, c, e, ho, hc, hd, rfl⟩, h1⟩, by simp [h2], fun u hu => ?_⟩
    rcases List.mem_cons.mp hu with rfl | hu
    · exact ⟨_, _, rfl⟩
    · exact h3 u hu

section
variable {prog : Program} {w : World} {A : Around} {E : Value → Shared → Prop} {s s₀ : Shared} {g : Heap} {L : Addr} {m : Str → Option Value} {news : List (Addr × Obj)} {env : Env} {mg mb : Str → Option Value}
/-- two pairs of ints are compared -/
theorem pair_lt {i j : Nat} {ks : List Value} {K : Nat → Int × Int} {C : Bool → Shared → Prop} {u v : Value} (hu : PairAt s.heap u (K i)) (hv : PairAt s.heap v (K j)) (h1 : ks.getD i Value.none = u) (h2 : ks.getD j Value.none = v)
    (h : C (decide ((K i).1 < (K j).1 ∨ (K i).1 = (K j).1 ∧ (K i).2 < (K j).2)) s) : kas_ask prog w A (tuples' true) ks i j C s := by
  unfold kas_ask
  rw [h1, h2]
  obtain ⟨a, t1, t2, rfl, o, ho, hc, n, hd⟩ := hu
  obtain ⟨b, t3, t4, rfl, o', ho', hc', n', hd'⟩ := hv
  refine kat_lt ho hd ho' hd' ?_
  show KatLex prog w A true _ _ [(Value.int (K i).1 t1, Value.int (K j).1 t3), (Value.int (K i).2 t2, Value.int (K j).2 t4)] 0 s
  refine kat_cons (wpAny_eqBool_int ?_)
  by_cases e1 : (K i).1 = (K j).1
  · rw [show ((K i).1 == (K j).1) = true by simpa using e1]
    refine kat_yes (kat_cons (wpAny_eqBool_int ?_))
    by_cases e2 : (K i).2 = (K j).2
    · rw [show ((K i).2 == (K j).2) = true by simpa using e2]
      refine kat_yes (kat_nil ?_)
      rw [show decide ((K i).1 < (K j).1 ∨ (K i).1 = (K j).1 ∧ (K i).2 < (K j).2) = false by simp [e1, e2]] at h
      exact h
    · rw [show ((K i).2 == (K j).2) = false by simpa using e2]
      refine kat_no ?_
      refine kat_one _ _ ?_
      refine wpAny_lt_int ?_
      show C _ s
      rw [show decide ((K i).1 < (K j).1 ∨ (K i).1 = (K j).1 ∧ (K i).2 < (K j).2) = decide ((K i).2 < (K j).2) by simp [e1]] at h
      exact h
  · rw [show ((K i).1 == (K j).1) = false by simpa using e1]
    refine kat_no (oneLt_int ?_)
    rw [show decide ((K i).1 < (K j).1 ∨ (K i).1 = (K j).1 ∧ (K i).2 < (K j).2) = decide ((K i).1 < (K j).1) by simp [e1]] at h
    exact h

theorem getD_of {ks : List Value} {i : Nat} {v : Value} (h : ks[i]? = some v) : ks.getD i Value.none = v := by simp [List.getD, h]
/-- `sorted(dict, key=f)` -/
theorem q_sortedD {d f : Addr} {od : Obj} {kvs : List (Str × Value)} {Q : Value → Shared → Prop} {K : Nat → Int × Int} {rk : Nat → Nat} (hh : A.handled = none) (I : At g L m [] s₀ s) (lo : (d == sysModules) = false)
    (hg : g.get? d = some od) (hd : od.IsDictOf (PySem.strKind prog w) kvs) (h2 : 2 ≤ kvs.length) (h64 : kvs.length < 64)
    (hrk : ∀ (i j : Nat), i < kvs.length → j < kvs.length → (rk i < rk j ↔ ((K i).1 < (K j).1 ∨ (K i).1 = (K j).1 ∧ (K i).2 < (K j).2))) (hinj : ∀ (i j : Nat), i < kvs.length → j < kvs.length → rk i = rk j → i = j)
    (hf : ∀ (i : Nat) (k : Str) (x : Value) (t : Tok) (s' : Shared) (nw : List (Addr × Obj)), kvs[i]? = some (k, x) → At g L m nw s₀ s' → wpAny (model prog w) A.in1.in1 (call (.ref f) [.str k t]) (fun v s'' => Keeps s' s'' ∧ PairAt s''.heap v (K i)) (fun _ _ => False) s')
    (h : ∀ (D kS : Addr) (p : Array Nat) (vs : List Value) (c c' : Nat) s', At g L m [(kS, LL [] c'), (D, LL (p.toList.map fun i => vs.getD i Value.none) c)] s₀ s' → vs.length = kvs.length → (∀ (i : Nat) (k : Str) (x : Value), kvs[i]? = some (k, x) → ∃ t, vs[i]? = some (Value.str k t)) →
      Okp kvs.length p → Srt rk p kvs.length → Q (.ref D) s') :
    wpAny (model prog w) A (call (.builtin "sorted") [.ref d] [(Str.ofString "key", .ref f)]) Q E s := by
  have hD : s.heap.DictOf (PySem.strKind prog w) d kvs := Heap.dictOf_iff.mpr ⟨od, I.keep _ _ hg, hd⟩
  obtain ⟨ep, hat⟩ := hD.dictAt
  refine call_function_entry_kw kind_sorted plain_sorted entry_sorted (ksk_s1 _ _) ?_
  unfold Builtin.«sorted»
  refine wpAny_bind (m := checkCount "sorted" 1 1 _) (wpAny_pure ?_)
  refine wpAny_bind (kdu_collect (kdl_dict (knd := PySem.strKind prog w) (kvs := kvs) (ep := ep) lo) hh hat (by rw [sizeLine_eq]; omega) fun h' tk acc hk hacc => ?_)
  have I1 : At g L m [] s₀ { s with heap := h', toks := tk } := I.move (I.ns.keeps hk) fun b o _ e => hk b o e
  have hvs : acc.toList.length = kvs.length := by rw [Array.length_toList]; exact hacc.1
  have hkey : ∀ (i : Nat) (k : Str) (x : Value), kvs[i]? = some (k, x) → ∃ t, acc.toList[i]? = some (Value.str k t) := fun i k x hx => by
    obtain ⟨hi, e⟩ := List.getElem?_eq_some_iff.mp hx
    have hi' : i < acc.toList.length := by omega
    obtain ⟨k', x', hx', his⟩ := hacc.2 i acc.toList[i] (by rw [← Array.getElem?_toList]; exact List.getElem?_eq_getElem hi')
    rw [hx] at hx'
    obtain ⟨rfl, rfl⟩ := Prod.mk.inj (Option.some.inj hx')
    obtain ⟨t, e⟩ := Value.isStrOf_shape his
    exact ⟨t, by rw [List.getElem?_eq_getElem hi', e]⟩
  generalize acc.toList = vs at hvs hkey
  refine wpAny_bind (wpAny_newList ?_ (by rw [hvs, sizeLine_eq]; omega))
  have I2 : At g L m [(h'.objs.size, LL vs 0)] s₀ { s with heap := h'.push (LL vs 0), toks := tk } := I1.push (tk := tk) (LL vs 0)
  refine wpAny_bind (wpAny_holding (wpAny_call_entry_kw slot_list_sort ⟨_, I2.get (.head _), rfl⟩ entry_list_sort ?_ (ksk_l1 _ _)))
  show wpAny (model prog w) A.in1.in1 (Builtin.«list.sort» ⟨[.ref h'.objs.size], [(Str.ofString "key", .ref f)]⟩) _ _ _
  rw [ksk_t1]
  have F2 := I2.fr
  have hDL : h'.objs.size ≠ L := (I2.N _ (.head _)).2.1
  have N2 := I2.rest h'.objs.size
  have ho2 := I2.get (.head _)
  refine kat_keyed (a := h'.objs.size) (s := { s with heap := h'.push (LL vs 0), toks := tk }) F2 N2 ho2 hDL (empty_get _) (fun p hp => restOf_ne p hp) (by omega) (by omega) fun kS e1 h3 F3 N3 l0 l1 => ?_
  have I3 := I2.back2 (tk := tk) F3 N3 l0 l1
  generalize h'.objs.size = D at I3
  -- the keys, one after the other
  have keys : ∀ (r pre : List Value) (ks : List Value) (e : Nat) (s' : Shared), vs = pre ++ r → ks.length = pre.length → At g L m [(kS, LL ks e), (D, LL [] e1)] s₀ s' → (∀ i v, ks[i]? = some v → PairAt s'.heap v (K i)) →
      KatKeys prog w A.in1.in1 {} L m kS (.ref f) (fun ks e s' => wpAny (model prog w) A.in1.in1 (keyKind' (List.toArray ks)) (fun κ s'' => (kas_sort vs.length).kasWp (kas_ask prog w A.in1.in1 κ (katRev false ks)) (fun p s3 => KatFin {} L m kS D ks e e1 (katRev false (p.toList.map fun i => (katRev false vs).getD i Value.none)) (fun s4 => ∃ v, (Fin.done (Flow.ret Value.none) : PySem.Fin) = .done (.ret v) ∧ (fun v s5 => wpAny (model prog w) A.in1 (pure (Fin.done (Flow.ret (Value.ref D)))) (fun fin s' => ∃ v, fin = .done (.ret v) ∧ Q v s') E s5) v s4) s3) s'') (fun _ _ => False) s') r ks e s' := by
    intro r
    induction r with
    | nil =>
      intro pre ks e s' e1' hl I' hp
      have e2 : vs = pre := by rw [e1', List.append_nil]
      have hks : ks.length = vs.length := by rw [hl, e2]
      refine KatKeys.nil ?_
      obtain ⟨fs, t1, t2, t3⟩ := kat_tups_of (h := s'.heap) (K := K) ks 0 (fun i v hv => by rw [Nat.zero_add]; exact hp i v hv)
      refine kat_kind (T := .type "int") t1 (by omega) (fun v hv => ?_) rfl ?_
      · obtain ⟨i, t, rfl⟩ := t3 v hv; exact looks_int
      show (kas_sort vs.length).kasWp (kas_ask prog w A.in1.in1 (tuples' true) ks) _ s'
      have hso := sort_ok (n := vs.length) (K := rk) (by rw [hvs]; exact hinj) (by omega)
      refine kasOk_wp (fun i j C hi hj hC => ?_) (fun p hpq => ?_) hso
      · obtain ⟨u, hu⟩ : ∃ u, ks[i]? = some u := ⟨_, List.getElem?_eq_getElem (by omega)⟩
        obtain ⟨v, hv⟩ : ∃ v, ks[j]? = some v := ⟨_, List.getElem?_eq_getElem (by omega)⟩
        refine pair_lt (hp i u hu) (hp j v hv) (getD_of hu) (getD_of hv) ?_
        rw [decide_eq_decide.mpr (hrk i j (by omega) (by omega))] at hC
        exact hC
      · refine KatFin.intro I'.fr I'.upd1 upd1_U fun h4 c4 F4 N4 => ?_
        have I4 := (I'.back1 (tk := s'.toks) (o' := LL [] c4) F4 N4).perm (List.Perm.swap _ _ _)
        refine KasFin.intro (s := { s' with heap := h4, toks := s'.toks }) I4.fr I4.upd1 upd1_U fun h5 c5 F5 N5 => ?_
        have I5 := (I4.back1 (tk := s'.toks) (o' := LL (p.toList.map fun i => vs.getD i Value.none) c5) F5 N5).perm (List.Perm.swap _ _ _)
        refine ⟨_, rfl, wpAny_pure ⟨_, rfl, ?_⟩⟩
        refine h D kS p vs c5 c4 _ I5 hvs hkey ?_ ?_
        · rw [← hvs]; exact hpq.1
        · rw [← hvs]; exact hpq.2
    | cons v r ih =>
      intro pre ks e s' e1' hl I' hp
      refine KatKeys.cons ?_
      obtain ⟨⟨k, x⟩, hkx⟩ : ∃ q, kvs[pre.length]? = some q := ⟨_, List.getElem?_eq_getElem (by rw [← hvs, e1']; simp)⟩
      obtain ⟨t, ht⟩ := hkey _ k x hkx
      have hv : v = .str k t := by
        rw [e1', List.getElem?_append_right (Nat.le_refl _), Nat.sub_self] at ht
        exact Option.some.inj ht
      subst hv
      refine wpAny_mono (hf _ k x t s' _ hkx I') (fun v s'' hq => ?_) fun _ _ x => x
      obtain ⟨hK, hpr⟩ := hq
      have I'' := I'.grow hK
      obtain ⟨h4, tk4, rfl, hk4⟩ := hK
      refine KatBack.intro I''.fr I''.upd1 upd1_U fun h5 c5 F5 N5 => ?_
      have I5 := I''.back1 (tk := tk4) (o' := LL (ks ++ [v]) c5) F5 N5
      have hkS := I''.get (.head _)
      have stay : ∀ {u : Value} {kk : Int × Int}, PairAt h4 u kk → PairAt h5 u kk := fun {u kk} x => by
        have hne := x.list hkS
        obtain ⟨a, t1, t2, rfl, o, ho, hcl, hr⟩ := x
        have haL : a ≠ L := fun e => by
          obtain ⟨oL, es, ep, hoL, hdL, _⟩ := I''.ns
          rw [e] at ho
          have := ho.symm.trans hoL
          obtain rfl := Option.some.inj this
          obtain ⟨n, hr⟩ := hr
          rw [hdL] at hr; cases hr
        exact ⟨a, t1, t2, rfl, o, (N5 (a, o) (.tail _ (mem_restOf.mpr ⟨haL, hne a rfl, ho⟩))).1, hcl, hr⟩
      refine ih (pre ++ [.str k t]) (ks ++ [v]) c5 _ (by rw [e1']; simp) (by simp [hl]) I5 fun i u hu => ?_
      rcases Nat.lt_or_ge i ks.length with hi | hi
      · rw [List.getElem?_append_left hi] at hu
        exact stay ((hp i u hu).keeps hk4)
      · rw [List.getElem?_append_right hi] at hu
        have : i = pre.length := by
          cases hj : i - ks.length with
          | zero => omega
          | succ j => rw [hj] at hu; simp at hu
        subst this
        rw [hl, Nat.sub_self] at hu
        obtain rfl : v = u := Option.some.inj hu
        exact stay hpr
  exact keys vs [] [] 0 _ rfl rfl I3 (fun i v h => by simp at h)
end
/-! ## MTd3 -/
/-- what the lambdas need beyond `GF` -/
structure GX (mg : Str → Option Value) (h : Heap) : Prop where
  c178 : CodeHd h 178 174
  c183 : CodeHd h 183 181
  bm : ∃ bm ob, mg "__builtins__" = some (.ref bm) ∧ bm ≠ builtinsNs ∧ h.get? bm = some ob ∧ ob.cls = .type "module" ∧ ob.dict = some builtinsNs ∧ ob.data = .plain
  told : mg "_law_told" = some (.ref 179) ∧ FnAt h 179 27 178 .none
theorem GX.keeps {mg : Str → Option Value} {h h' : Heap} (X : GX mg h) (hk : ∀ b o, h.get? b = some o → h'.get? b = some o) : GX mg h' :=
  ⟨X.c178.keeps hk, X.c183.keeps hk, let ⟨bm, ob, h1, h2, h3, r⟩ := X.bm; ⟨bm, ob, h1, h2, hk _ _ h3, r⟩, X.told.1, X.told.2.keeps hk⟩

section
variable {prog : Program} {w : World} {A : Around} {E : Value → Shared → Prop} {s s₀ : Shared} {g : Heap} {L : Addr} {m : Str → Option Value} {news : List (Addr × Obj)} {env : Env} {mg mb : Str → Option Value}
theorem At.ext {P : Addr} {o o' : Obj} (I : At g L m ((P, o) :: news) s₀ s) {h' : Heap} {tk : Nat} (hx : Heap.ExtBut P s.heap h') (hP : h'.get? P = some o') : At g L m ((P, o') :: news) s₀ { s with heap := h', toks := tk } := by
  have hN := I.N _ (.head _)
  have nd := I.nd
  rw [List.map_cons, List.nodup_cons] at nd
  refine ⟨I.ns.extBut hx (Ne.symm hN.2.1), fun b x e => hx b x (fun h => ?_) (I.keep b x e), I.gL, fun p hp => ?_, I.nd, by have := I.e; rw [this]⟩
  · rw [h, hN.2.2] at e; cases e
  · rcases List.mem_cons.mp hp with rfl | hp
    · exact ⟨hP, hN.2⟩
    · exact ⟨hx _ _ (fun h => nd.1 (List.mem_map.mpr ⟨p, hp, h⟩)) (I.N p (.tail _ hp)).1, (I.N p (.tail _ hp)).2⟩
theorem At.more {a : Addr} {o : Obj} (I : At g L m news s₀ s) (ha : s.heap.get? a = some o) (hL : a ≠ L) (hg : g.get? a = none) (hn : a ∉ news.map (·.1)) : At g L m ((a, o) :: news) s₀ s := by
  refine ⟨I.ns, I.keep, I.gL, fun p hp => ?_, by rw [List.map_cons, List.nodup_cons]; exact ⟨hn, I.nd⟩, I.e⟩
  rcases List.mem_cons.mp hp with rfl | hp
  · exact ⟨ha, hL, hg⟩
  · exact I.N p hp
theorem q_lambda {params : Arguments} {body : Expr} {scope : Scope} {pos : Pos} {P c : Addr} {ps : Array Value} {clos : List (Str × Addr)} {Q : Value → Shared → Prop} (I : At g L m ((P, tabObj ps) :: news) s₀ s) (G : GF mg mb g) (X : GX mg g) (C : CodeHd g c P)
    (hnf : codeAmong pos ps.toList = none)
    (h : ∀ f c' ctv oc vs t s', At g L m ((f, kla_obj "<lambda>" (env.qual ++ "<lambda>") params body scope clos ((mg "__name__").getD .none) c' ctv) :: (c', oc) :: (P, tabObj (ps ++ #[rawInt pos.line, rawInt pos.col, .ref c'])) :: news) s₀ s' →
      oc.data = .fields vs → vs[1]? = some (.str (env.qual ++ "<lambda>") t) → Q (.ref f) s')
    (ht : TriplesOk ps.toList := by trivial)
    (hcl : closureFor scope env = pure clos := by with_unfolding_all rfl) (hcode : env.code = .ref c := by with_unfolding_all rfl) (hge : env.globals = mainGlobals := by with_unfolding_all rfl) (hdef : defaultsOf params env = ([], []) := by with_unfolding_all rfl) :
    wpAny (model prog w) A (eval (.Lambda params body scope pos) env) Q E s := by
  have hP := I.N _ (.head _)
  have hgs := G.g.keeps I.keep
  obtain ⟨bm, ob, b1, b2, b3, b4, b5, b6⟩ := X.bm
  have hgP : mainGlobals ≠ P := fun q => by
    obtain ⟨o, es, ep, e, hd, _⟩ := hgs
    rw [q, hP.1] at e; cases e; cases hd
  have hbP : bm ≠ P := fun q => by rw [q, hP.2.2] at b3; cases b3
  have hbG : bm ≠ mainGlobals := fun q => by
    obtain ⟨o, es, ep, e, hd, _⟩ := G.g
    rw [q, e] at b3; cases b3; rw [hd] at b6; cases b6
  refine kla_eval hdef (kla_makeFunction (mg := mg) hcl hge hgs hcode (C.keeps I.keep) hP.1 ht hnf hgP ⟨bm, ob, b1, b2, hbG, hbP, I.keep _ _ b3, b4, b5, b6⟩ fun c' ctv h' tk hx hge' hlt hrec htb => ?_)
  obtain ⟨c₂, oc, vs, t, e2, hoc, hd, hv⟩ := hrec
  cases e2
  have J := I.ext (tk := tk) hx htb
  have hcn : c' ∉ ((P, tabObj (ps ++ #[rawInt pos.line, rawInt pos.col, .ref c'])) :: news).map (·.1) := fun hm => by
    obtain ⟨p, hp, e⟩ := List.mem_map.mp hm
    have : p.1 < s.heap.objs.size := by
      rcases List.mem_cons.mp hp with rfl | hp
      · exact Heap.lt_size hP.1
      · exact Heap.lt_size (I.N p (.tail _ hp)).1
    rw [e] at this; exact absurd this (Nat.not_lt.mpr hge')
  have hgc : g.get? c' = none := by
    cases q : g.get? c' with
    | none => rfl
    | some o => exact absurd (Heap.lt_size (I.keep _ _ q)) (Nat.not_lt.mpr hge')
  have J2 := J.more (a := c') (o := oc) hoc (fun e => absurd I.ltL (by rw [← e]; exact Nat.not_lt.mpr hge')) hgc hcn
  exact h h'.objs.size c' ctv oc vs t _ (J2.push (tk := tk) _) hd hv

theorem At.hide {P : Addr} {o : Obj} (I : At g L m news s₀ s) (hP : g.get? P = some o) : At (hideAll g [P]) L m ((P, o) :: news) s₀ s := by
  refine ⟨I.ns, fun b x e => I.keep b x (of_hideAll _ e), none_of (fun b x e => of_hideAll _ e) I.gL, fun p hp => ?_, ?_, I.e⟩
  · rcases List.mem_cons.mp hp with rfl | hp
    · exact ⟨I.keep _ _ hP, (fun e => by rw [show P = L from e, I.gL] at hP; cases hP), hideAll_none _ (.head _)⟩
    · exact ⟨(I.N p hp).1, (I.N p hp).2.1, none_of (fun b x e => of_hideAll _ e) (I.N p hp).2.2⟩
  · rw [List.map_cons, List.nodup_cons]
    refine ⟨fun h => ?_, I.nd⟩
    obtain ⟨p, hp, e⟩ := List.mem_map.mp h
    have := (I.N p hp).2.2
    rw [e, hP] at this; cases this
/-- entering a def with cells that may change what is not its own -/
theorem enterCX {a k c : Nat} {dV : Value} {args : List Value} {binds : List (Str × Value)} {body : List Stmt} {P : Value → Shared → Prop} {n : Nat} (R : Room A (n + 1)) (hf : FnAt s.heap a k c dV) (hlim : s.heap.NoLimit)
    (hbody : fnBody k = body)
    (hbind : ∀ pm, bindArgs (fdOf k c dV pm) ⟨args, []⟩ = pure binds)
    {names : List Str} (hloc : (names.all fun x => decide ((fnScope k).names.lookup x = some .local)) = true)
    (h : ∀ pm A' s₁, Room A' n → A' = A.deeper (callEnvC (fdOf k c dV pm) s.heap.objs.size a) → InCallC s s.heap.objs.size (bindL (callEnvC (fdOf k c dV pm) s.heap.objs.size a).kindOf binds fun _ => none) (cellsFrom (s.heap.objs.size + 1) (fnScope k).names []) (bindC (callEnvC (fdOf k c dV pm) s.heap.objs.size a).kindOf binds fun _ => none) s₁ →
      let KP : Flow → Shared → Prop := fun f s' => P (match f with | .ret v => v | _ => .none) s'
      let EV : Env := callEnvC (fdOf k c dV pm) s.heap.objs.size a
      wpAny (model prog w) A' (execs body EV) KP (fun _ _ => False) s₁)
    (hnames : binds.map (·.1) = names := by with_unfolding_all rfl)
    (hco : (fnScope k).isCoroutine = false := by with_unfolding_all rfl) (hgen : (fnScope k).isGenerator = false := by with_unfolding_all rfl) (hk : (fnScope k).kind = .function := by with_unfolding_all rfl) :
    wpAny (model prog w) A (call (.ref a) args) P E s := by
  obtain ⟨o, pm, ho, hd, hcd⟩ := hf
  subst hbody
  refine wpAny_call (codeAny_call_cells R.depth ho hd hlim hcd rfl (hbind pm) rfl (fun x hx => .inl (of_decide_eq_true (List.all_eq_true.mp hloc x.1 (hnames ▸ List.mem_map_of_mem hx)))) (fun s₁ X => ?_) hco hgen hk)
  refine wpAny_mono (h pm _ _ R.deeper rfl X) (fun _ _ x => x) fun _ _ x => x.elim
/-- entering a lambda -/
theorem enterL {fa c' : Addr} {name qual : Str} {params : Arguments} {body : Expr} {scope : Scope} {cl : List (Str × Addr)} {pm ctv : Value} {args : List Value} {binds : List (Str × Value)} {P : Value → Shared → Prop} {n : Nat} {oc : Obj} {vs : Array Value} {t : Tok} (R : Room A (n + 1))
    (ho : s.heap.get? fa = some (kla_obj name qual params body scope cl pm c' ctv)) (hoc : s.heap.get? c' = some oc) (hd : oc.data = .fields vs) (hv : vs[1]? = some (.str qual t)) (hlim : s.heap.NoLimit)
    (hbind : bindArgs (kla_fn name qual params body scope cl pm (.ref c') ctv) ⟨args, []⟩ = pure binds)
    (h : ∀ A' s₁, Room A' n → At s.heap s.heap.objs.size (fun x => binds.reverse.lookup x) [] s s₁ → let KP : Value → Shared → Prop := fun v s' => Keeps s s' ∧ P v s'
      let EV : Env := envX qual scope s.heap.objs.size fa (.ref c') cl
      wpAny (model prog w) A' (eval body EV) KP (fun _ _ => False) s₁)
    (hloc : (binds.all fun x => decide (scope.names.lookup x.1 = some .local)) = true := by with_unfolding_all rfl)
    (hcell : (scope.names.all fun x => decide (x.2 ≠ .cell)) = true := by decide +kernel)
    (hco : scope.isCoroutine = false := by with_unfolding_all rfl) (hgen : scope.isGenerator = false := by with_unfolding_all rfl) (hk : scope.kind = .function := by with_unfolding_all rfl) :
    wpAny (model prog w) A (call (.ref fa) args) (fun v s' => Keeps s s' ∧ P v s') E s := by
  refine wpAny_call (kla_callFunE R.depth ho rfl hco hgen rfl ⟨c', oc, vs, t, rfl, hoc, hd, hv⟩ ?_)
  rw [hbind]
  refine wpAny_pure (wpAny_newFunctionEnv (fun x hx => of_decide_eq_true (List.all_eq_true.mp hcell x hx)) (locs hloc) (fun h₁ hns hsb => ⟨hlim.fresh _ hsb, ?_⟩) hk)
  have hk₁ : ∀ b o, s.heap.get? b = some o → h₁.get? b = some o := fun b o e => hsb.extBut b o (Nat.ne_of_lt (Heap.lt_size e)) (Heap.get?_push_of_some _ e)
  show codeAny _ _ (.expr body (envX qual scope s.heap.objs.size fa (.ref c') cl)) _ _
  refine kla_codeExpr (wpAny_mono (h _ _ R.deeper ⟨hns, hk₁, ?_, News.nil, List.nodup_nil, rfl⟩) (fun v s' x => x) fun _ _ x => x.elim)
  cases hq : s.heap.get? s.heap.objs.size with
  | none => rfl
  | some o' => exact absurd (Heap.lt_size hq) (Nat.lt_irrefl _)
end
/-! ## MTold -/
section
variable {K : Type} [DecidableEq K]
theorem stored_keys (kvs : List (K × Value)) (k : K) (v : Value) : (stored kvs k v).map (·.1) = if k ∈ kvs.map (·.1) then kvs.map (·.1) else kvs.map (·.1) ++ [k] := by
  unfold stored
  by_cases h : k ∈ kvs.map (·.1)
  · have : (kvs.any fun kv => kv.1 = k) = true := by
      obtain ⟨p, hp, rfl⟩ := List.mem_map.mp h
      exact List.any_eq_true.mpr ⟨p, hp, by simp⟩
    rw [if_pos this, if_pos h, List.map_map]
    refine List.map_congr_left fun p _ => ?_
    show (if p.1 = k then (p.1, v) else p).1 = p.1
    split <;> rfl
  · have : ¬ (kvs.any fun kv => kv.1 = k) = true := by
      intro ha
      obtain ⟨p, hp, e⟩ := List.any_eq_true.mp ha
      exact h (List.mem_map.mpr ⟨p, hp, of_decide_eq_true e⟩)
    rw [if_neg this, if_neg h, List.map_append]; rfl
theorem valueAt_cons (p : K × Value) (r : List (K × Value)) (k : K) : valueAt (p :: r) k = if p.1 = k then some p.2 else valueAt r k := by
  unfold valueAt
  rw [List.find?_cons]
  by_cases h : p.1 = k <;> simp [h]
theorem valueAt_app (r : List (K × Value)) (k : K) (v : Value) (h : k ∉ r.map (·.1)) (k' : K) : valueAt (r ++ [(k, v)]) k' = if k' = k then some v else valueAt r k' := by
  induction r with
  | nil =>
    rw [List.nil_append, valueAt_cons]
    by_cases e : k' = k
    · subst e; simp
    · rw [if_neg (fun h => e h.symm), if_neg e]
  | cons p r ih =>
    rw [List.map_cons, List.mem_cons, not_or] at h
    rw [List.cons_append, valueAt_cons, valueAt_cons, ih h.2]
    by_cases e : p.1 = k'
    · rw [if_pos e, if_pos e, if_neg]; rintro rfl; exact h.1 e.symm
    · rw [if_neg e, if_neg e]
theorem valueAt_map (r : List (K × Value)) (k : K) (v : Value) (h : k ∈ r.map (·.1)) (k' : K) : valueAt (r.map fun kv => if kv.1 = k then (kv.1, v) else kv) k' = if k' = k then some v else valueAt r k' := by
  induction r with
  | nil => cases h
  | cons p r ih =>
    rw [List.map_cons, valueAt_cons, valueAt_cons]
    have e0 : (if p.1 = k then (p.1, v) else p).1 = p.1 := by split <;> rfl
    rw [e0]
    by_cases e : p.1 = k'
    · rw [if_pos e, if_pos e]
      by_cases e2 : p.1 = k
      · rw [if_pos e2, if_pos (e.symm.trans e2)]
      · rw [if_neg e2, if_neg (fun h => e2 (e.trans h))]
    · rw [if_neg e, if_neg e]
      by_cases hr : k ∈ r.map (·.1)
      · exact ih hr
      · have hk : p.1 = k := by
          rw [List.map_cons, List.mem_cons] at h
          exact (h.resolve_right hr).symm
        have : (r.map fun kv => if kv.1 = k then (kv.1, v) else kv) = r := by
          conv => rhs; rw [← List.map_id r]
          refine List.map_congr_left fun q hq => ?_
          rw [if_neg]; rfl
          intro e; exact hr (List.mem_map.mpr ⟨q, hq, e⟩)
        rw [this, if_neg]
        rintro rfl; exact e hk
theorem valueAt_stored (kvs : List (K × Value)) (k : K) (v : Value) (k' : K) : valueAt (stored kvs k v) k' = if k' = k then some v else valueAt kvs k' := by
  unfold stored
  by_cases h : k ∈ kvs.map (·.1)
  · have : (kvs.any fun kv => kv.1 = k) = true := by
      obtain ⟨p, hp, rfl⟩ := List.mem_map.mp h
      exact List.any_eq_true.mpr ⟨p, hp, by simp⟩
    rw [if_pos this, valueAt_map _ _ _ h]
  · have : ¬ (kvs.any fun kv => kv.1 = k) = true := by
      intro ha
      obtain ⟨p, hp, e⟩ := List.any_eq_true.mp ha
      exact h (List.mem_map.mpr ⟨p, hp, of_decide_eq_true e⟩)
    rw [if_neg this, valueAt_app _ _ _ h]
theorem valueAt_none (kvs : List (K × Value)) (k : K) : (valueAt kvs k).isSome = decide (k ∈ kvs.map (·.1)) := by
  induction kvs with
  | nil => rfl
  | cons p r ih =>
    rw [valueAt_cons, List.map_cons]
    by_cases e : p.1 = k
    · rw [if_pos e]; simp [e]
    · rw [if_neg e, ih]
      refine decide_eq_decide.mpr ⟨fun h => .tail _ h, fun h => ?_⟩
      rcases List.mem_cons.mp h with h | h
      · exact absurd h.symm e
      · exact h
end

/-- the tables of the told: keys in order, turns, depths -/
structure Tab (kL kD : List (Str × Value)) (ks : List (List Str)) (T : List Str → Nat) : Prop where
  l : kL.map (·.1) = ks.map pathS
  d : kD.map (·.1) = ks.map pathS
  nm : ∀ x ∈ ks, ∀ n ∈ x, Nm n
  nd : ks.Nodup
  vl : ∀ x ∈ ks, ∃ t, valueAt kL (pathS x) = some (.int (T x) t)
  vd : ∀ x ∈ ks, ∃ t, valueAt kD (pathS x) = some (.int x.length t)
theorem path_mem {ks : List (List Str)} (hk : ∀ x ∈ ks, ∀ n ∈ x, Nm n) {x : List Str} (hx : ∀ n ∈ x, Nm n) : pathS x ∈ ks.map pathS ↔ x ∈ ks :=
  ⟨fun h => by obtain ⟨y, hy, e⟩ := List.mem_map.mp h; exact pathS_inj (hk y hy) hx e ▸ hy, fun h => List.mem_map_of_mem h⟩
theorem Tab.step {kL kD : List (Str × Value)} {ks : List (List Str)} {T : List Str → Nat} (H : Tab kL kD ks T) {x : List Str} (hx : ∀ n ∈ x, Nm n) (i : Nat) (t t' : Tok) :
    Tab (stored kL (pathS x) (.int i t)) (stored kD (pathS x) (.int x.length t')) (if x ∈ ks then ks else ks ++ [x]) (fun y => if y = x then i else T y) := by
  have hm := path_mem H.nm hx
  have hk : ∀ (kv : List (Str × Value)) (v : Value), kv.map (·.1) = ks.map pathS → (stored kv (pathS x) v).map (·.1) = (if x ∈ ks then ks else ks ++ [x]).map pathS := fun kv v e => by
    rw [stored_keys, e]
    by_cases h : x ∈ ks
    · rw [if_pos h, if_pos (hm.mpr h)]
    · rw [if_neg h, if_neg (fun h' => h (hm.mp h')), List.map_append]; rfl
  have hin : ∀ y, y ∈ (if x ∈ ks then ks else ks ++ [x]) → y = x ∨ y ∈ ks := fun y hy => by
    split at hy
    · exact .inr hy
    · rcases List.mem_append.mp hy with h | h
      · exact .inr h
      · exact .inl (List.mem_singleton.mp h)
  have hnm : ∀ y ∈ (if x ∈ ks then ks else ks ++ [x]), ∀ n ∈ y, Nm n := fun y hy => by
    rcases hin y hy with rfl | h
    · exact hx
    · exact H.nm y h
  refine ⟨hk kL _ H.l, hk kD _ H.d, hnm, ?_, fun y hy => ?_, fun y hy => ?_⟩
  · split
    · exact H.nd
    · rename_i h
      exact List.nodup_append.mpr ⟨H.nd, by simp, fun a ha b hb e => h (by rw [List.mem_singleton] at hb; rw [← hb, ← e]; exact ha)⟩
  · rw [valueAt_stored]
    by_cases e : y = x
    · subst e; rw [if_pos rfl]; exact ⟨t, by simp⟩
    · rw [if_neg (fun e' => e (pathS_inj (hnm y hy) hx e'))]
      simp only [if_neg e]
      exact H.vl y ((hin y hy).resolve_left e)
  · rw [valueAt_stored]
    by_cases e : y = x
    · subst e; rw [if_pos rfl]; exact ⟨t', rfl⟩
    · rw [if_neg (fun e' => e (pathS_inj (hnm y hy) hx e'))]
      exact H.vd y ((hin y hy).resolve_left e)

noncomputable def rank (T : List Str → Nat) (x : List Str) : Nat := T x * 1000 + (1000 - x.length)
theorem told_step {O : List (List Str)} {T T' : List Str → Nat} {i : Nat} {n : List Str} (hO : O.Pairwise fun a b => rank T a < rank T b) (hT : ∀ x ∈ O, T x < i) (hn : n.length ≤ 900) (h1 : ∀ x ∈ upsL n, T' x = i) (h2 : ∀ x, x ∉ upsL n → T' x = T x) (hno : n ∉ O) :
    (mUp O n).Pairwise (fun a b => rank T' a < rank T' b) ∧ ∀ x ∈ mUp O n, T' x < i + 1 := by
  unfold mUp
  rw [if_neg hno]
  have hf : ∀ x ∈ O.filter fun x => decide (x ∉ upsL n), x ∈ O ∧ x ∉ upsL n := fun x hx => by
    obtain ⟨h, h'⟩ := List.mem_filter.mp hx
    exact ⟨h, of_decide_eq_true h'⟩
  constructor
  · rw [List.pairwise_append]
    refine ⟨?_, ?_, fun a ha b hb => ?_⟩
    · refine (hO.filter _).imp_of_mem fun {a b} ha hb hab => ?_
      unfold rank at hab ⊢
      rw [h2 a (hf a ha).2, h2 b (hf b hb).2]; exact hab
    · refine (ups_desc n).imp_of_mem fun {a b} ha hb hab => ?_
      have := (mem_ups.mp ha).length_le
      unfold rank
      rw [h1 a ha, h1 b hb]; omega
    · obtain ⟨h3, h4⟩ := hf a ha
      have := hT a h3
      have := (mem_ups.mp hb).length_le
      unfold rank
      rw [h2 a h4, h1 b hb]
      have : (T a + 1) * 1000 ≤ i * 1000 := Nat.mul_le_mul_right _ (by omega)
      omega
  · intro x hx
    rcases List.mem_append.mp hx with hx | hx
    · obtain ⟨h3, h4⟩ := hf x hx
      have := hT x h3
      rw [h2 x h4]; omega
    · rw [h1 x hx]; omega
theorem sorted_unique {α : Type} {f : α → Nat} : ∀ {a b : List α}, a.Perm b → a.Pairwise (fun x y => f x < f y) → b.Pairwise (fun x y => f x < f y) → a = b
  | [], b, h, _, _ => (List.nil_perm.mp h).symm
  | x :: a, [], h, _, _ => absurd h (by simp)
  | x :: a, y :: b, h, ha, hb => by
    have e : x = y := by
      have hx : x ∈ y :: b := h.mem_iff.mp (.head _)
      have hy : y ∈ x :: a := h.mem_iff.mpr (.head _)
      rcases List.mem_cons.mp hx with e | hx
      · exact e
      · rcases List.mem_cons.mp hy with e | hy
        · exact e.symm
        · have h1 := (List.pairwise_cons.mp hb).1 x hx
          have h2 := (List.pairwise_cons.mp ha).1 y hy
          omega
    subst e
    rw [sorted_unique ((List.perm_cons _).mp h) (List.pairwise_cons.mp ha).2 (List.pairwise_cons.mp hb).2]
/-! ## MToldW -/
section
variable {M : Model} {prog : Program} {w : World} {A : Around} {E : Value → Shared → Prop} {s s₀ : Shared} {g : Heap} {L : Addr} {m : Str → Option Value} {news : List (Addr × Obj)} {env : Env} {mg mb : Str → Option Value}
theorem At.pull2 {a b : Addr × Obj} (I : At g L m (a :: b :: news) s₀ s) : At g L m (b :: a :: news) s₀ s := I.perm (List.perm_middle (l₁ := [a]) (a := b) (l₂ := news)).symm
theorem At.pull3 {a b c : Addr × Obj} (I : At g L m (a :: b :: c :: news) s₀ s) : At g L m (c :: a :: b :: news) s₀ s := I.perm (List.perm_middle (l₁ := [a, b]) (a := c) (l₂ := news)).symm
theorem At.pull4 {a b c d : Addr × Obj} (I : At g L m (a :: b :: c :: d :: news) s₀ s) : At g L m (d :: a :: b :: c :: news) s₀ s := I.perm (List.perm_middle (l₁ := [a, b, c]) (a := d) (l₂ := news)).symm
theorem At.pull5 {a b c d e : Addr × Obj} (I : At g L m (a :: b :: c :: d :: e :: news) s₀ s) : At g L m (e :: a :: b :: c :: d :: news) s₀ s := I.perm (List.perm_middle (l₁ := [a, b, c, d]) (a := e) (l₂ := news)).symm
theorem At.assoc {a b c : List (Addr × Obj)} (I : At g L m (a ++ (b ++ c)) s₀ s) : At g L m ((a ++ b) ++ c) s₀ s := by rw [List.append_assoc]; exact I
theorem At.unassoc {a b c : List (Addr × Obj)} (I : At g L m ((a ++ b) ++ c) s₀ s) : At g L m (a ++ (b ++ c)) s₀ s := by rw [← List.append_assoc]; exact I
theorem q_len {l : Addr} {vs : List Value} {Q : Value → Shared → Prop} (I : At g L m news s₀ s) (hl : s.heap.IsList l vs.toArray) (hz : vs.length ≤ 1000000) (h : ∀ t s', At g L m news s₀ s' → Q (.int vs.length t) s') : wpAny (model prog w) A (call (.builtin "len") [.ref l]) Q E s := by
  refine PyProof.Rows.len_list hl (by rw [List.size_toArray]; omega) ?_
  rw [List.size_toArray]
  exact h _ _ (I.tick _)
theorem e_bltkw {f kn : Str} {p pos kp : Pos} {id : String} {e kv : Expr} {Q : Value → Shared → Prop} (I : At g L m news s₀ s) (G : GF mg mb g) (hv : bootBuiltins f = some (.builtin id))
    (h : wpAny (model prog w) A (eval e env) (fun v s₁ => wpAny (model prog w) A (eval kv env) (fun k s₂ => wpAny (model prog w) A (call (.builtin id) [v] [(kn, k)]) Q E s₂) E s₁) E s)
    (hf : f ∈ blts := by decide +kernel) (hn : f ≠ "__name__" := by decide +kernel)
    (he : eval (.Call (.Name f p) [e] [⟨some kn, kv, kp⟩] pos) env = (do callWith pos (← eval (.Name f p) env) [] (backTo pos (starEach [e] env)) (backToKw pos (keywordEach [⟨some kn, kv, kp⟩] env))) := by with_unfolding_all rfl)
    (h1 : backTo pos (starEach [e] env) = (false, eval e env) :: backTo pos (starEach [] env) := by with_unfolding_all rfl)
    (h2 : (backTo pos (starEach [e] env)).any (·.1) = false := by with_unfolding_all rfl)
    (hse : starEach [e] env = (false, eval e env) :: starEach [] env := by with_unfolding_all rfl)
    (hk : env.scope.kind = .function := by with_unfolding_all rfl) (hl : env.kindOf f = some .globalImplicit := by with_unfolding_all rfl) (hg : env.globals = mainGlobals := by with_unfolding_all rfl) (hb : env.builtins = builtinsNs := by with_unfolding_all rfl)
    (hdb : (f == ("__debug__" : Str)) = false := by decide +kernel) :
    wpAny (model prog w) A (eval (.Call (.Name f p) [e] [⟨some kn, kv, kp⟩] pos) env) Q E s := by
  rw [he]
  refine wpAny_bind (r_blt I G hv (callWith_kw ?_ h1 h2 rfl rfl) hf hn hk hl hg hb hdb)
  refine spliced_more (wpAny_mono h (fun v s₁ hv => spliced_none ?_) fun _ _ x => x) hse
  refine kws_cons (wpAny_mono hv (fun k s₂ hk => ?_) fun _ _ x => x)
  exact kws_nil hk
/-- `'/' + '/'.join(names)` -/
theorem q_path {D : Addr} {nv : List Value} {ns : List Str} {t t0 : Tok} {Q : Value → Shared → Prop} (I : At g L m news s₀ s) (hl : s.heap.IsList D nv.toArray) (hnv : StrsAre nv ns) (hn : ∀ n ∈ ns, Nm n) (hlen : ns.length ≤ 1000)
    (h : ∀ t' s', At g L m news s₀ s' → Q (.str (pathS ns) t') s') : wpAny (model prog w) A (call (.builtin "str.join") [.str (Str.ofString "/") t, .ref D]) (fun v s₁ => wpAny (model prog w) A (binaryOp .Add (.str (Str.ofString "/") t0) v) Q E s₁) E s := by
  have hs := sum_nm hn
  refine join_listW hl hnv (by decide +kernel) (by omega) fun t8 k8 => ?_
  have I := I.tick k8
  have hp := path_len hn
  have e : pathS ns = (Str.ofString "/") ++ Txt.join (Str.ofString "/") ns := rfl
  have hj : (Txt.join (Str.ofString "/") ns).length ≤ 2 * ns.length + 1 := by
    have := hp.2; rw [e, Str.length_append] at this; omega
  refine q_add I (by rw [sizeLine_eq, show (Str.ofString "/").length = 1 from by decide +kernel]; omega) fun t' s' I' => ?_
  exact h t' s' I'
end
section
variable {prog : Program} {w : World} {A : Around} {E : Value → Shared → Prop} {s : Shared} {mg mb : Str → Option Value}
noncomputable def Oi (ps : List (List Str × Bool)) (i : Nat) : List (List Str) := (upsOf (ps.take i)).foldl mUp []
theorem Oi_step {ps : List (List Str × Bool)} {i : Nat} {p : List Str × Bool} (h : ps[i]? = some p) : Oi ps (i + 1) = if p.2 then Oi ps i else mUp (Oi ps i) p.1 := by
  unfold Oi upsOf
  rw [List.take_add_one, h, List.filter_append, List.map_append, List.foldl_append]
  obtain ⟨n, b⟩ := p
  cases b <;> rfl
theorem Oi_mem (ps : List (List Str × Bool)) (i : Nat) (x : List Str) : x ∈ Oi ps i ↔ ∃ m ∈ upsOf (ps.take i), x <+: m := mUps_mem _ x
theorem Oi_len {ps : List (List Str × Bool)} (hz : ∀ p ∈ ps, p.1.length ≤ 900) : ∀ i, (Oi ps i).length ≤ i * 901 := by
  intro i
  induction i with
  | zero => simp [Oi, upsOf]
  | succ i ih =>
    cases h : ps[i]? with
    | none =>
      have : Oi ps (i + 1) = Oi ps i := by
        have := List.getElem?_eq_none_iff.mp h
        unfold Oi; rw [List.take_of_length_le (by omega), List.take_of_length_le (by omega)]
      rw [this]; omega
    | some p =>
      rw [Oi_step h]
      split
      · omega
      · have h1 := mUp_len (Oi ps i) p.1
        have h2 := hz p (List.mem_of_getElem? h)
        have h3 : (upsL p.1).length = p.1.length + 1 := by unfold upsL; simp
        omega
theorem Oi_nm {ps : List (List Str × Bool)} (hnm : ∀ p ∈ ps, ∀ n ∈ p.1, Nm n) {i : Nat} {x : List Str} (hx : x ∈ Oi ps i) : ∀ n ∈ x, Nm n := by
  obtain ⟨m, hm, hp⟩ := (Oi_mem ps i x).mp hx
  have h := mem_upsOf.mp hm
  have h := List.mem_of_mem_take h
  exact fun n hn => hnm _ h n (hp.subset hn)
noncomputable def Ei (ps : List (List Str × Bool)) (O : List (List Str)) (i : Nat) : List (List Str) := (downsOf (ps.take i)).foldl mDown O
theorem Ei_step {ps : List (List Str × Bool)} {O : List (List Str)} {i : Nat} {p : List Str × Bool} (h : ps[i]? = some p) : Ei ps O (i + 1) = if p.2 then mDown (Ei ps O i) p.1 else Ei ps O i := by
  unfold Ei downsOf
  rw [List.take_add_one, h, List.filter_append, List.map_append, List.foldl_append]
  obtain ⟨n, b⟩ := p
  cases b <;> rfl
theorem mDown_mem {O : List (List Str)} {n x : List Str} (h : x ∈ mDown O n) : x ∈ O ∨ x <+: n := by
  unfold mDown at h
  rcases List.mem_append.mp h with h | h
  · exact .inl h
  · exact .inr (mem_ups.mp (List.mem_reverse.mp (List.mem_filter.mp h).1))
theorem Ei_fact {ps : List (List Str × Bool)} {O : List (List Str)} (hnm : ∀ p ∈ ps, ∀ n ∈ p.1, Nm n) (hO : ∀ x ∈ O, ∀ n ∈ x, Nm n) (hz : ∀ p ∈ ps, p.1.length ≤ 900) : ∀ i, (∀ x ∈ Ei ps O i, ∀ n ∈ x, Nm n) ∧ (Ei ps O i).length ≤ O.length + i * 901 := by
  intro i
  induction i with
  | zero => exact ⟨by simpa [Ei, downsOf] using hO, by simp [Ei, downsOf]⟩
  | succ i ih =>
    cases h : ps[i]? with
    | none =>
      have : Ei ps O (i + 1) = Ei ps O i := by
        have := List.getElem?_eq_none_iff.mp h
        unfold Ei; rw [List.take_of_length_le (by omega), List.take_of_length_le (by omega)]
      rw [this]; exact ⟨ih.1, by have := ih.2; omega⟩
    | some p =>
      have hp := List.mem_of_getElem? h
      rw [Ei_step h]
      split
      · refine ⟨fun x hx => ?_, ?_⟩
        · rcases mDown_mem hx with h | h
          · exact ih.1 x h
          · exact fun n hn => hnm p hp n (h.subset hn)
        · have h1 := mDown_len (Ei ps O i) p.1
          have h2 := hz p hp
          have h3 : (upsL p.1).length = p.1.length + 1 := by unfold upsL; simp
          have := ih.2
          omega
      · exact ⟨ih.1, by have := ih.2; omega⟩
theorem strsAre_map {α : Type} {f : α → Value} {h : α → Str} : ∀ {l : List α}, (∀ i ∈ l, ∃ t, f i = .str (h i) t) → StrsAre (l.map f) (l.map h)
  | [], _ => .nil
  | i :: l, hl => by
    obtain ⟨t, e⟩ := hl i (.head _)
    rw [List.map_cons, List.map_cons, e]
    exact .cons _ _ (strsAre_map fun j hj => hl j (.tail _ hj))
/-- the sorted row -/
theorem out_sorted {ks O : List (List Str)} {T : List Str → Nat} {p : Array Nat} {vs : List Value} (hks : ks.Perm O) (hO : O.Pairwise fun a b => rank T a < rank T b) (hp : Okp ks.length p) (hs : Srt (fun i => rank T (ks.getD i [])) p ks.length)
    (hv : ∀ (i : Nat) (y : List Str), ks[i]? = some y → ∃ t, vs[i]? = some (Value.str (pathS y) t)) : StrsAre (p.toList.map fun i => vs.getD i Value.none) (O.map pathS) := by
  have e : p.toList.map (fun i => ks.getD i []) = O := by
    refine sorted_unique (f := rank T) ?_ ?_ hO
    · refine List.Perm.trans ?_ hks
      have h1 : (p.toList.map fun i => ks.getD i []).Perm ((List.range ks.length).map fun i => ks.getD i []) := List.Perm.map _ hp
      have h2 : ((List.range ks.length).map fun i => ks.getD i []) = ks := by
        refine List.ext_getElem (by simp) fun i h1 h2 => ?_
        simp [List.getD, h2]
      rw [h2] at h1; exact h1
    · rw [List.pairwise_map, List.pairwise_iff_getElem]
      intro i j hi hj hij
      have hsz := hp.size
      have := hs.lt hij (by simp at hj; omega)
      rw [Array.length_toList] at hi hj
      have g1 : gd p i = p[i] := by unfold gd; simp [Array.getD, hi]
      have g2 : gd p j = p[j] := by unfold gd; simp [Array.getD, hj]
      rw [g1, g2] at this
      simpa using this
  rw [← e, List.map_map]
  refine strsAre_map fun i hi => ?_
  have : i < ks.length := List.mem_range.mp (hp.mem_iff.mp hi)
  obtain ⟨t, ht⟩ := hv i _ (List.getElem?_eq_getElem this)
  refine ⟨t, ?_⟩
  rw [getD_of ht]
  simp [List.getD, this]
theorem c_told {g : Heap} {fa : Addr} {fv : List Value} {ps : List (List Str × Bool)} (R : Room A 40) (G : GF mg mb g) (X : GX mg g) (hg : ∀ b o, g.get? b = some o → s.heap.get? b = some o) (hP0 : g.get? 174 = none) (hP : s.heap.get? 174 = some (tabObj #[]))
    (hfl : g.IsList fa fv.toArray) (hpl : PlsAt g fv ps) (hnm : ∀ p ∈ ps, ∀ n ∈ p.1, Nm n) (hsz : ps.length ≤ 100 ∧ ∀ p ∈ ps, p.1.length ≤ 900)
    (h2 : 2 ≤ ((upsOf ps).foldl mUp []).length) (h64 : ((upsOf ps).foldl mUp []).length < 64) :
    wpAny (model prog w) A (call (.ref 179) [.ref fa]) (fun v s' => (∃ h' tk, s' = { s with heap := h', toks := tk } ∧ (∀ b o, b ≠ 174 → s.heap.get? b = some o → h'.get? b = some o) ∧ ∃ ts, h'.get? 174 = some (tabObj ts)) ∧
      ∃ ta vs n, v = .ref ta ∧ s'.heap.get? ta = some (LL vs n) ∧ StrsAre vs ((orderOf ps).map pathS) ∧ s.heap.get? ta = none) E s := by
  obtain ⟨s₀, hs₀⟩ : ∃ s₀, s₀ = s := ⟨_, rfl⟩
  rw [← hs₀] at hg hP ⊢
  refine enterCX (args := [.ref fa]) (binds := [("found", .ref fa)]) (n := 39) R (X.told.2.keeps hg) (G.nolimit.keeps hg) rfl (fun pm => rfl) (names := ["found"]) (by decide +kernel) ?_
  intro pm A s R hA X2 KP EV
  obtain ⟨o1, o2, ho1, ho2, I⟩ := led2 (by decide +kernel) X2
  have I : At s₀.heap s₀.heap.objs.size (upd (fun _ => none) "found" (.ref fa)) [(s₀.heap.objs.size + 2, o1), (s₀.heap.objs.size + 1, o2)] s₀ s := I
  clear X2
  have I := I.hide hP
  have hgh : ∀ b o, g.get? b = some o → (hideAll s₀.heap [174]).get? b = some o := fun b o e => hideAll_get _ (hg b o e) fun hm => by
    rw [List.mem_singleton] at hm; rw [hm, hP0] at e; cases e
  have hGh : ∀ b o, b ≠ 174 → s₀.heap.get? b = some o → (hideAll s₀.heap [174]).get? b = some o := fun b o hb e => hideAll_get _ e fun hm => hb (List.mem_singleton.mp hm)
  have G0 := G.keeps hgh
  have X0 := X.keeps hgh
  have hfl0 := isl_keeps hfl hgh
  have hpl0 := hpl.keeps hgh
  generalize hg0 : hideAll s₀.heap [174] = g0 at I hgh hGh G0 X0 hfl0 hpl0
  refine x_setc ?_
  refine q_dnew I (G0.nolimit.keeps I.keep) fun dL oL s hLm hoL I => ?_
  refine SetCK.intro I.pull3 ho1 fun o1' s ho1' I => ?_
  refine x_setc ?_
  refine q_dnew I (G0.nolimit.keeps I.keep) fun dD oD s hDm hoD I => ?_
  refine SetCK.intro I.pull5 ho2 fun o2' s ho2' I => ?_
  -- the cells do not change any more
  obtain ⟨g1, I, hg1, hc2⟩ := I.freeze1
  obtain ⟨g2, I, hg2, hc1⟩ := (I.pull2).freeze1
  have hc2 : g2.get? (s₀.heap.objs.size + 1) = some o2' := hg2 _ _ hc2
  have I := I.pull2
  have hg02 : ∀ b o, g0.get? b = some o → g2.get? b = some o := fun b o e => hg2 _ _ (hg1 _ _ e)
  have hgh := fun b o e => hg02 _ _ (hgh b o e)
  have hGh := fun b o hb e => hg02 _ _ (hGh b o hb e)
  have G2 := G0.keeps hg02
  have X2 := X0.keeps hg02
  have hfl2 := isl_keeps hfl0 hg02
  have hpl2 := hpl0.keeps hg02
  clear hg0 G0 X0 hfl0 hpl0 hg02 hg1 hg2
  have hfound : (upd (fun _ => none) "found" (.ref fa) : Str → Option Value) "found" = some (.ref fa) := lk_here
  generalize (upd (fun _ => none) "found" (.ref fa) : Str → Option Value) = M0 at I hfound
  refine x_for (fun i m nw => m "found" = some (.ref fa) ∧ ∃ oL oD kL kD ks T, nw = [(dL, oL), (dD, oD), (174, tabObj #[])] ∧ oL.IsDictOf (PySem.strKind prog w) kL ∧ oD.IsDictOf (PySem.strKind prog w) kD ∧ Tab kL kD ks T ∧ ks.Perm (Oi ps i) ∧
    (Oi ps i).Pairwise (fun a b => rank T a < rank T b) ∧ ∀ x ∈ Oi ps i, T x < i) ?_
  intro INV
  refine e_type I G2 Boot.«range» ?_
  repeat walk_at "go5"
  rename At _ _ _ _ _ _ => I
  refine q_len I (isl_keeps hfl2 I.keep) (by rw [hpl2.len]; omega) fun tl s I => ?_
  repeat walk_at "go5"
  refine src_range R.h I (by rw [hpl2.len]; omega) fun it s I S => ?_
  refine (S _ _).loop I ⟨hfound, oL, oD, [], [], [], fun _ => 0, rfl, hoL, hoD, ⟨rfl, rfl, (fun _ h => nomatch h), List.nodup_nil, (fun _ h => nomatch h), (fun _ h => nomatch h)⟩, .refl _, List.Pairwise.nil, (fun _ h => nomatch h)⟩ ?_ ?_
  · rintro i v own m₁ nw s hi hv ⟨hfound, oL, oD, kL, kD, ks, T, rfl, hoL, hoD, hT, hks, hO, hTi⟩ I
    intro KK
    obtain ⟨ti, rfl⟩ := hv
    obtain ⟨vp, hvp⟩ : ∃ v, fv[i]? = some v := ⟨_, List.getElem?_eq_getElem hi⟩
    obtain ⟨p, hp, ta, t, na, nv, rfl, hta, hna, hnv⟩ := hpl2.at' i vp hvp
    have hpm := List.mem_of_getElem? hp
    have hpn := hnm p hpm
    have hpz := hsz.2 p hpm
    have hst := Oi_step hp
    have hi100 : i < 100 := by rw [hpl2.len] at hi; omega
    have hlen := Oi_len hsz.2 i
    have hksl : ks.length ≤ 100000 := by rw [hks.length_eq]; omega
    refine a_name I fun s I => ?_
    repeat walk_at "go5"
    rename At _ _ _ _ _ _ => I
    refine q_item (isl_keeps hfl2 I.keep) (by omega) (by omega) (x := .ref ta) (by simpa using hvp) ?_
    refine a_tup R.h I (isTup_keeps hta I.keep) fun s I => ?_
    refine a_cons I fun s I => ?_
    refine a_cons I fun s I => ?_
    refine a_cons I fun s I => ?_
    refine a_nil ?_
    generalize hM : upd _ _ _ = M1 at I
    have hfound1 : M1 "found" = some (.ref fa) := by rw [← hM]; walk_at "lk"
    have hturn1 : M1 "turn" = some (.int (i : Int) ti) := by rw [← hM]; walk_at "lk"
    have hnames1 : M1 "names" = some (.ref na) := by rw [← hM]; walk_at "lk"
    have hfalls1 : M1 "falls" = some (.bool p.2) := by rw [← hM]; walk_at "lk"
    clear hM
    refine x_if ?_
    repeat walk_at "go5"
    by_cases hfa : p.2 = true
    · refine Br.ff (by simp [hfa]) ?_
      repeat walk_at "go5"
      refine ⟨_, _, I, hfound1, oL, oD, kL, kD, ks, T, rfl, hoL, hoD, hT, ?_, ?_, ?_⟩
      · rw [hst, if_pos hfa]; exact hks
      · rw [hst, if_pos hfa]; exact hO
      · rw [hst, if_pos hfa]; exact fun x hx => Nat.lt_succ_of_lt (hTi x hx)
    · refine Br.tt (by simp [hfa]) ?_
      repeat walk_at "go5"
      rename At _ _ _ _ _ _ => I
      refine q_path I (isl_keeps hna I.keep) hnv hpn (by omega) fun t1 s I => ?_
      refine r_cell (I.keep _ _ hc1) ho1' ?_
      refine q_dnotin I (Heap.dictOf_iff.mpr ⟨oL, I.get (List.mem_append_right _ (.head _)), hoL⟩) hLm fun s I => ?_
      repeat walk_at "go5"
      have hfa' : p.2 = false := by simpa using hfa
      rw [hfa', if_neg (by simp)] at hst
      have hmemk : pathS p.1 ∈ kL.map (·.1) ↔ p.1 ∈ Oi ps i := by rw [hT.l, path_mem hT.nm hpn]; exact hks.mem_iff
      rw [valueAt_none]
      by_cases hin : p.1 ∈ Oi ps i
      · refine Br.ff (by simp only [hmemk, hin, decide_true, Bool.not_true]) ?_
        repeat walk_at "go5"
        have e : mUp (Oi ps i) p.1 = Oi ps i := by unfold mUp; rw [if_pos hin]
        refine ⟨_, _, I, hfound1, oL, oD, kL, kD, ks, T, rfl, hoL, hoD, hT, ?_, ?_, ?_⟩
        · rw [hst, e]; exact hks
        · rw [hst, e]; exact hO
        · rw [hst, e]; exact fun x hx => Nat.lt_succ_of_lt (hTi x hx)
      · refine Br.tt (by simp only [hmemk, hin, decide_false, Bool.not_false]) ?_
        repeat walk_at "go5"
        refine x_for (fun j m nw => m "found" = some (.ref fa) ∧ m "turn" = some (.int (i : Int) ti) ∧ m "names" = some (.ref na) ∧ ∃ oL oD kL kD ks' T', nw = own ++ [(dL, oL), (dD, oD), (174, tabObj #[])] ∧ oL.IsDictOf (PySem.strKind prog w) kL ∧ oD.IsDictOf (PySem.strKind prog w) kD ∧
          Tab kL kD ks' T' ∧ (∀ x, x ∈ ks' ↔ x ∈ ks ∨ (x <+: p.1 ∧ x.length < j)) ∧ (∀ x, T' x = if x <+: p.1 ∧ x.length < j then i else T x) ∧ ks'.length ≤ ks.length + j) ?_
        intro INV
        refine e_type I G2 Boot.«range» ?_
        repeat walk_at "go5"
        rename At _ _ _ _ _ _ => I
        refine q_len I (isl_keeps hna I.keep) (by rw [hnv.length]; omega) fun tl s I => ?_
        repeat walk_at "go5"
        rename At _ _ _ _ _ _ => I
        rw [show ((nv.length : Int) + 1) = ((p.1.length + 1 : Nat) : Int) by rw [hnv.length]; rfl]
        refine src_range R.h I (by omega) fun it2 s I S2 => ?_
        refine (S2 _ _).loop I ⟨hfound1, hturn1, hnames1, oL, oD, kL, kD, ks, T, rfl, hoL, hoD, hT, (fun x => by simp), (fun x => by simp), Nat.le_refl _⟩ ?_ ?_
        · rintro j v own2 m₂ nw s hj hv ⟨hfound, hturn, hnames, oL, oD, kL, kD, ks', T', rfl, hoL, hoD, hT, hks', hT', hl'⟩ I
          intro KK
          obtain ⟨tj, rfl⟩ := hv
          refine a_name I fun s I => ?_
          repeat walk_at "go5"
          rename At _ _ _ _ _ _ => I
          refine q_lslice I (isl_keeps hna I.keep) (lo := none) (hi := some (j : Int)) .none (.int j _) (by rw [hnv.length, sizeLine_eq]; omega) ?_
          intro D4 s I
          rw [slicePick_upto'] at I
          repeat walk_at "go5"
          rename At _ _ _ _ _ _ => I
          have hjn : j ≤ p.1.length := by omega
          have hxn : ∀ n ∈ p.1.take j, Nm n := fun n hn => hpn n (List.mem_of_mem_take hn)
          have hxl : (p.1.take j).length = j := by rw [List.length_take]; omega
          refine q_path (nv := nv.take j) I (LL.list (I.get (.head _))) (hnv.take' _) hxn (by omega) fun t2 s I => ?_
          refine SetK.intro I.tail fun s I => ?_
          refine x_setitem ?_
          repeat walk_at "go5"
          refine r_cell (I.keep _ _ hc1) ho1' ?_
          repeat walk_at "go5"
          rename At _ _ _ _ _ _ => I
          have I := (show At g2 s₀.heap.objs.size _ ((own2 ++ own) ++ (dL, oL) :: [(dD, oD), (174, tabObj #[])]) s₀ _ from by rw [List.append_assoc]; exact I).mid
          have hkl : kL.length ≤ 200000 := by have := congrArg List.length hT.l; simp at this; omega
          have hkd : kD.length ≤ 200000 := by have := congrArg List.length hT.d; simp at this; omega
          refine q_dset I hoL (by rw [sizeLine_eq]; omega) fun oL' s hoL' I => ?_
          have I := I.unmid
          refine x_setitem ?_
          repeat walk_at "go5"
          refine r_cell (I.keep _ _ hc2) ho2' ?_
          repeat walk_at "go5"
          rename At _ _ _ _ _ _ => I
          have I := (show At g2 s₀.heap.objs.size _ (((own2 ++ own) ++ [(dL, oL')]) ++ (dD, oD) :: [(174, tabObj #[])]) s₀ _ from by rw [List.append_assoc (own2 ++ own)]; exact I).mid
          refine q_dset I hoD (by rw [sizeLine_eq]; omega) fun oD' s hoD' I => ?_
          have I := I.unmid
          have I := (show At g2 s₀.heap.objs.size _ (own2 ++ (own ++ [(dL, oL'), (dD, oD'), (174, tabObj #[])])) s₀ _ from by simpa using I)
          repeat walk_at "go5"
          have hT2 := hT.step hxn i ti tj
          rw [hxl] at hT2
          have hbase : ∀ y : List Str, (y <+: p.1 ∧ y.length < j + 1) ↔ (y = p.1.take j ∨ (y <+: p.1 ∧ y.length < j)) := fun y => by
            constructor
            · rintro ⟨h1, h2⟩
              by_cases h3 : y.length < j
              · exact .inr ⟨h1, h3⟩
              · have h4 : y.length = j := by omega
                exact .inl (by rw [← h4]; exact List.prefix_iff_eq_take.mp h1)
            · rintro (rfl | ⟨h1, h2⟩)
              · exact ⟨List.take_prefix _ _, by omega⟩
              · exact ⟨h1, by omega⟩
          refine ⟨_, _, I, by walk_at "lk", by walk_at "lk", by walk_at "lk", oL', oD', _, _, _, _, rfl, hoL', hoD', hT2, fun y => ?_, fun y => ?_, ?_⟩
          · rw [hbase y]
            have h1 := hks' y
            split
            · rename_i h3
              rw [h1]
              constructor
              · rintro (h | h)
                · exact .inl h
                · exact .inr (.inr h)
              · rintro (h | h | h)
                · exact .inl h
                · subst h; exact (hks' _).mp h3
                · exact .inr h
            · rw [List.mem_append, List.mem_singleton, h1]
              constructor
              · rintro ((h | h) | h)
                · exact .inl h
                · exact .inr (.inr h)
                · exact .inr (.inl h)
              · rintro (h | h | h)
                · exact .inl (.inl h)
                · exact .inr h
                · exact .inl (.inr h)
          · show (if y = p.1.take j then i else T' y) = _
            rw [hT' y]
            have h2 := hbase y
            by_cases h3 : y = p.1.take j
            · rw [if_pos h3, if_pos (h2.mpr (.inl h3))]
            · rw [if_neg h3]
              by_cases h4 : y <+: p.1 ∧ y.length < j
              · rw [if_pos h4, if_pos (h2.mpr (.inr h4))]
              · rw [if_neg h4, if_neg (fun h => (h2.mp h).elim h3 h4)]
          · split
            · omega
            · simp; omega
        · rintro m' nw' s I ⟨hfound, hturn, hnames, oL, oD, kL, kD, ks', T', rfl, hoL, hoD, hT, hks', hT', hl'⟩
          repeat walk_at "go5"
          have hlt : ∀ x : List Str, (x <+: p.1 ∧ x.length < p.1.length + 1) ↔ x ∈ upsL p.1 := fun x => by
            rw [mem_ups]
            exact ⟨fun h => h.1, fun h => ⟨h, Nat.lt_succ_of_le h.length_le⟩⟩
          obtain ⟨h3, h4⟩ := told_step (T' := T') hO hTi hpz (fun x hx => by rw [hT', if_pos ((hlt x).mpr hx)]) (fun x hx => by rw [hT', if_neg (fun h => hx ((hlt x).mp h))]) hin
          have hnd : (mUp (Oi ps i) p.1).Nodup := by
            have := (mUps_good (upsOf (ps.take (i + 1)))).2
            rw [← hst]; exact this
          refine ⟨_, _, I, hfound, oL, oD, kL, kD, ks', T', rfl, hoL, hoD, hT, ?_, ?_, ?_⟩
          · rw [hst]
            refine (List.perm_ext_iff_of_nodup hT.nd hnd).mpr fun x => ?_
            rw [hks', hlt x, mUp_mem (fun y hy z hz => ?_), hks.mem_iff, mem_ups]
            obtain ⟨mm, h5, h6⟩ := (Oi_mem ps i y).mp hy
            exact (Oi_mem ps i z).mpr ⟨mm, h5, hz.trans h6⟩
          · rw [hst]; exact h3
          · rw [hst]; exact h4
  · rintro m nw s I ⟨hfound, oL, oD, kL, kD, ks, T, rfl, hoL, hoD, hT, hks, hO, hTi⟩
    repeat walk_at "go5"
    rename At _ _ _ _ _ _ => I
    refine e_bltkw I G2 Boot.«sorted» ?_
    refine r_cell (I.keep _ _ hc1) ho1' ?_
    refine q_lambda I.pull3 G2 X2 X2.c178 rfl fun f c' ctv oc cvs ct s I hocd hocv => ?_
    have hkl : kL.length = ks.length := by have := congrArg List.length hT.l; simpa using this
    have hki : ∀ (i : Nat) (k : Str) (x : Value), kL[i]? = some (k, x) → ∃ y, ks[i]? = some y ∧ k = pathS y := fun i k x h => by
      have h1 : (kL.map (·.1))[i]? = some k := by rw [List.getElem?_map, h]; rfl
      rw [hT.l, List.getElem?_map, Option.map_eq_some_iff] at h1
      obtain ⟨y, h2, h3⟩ := h1
      exact ⟨y, h2, h3.symm⟩
    have hOlen : ks.length = (Oi ps fv.length).length := hks.length_eq
    have hOe : Oi ps fv.length = (upsOf ps).foldl mUp [] := by unfold Oi; rw [hpl2.len, List.take_length]
    rw [hOe] at hks hO hOlen
    have hksl : ∀ y ∈ ks, y.length ≤ 900 := fun y hy => by
      obtain ⟨mm, h5, h6⟩ := (mUps_mem _ y).mp (hks.mem_iff.mp hy)
      exact Nat.le_trans h6.length_le (hsz.2 _ (mem_upsOf.mp h5))
    have hgd : ∀ i, i < ks.length → ks.getD i [] ∈ ks := fun i hi => by simp [List.getD, hi]
    obtain ⟨g3, I, hg3, hn3⟩ := I.freeze_all
    have h174 : ∃ ts, g3.get? 174 = some (tabObj ts) := ⟨_, hn3 (174, _) (.tail _ (.tail _ (.head _)))⟩
    refine q_sortedD (K := fun i => ((T (ks.getD i []) : Int), -((ks.getD i []).length : Int))) (rk := fun i => rank T (ks.getD i [])) R.h I hLm (hn3 (dL, oL) (.tail _ (.tail _ (.tail _ (.head _))))) hoL (by omega) (by omega) ?_ ?_ ?_ ?_
    · intro i j hi hj
      have h5 := hksl _ (hgd i (by omega))
      have h6 := hksl _ (hgd j (by omega))
      show rank T _ < rank T _ ↔ _
      unfold rank
      generalize T (ks.getD i []) = a at *
      generalize T (ks.getD j []) = b at *
      generalize (ks.getD i []).length = c at *
      generalize (ks.getD j []).length = d at *
      show _ ↔ ((a : Int) < (b : Int) ∨ (a : Int) = (b : Int) ∧ -(c : Int) < -(d : Int))
      omega
    · intro i j hi hj e
      have hnd : (ks.map (rank T)).Nodup := ((hks.map _).nodup_iff).mpr ((List.pairwise_map.mpr hO).imp Nat.ne_of_lt)
      have hi' : i < ks.length := by omega
      have hj' : j < ks.length := by omega
      refine (List.getElem_inj (h₀ := by simpa using hi') (h₁ := by simpa using hj') hnd).mp ?_
      simpa [List.getD, hi', hj'] using e
    · intro i k x t s nw hkx I
      obtain ⟨y, hy, rfl⟩ := hki i k x hkx
      have hyk := List.mem_of_getElem? hy
      have hgi : ks.getD i [] = y := by simp [List.getD, hy]
      obtain ⟨tv, htv⟩ := hT.vl y hyk
      obtain ⟨td, htd⟩ := hT.vd y hyk
      rw [hgi]
      refine enterL (binds := [("each", .str (pathS y) t)]) (P := fun v s'' => PairAt s''.heap v ((T y : Int), -(y.length : Int))) R.in1.in1 (I.keep _ _ (hn3 _ (.head _))) (I.keep _ _ (hn3 (c', oc) (.tail _ (.head _)))) hocd hocv ((G2.nolimit.keeps hg3).keeps I.keep) (by with_unfolding_all rfl) ?_
      intro A' s1 R' I1 KP EV
      have kk : ∀ b o, g3.get? b = some o → s.heap.get? b = some o := I.keep
      repeat walk_at "go5"
      rename At _ _ _ _ _ _ => I1
      refine r_free (I1.keep _ _ (kk _ _ (hg3 _ _ hc1))) ho1' ?_
      repeat walk_at "go5"
      refine q_dget I1 (Heap.dictOf_iff.mpr ⟨oL, I1.keep _ _ (kk _ _ (hn3 (dL, oL) (.tail _ (.tail _ (.tail _ (.head _)))))), hoL⟩) htv fun s1 I1 => ?_
      repeat walk_at "go5"
      refine r_free (I1.keep _ _ (kk _ _ (hg3 _ _ hc2))) ho2' ?_
      repeat walk_at "go5"
      refine q_dget I1 (Heap.dictOf_iff.mpr ⟨oD, I1.keep _ _ (kk _ _ (hn3 (dD, oD) (.tail _ (.tail _ (.tail _ (.tail _ (.head _))))))), hoD⟩) htd fun s1 I1 => ?_
      repeat walk_at "go5"
      rename At _ _ _ _ _ _ => I1
      exact ⟨I1.keeps fun _ _ e => e, _, _, _, rfl, I1.tup⟩
    · intro D kS p vs c1 c2 s I hvl hvk hok hsrt
      have hout := out_sorted (p := p) (vs := vs) hks hO (by rw [← hkl]; exact hok) (by rw [← hkl]; exact hsrt) (fun i y hy => by
        have hi : i < kL.length := by rw [hkl]; exact (List.getElem?_eq_some_iff.mp hy).1
        obtain ⟨y', h5, h6⟩ := hki i kL[i].1 kL[i].2 (List.getElem?_eq_getElem hi)
        rw [hy] at h5
        obtain rfl := Option.some.inj h5
        rw [← h6]
        exact hvk i kL[i].1 kL[i].2 (List.getElem?_eq_getElem hi))
      generalize hov : (p.toList.map fun i => vs.getD i Value.none) = ov at I hout
      have hOn : ∀ x ∈ (upsOf ps).foldl mUp [], ∀ n ∈ x, Nm n := fun x hx => by rw [← hOe] at hx; exact Oi_nm hnm hx
      have hord : orderOf ps = Ei ps ((upsOf ps).foldl mUp []) ps.length := by unfold Ei; rw [List.take_length]; rfl
      generalize (upsOf ps).foldl mUp [] = O at hks hO hOlen hOn hout h2 h64 hord ⊢
      have hE := Ei_fact hnm hOn hsz.2
      refine SetK.intro I.tail fun s I => ?_
      have hta : s₀.heap.get? D = none := by
        have hD := (I.N _ (.head _)).2.2
        cases q : s₀.heap.get? D with
        | none => rfl
        | some o =>
          by_cases hD4 : D = 174
          · obtain ⟨ts, h174⟩ := h174
            rw [hD4, h174] at hD; cases hD
          · rw [hg3 _ _ (hGh D o hD4 q)] at hD; cases hD
      have hfl3 := isl_keeps hfl2 hg3
      have hpl3 := hpl2.keeps hg3
      have G3 := G2.keeps hg3
      refine x_for (fun i m nw => m "found" = some (.ref fa) ∧ m "told" = some (.ref D) ∧ ∃ vs n, nw = [(D, LL vs n)] ∧ StrsAre vs ((Ei ps O i).map pathS)) ?_
      intro INV
      repeat walk_at "go5"
      refine src_listT R.h I hfl3 hpl3.ref fun it s I S => ?_
      refine (S _ _ _).loop I ⟨by walk_at "lk", by walk_at "lk", ov, c1, rfl, hout⟩ ?_ ?_
      · rintro i v own m₁ nw s hi hv ⟨hfound, htold, vs, n, rfl, hvs⟩ I
        intro KK
        obtain ⟨p, hp, ta, t, na, nv, rfl, hta, hna, hnv⟩ := hpl3.at' i v (by simpa using hv)
        have hpm := List.mem_of_getElem? hp
        have hpn := hnm p hpm
        have hpz := hsz.2 p hpm
        have hst := Ei_step (O := O) hp
        obtain ⟨hEn, hEl⟩ := hE i
        have hi100 : i < 100 := by rw [List.size_toArray, hpl2.len] at hi; omega
        refine a_tup R.h I (isTup_keeps hta I.keep) fun s I => ?_
        refine a_cons I fun s I => ?_
        refine a_cons I fun s I => ?_
        refine a_cons I fun s I => ?_
        refine a_nil ?_
        generalize hM : upd _ _ _ = M1 at I
        have hfound1 : M1 "found" = some (.ref fa) := by rw [← hM]; walk_at "lk"
        have htold1 : M1 "told" = some (.ref D) := by rw [← hM]; walk_at "lk"
        have hnames1 : M1 "names" = some (.ref na) := by rw [← hM]; walk_at "lk"
        have hfalls1 : M1 "falls" = some (.bool p.2) := by rw [← hM]; walk_at "lk"
        clear hM
        refine x_if ?_
        with_reducible refine t_plain ?_
        repeat walk_at "go5"
        by_cases hfa : p.2 = true
        · refine Br.tt hfa ?_
          rw [if_pos hfa] at hst
          repeat walk_at "go5"
          refine x_for (fun j m nw => m "found" = some (.ref fa) ∧ m "told" = some (.ref D) ∧ m "names" = some (.ref na) ∧ ∃ vs n, nw = own ++ [(D, LL vs n)] ∧ StrsAre vs ((Ei ps O i ++ ((List.range j).map p.1.take).filter fun x => decide (x ∉ Ei ps O i)).map pathS)) ?_
          intro INV
          refine e_type I G3 Boot.«range» ?_
          repeat walk_at "go5"
          rename At _ _ _ _ _ _ => I
          refine q_len I (isl_keeps hna I.keep) (by rw [hnv.length]; omega) fun tl s I => ?_
          repeat walk_at "go5"
          rename At _ _ _ _ _ _ => I
          rw [show ((nv.length : Int) + 1) = ((p.1.length + 1 : Nat) : Int) by rw [hnv.length]; rfl]
          refine src_range R.h I (by omega) fun it2 s I S2 => ?_
          refine (S2 _ _).loop I ⟨hfound1, htold1, hnames1, vs, n, rfl, by simpa using hvs⟩ ?_ ?_
          · rintro j v own2 m₂ nw s hj hv ⟨hfound, htold, hnames, vs, n, rfl, hvs⟩ I
            intro KK
            obtain ⟨tj, rfl⟩ := hv
            refine a_name I fun s I => ?_
            repeat walk_at "go5"
            rename At _ _ _ _ _ _ => I
            refine q_lslice I (isl_keeps hna I.keep) (lo := none) (hi := some (j : Int)) .none (.int j _) (by rw [hnv.length, sizeLine_eq]; omega) ?_
            intro D4 s I
            rw [slicePick_upto'] at I
            repeat walk_at "go5"
            rename At _ _ _ _ _ _ => I
            have hjn : j ≤ p.1.length := by omega
            have hxn : ∀ n ∈ p.1.take j, Nm n := fun n hn => hpn n (List.mem_of_mem_take hn)
            have hxl : (p.1.take j).length = j := by rw [List.length_take]; omega
            refine q_path (nv := nv.take j) I (LL.list (I.get (.head _))) (hnv.take' _) hxn (by omega) fun t2 s I => ?_
            refine SetK.intro I.tail fun s I => ?_
            repeat walk_at "go5"
            rename At _ _ _ _ _ _ => I
            have hrange : ∀ x ∈ ((List.range j).map p.1.take), ∀ n ∈ x, Nm n := fun x hx => by
              obtain ⟨k, _, rfl⟩ := List.mem_map.mp hx
              exact fun n hn => hpn n (List.mem_of_mem_take hn)
            have hcurn : ∀ x ∈ Ei ps O i ++ ((List.range j).map p.1.take).filter (fun x => decide (x ∉ Ei ps O i)), ∀ n ∈ x, Nm n := fun x hx => by
              rcases List.mem_append.mp hx with h | h
              · exact hEn x h
              · exact hrange x (List.mem_filter.mp h).1
            have hnew : p.1.take j ∉ (List.range j).map p.1.take := fun h => by
              obtain ⟨k, hk, e⟩ := List.mem_map.mp h
              have hk := List.mem_range.mp hk
              have := congrArg List.length e
              rw [hxl, List.length_take] at this; omega
            have hsucc : (List.range (j + 1)).map p.1.take = (List.range j).map p.1.take ++ [p.1.take j] := by rw [List.range_succ, List.map_append]; rfl
            have hcl : (Ei ps O i ++ ((List.range j).map p.1.take).filter (fun x => decide (x ∉ Ei ps O i))).length ≤ 200000 := by
              have h1 := List.length_filter_le (fun x => decide (x ∉ Ei ps O i)) ((List.range j).map p.1.take)
              rw [List.length_append]
              simp only [List.length_map, List.length_range] at h1
              omega
            refine notin_list_strs (LL.list (I.get (List.mem_append_right _ (List.mem_append_right _ (.head _))))) hvs ?_
            repeat walk_at "go5"
            have hany : (((Ei ps O i ++ ((List.range j).map p.1.take).filter (fun x => decide (x ∉ Ei ps O i))).map pathS).any (· == pathS (p.1.take j))) = decide (p.1.take j ∈ Ei ps O i) := by
              rw [Bool.eq_iff_iff, List.any_eq_true, decide_eq_true_iff]
              constructor
              · rintro ⟨z, hz, e⟩
                have e : z = pathS (p.1.take j) := by simpa using e
                subst e
                have := (path_mem hcurn hxn).mp hz
                rcases List.mem_append.mp this with h | h
                · exact h
                · exact absurd (List.mem_filter.mp h).1 hnew
              · intro h
                exact ⟨_, List.mem_map_of_mem (List.mem_append_left _ h), by simp⟩
            rw [hany]
            by_cases hin : p.1.take j ∈ Ei ps O i
            · refine Br.ff (by simp [hin]) ?_
              repeat walk_at "go5"
              refine ⟨_, _, I, by walk_at "lk", by walk_at "lk", by walk_at "lk", vs, n, rfl, ?_⟩
              rw [hsucc, List.filter_append, List.filter_cons, if_neg (by simpa using hin), List.filter_nil, List.append_nil]
              exact hvs
            · refine Br.tt (by simp [hin]) ?_
              have I := I.assoc
              repeat walk_at "go5"
              refine gm_append (I.get (List.mem_append_right _ (.head _))) ?_
              repeat walk_at "go5"
              · rename At _ _ _ _ _ _ => I
                refine ⟨_, _, I.unassoc, by walk_at "lk", by walk_at "lk", by walk_at "lk", _, _, rfl, ?_⟩
                rw [hsucc, List.filter_append, List.filter_cons, if_pos (by simpa using hin), List.filter_nil, ← List.append_assoc, List.map_append]
                exact hvs.append' (.cons _ _ .nil)
              · rw [hvs.length, List.length_map, sizeLine_eq]; omega
          · rintro m nw s I ⟨hfound, htold, hnames, vs, n, rfl, hvs⟩
            repeat walk_at "go5"
            refine ⟨_, _, I, hfound, htold, vs, n, rfl, ?_⟩
            rw [hst]
            unfold mDown upsL
            rw [← List.map_reverse, List.reverse_reverse]
            exact hvs
        · refine Br.ff (by simpa using hfa) ?_
          repeat walk_at "go5"
          refine ⟨_, _, I, hfound1, htold1, vs, n, rfl, ?_⟩
          rw [hst, if_neg hfa]; exact hvs
      · rintro m nw s I ⟨hfound, htold, vs, n, rfl, hvs⟩
        repeat walk_at "go5"
        rename At _ _ _ _ _ _ => I
        obtain ⟨ts, h174⟩ := h174
        refine ⟨⟨s.heap, s.toks, I.e, fun b o hb e => I.keep _ _ (hg3 _ _ (hGh b o hb e)), ts, I.keep _ _ h174⟩, D, vs, n, rfl, I.get (.head _), ?_, hta⟩
        rw [show fv.toArray.size = ps.length from by rw [List.size_toArray, hpl2.len]] at hvs
        rw [hord]
        exact hvs
end
/-! ## MCompC -/
noncomputable def cellObj : Obj := { cls := .type "cell", data := .cell none }
noncomputable def dictObj : Obj := { cls := .type "dict", data := .dict #[] }
section
variable {prog : Program} {w : World} {A : Around} {E : Value → Shared → Prop} {s s₀ : Shared} {g : Heap} {L : Addr} {m : Str → Option Value} {news : List (Addr × Obj)} {env : Env}
theorem newEnvC1 {scope : Scope} {globals : Addr} {cl : List (Str × Addr)} {cx qual : Str} {func : Option Addr} {code : Value} {outer : Env} {bi : Addr} {Q : Env → Shared → Prop} (hpush : ∀ h, pushCells h scope.names = h.push cellObj) (hcf : ∀ c, cellsFrom c scope.names cl = (cx, c) :: cl)
    (h : Q { scope := scope, locals := s.heap.objs.size, globals := globals, cells := (cx, s.heap.objs.size + 1) :: cl, qual := qual, func := func, code := outer.code, frame := outer.frame, builtins := outer.builtins } { s with heap := (s.heap.push dictObj).push cellObj }) :
    wpAny (model prog w) A (newFunctionEnv scope globals cl [] qual func code (some outer) bi) Q E s := by
  simp only [newFunctionEnv, Option.isSome_some, if_true]
  refine wpAny_bind (wpAny_alloc ?_)
  refine wpAny_bind (wpAny_layCells _ (fun name kind cells => by cases hkc : kind == NameKind.cell <;> simp [hkc]) _ _ _ _ ?_)
  rw [List.forIn_nil]
  refine wpAny_bind (wpAny_pure (wpAny_pure ?_))
  have e1 := hcf (s.heap.objs.size + 1)
  have e2 := hpush (s.heap.push dictObj)
  show Q { scope := scope, locals := s.heap.objs.size, globals := globals, cells := cellsFrom (s.heap.push dictObj).objs.size scope.names cl, qual := qual, func := func, code := outer.code, frame := outer.frame, builtins := outer.builtins } { s with heap := pushCells (s.heap.push dictObj) scope.names }
  rw [e2, Heap.size_push, e1]
  exact h
inductive CompOnC (prog : Program) (w : World) (A : Around) (env : Env) (scope : Scope) (cl : List (Str × Addr)) (cx : Str) (tg elt : Expr) (ifs : List Expr) (fin : Heap → Addr → (Str → Option Value) → Shared → List (Addr × Obj) → Addr → Prop) (Inv : Addr → Nat → List Value → List (Addr × Obj) → Prop) (it : Value) (s₂ : Shared) : Prop
  | mk (g : Heap) (L : Addr) (m : Str → Option Value) (news : List (Addr × Obj)) (s₀ : Shared) (I : Addr) (fp : List Addr) (wr : List Addr) (n : Nat) (P : Nat → Value → Heap → Prop) (St : Nat → Heap → Prop)
    (q0 : it = .ref I)
    (q1 : At g L m news s₀ s₂)
    (q2 : Wk prog w A I fp wr n tg P St)
    (q3 : n ≤ sizeLine)
    (q4 : L ∉ fp)
    (q5 : (∀ b ∈ wr, g.get? b = none))
    (q6 : (∀ p ∈ news, p.1 ∉ fp))
    (q7 : St 0 s₂.heap)
    (q8 : (∀ C, Inv C 0 [] [(C + 1, cellObj)]))
    (q9 : (∀ G C i v own m₁ ys nw s₁, (∀ b o, b ∉ wr → s₂.heap.get? b = some o → G.get? b = some o) → i < n → P i v s₁.heap → Inv C i ys nw → At G C m₁ (own ++ nw) s₀ s₁ →
      wpAny (model prog w) A (assign tg (compEnvC scope ((cx, C + 1) :: cl) C env) v) (fun _ s₃ =>
        wpAny (model prog w) A (forIn ifs true fun c r => if r = true then do let ok ← isTrue c (compEnvC scope ((cx, C + 1) :: cl) C env) (eval c (compEnvC scope ((cx, C + 1) :: cl) C env)); pure (ForInStep.yield ok) else pure (ForInStep.yield r)) (fun ok s₄ =>
          Br ok (wpAny (model prog w) A (eval elt (compEnvC scope ((cx, C + 1) :: cl) C env)) (fun y s₅ => ∃ m₂ nw', At G C m₂ (own ++ nw') s₀ s₅ ∧ Inv C (i + 1) (ys ++ [y]) nw') (fun _ _ => False) s₄)
            (∃ m₂ nw', At G C m₂ (own ++ nw') s₀ s₄ ∧ Inv C (i + 1) ys nw')) (fun _ _ => False) s₃) (fun _ _ => False) s₁))
    (q10 : (∀ C D k ys nw, Inv C n ys nw → ys.length ≤ n → fin g L m s₀ (((D, LL ys k) :: nw) ++ news) D)) : CompOnC prog w A env scope cl cx tg elt ifs fin Inv it s₂

theorem comp_coreC {tg elt iter : Expr} {ifs : List Expr} {scope : Scope} {cl : List (Str × Addr)} {pos : Pos} {s₂ : Shared} {it : Value} {cx : Str} {Inv : Addr → Nat → List Value → List (Addr × Obj) → Prop} {fin : Heap → Addr → (Str → Option Value) → Shared → List (Addr × Obj) → Addr → Prop} {RR : Value → Addr → Result → Shared → Prop}
    (hpush : ∀ h, pushCells h scope.names = h.push cellObj) (hcf : ∀ c, cellsFrom c scope.names cl = (cx, c) :: cl) (hkind : scope.kind = .function)
    (h : CompOnC prog w A env scope cl cx tg elt ifs fin Inv it s₂)
    (hRR : ∀ g L m news s₀ D C mC s', s'.heap.Ns C mC → At g L m news s₀ s' → L ≠ C → g.get? C = none → (∀ p ∈ news, p.1 ≠ C) → fin g L m s₀ news D → RR (.ref D) C (.ok .next) s') :
    wpAny (model prog w) A (newList []) (fun acc s₃ => wpAny (model prog w) A (newFunctionEnv scope env.globals cl [] env.qual none .none (some env)) (fun cenv s₄ =>
      codeAny (model prog w) A (.compStart (.ListComp elt [⟨tg, iter, ifs, 0⟩] scope pos) 0 it acc { cenv with scope := relabel scope env }) (RR acc cenv.locals) s₄) E s₃) E s₂ := by
  obtain ⟨g, L, m, news, s₀, I, fp, wr, n, P, St, rfl, hI, W, hn, hLf, hwr, hnw, hst, h0, step, hfin⟩ := h
  refine wpAny_newObj_type (newEnvC1 hpush hcf ?_)
  show codeAny _ _ (.compStart _ 0 (.ref I) (.ref s₂.heap.objs.size) (compEnvC scope ((cx, (s₂.heap.push (LL [] 0)).objs.size + 1) :: cl) (s₂.heap.push (LL [] 0)).objs.size env)) (RR (.ref s₂.heap.objs.size) (s₂.heap.push (LL [] 0)).objs.size) { s₂ with heap := ((s₂.heap.push (LL [] 0)).push dictObj).push cellObj }
  have hns₁ : (((s₂.heap.push (LL [] 0)).push dictObj).push cellObj).Ns (s₂.heap.push (LL [] 0)).objs.size fun _ => none := (Heap.Ns.new _ (.type "dict")).push _
  have old : ∀ b o, s₂.heap.get? b = some o → (((s₂.heap.push (LL [] 0)).push dictObj).push cellObj).get? b = some o := fun b o e => Heap.get?_push_of_some _ (Heap.get?_push_of_some _ (Heap.get?_push_of_some _ e))
  have hD : (((s₂.heap.push (LL [] 0)).push dictObj).push cellObj).get? s₂.heap.objs.size = some (LL [] 0) := Heap.get?_push_of_some _ (Heap.get?_push_of_some _ (Heap.get?_push_size _ rfl))
  have hCc : (((s₂.heap.push (LL [] 0)).push dictObj).push cellObj).get? ((s₂.heap.push (LL [] 0)).objs.size + 1) = some cellObj := by
    have := Heap.get?_push_size (((s₂.heap.push (LL [] 0)).push dictObj)) (o := cellObj) rfl
    rwa [show ((s₂.heap.push (LL [] 0)).push dictObj).objs.size = (s₂.heap.push (LL [] 0)).objs.size + 1 from Heap.size_push ..] at this
  generalize ((s₂.heap.push (LL [] 0)).push dictObj).push cellObj = h₁ at hns₁ old hD hCc ⊢
  rw [Heap.size_push] at hns₁ hCc ⊢
  obtain ⟨k1, k2, k3, k4, k5, k6⟩ := comp_done hI W hst rfl rfl
  have hG : ∀ b o, b ∉ wr → s₂.heap.get? b = some o → (hideAll s₂.heap wr).get? b = some o := fun b o hb e => hideAll_get _ e hb
  have k7 : (hideAll s₂.heap wr).get? (s₂.heap.objs.size + 1 + 1) = none := hideAll_new (Nat.le_trans (Nat.le_succ _) (Nat.le_succ _))
  have k8 : s₂.heap.objs.size + 1 + 1 ∉ fp := fun h => by obtain ⟨o, ho⟩ := W.live _ _ hst _ h; exact absurd (Heap.lt_size ho) (Nat.not_lt.mpr (Nat.le_trans (Nat.le_succ _) (Nat.le_succ _)))
  have J0 : At (hideAll s₂.heap wr) (s₂.heap.objs.size + 1) (fun _ => none) [(s₂.heap.objs.size, LL [] 0), (s₂.heap.objs.size + 1 + 1, cellObj)] s₀ { s₂ with heap := h₁, toks := s₂.toks + 0 } :=
    ⟨hns₁, fun b o e => old b o (of_hideAll _ e), k6, fun p hp => by
      simp only [List.mem_cons, List.not_mem_nil, or_false] at hp
      rcases hp with rfl | rfl
      · exact ⟨hD, Nat.ne_of_lt (Nat.lt_succ_self _), k5⟩
      · exact ⟨hCc, Nat.ne_of_gt (Nat.lt_succ_self _), k7⟩, by simp; exact Nat.ne_of_lt (Nat.lt_succ_of_lt (Nat.lt_succ_self _)), by have := hI.e; rw [this]⟩
  have hst₁ : St 0 h₁ := W.frame _ _ _ hst fun b _ o e => old b o e
  have loop := comp_loop (iter := iter) (scope := scope) (pos := pos) (R := RR (.ref s₂.heap.objs.size) (s₂.heap.objs.size + 1)) _ (comp_turn (id := "list.append") (obj := LL) (PY := fun _ => True) (R := fun s' => RR (.ref s₂.heap.objs.size) (s₂.heap.objs.size + 1) (.ok .next) s') (fun _ X => X) W hn k1 k2 k4 (fun _ _ h => ⟨trivial, h⟩) (fun i v own m₁ ys nw s₁ => step _ _ i v own m₁ ys nw s₁ hG)
    (fun _ hz K h => q_appendS K hz h) fun mC ys c nw s' K hv hl => let ⟨a, b, d⟩ := K.home hI W.sub hLf hwr hnw hG; hRR _ _ _ _ _ _ _ _ _ K.ns a k3 b d (hfin _ _ c ys nw hv hl))
    (n + 1) ⟨0, _, [], 0, _, J0, (fun p hp => by rw [List.mem_singleton] at hp; subst hp; exact k8), hst₁, h0 _, Nat.zero_le _, Nat.le_refl _, rfl⟩
  exact codeAny_compStart_list loop (W.self 0 _ _ _ hst₁ loop)
end
/-! ## MLawR -/
section
variable {prog : Program} {w : World} {A : Around} {E : Value → Shared → Prop} {s s₀ : Shared} {g : Heap} {L : Addr} {m : Str → Option Value} {news pre post : List (Addr × Obj)} {env : Env} {tg : Expr} {n : Nat} {P : Nat → Value → Heap → Prop} {mg mb : Str → Option Value}

theorem e_compC {tg elt iter : Expr} {ifs : List Expr} {scope : Scope} {pos : Pos} {Q : Value → Shared → Prop} {cl : List (Str × Addr)} {cx : Str} (Inv : Addr → Nat → List Value → List (Addr × Obj) → Prop)
    (h : let INV : Addr → Nat → List Value → List (Addr × Obj) → Prop := Inv; wpAny (model prog w) A (eval iter env) (fun x s₁ => wpAny (model prog w) A (pyIter x) (fun it s₂ => CompOnC prog w A env scope cl cx tg elt ifs (fun g L m s₀ nw D => ∀ s', At g L m nw s₀ s' → Q (.ref D) s') INV it s₂) E s₁) E s)
    (hclos : closureFor scope env = pure cl := by with_unfolding_all rfl)
    (hpush : ∀ h, pushCells h scope.names = h.push cellObj := by intro _; with_unfolding_all rfl) (hcf : ∀ c, cellsFrom c scope.names cl = (cx, c) :: cl := by intro _; with_unfolding_all rfl) (hkind : scope.kind = .function := by with_unfolding_all rfl)
    (hnames : (scope.names.all fun x => decide (x.2 = .local → scope.names.lookup x.1 = some .local)) = true := by decide +kernel)
    (hs : ∀ x, foldedSetIterable iter env x = pure x := by intro _; with_unfolding_all rfl) :
    wpAny (model prog w) A (eval (.ListComp elt [⟨tg, iter, ifs, 0⟩] scope pos) env) Q E s := by
  rw [eval_ListComp]
  refine wpAny_comprehension_free (use := none) rfl hs hclos hkind (fun x hx => of_decide_eq_true (List.all_eq_true.mp hnames x hx)) (wpAny_mono h (fun x s₁ h₁ => wpAny_mono h₁ (fun it s₂ h₂ => ?_) fun _ _ e => e) fun _ _ e => e)
  refine comp_coreC (RR := fun acc C => compPost (model prog w) A E none Q acc C) hpush hcf hkind h₂ fun g L m news s₀ D C mC s' hn I h1 h2 h3 hq => ?_
  exact ⟨mC, hn, fun h' hs' => hq _ (I.aside hs' h1 h2 h3)⟩
theorem x_setcompC {x : Str} {pos' spos : Pos} {tg elt iter : Expr} {ifs : List Expr} {scope : Scope} {pos : Pos} {rest : List Stmt} {Q : Flow → Shared → Prop} {cl : List (Str × Addr)} {cx : Str} (Inv : Addr → Nat → List Value → List (Addr × Obj) → Prop)
    (h : let INV : Addr → Nat → List Value → List (Addr × Obj) → Prop := Inv; wpAny (model prog w) A (eval iter env) (fun xv s₁ => wpAny (model prog w) A (pyIter xv) (fun it s₂ => CompOnC prog w A env scope cl cx tg elt ifs
      (fun g L m s₀ nw D => env.locals = L ∧ ∀ s', At g L (upd m x (.ref D)) nw s₀ s' → wpAny (model prog w) A (execs rest env) Q E s') INV it s₂) E s₁) E s)
    (hsw : swapsWith (.ListComp elt [⟨tg, iter, ifs, 0⟩] scope pos) (some (.Name x pos')) spos.line env = pure true := by with_unfolding_all rfl)
    (hclos : closureFor scope env = pure cl := by with_unfolding_all rfl)
    (hpush : ∀ h, pushCells h scope.names = h.push cellObj := by intro _; with_unfolding_all rfl) (hcf : ∀ c, cellsFrom c scope.names cl = (cx, c) :: cl := by intro _; with_unfolding_all rfl) (hkind : scope.kind = .function := by with_unfolding_all rfl)
    (hnames : (scope.names.all fun x => decide (x.2 = .local → scope.names.lookup x.1 = some .local)) = true := by decide +kernel)
    (hs : ∀ x, foldedSetIterable iter env x = pure x := by intro _; with_unfolding_all rfl)
    (hk : env.scope.kind = .function := by with_unfolding_all rfl) (hl : env.kindOf x = some .local := by with_unfolding_all rfl) :
    wpAny (model prog w) A (execs (.Assign [.Name x pos'] (.ListComp elt [⟨tg, iter, ifs, 0⟩] scope pos) spos :: rest) env) Q E s := by
  refine x_cons ?_
  rw [exec_Assign_Name_used _ _ _ _ hsw]
  refine wpAny_bind (wpAny_standAt (wpAny_bind ?_))
  show wpAny _ A (do let _ ← comprehension (.ListComp elt [⟨tg, iter, ifs, 0⟩] scope pos) scope env _ (newList []) false (eval iter env) (some (assign (.Name x pos') env))) _ _ s
  refine wpAny_bind (wpAny_mono (wpAny_comprehension_free (use := some (assign (.Name x pos') env)) (Q := fun _ s' => wpAny (model prog w) A (execs rest env) Q E s') rfl hs hclos hkind (fun x hx => of_decide_eq_true (List.all_eq_true.mp hnames x hx))
    (wpAny_mono h (fun xv s₁ h₁ => wpAny_mono h₁ (fun it s₂ h₂ => ?_) fun _ _ e => e) fun _ _ e => e)) (fun _ s' hq => wpAny_pure (wpAny_pure hq)) fun _ _ e => e)
  refine comp_coreC (RR := fun acc C => compPost (model prog w) A E (some (assign (.Name x pos') env)) (fun _ s' => wpAny (model prog w) A (execs rest env) Q E s') acc C) hpush hcf hkind h₂ fun g L m news s₀ D C mC s' hn I h1 h2 h3 hq => ?_
  show wpAny _ A (assign (.Name x pos') env (.ref D)) _ _ _
  obtain ⟨hL, hq⟩ := hq
  subst hL
  refine wpAny_assign_Name (wpAny_storeName_local hl I.ns (fun h' hn' hs' => ?_) (by rw [hk]; rfl))
  exact ⟨mC, hn.sameBut hs' (Ne.symm h1), fun h'' hs'' => hq _ ((I.move (tk := s'.toks + 1) (m' := upd m x (.ref D)) hn' fun b o hb e => (hs'.2 b hb).trans e).aside hs'' h1 h2 h3)⟩
theorem Src.compC {it : Value} {scope : Scope} {cl : List (Str × Addr)} {cx : Str} {elt : Expr} {ifs : List Expr} {fin : Heap → Addr → (Str → Option Value) → Shared → List (Addr × Obj) → Addr → Prop} {Inv : Addr → Nat → List Value → List (Addr × Obj) → Prop} (S : Src prog w A tg n P g L news it s) (I : At g L m news s₀ s) (hn : n ≤ sizeLine) (h0 : ∀ C, Inv C 0 [] [(C + 1, cellObj)])
    (step : ∀ G C i v own m₁ ys nw s₁, (∀ b o, g.get? b = some o → G.get? b = some o) → (∀ p ∈ news, G.get? p.1 = some p.2) → G.Ns L m → i < n → P i v s₁.heap → Inv C i ys nw → At G C m₁ (own ++ nw) s₀ s₁ →
      let K1 : Value → Shared → Prop := fun y s₅ => ∃ m₂ nw', At G C m₂ (own ++ nw') s₀ s₅ ∧ Inv C (i + 1) (ys ++ [y]) nw'
      let K2 : Shared → Prop := fun s₄ => ∃ m₂ nw', At G C m₂ (own ++ nw') s₀ s₄ ∧ Inv C (i + 1) ys nw'
      let EV : Env := compEnvC scope ((cx, C + 1) :: cl) C env
      wpAny (model prog w) A (assign tg EV v) (fun _ s₃ =>
        wpAny (model prog w) A (forIn ifs true fun c r => if r = true then do let ok ← isTrue c EV (eval c EV); pure (ForInStep.yield ok) else pure (ForInStep.yield r)) (fun ok s₄ =>
          Br ok (wpAny (model prog w) A (eval elt EV) K1 (fun _ _ => False) s₄) (K2 s₄)) (fun _ _ => False) s₃) (fun _ _ => False) s₁)
    (hfin : ∀ C D k ys nw, Inv C n ys nw → ys.length ≤ n → fin g L m s₀ (((D, LL ys k) :: nw) ++ news) D) : CompOnC prog w A env scope cl cx tg elt ifs fin Inv it s := by
  obtain ⟨Ia, fp, wr, St, rfl, W, h1, h2, h3, h4⟩ := S
  refine ⟨g, L, m, news, s₀, Ia, fp, wr, n, P, St, rfl, I, W, hn, h1, h2, h3, h4, h0, fun G C i v own m₁ ys nw s₁ hG => step G C i v own m₁ ys nw s₁ (fun b o e => hG b o (fun hb => by rw [h2 b hb] at e; cases e) (I.keep b o e)) (fun p hp => hG _ _ (fun hb => h3 p hp (W.sub _ hb)) (I.N p hp).1) ?_, hfin⟩
  exact I.ns.at' fun o e => hG _ o (fun hb => h1 (W.sub _ hb)) e

/-- a cell as a target, the cell anywhere in the ledger -/
theorem s_cellM {M : Model} {x : Str} {c : Addr} {o : Obj} {v₀ : Option Value} {v : Value} {Q : Unit → Shared → Prop} (I : At g L m (pre ++ (c, o) :: post) s₀ s) (hd : o.data = .cell v₀) (h : ∀ o' s', o'.data = .cell (some v) → At g L m (pre ++ (c, o') :: post) s₀ s' → Q () s')
    (hc : env.cells.lookup x = some c := by with_unfolding_all rfl) (hl : env.kindOf x = some .cell := by with_unfolding_all rfl) (hk : env.scope.kind = .function := by with_unfolding_all rfl) : wpAny M A (storeName env x v) Q E s :=
  s_cell I.mid hd (fun o' s' hd' I' => h o' s' hd' I'.unmid) hc hl hk
theorem a_nameC {x : Str} {pos : Pos} {c : Addr} {o : Obj} {v₀ : Option Value} {v : Value} {Q : Unit → Shared → Prop} (I : At g L m (pre ++ (c, o) :: post) s₀ s) (hd : o.data = .cell v₀) (h : ∀ o' s', o'.data = .cell (some v) → At g L m (pre ++ (c, o') :: post) s₀ s' → Q () s')
    (hc : env.cells.lookup x = some c := by with_unfolding_all rfl) (hl : env.kindOf x = some .cell := by with_unfolding_all rfl) (hk : env.scope.kind = .function := by with_unfolding_all rfl) :
    wpAny (model prog w) A (assign (.Name x pos) env v) Q E s := PyProof.Rows.assign_Name (s_cellM I hd h hc hl hk)
theorem a_consC {x : Str} {px : Pos} {elts : List Expr} {c : Addr} {o : Obj} {v₀ : Option Value} {v : Value} {vs : List Value} {Q : Unit → Shared → Prop} (I : At g L m (pre ++ (c, o) :: post) s₀ s) (hd : o.data = .cell v₀)
    (h : ∀ o' s', o'.data = .cell (some v) → At g L m (pre ++ (c, o') :: post) s₀ s' → wpAny (model prog w) A (assignInOrder ((assignEach elts env).map (·.2)) vs) Q E s')
    (hc : env.cells.lookup x = some c := by with_unfolding_all rfl) (hl : env.kindOf x = some .cell := by with_unfolding_all rfl) (hk : env.scope.kind = .function := by with_unfolding_all rfl) :
    wpAny (model prog w) A (assignInOrder ((assignEach (.Name x px :: elts) env).map (·.2)) (v :: vs)) Q E s := by
  show wpAny _ _ (do holding vs (assign (.Name x px) env v); assignInOrder ((assignEach elts env).map (·.2)) vs) Q E s
  exact wpAny_bind (wpAny_holding (a_nameC I hd (fun o' s' hd' I' => h o' s' hd' I') hc hl hk))

theorem q_reverse {a : Addr} {vs : List Value} {k : Nat} {Q : Value → Shared → Prop} (I : At g L m ((a, LL vs k) :: news) s₀ s) (hz : vs.length ≤ sizeLine) (h : ∀ s', At g L m ((a, LL vs.reverse k) :: news) s₀ s' → Q .none s') :
    wpAny (model prog w) A (call (.builtin "list.reverse") [.ref a]) Q E s :=
  reverse_head I.fr I.upd1 restOf_ne (fun h' F' N' => h _ (I.back1 (tk := s.toks) F' N')) (by simpa using hz)
theorem gm_reverse {a : Addr} {vs : List Value} {n : Nat} {pl : Sem Bool} {Q : Value × List Value → Shared → Prop} (hg : s.heap.get? a = some (LL vs n)) (h : Q (.builtin "list.reverse", [.ref a]) s) :
    wpAny (model prog w) A (getMethod (.ref a) "reverse" pl) Q E s :=
  getMethod_builtin ⟨_, hg, rfl⟩ PySem.F.plainAttrs_list PySem.F.slot_list_reverse PySem.F.type_list_reverse (fun a' e => by cases e; exact ⟨_, hg, rfl⟩) h
theorem q_neb {a b : Bool} {Q : Value → Shared → Prop} (h : Q (.bool (a != b)) s) : wpAny (model prog w) A (compareOp .NotEq (.bool a) (.bool b)) Q E s := ne_bool h

theorem all_true (n : Nat) : ((List.range n).all fun _ => true) = true := List.all_eq_true.mpr fun _ _ => rfl
theorem strs_eqAt {vs us : List Value} {xs : List Str} (hv : StrsAre vs xs) (hu : StrsAre us xs) (j : Nat) (h1 : j < vs.toArray.size) (h2 : j < us.toArray.size) : SeqAt.EqAt A s vs.toArray[j] us.toArray[j] true := by
  obtain ⟨x, t, e1, hx⟩ := hv.item j vs.toArray[j] (by simp)
  obtain ⟨y, u, e2, hy⟩ := hu.item j us.toArray[j] (by simp)
  rw [hx] at hy
  obtain rfl := Option.some.inj hy
  rw [e1, e2]
  have := SeqAt.EqAt.str_str (A := A) (s := s) x t x u
  simpa using this
theorem rc_strs {a b : Addr} {vs us : List Value} {xs : List Str} (hu : A.units < cLine) (ha : s.heap.IsList a vs.toArray) (hb : s.heap.IsList b us.toArray) (hv : StrsAre vs xs) (hw : StrsAre us xs) : SeqAt.RcAt A s (.ref a) (.ref b) true := by
  have := SeqAt.RcAt.lists (e := fun _ => true) ha hb (by rw [List.size_toArray, List.size_toArray, hv.length, hw.length]) hu fun j h1 h2 => strs_eqAt hv hw j h1 h2
  rwa [all_true] at this
theorem q_eq_strs {a b : Addr} {vs us : List Value} {xs : List Str} {Q : Value → Shared → Prop} (hu : A.units < cLine) (ha : s.heap.IsList a vs.toArray) (hb : s.heap.IsList b us.toArray) (hv : StrsAre vs xs) (hw : StrsAre us xs) (h : Q (.bool true) s) :
    wpAny (model prog w) A (compareOp .Eq (.ref a) (.ref b)) Q E s := PySem.EqBoolInt.of_rc (rc_strs hu ha hb hv hw) h
/-- rows of texts in the heap -/
structure RowsAt (h : Heap) (vs : List Value) (Ls : List (List Str)) : Prop where
  len : vs.length = Ls.length
  at' : ∀ (i : Nat) (v : Value), vs[i]? = some v → ∃ xs a lv, Ls[i]? = some xs ∧ v = .ref a ∧ h.IsList a lv.toArray ∧ StrsAre lv xs
theorem RowsAt.keeps {h h' : Heap} {vs : List Value} {Ls : List (List Str)} (x : RowsAt h vs Ls) (k : ∀ b o, h.get? b = some o → h'.get? b = some o) : RowsAt h' vs Ls :=
  ⟨x.len, fun i v e => let ⟨xs, a, lv, h1, h2, h3, h4⟩ := x.at' i v e; ⟨xs, a, lv, h1, h2, isl_keeps h3 k, h4⟩⟩
theorem q_eq_rows {a b : Addr} {vs us : List Value} {Ls : List (List Str)} {Q : Value → Shared → Prop} (hu : A.units + 1 < cLine) (ha : s.heap.IsList a vs.toArray) (hb : s.heap.IsList b us.toArray) (hv : RowsAt s.heap vs Ls) (hw : RowsAt s.heap us Ls) (h : Q (.bool true) s) :
    wpAny (model prog w) A (compareOp .Eq (.ref a) (.ref b)) Q E s := by
  have : SeqAt.RcAt A s (.ref a) (.ref b) true := by
    have := SeqAt.RcAt.lists (A := A) (e := fun _ => true) ha hb (by rw [List.size_toArray, List.size_toArray, hv.len, hw.len]) (Nat.lt_of_succ_lt hu) fun j h1 h2 => by
      obtain ⟨xs, p, lv, e1, e2, e3, e4⟩ := hv.at' j vs.toArray[j] (by simp)
      obtain ⟨ys, q, lu, f1, f2, f3, f4⟩ := hw.at' j us.toArray[j] (by simp)
      rw [e1] at f1
      obtain rfl := Option.some.inj f1
      rw [e2, f2]
      by_cases hpq : p = q
      · subst hpq; exact SeqAt.EqAt.same _
      · exact SeqAt.EqAt.of_refs hpq (rc_strs hu e3 f3 e4 f4)
    rwa [all_true] at this
  exact PySem.EqBoolInt.of_rc this h
end
/-! ## MLawT -/
section
variable {prog : Program} {w : World} {A : Around} {E : Value → Shared → Prop} {s s₀ : Shared} {g : Heap} {L : Addr} {m : Str → Option Value} {news pre post : List (Addr × Obj)} {env : Env} {mg mb : Str → Option Value}
theorem x_tryE {body orelse rest : List Stmt} {h₀ : ExceptHandler} {hs : List ExceptHandler} {pos : Pos} {Q : Flow → Shared → Prop}
    (h : wpAny (model prog w) A (execs body env) (fun f s₁ => match f with | .next => wpAny (model prog w) A (execs orelse env) (Seq (model prog w) A rest env Q E) E s₁ | f => Seq (model prog w) A rest env Q E f s₁)
      (fun e s₁ => wpAny (model prog w) A (noteFrame e env) (fun _ s₂ => wpAny (model prog w) A (setFlight e none) (fun _ s₃ => wpAny (model prog w) A (handleBy e env (h₀ :: hs)) (Seq (model prog w) A rest env Q E) E s₃) E s₂) E s₁) s) :
    wpAny (model prog w) A (execs (.Try body (h₀ :: hs) orelse [] pos :: rest) env) Q E s :=
  x_cons (wpAny_Try_except (wpAny_mono h (fun f s' hf => by cases f <;> exact hf) fun _ _ x => x))
theorem caught {B : Heap} {e : Addr} {t : Value} {b₀ : Stmt} {suite : List Stmt} {np pos : Pos} {rest : List ExceptHandler} {Q : Flow → Shared → Prop} (hfr : A.frames = some [env]) (hf : env.frame = some L)
    (hfl : Heap.FlyingW B [env] e (.type "RuntimeError") t s.heap) (Iat : ∀ h', B.StaysIn h' → s.heap.UpToSlots h' → At g L m news s₀ { s with heap := h' }) (G : GF mg mb g)
    (k : ∀ s', At g L m news s₀ s' → wpAny (model prog w) (A.mark (some (.ref e))) (execs (b₀ :: suite) env) Q (fun _ _ => False) s')
    (hk : env.scope.kind = .function := by with_unfolding_all rfl) (hl : env.kindOf "RuntimeError" = some .globalImplicit := by with_unfolding_all rfl) (hg : env.globals = mainGlobals := by with_unfolding_all rfl) (hb : env.builtins = builtinsNs := by with_unfolding_all rfl) :
    wpAny (model prog w) A (noteFrame (.ref e) env) (fun _ s₂ => wpAny (model prog w) A (setFlight (.ref e) none) (fun _ s₃ => wpAny (model prog w) A (handleBy (.ref e) env (.ExceptHandler (some (.Name "RuntimeError" np)) none (b₀ :: suite) pos :: rest)) Q (fun _ _ => False) s₃) (fun _ _ => False) s₂) (fun _ _ => False) s := by
  refine wpAny_looks_onW hfr hf hfl fun h₄ hheld₄ hsm₄ => ?_
  refine wpAny_landsW hheld₄ fun h₅ hheld hsm₅ => ?_
  obtain ⟨ob, hob, hobc⟩ := hheld.there
  have I5 := Iat h₅ hheld.1 (hsm₄.trans hsm₅)
  refine wpAny_handleBy_builtin (X := "RuntimeError") (T := "RuntimeError") (b := true) PySem.F.isExc_RuntimeError PySem.F.notTuple_RuntimeError (by rw [isSubtype_type]; kernel_rfl) (r_blt I5 G Boot.«RuntimeError» ⟨rfl, ⟨ob, hob, hobc⟩, ?_⟩ (by decide +kernel) (by decide +kernel) hk hl hg hb)
  refine lands_againW hheld fun h₆ hfl₆ hsm₆ => ?_
  exact wpAny_passesOwnAt PassesOwnAt.never (k _ (Iat h₆ hfl₆.1 ((hsm₄.trans hsm₅).trans hsm₆)))
theorem At.landed {ls ls' : List Cel} (I : At g L m (inn ls ++ news) s₀ s) (hadr : ls'.map (·.1) = ls.map (·.1)) {h' : Heap} {tk : Nat} (hls : ∀ p ∈ inn ls', h'.get? p.1 = some p.2) (hk : ∀ b o, b ≠ L → b ∉ ls.map (·.1) → s.heap.get? b = some o → h'.get? b = some o) (hns : h'.Ns L m) :
    At g L m (inn ls' ++ news) s₀ { s with heap := h', toks := tk } := by
  have nd := I.nd
  rw [List.map_append, map_ob, List.nodup_append] at nd
  have hin : ∀ p ∈ inn ls', p.1 ∈ ls.map (·.1) := fun p hp => by rw [← hadr, ← map_ob]; exact List.mem_map_of_mem hp
  have hls0 : ∀ a ∈ ls.map (·.1), a ≠ L ∧ g.get? a = none := fun a ha => by
    rw [← map_ob] at ha
    obtain ⟨q, hq, rfl⟩ := List.mem_map.mp ha
    exact (I.N q (List.mem_append_left _ hq)).2
  refine ⟨hns, fun b o e => hk b o (fun h => by rw [h, I.gL] at e; cases e) (fun h => by rw [(hls0 b h).2] at e; cases e) (I.keep b o e), I.gL, fun p hp => ?_, ?_, by have := I.e; rw [this]⟩
  · rcases List.mem_append.mp hp with hp | hp
    · exact ⟨hls p hp, hls0 _ (hin p hp)⟩
    · have h1 := I.N p (List.mem_append_right _ hp)
      exact ⟨hk _ _ h1.2.1 (fun h => nd.2.2 p.1 h p.1 (List.mem_map_of_mem hp) rfl) h1.1, h1.2⟩
  · rw [List.map_append, map_ob, hadr, List.nodup_append]; exact nd
/-- entering a lambda one of whose parameters is a cell -/
theorem enterLC {fa c' : Addr} {name qual cx : Str} {params : Arguments} {body : Expr} {scope : Scope} {pm ctv : Value} {args : List Value} {binds : List (Str × Value)} {P : Value → Shared → Prop} {n : Nat} {oc : Obj} {vs : Array Value} {t : Tok} (R : Room A (n + 1))
    (ho : s.heap.get? fa = some (kla_obj name qual params body scope [] pm c' ctv)) (hoc : s.heap.get? c' = some oc) (hd : oc.data = .fields vs) (hv : vs[1]? = some (.str qual t)) (hlim : s.heap.NoLimit)
    (hbind : bindArgs (kla_fn name qual params body scope [] pm (.ref c') ctv) ⟨args, []⟩ = pure binds)
    (hcf : ∀ c, cellsFrom c scope.names [] = [(cx, c)])
    (hkind : ∀ x ∈ binds, scope.names.lookup x.1 = some .local ∨ (scope.names.lookup x.1 = some .cell ∧ x.1 = cx))
    (h : ∀ A' o s₁, Room A' n → o.data = .cell (bindC (fun x => scope.names.lookup x) binds (fun _ => none) cx) → At s.heap s.heap.objs.size (bindL (fun x => scope.names.lookup x) binds fun _ => none) [(s.heap.objs.size + 1, o)] s s₁ →
      let KP : Value → Shared → Prop := fun v s' => Keeps s s' ∧ P v s'
      let EV : Env := envX qual scope s.heap.objs.size fa (.ref c') [(cx, s.heap.objs.size + 1)]
      wpAny (model prog w) A' (eval body EV) KP (fun _ _ => False) s₁)
    (hco : scope.isCoroutine = false := by with_unfolding_all rfl) (hgen : scope.isGenerator = false := by with_unfolding_all rfl) (hk : scope.kind = .function := by with_unfolding_all rfl) :
    wpAny (model prog w) A (call (.ref fa) args) (fun v s' => Keeps s s' ∧ P v s') E s := by
  refine wpAny_call (kla_callFunE R.depth ho rfl hco hgen rfl ⟨c', oc, vs, t, rfl, hoc, hd, hv⟩ ?_)
  rw [hbind]
  refine wpAny_pure (wpAny_newFunctionEnv_cells hk (fun x hx => ?_) fun env he s₁ X => ?_)
  · rcases hkind x hx with h1 | ⟨h1, h2⟩
    · exact .inl h1
    · refine .inr ⟨h1, ?_⟩
      show ((cellsFrom (s.heap.objs.size + 1) scope.names []).lookup x.1).isSome = true
      rw [hcf, h2]; simp [List.lookup]
  · subst he
    rw [show (newEnv scope s.heap.objs.size mainGlobals (cellsFrom (s.heap.objs.size + 1) scope.names []) (qual ++ ".<locals>.") (some fa) (.ref c') none builtinsNs) = envX qual scope s.heap.objs.size fa (.ref c') [(cx, s.heap.objs.size + 1)] from by rw [hcf]; rfl] at X ⊢
    refine ⟨hlim.keeps X.toInCall.keep, ?_⟩
    obtain ⟨o, ho', I⟩ := led1 X
    exact kla_codeExpr (wpAny_mono (h _ o s₁ R.deeper ho' I) (fun v s' x => x) fun _ _ x => x.elim)
end
/-! ## MPlainG -/
noncomputable def AllNm (l : List (List Str)) : Prop := ∀ x ∈ l, ∀ n ∈ x, Nm n
theorem AllNm.sub {l l' : List (List Str)} (h : AllNm l) (hs : ∀ x ∈ l', x ∈ l) : AllNm l' := fun x hx => h x (hs x hx)
theorem any_path {l : List (List Str)} (hl : AllNm l) {x : List Str} (hx : ∀ n ∈ x, Nm n) : ((l.map pathS).any (· == pathS x)) = l.any (· == x) := by
  rw [Bool.eq_iff_iff, List.any_eq_true, List.any_eq_true]
  constructor
  · rintro ⟨z, hz, e⟩
    rw [beq_iff_eq] at e; subst e
    exact ⟨x, (path_mem hl hx).mp hz, by simp⟩
  · rintro ⟨z, hz, e⟩
    rw [beq_iff_eq] at e; subst e
    exact ⟨pathS z, List.mem_map_of_mem hz, by simp⟩
theorem blk_path {T : List (List (List Str))} (hT : ∀ l ∈ T, AllNm l) {x : List Str} (hx : ∀ n ∈ x, Nm n) : blocked (T.map (List.map pathS)) (pathS x) = gBlk T x := by
  unfold blocked gBlk
  rw [List.any_map]
  rw [Bool.eq_iff_iff, List.any_eq_true, List.any_eq_true]
  refine exists_congr fun l => and_congr_right fun hl => ?_
  show ((l.map pathS).tail.any (· == pathS x)) = true ↔ _
  rw [← List.map_tail, any_path ((hT l hl).sub fun y hy => List.mem_of_mem_tail hy) hx]
  simp only [List.any_eq_true, beq_iff_eq]
theorem cand_path {T : List (List (List Str))} (hT : ∀ l ∈ T, AllNm l) : c3cand (T.map (List.map pathS)) = (gCand T).map pathS := by
  unfold c3cand gCand
  have hb : ∀ x, (∀ n ∈ x, Nm n) → blocked (T.map (List.map pathS)) (pathS x) = gBlk T x := fun x hx => blk_path hT hx
  generalize blocked (T.map (List.map pathS)) = B at hb ⊢
  generalize gBlk T = G at hb ⊢
  induction T with
  | nil => rfl
  | cons l T ih =>
    have ih := ih fun k hk => hT k (.tail _ hk)
    cases l with
    | nil => simpa using ih
    | cons x l =>
      have hx := hb x (hT _ (.head _) x (.head _))
      rw [List.map_cons, List.findSome?_cons, List.findSome?_cons, List.map_cons]
      simp only [hx]
      cases G x with
      | true => simpa using ih
      | false => rfl
theorem del_path {c : List Str} (hc : ∀ n ∈ c, Nm n) {l : List (List Str)} (hl : AllNm l) : c3del (pathS c) (l.map pathS) = (gDel c l).map pathS := by
  unfold c3del gDel
  cases l with
  | nil => rfl
  | cons x l =>
    rw [List.map_cons, List.head?_cons, List.head?_cons]
    by_cases h : x = c
    · subst h; rw [if_pos rfl, if_pos rfl]; rfl
    · rw [if_neg (fun e => h (Option.some.inj e)), if_neg (fun e => h (pathS_inj (hl x (.head _)) hc (Option.some.inj e)))]; rfl
theorem c3_of_g : ∀ (k : Nat) (S : List (List (List Str))) (r : List (List Str)), (∀ l ∈ S, AllNm l) →
    c3run k (S.map (List.map pathS)) (r.map pathS) = ((gRun k S r).1.map pathS, (gRun k S r).2.1, (gRun k S r).2.2.map (List.map pathS))
  | 0, S, r, _ => rfl
  | k + 1, S, r, hS => by
    have he : (S.map (List.map pathS)).all List.isEmpty = S.all List.isEmpty := by
      rw [List.all_map]; congr 1; funext l; cases l <;> rfl
    have hf : (S.map (List.map pathS)).filter (fun l => !l.isEmpty) = (S.filter fun l => !l.isEmpty).map (List.map pathS) := by
      rw [List.filter_map]; congr 2; funext l; cases l <;> rfl
    have hF : ∀ l ∈ S.filter (fun l => !l.isEmpty), AllNm l := fun l hl => hS l (List.mem_filter.mp hl).1
    unfold c3run gRun
    rw [he, hf, cand_path hF]
    by_cases h : S.all List.isEmpty = true
    · rw [if_pos h, if_pos h]
    · rw [if_neg h, if_neg h]
      cases hc : gCand (S.filter fun l => !l.isEmpty) with
      | none => rfl
      | some c =>
        obtain ⟨⟨l, hl, hh⟩, _⟩ := gCand_some hc
        have hcn : ∀ n ∈ c, Nm n := hF l hl c (List.mem_of_mem_head? (Option.mem_def.mpr hh))
        have e1 : (S.map (List.map pathS)).map (c3del (pathS c)) = (S.map (gDel c)).map (List.map pathS) := by
          rw [List.map_map, List.map_map]
          exact List.map_congr_left fun l hl => del_path hcn (hS l hl)
        have e2 : r.map pathS ++ [pathS c] = (r ++ [c]).map pathS := by rw [List.map_append]; rfl
        show c3run k ((S.map (List.map pathS)).map (c3del (pathS c))) (r.map pathS ++ [pathS c]) = _
        rw [e1, e2, c3_of_g k (S.map (gDel c)) (r ++ [c]) fun l hl => by
          obtain ⟨l', hl', rfl⟩ := List.mem_map.mp hl
          refine (hS l' hl').sub fun y hy => ?_
          unfold gDel at hy
          split at hy
          · exact List.mem_of_mem_tail hy
          · exact hy]
noncomputable def wayS (p : List Str × Bool) : List Str := (wayOf p).map pathS
theorem way_nm {ps : List (List Str × Bool)} (hnm : ∀ p ∈ ps, ∀ n ∈ p.1, Nm n) : ∀ l ∈ ps.map wayOf, AllNm l := fun l hl => by
  obtain ⟨p, hp, rfl⟩ := List.mem_map.mp hl
  exact fun x hx n hn => hnm p hp n ((mem_way.mp hx).subset hn)
theorem wayS_map (ps : List (List Str × Bool)) : ps.map wayS = (ps.map wayOf).map (List.map pathS) := by rw [List.map_map]; rfl
theorem wayS_len (ps : List (List Str × Bool)) : (ps.map wayS).map List.length = (ps.map wayOf).map List.length := by
  rw [List.map_map, List.map_map]; exact List.map_congr_left fun p _ => List.length_map _
theorem clash_iff {ps : List (List Str × Bool)} : clashF ps = true ↔ ∃ n m z, (n, true) ∈ ps ∧ (m, false) ∈ ps ∧ z ≠ [] ∧ z <+: n ∧ z <+: m := by
  have hf : ∀ b x, x ∈ firsts b ps ↔ ∃ t, (x :: t, b) ∈ ps := fun b x => by
    unfold firsts
    rw [List.mem_filterMap]
    constructor
    · rintro ⟨⟨n, b'⟩, hp, e⟩
      split at e
      · rename_i hb
        cases n with
        | nil => cases e
        | cons y n => obtain rfl := Option.some.inj e; exact ⟨n, by rw [← (show b' = b from hb)]; exact hp⟩
      · cases e
    · rintro ⟨t, ht⟩
      exact ⟨_, ht, by simp⟩
  unfold clashF
  rw [List.any_eq_true]
  constructor
  · rintro ⟨x, hx, h⟩
    obtain ⟨y, hy, e⟩ := List.any_eq_true.mp h
    rw [beq_iff_eq] at e; subst e
    obtain ⟨t, ht⟩ := (hf false _).mp hx
    obtain ⟨u, hu⟩ := (hf true _).mp hy
    exact ⟨_, _, [y], hu, ht, by simp, ⟨u, rfl⟩, ⟨t, rfl⟩⟩
  · rintro ⟨n, m, z, hn, hm, hz, ⟨t1, rfl⟩, ⟨t2, rfl⟩⟩
    obtain ⟨x, z, rfl⟩ := List.exists_cons_of_ne_nil hz
    exact ⟨x, (hf false x).mpr ⟨z ++ t2, hm⟩, List.any_eq_true.mpr ⟨x, (hf true x).mpr ⟨z ++ t1, hn⟩, by simp⟩⟩
theorem c3_ok {ps : List (List Str × Bool)} (hnm : ∀ p ∈ ps, ∀ n ∈ p.1, Nm n) (hc : clashF ps = false) :
    c3run (((ps.map wayS).map List.length).sum + 1) (ps.map wayS) [] = ((orderOf ps).map pathS, true, ps.map fun _ => []) := by
  have := run_ok (W := ps) fun n m hn hm x h1 h2 => Classical.byContradiction fun hx => by
    have := clash_iff.mpr ⟨n, m, x, hn, hm, hx, h1, h2⟩
    rw [hc] at this; cases this
  rw [wayS_len, wayS_map, show ([] : List Str) = ([] : List (List Str)).map pathS from rfl, c3_of_g _ _ _ (way_nm hnm), this]
  simp
noncomputable def downsS (ps : List (List Str × Bool)) : List (List Str) := (downsOf ps).map fun n => (upsL n).reverse.map pathS
noncomputable def leftS (ps : List (List Str × Bool)) (p : List Str × Bool) : List Str := (wayS p).filter fun f => p.2 || (downsS ps).any fun d => d.any (· == f)
theorem c3_bad {ps : List (List Str × Bool)} (hnm : ∀ p ∈ ps, ∀ n ∈ p.1, Nm n) (hc : clashF ps = true) :
    ∃ r, c3run (((ps.map wayS).map List.length).sum + 1) (ps.map wayS) [] = (r, false, ps.map (leftS ps)) := by
  obtain ⟨n, m, z, hn, hm, hz, h1, h2⟩ := clash_iff.mp hc
  obtain ⟨r, hr⟩ := run_bad hn hm hz h1 h2
  refine ⟨r.map pathS, ?_⟩
  rw [wayS_len, wayS_map, show ([] : List Str) = ([] : List (List Str)).map pathS from rfl, c3_of_g _ _ _ (way_nm hnm), hr]
  simp only [List.map_map]
  congr 2
  refine List.map_congr_left fun p hp => ?_
  show ((wayOf p).filter (onDown ps)).map pathS = ((wayOf p).map pathS).filter _
  rw [List.filter_map]
  congr 1
  refine List.filter_congr fun x hx => ?_
  have hxn : ∀ n ∈ x, Nm n := fun n hn => hnm p hp n ((mem_way.mp hx).subset hn)
  show onDown ps x = (p.2 || (downsS ps).any fun d => d.any (· == pathS x))
  have hd : ((downsS ps).any fun d => d.any (· == pathS x)) = onDown ps x := by
    unfold downsS onDown
    rw [List.any_map, Bool.eq_iff_iff, List.any_eq_true, List.any_eq_true]
    refine exists_congr fun n => and_congr_right fun hn' => ?_
    have hnn : AllNm (upsL n).reverse := fun y hy k hk => by
      obtain ⟨q, hq, e⟩ := List.mem_map.mp hn'
      obtain ⟨hq1, _⟩ := List.mem_filter.mp hq
      exact hnm q hq1 k (e ▸ (mem_ups.mp (List.mem_reverse.mp hy)).subset hk)
    show (((upsL n).reverse.map pathS).any (· == pathS x)) = true ↔ _
    rw [any_path hnn hxn, List.any_eq_true, List.isPrefixOf_iff_prefix]
    constructor
    · rintro ⟨y, hy, e⟩
      rw [beq_iff_eq] at e; subst e
      exact mem_ups.mp (List.mem_reverse.mp hy)
    · intro h
      exact ⟨x, List.mem_reverse.mpr (mem_ups.mpr h), by simp⟩
  rw [hd]
  cases hb : p.2 with
  | false => rfl
  | true =>
    obtain ⟨n, b⟩ := p
    obtain rfl : b = true := hb
    simp [onDown_iff.mpr ⟨n, hp, mem_way.mp hx⟩]
/-! ## MPlainH -/
theorem cpre_ne {a b : List Str} : cpre a b ≠ [] ↔ ∃ z, z ≠ [] ∧ z <+: a ∧ z <+: b := by
  constructor
  · intro h
    cases a with
    | nil => exact absurd (by unfold cpre; rfl) h
    | cons x a =>
      cases b with
      | nil => exact absurd (by unfold cpre; rfl) h
      | cons y b =>
        unfold cpre at h
        by_cases e : x = y
        · subst e; exact ⟨[x], by simp, ⟨a, rfl⟩, ⟨b, rfl⟩⟩
        · rw [if_neg e] at h; exact absurd rfl h
  · rintro ⟨z, hz, ⟨t1, rfl⟩, ⟨t2, rfl⟩⟩
    obtain ⟨x, z, rfl⟩ := List.exists_cons_of_ne_nil hz
    show cpre (x :: (z ++ t1)) (x :: (z ++ t2)) ≠ []
    unfold cpre; rw [if_pos rfl]; simp
theorem mem_downsOf {W : List (List Str × Bool)} {m : List Str} : m ∈ downsOf W ↔ (m, true) ∈ W := by
  unfold downsOf
  rw [List.mem_map]
  constructor
  · rintro ⟨⟨a, b⟩, hp, rfl⟩
    obtain ⟨h1, h2⟩ := List.mem_filter.mp hp
    cases b
    · cases h2
    · exact h1
  · intro h; exact ⟨_, List.mem_filter.mpr ⟨h, rfl⟩, rfl⟩
noncomputable def meetF (us ds : List (List Str)) : Bool := us.any fun a => ds.any fun b => !(cpre a b).isEmpty
theorem meet_clash (ps : List (List Str × Bool)) : meetF (upsOf ps) (downsOf ps) = clashF ps := by
  rw [Bool.eq_iff_iff, clash_iff]
  unfold meetF
  rw [List.any_eq_true]
  constructor
  · rintro ⟨a, ha, h⟩
    obtain ⟨b, hb, h⟩ := List.any_eq_true.mp h
    have : cpre a b ≠ [] := by simpa using h
    obtain ⟨z, h1, h2, h3⟩ := cpre_ne.mp this
    exact ⟨b, a, z, mem_downsOf.mp hb, mem_upsOf.mp ha, h1, h3, h2⟩
  · rintro ⟨n, m, z, hn, hm, hz, h1, h2⟩
    refine ⟨m, mem_upsOf.mpr hm, List.any_eq_true.mpr ⟨n, mem_downsOf.mpr hn, ?_⟩⟩
    have := cpre_ne.mpr ⟨z, hz, h2, h1⟩
    simpa using this
theorem ups_nm {n : List Str} (hn : ∀ x ∈ n, Nm x) : AllNm (upsL n) := fun x hx k hk => hn k ((mem_ups.mp hx).subset hk)
theorem mup_path {O : List (List Str)} {n : List Str} (hO : AllNm O) (hn : ∀ x ∈ n, Nm x) :
    (mUp O n).map pathS = if (O.map pathS).any (· == pathS n) then O.map pathS else ((O.map pathS).filter fun f => !(((upsL n).map pathS).any (· == f))) ++ (upsL n).map pathS := by
  rw [any_path hO hn]
  unfold mUp
  by_cases h : n ∈ O
  · rw [if_pos h, if_pos (List.any_eq_true.mpr ⟨n, h, by simp⟩)]
  · rw [if_neg h, if_neg (fun h' => h (by obtain ⟨z, hz, e⟩ := List.any_eq_true.mp h'; rw [beq_iff_eq] at e; exact e ▸ hz)), List.map_append, List.filter_map]
    congr 2
    refine List.filter_congr fun x hx => ?_
    show decide (x ∉ upsL n) = !(((upsL n).map pathS).any (· == pathS x))
    rw [any_path (ups_nm hn) (hO x hx), decide_not]
    congr 1
    rw [Bool.eq_iff_iff, decide_eq_true_iff, List.any_eq_true]
    exact ⟨fun h => ⟨x, h, by simp⟩, fun ⟨z, hz, e⟩ => by rw [beq_iff_eq] at e; exact e ▸ hz⟩
theorem mdown_path {O : List (List Str)} {n : List Str} (hO : AllNm O) (hn : ∀ x ∈ n, Nm x) :
    (mDown O n).map pathS = O.map pathS ++ ((upsL n).reverse.map pathS).filter fun f => !((O.map pathS).any (· == f)) := by
  unfold mDown
  rw [List.map_append, List.filter_map]
  congr 2
  refine List.filter_congr fun x hx => ?_
  have hxn := ups_nm hn x (List.mem_reverse.mp hx)
  show decide (x ∉ O) = !((O.map pathS).any (· == pathS x))
  rw [any_path hO hxn, decide_not]
  congr 1
  rw [Bool.eq_iff_iff, decide_eq_true_iff, List.any_eq_true]
  exact ⟨fun h => ⟨x, h, by simp⟩, fun ⟨z, hz, e⟩ => by rw [beq_iff_eq] at e; exact e ▸ hz⟩
theorem mUp_nm {O : List (List Str)} {n : List Str} (hO : AllNm O) (hn : ∀ x ∈ n, Nm x) : AllNm (mUp O n) := by
  unfold mUp; split
  · exact hO
  · intro x hx
    rcases List.mem_append.mp hx with h | h
    · exact hO x (List.mem_filter.mp h).1
    · exact ups_nm hn x h
theorem mDown_mem' {O : List (List Str)} {n x : List Str} (h : x ∈ mDown O n) : x ∈ O ∨ x <+: n := by
  unfold mDown at h
  rcases List.mem_append.mp h with h | h
  · exact .inl h
  · exact .inr (mem_ups.mp (List.mem_reverse.mp (List.mem_filter.mp h).1))
theorem mDown_nm {O : List (List Str)} {n : List Str} (hO : AllNm O) (hn : ∀ x ∈ n, Nm x) : AllNm (mDown O n) := fun x hx => by
  rcases mDown_mem' hx with h | h
  · exact hO x h
  · exact fun k hk => hn k (h.subset hk)
theorem fold_nmS {f : List (List Str) → List Str → List (List Str)} (hf : ∀ O n, AllNm O → (∀ x ∈ n, Nm x) → AllNm (f O n)) : ∀ (U : List (List Str)) (O : List (List Str)), AllNm U → AllNm O → AllNm (U.foldl f O)
  | [], O, _, hO => hO
  | n :: U, O, hU, hO => fold_nmS hf U (f O n) (fun x hx => hU x (.tail _ hx)) (hf O n hO (hU n (.head _)))
theorem nodup_len {α : Type} [DecidableEq α] : ∀ {l C : List α}, l.Nodup → (∀ x ∈ l, x ∈ C) → l.length ≤ C.length
  | [], C, _, _ => Nat.zero_le _
  | x :: l, C, hn, hs => by
    rw [List.nodup_cons] at hn
    have hx := hs x (.head _)
    have := nodup_len (l := l) (C := C.erase x) hn.2 fun y hy => (List.mem_erase_of_ne (fun e => hn.1 (by rw [← e]; exact hy))).mpr (hs y (.tail _ hy))
    rw [List.length_erase_of_mem hx] at this
    have := List.length_pos_of_mem hx
    rw [List.length_cons]; omega
/-! ## MPlainI -/
/-- closed under prefixes -/
noncomputable def Clo (C : List (List Str)) : Prop := ∀ x ∈ C, ∀ y, y <+: x → y ∈ C
theorem clo_step {C : List (List Str)} {acc : List Str} (hC : Clo C) (ha : acc ∈ C) (c : Str) : ∃ C', (∀ x ∈ C, x ∈ C') ∧ Clo C' ∧ nmStep acc c ∈ C' ∧ C'.length ≤ C.length + 1 := by
  unfold nmStep
  split
  · exact ⟨C, fun _ h => h, hC, hC acc ha _ (List.dropLast_prefix acc), Nat.le_succ _⟩
  · split
    · refine ⟨C ++ [acc ++ [c]], fun x hx => List.mem_append_left _ hx, fun x hx y hy => ?_, by simp, by simp⟩
      rcases List.mem_append.mp hx with hx | hx
      · exact List.mem_append_left _ (hC x hx y hy)
      · rw [List.mem_singleton.mp hx] at hy
        rcases List.prefix_concat_iff.mp hy with e | h
        · rw [e]; simp
        · exact List.mem_append_left _ (hC acc ha y h)
    · exact ⟨C, fun _ h => h, hC, ha, Nat.le_succ _⟩
theorem clo_fold : ∀ (qs : List Str) {C : List (List Str)} {acc : List Str}, Clo C → acc ∈ C → ∃ C', (∀ x ∈ C, x ∈ C') ∧ Clo C' ∧ qs.foldl nmStep acc ∈ C' ∧ C'.length ≤ C.length + qs.length
  | [], C, acc, hC, ha => ⟨C, fun _ h => h, hC, ha, Nat.le_refl _⟩
  | c :: qs, C, acc, hC, ha => by
    obtain ⟨C1, h1, h2, h3, h4⟩ := clo_step hC ha c
    obtain ⟨C2, k1, k2, k3, k4⟩ := clo_fold qs h2 h3
    exact ⟨C2, fun x hx => k1 x (h1 x hx), k2, k3, by simp; omega⟩
theorem clo_places : ∀ (ds : List Nat) {C : List (List Str)} {ns : List Str}, Clo C → ns ∈ C → ∃ C', (∀ x ∈ C, x ∈ C') ∧ Clo C' ∧ (∀ p ∈ placesF ds ns, p.1 ∈ C') ∧ C'.length ≤ C.length + 4 * ds.length
  | [], C, ns, hC, hn => ⟨C, fun _ h => h, hC, (fun p h => nomatch h), by simp⟩
  | d :: ds, C, ns, hC, hn => by
    have hb : (if d / 5 % 2 = 0 then [] else ns) ∈ C := by
      split
      · exact hC ns hn [] List.nil_prefix
      · exact hn
    obtain ⟨C1, h1, h2, h3, h4⟩ := clo_fold (digs 4 (d / 10 % 216)) hC hb
    have h5 := digs_len 4 (d / 10 % 216)
    obtain ⟨C2, k1, k2, k3, k4⟩ := clo_places ds (ns := dstep ns d) h2 h3
    refine ⟨C2, fun x hx => k1 x (h1 x hx), k2, fun p hp => ?_, by simp; omega⟩
    rcases List.mem_cons.mp hp with rfl | hp
    · exact k1 _ h3
    · exact k3 p hp
/-- all that is wanted of the places of a script -/
structure PsOk (ps : List (List Str × Bool)) : Prop where
  nm : ∀ p ∈ ps, ∀ n ∈ p.1, Nm n
  len : ps.length ≤ 10
  nl : ∀ p ∈ ps, p.1.length ≤ 40
  two : 2 ≤ ((upsOf ps).foldl mUp []).length
  few : ((upsOf ps).foldl mUp []).length < 64
theorem places_ok (ns : List Int) : PsOk (placesF (drawsF ns) []) := by
  have hdl : (drawsF ns).length ≤ 10 := by unfold drawsF; simp; omega
  refine ⟨placesF_nm _ (fun n h => nomatch h), by rw [placesF_len]; exact hdl, fun p hp => ?_, ?_, ?_⟩
  · have := placesF_names (drawsF ns) p hp; simp at this; omega
  · have hmem := mUps_mem (upsOf (placesF (drawsF ns) []))
    have h0 : (dstep [] 130, false) ∈ placesF (drawsF ns) [] := by
      unfold drawsF
      show (dstep [] 130, false) ∈ (dstep [] 130, 130 % 5 == 4) :: _
      exact .head _
    have hne : dstep [] 130 ≠ [] := by decide +kernel
    have h1 : dstep [] 130 ∈ (upsOf (placesF (drawsF ns) [])).foldl mUp [] := (hmem _).mpr ⟨_, mem_upsOf.mpr h0, List.prefix_refl _⟩
    have h2 : [] ∈ (upsOf (placesF (drawsF ns) [])).foldl mUp [] := (hmem _).mpr ⟨_, mem_upsOf.mpr h0, List.nil_prefix⟩
    generalize (upsOf (placesF (drawsF ns) [])).foldl mUp [] = O at h1 h2
    match O, h1, h2 with
    | [], h1, _ => cases h1
    | [x], h1, h2 => rw [List.mem_singleton] at h1 h2; exact absurd (h1.trans h2.symm) hne
    | x :: y :: O, _, _ => simp
  · obtain ⟨C, h1, h2, h3, h4⟩ := clo_places (drawsF ns) (C := [[]]) (ns := []) (fun x hx y hy => by
      rw [List.mem_singleton] at hx; subst hx
      rw [List.prefix_nil.mp hy]; simp) (by simp)
    have := nodup_len (mUps_good (upsOf (placesF (drawsF ns) []))).2 (C := C) fun x hx => by
      obtain ⟨m, hm, hp⟩ := (mUps_mem _ x).mp hx
      exact h2 m (h3 _ (mem_upsOf.mp hm)) x hp
    simp at h4
    omega
/-! ## MLaw1 -/
noncomputable abbrev lawEnv (pm : Value) (L fn : Addr) : Env := callEnvC (fdOf 28 183 .none pm) L fn
/-- the law's end -/
noncomputable def LawPost (g : Heap) (s₀ : Shared) (f : Flow) (s' : Shared) : Prop :=
  f = .ret (.bool true) ∧ (∃ h' tk, s' = { s₀ with heap := h', toks := tk }) ∧ (∀ b o, g.get? b = some o → s'.heap.get? b = some o) ∧ (∃ ts, s'.heap.get? 174 = some (tabObj ts)) ∧ ∃ ts, s'.heap.get? 181 = some (tabObj ts)
theorem LawPost.mono {g g' : Heap} {s₀ : Shared} {f : Flow} {s' : Shared} (hg : ∀ b o, g.get? b = some o → g'.get? b = some o) (x : LawPost g' s₀ f s') : LawPost g s₀ f s' :=
  let ⟨h1, h2, h3, h4⟩ := x; ⟨h1, h2, fun b o e => h3 b o (hg b o e), h4⟩

noncomputable def wayRow (h : Heap) (v : Value) (p : List Str × Bool) : Prop := ∃ ta la lv, v = .ref ta ∧ IsTup h ta [Value.ref la, .bool p.2].toArray ∧ h.IsList la lv.toArray ∧ StrsAre lv (wayS p)
structure WaysAt (h : Heap) (vs : List Value) (ps : List (List Str × Bool)) : Prop where
  len : vs.length = ps.length
  at' : ∀ (i : Nat) (v : Value), vs[i]? = some v → ∃ p, ps[i]? = some p ∧ wayRow h v p
theorem WaysAt.keeps {h h' : Heap} {vs : List Value} {ps : List (List Str × Bool)} (x : WaysAt h vs ps) (k : ∀ b o, h.get? b = some o → h'.get? b = some o) : WaysAt h' vs ps :=
  ⟨x.len, fun i v e => let ⟨p, h1, ta, la, lv, h2, h3, h4, h5⟩ := x.at' i v e; ⟨p, h1, ta, la, lv, h2, isTup_keeps h3 k, isl_keeps h4 k, h5⟩⟩
theorem WaysAt.ref {h : Heap} {vs : List Value} {ps : List (List Str × Bool)} (x : WaysAt h vs ps) : ∀ (i : Nat) (v : Value), vs.toArray[i]? = some v → ∃ a, v = .ref a := fun i v e => by
  obtain ⟨p, _, ta, la, lv, rfl, _⟩ := x.at' i v (by simpa using e)
  exact ⟨ta, rfl⟩
theorem WaysAt.snoc {h : Heap} {vs : List Value} {ps : List (List Str × Bool)} {v : Value} {p : List Str × Bool} (x : WaysAt h vs ps) (hv : wayRow h v p) : WaysAt h (vs ++ [v]) (ps ++ [p]) := by
  refine ⟨by simp [x.len], fun i u hu => ?_⟩
  rcases Nat.lt_or_ge i vs.length with hi | hi
  · rw [List.getElem?_append_left hi] at hu
    obtain ⟨q, h1, h2⟩ := x.at' i u hu
    exact ⟨q, by rw [List.getElem?_append_left (by rw [← x.len]; exact hi)]; exact h1, h2⟩
  · rw [List.getElem?_append_right hi] at hu
    have h0 : i - vs.length = 0 := by
      cases hj : i - vs.length with
      | zero => rfl
      | succ j => rw [hj] at hu; simp at hu
    rw [h0] at hu
    obtain rfl : v = u := Option.some.inj hu
    exact ⟨p, by rw [List.getElem?_append_right (by rw [← x.len]; exact hi), ← x.len, h0]; rfl, hv⟩
noncomputable def rowOf (h : Heap) (v : Value) (xs : List Str) : Prop := ∃ a lv, v = .ref a ∧ h.IsList a lv.toArray ∧ StrsAre lv xs
theorem RowsAt.snoc {h : Heap} {vs : List Value} {Ls : List (List Str)} {v : Value} {xs : List Str} (x : RowsAt h vs Ls) (hv : rowOf h v xs) : RowsAt h (vs ++ [v]) (Ls ++ [xs]) := by
  refine ⟨by simp [x.len], fun i u hu => ?_⟩
  rcases Nat.lt_or_ge i vs.length with hi | hi
  · rw [List.getElem?_append_left hi] at hu
    obtain ⟨q, a, lv, h1, h2⟩ := x.at' i u hu
    exact ⟨q, a, lv, by rw [List.getElem?_append_left (by rw [← x.len]; exact hi)]; exact h1, h2⟩
  · rw [List.getElem?_append_right hi] at hu
    have h0 : i - vs.length = 0 := by
      cases hj : i - vs.length with
      | zero => rfl
      | succ j => rw [hj] at hu; simp at hu
    rw [h0] at hu
    obtain rfl : v = u := Option.some.inj hu
    obtain ⟨a, lv, h1, h2, h3⟩ := hv
    exact ⟨xs, a, lv, by rw [List.getElem?_append_right (by rw [← x.len]; exact hi), ← x.len, h0]; rfl, h1, h2, h3⟩
theorem RowsAt.nil (h : Heap) : RowsAt h [] [] := ⟨rfl, fun i v e => by simp at e⟩
theorem WaysAt.nil (h : Heap) : WaysAt h [] [] := ⟨rfl, fun i v e => by simp at e⟩
theorem strs_reverse {vs : List Value} {xs : List Str} (h : StrsAre vs xs) : StrsAre vs.reverse xs.reverse := by
  induction h with
  | nil => exact .nil
  | cons x t _ ih => rw [List.reverse_cons, List.reverse_cons]; exact ih.append' (.cons _ _ .nil)
noncomputable def InLed (rest : List (Addr × Obj)) (P : Heap → Prop) : Prop := ∀ h : Heap, (∀ q ∈ rest, h.get? q.1 = some q.2) → P h
theorem InLed.mono {rest rest' : List (Addr × Obj)} {P Q : Heap → Prop} (x : InLed rest P) (hs : ∀ q ∈ rest, q ∈ rest') (hq : ∀ h, (∀ q ∈ rest', h.get? q.1 = some q.2) → P h → Q h) : InLed rest' Q := fun h hh => hq h hh (x h fun q hq => hh q (hs q hq))
noncomputable def upsS (ps : List (List Str × Bool)) : List (List Str) := (upsOf ps).map fun n => (upsL n).map pathS
theorem take_step {ps : List (List Str × Bool)} {i : Nat} {p : List Str × Bool} (h : ps[i]? = some p) : ps.take (i + 1) = ps.take i ++ [p] := by rw [List.take_add_one, h]; rfl
theorem upsS_snoc (ps : List (List Str × Bool)) (n : List Str) : upsS (ps ++ [(n, false)]) = upsS ps ++ [wayS (n, false)] := by
  unfold upsS upsOf; simp [wayS, wayOf]
theorem upsS_snoc' (ps : List (List Str × Bool)) (n : List Str) : upsS (ps ++ [(n, true)]) = upsS ps := by
  unfold upsS upsOf; simp
theorem downsS_snoc (ps : List (List Str × Bool)) (n : List Str) : downsS (ps ++ [(n, true)]) = downsS ps ++ [wayS (n, true)] := by
  unfold downsS downsOf; simp [wayS, wayOf]
theorem downsS_snoc' (ps : List (List Str × Bool)) (n : List Str) : downsS (ps ++ [(n, false)]) = downsS ps := by
  unfold downsS downsOf; simp

/-- what stands when the lines are made -/
structure LawCtx (h : Heap) (L : Addr) (ps : List (List Str × Bool)) (fa wa ua da : Addr) : Prop where
  found : ∃ fv : List Value, h.IsList fa fv.toArray ∧ PlsAt h fv ps
  ways : ∃ wv : List Value, h.IsList wa wv.toArray ∧ WaysAt h wv ps
  ups : ∃ uv : List Value, h.IsList ua uv.toArray ∧ RowsAt h uv (upsS ps)
  downs : ∃ dv : List Value, h.IsList da dv.toArray ∧ RowsAt h dv (downsS ps)
  cell : ∃ oc, h.get? (L + 1) = some oc ∧ oc.data = .cell (some (.ref da))
theorem LawCtx.keeps {h h' : Heap} {L : Addr} {ps : List (List Str × Bool)} {fa wa ua da : Addr} (x : LawCtx h L ps fa wa ua da) (k : ∀ b o, h.get? b = some o → h'.get? b = some o) : LawCtx h' L ps fa wa ua da where
  found := let ⟨fv, h1, h2⟩ := x.found; ⟨fv, isl_keeps h1 k, h2.keeps k⟩
  ways := let ⟨fv, h1, h2⟩ := x.ways; ⟨fv, isl_keeps h1 k, h2.keeps k⟩
  ups := let ⟨fv, h1, h2⟩ := x.ups; ⟨fv, isl_keeps h1 k, h2.keeps k⟩
  downs := let ⟨fv, h1, h2⟩ := x.downs; ⟨fv, isl_keeps h1 k, h2.keeps k⟩
  cell := let ⟨oc, h1, h2⟩ := x.cell; ⟨oc, k _ _ h1, h2⟩

section
variable {prog : Program} {w : World} {A : Around} {s s₀ : Shared} {g : Heap} {L : Addr} {m : Str → Option Value} {news : List (Addr × Obj)} {mg mb : Str → Option Value}
theorem At.front3 {a b c : Addr × Obj} {own : List (Addr × Obj)} (I : At g L m (own ++ a :: b :: c :: news) s₀ s) : At g L m (a :: b :: c :: (own ++ news)) s₀ s :=
  I.perm (List.perm_append_comm_assoc [a, b, c] own news)
theorem At.unfront3 {a b c : Addr × Obj} {own : List (Addr × Obj)} (I : At g L m (a :: b :: c :: (own ++ news)) s₀ s) : At g L m (own ++ a :: b :: c :: news) s₀ s :=
  I.perm (List.perm_append_comm_assoc own [a, b, c] news)
theorem PlsAt.keepsSeq {h h' : Heap} {vs : List Value} {ps : List (List Str × Bool)} (x : PlsAt h vs ps) (k : ∀ b o, (∃ vs n, o.data = .seq vs n) → h.get? b = some o → h'.get? b = some o) : PlsAt h' vs ps :=
  ⟨x.len, fun i v e => let ⟨p, h1, ta, t, na, nv, h2, ⟨o, h3, h4, n, h5⟩, ⟨o', h6, h7, n', h8⟩, h9⟩ := x.at' i v e; ⟨p, h1, ta, t, na, nv, h2, ⟨o, k _ _ ⟨_, _, h5⟩ h3, h4, n, h5⟩, ⟨o', k _ _ ⟨_, _, h8⟩ h6, h7, n', h8⟩, h9⟩⟩
theorem At.seqBase (I : At g L m news s₀ s) (hn : ∀ p ∈ news, ∀ vs n, p.2.data ≠ .seq vs n) : ∃ g', At g' L m news s₀ s ∧ (∀ b o, g.get? b = some o → g'.get? b = some o) ∧ ∀ b o, (∃ vs n, o.data = .seq vs n) → s.heap.get? b = some o → g'.get? b = some o := by
  obtain ⟨g', I', h1, h2⟩ := I.freeze (List.Sublist.refl _)
  refine ⟨g', I', h1, fun b o ⟨vs, n, hd⟩ e => h2 b o e (fun hL => ?_) fun hm => ?_⟩
  · obtain ⟨oL, es, ep, hoL, hdL, _⟩ := I.ns
    rw [hL] at e
    obtain rfl := Option.some.inj (e.symm.trans hoL)
    rw [hdL] at hd; cases hd
  · obtain ⟨p, hp, rfl⟩ := List.mem_map.mp hm
    obtain rfl := Option.some.inj (e.symm.trans (I.N p hp).1)
    exact hn p hp vs n hd
theorem At.push3 {a b c : Addr × Obj} (I : At g L m (a :: b :: c :: news) s₀ s) : At g L m (b :: c :: a :: news) s₀ s := I.perm (List.perm_middle (l₁ := [b, c]) (a := a) (l₂ := news))
theorem At.push4 {a b c d : Addr × Obj} (I : At g L m (a :: b :: c :: d :: news) s₀ s) : At g L m (b :: c :: d :: a :: news) s₀ s := I.perm (List.perm_middle (l₁ := [b, c, d]) (a := a) (l₂ := news))
theorem law_1 {sa fnA : Addr} {ocd : Obj} {v₀ : Option Value} {pmv : Value} {sv : List Value} {ns : List Int} {body : List Stmt} (R : Room A 60) (G : GF mg mb g) (hb : fnBody 28 = body)
    (hsl : g.IsList sa sv.toArray) (hsi : IntsAre sv ns) (hns : ns.length ≤ 63) (hoc : ocd.data = .cell v₀)
    (I : At g L (upd (fun _ => none) "script" (.ref sa)) [(L + 1, ocd), (174, tabObj #[]), (181, tabObj #[])] s₀ s)
    (next : ∀ (g' : Heap) (m : Str → Option Value) (fa wa ua da : Addr) (s : Shared) (body : List Stmt), (fnBody 28).drop 5 = body → (∀ b o, g.get? b = some o → g'.get? b = some o) → LawCtx g' L (placesF (drawsF ns) []) fa wa ua da → At g' L m [(174, tabObj #[]), (181, tabObj #[])] s₀ s →
      m "found" = some (.ref fa) → m "ways" = some (.ref wa) → m "ups" = some (.ref ua) → wpAny (model prog w) A (execs body (lawEnv pmv L fnA)) (LawPost g' s₀) (fun _ _ => False) s) :
    wpAny (model prog w) A (execs body (lawEnv pmv L fnA)) (LawPost g s₀) (fun _ _ => False) s := by
  subst hb
  refine x_set ?_
  refine e_fn I G (a := 160) (k := 24) (c := 159) (dV := .none) (by decide +kernel) ?_
  repeat walk_at "go5"
  rename At _ _ _ _ _ _ => I
  refine use I (c_places R.less (G.keeps I.keep) (isl_keeps hsl I.keep) hsi hns) ?_
  rintro v s I ⟨fa, fv, fn, fnw, rfl, hfa, hfnw, hpls⟩
  obtain ⟨g1, I, hg1, hseq⟩ := I.seqBase (fun p hp => by
    simp only [List.mem_cons, List.not_mem_nil, or_false] at hp
    rcases hp with rfl | rfl | rfl
    · intro vs n h; rw [hoc] at h; cases h
    · intro vs n h; cases h
    · intro vs n h; cases h)
  have hpl := (hpls.at' hfnw).keepsSeq hseq
  have hfl := LL.list (hseq fa _ ⟨_, _, rfl⟩ hfa)
  have hok := places_ok ns
  have G1 := G.keeps hg1
  generalize placesF (drawsF ns) [] = ps at hpl hok next
  clear hpls hfa hfnw hseq
  refine SetK.intro I fun s I => ?_
  refine x_set ?_
  walk_at "go5"
  walk_at "go5"
  refine NewK.intro I fun wa s I => ?_
  refine SetK.intro I fun s I => ?_
  refine x_set ?_
  walk_at "go5"
  walk_at "go5"
  refine NewK.intro I fun ua s I => ?_
  refine SetK.intro I fun s I => ?_
  refine x_setc ?_
  walk_at "go5"
  walk_at "go5"
  refine NewK.intro I fun da s I => ?_
  refine SetCK.intro I.pull4 hoc fun oc' s hoc' I => ?_
  obtain ⟨g2, I, hg2, hcell⟩ := I.freeze1
  have G2 := G1.keeps hg2
  have hpl := hpl.keeps hg2
  have hfl := isl_keeps hfl hg2
  have I := (I.pull2).pull3
  have hg02 : ∀ b o, g.get? b = some o → g2.get? b = some o := fun b o e => hg2 _ _ (hg1 _ _ e)
  generalize hM : upd _ _ _ = M0 at I
  have hfound : M0 "found" = some (.ref fa) := by rw [← hM]; walk_at "lk"
  have hways : M0 "ways" = some (.ref wa) := by rw [← hM]; walk_at "lk"
  have hups : M0 "ups" = some (.ref ua) := by rw [← hM]; walk_at "lk"
  clear hM
  refine x_for (fun i m nw => m "found" = some (.ref fa) ∧ m "ways" = some (.ref wa) ∧ m "ups" = some (.ref ua) ∧ ∃ wv k1 uv k2 dv k3 rest, nw = (wa, LL wv k1) :: (ua, LL uv k2) :: (da, LL dv k3) :: (174, tabObj #[]) :: (181, tabObj #[]) :: rest ∧ (wv.length ≤ i ∧ uv.length ≤ i ∧ dv.length ≤ i) ∧
    InLed rest (fun h => WaysAt h wv (ps.take i)) ∧ InLed rest (fun h => RowsAt h uv (upsS (ps.take i))) ∧ InLed rest (fun h => RowsAt h dv (downsS (ps.take i)))) ?_
  intro INV
  repeat walk_at "go5"
  refine src_listT R.h I hfl hpl.ref fun it s I S => ?_
  refine (S _ _ _).loop I ⟨hfound, hways, hups, [], 0, [], 0, [], 0, [], rfl, ⟨Nat.le_refl _, Nat.le_refl _, Nat.le_refl _⟩, fun h _ => WaysAt.nil h, fun h _ => RowsAt.nil h, fun h _ => RowsAt.nil h⟩ ?_ ?_
  · rintro i v own m₁ nw s hi hv ⟨hfound, hways, hups, wv, k1, uv, k2, dv, k3, rest, rfl, ⟨hwl, hul, hdl⟩, hW, hU, hD⟩ I
    intro KK
    obtain ⟨p, hp, ta, t, na, nv, rfl, hta, hna, hnv⟩ := hpl.at' i v (by simpa using hv)
    have hpm := List.mem_of_getElem? hp
    have hpn := hok.nm p hpm
    have hpz := hok.nl p hpm
    have htk := take_step hp
    have hi10 : i < 10 := by have := hok.len; rw [List.size_toArray, hpl.len] at hi; omega
    refine a_tup R.h I (isTup_keeps hta I.keep) fun s I => ?_
    refine a_cons I fun s I => ?_
    refine a_cons I fun s I => ?_
    refine a_cons I fun s I => ?_
    refine a_nil ?_
    generalize hM : upd _ _ _ = M1 at I
    have hfound1 : M1 "found" = some (.ref fa) := by rw [← hM]; walk_at "lk"
    have hways1 : M1 "ways" = some (.ref wa) := by rw [← hM]; walk_at "lk"
    have hups1 : M1 "ups" = some (.ref ua) := by rw [← hM]; walk_at "lk"
    have hplace1 : M1 "place" = some (.str (pathS p.1) t) := by rw [← hM]; walk_at "lk"
    have hfalls1 : M1 "falls" = some (.bool p.2) := by rw [← hM]; walk_at "lk"
    clear hM
    refine x_set ?_
    refine e_fn I G2 (a := 167) (k := 25) (c := 166) (dV := .none) (by decide +kernel) ?_
    repeat walk_at "go5"
    rename At _ _ _ _ _ _ => I
    rename Shared => s5
    have hplen := (path_len hpn).2
    refine wpAny_mono (c_line (s := s5) R.less (G2.keeps I.keep) (by omega)) (fun v s hq => ?_) fun _ _ x => x
    obtain ⟨hK, la, lv, ln, rfl, hla0, hla, hlv⟩ := hq
    rw [line_place hpn] at hlv
    have I := I.front3.add hK hla0 hla
    refine SetK.intro I fun s I => ?_
    generalize hM : upd _ _ _ = M2 at I
    have hfound2 : M2 "found" = some (.ref fa) := by rw [← hM]; walk_at "lk"
    have hways2 : M2 "ways" = some (.ref wa) := by rw [← hM]; walk_at "lk"
    have hups2 : M2 "ups" = some (.ref ua) := by rw [← hM]; walk_at "lk"
    have hline2 : M2 "line" = some (.ref la) := by rw [← hM]; walk_at "lk"
    have hfalls2 : M2 "falls" = some (.bool p.2) := by rw [← hM]; walk_at "lk"
    clear hM
    refine x_ifC (fun s => ∃ lv ln uv' k2 dv' k3, At g2 L M2 ((la, LL lv ln) :: (wa, LL wv k1) :: (ua, LL uv' k2) :: (da, LL dv' k3) :: (own ++ (174, tabObj #[]) :: (181, tabObj #[]) :: rest)) s₀ s ∧ StrsAre lv (wayS p) ∧ (uv'.length ≤ i + 1 ∧ dv'.length ≤ i + 1) ∧
      InLed ((la, LL lv ln) :: rest) (fun h => RowsAt h uv' (upsS (ps.take (i + 1)))) ∧ InLed ((la, LL lv ln) :: rest) (fun h => RowsAt h dv' (downsS (ps.take (i + 1))))) ?_ ?_
    · intro KC
      with_reducible refine t_plain ?_
      repeat walk_at "go5"
      by_cases hfa : p.2 = true
      · refine Br.tt hfa ?_
        repeat walk_at "go5"
        refine gm_reverse (I.get (.head _)) ?_
        repeat walk_at "go5"
        refine q_reverse I (by rw [hlv.length, List.length_map, sizeLine_eq]; have : (upsL p.1).length = p.1.length + 1 := by unfold upsL; simp
                               omega) fun s I => NR.none ?_
        repeat walk_at "go5"
        refine r_cell (I.keep _ _ hcell) hoc' ?_
        refine gm_append (I.get (.tail _ (.tail _ (.tail _ (.head _))))) ?_
        refine cw_m1 ?_
        refine sp_cons ?_
        refine r_loc I ?_
        refine sp_nil ?_
        refine q_append I.pull4 (by rw [sizeLine_eq]; omega) fun k3' s I => ?_
        have I := I.push4
        refine NR.none ?_
        repeat walk_at "go5"
        have hpe : p = (p.1, true) := by rw [← hfa]
        have hlvr : StrsAre lv.reverse (wayS p) := by
          rw [hpe]; show StrsAre _ (((upsL p.1).reverse).map pathS)
          rw [List.map_reverse]; exact strs_reverse hlv
        refine ⟨_, _, uv, k2, _, k3', I, hlvr, ⟨by first | omega | (simp; omega), by first | omega | (simp; omega)⟩, hU.mono (fun q hq => .tail _ hq) fun h hh x => ?_, hD.mono (fun q hq => .tail _ hq) fun h hh x => ?_⟩
        · rw [htk, hpe, upsS_snoc']; exact x
        · rw [htk, hpe, downsS_snoc]
          exact x.snoc ⟨la, _, rfl, LL.list (hh _ (.head _)), by rw [← hpe]; exact hlvr⟩
      · refine Br.ff (by simpa using hfa) ?_
        have hfa' : p.2 = false := by simpa using hfa
        have hpe : p = (p.1, false) := by rw [← hfa']
        repeat walk_at "go5"
        refine gm_append (I.get (.tail _ (.tail _ (.head _)))) ?_
        refine cw_m1 ?_
        refine sp_cons ?_
        refine r_loc I ?_
        refine sp_nil ?_
        refine q_append I.pull3 (by rw [sizeLine_eq]; omega) fun k2' s I => ?_
        have I := I.push3
        refine NR.none ?_
        repeat walk_at "go5"
        have hlvr : StrsAre lv (wayS p) := by
          rw [hpe]; exact hlv
        refine ⟨_, _, _, k2', dv, k3, I, hlvr, ⟨by first | omega | (simp; omega), by first | omega | (simp; omega)⟩, hU.mono (fun q hq => .tail _ hq) fun h hh x => ?_, hD.mono (fun q hq => .tail _ hq) fun h hh x => ?_⟩
        · rw [htk, hpe, upsS_snoc]
          exact x.snoc ⟨la, _, rfl, LL.list (hh _ (.head _)), by rw [← hpe]; exact hlvr⟩
        · rw [htk, hpe, downsS_snoc']; exact x
    · rintro s ⟨lv, ln, uv', k2, dv', k3, I, hlv, ⟨hul, hdl⟩, hU, hD⟩
      repeat walk_at "go5"
      refine gm_append (I.get (.tail _ (.head _))) ?_
      refine cw_m1 ?_
      refine sp_cons ?_
      refine r_tuple ?_
      refine sp_cons ?_
      refine r_loc I ?_
      refine sp_cons ?_
      refine r_loc I ?_
      refine sp_nil ?_
      refine NewK.intro I fun tt s I => ?_
      refine sp_nil ?_
      refine q_append I.pull3 (by rw [sizeLine_eq]; omega) fun k1' s I => ?_
      refine NR.none ?_
      repeat walk_at "go5"
      have I := I.perm (news' := [(wa, _)] ++ ([(ua, _), (da, _)] ++ ([(tt, _), (la, _)] ++ (own ++ ([(174, _), (181, _)] ++ rest))))) ((List.perm_append_comm_assoc _ _ _).append_left [(wa, _)])
      have I := I.perm (news' := [(wa, _), (ua, _), (da, _)] ++ (own ++ ([(tt, _), (la, _)] ++ ([(174, _), (181, _)] ++ rest)))) ((List.perm_append_comm_assoc _ _ _).append_left [(wa, _), (ua, _), (da, _)])
      have I := I.perm (news' := [(wa, _), (ua, _), (da, _)] ++ (own ++ ([(174, _), (181, _)] ++ ([(tt, _), (la, _)] ++ rest)))) (((List.perm_append_comm_assoc _ _ _).append_left own).append_left [(wa, _), (ua, _), (da, _)])
      have I := I.perm (news' := own ++ ([(wa, _), (ua, _), (da, _)] ++ ([(174, _), (181, _)] ++ ([(tt, _), (la, _)] ++ rest)))) (List.perm_append_comm_assoc _ _ _)
      refine ⟨M2, _, I, hfound2, hways2, hups2, _, k1', uv', k2, dv', k3, _, rfl, ⟨by simp; omega, hul, hdl⟩, ?_, hU.mono (fun q hq => ?_) fun h hh x => x, hD.mono (fun q hq => ?_) fun h hh x => x⟩
      · refine hW.mono (fun q hq => .tail _ (.tail _ hq)) fun h hh x => ?_
        rw [htk]
        exact x.snoc ⟨tt, la, lv, rfl, ⟨_, hh _ (.head _), rfl, _, rfl⟩, LL.list (hh _ (.tail _ (.head _))), hlv⟩
      · rcases List.mem_cons.mp hq with rfl | hq
        · exact .tail _ (.head _)
        · exact .tail _ (.tail _ hq)
      · rcases List.mem_cons.mp hq with rfl | hq
        · exact .tail _ (.head _)
        · exact .tail _ (.tail _ hq)
  · rintro m nw s I ⟨hfound, hways, hups, wv, k1, uv, k2, dv, k3, rest, rfl, _, hW, hU, hD⟩
    refine x_nil ?_
    refine sq_next ?_
    obtain ⟨g3, I3, hg3, hn3⟩ := I.freeze (news' := [(174, tabObj #[]), (181, tabObj #[])]) (.cons _ (.cons _ (.cons _ (.cons_cons _ (.cons_cons _ (List.nil_sublist _))))))
    have nd := I.nd
    have hwn : g3.get? wa = some (LL wv k1) := hn3 _ _ (I.get (.head _)) (I.N _ (.head _)).2.1 (by
      simp only [List.map_cons, List.nodup_cons, List.mem_cons, not_or] at nd
      simp only [List.map_cons, List.map_nil, List.mem_cons, List.not_mem_nil, or_false, not_or]
      exact ⟨nd.1.2.2.1, nd.1.2.2.2.1⟩)
    have hun : g3.get? ua = some (LL uv k2) := hn3 _ _ (I.get (.tail _ (.head _))) (I.N _ (.tail _ (.head _))).2.1 (by
      simp only [List.map_cons, List.nodup_cons, List.mem_cons, not_or] at nd
      simp only [List.map_cons, List.map_nil, List.mem_cons, List.not_mem_nil, or_false, not_or]
      exact ⟨nd.2.1.2.1, nd.2.1.2.2.1⟩)
    have hdn : g3.get? da = some (LL dv k3) := hn3 _ _ (I.get (.tail _ (.tail _ (.head _)))) (I.N _ (.tail _ (.tail _ (.head _)))).2.1 (by
      simp only [List.map_cons, List.nodup_cons, List.mem_cons, not_or] at nd
      simp only [List.map_cons, List.map_nil, List.mem_cons, List.not_mem_nil, or_false, not_or]
      exact ⟨nd.2.2.1.1, nd.2.2.1.2.1⟩)
    have hrn : ∀ q ∈ rest, g3.get? q.1 = some q.2 := fun q hq => by
      have hq' : q ∈ (wa, LL wv k1) :: (ua, LL uv k2) :: (da, LL dv k3) :: (174, tabObj #[]) :: (181, tabObj #[]) :: rest := .tail _ (.tail _ (.tail _ (.tail _ (.tail _ hq))))
      refine hn3 _ _ (I.get (show (q.1, q.2) ∈ _ from hq')) (I.N _ hq').2.1 ?_
      simp only [List.map_cons, List.nodup_cons] at nd
      simp only [List.map_cons, List.map_nil, List.mem_cons, List.not_mem_nil, or_false]
      rintro (h | h)
      · exact nd.2.2.2.1 (List.mem_cons_of_mem _ (h ▸ List.mem_map_of_mem hq))
      · exact nd.2.2.2.2.1 (h ▸ List.mem_map_of_mem hq)
    have hsz : fv.toArray.size = ps.length := by rw [List.size_toArray, hpl.len]
    rw [hsz, List.take_length] at hW hU hD
    have hg03 : ∀ b o, g.get? b = some o → g3.get? b = some o := fun b o e => hg3 _ _ (hg02 _ _ e)
    refine wpAny_mono (next g3 m fa wa ua da s _ rfl hg03 ⟨⟨fv, isl_keeps hfl hg3, hpl.keeps hg3⟩, ⟨wv, LL.list hwn, hW _ hrn⟩, ⟨uv, LL.list hun, hU _ hrn⟩, ⟨dv, LL.list hdn, hD _ hrn⟩, oc', hg3 _ _ hcell, hoc'⟩ I3 hfound hways hups) (fun f s' x => x.mono hg03) fun _ _ x => x
end
/-! ## MLaw2 -/
theorem upsL_head (n : List Str) : ∃ t, upsL n = n :: t := by
  rcases List.eq_nil_or_concat n with rfl | ⟨m, x, rfl⟩
  · exact ⟨[], upsL_nil⟩
  · rw [List.concat_eq_append, upsL_concat]; exact ⟨_, rfl⟩
theorem strs_last {lv : List Value} {ys : List Str} {z : Str} (h : StrsAre lv (ys ++ [z])) : ∃ lv' t, lv = lv' ++ [.str z t] := by
  rcases List.eq_nil_or_concat lv with rfl | ⟨lv', v, rfl⟩
  · have := h.length; simp at this
  · rw [List.concat_eq_append] at h ⊢
    obtain ⟨acc', z', tz, e, rfl, _⟩ := strsAre_concat h
    have := List.append_inj' e rfl
    have e2 : z = z' := by simpa using this.2
    exact ⟨lv', tz, by rw [e2]⟩
theorem cpre_path {a b : List Str} (ha : ∀ n ∈ a, Nm n) : (pathS (cpre a b) != (Str.ofString "/")) = !(cpre a b).isEmpty := by
  have hn := cpre_nm (B := b) ha
  cases h : cpre a b with
  | nil =>
    have : pathS [] = Str.ofString "/" := path0
    rw [this]; simp
  | cons x l =>
    rw [h] at hn
    have : pathS (x :: l) ≠ Str.ofString "/" := fun e => by
      have e : pathS (x :: l) = pathS [] := e.trans path0.symm
      have := pathS_inj (b := []) hn (fun n h => nomatch h) e
      cases this
    simpa using this
theorem upsS_get {ps : List (List Str × Bool)} {i : Nat} {xs : List Str} (h : (upsS ps)[i]? = some xs) : ∃ n, (upsOf ps)[i]? = some n ∧ xs = (upsL n).map pathS := by
  unfold upsS at h
  rw [List.getElem?_map, Option.map_eq_some_iff] at h
  obtain ⟨n, h1, h2⟩ := h
  exact ⟨n, h1, h2.symm⟩
theorem downsS_get {ps : List (List Str × Bool)} {i : Nat} {xs : List Str} (h : (downsS ps)[i]? = some xs) : ∃ n, (downsOf ps)[i]? = some n ∧ xs = (upsL n).reverse.map pathS := by
  unfold downsS at h
  rw [List.getElem?_map, Option.map_eq_some_iff] at h
  obtain ⟨n, h1, h2⟩ := h
  exact ⟨n, h1, h2.symm⟩
theorem any_take {α : Type} {l : List α} {i : Nat} {x : α} (h : l[i]? = some x) (f : α → Bool) : (l.take (i + 1)).any f = ((l.take i).any f || f x) := by
  rw [List.take_add_one, h, List.any_append]; simp

section
variable {prog : Program} {w : World} {A : Around} {s s₀ : Shared} {g : Heap} {L : Addr} {m : Str → Option Value} {news : List (Addr × Obj)} {mg mb : Str → Option Value}
theorem law_2 {fnA fa wa ua da : Addr} {pmv : Value} {ps : List (List Str × Bool)} {body : List Stmt} (R : Room A 60) (G : GF mg mb g) (hb : (fnBody 28).drop 5 = body) (ok : PsOk ps) (X : LawCtx g L ps fa wa ua da)
    (I : At g L m [(174, tabObj #[]), (181, tabObj #[])] s₀ s) (hfound : m "found" = some (.ref fa)) (hways : m "ways" = some (.ref wa)) (hups : m "ups" = some (.ref ua))
    (next : ∀ (m : Str → Option Value) (s : Shared) (body : List Stmt), (fnBody 28).drop 8 = body → At g L m [(174, tabObj #[]), (181, tabObj #[])] s₀ s →
      m "found" = some (.ref fa) → m "ways" = some (.ref wa) → m "ups" = some (.ref ua) → m "meets" = some (.bool (clashF ps)) → wpAny (model prog w) A (execs body (lawEnv pmv L fnA)) (LawPost g s₀) (fun _ _ => False) s) :
    wpAny (model prog w) A (execs body (lawEnv pmv L fnA)) (LawPost g s₀) (fun _ _ => False) s := by
  subst hb
  obtain ⟨fv, hfl, hpl⟩ := X.found
  obtain ⟨uv, hul, hur⟩ := X.ups
  obtain ⟨dv, hdl, hdr⟩ := X.downs
  obtain ⟨oc, hoc, hocd⟩ := X.cell
  refine x_set ?_
  walk_at "go5"
  refine SetK.intro I fun s I => ?_
  generalize hM : upd _ _ _ = M0 at I
  have hfound0 : M0 "found" = some (.ref fa) := by rw [← hM]; walk_at "lk"
  have hways0 : M0 "ways" = some (.ref wa) := by rw [← hM]; walk_at "lk"
  have hups0 : M0 "ups" = some (.ref ua) := by rw [← hM]; walk_at "lk"
  have hmeets0 : M0 "meets" = some (.bool false) := by rw [← hM]; walk_at "lk"
  clear hM
  refine x_for (fun i m nw => nw = [(174, tabObj #[]), (181, tabObj #[])] ∧ m "found" = some (.ref fa) ∧ m "ways" = some (.ref wa) ∧ m "ups" = some (.ref ua) ∧ m "meets" = some (.bool (((upsOf ps).take i).any fun a => (downsOf ps).any fun b => !(cpre a b).isEmpty))) ?_
  intro INV
  repeat walk_at "go5"
  refine src_list R.h I hul fun it s I S => ?_
  refine (S _ _).loop I ⟨rfl, hfound0, hways0, hups0, hmeets0⟩ ?_ ?_
  · rintro i v own m₁ nw s hi hv ⟨rfl, hfound, hways, hups, hmeets⟩ I
    intro KK
    obtain ⟨xs, a, lv, hxs, rfl, hal, hlv⟩ := hur.at' i v (by simpa using hv)
    obtain ⟨n, hn, rfl⟩ := upsS_get hxs
    have hnm : ∀ x ∈ n, Nm x := ok.nm (n, false) (mem_upsOf.mp (List.mem_of_getElem? hn))
    have hnl : n.length ≤ 40 := ok.nl (n, false) (mem_upsOf.mp (List.mem_of_getElem? hn))
    refine a_name I fun s I => ?_
    generalize hM : upd _ _ _ = M1 at I
    have hfound1 : M1 "found" = some (.ref fa) := by rw [← hM]; walk_at "lk"
    have hways1 : M1 "ways" = some (.ref wa) := by rw [← hM]; walk_at "lk"
    have hups1 : M1 "ups" = some (.ref ua) := by rw [← hM]; walk_at "lk"
    have hmeets1 : M1 "meets" = some (.bool (((upsOf ps).take i).any fun a => (downsOf ps).any fun b => !(cpre a b).isEmpty)) := by rw [← hM]; walk_at "lk"
    have hup1 : M1 "up" = some (.ref a) := by rw [← hM]; walk_at "lk"
    clear hM
    have hat := any_take hn fun a => (downsOf ps).any fun b => !(cpre a b).isEmpty
    generalize (((upsOf ps).take i).any fun a => (downsOf ps).any fun b => !(cpre a b).isEmpty) = b0 at hmeets1 hat
    refine x_for (fun j m nw => nw = own ++ [(174, tabObj #[]), (181, tabObj #[])] ∧ m "found" = some (.ref fa) ∧ m "ways" = some (.ref wa) ∧ m "ups" = some (.ref ua) ∧ m "up" = some (.ref a) ∧ m "meets" = some (.bool (b0 || ((downsOf ps).take j).any fun b => !(cpre n b).isEmpty))) ?_
    intro INV
    refine r_cell (I.keep _ _ hoc) hocd ?_
    refine src_list R.h I hdl fun it s I S => ?_
    refine (S _ _).loop I ⟨rfl, hfound1, hways1, hups1, hup1, by simpa using hmeets1⟩ ?_ ?_
    · rintro j v own2 m₂ nw s hj hv ⟨rfl, hfound, hways, hups, hup, hmeets⟩ I
      intro KK
      obtain ⟨ys, d, ld, hys, rfl, hdl2, hld⟩ := hdr.at' j v (by simpa using hv)
      obtain ⟨k, hk, rfl⟩ := downsS_get hys
      have hkm : ∀ x ∈ k, Nm x := ok.nm (k, true) (mem_downsOf.mp (List.mem_of_getElem? hk))
      have hkl : k.length ≤ 40 := ok.nl (k, true) (mem_downsOf.mp (List.mem_of_getElem? hk))
      have hbt := any_take hk fun b => !(cpre n b).isEmpty
      refine a_name I fun s I => ?_
      refine x_if ?_
      repeat walk_at "go5"
      rename At _ _ _ _ _ _ => I
      refine e_fn I G (a := 155) (k := 22) (c := 154) (dV := .none) (by decide +kernel) ?_
      repeat walk_at "go5"
      rename At _ _ _ _ _ _ => I
      obtain ⟨tl, htl⟩ := upsL_head n
      obtain ⟨t0, ht0⟩ := hlv.get 0 (pathS n) (by rw [htl]; rfl)
      refine q_item (isl_keeps hal I.keep) (by decide) (by decide) (x := .str (pathS n) t0) ht0 ?_
      repeat walk_at "go5"
      rename At _ _ _ _ _ _ => I
      obtain ⟨tk, htk⟩ := upsL_head k
      obtain ⟨ld', t1, rfl⟩ := strs_last (ys := (tk.reverse).map pathS) (z := pathS k) (by rw [htk] at hld; simpa using hld)
      refine q_last (isl_keeps hdl2 I.keep) ?_
      refine sp_nil ?_
      refine NewK.intro I fun lc s I => ?_
      repeat walk_at "go5"
      refine wpAny_mono (c_common (s := s) (na := n) (nb := k) R.less (G.keeps I.keep) (LL.list (I.get (.head _))) hnm hkm (by omega) (by omega)) (fun v s hq => ?_) fun _ _ x => x
      obtain ⟨hK, t2, rfl⟩ := hq
      have I := (I.grow hK).tail
      repeat walk_at "go5"
      rename At _ _ _ _ _ _ => I
      rw [cpre_path hnm]
      cases hcp : (!(cpre n k).isEmpty) with
      | true =>
        refine Br.t ?_
        repeat walk_at "go5"
        rename At _ _ _ _ _ _ => I
        refine ⟨_, _, I, rfl, by walk_at "lk", by walk_at "lk", by walk_at "lk", by walk_at "lk", ?_⟩
        rw [hbt, hcp, Bool.or_true, Bool.or_true]; walk_at "lk"
      | false =>
        refine Br.f ?_
        repeat walk_at "go5"
        refine ⟨_, _, I, rfl, by walk_at "lk", by walk_at "lk", by walk_at "lk", by walk_at "lk", ?_⟩
        rw [hbt, hcp, Bool.or_false]; walk_at "lk"
    · rintro m nw s I ⟨rfl, hfound, hways, hups, hup, hmeets⟩
      repeat walk_at "go5"
      refine ⟨_, _, I, rfl, hfound, hways, hups, ?_⟩
      have hdz : dv.toArray.size = (downsOf ps).length := by rw [List.size_toArray, hdr.len]; unfold downsS; simp
      rw [hdz, List.take_length] at hmeets
      rw [hat]; exact hmeets
  · rintro m nw s I ⟨rfl, hfound, hways, hups, hmeets⟩
    have huz : uv.toArray.size = (upsOf ps).length := by rw [List.size_toArray, hur.len]; unfold upsS; simp
    rw [huz, List.take_length] at hmeets
    rw [show ((upsOf ps).any fun a => (downsOf ps).any fun b => !(cpre a b).isEmpty) = clashF ps from meet_clash ps] at hmeets
    repeat walk_at "go5"
    rename At _ _ _ _ _ _ => I
    refine e_fn I G (a := 172) (k := 26) (c := 171) (dV := .none) (by decide +kernel) ?_
    repeat walk_at "go5"
    rename At _ _ _ _ _ _ => I
    refine use I (c_clash R.less (G.keeps I.keep) (isl_keeps hfl I.keep) (hpl.keeps I.keep) ⟨by have := ok.len; omega, fun p hp => by have := ok.nl p hp; omega⟩) ?_
    rintro v s I rfl
    refine q_neb ?_
    refine TB.intro ?_
    refine Br.ff (by simp) ?_
    refine x_nil ?_
    refine sq_next ?_
    exact next m s _ rfl I hfound hways hups hmeets
end
/-! ## MLaw3 -/
theorem strs_values {lv : List Value} {xs : List Str} (h : StrsAre lv xs) : ∃ l : List (Str × Tok), lv = strValues l ∧ l.map (·.1) = xs := strsAre_values h
theorem values_strs (l : List (Str × Tok)) : StrsAre (strValues l) (l.map (·.1)) := strsAre_of_values l
section
variable {prog : Program} {w : World} {A : Around} {s s₀ : Shared} {g : Heap} {L : Addr} {m : Str → Option Value} {news : List (Addr × Obj)} {mg mb : Str → Option Value}
theorem At.snoc {x : Addr × Obj} {own nw : List (Addr × Obj)} (I : At g L m (x :: (own ++ nw)) s₀ s) : At g L m (own ++ (nw ++ [x])) s₀ s := by
  refine I.perm ?_
  rw [← List.append_assoc]
  exact (List.perm_append_comm (l₁ := own ++ nw) (l₂ := [x]))
theorem At.settle {own keep : List (Addr × Obj)} (I : At g L m (own ++ keep) s₀ s) : ∃ g', At g' L m keep s₀ s ∧ (∀ b o, g.get? b = some o → g'.get? b = some o) ∧ ∀ q ∈ own, g'.get? q.1 = some q.2 := by
  obtain ⟨g', I', h1, h2⟩ := I.freeze (List.sublist_append_right own keep)
  have nd := I.nd
  rw [List.map_append, List.nodup_append] at nd
  refine ⟨g', I', h1, fun q hq => h2 _ _ (I.get (show (q.1, q.2) ∈ _ from List.mem_append_left _ hq)) (I.N q (List.mem_append_left _ hq)).2.1 fun hm => ?_⟩
  exact nd.2.2 q.1 (List.mem_map_of_mem hq) q.1 hm rfl
theorem cels_rows {h : Heap} {cels : List Cel} {S : List (List Str)} (hc : con cels = S) (hh : ∀ q ∈ inn cels, h.get? q.1 = some q.2) : RowsAt h (cels.map fun p => Value.ref p.1) S := by
  refine ⟨by rw [List.length_map, ← hc]; simp [con], fun i v hv => ?_⟩
  rw [List.getElem?_map, Option.map_eq_some_iff] at hv
  obtain ⟨p, hp, rfl⟩ := hv
  refine ⟨Cel.txt p, p.1, strValues p.2.1, by rw [← hc]; unfold con; rw [List.getElem?_map, hp]; rfl, rfl, LL.list (hh _ (mem_inn (List.mem_of_getElem? hp))), values_strs _⟩
theorem sum_le_mul {b : Nat} : ∀ {l : List Nat}, (∀ x ∈ l, x ≤ b) → l.sum ≤ b * l.length
  | [], _ => by simp
  | x :: l, h => by
    have h1 := h x (.head _)
    have h2 := sum_le_mul (l := l) fun y hy => h y (.tail _ hy)
    rw [List.sum_cons, List.length_cons, Nat.mul_add]; omega
theorem wayS_le {ps : List (List Str × Bool)} (ok : PsOk ps) {p : List Str × Bool} (hp : p ∈ ps) : (wayS p).length ≤ 41 := by
  have := ok.nl p hp
  have e : (upsL p.1).length = p.1.length + 1 := by unfold upsL; simp
  unfold wayS wayOf
  split
  · rw [List.length_map, List.length_reverse, e]; omega
  · rw [List.length_map, e]; omega
/-- what the rest of the law stands on -/
structure LawMid (g : Heap) (L : Addr) (ps : List (List Str × Bool)) (m : Str → Option Value) (fa wa ua da la : Addr) : Prop where
  ctx : LawCtx g L ps fa wa ua da
  found : m "found" = some (.ref fa)
  ways : m "ways" = some (.ref wa)
  ups : m "ups" = some (.ref ua)
  meets : m "meets" = some (.bool (clashF ps))
  lines : m "lines" = some (.ref la)
  rows : ∃ lv : List Value, g.IsList la lv.toArray ∧ RowsAt g lv (if clashF ps then ps.map (leftS ps) else ps.map fun _ => [])
  bad : clashF ps = true → m "merged" = some .none
  good : clashF ps = false → ∃ ma mv k, m "merged" = some (.ref ma) ∧ g.get? ma = some (LL mv k) ∧ StrsAre mv ((orderOf ps).map pathS)
theorem law_3 {fnA fa wa ua da : Addr} {pmv : Value} {ps : List (List Str × Bool)} {body : List Stmt} (R : Room A 60) (hfr : A.frames = some [lawEnv pmv L fnA]) (G : GF mg mb g) (hb : (fnBody 28).drop 8 = body) (ok : PsOk ps) (X : LawCtx g L ps fa wa ua da)
    (I : At g L m [(174, tabObj #[]), (181, tabObj #[])] s₀ s) (hfound : m "found" = some (.ref fa)) (hways : m "ways" = some (.ref wa)) (hups : m "ups" = some (.ref ua)) (hmeets : m "meets" = some (.bool (clashF ps)))
    (next : ∀ (g' : Heap) (m : Str → Option Value) (la : Addr) (s : Shared) (body : List Stmt), (fnBody 28).drop 10 = body → (∀ b o, g.get? b = some o → g'.get? b = some o) → At g' L m [(174, tabObj #[]), (181, tabObj #[])] s₀ s →
      LawMid g' L ps m fa wa ua da la → wpAny (model prog w) A (execs body (lawEnv pmv L fnA)) (LawPost g' s₀) (fun _ _ => False) s) :
    wpAny (model prog w) A (execs body (lawEnv pmv L fnA)) (LawPost g s₀) (fun _ _ => False) s := by
  subst hb
  obtain ⟨wv, hwl, hwr⟩ := X.ways
  refine x_setcomp (fun i ys nw => ∃ cels : List Cel, nw = inn cels ∧ ys = cels.map (fun p => Value.ref p.1) ∧ con cels = (ps.take i).map wayS) ?_
  intro INV
  repeat walk_at "go5"
  refine src_listT R.h I hwl hwr.ref fun it s I S => ?_
  refine (S _ _ _).comp I (by rw [List.size_toArray, hwr.len, sizeLine_eq]; have := ok.len; omega) ⟨[], rfl, rfl, rfl⟩ ?_ ?_
  · rintro G₁ C i v own m₁ ys nw s hG1 hG2 hG3 hi hv ⟨cels, rfl, rfl, hcon⟩ I
    intro K1 K2 EV
    obtain ⟨p, hp, ta, la, lv, rfl, hta, hla, hlv⟩ := hwr.at' i v (by simpa using hv)
    have hlen : lv.length ≤ 41 := by
      rw [hlv.length]; unfold wayS wayOf; have := ok.nl p (List.mem_of_getElem? hp); split <;> simp [upsL] <;> omega
    refine a_tup R.h I (isTup_keeps hta fun b o e => I.keep _ _ (hG1 _ _ e)) fun s I => ?_
    refine a_cons I fun s I => ?_
    refine a_cons I fun s I => ?_
    refine a_nil ?_
    refine f_nil ?_
    refine Br.t ?_
    repeat walk_at "go5"
    rename At _ _ _ _ _ _ => I
    refine q_lslice I (isl_keeps hla fun b o e => I.keep _ _ (hG1 _ _ e)) (lo := none) (hi := none) .none .none (by rw [sizeLine_eq]; omega) ?_
    intro D s I
    rw [slicePick_all] at I
    obtain ⟨l, rfl, hl⟩ := strs_values hlv
    refine ⟨_, inn cels ++ [(D, LL (strValues l) 0)], I.snoc, cels ++ [(D, l, 0)], by simp [inn, Cel.ob], by simp, ?_⟩
    rw [take_step hp, List.map_append, ← hcon]
    simp [con, Cel.txt, hl]
  · rintro D k ys nw ⟨cels, rfl, rfl, hcon⟩ hyl
    refine ⟨rfl, fun s I => ?_⟩
    rw [show wv.toArray.size = ps.length by rw [List.size_toArray, hwr.len], List.take_length] at hcon
    obtain ⟨g1, I, hg1, hDl⟩ := (show At g L _ ((D, LL (cels.map fun p => Value.ref p.1) k) :: (inn cels ++ [(174, tabObj #[]), (181, tabObj #[])])) s₀ s from I).freeze1
    generalize hM : upd _ _ _ = M1 at I
    have hfound1 : M1 "found" = some (.ref fa) := by rw [← hM]; walk_at "lk"
    have hways1 : M1 "ways" = some (.ref wa) := by rw [← hM]; walk_at "lk"
    have hups1 : M1 "ups" = some (.ref ua) := by rw [← hM]; walk_at "lk"
    have hmeets1 : M1 "meets" = some (.bool (clashF ps)) := by rw [← hM]; walk_at "lk"
    have hlines1 : M1 "lines" = some (.ref D) := by rw [← hM]; walk_at "lk"
    clear hM
    have G1 := G.keeps hg1
    have nd := I.nd
    rw [List.map_append, map_ob, List.nodup_append] at nd
    have hcl : cels.length = ps.length := by have := congrArg List.length hcon; simpa [con] using this
    have hsum : ((con cels).map List.length).sum ≤ 410 := by
      rw [hcon, List.map_map]
      have := sum_le_mul (b := 41) (l := ps.map (List.length ∘ wayS)) fun x hx => by
        obtain ⟨p, hp, rfl⟩ := List.mem_map.mp hx; exact wayS_le ok hp
      rw [List.length_map] at this
      have := ok.len
      omega
    have hL0 : ∃ o, s.heap.get? L = some o ∧ ∀ vs, o.data ≠ .fields vs := by
      obtain ⟨oL, es, ep, hoL, hdL, _⟩ := I.ns
      exact ⟨oL, hoL, fun vs h => by rw [hdL] at h; cases h⟩
    have hL1 : L ∉ cels.map (·.1) := fun h => by
      rw [← map_ob] at h
      obtain ⟨q, hq, e⟩ := List.mem_map.mp h
      exact (I.N q (List.mem_append_left _ hq)).2.1 e
    have hN : ∀ p ∈ inn cels, s.heap.get? p.1 = some p.2 ∧ g1.get? p.1 = none := fun p hp => by
      have := I.N p (List.mem_append_left _ hp); exact ⟨this.1, this.2.2⟩
    have hk0 : (lawEnv pmv L fnA).scope.kind ≠ .module := by rw [show (lawEnv pmv L fnA).scope.kind = .function from by with_unfolding_all rfl]; decide
    refine x_tryE ?_
    refine x_set ?_
    refine e_fn I G1 (a := 35) (k := 4) (c := 34) (dV := .none) (by decide +kernel) ?_
    repeat walk_at "go5"
    cases hcf : clashF ps with
    | false =>
      have hrun := c3_ok ok.nm hcf
      rw [← hcon] at hrun
      refine c_c3 (env₀ := lawEnv pmv L fnA) (L₀ := L) R.less G1 I.keep hfr rfl hk0 hL0 hL1 hN nd.1 (LL.list hDl) ⟨by have := ok.len; omega, by omega⟩ hrun ?_ (fun h => nomatch h)
      intro _ a rl n ls' h' tk hadr hcon' hcells ha0 ha hrl hkeep
      have I' := I.landed (tk := tk) hadr hcells (fun b o hbL hb e => hkeep b o hb e) (I.ns.at' fun o e => hkeep L o hL1 e)
      have haL : a ≠ L := fun e => by
        obtain ⟨o, ho, _⟩ := hL0
        rw [e, ho] at ha0; cases ha0
      have han : a ∉ (inn ls' ++ [(174, tabObj #[]), (181, tabObj #[])]).map (fun q : Addr × Obj => q.1) := fun hm => by
        rw [List.map_append, map_ob, hadr, ← map_ob, ← List.map_append] at hm
        obtain ⟨q, hq, e⟩ := List.mem_map.mp hm
        have := (I.N q hq).1
        rw [e, ha0] at this; cases this
      have I2 := I'.more (a := a) (o := LL (strValues rl) n) ha haL (none_of I.keep ha0) han
      refine SetK.intro I2 fun s I => ?_
      refine x_nil ?_
      refine x_nil ?_
      refine sq_next ?_
      obtain ⟨g2, I, hg2, hown⟩ := At.settle (own := (a, LL (strValues rl) n) :: inn ls') I
      have hg02 : ∀ b o, g.get? b = some o → g2.get? b = some o := fun b o e => hg2 _ _ (hg1 _ _ e)
      refine wpAny_mono (next g2 _ D s _ rfl hg02 I ⟨X.keeps hg02, by walk_at "lk", by walk_at "lk", by walk_at "lk", by rw [hcf] at hmeets1; rw [hcf]; walk_at "lk", by walk_at "lk", ⟨_, isl_keeps (LL.list hDl) hg2, ?_⟩, (fun h => by rw [hcf] at h; cases h), fun _ => ⟨a, _, n, by walk_at "lk", hown _ (.head _), by rw [← hrl]; exact values_strs rl⟩⟩) (fun f s' x => x.mono hg02) fun _ _ x => x
      have := cels_rows hcon' fun q hq => hown q (.tail _ hq)
      rw [show ls'.map (fun p : Cel => Value.ref p.1) = cels.map (fun p : Cel => Value.ref p.1) from by
        have := congrArg (List.map Value.ref) hadr
        rw [List.map_map, List.map_map] at this; exact this] at this
      rw [hcf]; exact this
    | true =>
      obtain ⟨rr, hrun⟩ := c3_bad ok.nm hcf
      rw [← hcon] at hrun
      refine c_c3 (env₀ := lawEnv pmv L fnA) (L₀ := L) R.less G1 I.keep hfr rfl hk0 hL0 hL1 hN nd.1 (LL.list hDl) ⟨by have := ok.len; omega, by omega⟩ hrun (fun h => nomatch h) ?_
      intro _ e t B h₁ ls' h' tk hadr hcon' hcells hkeep hB hfl hsm
      have hin : ∀ p ∈ inn ls', p.1 ∈ cels.map (·.1) := fun p hp => by rw [← hadr, ← map_ob]; exact List.mem_map_of_mem hp
      have hlt : ∀ b ∈ cels.map (·.1), b ≠ s.heap.objs.size := fun b hb => by
        rw [← map_ob] at hb
        obtain ⟨q, hq, rfl⟩ := List.mem_map.mp hb
        exact Nat.ne_of_lt (Heap.lt_size (hN q hq).1)
      refine caught (L := L) (g := g1) (m := M1) (news := inn ls' ++ [(174, tabObj #[]), (181, tabObj #[])]) (s₀ := s₀) hfr rfl hfl (fun h'' hst hup => ?_) G1 ?_
      · refine I.landed (tk := tk) hadr (fun p hp => hst _ _ (hB _ _ (fun h => hL1 (h ▸ hin p hp)) (hlt _ (hin p hp)) (hcells p hp))) (fun b o hbL hb e => hst _ _ (hB b o hbL (Nat.ne_of_lt (Heap.lt_size e)) (hkeep b o hb e))) ?_
        exact (hsm.trans hup).ns (I.ns.at' fun o e => hkeep L o hL1 e)
      · intro s I
        refine x_set ?_
        walk_at "go5"
        refine SetK.intro I fun s I => ?_
        refine x_nil ?_
        refine sq_next ?_
        obtain ⟨g2, I, hg2, hown⟩ := At.settle (own := inn ls') I
        have hg02 : ∀ b o, g.get? b = some o → g2.get? b = some o := fun b o e => hg2 _ _ (hg1 _ _ e)
        refine wpAny_mono (next g2 _ D s _ rfl hg02 I ⟨X.keeps hg02, by walk_at "lk", by walk_at "lk", by walk_at "lk", by rw [hcf] at hmeets1; rw [hcf]; walk_at "lk", by walk_at "lk", ⟨_, isl_keeps (LL.list hDl) hg2, ?_⟩, (fun h => by walk_at "lk"), (fun h => by rw [hcf] at h; cases h)⟩) (fun f s' x => x.mono hg02) fun _ _ x => x
        have := cels_rows hcon' fun q hq => hown q hq
        rw [show ls'.map (fun p : Cel => Value.ref p.1) = cels.map (fun p : Cel => Value.ref p.1) from by
          have := congrArg (List.map Value.ref) hadr
          rw [List.map_map, List.map_map] at this; exact this] at this
        rw [hcf]; exact this
end
/-! ## MLaw4 -/
section
variable {prog : Program} {w : World} {A : Around} {s s₀ : Shared} {g : Heap} {L : Addr} {m : Str → Option Value} {news : List (Addr × Obj)} {mg mb : Str → Option Value}
theorem law_4 {fnA fa wa ua da la : Addr} {pmv : Value} {ps : List (List Str × Bool)} {body : List Stmt} (R : Room A 60) (G : GF mg mb g) (hb : (fnBody 28).drop 10 = body) (ok : PsOk ps) (X : LawMid g L ps m fa wa ua da la)
    (I : At g L m [(174, tabObj #[]), (181, tabObj #[])] s₀ s)
    (next : ∀ (body : List Stmt), (fnBody 28).drop 11 = body → clashF ps = false → wpAny (model prog w) A (execs body (lawEnv pmv L fnA)) (LawPost g s₀) (fun _ _ => False) s) :
    wpAny (model prog w) A (execs body (lawEnv pmv L fnA)) (LawPost g s₀) (fun _ _ => False) s := by
  subst hb
  have hmeets := X.meets
  have hups := X.ups
  have hways := X.ways
  have hfound := X.found
  have hlines := X.lines
  obtain ⟨wv, hwl, hwr⟩ := X.ctx.ways
  obtain ⟨dv, hdl, hdr⟩ := X.ctx.downs
  obtain ⟨oc, hoc, hocd⟩ := X.ctx.cell
  refine x_if ?_
  with_reducible refine t_plain ?_
  refine r_loc I ?_
  refine wpAny_truthy_bool ?_
  cases hcf : clashF ps with
  | false =>
    refine Br.f ?_
    refine x_nil ?_
    refine sq_next ?_
    exact next _ rfl hcf
  | true =>
    refine Br.t ?_
    have hmerged := X.bad hcf
    refine x_setcompC (fun C i ys nw => ∃ oc v0 rest, nw = (C + 1, oc) :: rest ∧ oc.data = .cell v0 ∧ ys.length ≤ i ∧ InLed rest (fun h => RowsAt h ys ((ps.take i).map (leftS ps)))) ?_
    intro INV
    refine r_loc I ?_
    refine src_listT R.h I hwl hwr.ref fun it s I S => ?_
    refine (S _ _ _).compC I (by rw [List.size_toArray, hwr.len, sizeLine_eq]; have := ok.len; omega) (fun C => ⟨_, _, [], rfl, rfl, Nat.le_refl _, fun h _ => RowsAt.nil h⟩) ?_ ?_
    · rintro G₁ C i v own m₁ ys nw s hG1 hG2 hG3 hi hv ⟨oc1, v0, rest, rfl, hoc1, hyl, hys⟩ I
      intro K1 K2 EV
      obtain ⟨p, hp, ta, la1, lv, rfl, hta, hla, hlv⟩ := hwr.at' i v (by simpa using hv)
      have hlen : lv.length ≤ 41 := by rw [hlv.length]; exact wayS_le ok (List.mem_of_getElem? hp)
      refine a_tup R.h I (isTup_keeps hta fun b o e => I.keep _ _ (hG1 _ _ e)) fun s I => ?_
      refine a_cons I fun s I => ?_
      refine a_consC I hoc1 fun oc1 s hoc1 I => ?_
      refine a_nil ?_
      refine f_nil ?_
      refine Br.t ?_
      refine e_compC (fun C2 j zs nw2 => ∃ oc2 v2, nw2 = [(C2 + 1, oc2)] ∧ oc2.data = .cell v2 ∧ StrsAre zs (((wayS p).take j).filter fun f => p.2 || (downsS ps).any fun d => d.any (· == f))) ?_
      intro INV
      refine r_loc I ?_
      refine src_list R.h I (isl_keeps hla hG1) fun it s I S => ?_
      refine (S _ _).compC I (by rw [List.size_toArray, sizeLine_eq]; omega) (fun C => ⟨_, _, rfl, rfl, .nil⟩) ?_ ?_
      · rintro G₂ C2 j v2 own2 m₂ zs nw2 s hG4 hG5 hG6 hj hv2 ⟨oc2, v20, rfl, hoc2, hzs⟩ I
        intro K1 K2 EV
        obtain ⟨f, tf, rfl, hf⟩ := hlv.item j v2 (by simpa using hv2)
        refine a_nameC I hoc2 fun oc2 s hoc2 I => ?_
        refine f_one ?_
        repeat walk_at "go5"
        refine r_cell (I.keep _ _ (hG5 (C + 1, oc1) (List.mem_append_right _ (.head _)))) hoc1 ?_
        refine wpAny_truthy_bool ?_
        have htk : ((wayS p).take (j + 1)).filter (fun f => p.2 || (downsS ps).any fun d => d.any (· == f)) = ((wayS p).take j).filter (fun f => p.2 || (downsS ps).any fun d => d.any (· == f)) ++ (if p.2 || (downsS ps).any fun d => d.any (· == f) then [f] else []) := by
          rw [List.take_add_one, hf, List.filter_append]; congr 1
          simp only [Option.toList_some, List.filter_cons, List.filter_nil]
        cases hfl : p.2 with
        | true =>
          rw [hfl, Bool.true_or, if_pos rfl] at htk
          rw [hfl] at hzs
          refine Br.t ?_
          refine Br.t ?_
          refine r_cell (I.get (List.mem_append_right _ (.head _))) hoc2 ?_
          refine ⟨_, _, I, _, _, rfl, hoc2, ?_⟩
          rw [hfl, htk]; exact hzs.append' (.cons _ _ .nil)
        | false =>
          rw [hfl] at htk hzs
          refine Br.f ?_
          repeat walk_at "go5"
          refine e_comp (fun k bs nw3 => nw3 = [] ∧ bs = ((downsS ps).take k).map fun d => Value.bool (d.any (· == f))) ?_
          intro INV
          refine r_cell (I.keep _ _ (hG4 _ _ (hG1 _ _ hoc))) hocd ?_
          refine src_list R.h I (isl_keeps hdl fun b o e => hG4 _ _ (hG1 _ _ e)) fun it s I S => ?_
          refine (S _ _).comp I (by rw [List.size_toArray, hdr.len, sizeLine_eq]; unfold downsS downsOf; rw [List.length_map, List.length_map]; have := ok.len; have := List.length_filter_le (fun p : List Str × Bool => p.2) ps; omega) ⟨rfl, rfl⟩ ?_ ?_
          · rintro G₃ C3 k v3 own3 m₃ bs nw3 s hG7 hG8 hG9 hk hv3 ⟨rfl, rfl⟩ I
            intro K1 K2 EV
            obtain ⟨xs, d, ld, hxs, rfl, hdl2, hld⟩ := hdr.at' k v3 (by simpa using hv3)
            refine a_name I fun s I => ?_
            refine f_nil ?_
            refine Br.t ?_
            repeat walk_at "go5"
            refine r_cell (I.keep _ _ (hG8 (C2 + 1, oc2) (List.mem_append_right _ (.head _)))) hoc2 ?_
            repeat walk_at "go5"
            refine in_list_strs (isl_keeps hdl2 fun b o e => I.keep _ _ (hG7 _ _ (hG4 _ _ (hG1 _ _ e)))) hld ?_
            refine ⟨_, [], I, rfl, ?_⟩
            rw [List.take_add_one, hxs]
            simp
          · rintro D3 k3 bs nw3 ⟨rfl, rfl⟩ hbl
            intro s I
            rw [show dv.toArray.size = (downsS ps).length from by rw [List.size_toArray, hdr.len], List.take_length] at I
            refine SeqAt.in_listAt (items := (List.map (fun d : List Str => Value.bool (d.any (· == f))) (downsS ps)).toArray) (fun v => match v with | .bool b => b | _ => false) (LL.list (I.get (.head _))) (fun y hy => ?_) ?_
            · simp only [List.mem_toArray, List.mem_map] at hy
              obtain ⟨n, _, rfl⟩ := hy
              have := SeqAt.EqAt.bool_bool (A := A.in1) (s := s) (n.any (· == f)) true
              simpa using this
            · have I : At G₂ C2 m₂ ((D3, LL (List.map (fun d : List Str => Value.bool (d.any (· == f))) (downsS ps)) k3) :: (own2 ++ [(C2 + 1, oc2)])) s₀ s := I
              have I := I.tail
              refine TB.intro ?_
              rw [show ((List.map (fun d : List Str => Value.bool (d.any (· == f))) (downsS ps)).toArray.any fun v => match v with | .bool b => b | _ => false) = (downsS ps).any fun d => d.any (· == f) from by simp; rfl]
              simp only [Bool.false_or] at htk hzs
              cases hb : (downsS ps).any fun d => d.any (· == f) with
              | true =>
                rw [hb, if_pos rfl] at htk
                refine Br.t ?_
                refine Br.t ?_
                refine r_cell (I.get (List.mem_append_right _ (.head _))) hoc2 ?_
                refine ⟨_, _, I, _, _, rfl, hoc2, ?_⟩
                rw [hfl]
                simp only [Bool.false_or]
                rw [htk]; exact hzs.append' (.cons _ _ .nil)
              | false =>
                rw [hb, if_neg (by simp)] at htk
                refine Br.f ?_
                repeat walk_at "go5"
                refine ⟨_, _, I, _, _, rfl, hoc2, ?_⟩
                rw [hfl]
                simp only [Bool.false_or]
                rw [htk, List.append_nil]; exact hzs
      · rintro C2 D k zs nw2 ⟨oc2, v2, rfl, hoc2, hzs⟩ hzl s I
        rw [show lv.toArray.size = (wayS p).length from by rw [List.size_toArray, hlv.length], List.take_length] at hzs
        have I : At G₁ C _ ((D, LL zs k) :: (C2 + 1, oc2) :: (own ++ (C + 1, oc1) :: rest)) s₀ s := I
        have I := I.pull2.tail
        have I := I.perm (news' := own ++ (C + 1, oc1) :: (D, LL zs k) :: rest) (by
          refine List.Perm.trans ?_ ((List.perm_middle (l₁ := own ++ [(C + 1, oc1)]) (a := (D, LL zs k)) (l₂ := rest)).trans ?_)
          · rw [List.append_assoc]; exact List.Perm.refl _
          · rw [List.append_assoc]; exact List.Perm.refl _)
        refine ⟨_, _, I, oc1, _, _, rfl, hoc1, by simp; omega, hys.mono (fun q hq => .tail _ hq) fun h hh x => ?_⟩
        rw [take_step hp, List.map_append]
        exact x.snoc ⟨D, zs, rfl, LL.list (hh _ (.head _)), hzs⟩
    · rintro C D k ys nw ⟨oc1, v0, rest, rfl, hoc1, _, hys⟩ hyl
      refine ⟨rfl, fun s I => ?_⟩
      rw [show wv.toArray.size = ps.length from by rw [List.size_toArray, hwr.len], List.take_length] at hys
      have I : At g L _ ((D, LL ys k) :: (C + 1, oc1) :: (rest ++ [(174, tabObj #[]), (181, tabObj #[])])) s₀ s := I
      repeat walk_at "go5"
      rename At _ _ _ _ _ _ => I
      refine is_none_none ?_
      repeat walk_at "go5"
      obtain ⟨lv, hll, hlr⟩ := X.rows
      rw [hcf, if_pos rfl] at hlr
      have hrest : ∀ q ∈ rest, s.heap.get? q.1 = some q.2 := fun q hq => I.get (show (q.1, q.2) ∈ _ from .tail _ (.tail _ (List.mem_append_left _ hq)))
      refine q_eq_rows (by show A.units + 1 < 9900; have := R.u; omega) (isl_keeps hll I.keep) (LL.list (I.get (.head _))) (hlr.keeps I.keep) (hys _ hrest) ?_
      refine sq_ret ?_
      exact ⟨rfl, ⟨s.heap, s.toks, I.e⟩, I.keep, ⟨_, I.get (.tail _ (.tail _ (List.mem_append_right _ (.head _))))⟩, _, I.get (.tail _ (.tail _ (List.mem_append_right _ (.tail _ (.head _)))))⟩
end
/-! ## MLaw5 -/
section
variable {prog : Program} {w : World} {A : Around} {s s₀ : Shared} {g : Heap} {L : Addr} {m : Str → Option Value} {news : List (Addr × Obj)} {mg mb : Str → Option Value}
noncomputable def fsU (ps : List (List Str × Bool)) (i : Nat) : List Str := (((upsOf ps).take i).foldl mUp []).map pathS
theorem fsU_nm {ps : List (List Str × Bool)} (ok : PsOk ps) (i : Nat) : AllNm (((upsOf ps).take i).foldl mUp []) :=
  fold_nmS (fun O n hO hn => mUp_nm hO hn) _ _ (fun n hn => ok.nm (n, false) (mem_upsOf.mp (List.mem_of_mem_take hn))) (fun x h => nomatch h)
theorem fsU_step {ps : List (List Str × Bool)} (ok : PsOk ps) {i : Nat} {n : List Str} (h : (upsOf ps)[i]? = some n) :
    fsU ps (i + 1) = if (fsU ps i).any (· == pathS n) then fsU ps i else ((fsU ps i).filter fun f => !(((upsL n).map pathS).any (· == f))) ++ (upsL n).map pathS := by
  have hn : ∀ x ∈ n, Nm x := ok.nm (n, false) (mem_upsOf.mp (List.mem_of_getElem? h))
  unfold fsU
  rw [List.take_add_one, h, List.foldl_append, Option.toList_some, List.foldl_cons, List.foldl_nil, mup_path (fsU_nm ok i) hn]
theorem fsU_len {ps : List (List Str × Bool)} (ok : PsOk ps) (i : Nat) : (fsU ps i).length ≤ 410 := by
  unfold fsU
  rw [List.length_map]
  have h1 := foldl_len mUp_len ((upsOf ps).take i) []
  have h2 := sum_le_mul (b := 41) (l := ((upsOf ps).take i).map fun n => (upsL n).length) fun x hx => by
    obtain ⟨n, hn, rfl⟩ := List.mem_map.mp hx
    have := ok.nl (n, false) (mem_upsOf.mp (List.mem_of_mem_take hn))
    unfold upsL; simp at this ⊢; omega
  have h3 : (upsOf ps).length ≤ 10 := by unfold upsOf; rw [List.length_map]; have := List.length_filter_le (fun p : List Str × Bool => !p.2) ps; have := ok.len; omega
  rw [List.length_map, List.length_take] at h2
  simp only [List.length_nil] at h1
  omega
theorem law_5 {fnA fa wa ua da la : Addr} {pmv : Value} {ps : List (List Str × Bool)} {body : List Stmt} (R : Room A 60) (G : GF mg mb g) (GXg : GX mg g) (hb : (fnBody 28).drop 11 = body) (ok : PsOk ps) (X : LawMid g L ps m fa wa ua da la)
    (I : At g L m [(174, tabObj #[]), (181, tabObj #[])] s₀ s)
    (next : ∀ (g' : Heap) (m' : Str → Option Value) (oa : Addr) (ov : List Value) (k : Nat) (c' : Addr) (s : Shared) (body : List Stmt), (fnBody 28).drop 12 = body → (∀ b o, g.get? b = some o → g'.get? b = some o) → At g' L m' [(174, tabObj #[]), (181, tabObj #[rawInt 277, rawInt 21, .ref c'])] s₀ s →
      m' = upd m "ordered" (.ref oa) → g'.get? oa = some (LL ov k) → StrsAre ov (fsU ps (upsOf ps).length) →
      wpAny (model prog w) A (execs body (lawEnv pmv L fnA)) (LawPost g' s₀) (fun _ _ => False) s) :
    wpAny (model prog w) A (execs body (lawEnv pmv L fnA)) (LawPost g s₀) (fun _ _ => False) s := by
  subst hb
  have hups := X.ups
  obtain ⟨uv, hul, hur⟩ := X.ctx.ups
  refine x_set ?_
  refine e_fn I G (a := 30) (k := 3) (c := 29) (dV := .ref 23) (by decide +kernel) ?_
  refine sp_cons ?_
  refine q_lambda I.pull2 G GXg GXg.c183 rfl fun f c' ctv oc cvs ct s I hocd hocv => ?_
  refine sp_cons ?_
  refine r_loc I ?_
  refine sp_cons ?_
  refine r_list ?_
  refine sp_nil ?_
  refine NewK.intro I fun va s I => ?_
  refine sp_nil ?_
  refine Ab.intro I ?_
  have hz : uv.length ≤ 10 := by rw [hur.len]; unfold upsS upsOf; rw [List.length_map, List.length_map]; have := List.length_filter_le (fun p : List Str × Bool => !p.2) ps; have := ok.len; omega
  refine wpAny_mono (c_reduce (s := s) (items := uv.toArray) (v0 := []) (n0 := 0) (fsU ps) R.less (G.keeps I.keep) (isl_keeps hul I.keep) (by rw [List.size_toArray]; omega) (I.get (.tail _ (.head _))) rfl (I.get (.head _)) .nil ?_) (fun v s' hq => ?_) fun _ _ x => x
  · intro A' i a vs n x s' R' hi hoa hvs hk hx
    refine enterLC (cx := "line") (binds := [("order", .ref a), ("line", x)]) (n := 28) R' (hk _ _ (I.get (.tail _ (.head _)))) (hk _ _ (I.get (.tail _ (.tail _ (.head _))))) hocd hocv ((G.nolimit.keeps I.keep).keeps hk) (by with_unfolding_all rfl) (by intro _; with_unfolding_all rfl) ?_ ?_
    · intro y hy
      simp only [List.mem_cons, List.not_mem_nil, or_false] at hy
      rcases hy with rfl | rfl
      · exact .inl (by with_unfolding_all rfl)
      · exact .inr ⟨by with_unfolding_all rfl, rfl⟩
    intro A2 o s1 R2 ho I2 KP EV
    have I2 : At s'.heap s'.heap.objs.size (upd (fun _ => none) "order" (.ref a)) [(s'.heap.objs.size + 1, o)] s' s1 := I2
    have ho : o.data = .cell (some x) := ho
    obtain ⟨xs, a1, lv, hxs, rfl, hal, hlv⟩ := hur.at' i x (by simpa using hx)
    obtain ⟨nn, hnn, rfl⟩ := upsS_get hxs
    have hal' : s'.heap.IsList a1 lv.toArray := isl_keeps hal fun b o e => hk _ _ (I.keep _ _ e)
    have hstep := fsU_step ok hnn
    obtain ⟨tl, htl⟩ := upsL_head nn
    obtain ⟨t0, ht0⟩ := hlv.get 0 (pathS nn) (by rw [htl]; rfl)
    have hvl : vs.length ≤ 410 := by rw [hvs.length]; exact fsU_len ok i
    have hll : lv.length ≤ 41 := by
      rw [hlv.length, List.length_map]
      have := ok.nl (nn, false) (mem_upsOf.mp (List.mem_of_getElem? hnn))
      unfold upsL; simp at this ⊢; omega
    generalize hup : ((upsL nn).map pathS) = ls at *
    refine IfExp_ ?_
    refine t_cmp ?_
    refine r_sub ?_
    refine r_cell (I2.get (.head _)) ho ?_
    refine r_int I2 fun ti s1 I2 => ?_
    refine q_item (isl_keeps hal' I2.keep) (by decide) (by decide) (x := .str (pathS nn) t0) ht0 ?_
    refine r_loc I2 ?_
    refine in_list_strs (isl_keeps (LL.list hoa) I2.keep) hvs ?_
    refine TB.intro ?_
    cases hin : (fsU ps i).any (· == pathS nn) with
    | true =>
      rw [hin, if_pos rfl] at hstep
      rw [if_pos rfl]
      refine r_loc I2 ?_
      exact ⟨I2.keeps fun _ _ e => e, a, vs, n, rfl, I2.keep _ _ hoa, by rw [hstep]; exact hvs, .inl rfl⟩
    | false =>
      rw [hin, if_neg (by simp)] at hstep
      rw [if_neg (by simp)]
      refine e_bin ?_
      refine e_comp (fun k ys nw => nw = [] ∧ StrsAre ys (((fsU ps i).take k).filter fun f => !(ls.any (· == f)))) ?_
      intro INV
      refine r_loc I2 ?_
      refine src_list R2.h I2 (LL.list hoa) fun it s2 I2 S => ?_
      refine (S _ _).comp I2 (by rw [List.size_toArray, sizeLine_eq]; omega) ⟨rfl, .nil⟩ ?_ ?_
      · rintro G₁ C k v own m₁ ys nw s2 hG1 hG2 hG3 hk2 hv ⟨rfl, hys⟩ I3
        intro K1 K2 EV
        obtain ⟨fo, tf, rfl, hf⟩ := hvs.item k v (by simpa using hv)
        refine a_name I3 fun s2 I3 => ?_
        refine f_one ?_
        refine t_cmp ?_
        refine r_loc I3 ?_
        refine r_cell (I3.keep _ _ (hG2 _ (.head _))) ho ?_
        refine notin_list_strs (isl_keeps hal' fun b o e => I3.keep _ _ (hG1 _ _ e)) hlv ?_
        refine TB.intro ?_
        have htk : ((fsU ps i).take (k + 1)).filter (fun f => !(ls.any (· == f))) = ((fsU ps i).take k).filter (fun f => !(ls.any (· == f))) ++ (if !(ls.any (· == fo)) then [fo] else []) := by
          rw [List.take_add_one, hf, List.filter_append]; congr 1
          simp only [Option.toList_some, List.filter_cons, List.filter_nil]
        cases hb : !(ls.any (· == fo)) with
        | true =>
          rw [hb, if_pos rfl] at htk
          refine Br.t ?_
          refine r_loc I3 ?_
          exact ⟨_, [], I3, rfl, by rw [htk]; exact hys.append' (.cons _ _ .nil)⟩
        | false =>
          rw [hb, if_neg (by simp), List.append_nil] at htk
          refine Br.f ?_
          exact ⟨_, [], I3, rfl, by rw [htk]; exact hys⟩
      · rintro D k ys nw ⟨rfl, hys⟩ hyl s2 I3
        rw [show vs.toArray.size = (fsU ps i).length from by rw [List.size_toArray, hvs.length], List.take_length] at hys
        have I3 : At s'.heap s'.heap.objs.size _ ((D, LL ys k) :: [(s'.heap.objs.size + 1, o)]) s' s2 := I3
        refine r_cell (I3.get (.tail _ (.head _))) ho ?_
        rw [List.size_toArray] at hyl
        refine q_addl I3 (LL.list (I3.get (.head _))) (isl_keeps hal' I3.keep) (by rw [sizeLine_eq]; omega) ?_
        intro D2 s3 I4
        exact ⟨I4.keeps fun _ _ e => e, D2, _, _, rfl, I4.get (.head _), by rw [hstep]; exact hys.append' hlv, .inr (I4.N _ (.head _)).2.2⟩
  · obtain ⟨hK, oa, ov, k, rfl, hoa, hov⟩ := hq
    have I := (I.grow hK).tail.tail.tail.pull2
    obtain ⟨g1, I, hg1, hseq⟩ := I.seqBase (fun p hp => by
      simp only [List.mem_cons, List.not_mem_nil, or_false] at hp
      rcases hp with rfl | rfl
      · intro vs n h; cases h
      · intro vs n h; cases h)
    have hoa1 := hseq oa _ ⟨_, _, rfl⟩ hoa
    refine SetK.intro I fun s I => ?_
    have husz : uv.toArray.size = (upsOf ps).length := by rw [List.size_toArray, hur.len]; unfold upsS; simp
    rw [husz] at hov
    exact wpAny_mono (next g1 _ oa ov k c' s _ rfl hg1 I rfl hoa1 hov) (fun f s' x => x.mono hg1) fun _ _ x => x
end
/-! ## MLaw6 -/
section
variable {prog : Program} {w : World} {A : Around} {s s₀ : Shared} {g : Heap} {L : Addr} {m : Str → Option Value} {news : List (Addr × Obj)} {mg mb : Str → Option Value}
noncomputable def fsD (ps : List (List Str × Bool)) (i : Nat) : List Str := (((downsOf ps).take i).foldl mDown ((upsOf ps).foldl mUp [])).map pathS
theorem ups_allnm {ps : List (List Str × Bool)} (ok : PsOk ps) : AllNm ((upsOf ps).foldl mUp []) :=
  fold_nmS (fun O n hO hn => mUp_nm hO hn) _ _ (fun n hn => ok.nm (n, false) (mem_upsOf.mp hn)) (fun x h => nomatch h)
theorem fsD_nm {ps : List (List Str × Bool)} (ok : PsOk ps) (i : Nat) : AllNm (((downsOf ps).take i).foldl mDown ((upsOf ps).foldl mUp [])) :=
  fold_nmS (fun O n hO hn => mDown_nm hO hn) _ _ (fun n hn => ok.nm (n, true) (mem_downsOf.mp (List.mem_of_mem_take hn))) (ups_allnm ok)
theorem fsD_step {ps : List (List Str × Bool)} (ok : PsOk ps) {i : Nat} {n : List Str} (h : (downsOf ps)[i]? = some n) :
    fsD ps (i + 1) = fsD ps i ++ ((upsL n).reverse.map pathS).filter fun f => !((fsD ps i).any (· == f)) := by
  have hn : ∀ x ∈ n, Nm x := ok.nm (n, true) (mem_downsOf.mp (List.mem_of_getElem? h))
  unfold fsD
  rw [List.take_add_one, h, List.foldl_append, Option.toList_some, List.foldl_cons, List.foldl_nil, mdown_path (fsD_nm ok i) hn]
theorem fsD_len {ps : List (List Str × Bool)} (ok : PsOk ps) (i : Nat) : (fsD ps i).length ≤ 500 := by
  unfold fsD
  rw [List.length_map]
  have h1 := foldl_len mDown_len ((downsOf ps).take i) ((upsOf ps).foldl mUp [])
  have h2 := sum_le_mul (b := 41) (l := ((downsOf ps).take i).map fun n => (upsL n).length) fun x hx => by
    obtain ⟨n, hn, rfl⟩ := List.mem_map.mp hx
    have := ok.nl (n, true) (mem_downsOf.mp (List.mem_of_mem_take hn))
    unfold upsL; simp at this ⊢; omega
  have h3 : (downsOf ps).length ≤ 10 := by unfold downsOf; rw [List.length_map]; have := List.length_filter_le (fun p : List Str × Bool => p.2) ps; have := ok.len; omega
  rw [List.length_map, List.length_take] at h2
  have h4 := ok.few
  omega
theorem law_6 {fnA fa wa ua da la oa c1 : Addr} {ov : List Value} {k0 : Nat} {pmv : Value} {ps : List (List Str × Bool)} {body : List Stmt} (R : Room A 60) (G : GF mg mb g) (GXg : GX mg g) (hb : (fnBody 28).drop 12 = body) (ok : PsOk ps) (X : LawMid g L ps m fa wa ua da la)
    (I : At g L (upd m "ordered" (.ref oa)) [(174, tabObj #[]), (181, tabObj #[rawInt 277, rawInt 21, .ref c1])] s₀ s) (hoa : g.get? oa = some (LL ov k0)) (hov : StrsAre ov (fsU ps (upsOf ps).length))
    (next : ∀ (g' : Heap) (m' : Str → Option Value) (oa : Addr) (ov : List Value) (k : Nat) (t : Obj) (s : Shared) (body : List Stmt), (fnBody 28).drop 13 = body → (∀ b o, g.get? b = some o → g'.get? b = some o) → At g' L (upd m' "ordered" (.ref oa)) [(174, tabObj #[]), (181, t)] s₀ s →
      (∃ ts, t = tabObj ts) → (∀ x : Str, x ≠ Str.ofString "ordered" → m' x = m x) → g'.get? oa = some (LL ov k) → StrsAre ov ((orderOf ps).map pathS) →
      wpAny (model prog w) A (execs body (lawEnv pmv L fnA)) (LawPost g' s₀) (fun _ _ => False) s) :
    wpAny (model prog w) A (execs body (lawEnv pmv L fnA)) (LawPost g s₀) (fun _ _ => False) s := by
  subst hb
  obtain ⟨dv, hdl, hdr⟩ := X.ctx.downs
  obtain ⟨oc0, hoc0, hocd0⟩ := X.ctx.cell
  refine x_set ?_
  refine e_fn I G (a := 30) (k := 3) (c := 29) (dV := .ref 23) (by decide +kernel) ?_
  refine sp_cons ?_
  refine q_lambda I.pull2 G GXg GXg.c183 rfl fun f c' ctv oc cvs ct s I hocd hocv => ?_
  refine sp_cons ?_
  refine r_cell (I.keep _ _ hoc0) hocd0 ?_
  refine sp_cons ?_
  refine r_loc I ?_
  refine sp_nil ?_
  refine Ab.intro I ?_
  have hz : dv.length ≤ 10 := by rw [hdr.len]; unfold downsS downsOf; rw [List.length_map, List.length_map]; have := List.length_filter_le (fun p : List Str × Bool => p.2) ps; have := ok.len; omega
  have h0 : StrsAre ov (fsD ps 0) := by unfold fsU at hov; rw [List.take_length] at hov; exact hov
  refine wpAny_mono (c_reduce (s := s) (items := dv.toArray) (v0 := ov) (n0 := k0) (fsD ps) R.less (G.keeps I.keep) (isl_keeps hdl I.keep) (by rw [List.size_toArray]; omega) (I.get (.head _)) rfl (I.keep _ _ hoa) h0 ?_) (fun v s' hq => ?_) fun _ _ x => x
  · intro A' i a vs n x s' R' hi hoa hvs hk hx
    refine enterLC (cx := "order") (binds := [("order", .ref a), ("line", x)]) (n := 28) R' (hk _ _ (I.get (.head _))) (hk _ _ (I.get (.tail _ (.head _)))) hocd hocv ((G.nolimit.keeps I.keep).keeps hk) (by with_unfolding_all rfl) (by intro _; with_unfolding_all rfl) ?_ ?_
    · intro y hy
      simp only [List.mem_cons, List.not_mem_nil, or_false] at hy
      rcases hy with rfl | rfl
      · exact .inr ⟨by with_unfolding_all rfl, rfl⟩
      · exact .inl (by with_unfolding_all rfl)
    intro A2 o s1 R2 ho I2 KP EV
    have I2 : At s'.heap s'.heap.objs.size (upd (fun _ => none) "line" x) [(s'.heap.objs.size + 1, o)] s' s1 := I2
    have ho : o.data = .cell (some (.ref a)) := ho
    obtain ⟨xs, a1, lv, hxs, rfl, hal, hlv⟩ := hdr.at' i x (by simpa using hx)
    obtain ⟨nn, hnn, rfl⟩ := downsS_get hxs
    have hal' : s'.heap.IsList a1 lv.toArray := isl_keeps hal fun b o e => hk _ _ (I.keep _ _ e)
    have hstep := fsD_step ok hnn
    have hvl : vs.length ≤ 500 := by rw [hvs.length]; exact fsD_len ok i
    have hll : lv.length ≤ 41 := by
      rw [hlv.length, List.length_map, List.length_reverse]
      have := ok.nl (nn, true) (mem_downsOf.mp (List.mem_of_getElem? hnn))
      unfold upsL; simp at this ⊢; omega
    generalize hup : ((upsL nn).reverse.map pathS) = ls at *
    refine e_bin ?_
    refine r_cell (I2.get (.head _)) ho ?_
    refine e_comp (fun k ys nw => nw = [] ∧ StrsAre ys ((ls.take k).filter fun f => !((fsD ps i).any (· == f)))) ?_
    intro INV
    refine r_loc I2 ?_
    refine src_list R2.h I2 hal' fun it s2 I2 S => ?_
    refine (S _ _).comp I2 (by rw [List.size_toArray, sizeLine_eq]; omega) ⟨rfl, .nil⟩ ?_ ?_
    · rintro G₁ C k v own m₁ ys nw s2 hG1 hG2 hG3 hk2 hv ⟨rfl, hys⟩ I3
      intro K1 K2 EV
      obtain ⟨fo, tf, rfl, hf⟩ := hlv.item k v (by simpa using hv)
      refine a_name I3 fun s2 I3 => ?_
      refine f_one ?_
      refine t_cmp ?_
      refine r_loc I3 ?_
      refine r_cell (I3.keep _ _ (hG2 _ (.head _))) ho ?_
      refine notin_list_strs (isl_keeps (LL.list hoa) fun b o e => I3.keep _ _ (hG1 _ _ e)) hvs ?_
      refine TB.intro ?_
      have htk : (ls.take (k + 1)).filter (fun f => !((fsD ps i).any (· == f))) = (ls.take k).filter (fun f => !((fsD ps i).any (· == f))) ++ (if !((fsD ps i).any (· == fo)) then [fo] else []) := by
        rw [List.take_add_one, hf, List.filter_append]; congr 1
        simp only [Option.toList_some, List.filter_cons, List.filter_nil]
      cases hb : !((fsD ps i).any (· == fo)) with
      | true =>
        rw [hb, if_pos rfl] at htk
        refine Br.t ?_
        refine r_loc I3 ?_
        exact ⟨_, [], I3, rfl, by rw [htk]; exact hys.append' (.cons _ _ .nil)⟩
      | false =>
        rw [hb, if_neg (by simp), List.append_nil] at htk
        refine Br.f ?_
        exact ⟨_, [], I3, rfl, by rw [htk]; exact hys⟩
    · rintro D k ys nw ⟨rfl, hys⟩ hyl s2 I3
      rw [show lv.toArray.size = ls.length from by rw [List.size_toArray, hlv.length], List.take_length] at hys
      have I3 : At s'.heap s'.heap.objs.size _ ((D, LL ys k) :: [(s'.heap.objs.size + 1, o)]) s' s2 := I3
      rw [List.size_toArray] at hyl
      refine q_addl I3 (isl_keeps (LL.list hoa) I3.keep) (LL.list (I3.get (.head _))) (by rw [sizeLine_eq]; omega) ?_
      intro D2 s3 I4
      exact ⟨I4.keeps fun _ _ e => e, D2, _, _, rfl, I4.get (.head _), by rw [hstep]; exact hvs.append' hys, .inr (I4.N _ (.head _)).2.2⟩
  · obtain ⟨hK, oa2, ov2, k, rfl, hoa2, hov2⟩ := hq
    have I := (I.grow hK).tail.tail.pull2
    obtain ⟨g1, I, hg1, hseq⟩ := I.seqBase (fun p hp => by
      simp only [List.mem_cons, List.not_mem_nil, or_false] at hp
      rcases hp with rfl | rfl
      · intro vs n h; cases h
      · intro vs n h; cases h)
    have hoa1 := hseq oa2 _ ⟨_, _, rfl⟩ hoa2
    refine SetK.intro I fun s I => ?_
    have husz : dv.toArray.size = (downsOf ps).length := by rw [List.size_toArray, hdr.len]; unfold downsS; simp
    rw [husz] at hov2
    have hord : fsD ps (downsOf ps).length = (orderOf ps).map pathS := by unfold fsD; rw [List.take_length]; rfl
    rw [hord] at hov2
    exact wpAny_mono (next g1 _ oa2 ov2 k _ s _ rfl hg1 I ⟨_, rfl⟩ (fun x hx => by unfold upd; rw [if_neg hx]) hoa1 hov2) (fun f s' x => x.mono hg1) fun _ _ x => x
end
/-! ## MLaw7 -/
section
variable {prog : Program} {w : World} {A : Around} {E : Value → Shared → Prop} {s s₀ : Shared} {g : Heap} {L : Addr} {m : Str → Option Value} {news : List (Addr × Obj)} {mg mb : Str → Option Value} {env : Env}
theorem e_fnx {f : Str} {p pos : Pos} {e : Expr} {rest : List Expr} {a k c : Addr} {dV : Value} {Q : Value → Shared → Prop} (I : At g L m news s₀ s) (G : GF mg mb g) (hv : mg f = some (.ref a)) (hfn : FnAt g a k c dV)
    (h : wpAny (model prog w) A (spliced (backTo pos (starEach (e :: rest) env))) (fun vs s₁ => Ab g s₁ (wpAny (model prog w) A (call (.ref a) vs) Q E s₁)) E s)
    (hse : starEach (e :: rest) env = (false, eval e env) :: starEach rest env := by with_unfolding_all rfl)
    (hk : env.scope.kind = .function := by with_unfolding_all rfl) (hl : env.kindOf f = some .globalImplicit := by with_unfolding_all rfl) (hg : env.globals = mainGlobals := by with_unfolding_all rfl)
    (hdb : (f == ("__debug__" : Str)) = false := by decide +kernel) :
    wpAny (model prog w) A (eval (.Call (.Name f p) (e :: rest) [] pos) env) Q E s := by
  obtain ⟨o, pm, ho, hdt, _⟩ := hfn
  refine Call_ (r_glob I G hv ?_ hk hl hg hdb)
  refine callWith_def (o := o) hdt (wpAny_mono h (fun vs s₁ h₁ => ?_) fun _ _ e => e) hse
  obtain ⟨⟨_, _, _, _, I'⟩, h₁⟩ := h₁
  exact ⟨I'.keep _ _ ho, h₁⟩
theorem law_7 {fnA fa wa ua da la oa ma : Addr} {ov mv : List Value} {k0 k1 : Nat} {t : Obj} {pmv : Value} {ps : List (List Str × Bool)} {body : List Stmt} (R : Room A 60) (G : GF mg mb g) (GXg : GX mg g) (hb : (fnBody 28).drop 13 = body) (ok : PsOk ps) (X : LawCtx g L ps fa wa ua da)
    (I : At g L m [(174, tabObj #[]), (181, t)] s₀ s) (ht : ∃ ts, t = tabObj ts) (hoa : g.get? oa = some (LL ov k0)) (hov : StrsAre ov ((orderOf ps).map pathS)) (hma : g.get? ma = some (LL mv k1)) (hmv : StrsAre mv ((orderOf ps).map pathS))
    (hmerged : m "merged" = some (.ref ma)) (hordered : m "ordered" = some (.ref oa)) (hfound : m "found" = some (.ref fa)) (hlines : m "lines" = some (.ref la)) (hways : m "ways" = some (.ref wa))
    (hrows : ∃ lv : List Value, g.IsList la lv.toArray ∧ RowsAt g lv (ps.map fun _ => [])) :
    wpAny (model prog w) A (execs body (lawEnv pmv L fnA)) (LawPost g s₀) (fun _ _ => False) s := by
  subst hb
  obtain ⟨fv, hfl, hpl⟩ := X.found
  obtain ⟨wv, hwl, hwr⟩ := X.ways
  obtain ⟨lv, hll, hlr⟩ := hrows
  have hu : A.units + 1 < cLine := by show A.units + 1 < 9900; have := R.u; omega
  refine x_ret ?_
  repeat walk_at "go5"
  refine q_eq_strs (Nat.lt_of_succ_lt hu) (isl_keeps (LL.list hma) I.keep) (isl_keeps (LL.list hoa) I.keep) hmv hov ?_
  repeat walk_at "go5"
  refine e_fnx I G GXg.told.1 GXg.told.2 ?_
  repeat walk_at "go5"
  have h174 := (I.N _ (.head _))
  refine wpAny_mono (c_told (g := g) (s := s) R.less G GXg I.keep h174.2.2 h174.1 hfl hpl ok.nm ⟨by have := ok.len; omega, fun p hp => by have := ok.nl p hp; omega⟩ ok.two ok.few) (fun v s' hq => ?_) fun _ _ x => x
  obtain ⟨⟨h', tk, rfl, hkeep, ts, hts⟩, ta, tv, tn, rfl, hta, htv, hta0⟩ := hq
  have I := I.ext (tk := tk) (fun b o hb e => hkeep b o hb e) hts
  refine q_eq_strs (Nat.lt_of_succ_lt hu) (isl_keeps (LL.list hma) I.keep) (LL.list hta) hmv htv ?_
  repeat walk_at "go5"
  refine e_comp (fun i ys nw => InLed nw (fun h => RowsAt h ys ((ps.take i).map fun _ => []))) ?_
  intro INV
  refine r_loc I ?_
  refine src_list R.h I hwl fun it s I S => ?_
  refine (S _ _).comp I (by rw [List.size_toArray, hwr.len, sizeLine_eq]; have := ok.len; omega) (fun h _ => RowsAt.nil h) ?_ ?_
  · rintro G₁ C i v own m₁ ys nw s hG1 hG2 hG3 hi hv hys I
    intro K1 K2 EV
    obtain ⟨p, hp, _⟩ := hwr.at' i v (by simpa using hv)
    refine a_name I fun s I => ?_
    refine f_nil ?_
    refine Br.t ?_
    refine r_list ?_
    refine sp_nil ?_
    refine NewK.intro I fun ea s I => ?_
    refine ⟨_, nw ++ [(ea, LL [] 0)], I.snoc, hys.mono (fun q hq => List.mem_append_left _ hq) fun h hh x => ?_⟩
    rw [take_step hp, List.map_append]
    exact x.snoc ⟨ea, [], rfl, LL.list (hh (ea, LL [] 0) (List.mem_append_right _ (.head _))), .nil⟩
  · rintro D k ys nw hys hyl s I
    have hys : InLed nw (fun h => RowsAt h ys ((ps.take wv.toArray.size).map fun _ => [])) := hys
    rw [show wv.toArray.size = ps.length from by rw [List.size_toArray, hwr.len], List.take_length] at hys
    have I : At g L m ((D, LL ys k) :: (nw ++ [(174, tabObj ts), (181, t)])) s₀ s := I
    have hnw : ∀ q ∈ nw, s.heap.get? q.1 = some q.2 := fun q hq => I.get (show (q.1, q.2) ∈ _ from .tail _ (List.mem_append_left _ hq))
    refine q_eq_rows hu (isl_keeps hll I.keep) (LL.list (I.get (.head _))) (hlr.keeps I.keep) (hys _ hnw) ?_
    obtain ⟨ts2, rfl⟩ := ht
    exact ⟨rfl, ⟨s.heap, s.toks, I.e⟩, I.keep, ⟨ts, I.get (.tail _ (List.mem_append_right _ (.head _)))⟩, ts2, I.get (.tail _ (List.mem_append_right _ (.tail _ (.head _))))⟩
end
/-! ## MLaw8 -/
section
variable {prog : Program} {w : World} {A : Around} {E : Value → Shared → Prop} {s s₀ : Shared} {g : Heap} {L : Addr} {mg mb : Str → Option Value}
theorem law_all {sa fnA : Addr} {ocd : Obj} {v₀ : Option Value} {pmv : Value} {sv : List Value} {ns : List Int} {body : List Stmt} (R : Room A 60) (hfr : A.frames = some [lawEnv pmv L fnA]) (G : GF mg mb g) (GXg : GX mg g) (hb : fnBody 28 = body)
    (hsl : g.IsList sa sv.toArray) (hsi : IntsAre sv ns) (hns : ns.length ≤ 63) (hoc : ocd.data = .cell v₀)
    (I : At g L (upd (fun _ => none) "script" (.ref sa)) [(L + 1, ocd), (174, tabObj #[]), (181, tabObj #[])] s₀ s) :
    wpAny (model prog w) A (execs body (lawEnv pmv L fnA)) (LawPost g s₀) (fun _ _ => False) s := by
  have ok := places_ok ns
  refine law_1 R G hb hsl hsi hns hoc I fun g1 m1 fa wa ua da s1 b1 hb1 hg1 X1 I1 hf1 hw1 hu1 => ?_
  generalize placesF (drawsF ns) [] = ps at ok X1
  refine law_2 R (G.keeps hg1) hb1 ok X1 I1 hf1 hw1 hu1 fun m2 s2 b2 hb2 I2 hf2 hw2 hu2 hm2 => ?_
  refine law_3 R hfr (G.keeps hg1) hb2 ok X1 I2 hf2 hw2 hu2 hm2 fun g3 m3 la s3 b3 hb3 hg3 I3 X3 => ?_
  have G3 := (G.keeps hg1).keeps hg3
  have GX3 := (GXg.keeps hg1).keeps hg3
  refine law_4 R G3 hb3 ok X3 I3 fun b4 hb4 hcf => ?_
  refine law_5 R G3 GX3 hb4 ok X3 I3 fun g5 m5 oa ov k5 c5 s5 b5 hb5 hg5 I5 hm5 hoa5 hov5 => ?_
  subst hm5
  obtain ⟨ma, mv, km, hmg, hma, hmv⟩ := X3.good hcf
  have X3' := X3.rows
  rw [hcf, if_neg (by simp)] at X3'
  obtain ⟨lv, hll, hlr⟩ := X3'
  refine law_6 (la := la) R (G3.keeps hg5) (GX3.keeps hg5) hb5 ok ⟨X3.ctx.keeps hg5, X3.found, X3.ways, X3.ups, X3.meets, X3.lines, ⟨_, isl_keeps X3.rows.choose_spec.1 hg5, X3.rows.choose_spec.2.keeps hg5⟩, X3.bad, fun h => let ⟨ma, mv, k, h1, h2, h3⟩ := X3.good h; ⟨ma, mv, k, h1, hg5 _ _ h2, h3⟩⟩ I5 hoa5 hov5 fun g6 m6 oa6 ov6 k6 t6 s6 b6 hb6 hg6 I6 ht6 hm6 hoa6 hov6 => ?_
  have hg36 : ∀ b o, g3.get? b = some o → g6.get? b = some o := fun b o e => hg6 _ _ (hg5 _ _ e)
  have lk : ∀ x : Str, x ≠ Str.ofString "ordered" → (upd m6 "ordered" (.ref oa6)) x = m3 x := fun x hx => by
    unfold upd; rw [if_neg hx, hm6 x hx]
  exact law_7 R (G3.keeps hg36) (GX3.keeps hg36) hb6 ok (X3.ctx.keeps hg36) I6 ht6 hoa6 hov6 (hg36 _ _ hma) hmv ((lk _ (by decide +kernel)).trans hmg) lk_here ((lk _ (by decide +kernel)).trans X3.found) ((lk _ (by decide +kernel)).trans X3.lines) ((lk _ (by decide +kernel)).trans X3.ways) ⟨lv, isl_keeps hll hg36, hlr.keeps hg36⟩
end
/-! ## MEnd -/
/-- a def as the written heap has it -/
noncomputable def FnIn (K : Frag) (x : Str) (a k c : Nat) (dV : Value) : Prop :=
  nsIn K mainGlobals x = some (some (.ref a)) ∧ (∃ o pm, K.lookup a = some o ∧ o.data = .func (fdOf k c dV pm)) ∧ ∃ o vs t, K.lookup c = some o ∧ o.data = .fields vs ∧ vs[1]? = some (.str (fnName k) t)
/-- what is wanted of the written heap -/
structure KFacts (K : Frag) : Prop where
  free : ∀ x ∈ blts, nsIn K mainGlobals x = some none
  fns : ∀ d ∈ fns, FnIn K d.1 d.2.1 d.2.2.1 d.2.2.2.1 d.2.2.2.2
  told : FnIn K "_law_told" 179 27 178 .none
  miss : nsIn K mainGlobals "_initial_missing" = some (some (.ref 22))
  missO : ∃ o, K.lookup 22 = some o ∧ o.cls = .type "object"
  dflt : ∃ o n, K.lookup 23 = some o ∧ o.cls = .type "tuple" ∧ o.data = .seq #[.ref 22] n
theorem FnIn.at {K : Frag} {h : Heap} (X : K.In h) {x : Str} {a k c : Nat} {dV : Value} (e : FnIn K x a k c dV) : FnAt h a k c dV := by
  obtain ⟨_, ⟨o, pm, h1, h2⟩, o', vs, t, h3, h4, h5⟩ := e
  exact ⟨o, pm, X _ _ h1, h2, c, o', vs, t, rfl, X _ _ h3, h4, h5⟩
theorem kfacts (P : Params) : KFacts (K2 P) := by
  refine ⟨?_, ?_, ⟨by with_unfolding_all rfl, by with_unfolding_all exact ⟨_, _, rfl, rfl⟩, by with_unfolding_all exact ⟨_, _, _, rfl, rfl, rfl⟩⟩, by with_unfolding_all rfl, by with_unfolding_all exact ⟨_, rfl, rfl⟩, by with_unfolding_all exact ⟨_, _, rfl, rfl, rfl⟩⟩
  · intro x hx
    unfold blts at hx
    simp only [List.mem_cons, List.not_mem_nil, or_false] at hx
    rcases hx with rfl | rfl | rfl | rfl | rfl | rfl | rfl | rfl | rfl | rfl | rfl | rfl | rfl | rfl | rfl | rfl | rfl | rfl | rfl | rfl | rfl | rfl <;> with_unfolding_all rfl
  · intro d hd
    unfold Mine.fns at hd
    simp only [List.mem_cons, List.not_mem_nil, or_false] at hd
    rcases hd with rfl | rfl | rfl | rfl | rfl | rfl | rfl | rfl | rfl | rfl | rfl | rfl <;>
      exact ⟨by with_unfolding_all rfl, by with_unfolding_all exact ⟨_, _, rfl, rfl⟩, by with_unfolding_all exact ⟨_, _, _, rfl, rfl, rfl⟩⟩
theorem gf_head {K : Frag} (KF : KFacts K) {h : Heap} {mg mb : Str → Option Value} (X : K.In h) (g : h.Ns mainGlobals mg) (b : h.Ns builtinsNs mb) (nl : h.NoLimit) (bi : ∀ x : Str, x ≠ "__name__" → mb x = bootBuiltins x) : GF mg mb h where
  g := g
  b := b
  nolimit := nl
  bi := bi
  free := fun x hx => mg_none_of X g (KF.free x hx)
  fn := fun d hd => ⟨mg_of X g (KF.fns d hd).1, (KF.fns d hd).at X⟩
  miss := mg_of X g KF.miss
  missO := let ⟨o, h1, h2⟩ := KF.missO; ⟨o, X 22 o h1, h2⟩
  dflt := let ⟨o, n, h1, h2, h3⟩ := KF.dflt; ⟨o, X 23 o h1, h2, n, h3⟩
theorem post_true (args : List WData) : RW2.row.claim.post args (.bool true) args = true := by
  with_unfolding_all rfl
theorem law_head {K : Frag} {w : World} {s₁ : Shared} {mg mb : Str → Option Value} {p : Program} {loose : List Str} {mean : ExcName → Option Value} {sa : Addr} {h₁ : Heap} {tk₁ : Nat} {ow : Obj} {v₀ : Option Value} {sv : List Value} {ns : List Int} {m : Str → Option Value} {env : Env} {body : List Stmt}
    {E : Value → Shared → Prop} {prog : Program} {cl : Str → Option Addr} {mean' : ExcName → Option Value} {args : List WData}
    (X : K.In (ghostOf s₁.heap [(178, 174), (183, 181)])) (T : Top p loose mean mg mb (ghostOf s₁.heap [(178, 174), (183, 181)])) (F : Fr (ghostOf s₁.heap [(178, 174), (183, 181)]) s₁.heap.objs.size h₁ m)
    (N : News (ghostOf s₁.heap [(178, 174), (183, 181)]) s₁.heap.objs.size h₁ [(s₁.heap.objs.size + 1, ow), (174, tabObj #[]), (181, tabObj #[])])
    (c1 : CodeHd (ghostOf s₁.heap [(178, 174), (183, 181)]) 178 174) (c2 : CodeHd (ghostOf s₁.heap [(178, 174), (183, 181)]) 183 181) (hl : (ghostOf s₁.heap [(178, 174), (183, 181)]).IsList sa sv.toArray) (hI : IntsAre sv ns) (hlen : ¬ (63 : Int) < (ns.length : Int)) (hoc : ow.data = .cell v₀) (hg : s₁.gens = #[])
    (hl0 : 174 < s₁.heap.objs.size ∧ 181 < s₁.heap.objs.size)
    (KF : KFacts K) (hpost : RW2.row.claim.post args (.bool true) args = true)
    (hm : m = upd (fun _ => none) "script" (.ref sa)) (he : ∃ fa, env = lawEnv .none s₁.heap.objs.size fa) (hb : fnBody 28 = body) :
    wpAny (model prog w) (callerA.deeper env) (execs body env)
      (fun f s' => GoodW RW2.row.claim cl mean' args { heap := ghostOf s₁.heap [(178, 174), (183, 181)], gens := s₁.gens, drawn := s₁.drawn, toks := s₁.toks, os := s₁.os } (.ok (.ret (match f with | .ret v => v | _ => .none))) s' ∧ GrownAll [(178, 174), (183, 181)] s'.heap) E
      { heap := h₁, gens := s₁.gens, drawn := s₁.drawn, toks := tk₁, os := s₁.os } := by
  obtain ⟨fa, rfl⟩ := he
  subst hm
  have G := gf_head KF X T.g T.b T.nolimit T.builtins
  have GXg : GX mg (ghostOf s₁.heap [(178, 174), (183, 181)]) := ⟨c1, c2, T.bmain, mg_of X T.g KF.told.1, KF.told.at X⟩
  have R : Room (callerA.deeper (lawEnv .none s₁.heap.objs.size fa)) 60 := ⟨rfl, by show 1 + claimMargin + 1 + 60 < 1000; decide +kernel, by show 4 + 3 + 10 * 60 + 10 < 9900; decide⟩
  have I : At (ghostOf s₁.heap [(178, 174), (183, 181)]) s₁.heap.objs.size (upd (fun _ => none) "script" (.ref sa)) [(s₁.heap.objs.size + 1, ow), (174, tabObj #[]), (181, tabObj #[])] { heap := h₁, gens := s₁.gens, drawn := s₁.drawn, toks := tk₁, os := s₁.os } { heap := h₁, gens := s₁.gens, drawn := s₁.drawn, toks := tk₁, os := s₁.os } := by
    refine ⟨F.ns, F.keep, Heap.get?_none_of_le F.above, N, ?_, rfl⟩
    simp only [List.map_cons, List.map_nil, List.nodup_cons, List.mem_cons, List.not_mem_nil, or_false, not_or, not_false_iff, List.nodup_nil, and_true]
    exact ⟨⟨Nat.ne_of_gt (Nat.lt_succ_of_lt hl0.1), Nat.ne_of_gt (Nat.lt_succ_of_lt hl0.2)⟩, by decide⟩
  refine wpAny_mono (law_all R (Around.frames_deeper rfl) G GXg hb hl hI (by omega) hoc I) (fun f s' hq => ?_) fun _ _ x => x.elim
  obtain ⟨rfl, ⟨h', tk, rfl⟩, hkeep, h174, h181⟩ := hq
  exact ⟨⟨.inl ⟨.bool true, .bool true, [], rfl, fun _ => rfl, .bool true, hpost, fun _ => ⟨List.nodup_nil, fun a h => nomatch h⟩⟩, hkeep, rfl, hg⟩, h174, h181, trivial⟩
end Mine
namespace Mine
/-- the head's tactic asks for a quick twin of the program under this theorem's name: the program itself will do -/
def hd.tw18009907428773884274 : PySem.Program := PySem.Challenge.pw_ik0061_01
theorem hd.te18009907428773884274 : PySem.Challenge.pw_ik0061_01 = hd.tw18009907428773884274 := rfl
end Mine
open PySem PySem.W PyProof.Rows
set_option Elab.async true in
theorem Mine.hd : Mine.RW2.Holds := by
  w_on; o_law
  refine holds_open (q := Mine.VW) (loose := ["_initial_missing", "reduce"]) (Xt := fun s => xlAt Mine.VW [] s && recOk (RowW.records Mine.RW2.row.toRowW) s) (XP := XL Mine.VW []) (Yf := Hook.obs (kmHook Mine.K2 Mine.hkl Mine.hke [174, 181])) (Ya := Hook.val (kmHook Mine.K2 Mine.hkl Mine.hke [174, 181])) (YP := Hook.says (kmHook Mine.K2 Mine.hkl Mine.hke [174, 181])) (N := 2464) Mine.left_all (Hook.of (kmHook Mine.K2 Mine.hkl Mine.hke [174, 181])) (Hook.keeps (kmHook Mine.K2 Mine.hkl Mine.hke [174, 181])) (fun s e => xl_of s (Bool.and_eq_true_iff.mp e).1) XL.keeps (by rfl) (by rfl) (by rfl) (fun s e => recFacts_of (Bool.and_eq_true_iff.mp e).2) (by rfl) (by first | assumption | decide +kernel) (by decide +kernel) ⟨rfl, rfl, rfl, rfl, rfl, by decide +kernel⟩ ?hw ?hc
  (case hw => w_witness2)
  w_strict (
    k_go0
    refine Mine.law_head (by assumption) (by assumption) (by assumption) (by assumption) (by assumption) (by assumption) (by assumption) (by assumption) (by assumption) (by assumption) (by assumption) (by assumption) (Mine.kfacts _) (Mine.post_true _) ?hx2 ?hx3 ?hx4
    case hx2 => with_unfolding_all rfl
    case hx3 => with_unfolding_all exact ⟨_, rfl⟩
    case hx4 => with_unfolding_all rfl)
theorem PySem.Challenge.cw_ik0061_01_holds : PySem.Challenge.rw_ik0061_01.Holds := by
  rw [← Mine.rw2_eq]
  exact Mine.hd

