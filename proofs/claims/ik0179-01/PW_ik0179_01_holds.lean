import PyProof.Rows.All
import Wide.All
import OpenK.AllK
import Wide.FinOn
import PySem.Challenge.RW_ik0179_01
open PySem PySem.W PyProof.Rows
set_option Elab.async false
set_option compiler.extract_closed false
namespace Mine
set_option maxRecDepth 100000 in
set_option maxHeartbeats 8000000 in
open_top hd for PySem.Challenge.rw_ik0179_01
end Mine
open PySem.Calls
set_option maxRecDepth 100000
namespace Mine
/-- no exception leaves -/
abbrev NE : Value → Shared → Prop := fun _ _ => False
abbrev PR : Program := PySem.Challenge.rw_ik0179_01.row.prog
/-- all but S is kept -/
noncomputable def KB (S : List Addr) (h h' : Heap) : Prop := ∀ b o, h.get? b = some o → b ∉ S → h'.get? b = some o
theorem KB.refl {S : List Addr} {h : Heap} : KB S h h := fun _ _ e _ => e
theorem KB.trans {S : List Addr} {h h' h'' : Heap} (a : KB S h h') (b : KB S h' h'') : KB S h h'' := fun x o e n => b x o (a x o e n) n
theorem KB.of_stays {S : List Addr} {h h' : Heap} (a : h.StaysIn h') : KB S h h' := fun b o e _ => a b o e
theorem KB.hide {l : Addr} {h h' : Heap} (a : (h.hide l).StaysIn h') : KB [l] h h' := fun b o e n => a b o ((Heap.hide_ne h (fun q => n (by rw [q]; exact .head _))).trans e)
theorem KB.stays_hide {l : Addr} {h h' : Heap} (a : KB [l] h h') : (h.hide l).StaysIn (h'.hide l) := fun b o e => by
  have hb : b ≠ l := fun q => by rw [q, Heap.hide_self] at e; cases e
  rw [Heap.hide_ne h' hb]
  exact a b o ((Heap.hide_ne h hb).symm.trans e) (fun q => hb (List.mem_singleton.mp q))
theorem stays_of_hide {l : Addr} {h : Heap} : (h.hide l).StaysIn h := fun _ _ e => Heap.of_hide e

structure Wd (w : World) (mean : ExcName → Option Value) (mg mb : Str → Option Value) (h : Heap) : Prop where
  X : (hd.heap_39 w.params).In h
  T : Top hd.view_39 (looseW hd.view_39 [Str.ofString "COMPILER_FLAG_NAMES"]) mean mg mb h
theorem Wd.keeps {w : World} {mean : ExcName → Option Value} {mg mb : Str → Option Value} {h h' : Heap} (W : Wd w mean mg mb h) (k : h.StaysIn h') : Wd w mean mg mb h' := ⟨W.X.keeps k, W.T.keeps k⟩

theorem enter {w : World} {A : Around} {E : Value → Shared → Prop} {s : Shared} {Q : Value → Shared → Prop} {K : Frag} {name qual : Str} {params : Arguments} {body : List Stmt} {scope : Scope} {dV kV doc pm cdv ct oc : Value} {an od : Option Addr} {osl : Array (Option Value)} {f : Addr}
    {pos : List Value} {kw : List (Str × Value)} {binds : List (Str × Value)}
    (X : K.In s.heap) (hlim : s.heap.NoLimit)
    (ho : K.lookup f = some ⟨oc, od, .func (fnOf name qual params body scope dV kV doc pm an cdv ct), osl⟩) (hcd : codeIn K cdv qual = true) (hroom : A.depth < recursionLimit)
    (hbind : BindsTo s (fnOf name qual params body scope dV kV doc pm an cdv ct) ⟨pos, kw⟩ binds) (hloc : ∀ y ∈ binds, scope.names.lookup y.1 = some .local)
    (h : ∀ h₁, Fr s.heap s.heap.objs.size h₁ (fun y => binds.reverse.lookup y) →
      wpAny (model PR w) (A.deeper (envOf qual scope s.heap.objs.size f cdv)) (execs body (envOf qual scope s.heap.objs.size f cdv))
        (fun fl s' => Q (match fl with | .ret v => v | _ => .none) s') NE
        { s with heap := h₁, toks := s.toks + binds.length })
    (hco : scope.isCoroutine = false := by rfl) (hgen : scope.isGenerator = false := by rfl) (hk : scope.kind = .function := by rfl)
    (hcell : ∀ x ∈ scope.names, x.2 ≠ .cell := by decide) : wpAny (model PR w) A (call (.ref f) pos kw) Q E s := by
  refine wpAny_call ?_
  refine codeAny_call_def (fd := fnOf name qual params body scope dV kV doc pm an cdv ct) (body := body) (binds := binds) hroom (X _ _ ho) rfl hlim (codeRec_of X hcd) rfl hbind hcell hloc (fun h₁ hns hk₁ => ?_) hco hgen hk
  exact wpAny_mono (h h₁ ⟨hns, hk₁, Nat.le_refl _⟩) (fun fl s' q => q) fun _ _ q => q.elim

/-- a frame over the heap without l -/
theorem fr_hide {l L : Addr} {h h₁ : Heap} {m : Str → Option Value} (F : Fr h L h₁ m) : Fr (h.hide l) L h₁ m := ⟨F.ns, fun b o e => F.keep b o (Heap.of_hide e), by rw [Heap.hide_size]; exact F.above⟩
theorem news_hide {l L : Addr} {h h₁ : Heap} {m : Str → Option Value} {o : Obj} (F : Fr h L h₁ m) (e : h.get? l = some o) : News (h.hide l) L h₁ [(l, o)] := fun p hp => by
  cases List.mem_singleton.mp hp
  exact ⟨F.keep _ _ e, Nat.ne_of_lt (Nat.lt_of_lt_of_le (Heap.lt_size e) F.above), Heap.hide_self h l⟩
theorem stays_hide {l : Addr} {B h : Heap} (k : B.StaysIn h) (n : B.get? l = none) : B.StaysIn (h.hide l) := fun b o e => by
  have hb : b ≠ l := fun q => by rw [q, n] at e; cases e
  rw [Heap.hide_ne h hb]
  exact k b o e
theorem stays_KB {l : Addr} {B h h' : Heap} (k : B.StaysIn h) (n : B.get? l = none) (q : KB [l] h h') : B.StaysIn h' := fun b o e => q b o (k b o e) fun m => by
  rw [List.mem_singleton.mp m, n] at e; cases e
theorem StaysIn.trans {a b c : Heap} (x : a.StaysIn b) (y : b.StaysIn c) : a.StaysIn c := fun p o e => y p o (x p o e)
theorem fr_stays {h₀ h h' : Heap} {L : Addr} {m : Str → Option Value} (F : Fr h₀ L h m) (k : h.StaysIn h') : Fr h₀ L h' m := ⟨F.ns.keeps k, fun b o e => k _ _ (F.keep b o e), F.above⟩
theorem news_stays {h₀ h h' : Heap} {L : Addr} {news : List (Addr × Obj)} (N : News h₀ L h news) (k : h.StaysIn h') : News h₀ L h' news := fun p hp => ⟨k _ _ (N p hp).1, (N p hp).2⟩
theorem fr_KB {l L : Addr} {B h h' : Heap} {m : Str → Option Value} (F : Fr B L h m) (n : B.get? l = none) (hL : L ≠ l) (q : KB [l] h h') : Fr B L h' m := by
  obtain ⟨o, es, ep, ho, r⟩ := F.ns
  exact ⟨⟨o, es, ep, q _ _ ho (fun m => hL (List.mem_singleton.mp m)), r⟩, stays_KB F.keep n q, F.above⟩
theorem news_KB {l L : Addr} {B h h' : Heap} {o o' : Obj} {news : List (Addr × Obj)} (N : News B L h ((l, o) :: news)) (hn : ∀ p ∈ news, p.1 ≠ l) (q : KB [l] h h') (e : h'.get? l = some o') : News B L h' ((l, o') :: news) := fun p hp => by
  rcases List.mem_cons.mp hp with rfl | hp
  · exact ⟨e, (N _ (.head _)).2⟩
  · exact ⟨q _ _ (N p (.tail _ hp)).1 (fun m => hn p hp (List.mem_singleton.mp m)), (N p (.tail _ hp)).2⟩
theorem lk_ne {x y : Str} {i : Decidable (x = y)} {a b r : Option Value} (h : x ≠ y) (k : b = r) : (@ite _ (x = y) i a b) = r := (if_neg h).trans k
theorem lk_eq {x : Str} {i : Decidable (x = x)} {a b : Option Value} : (@ite _ (x = x) i a b) = a := if_pos rfl
/-- the name holds this int -/
noncomputable def LI (m : Str → Option Value) (x : Str) (i : Int) : Prop := ∃ t, m x = some (.int i t)
theorem li_of {m : Str → Option Value} {x : Str} {i j : Int} {t : Tok} (h : m x = some (.int i t)) (e : i = j) : LI m x j := ⟨t, e ▸ h⟩
theorem m_int {m : Option Value} {i j : Int} {t : Tok} (h : m = some (.int i t)) (e : i = j) : m = some (.int j t) := e ▸ h
abbrev listO (vs : List Value) (n : Nat) : Obj := { cls := .type "list", data := .seq vs.toArray n }
/-- for the walk's questions: the goal runs x -/
abbrev At {α : Type} {M : Model} {A : Around} {Q : α → Shared → Prop} {E : Value → Shared → Prop} {s : Shared} (x : Sem α) : Prop := wpAny M A x Q E s
/-- what is asked at the end is held under a name -/
theorem hidePost {α : Type} {M : Model} {A : Around} {x : Sem α} {P : α → Shared → Prop} {E : Value → Shared → Prop} {s : Shared} (h : ∀ T : α → Shared → Prop, (∀ v s', P v s' → T v s') → wpAny M A x T E s) : wpAny M A x P E s := h P fun _ _ q => q
theorem roomU {A : Around} {e : Env} {n k : Nat} (h : A.units + n < cLine) (q : 3 + k ≤ n) : (A.deeper e).units + k < cLine :=
  Nat.lt_of_le_of_lt (Nat.le_trans (Nat.le_of_eq (Nat.add_assoc A.units 3 k)) (Nat.add_le_add_left q _)) h
theorem roomD {A : Around} {e : Env} {n k : Nat} (h : A.depth + n < recursionLimit) (q : 1 + k ≤ n) : (A.deeper e).depth + k < recursionLimit :=
  Nat.lt_of_le_of_lt (Nat.le_trans (Nat.le_of_eq (Nat.add_assoc A.depth 1 k)) (Nat.add_le_add_left q _)) h
local macro_rules | `(tactic| walk_at "m_lk") => `(tactic| first | with_reducible assumption | with_reducible exact lk_eq | (with_reducible refine lk_ne ?hne9 ?_; (case hne9 => decide); walk_at "m_lk"))
local macro_rules | `(tactic| walk_at "m_cl") => `(tactic| ((case k1 => assumption); (case k2 => walk_at "m_lk")))
local macro_rules | `(tactic| walk_at "eval Name") => `(tactic| ((first | ((with_reducible show At (eval (.Name _ _) (envOfC _ _ _ _ _))); refine' ldLoc ?k1 ?k2 ?_) | ((with_reducible show At (eval (.Name _ _) (envOf _ _ _ _ _))); refine' ld ?k1 ?k2 ?_)); walk_at "m_cl"))
local macro_rules | `(tactic| walk_at "loadName") => `(tactic| ((with_reducible show At (loadName (envOf _ _ _ _ _) _)); refine' ldn ?k1 ?k2 ?_; walk_at "m_cl"))
local macro_rules | `(tactic| walk_at "call builtin:str.startswith") => `(tactic| refine PySem.SC.startswith ?_)
local macro_rules | `(tactic| walk_at "call builtin:str.endswith") => `(tactic| refine PySem.SC.endswith ?_)
local macro_rules | `(tactic| walk_at "getMethod str") => `(tactic| with_reducible (first | refine PySem.GM.startswith ?_ | refine PySem.GM.endswith ?_ | refine PySem.GM.rfind ?_ | refine PySem.GM.split ?_ | refine PySem.GM.join ?_ | refine PySem.GM.rstrip ?_ | refine PySem.GM.count ?_))
theorem fill_frag : hd.heap_39 = hd.heap_39 ∧ PySem.Challenge.rw_ik0179_01 = PySem.Challenge.rw_ik0179_01 := by
  k_fill
  exact ⟨rfl, rfl⟩
noncomputable def AllR {α : Type} (R : Value → α → Prop) (vs : List Value) (xs : List α) : Prop := vs.length = xs.length ∧ ∀ (i : Nat) v x, vs[i]? = some v → xs[i]? = some x → R v x
theorem AllR.get {α : Type} {R : Value → α → Prop} {vs : List Value} {xs : List α} (h : AllR R vs xs) {i : Nat} {x : α} (e : xs[i]? = some x) : ∃ v, vs[i]? = some v ∧ R v x := by
  have hi : i < vs.length := by rw [h.1]; exact (List.getElem?_eq_some_iff.mp e).1
  exact ⟨vs[i], List.getElem?_eq_getElem hi, h.2 i _ _ (List.getElem?_eq_getElem hi) e⟩
theorem AllR.set {α : Type} {R : Value → α → Prop} {vs : List Value} {xs : List α} (h : AllR R vs xs) {i : Nat} {v : Value} {x : α} (r : R v x) : AllR R (vs.set i v) (xs.set i x) := by
  refine ⟨by simp [h.1], fun j v' x' e1 e2 => ?_⟩
  rw [List.getElem?_set] at e1 e2
  by_cases hij : i = j
  · rw [if_pos hij] at e1 e2
    split at e1 <;> split at e2 <;> simp_all
  · rw [if_neg hij] at e1 e2
    exact h.2 j v' x' e1 e2
structure Ord (w : World) (α : Type) where
  R : Heap → Value → α → Prop
  mono : ∀ {h h' v x}, h.StaysIn h' → R h v x → R h' v x
  lt : α → α → Bool
  cmp : ∀ {A : Around} {s : Shared} {v1 v2 : Value} {x1 x2 : α} {Q : Value → Shared → Prop}, R s.heap v1 x1 → R s.heap v2 x2 → A.units + 100 < cLine → A.depth + 10 < recursionLimit →
    (∀ h' tk, s.heap.StaysIn h' → Q (.bool (lt x1 x2)) { s with heap := h', toks := tk }) → wpAny (model PR w) A (compareOp .Lt v1 v2) Q NE s

/-- _siftdown's loop: what is left to do -/
noncomputable def sdown {α : Type} (lt : α → α → Bool) (st : Nat) (x : α) : Nat → Nat → List α → List α
  | 0, pos, xs => xs.set pos x
  | k + 1, pos, xs => if st < pos then (match xs[(pos - 1) / 2]? with
      | some p => if lt x p then sdown lt st x k ((pos - 1) / 2) (xs.set pos p) else xs.set pos x
      | none => xs.set pos x) else xs.set pos x

theorem while_rule {w : World} {A : Around} {s : Shared} {env : Env} {test : Expr} {body : List Stmt} {pos : Pos} {Q : Flow → Shared → Prop} (I : Nat → Shared → Prop)
    (turn : ∀ n s, I n s → wpAny (model PR w) A (isTrue test env (eval test env)) (fun b s₂ =>
        if b then wpAny (model PR w) A (execs body env) (fun f s₃ => match f with
            | .next | .cont => ∃ m, m < n ∧ I m s₃
            | .brk => Q .next s₃
            | .ret v => Q (.ret v) s₃) NE s₂
        else Q .next s₂) NE s)
    (n : Nat) (h : I n s) : wpAny (model PR w) A (exec (.While test body [] pos) env) Q NE s := by
  refine wpAny_While (codeAny_whileLoop I (fun n s hI => wpAny_mono (turn n s hI) (fun b s₂ q => ?_) (fun _ _ q => q.elim)) n h)
  cases b with
  | false => exact wpAny_execs_nil q
  | true =>
    refine wpAny_mono q (fun f s₃ q => ?_) (fun _ _ q => q.elim)
    cases f <;> exact q

theorem while_cut {w : World} {A : Around} {s : Shared} {env : Env} {test : Expr} {body : List Stmt} {pos : Pos} {Q : Flow → Shared → Prop} (I : Nat → Shared → Prop) (J : Shared → Prop)
    (n : Nat) (h : I n s)
    (turn : ∀ n s, I n s → ∀ (T : Flow → Shared → Prop) (J' : Shared → Prop), (∀ f s₃, (match f with
            | .next | .cont => ∃ m, m < n ∧ I m s₃
            | .brk => J s₃
            | .ret v => Q (.ret v) s₃) → T f s₃) → (∀ s₃, J s₃ → J' s₃) → wpAny (model PR w) A (isTrue test env (eval test env)) (fun b s₂ =>
        if b then wpAny (model PR w) A (execs body env) T NE s₂
        else J' s₂) NE s)
    (fin : ∀ s', J s' → Q .next s') : wpAny (model PR w) A (exec (.While test body [] pos) env) Q NE s :=
  while_rule I (fun n s hI => wpAny_mono (turn n s hI _ _ (fun _ _ q => q) fun _ q => q) (fun b s₂ q => by
    cases b with
    | false => exact fin _ q
    | true => exact wpAny_mono q (fun f s₃ q => by cases f <;> first | exact q | exact fin _ q) fun _ _ q => q) fun _ _ q => q) n h
theorem item_sub {w : World} {A : Around} {s : Shared} {base : Heap} {L l : Addr} {news : List (Addr × Obj)} {vs : List Value} {n k : Nat} {u : Tok} {v : Value} {value slice : Expr} {Q : Value → Shared → Prop} {E : Value → Shared → Prop} (N : News base L s.heap news) (hm : (l, listOf vs.toArray n) ∈ news)
    (hx : vs[k]? = some v) (hfit : (k : Int) < 2 ^ 63) (h : Q v s)
    (hs : subscripted slice false (.ref l) (.int k u) = operate [.ref l, .int k u] (getItem (.ref l) (.int k u)) := by with_unfolding_all rfl) :
    wpAny (model PR w) A (subscriptTail value slice (.ref l) (.int k u)) Q E s :=
  tail_any (PySem.IsL.isList (n := n) (N _ hm).1).typeIs slot_list_getitem.lookup (wpAny_getItem_list (PySem.IsL.isList (n := n) (N _ hm).1) (by omega) hfit (by simpa using hx) h) hs
theorem item_subI {w : World} {A : Around} {s : Shared} {base : Heap} {L l : Addr} {news : List (Addr × Obj)} {vs : List Value} {n k : Nat} {i : Int} {u : Tok} {v : Value} {value slice : Expr} {Q : Value → Shared → Prop} {E : Value → Shared → Prop} (N : News base L s.heap news) (hm : (l, listOf vs.toArray n) ∈ news)
    (hi : i = k) (hx : vs[k]? = some v) (hfit : (k : Int) < 2 ^ 63) (h : Q v s)
    (hs : subscripted slice false (.ref l) (.int i u) = operate [.ref l, .int i u] (getItem (.ref l) (.int i u)) := by with_unfolding_all rfl) :
    wpAny (model PR w) A (subscriptTail value slice (.ref l) (.int i u)) Q E s := by
  subst hi
  exact item_sub N hm hx hfit h hs
theorem item_set {w : World} {A : Around} {s : Shared} {base : Heap} {L l : Addr} {m : Str → Option Value} {news news' : List (Addr × Obj)} {vs : List Value} {n k : Nat} {u : Tok} {v : Value} {Q : Unit → Shared → Prop} {E : Value → Shared → Prop}
    (F : Fr base L s.heap m) (N : News base L s.heap news) (U : Upd l (listOf vs.toArray n) (listOf (vs.set k v).toArray n) news news')
    (hx : k < vs.length) (hfit : (k : Int) < 2 ^ 63) (h : ∀ h', Fr base L h' m → News base L h' news' → Q () { s with heap := h' }) :
    wpAny (model PR w) A (setItem (.ref l) (.int k u) v) Q E s := by
  obtain ⟨pre, post, rfl, rfl, a, b⟩ := U.split
  have z := N (l, listOf vs.toArray n) (List.mem_append.mpr (.inr (.head _)))
  refine ki_setAt z.1 (by omega) hfit (by simp; omega) (h _ (F.change (Heap.SameBut.update ..) z.2.1 z.2.2) (ki_turn _ N a b ?_ ?_))
  · show vs.toArray.setIfInBounds _ v = (vs.set k v).toArray
    apply Array.toList_inj.mp
    simp
  · simp

theorem half_nat {p st : Nat} (h : (st : Int) < (p : Int)) : ((p : Int) - 1).fdiv (2 ^ Int.toNat 1) = (((p - 1) / 2 : Nat) : Int) := by
  have : ((p : Int) - 1) = ((p - 1 : Nat) : Int) := by omega
  rw [this, show ((2 : Int) ^ Int.toNat 1) = ((2 : Nat) : Int) from rfl, Int.fdiv_eq_ediv_of_nonneg _ (by omega)]
  omega
inductive SdI {w : World} {α : Type} (O : Ord w α) (s : Shared) (l : Addr) (n len st : Nat) (t1 : Tok) (x : α) (v : Value) (R : List α) (B : Heap) : Nat → Shared → Prop
  | mk {h : Heap} {tk : Nat} {m : Str → Option Value} {vs' : List Value} {xs' : List α} {tp : Tok} {p k : Nat} (F : Fr (s.heap.hide l) s.heap.objs.size h m) (N : News (s.heap.hide l) s.heap.objs.size h [(l, listOf vs'.toArray n)]) (R' : AllR (O.R B) vs' xs')
    (hl : xs'.length = len) (hk : p ≤ k) (hp : p < len) (hs : sdown O.lt st x k p xs' = R) (m1 : m (Str.ofString "heap") = some (.ref l)) (m2 : m (Str.ofString "startpos") = some (.int st t1)) (m3 : m (Str.ofString "newitem") = some v) (m4 : m (Str.ofString "pos") = some (.int p tp)) :
    SdI O s l n len st t1 x v R B p { s with heap := h, toks := tk }
inductive SdJ {w : World} {α : Type} (O : Ord w α) (s : Shared) (l : Addr) (n len : Nat) (x : α) (v : Value) (R : List α) (B : Heap) : Shared → Prop
  | mk {h : Heap} {tk : Nat} {m : Str → Option Value} {vs' : List Value} {xs' : List α} {p : Nat} {tp : Tok} (F : Fr (s.heap.hide l) s.heap.objs.size h m) (N : News (s.heap.hide l) s.heap.objs.size h [(l, listOf vs'.toArray n)]) (R' : AllR (O.R B) vs' xs')
    (hl : xs'.length = len) (hp : p < len) (hs : xs'.set p x = R) (m1 : m (Str.ofString "heap") = some (.ref l)) (m3 : m (Str.ofString "newitem") = some v) (m4 : m (Str.ofString "pos") = some (.int p tp)) : SdJ O s l n len x v R B { s with heap := h, toks := tk }
set_option maxHeartbeats 8000000 in
theorem siftdown_spec {w : World} {mean : ExcName → Option Value} {mg mb : Str → Option Value} {α : Type} (O : Ord w α) {A : Around} {s : Shared} {l : Addr} {vs : List Value} {n : Nat} {xs : List α} {st ps : Nat} {t1 t2 : Tok} {x : α} {Q : Value → Shared → Prop}
    {B : Heap} (W : Wd w mean mg mb B) (hB : B.StaysIn s.heap) (hBl : B.get? l = none) (hl : s.heap.get? l = some (listO vs n)) (hR : AllR (O.R B) vs xs)
    (hu : A.units + 200 < cLine) (hd : A.depth + 20 < recursionLimit) (hlen : xs.length < 1000) (hx : xs[ps]? = some x)
    (hQ : ∀ h' tk vs' n', KB [l] s.heap h' → h'.get? l = some (listO vs' n') → AllR (O.R B) vs' (sdown O.lt st x ps ps xs) → Q .none { s with heap := h', toks := tk }) :
    wpAny (model PR w) A (call (.ref 57) [.ref l, .int st t1, .int ps t2]) Q NE s := by
  have k0 := stays_hide hB hBl
  have X := W.X.keeps k0
  have T := W.T.keeps k0
  have X' := X.keeps stays_of_hide
  refine' enter (binds := [(Str.ofString "heap", .ref l), (Str.ofString "startpos", .int st t1), (Str.ofString "pos", .int ps t2)]) X' (T.nolimit.keeps stays_of_hide) ?k6 ?k7 (by omega) ?k9 ?kB ?_ ?c2 ?c3 ?c4 ?c5
  case k6 => k_is
  case k7 => k_is
  case k9 => exact BindsTo.of_eq rfl
  case c5 => decide
  case kB => exact locs rfl
  case c2 => exact rfl
  case c3 => exact rfl
  case c4 => exact rfl
  intro h₁ F0
  have N := news_hide F0 hl
  have F := fr_hide (l := l) F0
  clear F0
  obtain ⟨v, hv, rv⟩ := hR.get hx
  have hps' : ps < xs.length := (List.getElem?_eq_some_iff.mp hx).1
  have hps : ps < 1000 := by
    have := (List.getElem?_eq_some_iff.mp hx).1
    omega
  (repeat' (first | ((with_reducible refine ⟨(by k_in : Frag.In _ _), ?_⟩); (try dsimp only [List.nil_append, List.cons_append])) | ((fail_if_success k_end); (fail_if_success (with_reducible (first | show At (call (.ref _) _ _) | show At (exec (.While _ _ _ _) _) | show At (exec (.For _ _ _ _ _) _) | show At (call (.type "range") _ _) | show At (pyIter _) | show At (eval (.ListComp _ _ _ _) _) | show At (eval (.DictComp _ _ _ _ _) _) | show At (subscriptTail _ _ _ _) | (show At (compareOp _ _ _); fail_if_success show At (compareOp _ (.int _ _) (.int _ _))) | show At (setItem _ _ _) | show At (call (.builtin _) _ _) | show At (exec (.Assign _ (.ListComp _ _ _ _) _) _) | show At (call (.type "enumerate") _ _)))); (walk1; try dsimp only))))
  refine item_sub N (.head _) hv (by omega) ?_
  (repeat' (first | ((with_reducible refine ⟨(by k_in : Frag.In _ _), ?_⟩); (try dsimp only [List.nil_append, List.cons_append])) | ((fail_if_success k_end); (fail_if_success (with_reducible (first | show At (call (.ref _) _ _) | show At (exec (.While _ _ _ _) _) | show At (exec (.For _ _ _ _ _) _) | show At (call (.type "range") _ _) | show At (pyIter _) | show At (eval (.ListComp _ _ _ _) _) | show At (eval (.DictComp _ _ _ _ _) _) | show At (subscriptTail _ _ _ _) | (show At (compareOp _ _ _); fail_if_success show At (compareOp _ (.int _ _) (.int _ _))) | show At (setItem _ _ _) | show At (call (.builtin _) _ _) | show At (exec (.Assign _ (.ListComp _ _ _ _) _) _) | show At (call (.type "enumerate") _ _)))); (walk1; try dsimp only))))
  obtain ⟨R, hRd⟩ : ∃ R, sdown O.lt st x ps ps xs = R := ⟨_, rfl⟩
  rw [hRd] at hQ
  refine while_cut (SdI O s l n xs.length st t1 x v R B) (SdJ O s l n xs.length x v R B) ps
    (.mk (tp := t2) (by assumption) (by assumption) hR rfl (Nat.le_refl _) hps' hRd rfl rfl rfl rfl) ?_ ?_
  · intro p s' hI T J' hT hJ
    cases hI with | @mk h2 tk2 m2 vs2 xs2 tp _ k F2 N2 R2 hlen2 hpk hp hsd m_heap m_st m_new m_pos
    (repeat' (first | ((with_reducible refine ⟨(by k_in : Frag.In _ _), ?_⟩); (try dsimp only [List.nil_append, List.cons_append])) | ((fail_if_success k_end); (fail_if_success (with_reducible (first | show At (call (.ref _) _ _) | show At (exec (.While _ _ _ _) _) | show At (exec (.For _ _ _ _ _) _) | show At (call (.type "range") _ _) | show At (pyIter _) | show At (eval (.ListComp _ _ _ _) _) | show At (eval (.DictComp _ _ _ _ _) _) | show At (subscriptTail _ _ _ _) | (show At (compareOp _ _ _); fail_if_success show At (compareOp _ (.int _ _) (.int _ _))) | show At (setItem _ _ _) | show At (call (.builtin _) _ _) | show At (exec (.Assign _ (.ListComp _ _ _ _) _) _) | show At (call (.type "enumerate") _ _)))); (walk1; try dsimp only))))
    · have hlt : (st : Int) < (p : Int) := by assumption
      have hpp := half_nat hlt
      have hp2 : (p - 1) / 2 < xs2.length := by omega
      obtain ⟨vp, hvp, rvp⟩ := R2.get (List.getElem?_eq_getElem hp2)
      refine item_subI ‹News _ _ _ _› (.head _) hpp hvp (by omega) ?_
      (repeat' (first | ((with_reducible refine ⟨(by k_in : Frag.In _ _), ?_⟩); (try dsimp only [List.nil_append, List.cons_append])) | ((fail_if_success k_end); (fail_if_success (with_reducible (first | show At (call (.ref _) _ _) | show At (exec (.While _ _ _ _) _) | show At (exec (.For _ _ _ _ _) _) | show At (call (.type "range") _ _) | show At (pyIter _) | show At (eval (.ListComp _ _ _ _) _) | show At (eval (.DictComp _ _ _ _ _) _) | show At (subscriptTail _ _ _ _) | (show At (compareOp _ _ _); fail_if_success show At (compareOp _ (.int _ _) (.int _ _))) | show At (setItem _ _ _) | show At (call (.builtin _) _ _) | show At (exec (.Assign _ (.ListComp _ _ _ _) _) _) | show At (call (.type "enumerate") _ _)))); (walk1; try dsimp only))))
      with_reducible rename Fr _ _ _ _ => F9
      with_reducible rename News _ _ _ _ => N9
      refine O.cmp (O.mono (StaysIn.trans k0 F9.keep) rv) (O.mono (StaysIn.trans k0 F9.keep) rvp) (roomU hu (by decide)) (roomD hd (by decide)) ?_
      intro h9 tk9 k9
      have F10 := fr_stays F9 k9
      have N10 := news_stays N9 k9
      clear F9 N9 k9
      dsimp only
      have hk : ∃ k', k = k' + 1 := ⟨k - 1, by omega⟩
      obtain ⟨k, rfl⟩ := hk
      have hst : st < p := by omega
      rw [sdown, if_pos hst, List.getElem?_eq_getElem hp2] at hsd
      dsimp only at hsd
      cases hc : O.lt x xs2[(p - 1) / 2] with
      | true =>
        have hx2 : p < vs2.length := by rw [R2.1]; omega
        rw [if_pos hc] at hsd
        (repeat' (first | ((with_reducible refine ⟨(by k_in : Frag.In _ _), ?_⟩); (try dsimp only [List.nil_append, List.cons_append])) | ((fail_if_success k_end); (fail_if_success (with_reducible (first | show At (call (.ref _) _ _) | show At (exec (.While _ _ _ _) _) | show At (exec (.For _ _ _ _ _) _) | show At (call (.type "range") _ _) | show At (pyIter _) | show At (eval (.ListComp _ _ _ _) _) | show At (eval (.DictComp _ _ _ _ _) _) | show At (subscriptTail _ _ _ _) | (show At (compareOp _ _ _); fail_if_success show At (compareOp _ (.int _ _) (.int _ _))) | show At (setItem _ _ _) | show At (call (.builtin _) _ _) | show At (exec (.Assign _ (.ListComp _ _ _ _) _) _) | show At (call (.type "enumerate") _ _)))); (walk1; try dsimp only))))
        refine item_set F10 N10 (.head (List.forall_mem_nil _)) hx2 (by omega) ?_
        intro h11 F11 N11
        clear F10 N10
        (repeat' (first | ((with_reducible refine ⟨(by k_in : Frag.In _ _), ?_⟩); (try dsimp only [List.nil_append, List.cons_append])) | ((fail_if_success k_end); (fail_if_success (with_reducible (first | show At (call (.ref _) _ _) | show At (exec (.While _ _ _ _) _) | show At (exec (.For _ _ _ _ _) _) | show At (call (.type "range") _ _) | show At (pyIter _) | show At (eval (.ListComp _ _ _ _) _) | show At (eval (.DictComp _ _ _ _ _) _) | show At (subscriptTail _ _ _ _) | (show At (compareOp _ _ _); fail_if_success show At (compareOp _ (.int _ _) (.int _ _))) | show At (setItem _ _ _) | show At (call (.builtin _) _ _) | show At (exec (.Assign _ (.ListComp _ _ _ _) _) _) | show At (call (.type "enumerate") _ _)))); (walk1; try dsimp only))))
        refine hT _ _ ⟨(p - 1) / 2, by omega, .mk (tp := tk2 + 1 + 1 + 1) (by assumption) (by assumption) (R2.set rvp) (by simp [hlen2]) (by omega) (by omega) hsd ?_ ?_ ?_ ?_⟩
        · walk_at "m_lk"
        · walk_at "m_lk"
        · walk_at "m_lk"
        · refine Eq.trans (if_pos rfl) ?_
          rw [hpp]
      | false =>
        rw [if_neg (by rw [hc]; exact Bool.false_ne_true)] at hsd
        (repeat' (first | ((with_reducible refine ⟨(by k_in : Frag.In _ _), ?_⟩); (try dsimp only [List.nil_append, List.cons_append])) | ((fail_if_success k_end); (fail_if_success (with_reducible (first | show At (call (.ref _) _ _) | show At (exec (.While _ _ _ _) _) | show At (exec (.For _ _ _ _ _) _) | show At (call (.type "range") _ _) | show At (pyIter _) | show At (eval (.ListComp _ _ _ _) _) | show At (eval (.DictComp _ _ _ _ _) _) | show At (subscriptTail _ _ _ _) | (show At (compareOp _ _ _); fail_if_success show At (compareOp _ (.int _ _) (.int _ _))) | show At (setItem _ _ _) | show At (call (.builtin _) _ _) | show At (exec (.Assign _ (.ListComp _ _ _ _) _) _) | show At (call (.type "enumerate") _ _)))); (walk1; try dsimp only))))
        refine hT _ _ (.mk (tp := tp) (by assumption) (by assumption) R2 hlen2 hp hsd ?_ ?_ ?_)
        · walk_at "m_lk"
        · walk_at "m_lk"
        · walk_at "m_lk"
    · have hlt : ¬ (st : Int) < (p : Int) := by assumption
      refine hJ _ (.mk F2 N2 R2 hlen2 hp ?_ m_heap m_new m_pos)
      rw [← hsd]
      cases k with
      | zero => rfl
      | succ k => rw [sdown, if_neg (by omega)]
  · intro s' hJ
    cases hJ with | @mk h2 tk2 m2 vs2 xs2 p tp F2 N2 R2 hlen2 hp hsd m_heap m_new m_pos
    try dsimp only
    (repeat' (first | ((with_reducible refine ⟨(by k_in : Frag.In _ _), ?_⟩); (try dsimp only [List.nil_append, List.cons_append])) | ((fail_if_success k_end); (fail_if_success (with_reducible (first | show At (call (.ref _) _ _) | show At (exec (.While _ _ _ _) _) | show At (exec (.For _ _ _ _ _) _) | show At (call (.type "range") _ _) | show At (pyIter _) | show At (eval (.ListComp _ _ _ _) _) | show At (eval (.DictComp _ _ _ _ _) _) | show At (subscriptTail _ _ _ _) | (show At (compareOp _ _ _); fail_if_success show At (compareOp _ (.int _ _) (.int _ _))) | show At (setItem _ _ _) | show At (call (.builtin _) _ _) | show At (exec (.Assign _ (.ListComp _ _ _ _) _) _) | show At (call (.type "enumerate") _ _)))); (walk1; try dsimp only))))
    have hx2 : p < vs2.length := by rw [R2.1]; omega
    refine item_set F2 N2 (.head (List.forall_mem_nil _)) hx2 (by omega) ?_
    intro h11 F11 N11
    (repeat' (first | ((with_reducible refine ⟨(by k_in : Frag.In _ _), ?_⟩); (try dsimp only [List.nil_append, List.cons_append])) | ((fail_if_success k_end); (fail_if_success (with_reducible (first | show At (call (.ref _) _ _) | show At (exec (.While _ _ _ _) _) | show At (exec (.For _ _ _ _ _) _) | show At (call (.type "range") _ _) | show At (pyIter _) | show At (eval (.ListComp _ _ _ _) _) | show At (eval (.DictComp _ _ _ _ _) _) | show At (subscriptTail _ _ _ _) | (show At (compareOp _ _ _); fail_if_success show At (compareOp _ (.int _ _) (.int _ _))) | show At (setItem _ _ _) | show At (call (.builtin _) _ _) | show At (exec (.Assign _ (.ListComp _ _ _ _) _) _) | show At (call (.type "enumerate") _ _)))); (walk1; try dsimp only))))
    refine hQ _ _ _ _ (KB.hide F11.keep) (N11.get (.head _)) (hsd ▸ R2.set rv)
theorem execs_cut {w : World} {A : Around} {s : Shared} {env : Env} {st : Stmt} {rest : List Stmt} {Q : Flow → Shared → Prop} (J : Shared → Prop)
    (h : wpAny (model PR w) A (exec st env) (fun f s' => f = .next ∧ J s') NE s) (k : ∀ s', J s' → wpAny (model PR w) A (execs rest env) Q NE s') : wpAny (model PR w) A (execs (st :: rest) env) Q NE s :=
  wpAny_execs_cons (wpAny_mono h (fun f s' q => by obtain ⟨rfl, q⟩ := q; exact k _ q) fun _ _ q => q)
/-- _siftup's loop: down along the smaller children -/
noncomputable def sup {α : Type} (lt : α → α → Bool) (x : α) : Nat → Nat → List α → List α × Nat
  | 0, pos, xs => (xs.set pos x, pos)
  | k + 1, pos, xs => match xs[2 * pos + 1]? with
    | none => (xs.set pos x, pos)
    | some a => match xs[2 * pos + 2]? with
      | none => sup lt x k (2 * pos + 1) (xs.set pos a)
      | some b => if lt a b then sup lt x k (2 * pos + 1) (xs.set pos a) else sup lt x k (2 * pos + 2) (xs.set pos b)
noncomputable def siftup {α : Type} (lt : α → α → Bool) (pos : Nat) (xs : List α) : List α := match xs[pos]? with
  | none => xs
  | some x => let r := sup lt x xs.length pos xs; sdown lt pos x r.2 r.2 r.1

inductive SupI {w : World} {α : Type} (O : Ord w α) (s : Shared) (l : Addr) (n len ps : Nat) (x : α) (v : Value) (R : List α × Nat) (B : Heap) (d : Nat) : Shared → Prop
  | mk {h : Heap} {tk : Nat} {m : Str → Option Value} {vs' : List Value} {xs' : List α} (p k : Nat)
    (F : Fr (s.heap.hide l) s.heap.objs.size h m) (N : News (s.heap.hide l) s.heap.objs.size h [(l, listOf vs'.toArray n)]) (R' : AllR (O.R B) vs' xs')
    (hl : xs'.length = len) (hd : d = len - p) (hk : d ≤ k) (hp : p < len) (hs : sup O.lt x k p xs' = R) (m1 : m (Str.ofString "heap") = some (.ref l)) (m2 : LI m (Str.ofString "endpos") len) (m3 : LI m (Str.ofString "startpos") (ps))
    (m4 : m (Str.ofString "newitem") = some v) (m5 : LI m (Str.ofString "pos") ((p : Nat))) (m6 : LI m (Str.ofString "childpos") ((2 * (p : Nat) + 1))) : SupI O s l n len ps x v R B d { s with heap := h, toks := tk }
inductive SupJ {w : World} {α : Type} (O : Ord w α) (s : Shared) (l : Addr) (n len ps : Nat) (x : α) (v : Value) (R : List α × Nat) (B : Heap) : Shared → Prop
  | mk {h : Heap} {tk : Nat} {m : Str → Option Value} {vs' : List Value} {xs' : List α} (p : Nat)
    (F : Fr (s.heap.hide l) s.heap.objs.size h m) (N : News (s.heap.hide l) s.heap.objs.size h [(l, listOf vs'.toArray n)]) (R' : AllR (O.R B) vs' xs')
    (hl : xs'.length = len) (hp : p < len) (hs : (xs'.set p x, p) = R) (m1 : m (Str.ofString "heap") = some (.ref l)) (m3 : LI m (Str.ofString "startpos") (ps))
    (m4 : m (Str.ofString "newitem") = some v) (m5 : LI m (Str.ofString "pos") ((p : Nat))) : SupJ O s l n len ps x v R B { s with heap := h, toks := tk }
inductive SupC {w : World} {α : Type} (O : Ord w α) (s : Shared) (l : Addr) (n len ps : Nat) (x : α) (v : Value) (R : List α × Nat) (B : Heap) (vs2 : List Value) (xs2 : List α) (k p : Nat) : Shared → Prop
  | mk {h : Heap} {tk : Nat} {m : Str → Option Value} {a : α} {va : Value} (c : Nat)
    (F : Fr (s.heap.hide l) s.heap.objs.size h m) (N : News (s.heap.hide l) s.heap.objs.size h [(l, listOf vs2.toArray n)]) (hpc : p < c) (hx : xs2[c]? = some a) (hv : vs2[c]? = some va) (r : O.R B va a)
    (hs : sup O.lt x k c (xs2.set p a) = R) (m1 : m (Str.ofString "heap") = some (.ref l)) (m2 : LI m (Str.ofString "endpos") len) (m3 : LI m (Str.ofString "startpos") (ps))
    (m4 : m (Str.ofString "newitem") = some v) (m5 : LI m (Str.ofString "pos") ((p : Nat))) (m6 : LI m (Str.ofString "childpos") ((c : Nat))) : SupC O s l n len ps x v R B vs2 xs2 k p { s with heap := h, toks := tk }
set_option maxHeartbeats 8000000 in
theorem siftup_spec {w : World} {mean : ExcName → Option Value} {mg mb : Str → Option Value} {α : Type} (O : Ord w α) {A : Around} {s : Shared} {l : Addr} {vs : List Value} {n : Nat} {xs : List α} {ps : Nat} {t2 : Tok} {x : α} {Q : Value → Shared → Prop}
    {B : Heap} (W : Wd w mean mg mb B) (hB : B.StaysIn s.heap) (hBl : B.get? l = none) (hl : s.heap.get? l = some (listO vs n)) (hR : AllR (O.R B) vs xs)
    (hu : A.units + 300 < cLine) (hd : A.depth + 30 < recursionLimit) (hlen : xs.length < 1000) (hx : xs[ps]? = some x)
    (hQ : ∀ h' tk vs' n', KB [l] s.heap h' → h'.get? l = some (listO vs' n') → AllR (O.R B) vs' (siftup O.lt ps xs) → Q .none { s with heap := h', toks := tk }) :
    wpAny (model PR w) A (call (.ref 64) [.ref l, .int ps t2]) Q NE s := by
  have k0 := stays_hide hB hBl
  have X := W.X.keeps k0
  have T := W.T.keeps k0
  have X' := X.keeps stays_of_hide
  refine' enter (binds := [(Str.ofString "heap", .ref l), (Str.ofString "pos", .int ps t2)]) X' (T.nolimit.keeps stays_of_hide) ?k6 ?k7 (by omega) ?k9 ?kB ?_ ?c2 ?c3 ?c4 ?c5
  case k6 => k_is
  case k7 => k_is
  case k9 => exact BindsTo.of_eq rfl
  case c5 => decide
  case kB => exact locs rfl
  case c2 => exact rfl
  case c3 => exact rfl
  case c4 => exact rfl
  intro h₁ F0
  have N := news_hide F0 hl
  have F := fr_hide (l := l) F0
  clear F0
  obtain ⟨v, hv, rv⟩ := hR.get hx
  have hps' : ps < xs.length := (List.getElem?_eq_some_iff.mp hx).1
  have hvl : vs.length = xs.length := hR.1
  (repeat' (first | ((with_reducible refine ⟨(by k_in : Frag.In _ _), ?_⟩); (try dsimp only [List.nil_append, List.cons_append])) | ((fail_if_success k_end); (fail_if_success (with_reducible (first | show At (call (.ref _) _ _) | show At (exec (.While _ _ _ _) _) | show At (exec (.For _ _ _ _ _) _) | show At (call (.type "range") _ _) | show At (pyIter _) | show At (eval (.ListComp _ _ _ _) _) | show At (eval (.DictComp _ _ _ _ _) _) | show At (subscriptTail _ _ _ _) | (show At (compareOp _ _ _); fail_if_success show At (compareOp _ (.int _ _) (.int _ _))) | show At (setItem _ _ _) | show At (call (.builtin _) _ _) | show At (exec (.Assign _ (.ListComp _ _ _ _) _) _) | show At (call (.type "enumerate") _ _)))); (walk1; try dsimp only))))
  refine kun_lenL (items := vs.toArray) (k := xs.length) (News.isList ‹News _ _ _ _› (.head _)) (by simp [hvl]) (by omega) ?_
  dsimp only
  (repeat' (first | ((with_reducible refine ⟨(by k_in : Frag.In _ _), ?_⟩); (try dsimp only [List.nil_append, List.cons_append])) | ((fail_if_success k_end); (fail_if_success (with_reducible (first | show At (call (.ref _) _ _) | show At (exec (.While _ _ _ _) _) | show At (exec (.For _ _ _ _ _) _) | show At (call (.type "range") _ _) | show At (pyIter _) | show At (eval (.ListComp _ _ _ _) _) | show At (eval (.DictComp _ _ _ _ _) _) | show At (subscriptTail _ _ _ _) | (show At (compareOp _ _ _); fail_if_success show At (compareOp _ (.int _ _) (.int _ _))) | show At (setItem _ _ _) | show At (call (.builtin _) _ _) | show At (exec (.Assign _ (.ListComp _ _ _ _) _) _) | show At (call (.type "enumerate") _ _)))); (walk1; try dsimp only))))
  refine item_sub ‹News _ _ _ _› (.head _) hv (by omega) ?_
  (repeat' (first | ((with_reducible refine ⟨(by k_in : Frag.In _ _), ?_⟩); (try dsimp only [List.nil_append, List.cons_append])) | ((fail_if_success k_end); (fail_if_success (with_reducible (first | show At (call (.ref _) _ _) | show At (exec (.While _ _ _ _) _) | show At (exec (.For _ _ _ _ _) _) | show At (call (.type "range") _ _) | show At (pyIter _) | show At (eval (.ListComp _ _ _ _) _) | show At (eval (.DictComp _ _ _ _ _) _) | show At (subscriptTail _ _ _ _) | (show At (compareOp _ _ _); fail_if_success show At (compareOp _ (.int _ _) (.int _ _))) | show At (setItem _ _ _) | show At (call (.builtin _) _ _) | show At (exec (.Assign _ (.ListComp _ _ _ _) _) _) | show At (call (.type "enumerate") _ _)))); (walk1; try dsimp only))))
  obtain ⟨R, hRdef⟩ : ∃ R, R = sup O.lt x xs.length ps xs := ⟨_, rfl⟩
  refine while_cut (SupI O s l n xs.length ps x v R B) (SupJ O s l n xs.length ps x v R B) (xs.length - ps)
    (.mk ps xs.length (by assumption) (by assumption) hR rfl rfl (by omega) hps' hRdef.symm rfl ⟨_, rfl⟩ ⟨_, rfl⟩ rfl ⟨_, rfl⟩ ⟨_, rfl⟩) ?_ ?_
  · intro d s' hI T J' hT hJ
    cases hI with | @mk h2 tk2 m2 vs2 xs2 p k F2 N2 R2 hlen2 hd' hpk hp hsd m_heap m_end m_st m_new m_pos m_child
    obtain ⟨_, m_end⟩ := m_end
    obtain ⟨_, m_st⟩ := m_st
    obtain ⟨_, m_pos⟩ := m_pos
    obtain ⟨_, m_child⟩ := m_child
    subst hd'
    try dsimp only
    by_cases hc : 2 * p + 1 < xs.length
    · have hk : ∃ k', k = k' + 1 := ⟨k - 1, by omega⟩
      obtain ⟨k, rfl⟩ := hk
      have hp2 : 2 * p + 1 < xs2.length := by omega
      obtain ⟨va, hva, rva⟩ := R2.get (List.getElem?_eq_getElem hp2)
      rw [sup, List.getElem?_eq_getElem hp2] at hsd
      dsimp only at hsd
      iterate 13 (walk1; try dsimp only)
      refine execs_cut (SupC O s l n xs.length ps x v R B vs2 xs2 k p) ?_ ?_
      · refine hidePost fun TW hTW => ?_
        (repeat' (first | ((with_reducible refine ⟨(by k_in : Frag.In _ _), ?_⟩); (try dsimp only [List.nil_append, List.cons_append])) | ((fail_if_success k_end); (fail_if_success (with_reducible (first | show At (call (.ref _) _ _) | show At (exec (.While _ _ _ _) _) | show At (exec (.For _ _ _ _ _) _) | show At (call (.type "range") _ _) | show At (pyIter _) | show At (eval (.ListComp _ _ _ _) _) | show At (eval (.DictComp _ _ _ _ _) _) | show At (subscriptTail _ _ _ _) | (show At (compareOp _ _ _); fail_if_success show At (compareOp _ (.int _ _) (.int _ _))) | show At (setItem _ _ _) | show At (call (.builtin _) _ _) | show At (exec (.Assign _ (.ListComp _ _ _ _) _) _) | show At (call (.type "enumerate") _ _)))); (walk1; try dsimp only))))
        · have hr : 2 * p + 2 < xs2.length := by omega
          obtain ⟨vb, hvb, rvb⟩ := R2.get (List.getElem?_eq_getElem hr)
          rw [List.getElem?_eq_getElem hr] at hsd
          dsimp only at hsd
          refine item_subI (k := 2 * p + 1) ‹News _ _ _ _› (.head _) (by omega) hva (by omega) ?_
          (repeat' (first | ((with_reducible refine ⟨(by k_in : Frag.In _ _), ?_⟩); (try dsimp only [List.nil_append, List.cons_append])) | ((fail_if_success k_end); (fail_if_success (with_reducible (first | show At (call (.ref _) _ _) | show At (exec (.While _ _ _ _) _) | show At (exec (.For _ _ _ _ _) _) | show At (call (.type "range") _ _) | show At (pyIter _) | show At (eval (.ListComp _ _ _ _) _) | show At (eval (.DictComp _ _ _ _ _) _) | show At (subscriptTail _ _ _ _) | (show At (compareOp _ _ _); fail_if_success show At (compareOp _ (.int _ _) (.int _ _))) | show At (setItem _ _ _) | show At (call (.builtin _) _ _) | show At (exec (.Assign _ (.ListComp _ _ _ _) _) _) | show At (call (.type "enumerate") _ _)))); (walk1; try dsimp only))))
          refine item_subI (k := 2 * p + 2) ‹News _ _ _ _› (.head _) (by omega) hvb (by omega) ?_
          (repeat' (first | ((with_reducible refine ⟨(by k_in : Frag.In _ _), ?_⟩); (try dsimp only [List.nil_append, List.cons_append])) | ((fail_if_success k_end); (fail_if_success (with_reducible (first | show At (call (.ref _) _ _) | show At (exec (.While _ _ _ _) _) | show At (exec (.For _ _ _ _ _) _) | show At (call (.type "range") _ _) | show At (pyIter _) | show At (eval (.ListComp _ _ _ _) _) | show At (eval (.DictComp _ _ _ _ _) _) | show At (subscriptTail _ _ _ _) | (show At (compareOp _ _ _); fail_if_success show At (compareOp _ (.int _ _) (.int _ _))) | show At (setItem _ _ _) | show At (call (.builtin _) _ _) | show At (exec (.Assign _ (.ListComp _ _ _ _) _) _) | show At (call (.type "enumerate") _ _)))); (walk1; try dsimp only))))
          with_reducible rename Fr _ _ _ _ => F9
          with_reducible rename News _ _ _ _ => N9
          refine O.cmp (O.mono (StaysIn.trans k0 F9.keep) rva) (O.mono (StaysIn.trans k0 F9.keep) rvb) (roomU hu (by decide)) (roomD hd (by decide)) ?_
          intro h9 tk9 k9
          have F10 := fr_stays F9 k9
          have N10 := news_stays N9 k9
          clear F9 N9 k9
          dsimp only
          cases hlt : O.lt xs2[2 * p + 1] xs2[2 * p + 2] with
          | true =>
            rw [if_pos hlt] at hsd
            (repeat' (first | ((with_reducible refine ⟨(by k_in : Frag.In _ _), ?_⟩); (try dsimp only [List.nil_append, List.cons_append])) | ((fail_if_success k_end); (fail_if_success (with_reducible (first | show At (call (.ref _) _ _) | show At (exec (.While _ _ _ _) _) | show At (exec (.For _ _ _ _ _) _) | show At (call (.type "range") _ _) | show At (pyIter _) | show At (eval (.ListComp _ _ _ _) _) | show At (eval (.DictComp _ _ _ _ _) _) | show At (subscriptTail _ _ _ _) | (show At (compareOp _ _ _); fail_if_success show At (compareOp _ (.int _ _) (.int _ _))) | show At (setItem _ _ _) | show At (call (.builtin _) _ _) | show At (exec (.Assign _ (.ListComp _ _ _ _) _) _) | show At (call (.type "enumerate") _ _)))); (walk1; try dsimp only))))
            refine hTW _ _ ⟨rfl, .mk (2 * p + 1) F10 N10 (by omega) (List.getElem?_eq_getElem hp2) hva rva hsd ?_ ?_ ?_ ?_ ?_ ?_⟩ <;> (first | with_reducible assumption | walk_at "m_lk" | (refine' li_of ?ha9 ?hb9; (case ha9 => walk_at "m_lk"); (case hb9 => first | rfl | omega)))
          | false =>
            rw [if_neg (by rw [hlt]; exact Bool.false_ne_true)] at hsd
            (repeat' (first | ((with_reducible refine ⟨(by k_in : Frag.In _ _), ?_⟩); (try dsimp only [List.nil_append, List.cons_append])) | ((fail_if_success k_end); (fail_if_success (with_reducible (first | show At (call (.ref _) _ _) | show At (exec (.While _ _ _ _) _) | show At (exec (.For _ _ _ _ _) _) | show At (call (.type "range") _ _) | show At (pyIter _) | show At (eval (.ListComp _ _ _ _) _) | show At (eval (.DictComp _ _ _ _ _) _) | show At (subscriptTail _ _ _ _) | (show At (compareOp _ _ _); fail_if_success show At (compareOp _ (.int _ _) (.int _ _))) | show At (setItem _ _ _) | show At (call (.builtin _) _ _) | show At (exec (.Assign _ (.ListComp _ _ _ _) _) _) | show At (call (.type "enumerate") _ _)))); (walk1; try dsimp only))))
            with_reducible rename Fr _ _ _ _ => F9
            with_reducible rename News _ _ _ _ => N9
            refine hTW _ _ ⟨rfl, .mk (2 * p + 2) F9 N9 (by omega) (List.getElem?_eq_getElem hr) hvb rvb hsd ?_ ?_ ?_ ?_ ?_ ?_⟩ <;> (first | with_reducible assumption | walk_at "m_lk" | (refine' li_of ?ha9 ?hb9; (case ha9 => walk_at "m_lk"); (case hb9 => first | rfl | omega)))
        · have hr : xs2[2 * p + 2]? = none := List.getElem?_eq_none (by omega)
          rw [hr] at hsd
          with_reducible rename Fr _ _ _ _ => F9
          with_reducible rename News _ _ _ _ => N9
          refine hTW _ _ ⟨rfl, .mk (2 * p + 1) F9 N9 (by omega) (List.getElem?_eq_getElem hp2) hva rva hsd ?_ ?_ ?_ ?_ ?_ ?_⟩ <;> (first | with_reducible assumption | walk_at "m_lk" | (refine' li_of ?ha9 ?hb9; (case ha9 => walk_at "m_lk"); (case hb9 => first | rfl | omega)))
      · intro s' hC
        cases hC with | @mk h3 tk3 m3 a va c F3 N3 hpc hxa hva rva hsd m_heap m_end m_st m_new m_pos m_child
        obtain ⟨_, m_end⟩ := m_end
        obtain ⟨_, m_st⟩ := m_st
        obtain ⟨_, m_pos⟩ := m_pos
        obtain ⟨_, m_child⟩ := m_child
        have hcl : c < xs2.length := (List.getElem?_eq_some_iff.mp hxa).1
        (repeat' (first | ((with_reducible refine ⟨(by k_in : Frag.In _ _), ?_⟩); (try dsimp only [List.nil_append, List.cons_append])) | ((fail_if_success k_end); (fail_if_success (with_reducible (first | show At (call (.ref _) _ _) | show At (exec (.While _ _ _ _) _) | show At (exec (.For _ _ _ _ _) _) | show At (call (.type "range") _ _) | show At (pyIter _) | show At (eval (.ListComp _ _ _ _) _) | show At (eval (.DictComp _ _ _ _ _) _) | show At (subscriptTail _ _ _ _) | (show At (compareOp _ _ _); fail_if_success show At (compareOp _ (.int _ _) (.int _ _))) | show At (setItem _ _ _) | show At (call (.builtin _) _ _) | show At (exec (.Assign _ (.ListComp _ _ _ _) _) _) | show At (call (.type "enumerate") _ _)))); (walk1; try dsimp only))))
        refine item_sub N3 (.head _) hva (by omega) ?_
        (repeat' (first | ((with_reducible refine ⟨(by k_in : Frag.In _ _), ?_⟩); (try dsimp only [List.nil_append, List.cons_append])) | ((fail_if_success k_end); (fail_if_success (with_reducible (first | show At (call (.ref _) _ _) | show At (exec (.While _ _ _ _) _) | show At (exec (.For _ _ _ _ _) _) | show At (call (.type "range") _ _) | show At (pyIter _) | show At (eval (.ListComp _ _ _ _) _) | show At (eval (.DictComp _ _ _ _ _) _) | show At (subscriptTail _ _ _ _) | (show At (compareOp _ _ _); fail_if_success show At (compareOp _ (.int _ _) (.int _ _))) | show At (setItem _ _ _) | show At (call (.builtin _) _ _) | show At (exec (.Assign _ (.ListComp _ _ _ _) _) _) | show At (call (.type "enumerate") _ _)))); (walk1; try dsimp only))))
        refine item_set F3 N3 (.head (List.forall_mem_nil _)) (by rw [R2.1]; omega) (by omega) ?_
        intro h11 F11 N11
        clear F3 N3
        (repeat' (first | ((with_reducible refine ⟨(by k_in : Frag.In _ _), ?_⟩); (try dsimp only [List.nil_append, List.cons_append])) | ((fail_if_success k_end); (fail_if_success (with_reducible (first | show At (call (.ref _) _ _) | show At (exec (.While _ _ _ _) _) | show At (exec (.For _ _ _ _ _) _) | show At (call (.type "range") _ _) | show At (pyIter _) | show At (eval (.ListComp _ _ _ _) _) | show At (eval (.DictComp _ _ _ _ _) _) | show At (subscriptTail _ _ _ _) | (show At (compareOp _ _ _); fail_if_success show At (compareOp _ (.int _ _) (.int _ _))) | show At (setItem _ _ _) | show At (call (.builtin _) _ _) | show At (exec (.Assign _ (.ListComp _ _ _ _) _) _) | show At (call (.type "enumerate") _ _)))); (walk1; try dsimp only))))
        with_reducible rename Fr _ _ _ _ => F9
        with_reducible rename News _ _ _ _ => N9
        refine hT _ _ ⟨xs.length - c, by omega, .mk c k F9 N9 (R2.set rva) (by simp [hlen2]) rfl (by omega) (by omega) hsd ?_ ?_ ?_ ?_ ?_ ?_⟩ <;> (first | with_reducible assumption | walk_at "m_lk" | (refine' li_of ?ha9 ?hb9; (case ha9 => walk_at "m_lk"); (case hb9 => first | rfl | omega)))
    · (repeat' (first | ((with_reducible refine ⟨(by k_in : Frag.In _ _), ?_⟩); (try dsimp only [List.nil_append, List.cons_append])) | ((fail_if_success k_end); (fail_if_success (with_reducible (first | show At (call (.ref _) _ _) | show At (exec (.While _ _ _ _) _) | show At (exec (.For _ _ _ _ _) _) | show At (call (.type "range") _ _) | show At (pyIter _) | show At (eval (.ListComp _ _ _ _) _) | show At (eval (.DictComp _ _ _ _ _) _) | show At (subscriptTail _ _ _ _) | (show At (compareOp _ _ _); fail_if_success show At (compareOp _ (.int _ _) (.int _ _))) | show At (setItem _ _ _) | show At (call (.builtin _) _ _) | show At (exec (.Assign _ (.ListComp _ _ _ _) _) _) | show At (call (.type "enumerate") _ _)))); (walk1; try dsimp only))))
      refine hJ _ (.mk p F2 N2 R2 hlen2 hp ?_ m_heap ⟨_, m_st⟩ m_new ⟨_, m_pos⟩)
      rw [← hsd]
      cases k with
      | zero => rfl
      | succ k => rw [sup, List.getElem?_eq_none (by omega)]
  · intro s' hJ
    cases hJ with | @mk h2 tk2 m2 vs2 xs2 p F2 N2 R2 hlen2 hp hsd m_heap m_st m_new m_pos
    obtain ⟨_, m_st⟩ := m_st
    obtain ⟨_, m_pos⟩ := m_pos
    dsimp only
    (repeat' (first | ((with_reducible refine ⟨(by k_in : Frag.In _ _), ?_⟩); (try dsimp only [List.nil_append, List.cons_append])) | ((fail_if_success k_end); (fail_if_success (with_reducible (first | show At (call (.ref _) _ _) | show At (exec (.While _ _ _ _) _) | show At (exec (.For _ _ _ _ _) _) | show At (call (.type "range") _ _) | show At (pyIter _) | show At (eval (.ListComp _ _ _ _) _) | show At (eval (.DictComp _ _ _ _ _) _) | show At (subscriptTail _ _ _ _) | (show At (compareOp _ _ _); fail_if_success show At (compareOp _ (.int _ _) (.int _ _))) | show At (setItem _ _ _) | show At (call (.builtin _) _ _) | show At (exec (.Assign _ (.ListComp _ _ _ _) _) _) | show At (call (.type "enumerate") _ _)))); (walk1; try dsimp only))))
    refine item_set F2 N2 (.head (List.forall_mem_nil _)) (by rw [R2.1]; omega) (by omega) ?_
    intro h11 F11 N11
    clear F2 N2
    (repeat' (first | ((with_reducible refine ⟨(by k_in : Frag.In _ _), ?_⟩); (try dsimp only [List.nil_append, List.cons_append])) | ((fail_if_success k_end); (fail_if_success (with_reducible (first | show At (call (.ref _) _ _) | show At (exec (.While _ _ _ _) _) | show At (exec (.For _ _ _ _ _) _) | show At (call (.type "range") _ _) | show At (pyIter _) | show At (eval (.ListComp _ _ _ _) _) | show At (eval (.DictComp _ _ _ _ _) _) | show At (subscriptTail _ _ _ _) | (show At (compareOp _ _ _); fail_if_success show At (compareOp _ (.int _ _) (.int _ _))) | show At (setItem _ _ _) | show At (call (.builtin _) _ _) | show At (exec (.Assign _ (.ListComp _ _ _ _) _) _) | show At (call (.type "enumerate") _ _)))); (walk1; try dsimp only))))
    have k11 : B.StaysIn h11 := StaysIn.trans k0 F11.keep
    have hsd1 : R.1 = xs2.set p x := by rw [← hsd]
    have hsd2 : R.2 = p := by rw [← hsd]
    refine siftdown_spec O (xs := xs2.set p x) (x := x) W k11 hBl (N11.get (.head _)) (R2.set rv) (roomU hu (by decide)) (roomD hd (by decide)) (by rw [List.length_set]; omega) (by rw [List.getElem?_set_self (by omega)]) ?_
    intro h12 tk12 vs12 n12 q12 e12 r12
    dsimp only
    (repeat' (first | ((with_reducible refine ⟨(by k_in : Frag.In _ _), ?_⟩); (try dsimp only [List.nil_append, List.cons_append])) | ((fail_if_success k_end); (fail_if_success (with_reducible (first | show At (call (.ref _) _ _) | show At (exec (.While _ _ _ _) _) | show At (exec (.For _ _ _ _ _) _) | show At (call (.type "range") _ _) | show At (pyIter _) | show At (eval (.ListComp _ _ _ _) _) | show At (eval (.DictComp _ _ _ _ _) _) | show At (subscriptTail _ _ _ _) | (show At (compareOp _ _ _); fail_if_success show At (compareOp _ (.int _ _) (.int _ _))) | show At (setItem _ _ _) | show At (call (.builtin _) _ _) | show At (exec (.Assign _ (.ListComp _ _ _ _) _) _) | show At (call (.type "enumerate") _ _)))); (walk1; try dsimp only))))
    refine hQ _ _ _ _ ((KB.hide F11.keep).trans q12) e12 ?_
    rw [siftup, hx]
    dsimp only
    rw [← hRdef, hsd1, hsd2]
    exact r12
/-- an iterator at it: n items, item i is a v with `item i v`; its object in state i -/
structure Itr (w : World) (it : Addr) (n : Nat) (item : Nat → Value → Prop) (St : Nat → Obj → Prop) (need : Heap → Prop) : Prop where
  next : ∀ {A : Around} {s : Shared} {i : Nat} {o : Obj} {Q : Option Value → Shared → Prop}, i < n → s.heap.get? it = some o → St i o → need s.heap →
    (∀ v h' tk o', item i v → h'.get? it = some o' → St (i + 1) o' → Heap.SameBut it s.heap h' → Q (some v) { s with heap := h', toks := tk }) → wpAny (model PR w) A (pyNext (.ref it)) Q NE s
  stop : ∀ {A : Around} {s : Shared} {o : Obj} {Q : Option Value → Shared → Prop}, A.handled = none → s.heap.get? it = some o → St n o → need s.heap →
    (∀ h', Heap.ExtBut it s.heap h' → Q none { s with heap := h' }) → wpAny (model PR w) A (pyNext (.ref it)) Q NE s
theorem itr_list {w : World} {it l : Addr} {vs : List Value} : Itr w it vs.length (fun i v => vs[i]? = some v) (fun i o => o.cls = .type "list_iterator" ∧ o.data = .fields #[.ref l, .int i 0]) (fun h => h.IsList l vs.toArray) where
  next := fun {A s i o Q} hi ho hs hn k => by
    refine wpAny_pyNext_list_item (i := i) (x := vs[i]) ⟨o, ho, hs.1, hs.2⟩ hn (by simp [hi]) fun h' hit hsb => ?_
    obtain ⟨o', ho', hc, hd⟩ := hit
    exact k vs[i] h' s.toks o' (List.getElem?_eq_getElem hi) ho' ⟨hc, hd⟩ hsb
  stop := fun {A s o Q} hh ho hs hn k => wpAny_pyNext_list_end hh ⟨o, ho, hs.1, hs.2⟩ hn (by simp) k
theorem itr_range {w : World} {it : Addr} {a c : Int} {n : Nat} : Itr w it n (fun i v => ∃ t, v = .int (a + i * c) t) (fun i o => o = { cls := .type "range_iterator", dict := none, data := .fields #[rawInt (a + i * c), rawInt ((n : Int) - i), rawInt c], slots := #[] }) (fun _ => True) where
  next := fun {A s i o Q} hi ho hs hn k => by
    subst hs
    refine wpAny_pyNext_range_item ho (by omega) fun h' hit hsb => ?_
    refine k _ h' _ _ ⟨_, rfl⟩ hit ?_ hsb
    have e1 : a + ((i + 1 : Nat) : Int) * c = a + (i : Int) * c + c := by push_cast; rw [Int.add_mul, Int.one_mul, Int.add_assoc]
    have e2 : (n : Int) - ((i + 1 : Nat) : Int) = (n : Int) - (i : Int) - 1 := by push_cast; omega
    rw [e1, e2]
  stop := fun {A s o Q} hh ho hs hn k => by
    subst hs
    exact wpAny_pyNext_range_end hh ho (by omega) k

inductive ForSt (base : Heap) (L it : Addr) (n : Nat) (St : Nat → Obj → Prop) (P : Nat → (Str → Option Value) → List (Addr × Obj) → Prop) (s : Shared) : Nat → Shared → Prop
  | mk {i : Nat} {h : Heap} {tk : Nat} {m : Str → Option Value} {rest : List (Addr × Obj)} {o : Obj} (hi : i ≤ n) (F : Fr base L h m) (N : News base L h ((it, o) :: rest)) (hst : St i o) (hP : P i m rest) : ForSt base L it n St P s (n + 1 - i) { s with heap := h, toks := tk }
theorem for_coreE {w : World} {A : Around} {s : Shared} {env : Env} {base : Heap} {m : Str → Option Value} {news : List (Addr × Obj)} {x : Str} {px : Pos} {body orelse : List Stmt} {R : Result → Shared → Prop}
    {it : Addr} {n : Nat} {item : Nat → Value → Prop} {St : Nat → Obj → Prop} {need : Heap → Prop} {o₀ : Obj} (I : Itr w it n item St need)
    (P : Nat → (Str → Option Value) → List (Addr × Obj) → Prop)
    (hneed : ∀ i m rest h, P i m rest → Fr base env.locals h m → News base env.locals h rest → need h)
    (hoff : ∀ i m rest, P i m rest → ∀ p ∈ rest, p.1 ≠ it)
    (hh : A.handled = none) (hx : env.kindOf x = some .local)
    (hp : (env.scope.kind == .class || (env.scope.kind == .module && env.locals != env.globals)) = false)
    (F : Fr base env.locals s.heap m) (N : News base env.locals s.heap ((it, o₀) :: news)) (ho : St 0 o₀) (h0 : P 0 m news)
    (turn : ∀ i v m₁ rest h tk o, i < n → item i v → P i m₁ rest → Fr base env.locals h (fun y => if y = x then some v else m₁ y) → News base env.locals h ((it, o) :: rest) →
      wpAny (model PR w) A (execs body env) (fun f s₂ => match f with
        | .next | .cont => ∃ h' tk' m' rest', s₂ = { s with heap := h', toks := tk' } ∧ Fr base env.locals h' m' ∧ News base env.locals h' ((it, o) :: rest') ∧ P (i + 1) m' rest'
        | .brk => R (.ok .next) s₂
        | .ret v => R (.ok (.ret v)) s₂) NE { s with heap := h, toks := tk })
    (done : ∀ m₁ rest h tk, P n m₁ rest → Fr base env.locals h m₁ → News base env.locals h rest → wpAny (model PR w) A (execs orelse env) (fun f s₃ => R (.ok f) s₃) NE { s with heap := h, toks := tk }) :
    codeAny (model PR w) A (.forLoop (.Name x px) (.ref it) body orelse env) R s := by
  have hbase : base.get? it = none := (N _ (.head _)).2.2
  have hL : it ≠ env.locals := (N _ (.head _)).2.1
  refine codeAny_forLoop (ForSt base env.locals it n St P s) ?_ (n + 1) (.mk (i := 0) (h := s.heap) (tk := s.toks) (Nat.zero_le _) F N ho h0)
  intro k s' hE
  cases hE with | @mk i h tk m₁ rest o hi F1 N1 hst hP
  have Nr : News base env.locals h rest := fun p hp => N1 p (.tail _ hp)
  have hnd := hneed i m₁ rest h hP F1 Nr
  by_cases hlt : i < n
  · refine wpAny_mono (I.next (Q := _) hlt (N1 _ (.head _)).1 hst hnd fun v h' tk' o' hv ho' hst' hsb => ?_) (fun _ _ q => q) fun _ _ q => q.elim
    have F2 : Fr base env.locals h' m₁ := by
      obtain ⟨oL, es, ep, hoL, r⟩ := F1.ns
      refine ⟨⟨oL, es, ep, (hsb.2 _ (Ne.symm hL)).trans hoL, r⟩, fun b ob e => ?_, F1.above⟩
      have hb : b ≠ it := fun q => by rw [q, hbase] at e; cases e
      exact (hsb.2 b hb).trans (F1.keep b ob e)
    have N2 : News base env.locals h' ((it, o') :: rest) := fun p hp => by
      rcases List.mem_cons.mp hp with rfl | hp
      · exact ⟨ho', (N1 _ (.head _)).2⟩
      · exact ⟨(hsb.2 _ (hoff i m₁ rest hP p hp)).trans (Nr p hp).1, (Nr p hp).2⟩
    refine wpAny_mono (wpAny_assign_Name (wpAny_storeName_local hx F2.ns (fun h₂ hn hs => ?_) hp) : wpAny (model PR w) A (assign (.Name x px) env v) (fun _ s₂ => wpAny (model PR w) A (execs body env) (fun f s₃ => match f with
          | .next | .cont => ∃ m, m < n + 1 - i ∧ ForSt base env.locals it n St P s m s₃
          | .brk => R (.ok .next) s₃
          | .ret v => R (.ok (.ret v)) s₃) NE s₂) NE _) (fun _ s₂ q => wpAny_mono q (fun _ _ q => q) fun _ _ q => q.elim) fun _ _ q => q.elim
    refine wpAny_mono (turn i v m₁ rest h₂ _ o' hlt hv hP (F2.set hn hs) (N2.set hs)) (fun f s₂ q => ?_) fun _ _ q => q
    have fin : (∃ h' tk' m' rest', s₂ = { s with heap := h', toks := tk' } ∧ Fr base env.locals h' m' ∧ News base env.locals h' ((it, o') :: rest') ∧ P (i + 1) m' rest') →
        ∃ m, m < n + 1 - i ∧ ForSt base env.locals it n St P s m s₂ := by
      rintro ⟨h', tk', m', rest', rfl, F', N', hP'⟩
      exact ⟨n + 1 - (i + 1), by omega, .mk (i := i + 1) hlt F' N' hst' hP'⟩
    cases f with
    | next => exact fin q
    | cont => exact fin q
    | brk => exact q
    | ret v => exact q
  · have hin : i = n := by omega
    subst hin
    refine wpAny_mono (I.stop (Q := _) hh (N1 _ (.head _)).1 hst hnd fun h' hex => ?_) (fun _ _ q => q) fun _ _ q => q.elim
    refine wpAny_mono (done m₁ rest h' tk hP ?_ ?_) (fun _ _ q => q) fun _ _ q => q.elim
    · obtain ⟨oL, es, ep, hoL, r⟩ := F1.ns
      exact ⟨⟨oL, es, ep, hex _ _ (Ne.symm hL) hoL, r⟩, fun b ob e => hex _ _ (fun q => by rw [q, hbase] at e; cases e) (F1.keep b ob e), F1.above⟩
    · exact fun p hp => ⟨hex _ _ (hoff _ m₁ rest hP p hp) (Nr p hp).1, (Nr p hp).2⟩
theorem for_core {w : World} {A : Around} {s : Shared} {env : Env} {base : Heap} {m : Str → Option Value} {news : List (Addr × Obj)} {x : Str} {px : Pos} {body : List Stmt} {R : Result → Shared → Prop}
    {it : Addr} {n : Nat} {item : Nat → Value → Prop} {St : Nat → Obj → Prop} {need : Heap → Prop} {o₀ : Obj} (I : Itr w it n item St need)
    (P : Nat → (Str → Option Value) → List (Addr × Obj) → Prop)
    (hneed : ∀ i m rest h, P i m rest → Fr base env.locals h m → News base env.locals h rest → need h)
    (hoff : ∀ i m rest, P i m rest → ∀ p ∈ rest, p.1 ≠ it)
    (hh : A.handled = none) (hx : env.kindOf x = some .local)
    (hp : (env.scope.kind == .class || (env.scope.kind == .module && env.locals != env.globals)) = false)
    (F : Fr base env.locals s.heap m) (N : News base env.locals s.heap ((it, o₀) :: news)) (ho : St 0 o₀) (h0 : P 0 m news)
    (turn : ∀ i v m₁ rest h tk o, i < n → item i v → P i m₁ rest → Fr base env.locals h (fun y => if y = x then some v else m₁ y) → News base env.locals h ((it, o) :: rest) →
      wpAny (model PR w) A (execs body env) (fun f s₂ => match f with
        | .next | .cont => ∃ h' tk' m' rest', s₂ = { s with heap := h', toks := tk' } ∧ Fr base env.locals h' m' ∧ News base env.locals h' ((it, o) :: rest') ∧ P (i + 1) m' rest'
        | .brk => R (.ok .next) s₂
        | .ret v => R (.ok (.ret v)) s₂) NE { s with heap := h, toks := tk })
    (done : ∀ m₁ rest h tk, P n m₁ rest → Fr base env.locals h m₁ → News base env.locals h rest → R (.ok .next) { s with heap := h, toks := tk }) :
    codeAny (model PR w) A (.forLoop (.Name x px) (.ref it) body [] env) R s := by
  exact for_coreE I P hneed hoff hh hx hp F N ho h0 turn (fun m₁ rest h tk a b c => wpAny_execs_nil (done m₁ rest h tk a b c))
theorem itr_tuple {w : World} {it l : Addr} {vs : List Value} : Itr w it vs.length (fun i v => vs[i]? = some v) (fun i o => o.cls = .type "tuple_iterator" ∧ o.data = .fields #[.ref l, .int i 0]) (fun h => h.IsTuple l vs.toArray) where
  next := fun {A s i o Q} hi ho hs hn k => by
    refine wpAny_pyNext_tuple_item (i := i) (x := vs[i]) ⟨o, ho, hs.1, hs.2⟩ hn (by simp [hi]) fun h' hit hsb => ?_
    obtain ⟨o', ho', hc, hd⟩ := hit
    exact k vs[i] h' s.toks o' (List.getElem?_eq_getElem hi) ho' ⟨hc, hd⟩ hsb
  stop := fun {A s o Q} hh ho hs hn k => wpAny_pyNext_tuple_end hh ⟨o, ho, hs.1, hs.2⟩ hn (by simp) k
theorem news_at {base h : Heap} {L : Addr} {m : Str → Option Value} {news : List (Addr × Obj)} (F : Fr base L h m) (N : News base L h news) : ∀ p ∈ news, p.1 ≠ h.objs.size := fun p hp => Nat.ne_of_lt (Heap.lt_size (N p hp).1)
theorem for_list {w : World} {A : Around} {E : Value → Shared → Prop} {s : Shared} {env : Env} {base : Heap} {m : Str → Option Value} {news : List (Addr × Obj)} {x : Str} {px : Pos} {body : List Stmt} {R : Result → Shared → Prop} {l : Addr} {vs : List Value}
    (P : Nat → (Str → Option Value) → List (Addr × Obj) → Prop)
    (hneed : ∀ i m rest h, P i m rest → Fr base env.locals h m → News base env.locals h rest → h.IsList l vs.toArray)
    (hoff : ∀ i m rest, P i m rest → ∀ p ∈ rest, p.1 ≠ s.heap.objs.size)
    (hh : A.handled = none) (hx : env.kindOf x = some .local)
    (hp : (env.scope.kind == .class || (env.scope.kind == .module && env.locals != env.globals)) = false)
    (F : Fr base env.locals s.heap m) (N : News base env.locals s.heap news) (h0 : P 0 m news)
    (turn : ∀ i v m₁ rest h tk o, i < vs.length → vs[i]? = some v → P i m₁ rest → Fr base env.locals h (fun y => if y = x then some v else m₁ y) → News base env.locals h ((s.heap.objs.size, o) :: rest) →
      wpAny (model PR w) A (execs body env) (fun f s₂ => match f with
        | .next | .cont => ∃ h' tk' m' rest', s₂ = { s with heap := h', toks := tk' } ∧ Fr base env.locals h' m' ∧ News base env.locals h' ((s.heap.objs.size, o) :: rest') ∧ P (i + 1) m' rest'
        | .brk => R (.ok .next) s₂
        | .ret v => R (.ok (.ret v)) s₂) NE { s with heap := h, toks := tk })
    (done : ∀ m₁ rest h tk, P vs.length m₁ rest → Fr base env.locals h m₁ → News base env.locals h rest → R (.ok .next) { s with heap := h, toks := tk }) :
    wpAny (model PR w) A (pyIter (.ref l)) (fun it s₂ => codeAny (model PR w) A (.forLoop (.Name x px) it body [] env) R s₂) E s := by
  refine wpAny_pyIter_list (hneed 0 m news _ h0 F N) ?_
  exact for_core (itr_list (l := l)) P hneed hoff hh hx hp (F.push _) (News.push F N _) ⟨rfl, rfl⟩ h0 turn done
theorem for_tuple {w : World} {A : Around} {E : Value → Shared → Prop} {s : Shared} {env : Env} {base : Heap} {m : Str → Option Value} {news : List (Addr × Obj)} {x : Str} {px : Pos} {body : List Stmt} {R : Result → Shared → Prop} {l : Addr} {vs : List Value}
    (P : Nat → (Str → Option Value) → List (Addr × Obj) → Prop)
    (hneed : ∀ i m rest h, P i m rest → Fr base env.locals h m → News base env.locals h rest → h.IsTuple l vs.toArray)
    (hoff : ∀ i m rest, P i m rest → ∀ p ∈ rest, p.1 ≠ s.heap.objs.size)
    (hh : A.handled = none) (hx : env.kindOf x = some .local)
    (hp : (env.scope.kind == .class || (env.scope.kind == .module && env.locals != env.globals)) = false)
    (F : Fr base env.locals s.heap m) (N : News base env.locals s.heap news) (h0 : P 0 m news)
    (turn : ∀ i v m₁ rest h tk o, i < vs.length → vs[i]? = some v → P i m₁ rest → Fr base env.locals h (fun y => if y = x then some v else m₁ y) → News base env.locals h ((s.heap.objs.size, o) :: rest) →
      wpAny (model PR w) A (execs body env) (fun f s₂ => match f with
        | .next | .cont => ∃ h' tk' m' rest', s₂ = { s with heap := h', toks := tk' } ∧ Fr base env.locals h' m' ∧ News base env.locals h' ((s.heap.objs.size, o) :: rest') ∧ P (i + 1) m' rest'
        | .brk => R (.ok .next) s₂
        | .ret v => R (.ok (.ret v)) s₂) NE { s with heap := h, toks := tk })
    (done : ∀ m₁ rest h tk, P vs.length m₁ rest → Fr base env.locals h m₁ → News base env.locals h rest → R (.ok .next) { s with heap := h, toks := tk }) :
    wpAny (model PR w) A (pyIter (.ref l)) (fun it s₂ => codeAny (model PR w) A (.forLoop (.Name x px) it body [] env) R s₂) E s := by
  refine wpAny_pyIter_tuple (hneed 0 m news _ h0 F N) ?_
  exact for_core (itr_tuple (l := l)) P hneed hoff hh hx hp (F.push _) (News.push F N _) ⟨rfl, rfl⟩ h0 turn done
theorem news_push {base h : Heap} {L : Addr} {news : List (Addr × Obj)} (N : News base L h news) (o : Obj) : News base L (h.push o) news := fun p hp => ⟨Heap.get?_push_of_some _ (N p hp).1, (N p hp).2⟩
theorem for_range {w : World} {A : Around} {E : Value → Shared → Prop} {s : Shared} {env : Env} {base : Heap} {m : Str → Option Value} {news : List (Addr × Obj)} {x : Str} {px : Pos} {body orelse : List Stmt} {R : Result → Shared → Prop}
    {r : Addr} {a b c : Int} {t u v : Tok} {n : Nat} (hr : IsRange s.heap r a b c t u v) (hsm : Builtin.Range.small a b c = true) (hsz : Builtin.Range.rangeSize a b c = n)
    (P : Nat → (Str → Option Value) → List (Addr × Obj) → Prop)
    (hoff : ∀ i m rest, P i m rest → ∀ p ∈ rest, p.1 ≠ s.heap.objs.size)
    (hh : A.handled = none) (hx : env.kindOf x = some .local)
    (hp : (env.scope.kind == .class || (env.scope.kind == .module && env.locals != env.globals)) = false)
    (F : Fr base env.locals s.heap m) (N : News base env.locals s.heap news) (h0 : P 0 m news)
    (turn : ∀ i t m₁ rest h tk o, i < n → P i m₁ rest → Fr base env.locals h (fun y => if y = x then some (.int (a + i * c) t) else m₁ y) → News base env.locals h ((s.heap.objs.size, o) :: rest) →
      wpAny (model PR w) A (execs body env) (fun f s₂ => match f with
        | .next | .cont => ∃ h' tk' m' rest', s₂ = { s with heap := h', toks := tk' } ∧ Fr base env.locals h' m' ∧ News base env.locals h' ((s.heap.objs.size, o) :: rest') ∧ P (i + 1) m' rest'
        | .brk => R (.ok .next) s₂
        | .ret v => R (.ok (.ret v)) s₂) NE { s with heap := h, toks := tk })
    (done : ∀ m₁ rest h tk, P n m₁ rest → Fr base env.locals h m₁ → News base env.locals h rest → wpAny (model PR w) A (execs orelse env) (fun f s₃ => R (.ok f) s₃) NE { s with heap := h, toks := tk }) :
    wpAny (model PR w) A (pyIter (.ref r)) (fun it s₂ => codeAny (model PR w) A (.forLoop (.Name x px) it body orelse env) R s₂) E s := by
  refine wpAny_pyIter_range hr hsm ?_
  rw [hsz]
  refine for_coreE (itr_range (a := a) (c := c) (n := n)) P (fun _ _ _ _ _ _ _ => trivial) hoff hh hx hp (F.push _) (News.push F N _) ?_ h0 ?_ done
  · show _ = _
    simp
  · rintro i v m₁ rest h tk o hi ⟨t, rfl⟩ hP F1 N1
    exact turn i t m₁ rest h tk o hi hP F1 N1
theorem push_ne {h : Heap} {o : Obj} {a : Addr} (hlt : a < h.objs.size) : (h.push o).objs.size ≠ a := by
  rw [show (h.push o).objs.size = h.objs.size + 1 from Array.size_push ..]
  exact Nat.ne_of_gt (Nat.lt_succ_of_lt hlt)
abbrev riO (a n c : Int) : Obj := { cls := .type "range_iterator", data := .fields #[rawInt a, rawInt n, rawInt c] }
theorem call_range_reversed {w : World} {A : Around} {E : Value → Shared → Prop} {s : Shared} {l : Addr} {a b c : Int} {t u v : Tok} {Q : Value → Shared → Prop} (hl : IsRange s.heap l a b c t u v)
    (hsm : (Builtin.Range.rangeFitsLong a && Builtin.Range.rangeFitsLong b && Builtin.Range.rangeFitsLong c && Builtin.Range.rangeFitsLong (-c) && Builtin.Range.rangeFitsLong (a - c) && Builtin.Range.rangeFitsLong (Builtin.Range.rangeSize a b c)) = true)
    (h : Q (.ref s.heap.objs.size) { s with heap := s.heap.push (riO (a + (Builtin.Range.rangeSize a b c - 1) * c) (Builtin.Range.rangeSize a b c) (-c)) }) : wpAny (model PR w) A (call (.builtin "range.__reversed__") [.ref l]) Q E s := by
  have hT : s.TypeIs (.ref l) "range" := ⟨_, hl, rfl⟩
  refine wpAny_call_entry F.slot_range_reversed hT F.entry_range_reversed ?_ (F.args_range_reversed_1 _)
  unfold Builtin.«range.__reversed__»
  refine wpAny_bind (wpAny_of_eq (a := Value.ref l) rfl ?_)
  unfold Builtin.Range.rangeFields
  refine wpAny_bind ?_
  refine wpAny_bind (wpAny_field hl rfl (x := .int a t) rfl ?_)
  refine wpAny_bind (wpAny_of_eq (a := some a) rfl ?_)
  refine wpAny_bind (wpAny_field hl rfl (x := .int b u) rfl ?_)
  refine wpAny_bind (wpAny_of_eq (a := some b) rfl ?_)
  refine wpAny_bind (wpAny_field hl rfl (x := .int c v) rfl ?_)
  refine wpAny_bind (wpAny_of_eq (a := some c) rfl ?_)
  refine wpAny_pure ?_
  dsimp only
  rw [hsm]
  simp only [Bool.not_true, Bool.false_eq_true, if_false, if_true]
  exact wpAny_bind (wpAny_newObj_type (wpAny_pure ⟨_, rfl, h⟩))
theorem code_reversed_range {w : World} {A : Around} {E : Value → Shared → Prop} {s : Shared} {l : Addr} {a b c : Int} {t u v : Tok} {Q₁ : Value → Shared → Prop} (hl : IsRange s.heap l a b c t u v)
    (hsm : (Builtin.Range.rangeFitsLong a && Builtin.Range.rangeFitsLong b && Builtin.Range.rangeFitsLong c && Builtin.Range.rangeFitsLong (-c) && Builtin.Range.rangeFitsLong (a - c) && Builtin.Range.rangeFitsLong (Builtin.Range.rangeSize a b c)) = true)
    (h : Q₁ (.ref s.heap.objs.size) { s with heap := s.heap.push (riO (a + (Builtin.Range.rangeSize a b c - 1) * c) (Builtin.Range.rangeSize a b c) (-c)) }) :
    codeAny (model PR w) A (.call (.builtin "reversed.__new__") ⟨[.type "reversed", .ref l], []⟩) (wants Q₁ E) s := by
  have hT : s.TypeIs (.ref l) "range" := ⟨_, hl, rfl⟩
  refine codeAny_of_tree ?_
  show wpAny _ A.in1 (do checkBuiltinCall "reversed.__new__" ⟨[.type "reversed", .ref l], []⟩; again (.builtin "reversed.__new__" ⟨[.type "reversed", .ref l], []⟩)) _ _ s
  refine wpAny_bind (wpAny_of_eq (F.newCall_reversed_1 _) (wpAny_pure ⟨plainId_quiet F.plain_reversed_new _, codeAny_builtin F.entry_reversed_new ?_⟩))
  rw [Around.under_plainId F.plain_reversed_new _]
  unfold Builtin.«reversed.__new__»
  refine wpAny_bind (wpAny_of_eq (newClass_reversed _) ?_)
  try dsimp only
  refine wpAny_bind (wpAny_of_eq (a := ()) (by first | rfl | kernel_rfl) ?_)
  refine wpAny_bind (wpAny_of_eq (a := ()) (by first | rfl | kernel_rfl) ?_)
  try dsimp only
  refine wpAny_bind (wpAny_specialOf hT F.slot_range_reversed.lookup ?_)
  try dsimp only
  refine wpAny_bind (wpAny_of_eq (F.slot_range_reversed.bind _) ?_)
  try dsimp only
  first
  | rw [if_neg (show ¬ ((Value.builtin "range.__reversed__" == Value.none) = true) from Bool.false_ne_true)]
  | (show wpAny _ _ (if (Value.builtin "range.__reversed__" == Value.none) = true then _ else _) _ _ _; rw [if_neg (show ¬ ((Value.builtin "range.__reversed__" == Value.none) = true) from Bool.false_ne_true)])
  refine wpAny_bind (wpAny_rule ?_)
  refine wpAny_bind (m := runValue (.call (.builtin "range.__reversed__") ⟨[.ref l], []⟩)) (show wpAny _ _ (call (.builtin "range.__reversed__") [.ref l]) _ _ _ from call_range_reversed hl hsm ?_)
  first
  | exact wpAny_pure h
  | exact wpAny_bind (wpAny_pure (wpAny_pure h))
theorem sub_ri_reversed : isSubtype (.type "range_iterator") (.type "reversed") = pure false := by rw [isSubtype_type]; kernel_rfl
theorem call_reversed_range {w : World} {A : Around} {E : Value → Shared → Prop} {s : Shared} {l : Addr} {a b c : Int} {t u v : Tok} {Q : Value → Shared → Prop} (hl : IsRange s.heap l a b c t u v)
    (hsm : (Builtin.Range.rangeFitsLong a && Builtin.Range.rangeFitsLong b && Builtin.Range.rangeFitsLong c && Builtin.Range.rangeFitsLong (-c) && Builtin.Range.rangeFitsLong (a - c) && Builtin.Range.rangeFitsLong (Builtin.Range.rangeSize a b c)) = true)
    (h : Q (.ref s.heap.objs.size) { s with heap := s.heap.push (riO (a + (Builtin.Range.rangeSize a b c - 1) * c) (Builtin.Range.rangeSize a b c) (-c)) }) : wpAny (model PR w) A (call (.type "reversed") [.ref l]) Q E s := by
  refine callType_other (U := "range_iterator") (Q₁ := fun obj s₁ => obj = .ref s.heap.objs.size ∧ s₁ = { s with heap := s.heap.push (riO (a + (Builtin.Range.rangeSize a b c - 1) * c) (Builtin.Range.rangeSize a b c) (-c)) }) (by decide +kernel) F.create_reversed ⟨_, _, F.mro_reversed⟩ F.made_reversed sub_ri_reversed (F.typeCall_reversed_1 _) (code_reversed_range hl hsm ⟨rfl, rfl⟩) ?_
  rintro obj s₁ ⟨rfl, rfl⟩
  exact ⟨⟨_, Heap.get?_push_size _ rfl, rfl⟩, h⟩
noncomputable def hpush {α : Type} (lt : α → α → Bool) (xs : List α) (x : α) : List α := sdown lt 0 x xs.length xs.length (xs ++ [x])
noncomputable def hpop {α : Type} (lt : α → α → Bool) (ys : List α) (x : α) : α × List α := match ys with
  | [] => (x, [])
  | y :: r => (y, siftup lt 0 (x :: r))
theorem AllR.push {α : Type} {R : Value → α → Prop} {vs : List Value} {xs : List α} (h : AllR R vs xs) {v : Value} {x : α} (r : R v x) : AllR R (vs ++ [v]) (xs ++ [x]) := by
  refine ⟨by simp [h.1], fun i v' x' e1 e2 => ?_⟩
  by_cases hi : i < vs.length
  · rw [List.getElem?_append_left hi] at e1
    rw [List.getElem?_append_left (by rw [← h.1]; exact hi)] at e2
    exact h.2 i _ _ e1 e2
  · have : i = vs.length := by have := (List.getElem?_eq_some_iff.mp e1).1; simp at this; omega
    subst this
    rw [List.getElem?_append_right (Nat.le_refl _)] at e1
    rw [h.1, List.getElem?_append_right (Nat.le_refl _)] at e2
    simp at e1 e2
    exact e1 ▸ e2 ▸ r

theorem item_append {w : World} {A : Around} {s : Shared} {base : Heap} {L l : Addr} {m : Str → Option Value} {news news' : List (Addr × Obj)} {vs : List Value} {n : Nat} {v : Value} {Q : Value → Shared → Prop} {E : Value → Shared → Prop}
    (F : Fr base L s.heap m) (N : News base L s.heap news) (U : Upd l (listOf vs.toArray n) (listOf (vs ++ [v]).toArray (n + 1)) news news')
    (hsz : vs.length < 10000) (h : ∀ h', Fr base L h' m → News base L h' news' → Q .none { s with heap := h' }) :
    wpAny (model PR w) A (call (.builtin "list.append") [.ref l, v]) Q E s :=
  append_K F N (by rw [List.push_toArray]; exact U) h (by rw [sizeLine_eq]; simp; omega)
theorem kl_last_app (us : List Value) (v : Value) : kl_last (us ++ [v]) = some (us, v) := by
  induction us with
  | nil => rfl
  | cons a r ih => rw [List.cons_append, kl_last, ih]
theorem item_pop {w : World} {A : Around} {s : Shared} {base : Heap} {L l : Addr} {m : Str → Option Value} {news news' : List (Addr × Obj)} {vs : List Value} {n : Nat} {v : Value} {Q : Value → Shared → Prop} {E : Value → Shared → Prop}
    (F : Fr base L s.heap m) (N : News base L s.heap news) (U : Upd l (listOf (vs ++ [v]).toArray n) (listOf vs.toArray (n + 1)) news news')
    (hsz : vs.length < 10000) (h : ∀ h', Fr base L h' m → News base L h' news' → Q v { s with heap := h' }) :
    wpAny (model PR w) A (call (.builtin "list.pop") [.ref l]) Q E s :=
  kl_pop F N (kl_last_app vs v) U (by rw [sizeLine_eq]; simp; omega) h
theorem AllR.split {α : Type} {R : Value → α → Prop} {vs : List Value} {ys : List α} {x : α} (h : AllR R vs (ys ++ [x])) : ∃ us v, vs = us ++ [v] ∧ AllR R us ys ∧ R v x := by
  have hl := h.1
  simp at hl
  have hne : vs ≠ [] := by intro q; rw [q] at hl; simp at hl
  have e := List.dropLast_concat_getLast hne
  have hd : vs.dropLast.length = ys.length := by rw [List.length_dropLast]; omega
  refine ⟨vs.dropLast, vs.getLast hne, e.symm, ⟨hd, fun i v' x' e1 e2 => ?_⟩, ?_⟩
  · have hi := (List.getElem?_eq_some_iff.mp e2).1
    refine h.2 i v' x' ?_ ?_
    · rw [← e, List.getElem?_append_left (by omega)]; exact e1
    · rw [List.getElem?_append_left hi]; exact e2
  · refine h.2 ys.length _ _ ?_ (by simp)
    have e2 : (vs.dropLast ++ [vs.getLast hne])[ys.length]? = some (vs.getLast hne) := by
      rw [List.getElem?_append_right (by omega), hd]
      simp
    rwa [e] at e2

set_option maxHeartbeats 8000000 in
theorem heappush_spec {w : World} {mean : ExcName → Option Value} {mg mb : Str → Option Value} {α : Type} (O : Ord w α) {A : Around} {s : Shared} {l : Addr} {vs : List Value} {n : Nat} {xs : List α} {v : Value} {x : α} {Q : Value → Shared → Prop}
    {B : Heap} (W : Wd w mean mg mb B) (hB : B.StaysIn s.heap) (hBl : B.get? l = none) (hl : s.heap.get? l = some (listO vs n)) (hR : AllR (O.R B) vs xs) (hr : O.R B v x)
    (hu : A.units + 300 < cLine) (hd : A.depth + 30 < recursionLimit) (hlen : xs.length < 900)
    (hQ : ∀ h' tk vs' n', KB [l] s.heap h' → h'.get? l = some (listO vs' n') → AllR (O.R B) vs' (hpush O.lt xs x) → Q .none { s with heap := h', toks := tk }) :
    wpAny (model PR w) A (call (.ref 36) [.ref l, v]) Q NE s := by
  have k0 := stays_hide hB hBl
  have X := W.X.keeps k0
  have T := W.T.keeps k0
  have X' := X.keeps stays_of_hide
  refine' enter (binds := [(Str.ofString "heap", .ref l), (Str.ofString "item", v)]) X' (T.nolimit.keeps stays_of_hide) ?k6 ?k7 (by omega) ?k9 ?kB ?_ ?c2 ?c3 ?c4 ?c5
  case k6 => k_is
  case k7 => k_is
  case k9 => exact BindsTo.of_eq rfl
  case c5 => decide
  case kB => exact locs rfl
  case c2 => exact rfl
  case c3 => exact rfl
  case c4 => exact rfl
  intro h₁ F0
  have N := news_hide F0 hl
  have F := fr_hide (l := l) F0
  clear F0
  have hvl : vs.length = xs.length := hR.1
  (repeat' (first | ((with_reducible refine ⟨(by k_in : Frag.In _ _), ?_⟩); (try dsimp only [List.nil_append, List.cons_append])) | ((fail_if_success k_end); (fail_if_success (with_reducible (first | show At (call (.ref _) _ _) | show At (exec (.While _ _ _ _) _) | show At (exec (.For _ _ _ _ _) _) | show At (call (.type "range") _ _) | show At (pyIter _) | show At (eval (.ListComp _ _ _ _) _) | show At (eval (.DictComp _ _ _ _ _) _) | show At (subscriptTail _ _ _ _) | (show At (compareOp _ _ _); fail_if_success show At (compareOp _ (.int _ _) (.int _ _))) | show At (setItem _ _ _) | show At (call (.builtin _) _ _) | show At (exec (.Assign _ (.ListComp _ _ _ _) _) _) | show At (call (.type "enumerate") _ _)))); (walk1; try dsimp only))))
  refine item_append F N (.head (List.forall_mem_nil _)) (by omega) ?_
  intro h2 F2 N2
  clear F N
  (repeat' (first | ((with_reducible refine ⟨(by k_in : Frag.In _ _), ?_⟩); (try dsimp only [List.nil_append, List.cons_append])) | ((fail_if_success k_end); (fail_if_success (with_reducible (first | show At (call (.ref _) _ _) | show At (exec (.While _ _ _ _) _) | show At (exec (.For _ _ _ _ _) _) | show At (call (.type "range") _ _) | show At (pyIter _) | show At (eval (.ListComp _ _ _ _) _) | show At (eval (.DictComp _ _ _ _ _) _) | show At (subscriptTail _ _ _ _) | (show At (compareOp _ _ _); fail_if_success show At (compareOp _ (.int _ _) (.int _ _))) | show At (setItem _ _ _) | show At (call (.builtin _) _ _) | show At (exec (.Assign _ (.ListComp _ _ _ _) _) _) | show At (call (.type "enumerate") _ _)))); (walk1; try dsimp only))))
  refine kun_lenL (items := (vs ++ [v]).toArray) (k := (xs.length + 1 : Nat)) (News.isList N2 (.head _)) (by simp [hvl]) (by omega) ?_
  dsimp only
  (repeat' (first | ((with_reducible refine ⟨(by k_in : Frag.In _ _), ?_⟩); (try dsimp only [List.nil_append, List.cons_append])) | ((fail_if_success k_end); (fail_if_success (with_reducible (first | show At (call (.ref _) _ _) | show At (exec (.While _ _ _ _) _) | show At (exec (.For _ _ _ _ _) _) | show At (call (.type "range") _ _) | show At (pyIter _) | show At (eval (.ListComp _ _ _ _) _) | show At (eval (.DictComp _ _ _ _ _) _) | show At (subscriptTail _ _ _ _) | (show At (compareOp _ _ _); fail_if_success show At (compareOp _ (.int _ _) (.int _ _))) | show At (setItem _ _ _) | show At (call (.builtin _) _ _) | show At (exec (.Assign _ (.ListComp _ _ _ _) _) _) | show At (call (.type "enumerate") _ _)))); (walk1; try dsimp only))))
  have k11 : B.StaysIn h2 := StaysIn.trans k0 F2.keep
  have e0 : (((xs.length + 1 : Nat) : Int) - 1) = ((xs.length : Nat) : Int) := by omega
  rw [e0]
  refine siftdown_spec O (st := 0) (xs := xs ++ [x]) (x := x) W k11 hBl (N2.get (.head _)) (hR.push hr) (roomU hu (by decide)) (roomD hd (by decide)) (by simp; omega) (by simp) ?_
  intro h12 tk12 vs12 n12 q12 e12 r12
  (repeat' (first | ((with_reducible refine ⟨(by k_in : Frag.In _ _), ?_⟩); (try dsimp only [List.nil_append, List.cons_append])) | ((fail_if_success k_end); (fail_if_success (with_reducible (first | show At (call (.ref _) _ _) | show At (exec (.While _ _ _ _) _) | show At (exec (.For _ _ _ _ _) _) | show At (call (.type "range") _ _) | show At (pyIter _) | show At (eval (.ListComp _ _ _ _) _) | show At (eval (.DictComp _ _ _ _ _) _) | show At (subscriptTail _ _ _ _) | (show At (compareOp _ _ _); fail_if_success show At (compareOp _ (.int _ _) (.int _ _))) | show At (setItem _ _ _) | show At (call (.builtin _) _ _) | show At (exec (.Assign _ (.ListComp _ _ _ _) _) _) | show At (call (.type "enumerate") _ _)))); (walk1; try dsimp only))))
  exact hQ _ _ _ _ ((KB.hide F2.keep).trans q12) e12 r12

set_option maxHeartbeats 8000000 in
theorem heappop_spec {w : World} {mean : ExcName → Option Value} {mg mb : Str → Option Value} {α : Type} (O : Ord w α) {A : Around} {s : Shared} {l : Addr} {vs : List Value} {n : Nat} {ys : List α} {x : α} {Q : Value → Shared → Prop}
    {B : Heap} (W : Wd w mean mg mb B) (hB : B.StaysIn s.heap) (hBl : B.get? l = none) (hl : s.heap.get? l = some (listO vs n)) (hR : AllR (O.R B) vs (ys ++ [x]))
    (hu : A.units + 400 < cLine) (hd : A.depth + 40 < recursionLimit) (hlen : ys.length < 900)
    (hQ : ∀ h' tk v vs' n', KB [l] s.heap h' → h'.get? l = some (listO vs' n') → O.R B v (hpop O.lt ys x).1 → AllR (O.R B) vs' (hpop O.lt ys x).2 → Q v { s with heap := h', toks := tk }) :
    wpAny (model PR w) A (call (.ref 43) [.ref l]) Q NE s := by
  have k0 := stays_hide hB hBl
  have X := W.X.keeps k0
  have T := W.T.keeps k0
  have X' := X.keeps stays_of_hide
  refine' enter (binds := [(Str.ofString "heap", .ref l)]) X' (T.nolimit.keeps stays_of_hide) ?k6 ?k7 (by omega) ?k9 ?kB ?_ ?c2 ?c3 ?c4 ?c5
  case k6 => k_is
  case k7 => k_is
  case k9 => exact BindsTo.of_eq rfl
  case c5 => decide
  case kB => exact locs rfl
  case c2 => exact rfl
  case c3 => exact rfl
  case c4 => exact rfl
  intro h₁ F0
  have N := news_hide F0 hl
  have F := fr_hide (l := l) F0
  clear F0
  obtain ⟨us, v, rfl, hRu, rv⟩ := hR.split
  have hvl : us.length = ys.length := hRu.1
  (repeat' (first | ((with_reducible refine ⟨(by k_in : Frag.In _ _), ?_⟩); (try dsimp only [List.nil_append, List.cons_append])) | ((fail_if_success k_end); (fail_if_success (with_reducible (first | show At (call (.ref _) _ _) | show At (exec (.While _ _ _ _) _) | show At (exec (.For _ _ _ _ _) _) | show At (call (.type "range") _ _) | show At (pyIter _) | show At (eval (.ListComp _ _ _ _) _) | show At (eval (.DictComp _ _ _ _ _) _) | show At (subscriptTail _ _ _ _) | (show At (compareOp _ _ _); fail_if_success show At (compareOp _ (.int _ _) (.int _ _))) | show At (setItem _ _ _) | show At (call (.builtin _) _ _) | show At (exec (.Assign _ (.ListComp _ _ _ _) _) _) | show At (call (.type "enumerate") _ _)))); (walk1; try dsimp only))))
  refine item_pop F N (.head (List.forall_mem_nil _)) (by omega) ?_
  intro h2 F2 N2
  clear F N
  have k11 : B.StaysIn h2 := StaysIn.trans k0 F2.keep
  cases ys with
  | nil =>
    cases us with
    | cons a r => simp at hvl
    | nil =>
      (repeat' (first | ((with_reducible refine ⟨(by k_in : Frag.In _ _), ?_⟩); (try dsimp only [List.nil_append, List.cons_append])) | ((fail_if_success k_end); (fail_if_success (with_reducible (first | show At (call (.ref _) _ _) | show At (exec (.While _ _ _ _) _) | show At (exec (.For _ _ _ _ _) _) | show At (call (.type "range") _ _) | show At (pyIter _) | show At (eval (.ListComp _ _ _ _) _) | show At (eval (.DictComp _ _ _ _ _) _) | show At (subscriptTail _ _ _ _) | (show At (compareOp _ _ _); fail_if_success show At (compareOp _ (.int _ _) (.int _ _))) | show At (setItem _ _ _) | show At (call (.builtin _) _ _) | show At (exec (.Assign _ (.ListComp _ _ _ _) _) _) | show At (call (.type "enumerate") _ _)))); (walk1; try dsimp only))))
      with_reducible rename Fr _ _ _ _ => F9
      with_reducible rename News _ _ _ _ => N9
      exact hQ _ _ v [] _ (KB.hide F9.keep) (N9.get (.head _)) rv hRu
  | cons y r =>
    cases us with
    | nil => simp at hvl
    | cons a u =>
      (repeat' (first | ((with_reducible refine ⟨(by k_in : Frag.In _ _), ?_⟩); (try dsimp only [List.nil_append, List.cons_append])) | ((fail_if_success k_end); (fail_if_success (with_reducible (first | show At (call (.ref _) _ _) | show At (exec (.While _ _ _ _) _) | show At (exec (.For _ _ _ _ _) _) | show At (call (.type "range") _ _) | show At (pyIter _) | show At (eval (.ListComp _ _ _ _) _) | show At (eval (.DictComp _ _ _ _ _) _) | show At (subscriptTail _ _ _ _) | (show At (compareOp _ _ _); fail_if_success show At (compareOp _ (.int _ _) (.int _ _))) | show At (setItem _ _ _) | show At (call (.builtin _) _ _) | show At (exec (.Assign _ (.ListComp _ _ _ _) _) _) | show At (call (.type "enumerate") _ _)))); (walk1; try dsimp only))))
      refine item_sub (k := 0) (v := a) ‹News _ _ _ _› (.head _) rfl (by omega) ?_
      (repeat' (first | ((with_reducible refine ⟨(by k_in : Frag.In _ _), ?_⟩); (try dsimp only [List.nil_append, List.cons_append])) | ((fail_if_success k_end); (fail_if_success (with_reducible (first | show At (call (.ref _) _ _) | show At (exec (.While _ _ _ _) _) | show At (exec (.For _ _ _ _ _) _) | show At (call (.type "range") _ _) | show At (pyIter _) | show At (eval (.ListComp _ _ _ _) _) | show At (eval (.DictComp _ _ _ _ _) _) | show At (subscriptTail _ _ _ _) | (show At (compareOp _ _ _); fail_if_success show At (compareOp _ (.int _ _) (.int _ _))) | show At (setItem _ _ _) | show At (call (.builtin _) _ _) | show At (exec (.Assign _ (.ListComp _ _ _ _) _) _) | show At (call (.type "enumerate") _ _)))); (walk1; try dsimp only))))
      with_reducible rename Fr _ _ _ _ => F9
      with_reducible rename News _ _ _ _ => N9
      refine item_set (vs := a :: u) (k := 0) F9 N9 (.head (List.forall_mem_nil _)) (by simp) (by omega) ?_
      intro h3 F3 N3
      clear F9 N9
      (repeat' (first | ((with_reducible refine ⟨(by k_in : Frag.In _ _), ?_⟩); (try dsimp only [List.nil_append, List.cons_append])) | ((fail_if_success k_end); (fail_if_success (with_reducible (first | show At (call (.ref _) _ _) | show At (exec (.While _ _ _ _) _) | show At (exec (.For _ _ _ _ _) _) | show At (call (.type "range") _ _) | show At (pyIter _) | show At (eval (.ListComp _ _ _ _) _) | show At (eval (.DictComp _ _ _ _ _) _) | show At (subscriptTail _ _ _ _) | (show At (compareOp _ _ _); fail_if_success show At (compareOp _ (.int _ _) (.int _ _))) | show At (setItem _ _ _) | show At (call (.builtin _) _ _) | show At (exec (.Assign _ (.ListComp _ _ _ _) _) _) | show At (call (.type "enumerate") _ _)))); (walk1; try dsimp only))))
      have k12 : B.StaysIn h3 := StaysIn.trans k0 F3.keep
      have ra : O.R B a y := hRu.2 0 _ _ rfl rfl
      refine siftup_spec O (ps := 0) (vs := v :: u) (xs := x :: r) (x := x) W k12 hBl (N3.get (.head _)) (hRu.set (i := 0) rv) (roomU hu (by decide)) (roomD hd (by decide)) (by simp at hlen ⊢; omega) rfl ?_
      intro h13 tk13 vs13 n13 q13 e13 r13
      have F4 := fr_KB F3 (Heap.hide_self _ _) (Ne.symm (N3 _ (.head _)).2.1) q13
      have q3 := KB.hide F3.keep
      clear F3
      (repeat' (first | ((with_reducible refine ⟨(by k_in : Frag.In _ _), ?_⟩); (try dsimp only [List.nil_append, List.cons_append])) | ((fail_if_success k_end); (fail_if_success (with_reducible (first | show At (call (.ref _) _ _) | show At (exec (.While _ _ _ _) _) | show At (exec (.For _ _ _ _ _) _) | show At (call (.type "range") _ _) | show At (pyIter _) | show At (eval (.ListComp _ _ _ _) _) | show At (eval (.DictComp _ _ _ _ _) _) | show At (subscriptTail _ _ _ _) | (show At (compareOp _ _ _); fail_if_success show At (compareOp _ (.int _ _) (.int _ _))) | show At (setItem _ _ _) | show At (call (.builtin _) _ _) | show At (exec (.Assign _ (.ListComp _ _ _ _) _) _) | show At (call (.type "enumerate") _ _)))); (walk1; try dsimp only))))
      exact hQ _ _ _ _ _ (q3.trans q13) e13 ra r13

set_option maxHeartbeats 8000000 in
theorem heapify_spec {w : World} {mean : ExcName → Option Value} {mg mb : Str → Option Value} {α : Type} (O : Ord w α) {A : Around} {s : Shared} {l : Addr} {vs : List Value} {n : Nat} {xs : List α} {Q : Value → Shared → Prop}
    {B : Heap} (W : Wd w mean mg mb B) (hB : B.StaysIn s.heap) (hBl : B.get? l = none) (hl : s.heap.get? l = some (listO vs n)) (hR : AllR (O.R B) vs xs)
    (hu : A.units + 400 < cLine) (hd : A.depth + 40 < recursionLimit) (hh : A.handled = none) (hlen : xs.length = 3)
    (hQ : ∀ h' tk vs' n', KB [l] s.heap h' → h'.get? l = some (listO vs' n') → AllR (O.R B) vs' (siftup O.lt 0 xs) → Q .none { s with heap := h', toks := tk }) :
    wpAny (model PR w) A (call (.ref 50) [.ref l]) Q NE s := by
  have k0 := stays_hide hB hBl
  have X := W.X.keeps k0
  have T := W.T.keeps k0
  have X' := X.keeps stays_of_hide
  refine' enter (binds := [(Str.ofString "x", .ref l)]) X' (T.nolimit.keeps stays_of_hide) ?k6 ?k7 (by omega) ?k9 ?kB ?_ ?c2 ?c3 ?c4 ?c5
  case k6 => k_is
  case k7 => k_is
  case k9 => exact BindsTo.of_eq rfl
  case c5 => decide
  case kB => exact locs rfl
  case c2 => exact rfl
  case c3 => exact rfl
  case c4 => exact rfl
  intro h₁ F0
  have N := news_hide F0 hl
  have F := fr_hide (l := l) F0
  clear F0
  have hvl : vs.length = 3 := by rw [hR.1]; exact hlen
  (repeat' (first | ((with_reducible refine ⟨(by k_in : Frag.In _ _), ?_⟩); (try dsimp only [List.nil_append, List.cons_append])) | ((fail_if_success k_end); (fail_if_success (with_reducible (first | show At (call (.ref _) _ _) | show At (exec (.While _ _ _ _) _) | show At (exec (.For _ _ _ _ _) _) | show At (call (.type "range") _ _) | show At (pyIter _) | show At (eval (.ListComp _ _ _ _) _) | show At (eval (.DictComp _ _ _ _ _) _) | show At (subscriptTail _ _ _ _) | (show At (compareOp _ _ _); fail_if_success show At (compareOp _ (.int _ _) (.int _ _))) | show At (setItem _ _ _) | show At (call (.builtin _) _ _) | show At (exec (.Assign _ (.ListComp _ _ _ _) _) _) | show At (call (.type "enumerate") _ _)))); (walk1; try dsimp only))))
  refine kun_lenL (items := vs.toArray) (k := 3) (News.isList N (.head _)) (by simp [hvl]) (by omega) ?_
  dsimp only
  (repeat' (first | ((with_reducible refine ⟨(by k_in : Frag.In _ _), ?_⟩); (try dsimp only [List.nil_append, List.cons_append])) | ((fail_if_success k_end); (fail_if_success (with_reducible (first | show At (call (.ref _) _ _) | show At (exec (.While _ _ _ _) _) | show At (exec (.For _ _ _ _ _) _) | show At (call (.type "range") _ _) | show At (pyIter _) | show At (eval (.ListComp _ _ _ _) _) | show At (eval (.DictComp _ _ _ _ _) _) | show At (subscriptTail _ _ _ _) | (show At (compareOp _ _ _); fail_if_success show At (compareOp _ (.int _ _) (.int _ _))) | show At (setItem _ _ _) | show At (call (.builtin _) _ _) | show At (exec (.Assign _ (.ListComp _ _ _ _) _) _) | show At (call (.type "enumerate") _ _)))); (walk1; try dsimp only))))
  refine wpAny_For ?_
  iterate 13 (walk1; try dsimp only)
  refine call_range_1 ?_
  dsimp only
  with_reducible rename Fr _ _ _ _ => F9
  with_reducible rename News _ _ _ _ => N9
  have hlt := Heap.lt_size (N9.get (.head _))
  have hsz := fun (h : Heap) (o : Obj) => show (h.push o).objs.size = h.objs.size + 1 from Array.size_push ..
  (walk1; try dsimp only)
  refine call_reversed_range (Heap.get?_push_size _ rfl) (by decide) ?_
  dsimp only
  refine wpAny_pyIter_rangeiter (x := 0) (left := 1) (step := -1) (Heap.get?_push_size _ rfl) ?_
  refine for_core (base := s.heap.hide l) (itr_range (a := 0) (c := -1) (n := 1)) 
    (fun i m rest => ∃ vs' xs' n', rest = [(l, listO vs' n')] ∧ AllR (O.R B) vs' xs' ∧ m (Str.ofString "x") = some (.ref l) ∧ xs' = if i = 0 then xs else siftup O.lt 0 xs) (fun _ _ _ _ _ _ _ => trivial) ?_ hh rfl rfl ((F9.push _).push _) (News.push (F9.push _) (fun p hp => (News.push F9 N9 _) p (.tail _ hp)) _) rfl ⟨vs, xs, n, rfl, hR, rfl, rfl⟩ ?_ ?_
  · rintro i m rest ⟨vs', xs', n', rfl, -, -, -⟩ p hp
    cases List.mem_singleton.mp hp
    rw [hsz]
    exact Nat.ne_of_lt (Nat.lt_succ_of_lt hlt)
  · rintro i v m₁ rest h tk o hi ⟨t, rfl⟩ ⟨vs', xs', n', rfl, hR', hm, rfl⟩ F2 N2
    refine hidePost fun T hT => ?_
    have hi0 : i = 0 := by omega
    subst hi0
    rw [if_pos rfl] at hR'
    (repeat' (first | ((with_reducible refine ⟨(by k_in : Frag.In _ _), ?_⟩); (try dsimp only [List.nil_append, List.cons_append])) | ((fail_if_success k_end); (fail_if_success (with_reducible (first | show At (call (.ref _) _ _) | show At (exec (.While _ _ _ _) _) | show At (exec (.For _ _ _ _ _) _) | show At (call (.type "range") _ _) | show At (pyIter _) | show At (eval (.ListComp _ _ _ _) _) | show At (eval (.DictComp _ _ _ _ _) _) | show At (subscriptTail _ _ _ _) | (show At (compareOp _ _ _); fail_if_success show At (compareOp _ (.int _ _) (.int _ _))) | show At (setItem _ _ _) | show At (call (.builtin _) _ _) | show At (exec (.Assign _ (.ListComp _ _ _ _) _) _) | show At (call (.type "enumerate") _ _)))); (walk1; try dsimp only))))
    have k12 : B.StaysIn h := StaysIn.trans k0 F2.keep
    have hx0 : ∃ x0, xs[0]? = some x0 := ⟨xs[0], List.getElem?_eq_getElem (by omega)⟩
    obtain ⟨x0, hx0⟩ := hx0
    refine siftup_spec O (ps := 0) (x := x0) W k12 hBl (N2.get (.tail _ (.head _))) hR' (roomU hu (by decide)) (roomD hd (by decide)) (by omega) hx0 ?_
    intro h13 tk13 vs13 n13 q13 e13 r13
    have hne : ∀ p ∈ [((l, listO vs' n') : Addr × Obj)], p.1 ≠ _ := fun p hp => (by cases List.mem_singleton.mp hp; exact Nat.ne_of_lt (Nat.lt_succ_of_lt hlt))
    have F4 := fr_KB F2 (Heap.hide_self _ _) (Ne.symm (N2 _ (.tail _ (.head _))).2.1) q13
    (repeat' (first | ((with_reducible refine ⟨(by k_in : Frag.In _ _), ?_⟩); (try dsimp only [List.nil_append, List.cons_append])) | ((fail_if_success k_end); (fail_if_success (with_reducible (first | show At (call (.ref _) _ _) | show At (exec (.While _ _ _ _) _) | show At (exec (.For _ _ _ _ _) _) | show At (call (.type "range") _ _) | show At (pyIter _) | show At (eval (.ListComp _ _ _ _) _) | show At (eval (.DictComp _ _ _ _ _) _) | show At (subscriptTail _ _ _ _) | (show At (compareOp _ _ _); fail_if_success show At (compareOp _ (.int _ _) (.int _ _))) | show At (setItem _ _ _) | show At (call (.builtin _) _ _) | show At (exec (.Assign _ (.ListComp _ _ _ _) _) _) | show At (call (.type "enumerate") _ _)))); (walk1; try dsimp only))))
    refine hT _ _ ⟨_, _, _, [(l, listO vs13 n13)], rfl, F4, ?_, vs13, _, n13, rfl, r13, ?_, rfl⟩
    · intro p hp
      rcases List.mem_cons.mp hp with rfl | hp
      · exact ⟨q13 _ _ (N2 _ (.head _)).1 (fun q => by rw [hsz] at q; exact absurd (List.mem_singleton.mp q) (Nat.ne_of_gt (Nat.lt_succ_of_lt hlt))), (N2 _ (.head _)).2⟩
      · cases List.mem_singleton.mp hp
        exact ⟨e13, (N2 _ (.tail _ (.head _))).2⟩
    · walk_at "m_lk"
  · rintro m₁ rest h tk ⟨vs', xs', n', rfl, hR', hm, rfl⟩ F2 N2
    dsimp only
    (repeat' (first | ((with_reducible refine ⟨(by k_in : Frag.In _ _), ?_⟩); (try dsimp only [List.nil_append, List.cons_append])) | ((fail_if_success k_end); (fail_if_success (with_reducible (first | show At (call (.ref _) _ _) | show At (exec (.While _ _ _ _) _) | show At (exec (.For _ _ _ _ _) _) | show At (call (.type "range") _ _) | show At (pyIter _) | show At (eval (.ListComp _ _ _ _) _) | show At (eval (.DictComp _ _ _ _ _) _) | show At (subscriptTail _ _ _ _) | (show At (compareOp _ _ _); fail_if_success show At (compareOp _ (.int _ _) (.int _ _))) | show At (setItem _ _ _) | show At (call (.builtin _) _ _) | show At (exec (.Assign _ (.ListComp _ _ _ _) _) _) | show At (call (.type "enumerate") _ _)))); (walk1; try dsimp only))))
    exact hQ _ _ _ _ (KB.hide F2.keep) (N2.get (.head _)) hR'
section
open PySem.SeqAt PySem.AutoSeq1 PySem.MeetsSeq PySem.MeetsSeq2 PySem.MeetsSeq3 PySem.SeqRoads2
/-- y < x is b, and nothing changes -/
noncomputable def LtAt (A : Around) (s : Shared) (y x : Value) (b : Bool) : Prop :=
  ∀ (prog : Program) (w : World) (E : Value → Shared → Prop) (Q : Value → Shared → Prop), Q (.bool b) s → wpAny (model prog w) A (richCompare .Lt y x) Q E s
/-- by the first place that differs; d where none does -/
noncomputable def lex (e t : Nat → Bool) (d : Bool) : Nat → Nat → Bool
  | 0, _ => d
  | k + 1, i => if e i then lex e t d k (i + 1) else t i
theorem msub {a b i k : Nat} (h : min a b - i = k + 1) : i < a ∧ i < b ∧ min a b - (i + 1) = k := by omega
theorem msub0 {a b i : Nat} (h : min a b - i = 0) (q : i < a) : b ≤ i := by omega
theorem lt_loopAt (l b : Addr) (items items2 : Array Value) (n n2 : Nat) (dd dd2 : Option Addr) (sl sl2 : Array (Option Value)) (e t : Nat → Bool) (k : Nat) :
    ∀ i : Nat, min items.size items2.size - i = k → Meets (Builtin.«list.__eq__.loop» ⟨[.ref l, .ref b, rawInt i, rawInt 0], []⟩)
      (fun A R s => s.heap.get? l = some { cls := .type "list", dict := dd, data := .seq items n, slots := sl } ∧ s.heap.get? b = some { cls := .type "list", dict := dd2, data := .seq items2 n2, slots := sl2 } ∧
        (∀ j (h1 : j < items.size) (h2 : j < items2.size), EqAt A.in1 s items[j] items2[j] (e j)) ∧ (∀ j (h1 : j < items.size) (h2 : j < items2.size), LtAt A.in1 s items[j] items2[j] (t j)) ∧
        R (.ok (.ret (.bool (lex e t (decide (items.size < items2.size)) k i)))) s) := by
  induction k with
  | zero =>
    intro i hk prog w A R s h
    obtain ⟨hp, g, d, tk, os⟩ := s; obtain ⟨hl, hb, he, ht, h⟩ := h
    wp_walk using wpAny_loadPart' hl, wpAny_loadPart' hb
    rw [lex] at h
    cases hi1 : items[((i : Nat) : Int).toNat]? with
    | none =>
      wp_walk using wpAny_loadPart' hl, wpAny_loadPart' hb
      show R (.ok (.ret (.bool (decide (items.size < items2.size))))) _
      exact h
    | some a =>
      have h1 := (Array.getElem?_eq_some_iff.mp hi1).1
      have hi2 : items2[((i : Nat) : Int).toNat]? = none := Array.getElem?_eq_none (show items2.size ≤ i from msub0 hk h1)
      rw [hi2]
      wp_walk using wpAny_loadPart' hl, wpAny_loadPart' hb
      show R (.ok (.ret (.bool (decide (items.size < items2.size))))) _
      exact h
  | succ k ih =>
    intro i hk prog w A R s h
    obtain ⟨hp, g, d, tk, os⟩ := s; obtain ⟨hl, hb, he, ht, h⟩ := h
    wp_walk using wpAny_loadPart' hl, wpAny_loadPart' hb
    have hlt : i < items.size := (msub hk).1
    have hlt2 : i < items2.size := (msub hk).2.1
    have hi1 : items[((i : Nat) : Int).toNat]? = some items[i] := by simp [hlt]
    have hi2 : items2[((i : Nat) : Int).toNat]? = some items2[i] := by simp [hlt2]
    have hc : ((i : Int) + 1) = ((i + 1 : Nat) : Int) := by push_cast; rfl
    rw [lex] at h
    rw [hi1, hi2]
    refine wpAny_bind (he i hlt hlt2 prog w _ _ ?_)
    cases hb' : e i with
    | true =>
      rw [hb'] at h
      wp_walk
      rw [hc]
      exact ⟨plainId_quiet plain_eq_loop _, codeAny_builtin entry_eq_loop (by
        rw [Around.under_plainId plain_eq_loop _]
        exact ih (i + 1) (msub hk).2.2 prog w A R _ ⟨hl, hb, he, ht, by simpa using h⟩)⟩
    | false =>
      rw [hb'] at h
      wp_walk using wpAny_loadPart' hl, wpAny_loadPart' hb
      rw [hi1, hi2]
      refine wpAny_bind (ht i hlt hlt2 prog w _ _ ?_)
      wp_walk
      simpa using h
theorem list_ltAt (l b : Addr) (items items2 : Array Value) (n n2 : Nat) (dd dd2 : Option Addr) (sl sl2 : Array (Option Value)) (e t : Nat → Bool) :
    Meets (Builtin.«list.__lt__» ⟨[.ref l, .ref b], []⟩)
      (fun A R s => s.heap.get? l = some { cls := .type "list", dict := dd, data := .seq items n, slots := sl } ∧ s.heap.get? b = some { cls := .type "list", dict := dd2, data := .seq items2 n2, slots := sl2 } ∧
        (∀ j (h1 : j < items.size) (h2 : j < items2.size), EqAt A.in1 s items[j] items2[j] (e j)) ∧ (∀ j (h1 : j < items.size) (h2 : j < items2.size), LtAt A.in1 s items[j] items2[j] (t j)) ∧
        R (.ok (.ret (.bool (lex e t (decide (items.size < items2.size)) (min items.size items2.size) 0)))) s) := by
  intro prog w A R s h
  obtain ⟨hp, g, d, tk, os⟩ := s; obtain ⟨hl, hb, he, ht, h⟩ := h
  have f3 := AutoSeq1.sub_list_list
  wp_walk using wpAny_loadPart' hl, wpAny_loadPart' hb
  exact ⟨plainId_quiet plain_eq_loop _, codeAny_builtin entry_eq_loop (by
    rw [Around.under_plainId plain_eq_loop _]
    exact lt_loopAt l b items items2 n n2 dd dd2 sl sl2 e t _ 0 rfl prog w A R _ ⟨hl, hb, he, ht, h⟩)⟩
theorem tuple_ltAt (l b : Addr) (items items2 : Array Value) (n n2 : Nat) (dd dd2 : Option Addr) (sl sl2 : Array (Option Value)) (e t : Nat → Bool) :
    Meets (Builtin.«tuple.__lt__» ⟨[.ref l, .ref b], []⟩)
      (fun A R s => s.heap.get? l = some { cls := .type "tuple", dict := dd, data := .seq items n, slots := sl } ∧ s.heap.get? b = some { cls := .type "tuple", dict := dd2, data := .seq items2 n2, slots := sl2 } ∧
        (∀ j (h1 : j < items.size) (h2 : j < items2.size), EqAt A.in1 s items[j] items2[j] (e j)) ∧ (∀ j (h1 : j < items.size) (h2 : j < items2.size), LtAt A.in1 s items[j] items2[j] (t j)) ∧
        R (.ok (.ret (.bool (lex e t (decide (items.size < items2.size)) (min items.size items2.size) 0)))) s) :=
  .of_wp fun prog w A R s h => by
    obtain ⟨hp, g, d, tk, os⟩ := s; obtain ⟨hl, hb, he, ht, h⟩ := h
    have f2 := AutoSeq1.sub_tuple_tuple
    have hZ : (items.toList.zip items2.toList).length = min items.size items2.size := by simp
    wp_walk using wpAny_loadPart' hl, wpAny_loadPart' hb, wpAny_forIn_list _ (fun rest b s' => b.1 = none ∧ s' = ⟨hp, g, d, tk, os⟩ ∧ ∃ i k, rest = (items.toList.zip items2.toList).drop i ∧ min items.size items2.size - i = k ∧
      R (.ok (.ret (.bool (lex e t (decide (items.size < items2.size)) k i)))) ⟨hp, g, d, tk, os⟩) _
    case turn =>
      rintro ⟨y, x⟩ rest b s' ⟨hb', rfl, i, k, hz, hk, hR⟩
      have hlt : i < (items.toList.zip items2.toList).length := by
        rcases Nat.lt_or_ge i (items.toList.zip items2.toList).length with h' | h'
        · exact h'
        · rw [List.drop_of_length_le h'] at hz; cases hz
      have hm : i < min items.size items2.size := hZ ▸ hlt
      have h1 : i < items.size := Nat.lt_of_lt_of_le hm (Nat.min_le_left _ _)
      have h2 : i < items2.size := Nat.lt_of_lt_of_le hm (Nat.min_le_right _ _)
      rw [List.drop_eq_getElem_cons hlt] at hz
      injection hz with hyx hrest
      have hy : y = items[i] := by have := congrArg Prod.fst hyx; simpa using this
      have hx : x = items2[i] := by have := congrArg Prod.snd hyx; simpa using this
      subst hy hx
      obtain ⟨k, rfl⟩ : ∃ k', k = k' + 1 := ⟨k - 1, by omega⟩
      rw [lex] at hR
      refine wpAny_bind (he i h1 h2 prog w _ _ ?_)
      cases hy : e i with
      | true =>
        rw [hy] at hR
        wp_walk
        exact ⟨rfl, rfl, i + 1, k, hrest, (msub hk).2.2, by simpa using hR⟩
      | false =>
        rw [hy] at hR
        simp only [Bool.not_false, if_true]
        refine wpAny_bind (wpAny_rule ?_)
        refine wpAny_bind (ht i h1 h2 prog w _ _ ?_)
        wp_walk
        exact ⟨_, rfl, by simpa using hR⟩
    case fin =>
      rintro ⟨b1, b2⟩ s' ⟨hb', rfl, i, k, hz, hk, hR⟩
      simp only at hb'
      subst hb'
      have hge : min items.size items2.size ≤ i := by
        rcases Nat.lt_or_ge i (items.toList.zip items2.toList).length with h' | h'
        · rw [List.drop_eq_getElem_cons h'] at hz; cases hz
        · exact hZ ▸ h'
      have hk0 : k = 0 := by omega
      subst hk0
      rw [lex] at hR
      wp_walk
      exact ⟨_, rfl, by simpa [Builtin.Tuple.tupleCompareSizes] using hR⟩
    case h =>
      exact ⟨rfl, rfl, 0, _, rfl, rfl, by simpa using h⟩
end
section
open PySem.SeqAt PySem.AutoSeq1 PySem.MeetsSeq PySem.MeetsSeq2 PySem.MeetsSeq3 PySem.SeqRoads2
/-- lists of ints in Python's order -/
noncomputable def ltL : List Int → List Int → Bool
  | [], ys => !ys.isEmpty
  | _ :: _, [] => false
  | x :: xs, y :: ys => if x = y then ltL xs ys else decide (x < y)
theorem lex_ltL (ns ms : List Int) (k : Nat) : ∀ i, min ns.length ms.length - i = k → i ≤ min ns.length ms.length →
    lex (fun j => ns.getD j 0 == ms.getD j 0) (fun j => decide (ns.getD j 0 < ms.getD j 0)) (decide (ns.length < ms.length)) k i = ltL (ns.drop i) (ms.drop i) := by
  induction k with
  | zero =>
    intro i hk hi
    have e : i = min ns.length ms.length := Nat.le_antisymm hi (Nat.sub_eq_zero_iff_le.mp hk)
    rw [lex]
    by_cases h : ns.length ≤ i
    · rw [List.drop_eq_nil_of_le h, ltL]
      by_cases h2 : ms.length ≤ i
      · rw [List.drop_eq_nil_of_le h2]
        exact decide_eq_false (Nat.not_lt.mpr (Nat.le_trans h2 (Nat.le_trans hi (Nat.min_le_left _ _))))
      · rw [List.drop_eq_getElem_cons (Nat.lt_of_not_le h2)]
        exact decide_eq_true (Nat.lt_of_le_of_lt h (Nat.lt_of_not_le h2))
    · have h2 : ms.length ≤ i := by
        rcases Nat.le_total ns.length ms.length with q | q
        · exact absurd (Nat.le_of_eq (e.trans (Nat.min_eq_left q)).symm) h
        · exact Nat.le_of_eq (e.trans (Nat.min_eq_right q)).symm
      rw [List.drop_eq_nil_of_le h2, List.drop_eq_getElem_cons (Nat.lt_of_not_le h), ltL]
      exact decide_eq_false (Nat.not_lt.mpr (Nat.le_of_lt (Nat.lt_of_le_of_lt h2 (Nat.lt_of_not_le h))))
  | succ k ih =>
    intro i hk hi
    have h0 : i < min ns.length ms.length := Nat.sub_pos_iff_lt.mp (by rw [hk]; exact Nat.succ_pos k)
    have h1 : i < ns.length := Nat.lt_of_lt_of_le h0 (Nat.min_le_left _ _)
    have h2 : i < ms.length := Nat.lt_of_lt_of_le h0 (Nat.min_le_right _ _)
    rw [lex, List.drop_eq_getElem_cons h1, List.drop_eq_getElem_cons h2, ltL, ih (i + 1) ((Nat.sub_add_eq _ _ _).trans (by rw [hk]; rfl)) h0]
    simp [h1, h2]
theorem LtAt.int {A : Around} {s : Shared} (a : Int) (t : Tok) (b : Int) (u : Tok) : LtAt A s (.int a t) (.int b u) (decide (a < b)) := fun _ _ _ _ h => PyProof.Rows.lt_int h
theorem LtAt.str {A : Around} {s : Shared} (a : Str) (t : Tok) (b : Str) (u : Tok) : LtAt A s (.str a t) (.str b u) (decide (a.cps.toList < b.cps.toList)) := fun _ _ _ _ h => PySem.P.lt_str h
theorem ints_fun {vs : List Value} {ns ms : List Int} (h : IntsAre vs ns) (h' : IntsAre vs ms) : ns = ms := by
  induction h generalizing ms with
  | nil => cases h'; rfl
  | cons i t _ ih => cases h' with | cons _ _ r => rw [ih r]
theorem EqAt.intLists {A : Around} {s : Shared} {l b : Addr} {vs us : List Value} {ns ms : List Int} (hl : s.heap.IsList l vs.toArray) (hb : s.heap.IsList b us.toArray) (hi : IntsAre vs ns) (hj : IntsAre us ms) (hu : A.units + 64 < cLine) :
    EqAt A s (.ref l) (.ref b) (decide (ns = ms)) := by
  by_cases h : l = b
  · subst h
    obtain ⟨o, ho, _, n, hd⟩ := hl
    obtain ⟨o', ho', _, n', hd'⟩ := hb
    rw [ho] at ho'
    cases ho'
    rw [hd] at hd'
    have e : vs = us := by injection hd' with e; simpa using e
    subst e
    rw [ints_fun hi hj]
    simpa using EqAt.same (A := A) (s := s) (.ref l)
  · exact EqAt.of_refs h fun prog w E Q q => ke_eq_ints hl hb hi hj hu q
theorem LtAt.intLists {A : Around} {s : Shared} {l b : Addr} {vs us : List Value} {ns ms : List Int} (hl : s.heap.IsList l vs.toArray) (hb : s.heap.IsList b us.toArray) (hi : IntsAre vs ns) (hj : IntsAre us ms) (hu : A.units < cLine) :
    LtAt A s (.ref l) (.ref b) (ltL ns ms) := fun prog w E Q h => by
  obtain ⟨⟨cls, dd, data, sl⟩, ho, hc, n, hd⟩ := id hl
  obtain ⟨⟨cls2, dd2, data2, sl2⟩, ho2, hc2, n2, hd2⟩ := id hb
  simp only at hc hd hc2 hd2
  subst hc hd hc2 hd2
  have en : vs.toArray.size = ns.length := by simp [hi.length]
  have em : us.toArray.size = ms.length := by simp [hj.length]
  have hx := lex_ltL ns ms _ 0 rfl (Nat.zero_le _)
  rw [List.drop_zero, List.drop_zero, Nat.sub_zero] at hx
  refine richCompare_meets_room (op := .Lt) ⟨_, ho, rfl⟩ ⟨_, ho2, rfl⟩ F.slot_list_lt F.entry_list_lt (F.args_list_lt_2 _ _) (list_ltAt l b vs.toArray us.toArray n n2 dd dd2 sl sl2 (fun j => ns.getD j 0 == ms.getD j 0) (fun j => decide (ns.getD j 0 < ms.getD j 0)))
    ⟨ho, ho2, ?_, ?_, ?_⟩ hu
  · intro j h1 h2
    obtain ⟨t, e1⟩ := hi.get j (ns.getD j 0) (by rw [en] at h1; simp [h1])
    obtain ⟨u, e2⟩ := hj.get j (ms.getD j 0) (by rw [em] at h2; simp [h2])
    have g1 : vs.toArray[j] = .int (ns.getD j 0) t := by simpa [List.getElem?_eq_some_iff] using (List.getElem?_eq_some_iff.mp e1).2
    have g2 : us.toArray[j] = .int (ms.getD j 0) u := by simpa [List.getElem?_eq_some_iff] using (List.getElem?_eq_some_iff.mp e2).2
    rw [g1, g2]
    exact EqAt.int_int _ _ _ _
  · intro j h1 h2
    obtain ⟨t, e1⟩ := hi.get j (ns.getD j 0) (by rw [en] at h1; simp [h1])
    obtain ⟨u, e2⟩ := hj.get j (ms.getD j 0) (by rw [em] at h2; simp [h2])
    have g1 : vs.toArray[j] = .int (ns.getD j 0) t := by simpa [List.getElem?_eq_some_iff] using (List.getElem?_eq_some_iff.mp e1).2
    have g2 : us.toArray[j] = .int (ms.getD j 0) u := by simpa [List.getElem?_eq_some_iff] using (List.getElem?_eq_some_iff.mp e2).2
    rw [g1, g2]
    exact LtAt.int _ _ _ _
  · rw [en, em, hx]
    exact ⟨(fun x => nomatch x), h⟩
theorem LtAt.tuples {A : Around} {s : Shared} {l b : Addr} {its its2 : Array Value} {n n2 : Nat} {dd dd2 : Option Addr} {sl sl2 : Array (Option Value)} {e t : Nat → Bool} {r : Bool}
    (hl : s.heap.get? l = some ⟨.type "tuple", dd, .seq its n, sl⟩) (hb : s.heap.get? b = some ⟨.type "tuple", dd2, .seq its2 n2, sl2⟩) (hu : A.units < cLine)
    (he : ∀ j (h1 : j < its.size) (h2 : j < its2.size), EqAt A.in1 s its[j] its2[j] (e j)) (ht : ∀ j (h1 : j < its.size) (h2 : j < its2.size), LtAt A.in1 s its[j] its2[j] (t j))
    (hr : lex e t (decide (its.size < its2.size)) (min its.size its2.size) 0 = r) : LtAt A s (.ref l) (.ref b) r := fun prog w E Q h => by
  refine richCompare_meets_room (op := .Lt) ⟨_, hl, rfl⟩ ⟨_, hb, rfl⟩ F.slot_tuple_lt F.entry_tuple_lt (F.args_tuple_lt_2 _ _) (tuple_ltAt l b its its2 n n2 dd dd2 sl sl2 e t) ⟨hl, hb, he, ht, ?_⟩ hu
  rw [hr]
  exact ⟨(fun x => nomatch x), h⟩
abbrev It3 := List Int × Str × Nat
abbrev It2 := List Int × Int
abbrev tupO (vs : List Value) : Obj := { cls := .type "tuple", data := .seq vs.toArray }
inductive R3 (h : Heap) : Value → It3 → Prop
  | mk (a aw : Addr) (x : It3) (tp tn : Tok) (vs : List Value) (k : Nat) (ha : h.get? a = some (tupO [.ref aw, .str x.2.1 tp, .int x.2.2 tn])) (hw : h.get? aw = some (listO vs k)) (hi : IntsAre vs x.1) : R3 h (.ref a) x
inductive R2 (h : Heap) : Value → It2 → Prop
  | mk (a aw : Addr) (x : It2) (tn : Tok) (vs : List Value) (k : Nat) (ha : h.get? a = some (tupO [.ref aw, .int x.2 tn])) (hw : h.get? aw = some (listO vs k)) (hi : IntsAre vs x.1) : R2 h (.ref a) x
noncomputable def lt3 (x y : It3) : Bool := if x.1 = y.1 then (if x.2.1 = y.2.1 then decide (x.2.2 < y.2.2) else decide (x.2.1.cps.toList < y.2.1.cps.toList)) else ltL x.1 y.1
noncomputable def lt2 (x y : It2) : Bool := if x.1 = y.1 then decide (x.2 < y.2) else ltL x.1 y.1
theorem cmp3 {A : Around} {s : Shared} {v1 v2 : Value} {x1 x2 : It3} (h1 : R3 s.heap v1 x1) (h2 : R3 s.heap v2 x2) (hu : A.units + 100 < cLine) : LtAt A s v1 v2 (lt3 x1 x2) := by
  obtain ⟨a, aw, _, tp, tn, vs, k, ha, haw, hi⟩ := h1
  obtain ⟨b, bw, _, up, un, us, k', hb, hbw, hj⟩ := h2
  have hl := PySem.IsL.isList (n := k) haw
  have hm := PySem.IsL.isList (n := k') hbw
  refine LtAt.tuples (e := fun j => match j with | 0 => decide (x1.1 = x2.1) | 1 => x1.2.1 == x2.2.1 | _ => (x1.2.2 : Int) == (x2.2.2 : Int))
    (t := fun j => match j with | 0 => ltL x1.1 x2.1 | 1 => decide (x1.2.1.cps.toList < x2.2.1.cps.toList) | _ => decide ((x1.2.2 : Int) < (x2.2.2 : Int))) ha hb (by omega) ?_ ?_ ?_
  · intro j g1 g2
    match j, g1, g2 with
    | 0, _, _ => exact EqAt.intLists hl hm hi hj (by show A.units + 1 + 64 < _; omega)
    | 1, _, _ => exact EqAt.str_str _ _ _ _
    | 2, _, _ => exact EqAt.int_int _ _ _ _
    | j + 3, g1, _ => exact absurd g1 (by simp)
  · intro j g1 g2
    match j, g1, g2 with
    | 0, _, _ => exact LtAt.intLists hl hm hi hj (by show A.units + 1 < _; omega)
    | 1, _, _ => exact LtAt.str _ _ _ _
    | 2, _, _ => exact LtAt.int _ _ _ _
    | j + 3, g1, _ => exact absurd g1 (by simp)
  · simp only [List.size_toArray, List.length_cons, List.length_nil, lt3]
    simp [lex]
    by_cases e1 : x1.1 = x2.1 <;> by_cases e2 : x1.2.1 = x2.2.1 <;> simp [e1, e2]
    omega
theorem cmp2 {A : Around} {s : Shared} {v1 v2 : Value} {x1 x2 : It2} (h1 : R2 s.heap v1 x1) (h2 : R2 s.heap v2 x2) (hu : A.units + 100 < cLine) : LtAt A s v1 v2 (lt2 x1 x2) := by
  obtain ⟨a, aw, _, tn, vs, k, ha, haw, hi⟩ := h1
  obtain ⟨b, bw, _, un, us, k', hb, hbw, hj⟩ := h2
  have hl := PySem.IsL.isList (n := k) haw
  have hm := PySem.IsL.isList (n := k') hbw
  refine LtAt.tuples (e := fun j => match j with | 0 => decide (x1.1 = x2.1) | _ => x1.2 == x2.2)
    (t := fun j => match j with | 0 => ltL x1.1 x2.1 | _ => decide (x1.2 < x2.2)) ha hb (by omega) ?_ ?_ ?_
  · intro j g1 g2
    match j, g1, g2 with
    | 0, _, _ => exact EqAt.intLists hl hm hi hj (by show A.units + 1 + 64 < _; omega)
    | 1, _, _ => exact EqAt.int_int _ _ _ _
    | j + 2, g1, _ => exact absurd g1 (by simp)
  · intro j g1 g2
    match j, g1, g2 with
    | 0, _, _ => exact LtAt.intLists hl hm hi hj (by show A.units + 1 < _; omega)
    | 1, _, _ => exact LtAt.int _ _ _ _
    | j + 2, g1, _ => exact absurd g1 (by simp)
  · simp only [List.size_toArray, List.length_cons, List.length_nil, lt2]
    simp [lex]
    by_cases e1 : x1.1 = x2.1 <;> by_cases e2 : x1.2 = x2.2 <;> simp [e1, e2]
end
theorem ty_str : typeOf (.type "str") = pure (.type "type") := by with_unfolding_all rfl
theorem sub_str_str : isSubtype (.type "str") (.type "str") = pure true := by rw [isSubtype_type]; kernel_rfl
theorem sub_type_type : isSubtype (.type "type") (.type "type") = pure true := by rw [isSubtype_type]; kernel_rfl
theorem isType_str : isType (.type "str") = pure true := rfl
theorem check_nested (args : Args) : checkBuiltinCall "issubclass.nested" args = pure () := PySem.checkBuiltinCall_of_none (by kernel_rfl) (by kernel_rfl) args
theorem args_nested (a b c : Value) : argsOk "issubclass.nested" ⟨[a, b, c], []⟩ := by unfold argsOk; kernel_rfl
theorem issub_str {prog : Program} {w : World} {A : Around} {E : Value → Shared → Prop} {s : Shared} {k : Value} {dep : Int} {tk : Tok} {Q : Fin → Shared → Prop} (hk : k = .int dep tk) (hq : Q (.done (.ret (.bool true))) s) :
    wpAny (model prog w) A (Builtin.«issubclass.nested» ⟨[.type "str", .type "str", k], []⟩) Q E s := by
  subst hk
  have h1 := isType_str
  have h2 := sub_str_str
  repeat (any_goals (first | assumption | (rw [h1]) | (rw [h2]) | wp_step))
theorem plain_nested : plainId "issubclass.nested" = true := by decide +kernel
theorem issub_code {prog : Program} {w : World} {A : Around} {s : Shared} {k : Value} {dep : Int} {tk : Tok} {R : Result → Shared → Prop} (hk : k = .int dep tk) (hq : R (.ok (.ret (.bool true))) s) :
    codeAny (model prog w) A (.call (.builtin "issubclass.nested") ⟨[.type "str", .type "str", k], []⟩) R s := by
  refine codeAny_call_builtin plain_nested F.entry_issubclass_nested ?_
  exact wpAny_of_eq (check_nested _) (issub_str hk hq)
theorem issub_tup {prog : Program} {w : World} {A : Around} {E : Value → Shared → Prop} {s : Shared} {tp : Addr} {Q : Fin → Shared → Prop}
    (htp : s.heap.get? tp = some { cls := .type "tuple", data := .seq #[.type "str", .type "bytes"] }) (hq : Q (.done (.ret (.bool true))) s) :
    wpAny (model prog w) A (Builtin.«issubclass.nested» ⟨[.type "str", .ref tp, rawInt 0], []⟩) Q E s := by
  obtain ⟨h, g, d, t, os⟩ := s
  have hT2 : (⟨h, g, d, t, os⟩ : Shared).TypeIs (.ref tp) "tuple" := ⟨_, htp, rfl⟩
  have f1 := F.isi_sub_tuple
  repeat (any_goals (first | assumption | wp_step))
  refine issub_code rfl ?_
  dsimp only
  repeat (any_goals (first | assumption | wp_step))
theorem issub_call {w : World} {A : Around} {E : Value → Shared → Prop} {s : Shared} {tp : Addr} {Q : Value → Shared → Prop}
    (htp : s.heap.get? tp = some { cls := .type "tuple", data := .seq #[.type "str", .type "bytes"] }) (hq : Q (.bool true) s) :
    wpAny (model PR w) A (call (.builtin "issubclass") [.type "str", .ref tp]) Q E s :=
  call_issubclass (S := fun _ R s => s.heap.get? tp = some { cls := .type "tuple", data := .seq #[.type "str", .type "bytes"] } ∧ R (.ok (.ret (.bool true))) s)
    (fun _ _ _ _ _ h => issubclass_outer (issub_tup h.1 h.2)) ⟨htp, hq⟩
set_option maxHeartbeats 8000000 in
theorem getsep_spec {w : World} {mean : ExcName → Option Value} {mg mb : Str → Option Value} {A : Around} {s : Shared} {x : Str} {t1 : Tok} {Q : Value → Shared → Prop}
    (W : Wd w mean mg mb s.heap) (hu : A.units + 100 < cLine) (hd : A.depth + 10 < recursionLimit)
    (hQ : ∀ h' tk t, s.heap.StaysIn h' → Q (.str (Str.ofString "/") t) { s with heap := h', toks := tk }) :
    wpAny (model PR w) A (call (.ref 151) [.str x t1]) Q NE s := by
  have X := W.X
  have T := W.T
  refine' enter (binds := [(Str.ofString "path", .str x t1)]) X T.nolimit ?k6 ?k7 (by omega) ?k9 ?kB ?_ ?c2 ?c3 ?c4 ?c5
  ((case k6 | k7 => k_is); (case k9 => exact .of_eq rfl); (case c5 => decide); (case kB => exact locs rfl); (case c2 | c3 | c4 => exact rfl))
  intro h₁ F
  have N : News s.heap s.heap.objs.size h₁ [] := News.nil
  repeat (walk1; try dsimp only)
  exact hQ _ _ _ F.keep
set_option maxHeartbeats 8000000 in
theorem fspath_spec {w : World} {mean : ExcName → Option Value} {mg mb : Str → Option Value} {A : Around} {s : Shared} {x : Str} {t1 : Tok} {Q : Value → Shared → Prop}
    (W : Wd w mean mg mb s.heap) (hu : A.units + 100 < cLine) (hd : A.depth + 10 < recursionLimit)
    (hQ : ∀ h' tk, s.heap.StaysIn h' → Q (.str x t1) { s with heap := h', toks := tk }) :
    wpAny (model PR w) A (call (.ref 137) [.str x t1]) Q NE s := by
  have X := W.X
  have T := W.T
  refine' enter (binds := [(Str.ofString "path", .str x t1)]) X T.nolimit ?k6 ?k7 (by omega) ?k9 ?kB ?_ ?c2 ?c3 ?c4 ?c5
  ((case k6 | k7 => k_is); (case k9 => exact .of_eq rfl); (case c5 => decide); (case kB => exact locs rfl); (case c2 | c3 | c4 => exact rfl))
  intro h₁ F
  have N : News s.heap s.heap.objs.size h₁ [] := News.nil
  (repeat' (first | ((with_reducible refine ⟨(by k_in : Frag.In _ _), ?_⟩); (try dsimp only [List.nil_append, List.cons_append])) | ((fail_if_success k_end); (fail_if_success (with_reducible (first | show At (call (.ref _) _ _) | show At (exec (.While _ _ _ _) _) | show At (exec (.For _ _ _ _ _) _) | show At (call (.type "range") _ _) | show At (pyIter _) | show At (eval (.ListComp _ _ _ _) _) | show At (eval (.DictComp _ _ _ _ _) _) | show At (call (.builtin "issubclass") _ _)))); (walk1; try dsimp only))))
  refine issub_call (News.get ‹News _ _ _ _› (.head _)) ?_
  (repeat' (first | ((with_reducible refine ⟨(by k_in : Frag.In _ _), ?_⟩); (try dsimp only [List.nil_append, List.cons_append])) | ((fail_if_success k_end); (fail_if_success (with_reducible (first | show At (call (.ref _) _ _) | show At (exec (.While _ _ _ _) _) | show At (exec (.For _ _ _ _ _) _) | show At (call (.type "range") _ _) | show At (pyIter _) | show At (eval (.ListComp _ _ _ _) _) | show At (eval (.DictComp _ _ _ _ _) _) | show At (call (.builtin "issubclass") _ _)))); (walk1; try dsimp only))))
  with_reducible rename Fr _ _ _ _ => F9
  exact hQ _ _ F9.keep
/-- a def with *rest -/
theorem enterT {w : World} {A : Around} {E : Value → Shared → Prop} {s : Shared} {Q : Value → Shared → Prop} {K : Frag} {name qual : Str} {params : Arguments} {body : List Stmt} {scope : Scope} {dV kV doc pm cdv ct oc : Value} {an od : Option Addr} {osl : Array (Option Value)} {f : Addr}
    {pos : List Value} {kw : List (Str × Value)} {vs : List Value} {binds : Value → List (Str × Value)}
    (X : K.In s.heap) (hlim : s.heap.NoLimit)
    (ho : K.lookup f = some ⟨oc, od, .func (fnOf name qual params body scope dV kV doc pm an cdv ct), osl⟩) (hcd : codeIn K cdv qual = true) (hroom : A.depth < recursionLimit) (hz : vs.length < 1000)
    (hbind : bindArgs (fnOf name qual params body scope dV kV doc pm an cdv ct) ⟨pos, kw⟩ = newTuple vs >>= fun r => pure (binds r)) (hloc : ∀ r, ∀ y ∈ binds r, scope.names.lookup y.1 = some .local)
    (h : ∀ h₁, Fr (s.heap.push (tupO vs)) (s.heap.push (tupO vs)).objs.size h₁ (fun y => (binds (.ref s.heap.objs.size)).reverse.lookup y) →
      wpAny (model PR w) (A.deeper (envOf qual scope (s.heap.push (tupO vs)).objs.size f cdv)) (execs body (envOf qual scope (s.heap.push (tupO vs)).objs.size f cdv))
        (fun fl s' => Q (match fl with | .ret v => v | _ => .none) s') NE
        { s with heap := h₁, toks := s.toks + (binds (.ref s.heap.objs.size)).length })
    (hco : scope.isCoroutine = false := by rfl) (hgen : scope.isGenerator = false := by rfl) (hk : scope.kind = .function := by rfl)
    (hcell : ∀ x ∈ scope.names, x.2 ≠ .cell := by decide) : wpAny (model PR w) A (call (.ref f) pos kw) Q E s := by
  refine wpAny_call ?_
  refine codeAny_call_function hroom (X _ _ ho) rfl hco hgen rfl (codeRec_of X hcd) ?_
  rw [hbind]
  refine wpAny_bind (wpAny_newObj_type (wpAny_pure ?_) (by show vs.toArray.size ≤ sizeLine; rw [List.size_toArray, sizeLine_eq]; omega))
  refine wpAny_newFunctionEnv (s := { s with heap := s.heap.push (tupO vs) }) hcell (hloc _) (fun h₀ hns₀ hsb₀ => ⟨(hlim.push _).fresh _ hsb₀, codeAny_func ?_⟩) hk
  exact wpAny_mono (h h₀ ⟨hns₀, fun b o e => hsb₀.extBut b o (Nat.ne_of_lt (Heap.lt_size e)) (Heap.get?_push_of_some _ e), Nat.le_refl _⟩) (fun _ _ q => q) fun _ _ q => q.elim
set_option maxHeartbeats 8000000 in
theorem join_spec {w : World} {mean : ExcName → Option Value} {mg mb : Str → Option Value} {A : Around} {s : Shared} {x y : Str} {t1 t2 : Tok} {Q : Value → Shared → Prop}
    (W : Wd w mean mg mb s.heap) (hu : A.units + 200 < cLine) (hd : A.depth + 20 < recursionLimit) (hh : A.handled = none) (hx : 1 ≤ x.length ∧ x.length < 10000) (hy : y.length < 10000 ∧ Txt.startswith y (Str.ofString "/") = false)
    (hQ : ∀ h' tk t, s.heap.StaysIn h' → Q (.str (if Txt.endswith x (Str.ofString "/") = true then x ++ y else x ++ (Str.ofString "/" ++ y)) t) { s with heap := h', toks := tk }) :
    wpAny (model PR w) A (call (.ref 158) [.str x t1, .str y t2]) Q NE s := by
  have X := W.X
  have T := W.T
  refine' enterT (vs := [.str y t2]) (binds := fun r => [(Str.ofString "a", .str x t1), (Str.ofString "p", r)]) X T.nolimit ?k6 ?k7 (by omega) (by simp) ?k9 ?kB ?_ ?c2 ?c3 ?c4 ?c5
  (case k6 => k_is)
  (case k7 => k_is)
  (case k9 => with_unfolding_all rfl)
  (case c5 => decide)
  (case kB => exact fun _ => locs rfl)
  (case c2 => exact rfl)
  (case c3 => exact rfl)
  (case c4 => exact rfl)
  intro h₁ F0
  have F : Fr s.heap (s.heap.push (tupO [.str y t2])).objs.size h₁ _ := ⟨F0.ns, fun b o e => F0.keep b o (Heap.get?_push_of_some _ e), by rw [show (s.heap.push (tupO [.str y t2])).objs.size = s.heap.objs.size + 1 from Array.size_push ..]; exact Nat.le_succ _⟩
  have N : News s.heap (s.heap.push (tupO [.str y t2])).objs.size h₁ [(s.heap.objs.size, tupO [.str y t2])] := fun p hp => by
    cases List.mem_singleton.mp hp
    refine ⟨F0.keep _ _ (Heap.get?_push_size _ rfl), ?_, ?_⟩
    · rw [show (s.heap.push (tupO [.str y t2])).objs.size = s.heap.objs.size + 1 from Array.size_push ..]; exact Nat.ne_of_lt (Nat.lt_succ_self _)
    · cases hq : s.heap.get? s.heap.objs.size with
      | none => rfl
      | some o => exact absurd (Heap.lt_size hq) (Nat.lt_irrefl _)
  clear F0
  (repeat' (first | ((with_reducible refine ⟨(by k_in : Frag.In _ _), ?_⟩); (try dsimp only [List.nil_append, List.cons_append])) | ((fail_if_success k_end); (fail_if_success (with_reducible (first | show At (call (.ref _) _ _) | show At (exec (.While _ _ _ _) _) | show At (exec (.For _ _ _ _ _) _) | show At (call (.type "range") _ _) | show At (pyIter _) | show At (eval (.ListComp _ _ _ _) _) | show At (eval (.DictComp _ _ _ _ _) _) | show At (subscriptTail _ _ _ _) | (show At (compareOp _ _ _); fail_if_success show At (compareOp _ (.int _ _) (.int _ _))) | show At (setItem _ _ _) | show At (call (.builtin _) _ _) | show At (exec (.Assign _ (.ListComp _ _ _ _) _) _) | show At (call (.type "enumerate") _ _)))); (walk1; try dsimp only))))
  refine fspath_spec (W.keeps F.keep) (roomU hu (by decide)) (roomD hd (by decide)) ?_
  intro h2 tk2 k2
  have F2 := fr_stays F k2
  have N2 := news_stays N k2
  clear F N k2
  (repeat' (first | ((with_reducible refine ⟨(by k_in : Frag.In _ _), ?_⟩); (try dsimp only [List.nil_append, List.cons_append])) | ((fail_if_success k_end); (fail_if_success (with_reducible (first | show At (call (.ref _) _ _) | show At (exec (.While _ _ _ _) _) | show At (exec (.For _ _ _ _ _) _) | show At (call (.type "range") _ _) | show At (pyIter _) | show At (eval (.ListComp _ _ _ _) _) | show At (eval (.DictComp _ _ _ _ _) _) | show At (subscriptTail _ _ _ _) | (show At (compareOp _ _ _); fail_if_success show At (compareOp _ (.int _ _) (.int _ _))) | show At (setItem _ _ _) | show At (call (.builtin _) _ _) | show At (exec (.Assign _ (.ListComp _ _ _ _) _) _) | show At (call (.type "enumerate") _ _)))); (walk1; try dsimp only))))
  with_reducible rename Fr _ _ _ _ => F9
  with_reducible rename News _ _ _ _ => N9
  refine getsep_spec (W.keeps F9.keep) (roomU hu (by decide)) (roomD hd (by decide)) ?_
  intro h3 tk3 t3 k3
  have F3 := fr_stays F9 k3
  have N3 := news_stays N9 k3
  clear F9 N9 k3
  (repeat' (first | ((with_reducible refine ⟨(by k_in : Frag.In _ _), ?_⟩); (try dsimp only [List.nil_append, List.cons_append])) | ((fail_if_success k_end); (fail_if_success (with_reducible (first | show At (call (.ref _) _ _) | show At (exec (.While _ _ _ _) _) | show At (exec (.For _ _ _ _ _) _) | show At (call (.type "range") _ _) | show At (pyIter _) | show At (eval (.ListComp _ _ _ _) _) | show At (eval (.DictComp _ _ _ _ _) _) | show At (subscriptTail _ _ _ _) | (show At (compareOp _ _ _); fail_if_success show At (compareOp _ (.int _ _) (.int _ _))) | show At (setItem _ _ _) | show At (call (.builtin _) _ _) | show At (exec (.Assign _ (.ListComp _ _ _ _) _) _) | show At (call (.type "enumerate") _ _)))); (walk1; try dsimp only))))
  with_reducible rename Fr _ _ _ _ => F9
  with_reducible rename News _ _ _ _ => N9
  refine wpAny_For ?_
  (walk1; try dsimp only)
  refine for_tuple (vs := [.str y t2]) (fun i m rest => rest = [(s.heap.objs.size, tupO [.str y t2])] ∧ m (Str.ofString "sep") = some (.str (Str.ofString "/") t3) ∧ ∃ t, m (Str.ofString "path") = some (.str (if i = 0 then x else if Txt.endswith x (Str.ofString "/") = true then x ++ y else x ++ (Str.ofString "/" ++ y)) t))
    ?_ ?_ hh rfl rfl F9 N9 ⟨rfl, ?_, t1, ?_⟩ ?_ ?_
  · rintro i m rest h ⟨rfl, -, -⟩ - N
    exact ⟨_, (N _ (.head _)).1, rfl, 0, rfl⟩
  · rintro i m rest ⟨rfl, -, -⟩
    exact news_at F9 N9
  · walk_at "m_lk"
  · show _ = some (Value.str x t1)
    walk_at "m_lk"
  · rintro i v m₁ rest h tk o hi hv ⟨rfl, hsep, t, hpath⟩ F4 N4
    refine hidePost fun T hT => ?_
    have hi0 : i = 0 := by simp at hi; exact hi
    subst hi0
    cases hv
    rw [if_pos rfl] at hpath
    (repeat' (first | ((with_reducible refine ⟨(by k_in : Frag.In _ _), ?_⟩); (try dsimp only [List.nil_append, List.cons_append])) | ((fail_if_success k_end); (fail_if_success (with_reducible (first | show At (call (.ref _) _ _) | show At (exec (.While _ _ _ _) _) | show At (exec (.For _ _ _ _ _) _) | show At (call (.type "range") _ _) | show At (pyIter _) | show At (eval (.ListComp _ _ _ _) _) | show At (eval (.DictComp _ _ _ _ _) _) | show At (subscriptTail _ _ _ _) | (show At (compareOp _ _ _); fail_if_success show At (compareOp _ (.int _ _) (.int _ _))) | show At (setItem _ _ _) | show At (call (.builtin _) _ _) | show At (exec (.Assign _ (.ListComp _ _ _ _) _) _) | show At (call (.type "enumerate") _ _)))); (walk1; try dsimp only))))
    refine fspath_spec (W.keeps F4.keep) (roomU hu (by decide)) (roomD hd (by decide)) ?_
    intro h5 tk5 k5
    have F5 := fr_stays F4 k5
    have N5 := news_stays N4 k5
    clear F4 N4 k5
    (repeat' (first | ((with_reducible refine ⟨(by k_in : Frag.In _ _), ?_⟩); (try dsimp only [List.nil_append, List.cons_append])) | ((fail_if_success k_end); (fail_if_success (with_reducible (first | show At (call (.ref _) _ _) | show At (exec (.While _ _ _ _) _) | show At (exec (.For _ _ _ _ _) _) | show At (call (.type "range") _ _) | show At (pyIter _) | show At (eval (.ListComp _ _ _ _) _) | show At (eval (.DictComp _ _ _ _ _) _) | show At (call (.builtin "issubclass") _ _) | show At (truthy _)))); (walk1; try dsimp only))))
    rw [hy.2]
    iterate 6 (walk1; try dsimp only)
    refine PySem.P.truthy_str (by omega) ?_
    rw [show (((x.length : Int) != 0) = true) from bne_iff_ne.mpr (by omega)]
    dsimp only
    (repeat' (first | ((with_reducible refine ⟨(by k_in : Frag.In _ _), ?_⟩); (try dsimp only [List.nil_append, List.cons_append])) | ((fail_if_success k_end); (fail_if_success (with_reducible (first | show At (call (.ref _) _ _) | show At (exec (.While _ _ _ _) _) | show At (exec (.For _ _ _ _ _) _) | show At (call (.type "range") _ _) | show At (pyIter _) | show At (eval (.ListComp _ _ _ _) _) | show At (eval (.DictComp _ _ _ _ _) _) | show At (call (.builtin "issubclass") _ _) | show At (truthy _)))); (walk1; try dsimp only))))

    cases he : Txt.endswith x (Str.ofString "/") with
    | true =>
      rw [he] at hQ
      (repeat' (first | ((with_reducible refine ⟨(by k_in : Frag.In _ _), ?_⟩); (try dsimp only [List.nil_append, List.cons_append])) | ((fail_if_success k_end); (fail_if_success (with_reducible (first | show At (call (.ref _) _ _) | show At (exec (.While _ _ _ _) _) | show At (exec (.For _ _ _ _ _) _) | show At (call (.type "range") _ _) | show At (pyIter _) | show At (eval (.ListComp _ _ _ _) _) | show At (eval (.DictComp _ _ _ _ _) _) | show At (call (.builtin "issubclass") _ _)))); (walk1; try dsimp only))))
      with_reducible rename Fr _ _ _ _ => F9
      with_reducible rename News _ _ _ _ => N9
      refine hT _ _ ⟨_, _, _, _, rfl, F9, N9, rfl, ?_, _, lk_eq.trans (congrArg (fun z => some (Value.str z _)) (show x ++ y = (if 0 + 1 = 0 then x else if Txt.endswith x (Str.ofString "/") = true then x ++ y else x ++ (Str.ofString "/" ++ y)) by rw [if_neg (by decide), if_pos he]))⟩
      walk_at "m_lk"
    | false =>
      rw [he] at hQ
      (repeat' (first | ((with_reducible refine ⟨(by k_in : Frag.In _ _), ?_⟩); (try dsimp only [List.nil_append, List.cons_append])) | ((fail_if_success k_end); (fail_if_success (with_reducible (first | show At (call (.ref _) _ _) | show At (exec (.While _ _ _ _) _) | show At (exec (.For _ _ _ _ _) _) | show At (call (.type "range") _ _) | show At (pyIter _) | show At (eval (.ListComp _ _ _ _) _) | show At (eval (.DictComp _ _ _ _ _) _) | show At (call (.builtin "issubclass") _ _)))); (walk1; try dsimp only))))
      with_reducible rename Fr _ _ _ _ => F9
      with_reducible rename News _ _ _ _ => N9
      refine hT _ _ ⟨_, _, _, _, rfl, F9, N9, rfl, ?_, _, lk_eq.trans (congrArg (fun z => some (Value.str z _)) (show x ++ (Str.ofString "/" ++ y) = (if 0 + 1 = 0 then x else if Txt.endswith x (Str.ofString "/") = true then x ++ y else x ++ (Str.ofString "/" ++ y)) by rw [if_neg (by decide), if_neg (by rw [he]; exact Bool.false_ne_true)]))⟩
      walk_at "m_lk"
  · rintro m₁ rest h tk ⟨rfl, hsep, t, hpath⟩ F4 N4
    dsimp only
    (repeat' (first | ((with_reducible refine ⟨(by k_in : Frag.In _ _), ?_⟩); (try dsimp only [List.nil_append, List.cons_append])) | ((fail_if_success k_end); (fail_if_success (with_reducible (first | show At (call (.ref _) _ _) | show At (exec (.While _ _ _ _) _) | show At (exec (.For _ _ _ _ _) _) | show At (call (.type "range") _ _) | show At (pyIter _) | show At (eval (.ListComp _ _ _ _) _) | show At (eval (.DictComp _ _ _ _ _) _) | show At (subscriptTail _ _ _ _) | (show At (compareOp _ _ _); fail_if_success show At (compareOp _ (.int _ _) (.int _ _))) | show At (setItem _ _ _) | show At (call (.builtin _) _ _) | show At (exec (.Assign _ (.ListComp _ _ _ _) _) _) | show At (call (.type "enumerate") _ _)))); (walk1; try dsimp only))))
    exact hQ _ _ _ F4.keep
/-- dirname, where a / stands in the text -/
noncomputable def dirT (x : Str) : Str :=
  let head := Txt.slice x none (some (Txt.rfind x (Str.ofString "/") + 1))
  if (head != Txt.mul (Str.ofString "/") head.length) = true then Txt.rstripChars head (Str.ofString "/") else head
set_option maxHeartbeats 8000000 in
theorem dirname_spec {w : World} {mean : ExcName → Option Value} {mg mb : Str → Option Value} {A : Around} {s : Shared} {x : Str} {t1 : Tok} {Q : Value → Shared → Prop}
    (W : Wd w mean mg mb s.heap) (hu : A.units + 200 < cLine) (hd : A.depth + 20 < recursionLimit) {hd' : Str} (hx : x.length < 10000) (hhead : Txt.slice x none (some (Txt.rfind x (Str.ofString "/") + 1)) = hd') (hlen : 1 ≤ hd'.length ∧ hd'.length < 10000)
    (hQ : ∀ h' tk t, s.heap.StaysIn h' → Q (.str (dirT x) t) { s with heap := h', toks := tk }) :
    wpAny (model PR w) A (call (.ref 165) [.str x t1]) Q NE s := by
  have X := W.X
  have T := W.T
  refine' enter (binds := [(Str.ofString "p", .str x t1)]) X T.nolimit ?k6 ?k7 (by omega) ?k9 ?kB ?_ ?c2 ?c3 ?c4 ?c5
  ((case k6 | k7 => k_is); (case k9 => exact .of_eq rfl); (case c5 => decide); (case kB => exact locs rfl); (case c2 | c3 | c4 => exact rfl))
  intro h₁ F
  have N : News s.heap s.heap.objs.size h₁ [] := News.nil
  (repeat' (first | ((with_reducible refine ⟨(by k_in : Frag.In _ _), ?_⟩); (try dsimp only [List.nil_append, List.cons_append])) | ((fail_if_success k_end); (fail_if_success (with_reducible (first | show At (call (.ref _) _ _) | show At (exec (.While _ _ _ _) _) | show At (exec (.For _ _ _ _ _) _) | show At (call (.type "range") _ _) | show At (pyIter _) | show At (eval (.ListComp _ _ _ _) _) | show At (eval (.DictComp _ _ _ _ _) _) | show At (subscriptTail _ _ _ _) | (show At (compareOp _ _ _); fail_if_success show At (compareOp _ (.int _ _) (.int _ _))) | show At (setItem _ _ _) | show At (call (.builtin _) _ _) | show At (exec (.Assign _ (.ListComp _ _ _ _) _) _) | show At (call (.type "enumerate") _ _)))); (walk1; try dsimp only))))
  refine fspath_spec (W.keeps F.keep) (roomU hu (by decide)) (roomD hd (by decide)) ?_
  intro h2 tk2 k2
  have F2 := fr_stays F k2
  have N2 := news_stays N k2
  clear F N k2
  (repeat' (first | ((with_reducible refine ⟨(by k_in : Frag.In _ _), ?_⟩); (try dsimp only [List.nil_append, List.cons_append])) | ((fail_if_success k_end); (fail_if_success (with_reducible (first | show At (call (.ref _) _ _) | show At (exec (.While _ _ _ _) _) | show At (exec (.For _ _ _ _ _) _) | show At (call (.type "range") _ _) | show At (pyIter _) | show At (eval (.ListComp _ _ _ _) _) | show At (eval (.DictComp _ _ _ _ _) _) | show At (subscriptTail _ _ _ _) | (show At (compareOp _ _ _); fail_if_success show At (compareOp _ (.int _ _) (.int _ _))) | show At (setItem _ _ _) | show At (call (.builtin _) _ _) | show At (exec (.Assign _ (.ListComp _ _ _ _) _) _) | show At (call (.type "enumerate") _ _)))); (walk1; try dsimp only))))
  with_reducible rename Fr _ _ _ _ => F9
  with_reducible rename News _ _ _ _ => N9
  refine getsep_spec (W.keeps F9.keep) (roomU hu (by decide)) (roomD hd (by decide)) ?_
  intro h3 tk3 t3 k3
  have F3 := fr_stays F9 k3
  have N3 := news_stays N9 k3
  clear F9 N9 k3
  (repeat' (first | ((with_reducible refine ⟨(by k_in : Frag.In _ _), ?_⟩); (try dsimp only [List.nil_append, List.cons_append])) | ((fail_if_success k_end); (fail_if_success (with_reducible (first | show At (call (.ref _) _ _) | show At (exec (.While _ _ _ _) _) | show At (exec (.For _ _ _ _ _) _) | show At (call (.type "range") _ _) | show At (pyIter _) | show At (eval (.ListComp _ _ _ _) _) | show At (eval (.DictComp _ _ _ _ _) _) | show At (call (.builtin "issubclass") _ _) | show At (truthy _)))); (walk1; try dsimp only))))
  rw [hhead]
  refine PySem.P.truthy_str (by omega) ?_
  rw [show (((hd'.length : Int) != 0) = true) from bne_iff_ne.mpr (by omega)]
  dsimp only
  (repeat' (first | ((with_reducible refine ⟨(by k_in : Frag.In _ _), ?_⟩); (try dsimp only [List.nil_append, List.cons_append])) | ((fail_if_success k_end); (fail_if_success (with_reducible (first | show At (call (.ref _) _ _) | show At (exec (.While _ _ _ _) _) | show At (exec (.For _ _ _ _ _) _) | show At (call (.type "range") _ _) | show At (pyIter _) | show At (eval (.ListComp _ _ _ _) _) | show At (eval (.DictComp _ _ _ _ _) _) | show At (call (.builtin "issubclass") _ _) | show At (truthy _)))); (walk1; try dsimp only))))
  rw [dirT] at hQ
  cases hb : (Txt.slice x none (some (Txt.rfind x (Str.ofString "/") + 1)) != Txt.mul (Str.ofString "/") ↑(Txt.slice x none (some (Txt.rfind x (Str.ofString "/") + 1))).length) with
  | true =>
    rw [hb, if_pos rfl] at hQ
    (repeat' (first | ((with_reducible refine ⟨(by k_in : Frag.In _ _), ?_⟩); (try dsimp only [List.nil_append, List.cons_append])) | ((fail_if_success k_end); (fail_if_success (with_reducible (first | show At (call (.ref _) _ _) | show At (exec (.While _ _ _ _) _) | show At (exec (.For _ _ _ _ _) _) | show At (call (.type "range") _ _) | show At (pyIter _) | show At (eval (.ListComp _ _ _ _) _) | show At (eval (.DictComp _ _ _ _ _) _) | show At (call (.builtin "issubclass") _ _)))); (walk1; try dsimp only))))
    with_reducible rename Fr _ _ _ _ => F9
    exact hQ _ _ _ F9.keep
  | false =>
    rw [hb, if_neg Bool.false_ne_true] at hQ
    (repeat' (first | ((with_reducible refine ⟨(by k_in : Frag.In _ _), ?_⟩); (try dsimp only [List.nil_append, List.cons_append])) | ((fail_if_success k_end); (fail_if_success (with_reducible (first | show At (call (.ref _) _ _) | show At (exec (.While _ _ _ _) _) | show At (exec (.For _ _ _ _ _) _) | show At (call (.type "range") _ _) | show At (pyIter _) | show At (eval (.ListComp _ _ _ _) _) | show At (eval (.DictComp _ _ _ _ _) _) | show At (call (.builtin "issubclass") _ _)))); (walk1; try dsimp only))))
    with_reducible rename Fr _ _ _ _ => F9
    exact hQ _ _ _ F9.keep
noncomputable def IsStr (v : Value) (x : Str) : Prop := ∃ t, v = .str x t
noncomputable def wordN : List Str := [Str.ofString "OPTIMIZED", Str.ofString "NEWLOCALS", Str.ofString "VARARGS", Str.ofString "VARKEYWORDS", Str.ofString "NESTED", Str.ofString "GENERATOR", Str.ofString "NOFREE"]
/-- the words of the bits of n below i -/
noncomputable def wordsTo (n i : Nat) : List Str := ((List.range i).filter (fun k => n.testBit k)).map (fun k => wordN.getD k ⟨#[]⟩)
noncomputable def prettyT (n : Nat) : Str := Txt.join (Str.ofString ", ") (wordsTo n 7)
theorem strs_of : ∀ {vs : List Value} {ws : List Str}, AllR IsStr vs ws → StrsAre vs ws
  | [], [], _ => .nil
  | [], _ :: _, h => absurd h.1 (by simp)
  | _ :: _, [], h => absurd h.1 (by simp)
  | v :: vs, x :: ws, h => by
    obtain ⟨t, rfl⟩ := h.2 0 v x rfl rfl
    exact .cons x t (strs_of ⟨by simpa using h.1, fun i v' x' e1 e2 => h.2 (i + 1) v' x' (by simpa using e1) (by simpa using e2)⟩)
theorem words_small : ∀ n : Nat, n < 128 → ((wordsTo n 7).map (·.length)).sum + (wordsTo n 7).length ≤ 1000 := by decide +kernel
theorem bit_and : ∀ n : Nat, n < 128 → ∀ i : Nat, i < 7 → Builtin.bitAnd ((n - n % 2 ^ i : Nat) : Int) (1 * 2 ^ ((i : Int)).toNat) = if n.testBit i then ((2 ^ i : Nat) : Int) else 0 := by decide +kernel
theorem bit_xor : ∀ n : Nat, n < 128 → ∀ i : Nat, i < 7 → n.testBit i = true → Builtin.bitXor ((n - n % 2 ^ i : Nat) : Int) (1 * 2 ^ ((i : Int)).toNat) = ((n - n % 2 ^ (i + 1) : Nat) : Int) := by decide +kernel
theorem bit_no : ∀ n : Nat, n < 128 → ∀ i : Nat, i < 7 → n.testBit i = false → n % 2 ^ (i + 1) = n % 2 ^ i := by decide +kernel
theorem bit_end : ∀ n : Nat, n < 128 → ∀ i : Nat, i < 7 → n - n % 2 ^ (i + 1) = 0 → (List.range (i + 1)).filter (fun k => n.testBit k) = (List.range 7).filter (fun k => n.testBit k) := by decide +kernel
theorem wordsTo_succ (n i : Nat) : wordsTo n (i + 1) = if n.testBit i = true then wordsTo n i ++ [wordN.getD i ⟨#[]⟩] else wordsTo n i := by
  unfold wordsTo
  rw [List.range_succ, List.filter_append, List.map_append]
  cases h : n.testBit i <;> simp [h]
noncomputable def flagD : List (Int × PyData) := [(1, .str (Str.ofString "OPTIMIZED")), (2, .str (Str.ofString "NEWLOCALS")), (4, .str (Str.ofString "VARARGS")), (8, .str (Str.ofString "VARKEYWORDS")), (16, .str (Str.ofString "NESTED")), (32, .str (Str.ofString "GENERATOR")), (64, .str (Str.ofString "NOFREE")), (128, .str (Str.ofString "COROUTINE")), (256, .str (Str.ofString "ITERABLE_COROUTINE")), (512, .str (Str.ofString "ASYNC_GENERATOR"))]
theorem flag_look {dd : PyData} : ∀ i : Nat, i < 7 → (PySem.Spec.lookup (PyData.int (1 * 2 ^ ((i : Int)).toNat)) (flagD.map fun p => (PyData.int p.1, p.2))).getD dd = .str (wordN.getD i ⟨#[]⟩)
  | 0, _ | 1, _ | 2, _ | 3, _ | 4, _ | 5, _ | 6, _ => rfl
theorem flag_keyed {P : Params} {h : Heap} (X : (hd.heap_39 P).In h) : KTD.Keyed h 22 flagD := kt_keyed_in X (by with_unfolding_all rfl)
theorem hex_len : ∀ i : Nat, i < 7 → (PySem.baseText "0x" 16 (1 * 2 ^ ((i : Int)).toNat)).length ≤ 100 := by decide +kernel
inductive PrP (ln : Addr) (n : Nat) (i : Nat) (m : Str → Option Value) : List (Addr × Obj) → Prop
  | mk (vs : List Value) (k : Nat) (hR : AllR IsStr vs (wordsTo n i)) (hne : n % 2 ^ i < n) (h1 : LI m (Str.ofString "flags") ((n - n % 2 ^ i : Nat))) (h2 : m (Str.ofString "names") = some (.ref ln)) : PrP ln n i m [(ln, listO vs k)]
set_option maxHeartbeats 8000000 in
theorem pretty_spec {w : World} {mean : ExcName → Option Value} {mg mb : Str → Option Value} {A : Around} {s : Shared} {n : Nat} {t1 : Tok} {Q : Value → Shared → Prop}
    (W : Wd w mean mg mb s.heap) (hu : A.units + 200 < cLine) (hd : A.depth + 20 < recursionLimit) (hh : A.handled = none) (hn : 0 < n ∧ n < 128)
    (hQ : ∀ h' tk t, s.heap.StaysIn h' → Q (.str (prettyT n) t) { s with heap := h', toks := tk }) :
    wpAny (model PR w) A (call (.ref 29) [.int n t1]) Q NE s := by
  have X := W.X
  have T := W.T
  refine' enter (binds := [(Str.ofString "flags", .int n t1)]) X T.nolimit ?k6 ?k7 (by omega) ?k9 ?kB ?_ ?c2 ?c3 ?c4 ?c5
  ((case k6 | k7 => k_is); (case k9 => exact .of_eq rfl); (case c5 => decide); (case kB => exact locs rfl); (case c2 | c3 | c4 => exact rfl))
  intro h₁ F
  have N : News s.heap s.heap.objs.size h₁ [] := News.nil
  (repeat' (first | ((with_reducible refine ⟨(by k_in : Frag.In _ _), ?_⟩); (try dsimp only [List.nil_append, List.cons_append])) | ((fail_if_success k_end); (fail_if_success (with_reducible (first | show At (call (.ref _) _ _) | show At (exec (.While _ _ _ _) _) | show At (exec (.For _ _ _ _ _) _) | show At (call (.type "range") _ _) | show At (pyIter _) | show At (eval (.ListComp _ _ _ _) _) | show At (eval (.DictComp _ _ _ _ _) _) | show At (subscriptTail _ _ _ _) | (show At (compareOp _ _ _); fail_if_success show At (compareOp _ (.int _ _) (.int _ _))) | show At (setItem _ _ _) | show At (call (.builtin _) _ _) | show At (exec (.Assign _ (.ListComp _ _ _ _) _) _) | show At (call (.type "enumerate") _ _)))); (walk1; try dsimp only))))
  refine wpAny_For ?_
  (repeat' (first | ((with_reducible refine ⟨(by k_in : Frag.In _ _), ?_⟩); (try dsimp only [List.nil_append, List.cons_append])) | ((fail_if_success k_end); (fail_if_success (with_reducible (first | show At (call (.ref _) _ _) | show At (exec (.While _ _ _ _) _) | show At (exec (.For _ _ _ _ _) _) | show At (call (.type "range") _ _) | show At (pyIter _) | show At (eval (.ListComp _ _ _ _) _) | show At (eval (.DictComp _ _ _ _ _) _) | show At (call (.builtin "issubclass") _ _)))); (walk1; try dsimp only))))
  refine call_range_1 ?_
  dsimp only
  with_reducible rename Fr _ _ _ _ => F9
  with_reducible rename News _ _ _ _ => N9
  rename_i ln _ h5 tk5
  have hnn : ∀ i, n % 2 ^ i < n → i < 7 := fun i h => by
    rcases Nat.lt_or_ge i 7 with h' | h'
    · exact h'
    · have : 2 ^ 7 ≤ 2 ^ i := Nat.pow_le_pow_right (by omega) h'
      rw [Nat.mod_eq_of_lt (by omega)] at h
      omega
  have hlt := Heap.lt_size (N9.get (.head _))
  refine for_range (n := 32) (Heap.get?_push_size _ rfl) (by decide) (by decide) (PrP ln n)
    ?_ hh rfl rfl (F9.push _) (news_push N9 _) (.mk [] 0 ⟨rfl, fun i v x e => by simp at e⟩ (by simp [Nat.mod_one]; omega) ?_ ?_) ?_ ?_
  · rintro i m rest ⟨vs, k, -, -, -, -⟩ p hp
    cases List.mem_singleton.mp hp
    exact Nat.ne_of_lt (Nat.lt_of_lt_of_le hlt (by show _ ≤ (Heap.push _ _).objs.size; rw [show ∀ (h : Heap) (o : Obj), (h.push o).objs.size = h.objs.size + 1 from fun h o => Array.size_push ..]; exact Nat.le_succ _))
  · refine li_of (t := t1) (i := (n : Int)) ?_ (by simp [Nat.mod_one])
    rfl
  · walk_at "m_lk"
  · rintro i t m₁ rest h tk o hi ⟨vs, k, hR, hne, ⟨_, hfl⟩, hnm⟩ F4 N4
    refine hidePost fun T hT => ?_
    simp only [Int.zero_add, Int.mul_one] at F4
    have hi7 := hnn i hne
    (repeat' (first | ((with_reducible refine ⟨(by k_in : Frag.In _ _), ?_⟩); (try dsimp only [List.nil_append, List.cons_append])) | ((fail_if_success k_end); (fail_if_success (with_reducible (first | show At (call (.ref _) _ _) | show At (exec (.While _ _ _ _) _) | show At (exec (.For _ _ _ _ _) _) | show At (call (.type "range") _ _) | show At (pyIter _) | show At (eval (.ListComp _ _ _ _) _) | show At (eval (.DictComp _ _ _ _ _) _) | show At (call (.builtin "issubclass") _ _) | show At (truthy _)))); (walk1; try dsimp only))))
    rw [bit_and n hn.2 i hi7]
    cases hb : n.testBit i with
    | false =>
      rw [if_neg Bool.false_ne_true]
      (repeat' (first | ((with_reducible refine ⟨(by k_in : Frag.In _ _), ?_⟩); (try dsimp only [List.nil_append, List.cons_append])) | ((fail_if_success k_end); (fail_if_success (with_reducible (first | show At (call (.ref _) _ _) | show At (exec (.While _ _ _ _) _) | show At (exec (.For _ _ _ _ _) _) | show At (call (.type "range") _ _) | show At (pyIter _) | show At (eval (.ListComp _ _ _ _) _) | show At (eval (.DictComp _ _ _ _ _) _) | show At (call (.builtin "issubclass") _ _)))); (walk1; try dsimp only))))
      with_reducible rename Fr _ _ _ _ => F9
      with_reducible rename News _ _ _ _ => N9
      have hno := bit_no n hn.2 i hi7 hb
      refine hT _ _ ⟨_, _, _, _, rfl, F9, N9, .mk vs k ?_ (by omega) ?_ ?_⟩
      · rw [wordsTo_succ, hb, if_neg Bool.false_ne_true]; exact hR
      · rw [hno]; exact ⟨_, by walk_at "m_lk"⟩
      · walk_at "m_lk"
    | true =>
      rw [if_pos rfl]
      have hxx : ((2 ^ i : Nat) : Int) ≠ 0 := by have : 0 < 2 ^ i := Nat.two_pow_pos i; omega
      (repeat' (first | ((with_reducible refine ⟨(by k_in : Frag.In _ _), ?_⟩); (try dsimp only [List.nil_append, List.cons_append])) | ((fail_if_success k_end); (fail_if_success (with_reducible (first | show At (call (.ref _) _ _) | show At (exec (.While _ _ _ _) _) | show At (exec (.For _ _ _ _ _) _) | show At (call (.type "range") _ _) | show At (pyIter _) | show At (eval (.ListComp _ _ _ _) _) | show At (eval (.DictComp _ _ _ _ _) _) | show At (call (.builtin "issubclass") _ _)))); (walk1; try dsimp only))))
      · refine PySem.P.hex_of_int ?_ (by have := hex_len i hi7; rw [sizeLine_eq]; omega)
        dsimp only
        (repeat' (first | ((with_reducible refine ⟨(by k_in : Frag.In _ _), ?_⟩); (try dsimp only [List.nil_append, List.cons_append])) | ((fail_if_success k_end); (fail_if_success (with_reducible (first | show At (call (.ref _) _ _) | show At (exec (.While _ _ _ _) _) | show At (exec (.For _ _ _ _ _) _) | show At (call (.type "range") _ _) | show At (pyIter _) | show At (eval (.ListComp _ _ _ _) _) | show At (eval (.DictComp _ _ _ _ _) _) | show At (subscriptTail _ _ _ _) | (show At (compareOp _ _ _); fail_if_success show At (compareOp _ (.int _ _) (.int _ _))) | show At (setItem _ _ _) | show At (call (.builtin _) _ _) | show At (exec (.Assign _ (.ListComp _ _ _ _) _) _) | show At (call (.type "enumerate") _ _)))); (walk1; try dsimp only))))
        with_reducible rename Fr _ _ _ _ => F9
        with_reducible rename News _ _ _ _ => N9
        refine PyProof.Rows.call_get2_intTab (dd := .str (PySem.baseText "0x" 16 (1 * 2 ^ ((i : Int)).toNat))) (KTD.tab_keep (flag_keyed X PR w) F9.keep) (.str _ _) ?_
        rw [flag_look i hi7]
        intro v hv
        obtain ⟨tv, rfl⟩ := PyProof.V.Flat.str_inv hv
        dsimp only
        (repeat' (first | ((with_reducible refine ⟨(by k_in : Frag.In _ _), ?_⟩); (try dsimp only [List.nil_append, List.cons_append])) | ((fail_if_success k_end); (fail_if_success (with_reducible (first | show At (call (.ref _) _ _) | show At (exec (.While _ _ _ _) _) | show At (exec (.For _ _ _ _ _) _) | show At (call (.type "range") _ _) | show At (pyIter _) | show At (eval (.ListComp _ _ _ _) _) | show At (eval (.DictComp _ _ _ _ _) _) | show At (subscriptTail _ _ _ _) | (show At (compareOp _ _ _); fail_if_success show At (compareOp _ (.int _ _) (.int _ _))) | show At (setItem _ _ _) | show At (call (.builtin _) _ _) | show At (exec (.Assign _ (.ListComp _ _ _ _) _) _) | show At (call (.type "enumerate") _ _)))); (walk1; try dsimp only))))
        have hvl : vs.length = (wordsTo n i).length := hR.1
        have hwl : (wordsTo n i).length ≤ i := by
          unfold wordsTo
          rw [List.length_map]
          exact Nat.le_trans (List.length_filter_le _ _) (by simp)
        refine item_append F9 N9 (.tail (push_ne hlt) (.head (List.forall_mem_nil _))) (by omega) ?_
        intro h6 F6 N6
        clear F9 N9
        (repeat' (first | ((with_reducible refine ⟨(by k_in : Frag.In _ _), ?_⟩); (try dsimp only [List.nil_append, List.cons_append])) | ((fail_if_success k_end); (fail_if_success (with_reducible (first | show At (call (.ref _) _ _) | show At (exec (.While _ _ _ _) _) | show At (exec (.For _ _ _ _ _) _) | show At (call (.type "range") _ _) | show At (pyIter _) | show At (eval (.ListComp _ _ _ _) _) | show At (eval (.DictComp _ _ _ _ _) _) | show At (call (.builtin "issubclass") _ _) | show At (truthy _)))); (walk1; try dsimp only))))
        have hbx := bit_xor n hn.2 i hi7 hb
        have hwR : AllR IsStr (vs ++ [.str (wordN.getD i ⟨#[]⟩) tv]) (wordsTo n (i + 1)) := by
          rw [wordsTo_succ, hb, if_pos rfl]
          exact hR.push ⟨tv, rfl⟩
        rw [hbx]
        by_cases hz : n - n % 2 ^ (i + 1) = 0
        · rw [hz]
          have hall : wordsTo n (i + 1) = wordsTo n 7 := by unfold wordsTo; rw [bit_end n hn.2 i hi7 hz]
          (repeat' (first | ((with_reducible refine ⟨(by k_in : Frag.In _ _), ?_⟩); (try dsimp only [List.nil_append, List.cons_append])) | ((fail_if_success k_end); (fail_if_success (with_reducible (first | show At (call (.ref _) _ _) | show At (exec (.While _ _ _ _) _) | show At (exec (.For _ _ _ _ _) _) | show At (call (.type "range") _ _) | show At (pyIter _) | show At (eval (.ListComp _ _ _ _) _) | show At (eval (.DictComp _ _ _ _ _) _) | show At (subscriptTail _ _ _ _) | (show At (compareOp _ _ _); fail_if_success show At (compareOp _ (.int _ _) (.int _ _))) | show At (setItem _ _ _) | show At (call (.builtin _) _ _) | show At (exec (.Assign _ (.ListComp _ _ _ _) _) _) | show At (call (.type "enumerate") _ _)))); (walk1; try dsimp only))))
          refine hT _ _ ?_
          dsimp only
          (repeat' (first | ((with_reducible refine ⟨(by k_in : Frag.In _ _), ?_⟩); (try dsimp only [List.nil_append, List.cons_append])) | ((fail_if_success k_end); (fail_if_success (with_reducible (first | show At (call (.ref _) _ _) | show At (exec (.While _ _ _ _) _) | show At (exec (.For _ _ _ _ _) _) | show At (call (.type "range") _ _) | show At (pyIter _) | show At (eval (.ListComp _ _ _ _) _) | show At (eval (.DictComp _ _ _ _ _) _) | show At (subscriptTail _ _ _ _) | (show At (compareOp _ _ _); fail_if_success show At (compareOp _ (.int _ _) (.int _ _))) | show At (setItem _ _ _) | show At (call (.builtin _) _ _) | show At (exec (.Assign _ (.ListComp _ _ _ _) _) _) | show At (call (.type "enumerate") _ _)))); (walk1; try dsimp only))))
          with_reducible rename Fr _ _ _ _ => F9
          with_reducible rename News _ _ _ _ => N9
          rw [hall] at hwR
          refine join_listW (News.isList N9 (.tail _ (.head _))) (by simpa using strs_of hwR) (by decide) (by have := words_small n hn.2; omega) ?_
          intro t' tk'
          exact hQ _ _ _ F9.keep
        · have hxz : ((n - n % 2 ^ (i + 1) : Nat) : Int) ≠ 0 := by omega
          (repeat' (first | ((with_reducible refine ⟨(by k_in : Frag.In _ _), ?_⟩); (try dsimp only [List.nil_append, List.cons_append])) | ((fail_if_success k_end); (fail_if_success (with_reducible (first | show At (call (.ref _) _ _) | show At (exec (.While _ _ _ _) _) | show At (exec (.For _ _ _ _ _) _) | show At (call (.type "range") _ _) | show At (pyIter _) | show At (eval (.ListComp _ _ _ _) _) | show At (eval (.DictComp _ _ _ _ _) _) | show At (call (.builtin "issubclass") _ _)))); (walk1; try dsimp only))))
          · with_reducible rename Fr _ _ _ _ => F9
            with_reducible rename News _ _ _ _ => N9
            refine hT _ _ ⟨_, _, _, _, rfl, F9, N9, .mk _ _ hwR (by omega) ?_ ?_⟩
            · exact li_of (by walk_at "m_lk") hbx
            · walk_at "m_lk"
          · exact absurd (by assumption) hxz
      · exact absurd (by assumption) hxx
  · rintro m₁ rest h tk ⟨vs, k, hR, hne, -, -⟩
    exact absurd (hnn 32 hne) (by omega)
theorem slot_iadd : Slot "list" (dunderI "add") "list.__iadd__" :=
  .of (owner := "list") (n := "__iadd__") (by rw [typeLookup_type, builtinLookup_eq_fast]; kernel_rfl) (by decide +kernel) (by decide +kernel) (by decide +kernel)
    (by first | exact .inl (by decide +kernel) | exact .inr (by decide +kernel)) (by rw [isSubtype_type]; kernel_rfl)
theorem args_iadd (a b : Value) : argsOk "list.__iadd__" ⟨[a, b], []⟩ := by
  unfold argsOk; rw [signature?_of (id := "list.__iadd__") (n := ['_', '_', 'd', 'd', 'a', 'i', '_', '_']) (o := ['t', 's', 'i', 'l']) (by kernel_rfl) PySem.F.owner_list]; kernel_rfl
theorem listTooLong_ok {n m : Nat} (h : n + m ≤ 10000) : Builtin.List.listTooLong (n + m) = false := by
  unfold Builtin.List.listTooLong
  simp
  rw [sizeLine_eq]; omega
/-- l += b for two lists of the frame -/
theorem iadd_lists {w : World} {A : Around} {s : Shared} {base : Heap} {L l b : Addr} {m : Str → Option Value} {news : List (Addr × Obj)} {news' : Nat → List (Addr × Obj)} {vs ws : List Value} {n k : Nat} {Q : Value → Shared → Prop} {E : Value → Shared → Prop}
    (F : Fr base L s.heap m) (N : News base L s.heap news) (hb : s.heap.get? b = some (listO ws k)) (U : ∀ n', Upd l (listO vs n) (listO (vs ++ ws) n') news (news' n'))
    (hsz : vs.length + ws.length < 10000) (h : ∀ h' n', Fr base L h' m → News base L h' (news' n') → Q (.ref l) { s with heap := h' }) :
    wpAny (model PR w) A (inplaceOp .Add (.ref l) (.ref b)) Q E s := by
  obtain ⟨pre, post, e1, -, a0, b0⟩ := (U 0).split
  have z := N (l, listO vs n) (by rw [e1]; exact List.mem_append.mpr (.inr (.head _)))
  have hl := z.1
  unfold inplaceOp
  refine wpAny_holding ?_
  have hfi : fillsInplaceSlot (.type "list") "add" (Operator.Add == .Add) = pure false := by
    unfold fillsInplaceSlot
    show (typeLookup (.type "list") (dunderI "add") >>= fun fi => pure (fi.isSome && !isSeqSlot fi)) = pure false
    rw [slot_iadd.lookup]
    have : isSeqSlot (some (.builtin "list.__iadd__")) = true := by decide +kernel
    simp only [pure_bind, this]; rfl
  have hsi : seqSlot? (.type "list") (dunderI "add") = pure (some (.builtin "list.__iadd__")) := PySem.seqSlot_of slot_iadd.lookup (by decide +kernel)
  refine wpAny_bind (wpAny_typeOf ⟨_, hl, rfl⟩ (wpAny_bind (wpAny_of_eq hfi ?_)))
  show wpAny _ A (if false = true then _ else _) Q E s
  rw [if_neg Bool.false_ne_true]
  refine wpAny_bind (wpAny_binaryOp1_none (nm := "add") ⟨_, hl, rfl⟩ ⟨_, hb, rfl⟩ noFill_list_add ?_)
  refine wpAny_bind (wpAny_of_eq hsi ?_)
  refine wpAny_bind (wpAny_rule ?_)
  refine call_meets slot_iadd ⟨_, hl, rfl⟩ PySem.F.entry_list_iadd (args_iadd _ _) (AutoSeq1.list___iadd___list_list_0 l vs.toArray n b ws.toArray k ?_ ?_ ?_) ⟨hl, hb, ?_⟩
  · rw [List.size_toArray, List.size_toArray, listTooLong_ok (by omega)]; simp
  · rw [sizeLine_eq]; simp; omega
  · rw [sizeLine_eq]; simp; omega
  · show Q _ _
    have q : (listO vs n).mapSeq (fun x => x ++ ws.toArray) = listO (vs ++ ws) (if (vs.toArray ++ ws.toArray).size == vs.toArray.size then n else n + 1) := by
      unfold Obj.mapSeq listO
      simp
    have hs : Heap.SameBut l s.heap (s.heap.update l (Obj.mapSeq fun x => x ++ ws.toArray)) := Heap.SameBut.update ..
    have ho := Heap.get?_update_self (Obj.mapSeq fun x => x ++ ws.toArray) hl (by rw [q]; rfl)
    rw [q] at ho
    generalize (if (vs.toArray ++ ws.toArray).size == vs.toArray.size then n else n + 1) = n' at ho
    obtain ⟨pre, post, rfl, e2, a, b⟩ := (U n').split
    refine h _ n' (F.change hs z.2.1 z.2.2) ?_
    rw [e2]
    exact news_set N a b hs ho
/-- a fresh list at r -/
noncomputable def NewL (h h' : Heap) (r : Addr) (vs : List Value) : Prop := h.get? r = none ∧ ∃ k, h'.get? r = some (listO vs k)
set_option maxHeartbeats 8000000 in
theorem names_spec {w : World} {mean : ExcName → Option Value} {mg mb : Str → Option Value} {A : Around} {s : Shared} {Q : Value → Shared → Prop}
    (W : Wd w mean mg mb s.heap) (hd : A.depth + 10 < recursionLimit)
    (hQ : ∀ h' tk r vs, s.heap.StaysIn h' → NewL s.heap h' r vs → AllR IsStr vs wordN → Q (.ref r) { s with heap := h', toks := tk }) :
    wpAny (model PR w) A (call (.ref 172) []) Q NE s := by
  have X := W.X
  have T := W.T
  refine' enter (binds := []) X T.nolimit ?k6 ?k7 (by omega) ?k9 ?kB ?_ ?c2 ?c3 ?c4 ?c5
  ((case k6 | k7 => k_is); (case k9 => exact .of_eq rfl); (case c5 => decide); (case kB => exact locs rfl); (case c2 | c3 | c4 => exact rfl))
  intro h₁ F
  have N : News s.heap s.heap.objs.size h₁ [] := News.nil
  (repeat' (first | ((with_reducible refine ⟨(by k_in : Frag.In _ _), ?_⟩); (try dsimp only [List.nil_append, List.cons_append])) | ((fail_if_success k_end); (fail_if_success (with_reducible (first | show At (call (.ref _) _ _) | show At (exec (.While _ _ _ _) _) | show At (exec (.For _ _ _ _ _) _) | show At (call (.type "range") _ _) | show At (pyIter _) | show At (eval (.ListComp _ _ _ _) _) | show At (eval (.DictComp _ _ _ _ _) _) | show At (subscriptTail _ _ _ _) | (show At (compareOp _ _ _); fail_if_success show At (compareOp _ (.int _ _) (.int _ _))) | show At (setItem _ _ _) | show At (call (.builtin _) _ _) | show At (exec (.Assign _ (.ListComp _ _ _ _) _) _) | show At (call (.type "enumerate") _ _)))); (walk1; try dsimp only))))
  with_reducible rename Fr _ _ _ _ => F9
  with_reducible rename News _ _ _ _ => N9
  refine hQ _ _ _ _ F9.keep ⟨(N9 _ (.head _)).2.2, 0, (N9 _ (.head _)).1⟩ ⟨rfl, fun i v x e1 e2 => ?_⟩
  match i, e1, e2 with
  | 0, e1, e2 | 1, e1, e2 | 2, e1, e2 | 3, e1, e2 | 4, e1, e2 | 5, e1, e2 | 6, e1, e2 => cases e1; cases e2; exact ⟨_, rfl⟩
  | i + 7, e1, _ => cases e1
theorem news_add {base h h' : Heap} {L r : Addr} {m : Str → Option Value} {o : Obj} {news : List (Addr × Obj)} (F : Fr base L h m) (N : News base L h news) (k : h.StaysIn h') (e0 : h.get? r = none) (e : h'.get? r = some o) : News base L h' ((r, o) :: news) := fun p hp => by
  rcases List.mem_cons.mp hp with rfl | hp
  · refine ⟨e, fun q => ?_, ?_⟩
    · obtain ⟨oL, _, _, hL, _⟩ := F.ns
      rw [← q, e0] at hL; cases hL
    · cases hq : base.get? r with
      | none => rfl
      | some o' => rw [F.keep _ _ hq] at e0; cases e0
  · exact ⟨k _ _ (N p hp).1, (N p hp).2⟩
theorem AllR.append {α : Type} {R : Value → α → Prop} {vs ws : List Value} {xs ys : List α} (h : AllR R vs xs) (k : AllR R ws ys) : AllR R (vs ++ ws) (xs ++ ys) := by
  refine ⟨by simp [h.1, k.1], fun i v x e1 e2 => ?_⟩
  rcases Nat.lt_or_ge i vs.length with hi | hi
  · rw [List.getElem?_append_left hi] at e1
    rw [List.getElem?_append_left (by rw [← h.1]; exact hi)] at e2
    exact h.2 _ _ _ e1 e2
  · rw [List.getElem?_append_right hi] at e1
    rw [List.getElem?_append_right (by rw [← h.1]; exact hi), ← h.1] at e2
    exact k.2 _ _ _ e1 e2
theorem AllR.cons {α : Type} {R : Value → α → Prop} {vs : List Value} {xs : List α} (h : AllR R vs xs) {v : Value} {x : α} (r : R v x) : AllR R (v :: vs) (x :: xs) :=
  AllR.append (vs := [v]) (xs := [x]) ⟨rfl, fun i v' x' e1 e2 => by
    cases i with
    | zero => cases e1; cases e2; exact r
    | succ i => cases e1⟩ h
theorem AllR.nil {α : Type} {R : Value → α → Prop} : AllR R [] ([] : List α) := ⟨rfl, fun i v x e => by simp at e⟩
theorem news_fresh {base h : Heap} {L r : Addr} {news : List (Addr × Obj)} (N : News base L h news) (e0 : h.get? r = none) : ∀ p ∈ news, p.1 ≠ r := fun p hp q => by
  rw [← q, (N p hp).1] at e0; cases e0
theorem word_len : ∀ k : Nat, k < 7 → wordN[k]? = some (wordN.getD k ⟨#[]⟩) ∧ (wordN.getD k ⟨#[]⟩).length ≤ 11 := by decide +kernel
noncomputable def sub (p : Str) (k : Nat) : Str := p ++ Str.ofString "/" ++ wordN.getD k ⟨#[]⟩
/-- the first i turns of _law_written -/
noncomputable def wrB (g : Nat → Str → List Str) (n : Nat) (p : Str) (i : Nat) : List Str := ((List.range i).map (6 - ·)).flatMap fun k => if n.testBit k = true then sub p k :: g k (sub p k) else []
theorem wrB_succ (g : Nat → Str → List Str) (n : Nat) (p : Str) (i : Nat) : wrB g n p (i + 1) = wrB g n p i ++ if n.testBit (6 - i) = true then sub p (6 - i) :: g (6 - i) (sub p (6 - i)) else [] := by
  unfold wrB
  rw [List.range_succ, List.map_append, List.flatMap_append]
  simp
noncomputable def WrOk (w : World) (mean : ExcName → Option Value) (mg mb : Str → Option Value) (c n : Nat) (p : Str) (R : List Str) : Prop :=
  ∀ {A : Around} {s : Shared} {t1 t2 : Tok} {Q : Value → Shared → Prop}, Wd w mean mg mb s.heap → A.units + 100 * c + 200 < cLine → A.depth + 10 * c + 20 < recursionLimit → A.handled = none →
    (∀ h' tk r vs, s.heap.StaysIn h' → NewL s.heap h' r vs → AllR IsStr vs R → Q (.ref r) { s with heap := h', toks := tk }) →
    wpAny (model PR w) A (call (.ref 186) [.int n t1, .str p t2]) Q NE s
theorem bit_sh : ∀ n : Nat, n < 128 → ∀ i : Nat, i < 7 → Builtin.bitAnd ((n : Int).fdiv (2 ^ (6 + (i : Int) * -1).toNat)) 1 = if n.testBit (6 - i) = true then 1 else 0 := by decide +kernel
inductive WrP (ln : Addr) (g : Nat → Str → List Str) (n : Nat) (p : Str) (t1 t2 : Tok) (i : Nat) (m : Str → Option Value) : List (Addr × Obj) → Prop
  | mk (vs : List Value) (k : Nat) (hR : AllR IsStr vs (wrB g n p i)) (h1 : m (Str.ofString "number") = some (.int n t1)) (h2 : m (Str.ofString "path") = some (.str p t2)) (h3 : m (Str.ofString "rows") = some (.ref ln)) : WrP ln g n p t1 t2 i m [(ln, listO vs k)]
set_option maxHeartbeats 8000000 in
theorem written_step {w : World} {mean : ExcName → Option Value} {mg mb : Str → Option Value} {c n : Nat} {p : Str} {g : Nat → Str → List Str} (hn : n < 128) (hp : p.length < 5000) (hsum : ∀ i, i < 7 → n.testBit (6 - i) = true → (wrB g n p i).length + (1 + (g (6 - i) (sub p (6 - i))).length) < 900)
    (IH : ∀ k, k < 7 → n.testBit k = true → WrOk w mean mg mb c k (sub p k) (g k (sub p k))) : WrOk w mean mg mb (c + 1) n p (wrB g n p 7) := by
  intro A s t1 t2 Q W hu hd hh hQ
  have X := W.X
  have T := W.T
  refine' enter (binds := [(Str.ofString "number", .int n t1), (Str.ofString "path", .str p t2)]) X T.nolimit ?k6 ?k7 (by omega) ?k9 ?kB ?_ ?c2 ?c3 ?c4 ?c5
  ((case k6 | k7 => k_is); (case k9 => exact .of_eq rfl); (case c5 => decide); (case kB => exact locs rfl); (case c2 | c3 | c4 => exact rfl))
  intro h₁ F
  have N : News s.heap s.heap.objs.size h₁ [] := News.nil
  (repeat' (first | ((with_reducible refine ⟨(by k_in : Frag.In _ _), ?_⟩); (try dsimp only [List.nil_append, List.cons_append])) | ((fail_if_success k_end); (fail_if_success (with_reducible (first | show At (call (.ref _) _ _) | show At (exec (.While _ _ _ _) _) | show At (exec (.For _ _ _ _ _) _) | show At (call (.type "range") _ _) | show At (pyIter _) | show At (eval (.ListComp _ _ _ _) _) | show At (eval (.DictComp _ _ _ _ _) _) | show At (subscriptTail _ _ _ _) | (show At (compareOp _ _ _); fail_if_success show At (compareOp _ (.int _ _) (.int _ _))) | show At (setItem _ _ _) | show At (call (.builtin _) _ _) | show At (exec (.Assign _ (.ListComp _ _ _ _) _) _) | show At (call (.type "enumerate") _ _)))); (walk1; try dsimp only))))
  refine wpAny_For ?_
  (repeat' (first | ((with_reducible refine ⟨(by k_in : Frag.In _ _), ?_⟩); (try dsimp only [List.nil_append, List.cons_append])) | ((fail_if_success k_end); (fail_if_success (with_reducible (first | show At (call (.ref _) _ _) | show At (exec (.While _ _ _ _) _) | show At (exec (.For _ _ _ _ _) _) | show At (call (.type "range") _ _) | show At (pyIter _) | show At (eval (.ListComp _ _ _ _) _) | show At (eval (.DictComp _ _ _ _ _) _) | show At (call (.builtin "issubclass") _ _)))); (walk1; try dsimp only))))
  refine call_range_3 (by decide) ?_
  dsimp only
  with_reducible rename Fr _ _ _ _ => F9
  with_reducible rename News _ _ _ _ => N9
  rename_i ln _ _ h5
  have hlt := Heap.lt_size (N9.get (.head _))
  refine for_range (n := 7) (Heap.get?_push_size _ rfl) (by decide) (by decide) (WrP ln g n p t1 t2)
    ?_ hh rfl rfl (F9.push _) (news_push N9 _) (.mk [] 0 ⟨rfl, fun i v x e => by simp at e⟩ rfl rfl ?_) ?_ ?_
  · rintro i m rest ⟨vs, k, -, -, -, -⟩ p hp
    cases List.mem_singleton.mp hp
    exact (push_ne hlt).symm
  · walk_at "m_lk"
  · rintro i t m₁ rest h tk o hi ⟨vs, k, hR, hnum, hpath, hrows⟩ F4 N4
    refine hidePost fun T hT => ?_
    (repeat' (first | ((with_reducible refine ⟨(by k_in : Frag.In _ _), ?_⟩); (try dsimp only [List.nil_append, List.cons_append])) | ((fail_if_success k_end); (fail_if_success (with_reducible (first | show At (call (.ref _) _ _) | show At (exec (.While _ _ _ _) _) | show At (exec (.For _ _ _ _ _) _) | show At (call (.type "range") _ _) | show At (pyIter _) | show At (eval (.ListComp _ _ _ _) _) | show At (eval (.DictComp _ _ _ _ _) _) | show At (call (.builtin "issubclass") _ _) | show At (truthy _)))); (walk1; try dsimp only))))
    rw [bit_sh n hn i hi]
    cases hb : n.testBit (6 - i) with
    | false =>
      rw [if_neg Bool.false_ne_true]
      (repeat' (first | ((with_reducible refine ⟨(by k_in : Frag.In _ _), ?_⟩); (try dsimp only [List.nil_append, List.cons_append])) | ((fail_if_success k_end); (fail_if_success (with_reducible (first | show At (call (.ref _) _ _) | show At (exec (.While _ _ _ _) _) | show At (exec (.For _ _ _ _ _) _) | show At (call (.type "range") _ _) | show At (pyIter _) | show At (eval (.ListComp _ _ _ _) _) | show At (eval (.DictComp _ _ _ _ _) _) | show At (call (.builtin "issubclass") _ _)))); (walk1; try dsimp only))))
      with_reducible rename Fr _ _ _ _ => F9
      with_reducible rename News _ _ _ _ => N9
      refine hT _ _ ⟨_, _, _, _, rfl, F9, N9, .mk vs k ?_ ?_ ?_ ?_⟩
      · rw [wrB_succ, hb, if_neg Bool.false_ne_true, List.append_nil]; exact hR
      · walk_at "m_lk"
      · walk_at "m_lk"
      · walk_at "m_lk"
    | true =>
      rw [if_pos rfl]
      (repeat' (first | ((with_reducible refine ⟨(by k_in : Frag.In _ _), ?_⟩); (try dsimp only [List.nil_append, List.cons_append])) | ((fail_if_success k_end); (fail_if_success (with_reducible (first | show At (call (.ref _) _ _) | show At (exec (.While _ _ _ _) _) | show At (exec (.For _ _ _ _ _) _) | show At (call (.type "range") _ _) | show At (pyIter _) | show At (eval (.ListComp _ _ _ _) _) | show At (eval (.DictComp _ _ _ _ _) _) | show At (call (.builtin "issubclass") _ _)))); (walk1; try dsimp only))))
      refine names_spec (W.keeps F4.keep) (by show A.depth + 1 + 10 < _; omega) ?_
      intro h5 tk5 r5 vs5 k5 ⟨r0, kr, re⟩ hw5
      have F5 := fr_stays F4 k5
      have N5 := news_add F4 N4 k5 r0 re
      clear k5 F4 N4
      (repeat' (first | ((with_reducible refine ⟨(by k_in : Frag.In _ _), ?_⟩); (try dsimp only [List.nil_append, List.cons_append])) | ((fail_if_success k_end); (fail_if_success (with_reducible (first | show At (call (.ref _) _ _) | show At (exec (.While _ _ _ _) _) | show At (exec (.For _ _ _ _ _) _) | show At (call (.type "range") _ _) | show At (pyIter _) | show At (eval (.ListComp _ _ _ _) _) | show At (eval (.DictComp _ _ _ _ _) _) | show At (subscriptTail _ _ _ _) | (show At (compareOp _ _ _); fail_if_success show At (compareOp _ (.int _ _) (.int _ _))) | show At (setItem _ _ _) | show At (call (.builtin _) _ _) | show At (exec (.Assign _ (.ListComp _ _ _ _) _) _) | show At (call (.type "enumerate") _ _)))); (walk1; try dsimp only))))
      obtain ⟨wv, hwv, tw, rfl⟩ := hw5.get (word_len (6 - i) (by omega)).1
      refine item_subI (k := 6 - i) N5 (.head _) (by omega) hwv (by omega) ?_
      refine PyProof.Rows.add_str ?_ (by have := (word_len (6 - i) (by omega)).2; rw [Str.length_append, sizeLine_eq]; have : (Str.ofString "/").length = 1 := by decide +kernel
                                         omega)
      intro t6 tk6
      dsimp only
      (repeat' (first | ((with_reducible refine ⟨(by k_in : Frag.In _ _), ?_⟩); (try dsimp only [List.nil_append, List.cons_append])) | ((fail_if_success k_end); (fail_if_success (with_reducible (first | show At (call (.ref _) _ _) | show At (exec (.While _ _ _ _) _) | show At (exec (.For _ _ _ _ _) _) | show At (call (.type "range") _ _) | show At (pyIter _) | show At (eval (.ListComp _ _ _ _) _) | show At (eval (.DictComp _ _ _ _ _) _) | show At (subscriptTail _ _ _ _) | (show At (compareOp _ _ _); fail_if_success show At (compareOp _ (.int _ _) (.int _ _))) | show At (setItem _ _ _) | show At (call (.builtin _) _ _) | show At (exec (.Assign _ (.ListComp _ _ _ _) _) _) | show At (call (.type "enumerate") _ _)))); (walk1; try dsimp only))))
      with_reducible rename Fr _ _ _ _ => F9
      with_reducible rename News _ _ _ _ => N9
      rw [show (6 + (i : Int) * -1) = ((6 - i : Nat) : Int) by omega]
      refine IH (6 - i) (by omega) hb (W.keeps F9.keep) (by show A.units + 3 + 100 * c + 200 < _; omega) (by show A.depth + 1 + 10 * c + 20 < _; omega) hh ?_
      intro h7 tk7 r7 vs7 k7 ⟨r70, kr7, re7⟩ hw7
      have F7 := fr_stays F9 k7
      have N7 := news_add F9 N9 k7 r70 re7
      have n7 := news_fresh N9 r70
      clear k7 F9 N9
      (repeat' (first | ((with_reducible refine ⟨(by k_in : Frag.In _ _), ?_⟩); (try dsimp only [List.nil_append, List.cons_append])) | ((fail_if_success k_end); (fail_if_success (with_reducible (first | show At (call (.ref _) _ _) | show At (exec (.While _ _ _ _) _) | show At (exec (.For _ _ _ _ _) _) | show At (call (.type "range") _ _) | show At (pyIter _) | show At (eval (.ListComp _ _ _ _) _) | show At (eval (.DictComp _ _ _ _ _) _) | show At (subscriptTail _ _ _ _) | (show At (compareOp _ _ _); fail_if_success show At (compareOp _ (.int _ _) (.int _ _))) | show At (setItem _ _ _) | show At (call (.builtin _) _ _) | show At (exec (.Assign _ (.ListComp _ _ _ _) _) _) | show At (call (.type "enumerate") _ _)))); (walk1; try dsimp only))))
      with_reducible rename Fr _ _ _ _ => F9
      with_reducible rename News _ _ _ _ => N9
      have ha := (N9 _ (.tail _ (.head _))).1
      have hbl := (N9 _ (.head _)).1
      have N0 : News s.heap s.heap.objs.size h7 _ := fun p hp => N9 p (.tail _ (.tail _ (.tail _ hp)))
      have hl7 : (wrB g n p i).length + (1 + (g (6 - i) (sub p (6 - i))).length) < 900 := hsum i hi hb
      have e0 := hR.1
      have e7 := hw7.1
      clear N9
      refine add_lists (vs := [_]) (ws := vs7) F9 N0 ⟨_, ha, rfl, _, rfl⟩ ⟨_, hbl, rfl, _, rfl⟩ (fun h8 F8 N8 => ?_) (by rw [sizeLine_eq]; simp; omega)
      dsimp only
      (repeat' (first | ((with_reducible refine ⟨(by k_in : Frag.In _ _), ?_⟩); (try dsimp only [List.nil_append, List.cons_append])) | ((fail_if_success k_end); (fail_if_success (with_reducible (first | show At (call (.ref _) _ _) | show At (exec (.While _ _ _ _) _) | show At (exec (.For _ _ _ _ _) _) | show At (call (.type "range") _ _) | show At (pyIter _) | show At (eval (.ListComp _ _ _ _) _) | show At (eval (.DictComp _ _ _ _ _) _) | show At (subscriptTail _ _ _ _) | (show At (compareOp _ _ _); fail_if_success show At (compareOp _ (.int _ _) (.int _ _))) | show At (setItem _ _ _) | show At (call (.builtin _) _ _) | show At (exec (.Assign _ (.ListComp _ _ _ _) _) _) | show At (call (.type "enumerate") _ _)))); (walk1; try dsimp only))))
      have hnl := (N8 _ (.head _)).1
      have N8' : News s.heap s.heap.objs.size h8 _ := fun p hp => N8 p (.tail _ hp)
      refine iadd_lists F8 N8' hnl (fun n' => .tail ?hne (.head (fun _ z => (nomatch z)))) (by simp; omega) ?_
      case hne => exact push_ne hlt
      intro h9 n9 F9 N9
      clear F8 N8 N8' N0 ha hbl hnl
      dsimp only
      (repeat' (first | ((with_reducible refine ⟨(by k_in : Frag.In _ _), ?_⟩); (try dsimp only [List.nil_append, List.cons_append])) | ((fail_if_success k_end); (fail_if_success (with_reducible (first | show At (call (.ref _) _ _) | show At (exec (.While _ _ _ _) _) | show At (exec (.For _ _ _ _ _) _) | show At (call (.type "range") _ _) | show At (pyIter _) | show At (eval (.ListComp _ _ _ _) _) | show At (eval (.DictComp _ _ _ _ _) _) | show At (subscriptTail _ _ _ _) | (show At (compareOp _ _ _); fail_if_success show At (compareOp _ (.int _ _) (.int _ _))) | show At (setItem _ _ _) | show At (call (.builtin _) _ _) | show At (exec (.Assign _ (.ListComp _ _ _ _) _) _) | show At (call (.type "enumerate") _ _)))); (walk1; try dsimp only))))
      with_reducible rename Fr _ _ _ _ => F9
      with_reducible rename News _ _ _ _ => N9
      refine hT _ _ ⟨_, _, _, _, rfl, F9, N9, .mk _ _ ?_ ?_ ?_ ?_⟩
      · rw [wrB_succ, hb, if_pos rfl]; exact hR.append (hw7.cons ⟨_, rfl⟩)
      · walk_at "m_lk"
      · walk_at "m_lk"
      · walk_at "m_lk"
  · rintro m rest h tk ⟨vs, k, hR, -, -, hrows⟩ F4 N4
    (repeat' (first | ((with_reducible refine ⟨(by k_in : Frag.In _ _), ?_⟩); (try dsimp only [List.nil_append, List.cons_append])) | ((fail_if_success k_end); (fail_if_success (with_reducible (first | show At (call (.ref _) _ _) | show At (exec (.While _ _ _ _) _) | show At (exec (.For _ _ _ _ _) _) | show At (call (.type "range") _ _) | show At (pyIter _) | show At (eval (.ListComp _ _ _ _) _) | show At (eval (.DictComp _ _ _ _ _) _) | show At (subscriptTail _ _ _ _) | (show At (compareOp _ _ _); fail_if_success show At (compareOp _ (.int _ _) (.int _ _))) | show At (setItem _ _ _) | show At (call (.builtin _) _ _) | show At (exec (.Assign _ (.ListComp _ _ _ _) _) _) | show At (call (.type "enumerate") _ _)))); (walk1; try dsimp only))))
    have z := N4 (ln, listO vs k) (.head _)
    exact hQ _ _ _ vs F4.keep ⟨z.2.2, k, z.1⟩ hR
/-- the rows under p, f levels at most -/
noncomputable def wr : Nat → Nat → Str → List Str
  | 0, _, _ => []
  | f + 1, n, p => wrB (wr f) n p 7
noncomputable def lim : Nat → Nat
  | 0 => 0
  | f + 1 => 2 ^ lim f
noncomputable def cntB (c : Nat → Nat) (n : Nat) : Nat → Nat
  | 0 => 0
  | i + 1 => cntB c n i + if n.testBit (6 - i) = true then 1 + c (6 - i) else 0
noncomputable def cnt : Nat → Nat → Nat
  | 0, _ => 0
  | f + 1, n => cntB (cnt f) n 7
theorem wrB_len {g : Nat → Str → List Str} {c : Nat → Nat} (h : ∀ k q, (g k q).length = c k) (n : Nat) (p : Str) : ∀ i, (wrB g n p i).length = cntB c n i
  | 0 => rfl
  | i + 1 => by
    rw [wrB_succ, List.length_append, wrB_len h n p i, cntB]
    cases n.testBit (6 - i)
    · simp
    · simp [h]; omega
theorem wr_len : ∀ f n p, (wr f n p).length = cnt f n
  | 0, _, _ => rfl
  | f + 1, n, p => wrB_len (fun k q => wr_len f k q) n p 7
theorem cnt_le : ∀ f : Nat, f < 5 → ∀ n : Nat, n < 128 → ∀ i : Nat, i < 7 → cntB (cnt f) n i + (1 + cnt f (6 - i)) < 900 := by decide +kernel
theorem wr_spec {w : World} {mean : ExcName → Option Value} {mg mb : Str → Option Value} : ∀ (f n : Nat) (p : Str), f ≤ 5 → n < lim f → n < 128 → p.length + 12 * f < 4000 → WrOk w mean mg mb f n p (wr f n p)
  | 0, n, p, _, h, _, _ => absurd h (Nat.not_lt_zero n)
  | f + 1, n, p, hf, hn, h128, hp => by
    refine written_step h128 (by omega) (fun i hi _ => ?_) (fun k hk hb => ?_)
    · rw [wrB_len (fun k q => wr_len f k q), wr_len]
      exact cnt_le f (by omega) n h128 i hi
    · refine wr_spec f k (sub p k) (by omega) ?_ (by omega) ?_
      · rcases Nat.lt_or_ge k (lim f) with q | q
        · exact q
        · have : n < 2 ^ k := Nat.lt_of_lt_of_le hn (Nat.pow_le_pow_right (by decide) q)
          rw [Nat.testBit_lt_two_pow this] at hb
          cases hb
      · have := (word_len k hk).2
        have h1 : (Str.ofString "/").length = 1 := by decide +kernel
        unfold sub
        rw [Str.length_append, Str.length_append]
        omega
/-- the rows that _law_written gives for a number of the law -/
noncomputable def wrT (n : Nat) : List Str := wr 5 n ⟨#[]⟩
theorem written_spec {w : World} {mean : ExcName → Option Value} {mg mb : Str → Option Value} {A : Around} {s : Shared} {t1 t2 : Tok} {Q : Value → Shared → Prop} {n : Nat} (hn : n < 128)
    (W : Wd w mean mg mb s.heap) (hu : A.units + 1000 < cLine) (hd : A.depth + 100 < recursionLimit) (hh : A.handled = none)
    (hQ : ∀ h' tk r vs, s.heap.StaysIn h' → NewL s.heap h' r vs → AllR IsStr vs (wrT n) → Q (.ref r) { s with heap := h', toks := tk }) :
    wpAny (model PR w) A (call (.ref 186) [.int n t1, .str ⟨#[]⟩ t2]) Q NE s :=
  wr_spec 5 n ⟨#[]⟩ (by decide) (Nat.lt_trans hn (by decide +kernel)) hn (by decide +kernel) W (by omega) (by omega) hh hQ
theorem compEnd_mono {h₀ : Heap} {L : Addr} {m : Str → Option Value} {s₁ : Shared} {I : Addr} {oI : Obj} {C : Addr} {oC : Obj} {D : Addr} {oD : Obj} {S : List (Addr × Obj) → Prop} {r1 r2 : Value → List (Addr × Obj) → Prop} {y : Value} {s₂ : Shared}
    (e : LCg.CompEnd h₀ L m s₁ I oI C oC D oD S r1 y s₂) (k : ∀ nw, r1 y nw → r2 y nw) : LCg.CompEnd h₀ L m s₁ I oI C oC D oD S r2 y s₂ := by
  obtain ⟨h', tk, nw, a, b, c, d, f, g⟩ := e
  exact ⟨h', tk, nw, a, b, c, d, f, k _ g⟩
section
variable {w : World} {A : Around} {h₀ : Heap} {L : Addr} {m : Str → Option Value} {env : Env} {ct elt : Expr} {x : Str} {scope : Scope} {cl : List (Str × Addr)} {s : Shared} {S : List (Addr × Obj) → Prop} {P : Nat → Value → Prop} {Fin : List Value → List (Addr × Obj) → Prop} {news : List (Addr × Obj)} {n : Nat}
/-- the turns of a comprehension with a test, by an invariant -/
theorem restT_loop (Inv : Nat → List Value → List (Addr × Obj) → Prop)
    (turn : ∀ i ys news, i < n → Inv i ys news → ∀ v I oI C oC D m₂ h tk (E' : Value → Shared → Prop), P i v → LCg.NsObj oC m₂ → m₂ x = some v → Fr h₀ L h m → News h₀ L h ((I, oI) :: (C, oC) :: (D, LCg.lst ys) :: news) → LCg.Off3 I C D news → ((@Ne Nat I C) ∧ (@Ne Nat I D) ∧ (@Ne Nat C D)) →
      wpAny (model PR w) A (isTrue ct (compEnvC scope cl C env) (eval ct (compEnvC scope cl C env))) (fun ok s' => if ok = true then
        wpAny (model PR w) A (eval elt (compEnvC scope cl C env)) (LCg.CompEnd h₀ L m { s with heap := h, toks := tk } I oI C oC D (LCg.lst ys) S (fun y news' => Inv (i + 1) (ys ++ [y]) news')) E' s'
        else LCg.CompEnd h₀ L m { s with heap := h, toks := tk } I oI C oC D (LCg.lst ys) S (fun _ news' => Inv (i + 1) ys news') Value.none s') E' { s with heap := h, toks := tk })
    (fin : ∀ ys news, Inv n ys news → Fin ys news) (h0 : Inv 0 [] news) : LCt.CompRestT PR w A h₀ L m env ct elt x scope cl s S P Fin n 0 [] news := by
  have key : ∀ (j i : Nat) (ys : List Value) (news : List (Addr × Obj)), i + j = n → Inv i ys news → LCt.CompRestT PR w A h₀ L m env ct elt x scope cl s S P Fin j i ys news := by
    intro j
    induction j with
    | zero =>
      intro i ys news hi hv
      rw [Nat.add_zero] at hi
      subst hi
      exact LCt.CompRestT.zero (fin ys news hv)
    | succ j ih =>
      intro i ys news hi hv
      refine LCt.CompRestT.succ fun v I oI C oC D m₂ h tk E' a b c d e f g => ?_
      refine wpAny_mono (turn i ys news (by omega) hv v I oI C oC D m₂ h tk E' a b c d e f g) (fun ok s' q => ?_) fun _ _ q => q
      cases ok with
      | true =>
        rw [if_pos rfl] at q ⊢
        exact wpAny_mono q (fun y s₂ q => compEnd_mono q fun nw q => ih _ _ _ (by omega) q) fun _ _ q => q
      | false =>
        rw [if_neg Bool.false_ne_true] at q ⊢
        exact compEnd_mono q fun nw q => ih _ _ _ (by omega) q
  exact key n 0 [] news (by omega) h0
/-- the turns of a comprehension, by an invariant -/
theorem rest_loop (Inv : Nat → List Value → List (Addr × Obj) → Prop)
    (turn : ∀ i ys news, i < n → Inv i ys news → ∀ v I oI C oC D m₂ h tk (E' : Value → Shared → Prop), P i v → LCg.NsObj oC m₂ → m₂ x = some v → Fr h₀ L h m → News h₀ L h ((I, oI) :: (C, oC) :: (D, LCg.lst ys) :: news) → LCg.Off3 I C D news → ((@Ne Nat I C) ∧ (@Ne Nat I D) ∧ (@Ne Nat C D)) →
      wpAny (model PR w) A (eval elt (compEnvC scope cl C env)) (LCg.CompEnd h₀ L m { s with heap := h, toks := tk } I oI C oC D (LCg.lst ys) S (fun y news' => Inv (i + 1) (ys ++ [y]) news')) E' { s with heap := h, toks := tk })
    (fin : ∀ ys news, Inv n ys news → Fin ys news) (h0 : Inv 0 [] news) : LCg.CompRest PR w A h₀ L m env elt x scope cl s S P Fin n 0 [] news := by
  have key : ∀ (j i : Nat) (ys : List Value) (news : List (Addr × Obj)), i + j = n → Inv i ys news → LCg.CompRest PR w A h₀ L m env elt x scope cl s S P Fin j i ys news := by
    intro j
    induction j with
    | zero =>
      intro i ys news hi hv
      rw [Nat.add_zero] at hi
      subst hi
      exact LCg.CompRest.zero (fin ys news hv)
    | succ j ih =>
      intro i ys news hi hv
      refine LCg.CompRest.succ fun v I oI C oC D m₂ h tk E' a b c d e f g => ?_
      exact wpAny_mono (turn i ys news (by omega) hv v I oI C oC D m₂ h tk E' a b c d e f g) (fun y s₂ q => compEnd_mono q fun nw q => ih _ _ _ (by omega) q) fun _ _ q => q
  exact key n 0 [] news (by omega) h0
end
/-- enters a def with cells -/
theorem enterC {w : World} {A : Around} {E : Value → Shared → Prop} {s : Shared} {Q : Value → Shared → Prop} {K : Frag} {name qual : Str} {params : Arguments} {body : List Stmt} {scope : Scope} {dV kV doc pm cdv ct oc : Value} {an od : Option Addr} {osl : Array (Option Value)} {f : Addr}
    {pos : List Value} {kw : List (Str × Value)} {binds : List (Str × Value)}
    (X : K.In s.heap) (hlim : s.heap.NoLimit)
    (ho : K.lookup f = some ⟨oc, od, .func (fnOf name qual params body scope dV kV doc pm an cdv ct), osl⟩) (hcd : codeIn K cdv qual = true) (hroom : A.depth < recursionLimit)
    (hbind : BindsTo s (fnOf name qual params body scope dV kV doc pm an cdv ct) ⟨pos, kw⟩ binds)
    (hkind : ∀ n, ∀ x ∈ binds, scope.names.lookup x.1 = some .local ∨ (scope.names.lookup x.1 = some .cell ∧ ((cellsFrom n scope.names []).lookup x.1).isSome = true))
    (hnd : ((cellsFrom 0 scope.names []).map (·.1)).Nodup)
    (h : ∀ h₁ tk cells, Fr s.heap s.heap.objs.size h₁ (bindL (envOfC qual scope s.heap.objs.size f cdv).kindOf binds fun _ => none) → News s.heap s.heap.objs.size h₁ cells →
      CellsAre (bindC (envOfC qual scope s.heap.objs.size f cdv).kindOf binds fun _ => none) (cellsFrom (s.heap.objs.size + 1) scope.names []) cells →
      wpAny (model PR w) (A.deeper (envOfC qual scope s.heap.objs.size f cdv)) (execs body (envOfC qual scope s.heap.objs.size f cdv))
        (fun fl s' => Q (match fl with | .ret v => v | _ => .none) s') NE { s with heap := h₁, toks := tk })
    (hco : scope.isCoroutine = false := by rfl) (hgen : scope.isGenerator = false := by rfl) (hk : scope.kind = .function := by rfl) : wpAny (model PR w) A (call (.ref f) pos kw) Q E s := by
  refine wpAny_call ?_
  refine codeAny_call_function hroom (X _ _ ho) rfl hco hgen rfl (codeRec_of X hcd) (hbind _ _ _ _ ?_)
  refine wpAny_newFunctionEnv_cells hk (hkind _) fun env' he s' x => ?_
  subst he
  refine ⟨hlim.keeps x.toInCall.keep, codeAny_func ?_⟩
  obtain ⟨h₁, tk, rfl, _⟩ := x.done
  obtain ⟨cells, NC, Y⟩ := Cl.news (h₀ := s.heap) (Nat.le_refl _) fun n c hm => ⟨x.cell n c (lookup_of_mem_nodup (cellsFrom_names scope.names 0 (s.heap.objs.size + 1) [] [] rfl ▸ hnd) hm), x.above n c hm⟩
  exact wpAny_mono (h h₁ tk cells ⟨x.toInCall.ns, x.toInCall.keep, x.toInCall.fresh⟩ NC Y) (fun fl s' q => q) fun _ _ q => q.elim
/-- the terms of the first i places -/
noncomputable def raL (g : Nat → Nat) (n i : Nat) : List Int := ((List.range i).filter fun k => n.testBit k).map fun k => ((3 ^ g k : Nat) : Int)
theorem raL_succ (g : Nat → Nat) (n i : Nat) : raL g n (i + 1) = raL g n i ++ if n.testBit i = true then [((3 ^ g i : Nat) : Int)] else [] := by
  unfold raL
  rw [List.range_succ, List.filter_append, List.map_append]
  congr 1
  cases h : n.testBit i <;> simp [h]
noncomputable def RaOk (w : World) (mean : ExcName → Option Value) (mg mb : Str → Option Value) (c n R : Nat) : Prop :=
  ∀ {A : Around} {s : Shared} {t1 : Tok} {Q : Value → Shared → Prop} {E : Value → Shared → Prop}, Wd w mean mg mb s.heap → A.units + 100 * c + 200 < cLine → A.depth + 10 * c + 20 < recursionLimit → A.handled = none →
    (∀ h' tk t, s.heap.StaysIn h' → Q (.int ((R : Nat) : Int) t) { s with heap := h', toks := tk }) →
    wpAny (model PR w) A (call (.ref 196) [.int n t1]) Q E s
theorem bit_up : ∀ n : Nat, n < 128 → ∀ i : Nat, i < 7 → Builtin.bitAnd ((n : Int).fdiv (2 ^ (0 + (i : Int)).toNat)) 1 = if n.testBit i = true then 1 else 0 := by decide +kernel
set_option maxHeartbeats 8000000 in
theorem raised_step {w : World} {mean : ExcName → Option Value} {mg mb : Str → Option Value} {c n R : Nat} {g : Nat → Nat} (hn : n < 128) (hR : (raL g n 7).sum = (R : Int)) (hg : ∀ k, k < 7 → n.testBit k = true → g k < 1000)
    (IH : ∀ k, k < 7 → n.testBit k = true → RaOk w mean mg mb c k (g k)) : RaOk w mean mg mb (c + 1) n R := by
  intro A s t1 Q E W hu hd hh hQ
  have X := W.X
  have T := W.T
  refine' enterC (binds := [(Str.ofString "number", .int n t1)]) X T.nolimit ?k6 ?k7 (by omega) ?k9 ?kB ?c2 ?_ ?c3 ?c4 ?c5
  case k6 => k_is
  case k7 => k_is
  case k9 => exact BindsTo.of_eq rfl
  case kB => intro n x hx; cases List.mem_singleton.mp hx; exact .inr ⟨rfl, rfl⟩
  case c2 => decide
  case c3 => exact rfl
  case c4 => exact rfl
  case c5 => exact rfl
  intro h₁ tk cells F N Y
  obtain ⟨oc, rfl, hoc⟩ := Y.one
  (repeat' (first | ((with_reducible refine ⟨(by k_in : Frag.In _ _), ?_⟩); (try dsimp only [List.nil_append, List.cons_append])) | ((fail_if_success k_end); (fail_if_success (with_reducible (first | show At (call (.ref _) _ _) | show At (exec (.While _ _ _ _) _) | show At (exec (.For _ _ _ _ _) _) | show At (call (.type "range") _ _) | show At (pyIter _) | show At (eval (.ListComp _ _ _ _) _) | show At (eval (.DictComp _ _ _ _ _) _) | show At (subscriptTail _ _ _ _) | (show At (compareOp _ _ _); fail_if_success show At (compareOp _ (.int _ _) (.int _ _))) | show At (setItem _ _ _) | show At (call (.builtin _) _ _) | show At (exec (.Assign _ (.ListComp _ _ _ _) _) _) | show At (call (.type "enumerate") _ _)))); (walk1; try dsimp only))))
  refine LCt.ListComp_T (F₀ := F) (by with_unfolding_all rfl) (by decide) (by rfl) (by decide) (by rfl) ?_
  (repeat' (first | ((with_reducible refine ⟨(by k_in : Frag.In _ _), ?_⟩); (try dsimp only [List.nil_append, List.cons_append])) | ((fail_if_success k_end); (fail_if_success (with_reducible (first | show At (call (.ref _) _ _) | show At (exec (.While _ _ _ _) _) | show At (exec (.For _ _ _ _ _) _) | show At (call (.type "range") _ _) | show At (pyIter _) | show At (eval (.ListComp _ _ _ _) _) | show At (eval (.DictComp _ _ _ _ _) _) | show At (subscriptTail _ _ _ _) | (show At (compareOp _ _ _); fail_if_success show At (compareOp _ (.int _ _) (.int _ _))) | show At (setItem _ _ _) | show At (call (.builtin _) _ _) | show At (exec (.Assign _ (.ListComp _ _ _ _) _) _) | show At (call (.type "enumerate") _ _)))); (walk1; try dsimp only))))
  refine call_range_1 ?_
  dsimp only
  refine LCt.CompSrcT.range (n := 7) hh (F.push _) (news_push N _) (Heap.get?_push_size _ rfl) (by decide) (by decide) (by decide) fun g9 => ?_
  refine restT_loop (fun i ys nw => nw = [(s.heap.objs.size + 1, oc)] ∧ IntsAre ys (raL g n i)) ?_ ?_ ⟨rfl, .nil⟩
  · rintro i ys news hi ⟨rfl, hys⟩ v I oI C oC D m₂ h tk E' ⟨t, rfl⟩ hC hx F N off ne
    (repeat' (first | ((with_reducible refine ⟨(by k_in : Frag.In _ _), ?_⟩); (try dsimp only [List.nil_append, List.cons_append])) | ((fail_if_success k_end); (fail_if_success (with_reducible (first | show At (call (.ref _) _ _) | show At (exec (.While _ _ _ _) _) | show At (exec (.For _ _ _ _ _) _) | show At (call (.type "range") _ _) | show At (pyIter _) | show At (eval (.ListComp _ _ _ _) _) | show At (eval (.DictComp _ _ _ _ _) _) | show At (call (.builtin "issubclass") _ _) | show At (truthy _)))); (walk1; try dsimp only))))
    rw [bit_up n hn i hi]
    have hsucc := raL_succ g n i
    cases hb : n.testBit i with
    | false =>
      rw [if_neg Bool.false_ne_true]
      (repeat' (first | ((with_reducible refine ⟨(by k_in : Frag.In _ _), ?_⟩); (try dsimp only [List.nil_append, List.cons_append])) | ((fail_if_success k_end); (fail_if_success (with_reducible (first | show At (call (.ref _) _ _) | show At (exec (.While _ _ _ _) _) | show At (exec (.For _ _ _ _ _) _) | show At (call (.type "range") _ _) | show At (pyIter _) | show At (eval (.ListComp _ _ _ _) _) | show At (eval (.DictComp _ _ _ _ _) _) | show At (call (.builtin "issubclass") _ _)))); (walk1; try dsimp only))))
      refine LCg.CompEnd.intro F N _ (fun p hp => hp) off trivial ⟨rfl, ?_⟩
      rw [hb, if_neg Bool.false_ne_true, List.append_nil] at hsucc
      rw [hsucc]; exact hys
    | true =>
      rw [if_pos rfl]
      (repeat' (first | ((with_reducible refine ⟨(by k_in : Frag.In _ _), ?_⟩); (try dsimp only [List.nil_append, List.cons_append])) | ((fail_if_success k_end); (fail_if_success (with_reducible (first | show At (call (.ref _) _ _) | show At (exec (.While _ _ _ _) _) | show At (exec (.For _ _ _ _ _) _) | show At (call (.type "range") _ _) | show At (pyIter _) | show At (eval (.ListComp _ _ _ _) _) | show At (eval (.DictComp _ _ _ _ _) _) | show At (subscriptTail _ _ _ _) | (show At (compareOp _ _ _); fail_if_success show At (compareOp _ (.int _ _) (.int _ _))) | show At (setItem _ _ _) | show At (call (.builtin _) _ _) | show At (exec (.Assign _ (.ListComp _ _ _ _) _) _) | show At (call (.type "enumerate") _ _)))); (walk1; try dsimp only))))
      rw [show (0 + (i : Int)) = ((i : Nat) : Int) by omega]
      refine IH i hi hb (W.keeps F.keep) (by show A.units + 3 + 100 * c + 200 < _; omega) (by show A.depth + 1 + 10 * c + 20 < _; omega) hh ?_
      intro h5 tk5 t5 k5
      have F5 := fr_stays F k5
      have N5 := news_stays N k5
      clear k5 F N
      dsimp only
      refine pow_int_small (by omega) (by have := hg i hi hb; omega) (by decide) ?_
      dsimp only
      refine LCg.CompEnd.intro F5 N5 _ (fun p hp => hp) off trivial ⟨rfl, ?_⟩
      rw [hb, if_pos rfl] at hsucc
      rw [hsucc]
      refine hys.append ?_
      rw [show ((3 : Int) ^ ((g i : Nat) : Int).toNat) = ((3 ^ g i : Nat) : Int) by rw [Int.toNat_natCast]; simp]
      exact .cons _ _ .nil
  · rintro ys news ⟨rfl, hys⟩
    intro D h' tk' F' N' o1'
    dsimp only
    (repeat' (first | ((with_reducible refine ⟨(by k_in : Frag.In _ _), ?_⟩); (try dsimp only [List.nil_append, List.cons_append])) | ((fail_if_success k_end); (fail_if_success (with_reducible (first | show At (call (.ref _) _ _) | show At (exec (.While _ _ _ _) _) | show At (exec (.For _ _ _ _ _) _) | show At (call (.type "range") _ _) | show At (pyIter _) | show At (eval (.ListComp _ _ _ _) _) | show At (eval (.DictComp _ _ _ _ _) _) | show At (subscriptTail _ _ _ _) | (show At (compareOp _ _ _); fail_if_success show At (compareOp _ (.int _ _) (.int _ _))) | show At (setItem _ _ _) | show At (call (.builtin _) _ _) | show At (exec (.Assign _ (.ListComp _ _ _ _) _) _) | show At (call (.type "enumerate") _ _)))); (walk1; try dsimp only))))
    refine LSm.sum_ints F' N' hh ⟨_, (N' _ (.head _)).1, rfl, _, rfl⟩ hys ?_
    intro h'' tk'' t'' F'' N''
    dsimp only
    (repeat' (first | ((with_reducible refine ⟨(by k_in : Frag.In _ _), ?_⟩); (try dsimp only [List.nil_append, List.cons_append])) | ((fail_if_success k_end); (fail_if_success (with_reducible (first | show At (call (.ref _) _ _) | show At (exec (.While _ _ _ _) _) | show At (exec (.For _ _ _ _ _) _) | show At (call (.type "range") _ _) | show At (pyIter _) | show At (eval (.ListComp _ _ _ _) _) | show At (eval (.DictComp _ _ _ _ _) _) | show At (subscriptTail _ _ _ _) | (show At (compareOp _ _ _); fail_if_success show At (compareOp _ (.int _ _) (.int _ _))) | show At (setItem _ _ _) | show At (call (.builtin _) _ _) | show At (exec (.Assign _ (.ListComp _ _ _ _) _) _) | show At (call (.type "enumerate") _ _)))); (walk1; try dsimp only))))
    rw [hR]
    exact hQ _ _ _ F''.keep
noncomputable def ra : Nat → Nat → Nat
  | 0, _ => 0
  | f + 1, n => (((List.range 7).filter fun k => n.testBit k).map fun k => 3 ^ ra f k).sum
theorem sum_cast : ∀ l : List Nat, (l.map fun k : Nat => (k : Int)).sum = ((l.sum : Nat) : Int)
  | [] => rfl
  | a :: l => by rw [List.map_cons, List.sum_cons, List.sum_cons, sum_cast l]; omega
theorem ra_le : ∀ f : Nat, f < 5 → ∀ n : Nat, n < 7 → ra f n < 1000 := by decide +kernel
theorem ra_spec {w : World} {mean : ExcName → Option Value} {mg mb : Str → Option Value} : ∀ (f n : Nat), f ≤ 5 → n < lim f → n < 128 → RaOk w mean mg mb f n (ra f n)
  | 0, n, _, h, _ => absurd h (Nat.not_lt_zero n)
  | f + 1, n, hf, hn, h128 => by
    refine raised_step (g := ra f) h128 ?_ (fun k hk _ => ra_le f (by omega) k hk) (fun k hk hb => ra_spec f k (by omega) ?_ (by omega))
    · unfold raL
      rw [show (fun k => ((3 ^ ra f k : Nat) : Int)) = (fun k : Nat => (k : Int)) ∘ fun k => 3 ^ ra f k from rfl, ← List.map_map, sum_cast]
      rfl
    · rcases Nat.lt_or_ge k (lim f) with q | q
      · exact q
      · have : n < 2 ^ k := Nat.lt_of_lt_of_le hn (Nat.pow_le_pow_right (by decide) q)
        rw [Nat.testBit_lt_two_pow this] at hb
        cases hb
/-- what _law_raised gives -/
noncomputable def raT (n : Nat) : Nat := ra 5 n
theorem raised_spec {w : World} {mean : ExcName → Option Value} {mg mb : Str → Option Value} {A : Around} {s : Shared} {t1 : Tok} {Q : Value → Shared → Prop} {E : Value → Shared → Prop} {n : Nat} (hn : n < 128)
    (W : Wd w mean mg mb s.heap) (hu : A.units + 1000 < cLine) (hd : A.depth + 100 < recursionLimit) (hh : A.handled = none)
    (hQ : ∀ h' tk t, s.heap.StaysIn h' → Q (.int ((raT n : Nat) : Int) t) { s with heap := h', toks := tk }) :
    wpAny (model PR w) A (call (.ref 196) [.int n t1]) Q E s :=
  ra_spec 5 n (by decide) (Nat.lt_trans hn (by decide +kernel)) hn W (by omega) (by omega) hh hQ
open PyProof.V in
/-- {path: 0 for path in rows} -/
noncomputable def zeros (ws : List Str) : List (Str × Int) := ws.foldl (fun c k => kdpPut c k 0) []
theorem putAll_zeros (ws : List Str) : putAll PyData.str (fun a : Str => a) (fun _ => PyData.int 0) ws = kdpD (zeros ws) := by
  unfold putAll zeros
  have key : ∀ (l : List Str) (c : List (Str × Int)), l.foldl (fun acc a => PyProof.V.putD (PyData.str a) (PyData.int 0) acc) (kdpD c) = kdpD (l.foldl (fun c k => kdpPut c k 0) c) := by
    intro l
    induction l with
    | nil => intro c; rfl
    | cons a l ih => intro c; rw [List.foldl_cons, List.foldl_cons, kdpD_put, ih]
  exact key ws []
theorem areOf_strs : ∀ {vs : List Value} {ws : List Str}, StrsAre vs ws → AreOf .str vs ws
  | _, _, .nil => .nil
  | _, _, .cons y t h => .cons ⟨t, rfl⟩ (areOf_strs h)
theorem dict_zero {w : World} {A : Around} {E : Value → Shared → Prop} {s : Shared} {h₀ : Heap} {L ax : Addr} {m : Str → Option Value} {news : List (Addr × Obj)} {env : Env} {vs : List Value} {ws : List Str} {x : Str} {px p1 p2 pos : Pos} {kd : Nat} {iter : Expr} {scope : Scope} {cl : List (Str × Addr)} {Q : Value → Shared → Prop}
    (hh : A.handled = none) (hclos : closureFor scope env = pure cl) (hcell : ∀ y ∈ scope.names, y.2 ≠ .cell) (hkind : scope.kind = .function)
    (hnames : ∀ y ∈ scope.names, y.2 = .local → scope.names.lookup y.1 = some .local) (hx : scope.names.lookup x = some .local) (hdb : (x == ("__debug__" : Str)) = false)
    (F : Fr h₀ L s.heap m) (N : News h₀ L s.heap news) (hit : ∀ Q' : Value → Shared → Prop, Q' (.ref ax) s → wpAny (model PR w) A (eval iter env) Q' E s)
    (hl : s.heap.IsList ax vs.toArray) (hi : StrsAre vs ws) (hsz : ws.length < 10000)
    (hQ : ∀ D o (kvs : List (Str × Value)) h' tk, Fr h₀ L h' m → News h₀ L h' ((D, o) :: news) → o.IsDictOf (PySem.strKind PR w) kvs → PyProof.V.FlatPairs PyData.str kvs (kdpD (zeros ws)) → (∀ p ∈ news, p.1 ≠ D) → Q (.ref D) { s with heap := h', toks := tk })
    (hs : ∀ x, foldedSetIterable iter env x = pure x) :
    wpAny (model PR w) A (eval (.DictComp (.Name x p1) (.Constant (.int 0) kd p2) [⟨.Name x px, iter, [], 0⟩] scope pos) env) Q E s := by
  have hA := areOf_strs hi
  refine wpAny_DictComp_free (PySem.strKind PR w) (ItemKind.str.lift fun _ => true) (fun v k => ∃ a, ItemKind.str.is a v ∧ k = a) (fun v y => ∃ a : Str, ItemKind.str.is a v ∧ Carried y (PyData.int 0)) hclos hcell hkind hnames hx (hit _ ?_) hs
  have hlt : ax < s.heap.objs.size := by obtain ⟨_, e, _⟩ := hl; exact Heap.lt_size e
  have up : ∀ (s₃ : Shared), (∀ b o, b ∉ [s.heap.objs.size] → (s.heap.push { cls := .type "list_iterator", data := .fields #[.ref ax, .int 0 0] }).get? b = some o → s₃.heap.get? b = some o) → ∀ b o, s.heap.get? b = some o → s₃.heap.get? b = some o :=
    fun s₃ hk b o e => hk b o (fun hm => by rcases List.mem_cons.mp hm with rfl | hm; exact Nat.lt_irrefl _ (Heap.lt_size e); cases hm) (Heap.get?_push_of_some _ e)
  refine wpAny_pyIter_list hl ⟨s.heap.objs.size, [s.heap.objs.size, ax], [s.heap.objs.size], vs.toArray.size, _, _, rfl, Walks.list hh _ _ (Nat.ne_of_lt hlt) vs.toArray, (by rw [List.size_toArray, hA.length, sizeLine_eq]; omega), ⟨⟨_, Heap.get?_push_size _ rfl, rfl, rfl⟩, hl.push _⟩, ?_, ⟨?_, ?_, ?_⟩, ?_⟩
  · intro b hb
    show b < (s.heap.push _).objs.size
    rw [Heap.size_push]
    rcases List.mem_cons.mp hb with rfl | hb
    · exact Nat.lt_succ_self _
    · rcases List.mem_cons.mp hb with rfl | hb
      · exact Nat.lt_succ_of_lt hlt
      · cases hb
  · intro C i v s₃ m₃ E' hP hn hm hk
    obtain ⟨a, hmem, ha⟩ := hA.memD v (by simpa using Array.mem_of_getElem? hP)
    rw [ItemKind.lift_is ha]
    exact wpAny_tests_nil ⟨rfl, _, _, rfl, fun _ _ e => e⟩
  · intro C i v s₃ m₃ E' hP hp hn hm hk
    obtain ⟨a, hmem, ha⟩ := hA.memD v (by simpa using Array.mem_of_getElem? hP)
    obtain ⟨tv, rfl⟩ := id ha
    refine ldVarK hn hm ⟨⟨a, strKind_is _ _ _ _, a, ha, rfl⟩, _, _, rfl, fun _ _ e => e⟩ ?_ (lookup_relabel_local hx) hdb
    simp [compEnvC, relabel, hkind]
  · intro C i v s₃ m₃ E' hP hp hn hm hk
    obtain ⟨a, hmem, ha⟩ := hA.memD v (by simpa using Array.mem_of_getElem? hP)
    exact wpAny_Constant_int ⟨⟨a, ha, .int 0 _⟩, _, _, rfl, fun _ _ e => e⟩
  · intro D h' tk kvs vs' hnew hlD hlen hP hF hk
    have e : vs' = vs := by simpa using list_of_places hlen hP
    subst e
    have keep : ∀ b o, s.heap.get? b = some o → h'.get? b = some o := up { s with heap := h' } hk
    have hD : ∀ b o, s.heap.get? b = some o → b ≠ D := fun b o e q => by
      rw [← q, Heap.get?_push_of_some _ e] at hnew; cases hnew
    obtain ⟨oD, eD, hoD⟩ := Heap.dictOf_iff.mp hlD
    refine hQ D oD kvs h' tk (F.keeps keep) (fun p hp => ?_) hoD ?_ (fun p hp => hD _ _ (N p hp).1)
    · rcases List.mem_cons.mp hp with rfl | hp
      · refine ⟨eD, fun q => ?_, ?_⟩
        · obtain ⟨oL, _, _, hL, _⟩ := F.ns
          exact hD _ _ hL q.symm
        · cases q : h₀.get? D with
          | none => rfl
          | some o' => exact absurd rfl (hD _ _ (F.keep _ _ q))
      · exact ⟨keep _ _ (N p hp).1, (N p hp).2⟩
    · have z := storedAll_flat (kf := fun a : Str => a) (d := fun _ => PyData.int 0) PyProof.V.same_str hF _ (hA.filter fun _ => true)
      rw [List.filter_eq_self.mpr (fun _ _ => rfl), putAll_zeros] at z
      exact z
theorem Wd.sys {w : World} {mean : ExcName → Option Value} {mg mb : Str → Option Value} {h : Heap} (W : Wd w mean mg mb h) : ∃ o, h.get? sysModules = some o := by
  have z := W.T.seer (by decide +kernel)
  obtain ⟨mm, ⟨o, es, ep, e, -⟩, -⟩ := z.mods
  exact ⟨o, e⟩
theorem Wd.lo {w : World} {mean : ExcName → Option Value} {mg mb : Str → Option Value} {h : Heap} (W : Wd w mean mg mb h) {d : Addr} (e : h.get? d = none) : (d == sysModules) = false := by
  cases q : d == sysModules with
  | false => rfl
  | true =>
    obtain ⟨o, z⟩ := W.sys
    rw [← eq_of_beq q, e] at z
    cases z
theorem pick_tail_rev (items : Array Value) (h : 0 < items.size) : (slicePick items none (some 0) (some (-1))).toList = (items.toList.drop 1).reverse := by
  have hb : sliceBounds none (some 0) (some (-1)) items.size = ((items.size : Int) - 1, 0, -1) := by
    simp [sliceBounds]
    omega
  have hr : sliceRange ((items.size : Int) - 1) 0 (-1) = ((List.range (items.size - 1)).map (1 + ·)).reverse := by
    unfold sliceRange
    have h1 : ¬ ((-1 : Int) > 0) := by decide
    by_cases h2 : (items.size : Int) - 1 > 0
    · have e : ((items.size : Int) - 1 - 0 - -1 - 1) / (- -1) = ((items.size - 1 : Nat) : Int) := by
        rw [show (- -1 : Int) = 1 by decide, Int.ediv_one]
        omega
      simp only [h1, if_false, h2, if_true, e, Int.toNat_natCast]
      apply List.ext_getElem
      · simp
      · intro i h3 h4
        simp at h3 ⊢
        omega
    · have e : items.size = 1 := by omega
      rw [e]
      rfl
  unfold slicePick
  rw [hb]
  show ((sliceRange ((items.size : Int) - 1) 0 (-1)).filterMap (items[·]?)).toArray.toList = _
  rw [hr, List.filterMap_reverse, pick_run items 1 (items.size - 1)]
  rw [List.take_of_length_le (by simp)]
theorem slice_tail_rev {w : World} {A : Around} {E : Value → Shared → Prop} {h : Heap} {g : Array GenState} {d : Drawn} {tk : Nat} {os : OsState} {h₀ : Heap} {L l : Addr} {m : Str → Option Value} {news : List (Addr × Obj)} {value slice : PySem.Expr} {vs : List Value} {t0 t1 : Tok} {Q : Value → Shared → Prop} {ops : List Value}
    (F : Fr h₀ L h m) (N : News h₀ L h news) (hl : h.IsList l vs.toArray) (hp : 0 < vs.length)
    (hs : subscripted slice false (.ref l) (.ref h.objs.size) = operate ops (getItem (.ref l) (.ref h.objs.size))) (ht : ∀ r, letTemporaryGo value (.ref l) r = pure ()) (hz : vs.length < 10000)
    (k : ∀ D h', Fr h₀ L h' m → News h₀ L h' ((D, PySem.W.listOf (vs.drop 1).reverse.toArray 0) :: news) → (∀ p ∈ news, p.1 < D) → Q (.ref D) ⟨h', g, d, tk, os⟩) :
    wpAny (model PR w) A (subscriptTail value slice (.ref l) (.ref h.objs.size)) Q E ⟨h.push { cls := .type "slice", data := .fields #[.none, .int 0 t0, .int (-1) t1] }, g, d, tk, os⟩ :=
  kmk_slice3_lit (s := ⟨h, g, d, tk, os⟩) (its := vs.toArray) (zs := (vs.drop 1).reverse) (lo := none) (hi := some 0) (st := some (-1)) F N hl (by kmk_part) (by kmk_part) (by kmk_part) (by decide) (pick_tail_rev _ (by rw [List.size_toArray]; exact hp)) k hs ht (by rw [List.size_toArray, sizeLine_eq]; omega)
noncomputable def rdS (b : Int) (c : List (Str × Int)) (p : Str) : List (Str × Int) := kdpPut c (dirT p) (kdpLook c (dirT p) 0 + b ^ (kdpLook c p 0).toNat)
noncomputable def rdRun (b : Int) (c : List (Str × Int)) (ps : List Str) : List (Str × Int) := ps.foldl (rdS b) c
noncomputable def rdOk (c : List (Str × Int)) (p : Str) : Bool := kdpHas c (dirT p) && kdpHas c p && decide (0 ≤ kdpLook c p 0) && decide (kdpLook c p 0 ≤ 1000000) && decide (c.length ≤ 1000000)
theorem rdOk_iff {c : List (Str × Int)} {p : Str} (h : rdOk c p = true) : kdpHas c (dirT p) = true ∧ kdpHas c p = true ∧ 0 ≤ kdpLook c p 0 ∧ kdpLook c p 0 ≤ 1000000 ∧ c.length ≤ 1000000 := by
  unfold rdOk at h
  simp only [Bool.and_eq_true, decide_eq_true_eq] at h
  exact ⟨h.1.1.1.1, h.1.1.1.2, h.1.1.2, h.1.2, h.2⟩
noncomputable def headT (x : Str) : Str := Txt.slice x none (some (Txt.rfind x (Str.ofString "/") + 1))
theorem AllR.tail_rev {α : Type} {R : Value → α → Prop} {vs : List Value} {xs : List α} (h : AllR R vs xs) : AllR R (vs.drop 1).reverse (xs.drop 1).reverse := by
  refine ⟨by simp [h.1], fun i v x e1 e2 => ?_⟩
  have l1 : i < (vs.drop 1).length := by have := (List.getElem?_eq_some_iff.mp e1).1; simpa using this
  have l2 : i < (xs.drop 1).length := by have := (List.getElem?_eq_some_iff.mp e2).1; simpa using this
  rw [List.getElem?_reverse l1, List.getElem?_drop] at e1
  rw [List.getElem?_reverse l2, List.getElem?_drop] at e2
  have e : (vs.drop 1).length = (xs.drop 1).length := by simp [h.1]
  rw [e] at e1
  exact h.2 _ _ _ e1 e2
theorem AllR.getV {α : Type} {R : Value → α → Prop} {vs : List Value} {xs : List α} (h : AllR R vs xs) {i : Nat} {v : Value} (e : vs[i]? = some v) : ∃ x, xs[i]? = some x ∧ R v x := by
  have hi := (List.getElem?_eq_some_iff.mp e).1
  rw [h.1] at hi
  exact ⟨xs[i], List.getElem?_eq_getElem hi, h.2 i v _ e (List.getElem?_eq_getElem hi)⟩
theorem rdRun_snoc (b : Int) (c : List (Str × Int)) (ps : List Str) (i : Nat) (p : Str) (h : ps[i]? = some p) : rdRun b c (ps.take (i + 1)) = rdS b (rdRun b c (ps.take i)) p := by
  unfold rdRun
  rw [List.take_add_one, h, List.foldl_append]
  rfl
inductive RdP (w : World) (D1 D2 D3 : Addr) (vs : List Value) (ws : List Str) (i : Nat) (m : Str → Option Value) : List (Addr × Obj) → Prop
  | mk (o1 : Obj) (kvs1 : List (Str × Value)) (o2 : Obj) (kvs2 : List (Str × Value)) (hd1 : o1.IsDictOf (PySem.strKind PR w) kvs1) (hf1 : PyProof.V.FlatPairs PyData.str kvs1 (kdpD (rdRun 2 (zeros ws) ((ws.drop 1).reverse.take i))))
    (hd2 : o2.IsDictOf (PySem.strKind PR w) kvs2) (hf2 : PyProof.V.FlatPairs PyData.str kvs2 (kdpD (rdRun 3 (zeros ws) ((ws.drop 1).reverse.take i)))) (hm1 : m (Str.ofString "twos") = some (.ref D1)) (hm2 : m (Str.ofString "threes") = some (.ref D2)) :
    RdP w D1 D2 D3 vs ws i m [(D3, PySem.W.listOf (vs.drop 1).reverse.toArray 0), (D2, o2), (D1, o1)]
set_option maxHeartbeats 8000000 in
theorem read_spec {w : World} {mean : ExcName → Option Value} {mg mb : Str → Option Value} {A : Around} {s : Shared} {Q : Value → Shared → Prop} {a : Addr} {vs : List Value} {k : Nat} {ws : List Str}
    (W : Wd w mean mg mb s.heap) (hu : A.units + 1000 < cLine) (hd : A.depth + 100 < recursionLimit) (hh : A.handled = none) (ha : s.heap.get? a = some (listO vs k)) (hws : AllR IsStr vs ws) (hlen : ws.length < 1000) (h1 : 0 < ws.length) (H2 : kdpHas (rdRun 2 (zeros ws) (ws.drop 1).reverse) (Str.ofString "/") = true ∧ kdpHas (rdRun 3 (zeros ws) (ws.drop 1).reverse) (Str.ofString "/") = true)
    (H : ∀ i p, (ws.drop 1).reverse[i]? = some p → p.length < 10000 ∧ (1 ≤ (headT p).length ∧ (headT p).length < 10000) ∧ rdOk (rdRun 2 (zeros ws) ((ws.drop 1).reverse.take i)) p = true ∧ rdOk (rdRun 3 (zeros ws) ((ws.drop 1).reverse.take i)) p = true)
    (hQ : ∀ h' tk r ta tb, s.heap.StaysIn h' → s.heap.get? r = none → h'.get? r = some { cls := .type "tuple", data := .seq #[.int (kdpLook (rdRun 2 (zeros ws) (ws.drop 1).reverse) (Str.ofString "/") 0) ta, .int (kdpLook (rdRun 3 (zeros ws) (ws.drop 1).reverse) (Str.ofString "/") 0) tb] } → Q (.ref r) { s with heap := h', toks := tk }) :
    wpAny (model PR w) A (call (.ref 191) [.ref a]) Q NE s := by
  have X := W.X
  have T := W.T
  refine' enter (binds := [(Str.ofString "rows", .ref a)]) X T.nolimit ?k6 ?k7 (by omega) ?k9 ?kB ?_ ?c2 ?c3 ?c4 ?c5
  ((case k6 | k7 => k_is); (case k9 => exact .of_eq rfl); (case c5 => decide); (case kB => exact locs rfl); (case c2 | c3 | c4 => exact rfl))
  intro h₁ F
  have N : News s.heap s.heap.objs.size h₁ [] := News.nil
  (repeat' (first | ((with_reducible refine ⟨(by k_in : Frag.In _ _), ?_⟩); (try dsimp only [List.nil_append, List.cons_append])) | ((fail_if_success k_end); (fail_if_success (with_reducible (first | show At (call (.ref _) _ _) | show At (exec (.While _ _ _ _) _) | show At (exec (.For _ _ _ _ _) _) | show At (call (.type "range") _ _) | show At (pyIter _) | show At (eval (.ListComp _ _ _ _) _) | show At (eval (.DictComp _ _ _ _ _) _) | show At (subscriptTail _ _ _ _) | (show At (compareOp _ _ _); fail_if_success show At (compareOp _ (.int _ _) (.int _ _))) | show At (setItem _ _ _) | show At (call (.builtin _) _ _) | show At (exec (.Assign _ (.ListComp _ _ _ _) _) _) | show At (call (.type "enumerate") _ _)))); (walk1; try dsimp only))))
  have hss := strs_of hws
  have hla : h₁.IsList a vs.toArray := ⟨_, F.keep _ _ ha, rfl, _, rfl⟩
  refine dict_zero hh (by with_unfolding_all rfl) (by decide) rfl (by decide) rfl (by decide) F N (fun Q' z => ld F rfl z) hla hss (by omega) ?_ (by intro _; rfl)
  intro D1 o1 kvs1 h2 tk2 F2 N2 hd1 hf1 hn1
  clear F N
  (repeat' (first | ((with_reducible refine ⟨(by k_in : Frag.In _ _), ?_⟩); (try dsimp only [List.nil_append, List.cons_append])) | ((fail_if_success k_end); (fail_if_success (with_reducible (first | show At (call (.ref _) _ _) | show At (exec (.While _ _ _ _) _) | show At (exec (.For _ _ _ _ _) _) | show At (call (.type "range") _ _) | show At (pyIter _) | show At (eval (.ListComp _ _ _ _) _) | show At (eval (.DictComp _ _ _ _ _) _) | show At (subscriptTail _ _ _ _) | (show At (compareOp _ _ _); fail_if_success show At (compareOp _ (.int _ _) (.int _ _))) | show At (setItem _ _ _) | show At (call (.builtin _) _ _) | show At (exec (.Assign _ (.ListComp _ _ _ _) _) _) | show At (call (.type "enumerate") _ _)))); (walk1; try dsimp only))))
  refine dict_zero hh (by with_unfolding_all rfl) (by decide) rfl (by decide) rfl (by decide) F2 N2 (fun Q' z => ld F2 rfl z) ⟨_, F2.keep _ _ ha, rfl, _, rfl⟩ hss (by omega) ?_ (by intro _; rfl)
  intro D2 o2 kvs2 h3 tk3 F3 N3 hd2 hf2 hn2
  clear F2 N2
  (repeat' (first | ((with_reducible refine ⟨(by k_in : Frag.In _ _), ?_⟩); (try dsimp only [List.nil_append, List.cons_append])) | ((fail_if_success k_end); (fail_if_success (with_reducible (first | show At (call (.ref _) _ _) | show At (exec (.While _ _ _ _) _) | show At (exec (.For _ _ _ _ _) _) | show At (call (.type "range") _ _) | show At (pyIter _) | show At (eval (.ListComp _ _ _ _) _) | show At (eval (.DictComp _ _ _ _ _) _) | show At (subscriptTail _ _ _ _) | (show At (compareOp _ _ _); fail_if_success show At (compareOp _ (.int _ _) (.int _ _))) | show At (setItem _ _ _) | show At (call (.builtin _) _ _) | show At (exec (.Assign _ (.ListComp _ _ _ _) _) _) | show At (call (.type "enumerate") _ _)))); (walk1; try dsimp only))))
  with_reducible rename Fr _ _ _ _ => F9
  with_reducible rename News _ _ _ _ => N9
  refine unpackItemsN_ F9 N9 (News.isTup N9 (.head _)) hh rfl ?_
  intro h4 F4 N4
  clear F9 N9
  dsimp only
  (repeat' (first | ((with_reducible refine ⟨(by k_in : Frag.In _ _), ?_⟩); (try dsimp only [List.nil_append, List.cons_append])) | ((fail_if_success k_end); (fail_if_success (with_reducible (first | show At (call (.ref _) _ _) | show At (exec (.While _ _ _ _) _) | show At (exec (.For _ _ _ _ _) _) | show At (call (.type "range") _ _) | show At (pyIter _) | show At (eval (.ListComp _ _ _ _) _) | show At (eval (.DictComp _ _ _ _ _) _) | show At (subscriptTail _ _ _ _) | (show At (compareOp _ _ _); fail_if_success show At (compareOp _ (.int _ _) (.int _ _))) | show At (setItem _ _ _) | show At (call (.builtin _) _ _) | show At (exec (.Assign _ (.ListComp _ _ _ _) _) _) | show At (call (.type "enumerate") _ _)))); (walk1; try dsimp only))))
  with_reducible rename Fr _ _ _ _ => F5
  with_reducible rename News _ _ _ _ => N5
  refine wpAny_For ?_
  (repeat' (first | ((with_reducible refine ⟨(by k_in : Frag.In _ _), ?_⟩); (try dsimp only [List.nil_append, List.cons_append])) | ((fail_if_success k_end); (fail_if_success (with_reducible (first | show At (call (.ref _) _ _) | show At (exec (.While _ _ _ _) _) | show At (exec (.For _ _ _ _ _) _) | show At (call (.type "range") _ _) | show At (pyIter _) | show At (eval (.ListComp _ _ _ _) _) | show At (eval (.DictComp _ _ _ _ _) _) | show At (subscriptTail _ _ _ _) | (show At (compareOp _ _ _); fail_if_success show At (compareOp _ (.int _ _) (.int _ _))) | show At (setItem _ _ _) | show At (call (.builtin _) _ _) | show At (exec (.Assign _ (.ListComp _ _ _ _) _) _) | show At (call (.type "enumerate") _ _)))); (walk1; try dsimp only))))
  have hla5 := F5.keep _ _ ha
  refine' slice_tail_rev (vs := vs) ?yF ?yN ?yl ?yp ?ys ?yt ?yz ?_
  case yF => exact F5
  case yN => exact N5
  case yl => exact ⟨_, hla5, rfl, _, rfl⟩
  case yp => rw [hws.1]; exact h1
  case ys => with_unfolding_all rfl
  case yt => kmk_pure
  case yz => rw [hws.1]; omega
  intro D3 h6 F6 N6 l6
  have N6' : News s.heap s.heap.objs.size h6 [(D3, PySem.W.listOf (vs.drop 1).reverse.toArray 0), (D2, o2), (D1, o1)] := fun p hp => by
    rcases List.mem_cons.mp hp with rfl | hp
    · exact N6 _ (.head _)
    · exact N6 _ (.tail _ (.tail _ hp))
  clear F5 N5 N6
  have hps := hws.tail_rev
  have h21 : D2 ≠ D1 := fun q => hn2 (D1, o1) (.head _) q.symm
  have h31 : D3 ≠ D1 := fun q => Nat.lt_irrefl D1 (by have := l6 (D1, o1) (.tail _ (.tail _ (.head _))); rw [q] at this; exact this)
  have h32 : D3 ≠ D2 := fun q => Nat.lt_irrefl D2 (by have := l6 (D2, o2) (.tail _ (.head _)); rw [q] at this; exact this)
  have s3 : D3 ≠ h6.objs.size := Nat.ne_of_lt (Heap.lt_size (N6' _ (.head _)).1)
  have hI2 : h6.objs.size ≠ D2 := (Nat.ne_of_lt (Heap.lt_size (N6' _ (.tail _ (.head _))).1)).symm
  have hI1 : h6.objs.size ≠ D1 := (Nat.ne_of_lt (Heap.lt_size (N6' _ (.tail _ (.tail _ (.head _)))).1)).symm
  have e1 : s.heap.get? D1 = none := (N6' (D1, o1) (.tail _ (.tail _ (.head _)))).2.2
  have e2 : s.heap.get? D2 = none := (N6' (D2, o2) (.tail _ (.head _))).2.2
  have hlv : (vs.drop 1).reverse.length = ((ws.drop 1).reverse).length := hps.1
  refine for_list (l := D3) (vs := (vs.drop 1).reverse) (RdP w D1 D2 D3 vs ws)
    ?_ ?_ hh rfl rfl F6 N6' (.mk o1 kvs1 o2 kvs2 hd1 hf1 hd2 hf2 ?_ ?_) ?_ ?_
  · rintro i m rest h ⟨o1, kvs1, o2, kvs2, -, -, -, -, -, -⟩ F N
    exact ⟨_, (N _ (.head _)).1, rfl, _, rfl⟩
  · rintro i m rest ⟨o1, kvs1, o2, kvs2, -, -, -, -, -, -⟩ p hp
    rcases List.mem_cons.mp hp with rfl | hp
    · exact s3
    · rcases List.mem_cons.mp hp with rfl | hp
      · exact hI2.symm
      · cases List.mem_singleton.mp hp
        exact hI1.symm
  · walk_at "m_lk"
  · walk_at "m_lk"
  · rintro i v m₁ rest h tk o hi hv ⟨o1, kvs1, o2, kvs2, hd1, hf1, hd2, hf2, hm1, hm2⟩ F N
    refine hidePost fun T hT => ?_
    obtain ⟨p, hp, t, rfl⟩ := hps.getV hv
    obtain ⟨hlp, hhd, ok2, ok3⟩ := H i p hp
    (repeat' (first | ((with_reducible refine ⟨(by k_in : Frag.In _ _), ?_⟩); (try dsimp only [List.nil_append, List.cons_append])) | ((fail_if_success k_end); (fail_if_success (with_reducible (first | show At (call (.ref _) _ _) | show At (exec (.While _ _ _ _) _) | show At (exec (.For _ _ _ _ _) _) | show At (call (.type "range") _ _) | show At (pyIter _) | show At (eval (.ListComp _ _ _ _) _) | show At (eval (.DictComp _ _ _ _ _) _) | show At (subscriptTail _ _ _ _) | (show At (compareOp _ _ _); fail_if_success show At (compareOp _ (.int _ _) (.int _ _))) | show At (setItem _ _ _) | show At (call (.builtin _) _ _) | show At (exec (.Assign _ (.ListComp _ _ _ _) _) _) | show At (call (.type "enumerate") _ _)))); (walk1; try dsimp only))))
    refine dirname_spec (W.keeps F.keep) (roomU hu (by decide)) (roomD hd (by decide)) hlp rfl hhd ?_
    intro h7 tk7 t7 k7
    have F7 := fr_stays F k7
    have N7 := news_stays N k7
    clear k7 F N
    dsimp only
    (repeat' (first | ((with_reducible refine ⟨(by k_in : Frag.In _ _), ?_⟩); (try dsimp only [List.nil_append, List.cons_append])) | ((fail_if_success k_end); (fail_if_success (with_reducible (first | show At (call (.ref _) _ _) | show At (exec (.While _ _ _ _) _) | show At (exec (.For _ _ _ _ _) _) | show At (call (.type "range") _ _) | show At (pyIter _) | show At (eval (.ListComp _ _ _ _) _) | show At (eval (.DictComp _ _ _ _ _) _) | show At (subscriptTail _ _ _ _) | (show At (compareOp _ _ _); fail_if_success show At (compareOp _ (.int _ _) (.int _ _))) | show At (setItem _ _ _) | show At (call (.builtin _) _ _) | show At (exec (.Assign _ (.ListComp _ _ _ _) _) _) | show At (call (.type "enumerate") _ _)))); (walk1; try dsimp only))))
    with_reducible rename Fr _ _ _ _ => F9
    with_reducible rename News _ _ _ _ => N9
    clear F7 N7
    obtain ⟨q1, q2, q3, q4, q5⟩ := rdOk_iff ok2
    obtain ⟨r1, r2, r3, r4, r5⟩ := rdOk_iff ok3
    have T1 : StrTab PR w _ D1 _ := ⟨W.lo e1, kvs1, Heap.dictOf_iff.mpr ⟨o1, (N9 (D1, o1) (.tail _ (.tail _ (.tail _ (.head _))))).1, hd1⟩, hf1⟩
    refine kdp_getItem T1 q1 (fun tA => ?_)
    dsimp only
    (repeat' (first | ((with_reducible refine ⟨(by k_in : Frag.In _ _), ?_⟩); (try dsimp only [List.nil_append, List.cons_append])) | ((fail_if_success k_end); (fail_if_success (with_reducible (first | show At (call (.ref _) _ _) | show At (exec (.While _ _ _ _) _) | show At (exec (.For _ _ _ _ _) _) | show At (call (.type "range") _ _) | show At (pyIter _) | show At (eval (.ListComp _ _ _ _) _) | show At (eval (.DictComp _ _ _ _ _) _) | show At (subscriptTail _ _ _ _) | (show At (compareOp _ _ _); fail_if_success show At (compareOp _ (.int _ _) (.int _ _))) | show At (setItem _ _ _) | show At (call (.builtin _) _ _) | show At (exec (.Assign _ (.ListComp _ _ _ _) _) _) | show At (call (.type "enumerate") _ _)))); (walk1; try dsimp only))))
    refine kdp_item T1 q2 (fun tB => ?_)
    dsimp only
    (repeat' (first | ((with_reducible refine ⟨(by k_in : Frag.In _ _), ?_⟩); (try dsimp only [List.nil_append, List.cons_append])) | ((fail_if_success k_end); (fail_if_success (with_reducible (first | show At (call (.ref _) _ _) | show At (exec (.While _ _ _ _) _) | show At (exec (.For _ _ _ _ _) _) | show At (call (.type "range") _ _) | show At (pyIter _) | show At (eval (.ListComp _ _ _ _) _) | show At (eval (.DictComp _ _ _ _ _) _) | show At (subscriptTail _ _ _ _) | (show At (compareOp _ _ _); fail_if_success show At (compareOp _ (.int _ _) (.int _ _))) | show At (setItem _ _ _) | show At (call (.builtin _) _ _) | show At (exec (.Assign _ (.ListComp _ _ _ _) _) _) | show At (call (.type "enumerate") _ _)))); (walk1; try dsimp only))))
    refine kdp_setItem F9 N9 (.tail hI1 (.tail h31 (.tail h21 (.head (fun _ z => (nomatch z)))))) hd1 hf1 (by omega) ?_
    intro h8 o1' kvs1' F8 N8 hd1' hf1'
    clear F9 N9 T1
    dsimp only
    (repeat' (first | ((with_reducible refine ⟨(by k_in : Frag.In _ _), ?_⟩); (try dsimp only [List.nil_append, List.cons_append])) | ((fail_if_success k_end); (fail_if_success (with_reducible (first | show At (call (.ref _) _ _) | show At (exec (.While _ _ _ _) _) | show At (exec (.For _ _ _ _ _) _) | show At (call (.type "range") _ _) | show At (pyIter _) | show At (eval (.ListComp _ _ _ _) _) | show At (eval (.DictComp _ _ _ _ _) _) | show At (subscriptTail _ _ _ _) | (show At (compareOp _ _ _); fail_if_success show At (compareOp _ (.int _ _) (.int _ _))) | show At (setItem _ _ _) | show At (call (.builtin _) _ _) | show At (exec (.Assign _ (.ListComp _ _ _ _) _) _) | show At (call (.type "enumerate") _ _)))); (walk1; try dsimp only))))
    have T2 : StrTab PR w _ D2 _ := ⟨W.lo e2, kvs2, Heap.dictOf_iff.mpr ⟨o2, (N8 (D2, o2) (.tail _ (.tail _ (.head _)))).1, hd2⟩, hf2⟩
    refine kdp_getItem T2 r1 (fun tA => ?_)
    dsimp only
    (repeat' (first | ((with_reducible refine ⟨(by k_in : Frag.In _ _), ?_⟩); (try dsimp only [List.nil_append, List.cons_append])) | ((fail_if_success k_end); (fail_if_success (with_reducible (first | show At (call (.ref _) _ _) | show At (exec (.While _ _ _ _) _) | show At (exec (.For _ _ _ _ _) _) | show At (call (.type "range") _ _) | show At (pyIter _) | show At (eval (.ListComp _ _ _ _) _) | show At (eval (.DictComp _ _ _ _ _) _) | show At (subscriptTail _ _ _ _) | (show At (compareOp _ _ _); fail_if_success show At (compareOp _ (.int _ _) (.int _ _))) | show At (setItem _ _ _) | show At (call (.builtin _) _ _) | show At (exec (.Assign _ (.ListComp _ _ _ _) _) _) | show At (call (.type "enumerate") _ _)))); (walk1; try dsimp only))))
    refine kdp_item T2 r2 (fun tB => ?_)
    dsimp only
    (repeat' (first | ((with_reducible refine ⟨(by k_in : Frag.In _ _), ?_⟩); (try dsimp only [List.nil_append, List.cons_append])) | ((fail_if_success k_end); (fail_if_success (with_reducible (first | show At (call (.ref _) _ _) | show At (exec (.While _ _ _ _) _) | show At (exec (.For _ _ _ _ _) _) | show At (call (.type "range") _ _) | show At (pyIter _) | show At (eval (.ListComp _ _ _ _) _) | show At (eval (.DictComp _ _ _ _ _) _) | show At (subscriptTail _ _ _ _) | (show At (compareOp _ _ _); fail_if_success show At (compareOp _ (.int _ _) (.int _ _))) | show At (setItem _ _ _) | show At (call (.builtin _) _ _) | show At (exec (.Assign _ (.ListComp _ _ _ _) _) _) | show At (call (.type "enumerate") _ _)))); (walk1; try dsimp only))))
    refine kdp_setItem F8 N8 (.tail hI2 (.tail h32 (.head (fun p z => by cases List.mem_singleton.mp z; exact h21.symm)))) hd2 hf2 (by omega) ?_
    intro h9 o2' kvs2' F9 N9 hd2' hf2'
    clear F8 N8 T2
    dsimp only
    (repeat' (first | ((with_reducible refine ⟨(by k_in : Frag.In _ _), ?_⟩); (try dsimp only [List.nil_append, List.cons_append])) | ((fail_if_success k_end); (fail_if_success (with_reducible (first | show At (call (.ref _) _ _) | show At (exec (.While _ _ _ _) _) | show At (exec (.For _ _ _ _ _) _) | show At (call (.type "range") _ _) | show At (pyIter _) | show At (eval (.ListComp _ _ _ _) _) | show At (eval (.DictComp _ _ _ _ _) _) | show At (subscriptTail _ _ _ _) | (show At (compareOp _ _ _); fail_if_success show At (compareOp _ (.int _ _) (.int _ _))) | show At (setItem _ _ _) | show At (call (.builtin _) _ _) | show At (exec (.Assign _ (.ListComp _ _ _ _) _) _) | show At (call (.type "enumerate") _ _)))); (walk1; try dsimp only))))
    refine hT _ _ ⟨_, _, _, _, rfl, F9, N9, .mk o1' kvs1' o2' kvs2' hd1' ?_ hd2' ?_ ?_ ?_⟩
    · rw [rdRun_snoc _ _ _ _ _ hp]; exact hf1'
    · rw [rdRun_snoc _ _ _ _ _ hp]; exact hf2'
    · walk_at "m_lk"
    · walk_at "m_lk"
  · rintro m rest h tk ⟨o1, kvs1, o2, kvs2, hd1, hf1, hd2, hf2, hm1, hm2⟩ F N
    rw [hlv, List.take_length] at hf1 hf2
    (repeat' (first | ((with_reducible refine ⟨(by k_in : Frag.In _ _), ?_⟩); (try dsimp only [List.nil_append, List.cons_append])) | ((fail_if_success k_end); (fail_if_success (with_reducible (first | show At (call (.ref _) _ _) | show At (exec (.While _ _ _ _) _) | show At (exec (.For _ _ _ _ _) _) | show At (call (.type "range") _ _) | show At (pyIter _) | show At (eval (.ListComp _ _ _ _) _) | show At (eval (.DictComp _ _ _ _ _) _) | show At (subscriptTail _ _ _ _) | (show At (compareOp _ _ _); fail_if_success show At (compareOp _ (.int _ _) (.int _ _))) | show At (setItem _ _ _) | show At (call (.builtin _) _ _) | show At (exec (.Assign _ (.ListComp _ _ _ _) _) _) | show At (call (.type "enumerate") _ _)))); (walk1; try dsimp only))))
    have T1 : StrTab PR w _ D1 _ := ⟨W.lo e1, kvs1, Heap.dictOf_iff.mpr ⟨o1, (N (D1, o1) (.tail _ (.tail _ (.head _)))).1, hd1⟩, hf1⟩
    have T2 : StrTab PR w _ D2 _ := ⟨W.lo e2, kvs2, Heap.dictOf_iff.mpr ⟨o2, (N (D2, o2) (.tail _ (.head _))).1, hd2⟩, hf2⟩
    refine kdp_item T1 H2.1 (fun tA => ?_)
    dsimp only
    (repeat' (first | ((with_reducible refine ⟨(by k_in : Frag.In _ _), ?_⟩); (try dsimp only [List.nil_append, List.cons_append])) | ((fail_if_success k_end); (fail_if_success (with_reducible (first | show At (call (.ref _) _ _) | show At (exec (.While _ _ _ _) _) | show At (exec (.For _ _ _ _ _) _) | show At (call (.type "range") _ _) | show At (pyIter _) | show At (eval (.ListComp _ _ _ _) _) | show At (eval (.DictComp _ _ _ _ _) _) | show At (subscriptTail _ _ _ _) | (show At (compareOp _ _ _); fail_if_success show At (compareOp _ (.int _ _) (.int _ _))) | show At (setItem _ _ _) | show At (call (.builtin _) _ _) | show At (exec (.Assign _ (.ListComp _ _ _ _) _) _) | show At (call (.type "enumerate") _ _)))); (walk1; try dsimp only))))
    refine kdp_item T2 H2.2 (fun tB => ?_)
    dsimp only
    (repeat' (first | ((with_reducible refine ⟨(by k_in : Frag.In _ _), ?_⟩); (try dsimp only [List.nil_append, List.cons_append])) | ((fail_if_success k_end); (fail_if_success (with_reducible (first | show At (call (.ref _) _ _) | show At (exec (.While _ _ _ _) _) | show At (exec (.For _ _ _ _ _) _) | show At (call (.type "range") _ _) | show At (pyIter _) | show At (eval (.ListComp _ _ _ _) _) | show At (eval (.DictComp _ _ _ _ _) _) | show At (subscriptTail _ _ _ _) | (show At (compareOp _ _ _); fail_if_success show At (compareOp _ (.int _ _) (.int _ _))) | show At (setItem _ _ _) | show At (call (.builtin _) _ _) | show At (exec (.Assign _ (.ListComp _ _ _ _) _) _) | show At (call (.type "enumerate") _ _)))); (walk1; try dsimp only))))
    with_reducible rename Fr _ _ _ _ => F9
    with_reducible rename News _ _ _ _ => N9
    have z := N9 _ (.head _)
    exact hQ _ _ _ _ _ F9.keep z.2.2 z.1
/-- an item of the heap whose objects stand at good places -/
inductive R3P (ok : Addr → Prop) (h : Heap) : Value → It3 → Prop
  | mk (a aw : Addr) (x : It3) (tp tn : Tok) (vs : List Value) (k : Nat) (oa : ok a) (ow : ok aw) (ha : h.get? a = some (tupO [.ref aw, .str x.2.1 tp, .int x.2.2 tn])) (hw : h.get? aw = some (listO vs k)) (hi : IntsAre vs x.1) : R3P ok h (.ref a) x
inductive InI (items : List (Addr × Obj)) : Value → It3 → Prop
  | mk (a aw : Addr) (x : It3) (tp tn : Tok) (vs : List Value) (k : Nat) (ha : (a, tupO [.ref aw, .str x.2.1 tp, .int x.2.2 tn]) ∈ items) (hw : (aw, listO vs k) ∈ items) (hi : IntsAre vs x.1) : InI items (.ref a) x
theorem R3P.mono {ok : Addr → Prop} {h h' : Heap} {v : Value} {x : It3} (k : h.StaysIn h') (r : R3P ok h v x) : R3P ok h' v x := by
  obtain ⟨a, aw, _, tp, tn, vs, n, oa, ow, ha, hw, hi⟩ := r
  exact .mk a aw _ tp tn vs n oa ow (k _ _ ha) (k _ _ hw) hi
theorem R3P.r3 {ok : Addr → Prop} {h : Heap} {v : Value} {x : It3} (r : R3P ok h v x) : R3 h v x := by
  obtain ⟨a, aw, _, tp, tn, vs, n, oa, ow, ha, hw, hi⟩ := r
  exact .mk a aw _ tp tn vs n ha hw hi
noncomputable def ordP (w : World) (ok : Addr → Prop) : Ord w It3 where
  R := R3P ok
  mono := R3P.mono
  lt := lt3
  cmp := fun {_ s _ _ _ _ Q} h1 h2 hu _ q => cmp3 h1.r3 h2.r3 hu PR w NE Q (q s.heap s.toks fun _ _ e => e)
theorem AllR.imp {α : Type} {R S : Value → α → Prop} {vs : List Value} {xs : List α} (h : AllR R vs xs) (k : ∀ v x, R v x → S v x) : AllR S vs xs := ⟨h.1, fun i v x e1 e2 => k v x (h.2 i v x e1 e2)⟩
theorem AllR.uncons {α : Type} {R : Value → α → Prop} {v : Value} {vs : List Value} {x : α} {xs : List α} (h : AllR R (v :: vs) (x :: xs)) : R v x ∧ AllR R vs xs :=
  ⟨h.2 0 v x rfl rfl, by simpa using h.1, fun i v' x' e1 e2 => h.2 (i + 1) v' x' (by simpa using e1) (by simpa using e2)⟩
theorem InI.up {items more : List (Addr × Obj)} {v : Value} {x : It3} (k : ∀ p ∈ items, p ∈ more) (r : InI items v x) : InI more v x := by
  obtain ⟨a, aw, _, tp, tn, vs, n, ha, hw, hi⟩ := r
  exact .mk a aw _ tp tn vs n (k _ ha) (k _ hw) hi
theorem items_of {ok : Addr → Prop} {h : Heap} : ∀ {vs : List Value} {xs : List It3}, AllR (R3P ok h) vs xs → ∃ items : List (Addr × Obj), (∀ p ∈ items, ok p.1 ∧ h.get? p.1 = some p.2) ∧ AllR (InI items) vs xs := by
  intro vs
  induction vs with
  | nil =>
    intro xs h
    rw [List.eq_nil_of_length_eq_zero h.1.symm]
    exact ⟨[], fun _ z => (nomatch z), AllR.nil⟩
  | cons v vs ih =>
    intro xs h
    cases xs with
    | nil => exact absurd h.1 (by simp)
    | cons x xs =>
      obtain ⟨h1, hr⟩ := h.uncons
      obtain ⟨items, hk, hI⟩ := ih hr
      obtain ⟨a, aw, _, tp, tn, ws, k, oa, ow, ha, hw, hi⟩ := h1
      refine ⟨(a, tupO [.ref aw, .str x.2.1 tp, .int x.2.2 tn]) :: (aw, listO ws k) :: items, fun p hp => ?_, AllR.cons (hI.imp fun v x q => q.up fun p hp => .tail _ (.tail _ hp)) (.mk a aw _ tp tn ws k (.head _) (.tail _ (.head _)) hi)⟩
      rcases List.mem_cons.mp hp with rfl | hp
      · exact ⟨oa, ha⟩
      · rcases List.mem_cons.mp hp with rfl | hp
        · exact ⟨ow, hw⟩
        · exact hk p hp
theorem r3p_of {ok : Addr → Prop} {h : Heap} {items : List (Addr × Obj)} (hk : ∀ p ∈ items, ok p.1 ∧ h.get? p.1 = some p.2) {v : Value} {x : It3} (r : InI items v x) : R3P ok h v x := by
  obtain ⟨a, aw, _, tp, tn, vs, k, ha, hw, hi⟩ := r
  exact .mk a aw _ tp tn vs k (hk _ ha).1 (hk _ hw).1 (hk _ ha).2 (hk _ hw).2 hi
theorem r3p_hide {ok : Addr → Prop} {h : Heap} {l : Addr} (hl : ∀ b, ok b → b ≠ l) {v : Value} {x : It3} (r : R3P ok h v x) : R3P ok (h.hide l) v x := by
  obtain ⟨a, aw, _, tp, tn, vs, k, oa, ow, ha, hw, hi⟩ := r
  exact .mk a aw _ tp tn vs k oa ow ((Heap.hide_ne h (hl _ oa)).trans ha) ((Heap.hide_ne h (hl _ ow)).trans hw) hi
noncomputable def strIs (x : Str) : Value → Bool
  | .str y _ => y == x
  | _ => false
theorem idx_strs {w : World} {A : Around} {E : Value → Shared → Prop} {s : Shared} {l : Addr} {vs : List Value} {ws : List Str} {n j : Nat} {x : Str} {t : Tok} {Q : Value → Shared → Prop} (hl : s.heap.get? l = some (listO vs n)) (hR : AllR IsStr vs ws) (hlen : ws.length < 1000)
    (hj : ws[j]? = some x) (hno : ∀ m, m < j → ws[m]? ≠ some x) (h : Q (.int (j : Nat) s.toks) { s with toks := s.toks + 1 }) : wpAny (model PR w) A (call (.builtin "list.index") [.ref l, .str x t]) Q E s := by
  obtain ⟨v, hv, tv, rfl⟩ := hR.get hj
  have hjl := (List.getElem?_eq_some_iff.mp hv).1
  have hjw := (List.getElem?_eq_some_iff.mp hj).1
  refine call_meets PySem.F.slot_list_index ⟨_, hl, rfl⟩ PySem.F.entry_list_index (PySem.F.args_list_index_2 _ _)
    (MeetsSeq.list_index l vs.toArray n (.str x t) (strIs x) (fun y hy => ?_) j (by simpa using hjl) (by omega) ?_ (fun i hi hlt => ?_)) ⟨hl, h⟩
  · obtain ⟨i, hi, e⟩ := List.getElem_of_mem (by simpa using hy : y ∈ vs)
    obtain ⟨z, ez, tz, rfl⟩ := hR.getV (List.getElem?_eq_some_iff.mpr ⟨hi, e⟩)
    exact PyProof.Rows.eqGives_str _ _ _ _
  · have e : vs[j] = .str x tv := (List.getElem?_eq_some_iff.mp hv).2
    simp [e, strIs]
  · have hi' : i < vs.length := by simpa using hi
    obtain ⟨z, ez, tz, e⟩ := hR.getV (List.getElem?_eq_some_iff.mpr ⟨hi', rfl⟩)
    have hz : z ≠ x := fun q => hno i hlt (q ▸ ez)
    simp [e, strIs, hz]
noncomputable def bitsN (n : Nat) : List Nat := (List.range 7).filter fun k => n.testBit k
noncomputable def wordK (k : Nat) : Str := wordN.getD k ⟨#[]⟩
noncomputable def joinT (x y : Str) : Str := if Txt.endswith x (Str.ofString "/") = true then x ++ y else x ++ (Str.ofString "/" ++ y)
noncomputable def lsPush (way : List Int) (path : Str) (xs : List It3) (k : Nat) : List It3 := hpush lt3 xs (way ++ [-(k : Int)], joinT path (wordK k), k)
noncomputable def lsPop (xs : List It3) : Option (It3 × List It3) := match xs.getLast? with
  | none => none
  | some x => some (hpop lt3 xs.dropLast x)
noncomputable def lsStep (st : List It3 × List Str) : List It3 × List Str := match lsPop st.1 with
  | none => st
  | some (it, r) => ((bitsN it.2.2).foldl (lsPush it.1 it.2.1) r, st.2 ++ [it.2.1])
noncomputable def lsOk (st : List It3 × List Str) : Bool := match lsPop st.1 with
  | none => true
  | some (it, r) => decide (it.2.2 < 128) && decide (1 ≤ it.2.1.length) && decide (it.2.1.length < 5000) && decide (it.1.length < 100) && decide (st.1.length < 100) && decide (st.2.length < 100) &&
    decide (r.length < 190)
noncomputable def lsRun (n : Nat) : Nat → List It3 × List Str
  | 0 => ([([], Str.ofString "/", n)], [])
  | k + 1 => lsStep (lsRun n k)
theorem lsRun_nil (n k : Nat) (h : (lsRun n k).1 = []) : ∀ j, lsRun n (k + j) = lsRun n k
  | 0 => rfl
  | j + 1 => by
    show lsStep (lsRun n (k + j)) = _
    rw [lsRun_nil n k h j]
    unfold lsStep
    rw [h]
    rfl
theorem sdown_len {α : Type} (lt : α → α → Bool) (st : Nat) (x : α) : ∀ (k pos : Nat) (xs : List α), (sdown lt st x k pos xs).length = xs.length := by
  intro k
  induction k with
  | zero => intro pos xs; exact List.length_set
  | succ k ih =>
    intro pos xs
    show (if st < pos then (match xs[(pos - 1) / 2]? with
      | some p => if lt x p then sdown lt st x k ((pos - 1) / 2) (xs.set pos p) else xs.set pos x
      | none => xs.set pos x) else xs.set pos x).length = xs.length
    by_cases h : st < pos
    · rw [if_pos h]
      cases xs[(pos - 1) / 2]? with
      | none => exact List.length_set
      | some p =>
        dsimp only
        by_cases h2 : lt x p = true
        · rw [if_pos h2]
          exact (ih _ _).trans List.length_set
        · rw [if_neg h2]
          exact List.length_set
    · rw [if_neg h]
      exact List.length_set
theorem lsPush_len (way : List Int) (path : Str) (ks : List Nat) : ∀ xs : List It3, (ks.foldl (lsPush way path) xs).length = xs.length + ks.length := by
  induction ks with
  | nil => intro xs; rfl
  | cons k ks ih =>
    intro xs
    rw [List.foldl_cons, ih, lsPush, hpush, sdown_len, List.length_append, List.length_cons]
    show xs.length + 1 + ks.length = xs.length + (ks.length + 1)
    rw [Nat.add_assoc, Nat.add_comm 1]
theorem lsOk_iff {st : List It3 × List Str} {it : It3} {r : List It3} (h : lsOk st = true) (e : lsPop st.1 = some (it, r)) : it.2.2 < 128 ∧ 1 ≤ it.2.1.length ∧ it.2.1.length < 5000 ∧ it.1.length < 100 ∧ st.1.length < 100 ∧ st.2.length < 100 ∧ ∀ i, i < 8 → (((bitsN it.2.2).take i).foldl (lsPush it.1 it.2.1) r).length < 200 := by
  unfold lsOk at h
  rw [e] at h
  simp only [Bool.and_eq_true, decide_eq_true_eq] at h
  refine ⟨h.1.1.1.1.1.1, h.1.1.1.1.1.2, h.1.1.1.1.2, h.1.1.1.2, h.1.1.2, h.1.2, fun i hi => ?_⟩
  rw [lsPush_len, List.length_take]
  exact Nat.lt_of_lt_of_le (Nat.add_lt_add_of_lt_of_le h.2 (Nat.le_trans (Nat.min_le_left _ _) (Nat.le_of_lt hi))) (by decide : 190 + 8 ≤ 200)
noncomputable def okA (B : Heap) (L hl rl : Addr) (b : Addr) : Prop := B.get? b = none ∧ b ≠ L ∧ b ≠ hl ∧ b ≠ rl
inductive LSt (s : Shared) (n : Nat) (L nl rl hl : Addr) (vs5 : List Value) (kr5 : Nat) : Nat → Shared → Prop
  | mk {k : Nat} {h : Heap} {tk : Nat} {m : Str → Option Value} {vs : List Value} {nH : Nat} {rs : List Value} {kr : Nat} : Fr s.heap L h m → News s.heap L h [(hl, listO vs nH), (rl, listO rs kr), (nl, listO vs5 kr5)] → AllR (R3P (okA s.heap L hl rl) h) vs (lsRun n k).1 → AllR IsStr rs (lsRun n k).2 →
    m (Str.ofString "names") = some (.ref nl) → m (Str.ofString "rows") = some (.ref rl) → m (Str.ofString "heap") = some (.ref hl) → LSt s n L nl rl hl vs5 kr5 k { s with heap := h, toks := tk }
inductive WSt (s : Shared) (L nl rl hl aw : Addr) (vs5 : List Value) (kr5 : Nat) (vs6 : List Value) (n6 : Nat) (rs : List Value) (kr : Nat) (wv : List Value) (kw : Nat) (items : List (Addr × Obj)) (words : List Str) (path : Str) : Shared → Prop
  | mk {h : Heap} {tk : Nat} {m : Str → Option Value} {D : Addr} {ws : List Value} {kD : Nat} {tp : Tok} : Fr s.heap L h m → News s.heap L h ((hl, listO vs6 n6) :: (rl, listO rs kr) :: (nl, listO vs5 kr5) :: (D, listO ws kD) :: (aw, listO wv kw) :: items) → AllR IsStr ws words →
    m (Str.ofString "names") = some (.ref nl) → m (Str.ofString "rows") = some (.ref rl) → m (Str.ofString "heap") = some (.ref hl) → m (Str.ofString "way") = some (.ref aw) → m (Str.ofString "path") = some (.str path tp) → m (Str.ofString "words") = some (.ref D) → D ≠ hl → D ≠ rl →
    WSt s L nl rl hl aw vs5 kr5 vs6 n6 rs kr wv kw items words path { s with heap := h, toks := tk }
inductive LFo (s : Shared) (L nl rl hl iw D it : Addr) (vs5 : List Value) (kr5 : Nat) (ws : List Value) (kD : Nat) (rs : List Value) (kr : Nat) (wv : List Value) (kw : Nat) (ks : List Nat) (way : List Int) (path : Str) (tp : Tok) (rest : List It3) (i : Nat) (m : Str → Option Value) : List (Addr × Obj) → Prop
  | mk (vs : List Value) (n : Nat) (its : List (Addr × Obj)) (hits : ∀ p ∈ its, okA s.heap L hl rl p.1 ∧ p.1 ≠ it) (hI : AllR (InI its) vs ((ks.take i).foldl (lsPush way path) rest)) (m1 : m (Str.ofString "names") = some (.ref nl)) (m2 : m (Str.ofString "rows") = some (.ref rl)) (m3 : m (Str.ofString "heap") = some (.ref hl)) (m4 : m (Str.ofString "way") = some (.ref iw)) (m5 : m (Str.ofString "path") = some (.str path tp)) :
    LFo s L nl rl hl iw D it vs5 kr5 ws kD rs kr wv kw ks way path tp rest i m ((hl, listO vs n) :: (rl, listO rs kr) :: (nl, listO vs5 kr5) :: (D, listO ws kD) :: (iw, listO wv kw) :: its)
theorem allR_strs : ∀ {vs : List Value} {ws : List Str}, StrsAre vs ws → AllR IsStr vs ws
  | _, _, .nil => AllR.nil
  | _, _, .cons _ t h => AllR.cons (allR_strs h) ⟨t, rfl⟩
/-- what is so of each number, in four parts -/
theorem four {P : Nat → Prop} (a : ∀ k : Nat, k < 32 → P k) (b : ∀ k : Nat, k < 32 → P (k + 32)) (c : ∀ k : Nat, k < 32 → P (k + 64)) (d : ∀ k : Nat, k < 32 → P (k + 96)) : ∀ n : Nat, n < 128 → P n := fun n h => by
  by_cases q : n < 64
  · by_cases r : n < 32
    · exact a n r
    · have z := b (n - 32) (by omega)
      rwa [Nat.sub_add_cancel (by omega)] at z
  · by_cases r : n < 96
    · have z := c (n - 64) (by omega)
      rwa [Nat.sub_add_cancel (by omega)] at z
    · have z := d (n - 96) (by omega)
      rwa [Nat.sub_add_cancel (by omega)] at z
noncomputable def SpB (n : Nat) : Bool := n == 0 || (decide (Txt.split (prettyT n) (Str.ofString ", ") = (bitsN n).map wordK) && decide ((prettyT n).length < 1000))
theorem sp_a : ∀ k : Nat, k < 32 → SpB k = true := by decide +kernel
theorem sp_b : ∀ k : Nat, k < 32 → SpB (k + 32) = true := by decide +kernel
theorem sp_c : ∀ k : Nat, k < 32 → SpB (k + 64) = true := by decide +kernel
theorem sp_d : ∀ k : Nat, k < 32 → SpB (k + 96) = true := by decide +kernel
theorem split_pretty (n : Nat) (h : n < 128) (h0 : 0 < n) : Txt.split (prettyT n) (Str.ofString ", ") = (bitsN n).map wordK ∧ (prettyT n).length < 1000 := by
  have z : SpB n = true := four sp_a sp_b sp_c sp_d n h
  unfold SpB at z
  rcases (Bool.or_eq_true _ _).mp z with z | z
  · exact absurd (eq_of_beq z) (Nat.ne_of_gt h0)
  · obtain ⟨z1, z2⟩ := (Bool.and_eq_true_iff).mp z
    exact ⟨of_decide_eq_true z1, of_decide_eq_true z2⟩
theorem news_sub {B h : Heap} {L : Addr} {big small : List (Addr × Obj)} (N : News B L h big) (sub : ∀ p ∈ small, p ∈ big) : News B L h small := fun p hp => N p (sub p hp)
theorem word_at : ∀ k : Nat, k < 7 → wordN[k]? = some (wordK k) ∧ (∀ m, m < k → wordN[m]? ≠ some (wordK k)) ∧ (wordK k).length < 100 ∧ Txt.startswith (wordK k) (Str.ofString "/") = false := by decide +kernel
theorem bitsN_lt {n k : Nat} (h : k ∈ bitsN n) : k < 7 := by
  unfold bitsN at h
  exact List.mem_range.mp (List.mem_filter.mp h).1
set_option maxHeartbeats 8000000 in
theorem listed_spec {w : World} {mean : ExcName → Option Value} {mg mb : Str → Option Value} {A : Around} {s : Shared} {Q : Value → Shared → Prop} {n : Nat} {t1 : Tok}
    (W : Wd w mean mg mb s.heap) (hu : A.units + 1000 < cLine) (hd : A.depth + 100 < recursionLimit) (hh : A.handled = none) (hn : n < 128) {K : Nat} (hend : (lsRun n K).1 = []) (hok : ∀ k, k < K → lsOk (lsRun n k) = true)
    (hQ : ∀ h' tk r vs, s.heap.StaysIn h' → NewL s.heap h' r vs → AllR IsStr vs (lsRun n K).2 → Q (.ref r) { s with heap := h', toks := tk }) :
    wpAny (model PR w) A (call (.ref 179) [.int n t1]) Q NE s := by
  have X := W.X
  have T := W.T
  refine' enter (binds := [(Str.ofString "number", .int n t1)]) X T.nolimit ?k6 ?k7 (by omega) ?k9 ?kB ?_ ?c2 ?c3 ?c4 ?c5
  ((case k6 | k7 => k_is); (case k9 => exact .of_eq rfl); (case c5 => decide); (case kB => exact locs rfl); (case c2 | c3 | c4 => exact rfl))
  intro h₁ F
  have N : News s.heap s.heap.objs.size h₁ [] := News.nil
  (repeat' (first | ((with_reducible refine ⟨(by k_in : Frag.In _ _), ?_⟩); (try dsimp only [List.nil_append, List.cons_append])) | ((fail_if_success k_end); (fail_if_success (with_reducible (first | show At (call (.ref _) _ _) | show At (exec (.While _ _ _ _) _) | show At (exec (.For _ _ _ _ _) _) | show At (call (.type "range") _ _) | show At (pyIter _) | show At (eval (.ListComp _ _ _ _) _) | show At (eval (.DictComp _ _ _ _ _) _) | show At (subscriptTail _ _ _ _) | (show At (compareOp _ _ _); fail_if_success show At (compareOp _ (.int _ _) (.int _ _))) | show At (setItem _ _ _) | show At (call (.builtin _) _ _) | show At (exec (.Assign _ (.ListComp _ _ _ _) _) _) | show At (call (.type "enumerate") _ _)))); (walk1; try dsimp only))))
  refine names_spec (W.keeps F.keep) (roomD hd (by decide)) ?_
  intro h5 tk5 r5 vs5 k5 ⟨r0, kr, re⟩ hw5
  have F5 := fr_stays F k5
  have N5 := news_add F N k5 (by
    cases q : s.heap.get? r5 with
    | none => exact r0
    | some o => exact r0) re
  clear k5 F N
  (repeat' (first | ((with_reducible refine ⟨(by k_in : Frag.In _ _), ?_⟩); (try dsimp only [List.nil_append, List.cons_append])) | ((fail_if_success k_end); (fail_if_success (with_reducible (first | show At (call (.ref _) _ _) | show At (exec (.While _ _ _ _) _) | show At (exec (.For _ _ _ _ _) _) | show At (call (.type "range") _ _) | show At (pyIter _) | show At (eval (.ListComp _ _ _ _) _) | show At (eval (.DictComp _ _ _ _ _) _) | show At (subscriptTail _ _ _ _) | (show At (compareOp _ _ _); fail_if_success show At (compareOp _ (.int _ _) (.int _ _))) | show At (setItem _ _ _) | show At (call (.builtin _) _ _) | show At (exec (.Assign _ (.ListComp _ _ _ _) _) _) | show At (call (.type "enumerate") _ _)))); (walk1; try dsimp only))))
  with_reducible rename Fr _ _ _ _ => F9
  with_reducible rename News _ _ _ _ => N9
  refine unpackItemsN_ F9 N9 (News.isTup N9 (.head _)) hh rfl ?_
  intro h4 F4 N4
  clear F9 N9
  dsimp only
  (repeat' (first | ((with_reducible refine ⟨(by k_in : Frag.In _ _), ?_⟩); (try dsimp only [List.nil_append, List.cons_append])) | ((fail_if_success k_end); (fail_if_success (with_reducible (first | show At (call (.ref _) _ _) | show At (exec (.While _ _ _ _) _) | show At (exec (.For _ _ _ _ _) _) | show At (call (.type "range") _ _) | show At (pyIter _) | show At (eval (.ListComp _ _ _ _) _) | show At (eval (.DictComp _ _ _ _ _) _) | show At (subscriptTail _ _ _ _) | (show At (compareOp _ _ _); fail_if_success show At (compareOp _ (.int _ _) (.int _ _))) | show At (setItem _ _ _) | show At (call (.builtin _) _ _) | show At (exec (.Assign _ (.ListComp _ _ _ _) _) _) | show At (call (.type "enumerate") _ _)))); (walk1; try dsimp only))))
  with_reducible rename Fr _ _ _ _ => F9
  with_reducible rename News _ _ _ _ => N9
  rename_i rl _ q1 wl _ q2 itl _ q3 hl _ q4 tpl _ q5 _ _ hX
  have N0 : News s.heap s.heap.objs.size hX [(hl, listO [.ref itl] 0), (rl, listO [] 0), (r5, listO vs5 kr)] := fun p hp => by
    rcases List.mem_cons.mp hp with rfl | hp
    · exact N9 _ (.tail _ (.head _))
    · rcases List.mem_cons.mp hp with rfl | hp
      · exact N9 _ (.tail _ (.tail _ (.tail _ (.tail _ (.head _)))))
      · cases List.mem_singleton.mp hp
        exact N9 _ (.tail _ (.tail _ (.tail _ (.tail _ (.tail _ (.head _))))))
  have hrn : rl ≠ hl := Nat.ne_of_lt q4.2.2.1
  have e1 := (N9 (hl, _) (.tail _ (.head _))).2
  have e2 := (N9 (rl, _) (.tail _ (.tail _ (.tail _ (.tail _ (.head _)))))).2
  have e3 := (N9 (r5, _) (.tail _ (.tail _ (.tail _ (.tail _ (.tail _ (.head _))))))).2
  have hr5 : rl ≠ r5 ∧ hl ≠ r5 := ⟨(Nat.ne_of_lt q1).symm, (Nat.ne_of_lt q4.2.2.2).symm⟩
  have hit : R3P (okA s.heap s.heap.objs.size hl rl) hX (.ref itl) ([], Str.ofString "/", n) := by
    have z1 := N9 (itl, _) (.tail _ (.tail _ (.head _)))
    have z2 := N9 (wl, _) (.tail _ (.tail _ (.tail _ (.head _))))
    exact .mk itl wl ([], Str.ofString "/", n) _ _ [] 0 ⟨z1.2.2, z1.2.1, Nat.ne_of_lt q4.1, (Nat.ne_of_lt q3.2.1).symm⟩ ⟨z2.2.2, z2.2.1, Nat.ne_of_lt q4.2.1, (Nat.ne_of_lt q2.1).symm⟩ z1.1 z2.1 .nil
  refine while_cut (fun m s' => ∃ k, k ≤ K ∧ m = K - k ∧ LSt s n s.heap.objs.size r5 rl hl vs5 kr k s') (LSt s n s.heap.objs.size r5 rl hl vs5 kr K) K ⟨0, Nat.zero_le _, rfl, ?_⟩ ?_ ?_
  · exact .mk F9 N0 ⟨rfl, fun i v x a b => by
      cases i with
      | zero => cases a; cases b; exact hit
      | succ i => simp at a⟩ AllR.nil (by walk_at "m_lk") (by walk_at "m_lk") (by walk_at "m_lk")
  · rintro m s' ⟨k, hk, rfl, St⟩ T J' hT hJ
    cases St with
    | mk F N hH hR h1 h2 h3 =>
    rename_i h tk m vs nH rs kr'
    cases hx : (lsRun n k).1 with
    | nil =>
      rw [hx] at hH
      have hv0 : vs = [] := List.eq_nil_of_length_eq_zero hH.1
      subst hv0
      (repeat' (first | ((with_reducible refine ⟨(by k_in : Frag.In _ _), ?_⟩); (try dsimp only [List.nil_append, List.cons_append])) | ((fail_if_success k_end); (fail_if_success (with_reducible (first | show At (call (.ref _) _ _) | show At (exec (.While _ _ _ _) _) | show At (exec (.For _ _ _ _ _) _) | show At (call (.type "range") _ _) | show At (pyIter _) | show At (eval (.ListComp _ _ _ _) _) | show At (eval (.DictComp _ _ _ _ _) _) | show At (subscriptTail _ _ _ _) | (show At (compareOp _ _ _); fail_if_success show At (compareOp _ (.int _ _) (.int _ _))) | show At (setItem _ _ _) | show At (call (.builtin _) _ _) | show At (exec (.Assign _ (.ListComp _ _ _ _) _) _) | show At (call (.type "enumerate") _ _)))); (walk1; try dsimp only))))
      have e := lsRun_nil n k hx (K - k)
      rw [show k + (K - k) = K by omega] at e
      exact hJ _ (.mk ‹Fr _ _ _ _› ‹News _ _ _ _› (by rw [e, hx]; exact AllR.nil) (by rw [e]; exact hR) (by walk_at "m_lk") (by walk_at "m_lk") (by walk_at "m_lk"))
    | cons x0 xs0 =>
      have hlt : k < K := by
        rcases Nat.lt_or_ge k K with q | q
        · exact q
        · have : k = K := by omega
          rw [this, hend] at hx
          cases hx
      obtain ⟨a0, u, rfl⟩ : ∃ a0 u, vs = a0 :: u := by
        cases vs with
        | nil => rw [hx] at hH; exact absurd hH.1 (by simp)
        | cons a u => exact ⟨a, u, rfl⟩
      obtain ⟨ys, x, hsp⟩ : ∃ ys x, (lsRun n k).1 = ys ++ [x] := ⟨_, _, (List.dropLast_concat_getLast (by rw [hx]; simp)).symm⟩
      have hpop : lsPop (lsRun n k).1 = some (hpop lt3 ys x) := by
        unfold lsPop
        rw [hsp]
        simp
      generalize hpp : Mine.hpop lt3 ys x = pp at hpop
      obtain ⟨⟨way, path, worth⟩, rest⟩ := pp
      obtain ⟨o1, o2, o3, o4, o5, o6, o7⟩ := lsOk_iff (hok k hlt) hpop
      dsimp only at o1 o2 o3 o4 o7
      have hstep : lsRun n (k + 1) = ((bitsN worth).foldl (lsPush way path) rest, (lsRun n k).2 ++ [path]) := by
        show lsStep (lsRun n k) = _
        unfold lsStep
        rw [hpop]
      have hrest : rest.length < 200 := by have := o7 0 (by omega); simpa using this
      (repeat' (first | ((with_reducible refine ⟨(by k_in : Frag.In _ _), ?_⟩); (try dsimp only [List.nil_append, List.cons_append])) | ((fail_if_success k_end); (fail_if_success (with_reducible (first | show At (call (.ref _) _ _) | show At (exec (.While _ _ _ _) _) | show At (exec (.For _ _ _ _ _) _) | show At (call (.type "range") _ _) | show At (pyIter _) | show At (eval (.ListComp _ _ _ _) _) | show At (eval (.DictComp _ _ _ _ _) _) | show At (subscriptTail _ _ _ _) | (show At (compareOp _ _ _); fail_if_success show At (compareOp _ (.int _ _) (.int _ _))) | show At (setItem _ _ _) | show At (call (.builtin _) _ _) | show At (exec (.Assign _ (.ListComp _ _ _ _) _) _) | show At (call (.type "enumerate") _ _)))); (walk1; try dsimp only))))
      refine wpAny_truthy_list (items := (a0 :: u).toArray) ⟨_, (N _ (.head _)).1, rfl, _, rfl⟩ (by have := hH.1; rw [List.size_toArray]; omega) ?_
      rw [show (!(a0 :: u).toArray.isEmpty) = true by simp, if_pos rfl]
      (repeat' (first | ((with_reducible refine ⟨(by k_in : Frag.In _ _), ?_⟩); (try dsimp only [List.nil_append, List.cons_append])) | ((fail_if_success k_end); (fail_if_success (with_reducible (first | show At (call (.ref _) _ _) | show At (exec (.While _ _ _ _) _) | show At (exec (.For _ _ _ _ _) _) | show At (call (.type "range") _ _) | show At (pyIter _) | show At (eval (.ListComp _ _ _ _) _) | show At (eval (.DictComp _ _ _ _ _) _) | show At (subscriptTail _ _ _ _) | (show At (compareOp _ _ _); fail_if_success show At (compareOp _ (.int _ _) (.int _ _))) | show At (setItem _ _ _) | show At (call (.builtin _) _ _) | show At (exec (.Assign _ (.ListComp _ _ _ _) _) _) | show At (call (.type "enumerate") _ _)))); (walk1; try dsimp only))))
      refine heappop_spec (ordP w (okA s.heap s.heap.objs.size hl rl)) (B := Heap.hide h hl) (ys := ys) (x := x) (vs := a0 :: u) (W.keeps (stays_hide F.keep e1.2)) stays_of_hide (Heap.hide_self _ _) (N _ (.head _)).1 ?_ (roomU hu (by decide)) (roomD hd (by decide)) (by rw [hsp] at o5; simp at o5; omega) ?_
      · rw [← hsp]; exact hH.imp fun v x => r3p_hide fun b hb => hb.2.2.1
      intro h6 tk6 v6 vs6 n6 q6 e6 r6 R6
      rw [show (ordP w (okA s.heap s.heap.objs.size hl rl)).lt = lt3 from rfl, hpp] at r6 R6
      have k6 : (h.hide hl).StaysIn h6 := StaysIn.trans (KB.stays_hide q6) stays_of_hide
      obtain ⟨it, iw, _, tp, tn, wv, kw, ok1, ok2, g1, g2, hiw⟩ := r6
      obtain ⟨items, hit1, hit2⟩ := items_of (R6.imp fun v x => (ordP w (okA s.heap s.heap.objs.size hl rl)).mono k6)
      have F6 := fr_KB F e1.2 e1.1.symm q6
      have N6c := news_KB N (fun p hp => by
        rcases List.mem_cons.mp hp with rfl | hp
        · exact hrn
        · cases List.mem_singleton.mp hp; exact hr5.2.symm) q6 e6
      have N6 : News s.heap s.heap.objs.size h6 ((hl, listO vs6 n6) :: (rl, listO rs kr') :: (r5, listO vs5 kr) :: (it, tupO [.ref iw, .str path tp, .int worth tn]) :: (iw, listO wv kw) :: items) := fun p hp => by
        rcases List.mem_cons.mp hp with rfl | hp
        · exact N6c _ (.head _)
        rcases List.mem_cons.mp hp with rfl | hp
        · exact N6c _ (.tail _ (.head _))
        rcases List.mem_cons.mp hp with rfl | hp
        · exact N6c _ (.tail _ (.tail _ (.head _)))
        rcases List.mem_cons.mp hp with rfl | hp
        · exact ⟨k6 _ _ g1, ok1.2.1, ok1.1⟩
        rcases List.mem_cons.mp hp with rfl | hp
        · exact ⟨k6 _ _ g2, ok2.2.1, ok2.1⟩
        · exact ⟨(hit1 p hp).2, (hit1 p hp).1.2.1, (hit1 p hp).1.1⟩
      clear N6c F N
      dsimp only
      (repeat' (first | ((with_reducible refine ⟨(by k_in : Frag.In _ _), ?_⟩); (try dsimp only [List.nil_append, List.cons_append])) | ((fail_if_success k_end); (fail_if_success (with_reducible (first | show At (call (.ref _) _ _) | show At (exec (.While _ _ _ _) _) | show At (exec (.For _ _ _ _ _) _) | show At (call (.type "range") _ _) | show At (pyIter _) | show At (eval (.ListComp _ _ _ _) _) | show At (eval (.DictComp _ _ _ _ _) _) | show At (subscriptTail _ _ _ _) | (show At (compareOp _ _ _); fail_if_success show At (compareOp _ (.int _ _) (.int _ _))) | show At (setItem _ _ _) | show At (call (.builtin _) _ _) | show At (exec (.Assign _ (.ListComp _ _ _ _) _) _) | show At (call (.type "enumerate") _ _)))); (walk1; try dsimp only))))
      refine unpackN_ F6 N6 (News.isTup (N6) (.tail _ (.tail _ (.tail _ (.head _))))) hh rfl rfl ?_
      intro h7 F7 N7
      clear F6 N6
      (repeat' (first | ((with_reducible refine ⟨(by k_in : Frag.In _ _), ?_⟩); (try dsimp only [List.nil_append, List.cons_append])) | ((fail_if_success k_end); (fail_if_success (with_reducible (first | show At (call (.ref _) _ _) | show At (exec (.While _ _ _ _) _) | show At (exec (.For _ _ _ _ _) _) | show At (call (.type "range") _ _) | show At (pyIter _) | show At (eval (.ListComp _ _ _ _) _) | show At (eval (.DictComp _ _ _ _ _) _) | show At (subscriptTail _ _ _ _) | (show At (compareOp _ _ _); fail_if_success show At (compareOp _ (.int _ _) (.int _ _))) | show At (setItem _ _ _) | show At (call (.builtin _) _ _) | show At (exec (.Assign _ (.ListComp _ _ _ _) _) _) | show At (call (.type "enumerate") _ _)))); (walk1; try dsimp only))))
      with_reducible rename Fr _ _ _ _ => F8
      with_reducible rename News _ _ _ _ => N8
      have hir : ∀ p ∈ items, p.1 ≠ rl := fun p hp => (hit1 p hp).1.2.2.2
      have hih : ∀ p ∈ items, p.1 ≠ hl := fun p hp => (hit1 p hp).1.2.2.1
      refine item_append F8 N8 (.tail hrn.symm (.head (fun p hp => by
        rcases List.mem_cons.mp hp with rfl | hp
        · exact hr5.1.symm
        rcases List.mem_cons.mp hp with rfl | hp
        · exact ok1.2.2.2
        rcases List.mem_cons.mp hp with rfl | hp
        · exact ok2.2.2.2
        · exact hir p hp))) (by rw [hR.1]; omega) ?_
      intro h9 F9' N9'
      clear F8 N8
      dsimp only
      refine execs_cut (WSt s s.heap.objs.size r5 rl hl iw vs5 kr vs6 n6 (rs ++ [.str path tp]) (kr' + 1) wv kw items ((bitsN worth).map wordK) path) ?_ ?_
      · refine hidePost fun TW hTW => ?_
        rcases Nat.eq_zero_or_pos worth with rfl | hw
        · (repeat' (first | ((with_reducible refine ⟨(by k_in : Frag.In _ _), ?_⟩); (try dsimp only [List.nil_append, List.cons_append])) | ((fail_if_success k_end); (fail_if_success (with_reducible (first | show At (call (.ref _) _ _) | show At (exec (.While _ _ _ _) _) | show At (exec (.For _ _ _ _ _) _) | show At (call (.type "range") _ _) | show At (pyIter _) | show At (eval (.ListComp _ _ _ _) _) | show At (eval (.DictComp _ _ _ _ _) _) | show At (subscriptTail _ _ _ _) | (show At (compareOp _ _ _); fail_if_success show At (compareOp _ (.int _ _) (.int _ _))) | show At (setItem _ _ _) | show At (call (.builtin _) _ _) | show At (exec (.Assign _ (.ListComp _ _ _ _) _) _) | show At (call (.type "enumerate") _ _)))); (walk1; try dsimp only))))
          with_reducible rename Fr _ _ _ _ => F8
          with_reducible rename News _ _ _ _ => N8
          rename_i lw _ l8 _
          refine hTW _ _ ⟨rfl, .mk F8 (news_sub N8 (by kcf_all)) AllR.nil (by walk_at "m_lk") (by walk_at "m_lk") (by walk_at "m_lk") (by walk_at "m_lk") (by walk_at "m_lk") (by walk_at "m_lk") ?_ ?_⟩
          · exact (Nat.ne_of_lt l8.1).symm
          · exact (Nat.ne_of_lt l8.2.1).symm
        · (repeat' (first | ((with_reducible refine ⟨(by k_in : Frag.In _ _), ?_⟩); (try dsimp only [List.nil_append, List.cons_append])) | ((fail_if_success k_end); (fail_if_success (with_reducible (first | show At (call (.ref _) _ _) | show At (exec (.While _ _ _ _) _) | show At (exec (.For _ _ _ _ _) _) | show At (call (.type "range") _ _) | show At (pyIter _) | show At (eval (.ListComp _ _ _ _) _) | show At (eval (.DictComp _ _ _ _ _) _) | show At (subscriptTail _ _ _ _) | (show At (compareOp _ _ _); fail_if_success show At (compareOp _ (.int _ _) (.int _ _))) | show At (setItem _ _ _) | show At (call (.builtin _) _ _) | show At (exec (.Assign _ (.ListComp _ _ _ _) _) _) | show At (call (.type "enumerate") _ _)))); (walk1; try dsimp only))))
          refine pretty_spec (W.keeps F9'.keep) (roomU hu (by decide)) (roomD hd (by decide)) hh ⟨hw, o1⟩ ?_
          intro h10 tk10 t10 k10
          have F10 := fr_stays F9' k10
          have N10 := news_stays N9' k10
          clear k10 F9' N9'
          dsimp only
          (repeat' (first | ((with_reducible refine ⟨(by k_in : Frag.In _ _), ?_⟩); (try dsimp only [List.nil_append, List.cons_append])) | ((fail_if_success k_end); (fail_if_success (with_reducible (first | show At (call (.ref _) _ _) | show At (exec (.While _ _ _ _) _) | show At (exec (.For _ _ _ _ _) _) | show At (call (.type "range") _ _) | show At (pyIter _) | show At (eval (.ListComp _ _ _ _) _) | show At (eval (.DictComp _ _ _ _ _) _) | show At (subscriptTail _ _ _ _) | (show At (compareOp _ _ _); fail_if_success show At (compareOp _ (.int _ _) (.int _ _))) | show At (setItem _ _ _) | show At (call (.builtin _) _ _) | show At (exec (.Assign _ (.ListComp _ _ _ _) _) _) | show At (call (.type "enumerate") _ _)))); (walk1; try dsimp only))))
          obtain ⟨sp1, sp2⟩ := split_pretty worth o1 hw
          refine KSpl.split1 F10 N10 (by decide) ?_ (by rw [sizeLine_eq]; omega)
          intro D l h11 k11 el sl F11 N11 l11
          clear F10 N10
          rw [sp1] at el
          rw [el] at sl
          dsimp only
          (repeat' (first | ((with_reducible refine ⟨(by k_in : Frag.In _ _), ?_⟩); (try dsimp only [List.nil_append, List.cons_append])) | ((fail_if_success k_end); (fail_if_success (with_reducible (first | show At (call (.ref _) _ _) | show At (exec (.While _ _ _ _) _) | show At (exec (.For _ _ _ _ _) _) | show At (call (.type "range") _ _) | show At (pyIter _) | show At (eval (.ListComp _ _ _ _) _) | show At (eval (.DictComp _ _ _ _ _) _) | show At (subscriptTail _ _ _ _) | (show At (compareOp _ _ _); fail_if_success show At (compareOp _ (.int _ _) (.int _ _))) | show At (setItem _ _ _) | show At (call (.builtin _) _ _) | show At (exec (.Assign _ (.ListComp _ _ _ _) _) _) | show At (call (.type "enumerate") _ _)))); (walk1; try dsimp only))))
          with_reducible rename Fr _ _ _ _ => F8
          with_reducible rename News _ _ _ _ => N8
          refine hTW _ _ ⟨rfl, .mk F8 (news_sub N8 (by kcf_all)) (allR_strs sl) (by walk_at "m_lk") (by walk_at "m_lk") (by walk_at "m_lk") (by walk_at "m_lk") (by walk_at "m_lk") (by walk_at "m_lk") ?_ ?_⟩
          · exact (Nat.ne_of_lt (l11 _ (.head _))).symm
          · exact (Nat.ne_of_lt (l11 _ (.tail _ (.head _)))).symm
      · rintro s' St
        cases St with
        | mk F N hW m1 m2 m3 m4 m5 m6 d1 d2 =>
        rename_i hF tkF mF D ws kD tpF
        (repeat' (first | ((with_reducible refine ⟨(by k_in : Frag.In _ _), ?_⟩); (try dsimp only [List.nil_append, List.cons_append])) | ((fail_if_success k_end); (fail_if_success (with_reducible (first | show At (call (.ref _) _ _) | show At (exec (.While _ _ _ _) _) | show At (exec (.For _ _ _ _ _) _) | show At (call (.type "range") _ _) | show At (pyIter _) | show At (eval (.ListComp _ _ _ _) _) | show At (eval (.DictComp _ _ _ _ _) _) | show At (subscriptTail _ _ _ _) | (show At (compareOp _ _ _); fail_if_success show At (compareOp _ (.int _ _) (.int _ _))) | show At (setItem _ _ _) | show At (call (.builtin _) _ _) | show At (exec (.Assign _ (.ListComp _ _ _ _) _) _) | show At (call (.type "enumerate") _ _)))); (walk1; try dsimp only))))
        refine wpAny_For ?_
        (repeat' (first | ((with_reducible refine ⟨(by k_in : Frag.In _ _), ?_⟩); (try dsimp only [List.nil_append, List.cons_append])) | ((fail_if_success k_end); (fail_if_success (with_reducible (first | show At (call (.ref _) _ _) | show At (exec (.While _ _ _ _) _) | show At (exec (.For _ _ _ _ _) _) | show At (call (.type "range") _ _) | show At (pyIter _) | show At (eval (.ListComp _ _ _ _) _) | show At (eval (.DictComp _ _ _ _ _) _) | show At (subscriptTail _ _ _ _) | (show At (compareOp _ _ _); fail_if_success show At (compareOp _ (.int _ _) (.int _ _))) | show At (setItem _ _ _) | show At (call (.builtin _) _ _) | show At (exec (.Assign _ (.ListComp _ _ _ _) _) _) | show At (call (.type "enumerate") _ _)))); (walk1; try dsimp only))))
        have hIhl0 : hF.objs.size ≠ hl := (Nat.ne_of_lt (Heap.lt_size (N _ (.head _)).1)).symm
        have hIlt : ∀ p ∈ items, p.1 ≠ hF.objs.size := fun p hp => Nat.ne_of_lt (Heap.lt_size (N p (.tail _ (.tail _ (.tail _ (.tail _ (.tail _ hp)))))).1)
        refine for_list (l := D) (vs := ws) (LFo s s.heap.objs.size r5 rl hl iw D hF.objs.size vs5 kr ws kD (rs ++ [.str path tp]) (kr' + 1) wv kw (bitsN worth) way path tpF rest)
          ?_ ?_ hh rfl rfl F N (.mk vs6 n6 items (fun p hp => ⟨(hit1 p hp).1, hIlt p hp⟩) (show AllR (InI items) vs6 (((bitsN worth).take 0).foldl (lsPush way path) rest) from hit2) m1 m2 m3 m4 m5) ?_ ?_
        · rintro i m rest' h ⟨vs, n', its, -, -, -, -, -, -, -⟩ F N
          exact ⟨_, (N _ (.tail _ (.tail _ (.tail _ (.head _))))).1, rfl, _, rfl⟩
        · rintro i m rest' ⟨vs, n', its, hits, -, -, -, -, -, -⟩ p hp
          rcases List.mem_cons.mp hp with rfl | hp
          · exact Nat.ne_of_lt (Heap.lt_size (N _ (.head _)).1)
          rcases List.mem_cons.mp hp with rfl | hp
          · exact Nat.ne_of_lt (Heap.lt_size (N _ (.tail _ (.head _))).1)
          rcases List.mem_cons.mp hp with rfl | hp
          · exact Nat.ne_of_lt (Heap.lt_size (N _ (.tail _ (.tail _ (.head _)))).1)
          rcases List.mem_cons.mp hp with rfl | hp
          · exact Nat.ne_of_lt (Heap.lt_size (N _ (.tail _ (.tail _ (.tail _ (.head _))))).1)
          rcases List.mem_cons.mp hp with rfl | hp
          · exact Nat.ne_of_lt (Heap.lt_size (N _ (.tail _ (.tail _ (.tail _ (.tail _ (.head _)))))).1)
          · exact (hits p hp).2
        · rintro i v m₁ rest' h tk o hi hv ⟨vs, n', its, hits, hI, m1, m2, m3, m4, m5⟩ F N
          refine hidePost fun T' hT' => ?_
          obtain ⟨wd, hwd, tw, rfl⟩ := hW.getV hv
          rw [List.getElem?_map] at hwd
          obtain ⟨kk, hkk, rfl⟩ := Option.map_eq_some_iff.mp hwd
          have hk7 := bitsN_lt (List.mem_of_getElem? hkk)
          obtain ⟨w1, w2, w3, w4⟩ := word_at kk hk7
          (repeat' (first | ((with_reducible refine ⟨(by k_in : Frag.In _ _), ?_⟩); (try dsimp only [List.nil_append, List.cons_append])) | ((fail_if_success k_end); (fail_if_success (with_reducible (first | show At (call (.ref _) _ _) | show At (exec (.While _ _ _ _) _) | show At (exec (.For _ _ _ _ _) _) | show At (call (.type "range") _ _) | show At (pyIter _) | show At (eval (.ListComp _ _ _ _) _) | show At (eval (.DictComp _ _ _ _ _) _) | show At (subscriptTail _ _ _ _) | (show At (compareOp _ _ _); fail_if_success show At (compareOp _ (.int _ _) (.int _ _))) | show At (setItem _ _ _) | show At (call (.builtin _) _ _) | show At (exec (.Assign _ (.ListComp _ _ _ _) _) _) | show At (call (.type "enumerate") _ _)))); (walk1; try dsimp only))))
          refine idx_strs (N (r5, listO vs5 kr) (.tail _ (.tail _ (.tail _ (.head _))))).1 hw5 (by decide) w1 w2 ?_
          dsimp only
          (repeat' (first | ((with_reducible refine ⟨(by k_in : Frag.In _ _), ?_⟩); (try dsimp only [List.nil_append, List.cons_append])) | ((fail_if_success k_end); (fail_if_success (with_reducible (first | show At (call (.ref _) _ _) | show At (exec (.While _ _ _ _) _) | show At (exec (.For _ _ _ _ _) _) | show At (call (.type "range") _ _) | show At (pyIter _) | show At (eval (.ListComp _ _ _ _) _) | show At (eval (.DictComp _ _ _ _ _) _) | show At (subscriptTail _ _ _ _) | (show At (compareOp _ _ _); fail_if_success show At (compareOp _ (.int _ _) (.int _ _))) | show At (setItem _ _ _) | show At (call (.builtin _) _ _) | show At (exec (.Assign _ (.ListComp _ _ _ _) _) _) | show At (call (.type "enumerate") _ _)))); (walk1; try dsimp only))))
          with_reducible rename Fr _ _ _ _ => F20
          with_reducible rename News _ _ _ _ => N20
          rename_i hA lA hB qA D20 ws20 hC hI20 qD
          refine join_spec (x := path) (y := wordK kk) (W.keeps F20.keep) (roomU hu (by decide)) (roomD hd (by decide)) hh ⟨o2, by omega⟩ ⟨by omega, w4⟩ ?_
          intro h23 tk23 t23 k23
          have F23 := fr_stays F20 k23
          have N23 := news_stays N20 k23
          clear k23 F20 N20
          dsimp only
          (repeat' (first | ((with_reducible refine ⟨(by k_in : Frag.In _ _), ?_⟩); (try dsimp only [List.nil_append, List.cons_append])) | ((fail_if_success k_end); (fail_if_success (with_reducible (first | show At (call (.ref _) _ _) | show At (exec (.While _ _ _ _) _) | show At (exec (.For _ _ _ _ _) _) | show At (call (.type "range") _ _) | show At (pyIter _) | show At (eval (.ListComp _ _ _ _) _) | show At (eval (.DictComp _ _ _ _ _) _) | show At (subscriptTail _ _ _ _) | (show At (compareOp _ _ _); fail_if_success show At (compareOp _ (.int _ _) (.int _ _))) | show At (setItem _ _ _) | show At (call (.builtin _) _ _) | show At (exec (.Assign _ (.ListComp _ _ _ _) _) _) | show At (call (.type "enumerate") _ _)))); (walk1; try dsimp only))))
          with_reducible rename Fr _ _ _ _ => F24
          with_reducible rename News _ _ _ _ => N24
          rename_i D24 h24 q24
          have hfold : lsPush way path (((bitsN worth).take i).foldl (lsPush way path) rest) kk = ((bitsN worth).take (i + 1)).foldl (lsPush way path) rest := by
            rw [List.take_add_one, hkk, List.foldl_append]
            rfl
          have zt := N24 (D24, _) (.head _)
          have zs := N24 (D20, _) (.tail _ (.head _))
          have okt : okA s.heap s.heap.objs.size hl rl D24 ∧ D24 ≠ hF.objs.size := ⟨⟨zt.2.2, zt.2.1, (Nat.ne_of_lt q24.2.2.2.1).symm, (Nat.ne_of_lt q24.2.2.2.2.1).symm⟩, (Nat.ne_of_lt q24.2.2.1).symm⟩
          have oks : okA s.heap s.heap.objs.size hl rl D20 ∧ D20 ≠ hF.objs.size := ⟨⟨zs.2.2, zs.2.1, (Nat.ne_of_lt qD.2.2.1).symm, (Nat.ne_of_lt qD.2.2.2.1).symm⟩, (Nat.ne_of_lt qD.2.1).symm⟩
          have okh : ∀ b, (okA s.heap s.heap.objs.size hl rl b ∧ b ≠ hF.objs.size) → b ≠ hl := fun b q => q.1.2.2.1
          have hnew : R3P (fun b => okA s.heap s.heap.objs.size hl rl b ∧ b ≠ hF.objs.size) (Heap.hide h24 hl) (.ref D24) (way ++ [-(kk : Int)], joinT path (wordK kk), kk) :=
            r3p_hide okh (.mk D24 D20 _ _ _ ws20 0 okt oks zt.1 zs.1 hI20)
          have hitk : ∀ p ∈ its, (okA s.heap s.heap.objs.size hl rl p.1 ∧ p.1 ≠ hF.objs.size) ∧ h24.get? p.1 = some p.2 := fun p hp =>
            ⟨hits p hp, (N24 p (.tail _ (.tail _ (.tail _ (.tail _ (.tail _ (.tail _ (.tail _ (.tail _ (.tail _ hp)))))))))).1⟩
          have ho7 := o7 i (by
            have := (List.getElem?_eq_some_iff.mp hkk).1
            have hb : (bitsN worth).length ≤ 7 := by
              unfold bitsN
              exact Nat.le_trans (List.length_filter_le _ _) (by simp)
            omega)
          refine heappush_spec (ordP w (fun b => okA s.heap s.heap.objs.size hl rl b ∧ b ≠ hF.objs.size)) (B := Heap.hide h24 hl) (vs := vs) (x := (way ++ [-(kk : Int)], joinT path (wordK kk), kk)) (W.keeps (stays_hide F24.keep e1.2)) stays_of_hide (Heap.hide_self _ _) (N24 (hl, listO vs n') (.tail _ (.tail _ (.tail _ (.tail _ (.head _)))))).1 (hI.imp fun v x q => r3p_hide okh (r3p_of hitk q)) hnew (roomU hu (by decide)) (roomD hd (by decide)) (by omega) ?_
          intro h25 tk25 vs25 n25 q25 e25 R25
          have k25 : (h24.hide hl).StaysIn h25 := StaysIn.trans (KB.stays_hide q25) stays_of_hide
          obtain ⟨its', its1, its2⟩ := items_of (R25.imp fun v x => (ordP w (fun b => okA s.heap s.heap.objs.size hl rl b ∧ b ≠ hF.objs.size)).mono k25)
          have F25 := fr_KB F24 e1.2 e1.1.symm q25
          have Ncore : News s.heap s.heap.objs.size h24 [(hl, listO vs n'), (hF.objs.size, o), (rl, listO (rs ++ [.str path tp]) (kr' + 1)), (r5, listO vs5 kr), (D, listO ws kD), (iw, listO wv kw)] := fun p hp => by
            rcases List.mem_cons.mp hp with rfl | hp
            · exact N24 _ (.tail _ (.tail _ (.tail _ (.tail _ (.head _)))))
            rcases List.mem_cons.mp hp with rfl | hp
            · exact N24 _ (.tail _ (.tail _ (.tail _ (.head _))))
            rcases List.mem_cons.mp hp with rfl | hp
            · exact N24 _ (.tail _ (.tail _ (.tail _ (.tail _ (.tail _ (.head _))))))
            rcases List.mem_cons.mp hp with rfl | hp
            · exact N24 _ (.tail _ (.tail _ (.tail _ (.tail _ (.tail _ (.tail _ (.head _)))))))
            rcases List.mem_cons.mp hp with rfl | hp
            · exact N24 _ (.tail _ (.tail _ (.tail _ (.tail _ (.tail _ (.tail _ (.tail _ (.head _))))))))
            · cases List.mem_singleton.mp hp
              exact N24 _ (.tail _ (.tail _ (.tail _ (.tail _ (.tail _ (.tail _ (.tail _ (.tail _ (.head _)))))))))
          have hIhl : hF.objs.size ≠ hl := hIhl0
          have N25c := news_KB Ncore (fun p hp => by
            rcases List.mem_cons.mp hp with rfl | hp
            · exact hIhl
            rcases List.mem_cons.mp hp with rfl | hp
            · exact hrn
            rcases List.mem_cons.mp hp with rfl | hp
            · exact hr5.2.symm
            rcases List.mem_cons.mp hp with rfl | hp
            · exact d1
            · cases List.mem_singleton.mp hp
              exact ok2.2.2.1) q25 e25
          have N25 : News s.heap s.heap.objs.size h25 ((hF.objs.size, o) :: (hl, listO vs25 n25) :: (rl, listO (rs ++ [.str path tp]) (kr' + 1)) :: (r5, listO vs5 kr) :: (D, listO ws kD) :: (iw, listO wv kw) :: its') := fun p hp => by
            rcases List.mem_cons.mp hp with rfl | hp
            · exact N25c _ (.tail _ (.head _))
            rcases List.mem_cons.mp hp with rfl | hp
            · exact N25c _ (.head _)
            rcases List.mem_cons.mp hp with rfl | hp
            · exact N25c _ (.tail _ (.tail _ (.head _)))
            rcases List.mem_cons.mp hp with rfl | hp
            · exact N25c _ (.tail _ (.tail _ (.tail _ (.head _))))
            rcases List.mem_cons.mp hp with rfl | hp
            · exact N25c _ (.tail _ (.tail _ (.tail _ (.tail _ (.head _)))))
            rcases List.mem_cons.mp hp with rfl | hp
            · exact N25c _ (.tail _ (.tail _ (.tail _ (.tail _ (.tail _ (.head _))))))
            · exact ⟨(its1 p hp).2, (its1 p hp).1.1.2.1, (its1 p hp).1.1.1⟩
          clear N25c Ncore F24 N24
          dsimp only
          (repeat' (first | ((with_reducible refine ⟨(by k_in : Frag.In _ _), ?_⟩); (try dsimp only [List.nil_append, List.cons_append])) | ((fail_if_success k_end); (fail_if_success (with_reducible (first | show At (call (.ref _) _ _) | show At (exec (.While _ _ _ _) _) | show At (exec (.For _ _ _ _ _) _) | show At (call (.type "range") _ _) | show At (pyIter _) | show At (eval (.ListComp _ _ _ _) _) | show At (eval (.DictComp _ _ _ _ _) _) | show At (subscriptTail _ _ _ _) | (show At (compareOp _ _ _); fail_if_success show At (compareOp _ (.int _ _) (.int _ _))) | show At (setItem _ _ _) | show At (call (.builtin _) _ _) | show At (exec (.Assign _ (.ListComp _ _ _ _) _) _) | show At (call (.type "enumerate") _ _)))); (walk1; try dsimp only))))
          refine hT' _ _ ⟨_, _, _, _, rfl, F25, N25, .mk vs25 n25 its' (fun p hp => (its1 p hp).1) ?_ (by walk_at "m_lk") (by walk_at "m_lk") (by walk_at "m_lk") (by walk_at "m_lk") (by walk_at "m_lk")⟩
          rw [← hfold]
          exact its2
        · rintro m rest' h tk ⟨vs, n', its, hits, hI, m1, m2, m3, m4, m5⟩ F N
          have hwl : (bitsN worth).length = ws.length := by have := hW.1; simp at this; exact this.symm
          rw [← hwl, List.take_length] at hI
          (repeat' (first | ((with_reducible refine ⟨(by k_in : Frag.In _ _), ?_⟩); (try dsimp only [List.nil_append, List.cons_append])) | ((fail_if_success k_end); (fail_if_success (with_reducible (first | show At (call (.ref _) _ _) | show At (exec (.While _ _ _ _) _) | show At (exec (.For _ _ _ _ _) _) | show At (call (.type "range") _ _) | show At (pyIter _) | show At (eval (.ListComp _ _ _ _) _) | show At (eval (.DictComp _ _ _ _ _) _) | show At (subscriptTail _ _ _ _) | (show At (compareOp _ _ _); fail_if_success show At (compareOp _ (.int _ _) (.int _ _))) | show At (setItem _ _ _) | show At (call (.builtin _) _ _) | show At (exec (.Assign _ (.ListComp _ _ _ _) _) _) | show At (call (.type "enumerate") _ _)))); (walk1; try dsimp only))))
          refine hT _ _ ⟨K - (k + 1), by omega, k + 1, hlt, rfl, .mk F (news_sub N (by kcf_all)) ?_ ?_ m1 m2 m3⟩
          · rw [hstep]
            exact hI.imp fun v x q => r3p_of (fun p hp => ⟨(hits p hp).1, (N p (.tail _ (.tail _ (.tail _ (.tail _ (.tail _ hp)))))).1⟩) q
          · rw [hstep]
            exact hR.push ⟨tp, rfl⟩
  · rintro s' St
    cases St with
    | mk F N hH hR h1 h2 h3 =>
    rename_i h tk m vs nH rs kr'
    (repeat' (first | ((with_reducible refine ⟨(by k_in : Frag.In _ _), ?_⟩); (try dsimp only [List.nil_append, List.cons_append])) | ((fail_if_success k_end); (fail_if_success (with_reducible (first | show At (call (.ref _) _ _) | show At (exec (.While _ _ _ _) _) | show At (exec (.For _ _ _ _ _) _) | show At (call (.type "range") _ _) | show At (pyIter _) | show At (eval (.ListComp _ _ _ _) _) | show At (eval (.DictComp _ _ _ _ _) _) | show At (subscriptTail _ _ _ _) | (show At (compareOp _ _ _); fail_if_success show At (compareOp _ (.int _ _) (.int _ _))) | show At (setItem _ _ _) | show At (call (.builtin _) _ _) | show At (exec (.Assign _ (.ListComp _ _ _ _) _) _) | show At (call (.type "enumerate") _ _)))); (walk1; try dsimp only))))
    have z := N (rl, listO rs kr') (.tail _ (.head _))
    exact hQ _ _ _ rs F.keep ⟨z.2.2, kr', z.1⟩ hR
section
open PyProof.Rows.LCg
/-- what is known when the iterable of [elt for a, b in enumerate(list)] is made -/
structure EnumPack (w : World) (A : Around) (s : Shared) (h₀ : Heap) (L : Addr) (m : Str → Option Value) (env : Env) (elt : PySem.Expr) (a b : Str) (scope : Scope) (cl : List (Str × Addr)) (y : Str) (Q : Flow → Shared → Prop)
    (Inv : Nat → List Value → Prop) (items : Array Value) (l : Addr) (ol : Obj) (news : List (Addr × Obj)) (e it : Addr) (h₁ : Heap) : Prop where
  sz : items.size < 1000
  hol : ∀ h : Heap, h.get? l = some ol → h.IsList l items
  mem : (l, ol) ∈ news
  turn : ∀ i x ys, items[i]? = some x → Inv i ys → ∀ (t : Tok) e oe it oit C oC D m₂ h tk (E' : Value → Shared → Prop), NsObj oC m₂ → m₂ a = some (.int i t) → m₂ b = some x → Fr h₀ L h m → News h₀ L h ((e, oe) :: (it, oit) :: (C, oC) :: (D, lst ys) :: news) →
      wpAny (model PR w) A (eval elt (compEnvC scope cl C env)) (fun y s' => ∃ h' tk', s' = { s with heap := h', toks := tk' } ∧ Fr h₀ L h' m ∧ News h₀ L h' ((e, oe) :: (it, oit) :: (C, oC) :: (D, lst ys) :: news) ∧ Inv (i + 1) (ys ++ [y])) E' { s with heap := h, toks := tk }
  start : Inv 0 []
  fin : ∀ ys D h tk, Inv items.size ys → Fr h₀ L h (fun z => if z = y then some (.ref D) else m z) → News h₀ L h ((D, lst ys) :: news) → (∀ p ∈ news, p.1 < D) → Q .next { s with heap := h, toks := tk }
  en : ∃ old, IsEnum h₁ e it 0 old
  iter : h₁.IsListIter it l 0
  ne : e ≠ it
  fr : Fr h₀ L h₁ m
  nw : News h₀ L h₁ news
  fe : h₀.get? e = none
  fi : h₀.get? it = none
  le : L ≠ e
  li : L ≠ it
  off : ∀ p ∈ news, p.1 ≠ e ∧ p.1 ≠ it
/-- [elt for a, b in enumerate(list)] with a fixed ledger -/
inductive EnI (h₀ : Heap) (L : Addr) (m : Str → Option Value) (news : List (Addr × Obj)) (Inv : Nat → List Value → Prop) (items : Array Value) (e it l D C : Addr) (s : Shared) : Nat → Shared → Prop
  | mk {h' : Heap} {tk i : Nat} {ys : List Value} {m' : Str → Option Value} (hi : i ≤ items.size) (hyl : ys.length = i) (a1 : ∃ old, IsEnum h' e it ((i : Nat) : Int) old) (a2 : h'.IsListIter it l i) (a3 : h'.IsList l items) (F : Fr h₀ L h' m) (hn : h'.Ns C m') (N : News h₀ L h' ((D, lst ys) :: news)) (hI : Inv i ys) :
    EnI h₀ L m news Inv items e it l D C s (items.size + 1 - i) { s with heap := h', toks := tk }
theorem comp_enum {w : World} {A : Around} {E : Value → Shared → Prop} {s : Shared} {h₀ : Heap} {L : Addr} {m : Str → Option Value} {env : Env} {elt iter : PySem.Expr} {a b y : Str} {pa pb py tp : Pos} {kk : Nat} {scope : Scope} {cl : List (Str × Addr)} {pos spos : Pos} {Q : Flow → Shared → Prop}
    (hLe : env.locals = L) (hsw : swapsWith (.ListComp elt [⟨.Tuple [.Name a pa, .Name b pb] kk tp, iter, [], 0⟩] scope pos) (some (.Name y py)) spos.line env = pure true)
    (hh : A.handled = none) (hclos : closureFor scope env = pure cl) (hcell : ∀ y ∈ scope.names, y.2 ≠ .cell) (hkind : scope.kind = .function)
    (hnames : ∀ y ∈ scope.names, y.2 = .local → scope.names.lookup y.1 = some .local) (hxa : scope.names.lookup a = some .local) (hxb : scope.names.lookup b = some .local) (hab : ¬ a = b)
    (hy : env.kindOf y = some .local) (hp : (env.scope.kind == .class || (env.scope.kind == .module && env.locals != env.globals)) = false)
    (h : wpAny (model PR w) A (eval iter env) (fun xv s₁ => ∃ Inv items l ol news e it h₁ tk₁, xv = .ref e ∧ s₁ = { s with heap := h₁, toks := tk₁ } ∧ EnumPack w A s h₀ L m env elt a b scope cl y Q Inv items l ol news e it h₁) E s)
    (hs : ∀ x, foldedSetIterable iter env x = pure x := by intro _; rfl) :
    wpAny (model PR w) A (exec (.Assign [.Name y py] (.ListComp elt [⟨.Tuple [.Name a pa, .Name b pb] kk tp, iter, [], 0⟩] scope pos) spos) env) Q E s := by
  subst hLe
  rw [exec_Assign_Name_used _ _ _ _ hsw]
  refine wpAny_bind (wpAny_standAt (wpAny_bind ?_))
  show wpAny _ A (do let _ ← comprehension (.ListComp elt [⟨.Tuple [.Name a pa, .Name b pb] kk tp, iter, [], 0⟩] scope pos) scope env _ (newList []) false (eval iter env) (some (assign (.Name y py) env))) _ _ s
  refine wpAny_bind (wpAny_mono (wpAny_comprehension_free (use := some (assign (.Name y py) env)) (Q := fun _ s' => Q .next s') rfl hs hclos hkind hnames
    (wpAny_mono h (fun xv s₁ h₁ => ?_) fun _ _ e => e)) (fun _ s' hq => wpAny_pure (wpAny_pure hq)) fun _ _ e => e)
  obtain ⟨Inv, items, l, ol, news, e, it, g₀, tk₀, rfl, rfl, hsz, hol, hlm, turn, h0, hQ, ⟨old, he⟩, hit, hei, F, N, e0, it0, Le, Li, off⟩ := h₁
  have hlg : g₀.get? l = some ol := (N _ hlm).1
  have hle : l ≠ e := (off _ hlm).1
  have hli : l ≠ it := (off _ hlm).2
  have W := WalksT.enumerate (prog := PR) (w := w) hh e it l hei hle hli items
  refine wpAny_pyIter_enum he ?_
  refine wpAny_newObj_type (wpAny_newFunctionEnv hcell (by intro y hy; simp at hy) (fun h₁ hns₁ hsb₁ => ?_) hkind)
  dsimp only at hns₁ hsb₁ ⊢
  generalize hH2 : g₀.push { cls := .type "list", dict := none, data := .seq ([] : List Value).toArray } = H2 at hns₁ hsb₁ ⊢
  have hC : H2.objs.size = g₀.objs.size + 1 := by rw [← hH2, Heap.size_push]
  have below : ∀ b o, g₀.get? b = some o → b ≠ H2.objs.size ∧ b ≠ g₀.objs.size := fun b o q => by
    have := Heap.lt_size q
    exact ⟨by rw [hC]; exact Nat.ne_of_lt (Nat.lt_succ_of_lt this), Nat.ne_of_lt this⟩
  have hDC : g₀.objs.size ≠ H2.objs.size := by rw [hC]; exact Nat.ne_of_lt (Nat.lt_succ_self _)
  have old' : ∀ b o, g₀.get? b = some o → h₁.get? b = some o := fun b o q => hsb₁.extBut b o (below b o q).1 (Heap.get?_push_of_some _ (hH2 ▸ Heap.get?_push_of_some _ q))
  have hacc : h₁.get? g₀.objs.size = some (lst []) := hsb₁.extBut _ _ hDC (Heap.get?_push_of_some _ (hH2 ▸ Heap.get?_push_size _ rfl))
  have fresh₀ : ∀ a, g₀.objs.size ≤ a → h₀.get? a = none := fun a ha => by
    cases q : h₀.get? a with
    | none => rfl
    | some o' => exact absurd (Heap.lt_size (F.keep a o' q)) (Nat.not_lt.mpr ha)
  have hD₀ : h₀.get? g₀.objs.size = none := fresh₀ _ (Nat.le_refl _)
  have hC₀ : h₀.get? H2.objs.size = none := fresh₀ _ (by rw [hC]; exact Nat.le_succ _)
  have hLlt : env.locals < g₀.objs.size := F.ns.lt
  have hDL : g₀.objs.size ≠ env.locals := (Nat.ne_of_lt hLlt).symm
  have hCL : H2.objs.size ≠ env.locals := by rw [hC]; exact (Nat.ne_of_lt (Nat.lt_succ_of_lt hLlt)).symm
  have eC : e ≠ H2.objs.size ∧ e ≠ g₀.objs.size := below _ _ he
  have iC : it ≠ H2.objs.size ∧ it ≠ g₀.objs.size := by obtain ⟨o, q, _⟩ := hit; exact below _ _ q
  have newsC : ∀ p ∈ news, p.1 ≠ H2.objs.size ∧ p.1 ≠ g₀.objs.size := fun p hp => below _ _ (N p hp).1
  have newsLt : ∀ p ∈ news, p.1 < g₀.objs.size := fun p hp => Heap.lt_size (N p hp).1
  have hst₁ : (∃ old, IsEnum h₁ e it ((0 : Nat) : Int) old) ∧ h₁.IsListIter it l 0 ∧ h₁.IsList l items := ⟨⟨old, old' _ _ he⟩, hit.at fun o q => old' _ _ q, hol _ (old' _ _ hlg)⟩
  have loop : codeAny (model PR w) A (.compLoop (.ListComp elt [⟨.Tuple [.Name a pa, .Name b pb] kk tp, iter, [], 0⟩] scope pos) 0 (.ref e) (.ref g₀.objs.size) (compEnvC scope cl H2.objs.size env))
      (compPost (model PR w) A E (some (assign (.Name y py) env)) (fun _ s' => Q .next s') (.ref g₀.objs.size) H2.objs.size) { s with heap := h₁, toks := tk₀ + ([] : List (Str × Value)).length } := by
    refine kcp_loop (EnI h₀ env.locals m news Inv items e it l g₀.objs.size H2.objs.size s) ?_ (items.size + 1)
      (.mk (i := 0) (ys := []) (Nat.zero_le _) rfl hst₁.1 hst₁.2.1 hst₁.2.2 (F.keeps old') hns₁ (fun p hp => ?_) h0)
    · intro k s' hE
      cases hE with | @mk h' tk i ys m' hi hyl a1 a2 a3 F' hn' N' hI
      have hst := And.intro a1 (And.intro a2 a3)
      by_cases hlt : i < items.size
      · refine W.item i _ _ _ hlt hst fun T vals h₂ tk₂ hP hTle hT hM hk₂ => ?_
        obtain ⟨t, x, hx, rfl⟩ := hP
        refine W.go _ _ _ i T _ _ _ hM fun h₃ hst₃ hk₃ => ?_
        have hTwr := W.apart i T _ hM
        have up₃ : ∀ c o, c ≠ e → c ≠ it → h'.get? c = some o → h₃.get? c = some o := fun c o q1 q2 q => hk₃ c o (by simp [q1, q2]) (hk₂ c o (by simp [q1, q2]) q)
        have hT₃ : h₃.IsTuple T #[.int i t, x] := by
          obtain ⟨o, q, r⟩ := hT
          exact ⟨o, hk₃ _ _ hTwr q, r⟩
        refine kcp_assign (env := compEnvC scope cl H2.objs.size env) hh hT₃ (lookup_relabel_local hxa) (lookup_relabel_local hxb) (by simp [compEnvC, relabel, hkind]) (hn'.at' fun o q => up₃ _ o (Ne.symm eC.1) (Ne.symm iC.1) q) fun h₄ tk₄ hn₄ hs₄ => ?_
        have up : ∀ c o, c ≠ e → c ≠ it → c ≠ H2.objs.size → h'.get? c = some o → h₄.get? c = some o := fun c o q1 q2 q3 q => hs₄ c o q3 (up₃ c o q1 q2 q)
        obtain ⟨⟨oo, he₃⟩, hit₃, hl₃⟩ := hst₃
        obtain ⟨oit, git, hoit⟩ := hit₃
        obtain ⟨oC, heC, hoC⟩ := ns_obj hn₄
        have ge₄ := hs₄ e _ eC.1 he₃
        have gi₄ := hs₄ it _ iC.1 git
        have F₄ : Fr h₀ env.locals h₄ m := ⟨F'.ns.at' fun o q => up _ o Le Li (Ne.symm hCL) q, fun c o q => up c o (fun z => by rw [z, e0] at q; cases q) (fun z => by rw [z, it0] at q; cases q) (fun z => by rw [z, hC₀] at q; cases q) (F'.keep c o q), F'.above⟩
        have N₄ : News h₀ env.locals h₄ ((e, _) :: (it, oit) :: (H2.objs.size, oC) :: (g₀.objs.size, lst ys) :: news) := fun q hq => by
          rcases List.mem_cons.mp hq with rfl | hq
          · exact ⟨ge₄, Ne.symm Le, e0⟩
          rcases List.mem_cons.mp hq with rfl | hq
          · exact ⟨gi₄, Ne.symm Li, it0⟩
          rcases List.mem_cons.mp hq with rfl | hq
          · exact ⟨heC, hCL, hC₀⟩
          have z := N' q hq
          refine ⟨up _ _ ?_ ?_ ?_ z.1, z.2⟩
          · rcases List.mem_cons.mp hq with rfl | hq
            · exact Ne.symm eC.2
            · exact (off q hq).1
          · rcases List.mem_cons.mp hq with rfl | hq
            · exact Ne.symm iC.2
            · exact (off q hq).2
          · rcases List.mem_cons.mp hq with rfl | hq
            · exact hDC
            · exact (newsC q hq).1
        refine wpAny_mono (turn i x ys hx hI t e _ it oit H2.objs.size oC g₀.objs.size _ h₄ _ _ hoC (by simp [hab]) (by simp) F₄ N₄) (fun yv s₅ h₅ => ?_) fun _ _ q => q
        obtain ⟨h₅, tk₅, rfl, F₅, N₅, hI₅⟩ := h₅
        have zE := (N₅ _ (.head _)).1
        have zI := (N₅ (it, oit) (.tail _ (.head _))).1
        have zC := (N₅ (H2.objs.size, oC) (.tail _ (.tail _ (.head _)))).1
        have zD := (N₅ (g₀.objs.size, lst ys) (.tail _ (.tail _ (.tail _ (.head _))))).1
        have zl := (N₅ (l, ol) (.tail _ (.tail _ (.tail _ (.tail _ hlm))))).1
        refine append_at (hsz := by show ys.toArray.size ≤ sizeLine; rw [List.size_toArray, hyl, sizeLine_eq]; omega) zD fun h₆ hs₆ hD₆ => ?_
        refine ⟨items.size + 1 - (i + 1), by omega, .mk (i := i + 1) hlt (by rw [List.length_append, List.length_singleton, hyl]) ⟨oo, hs₆.extBut _ _ eC.2 zE⟩ ⟨oit, hs₆.extBut _ _ iC.2 zI, hoit⟩ (hol _ (hs₆.extBut _ _ (newsC _ hlm).2 zl))
          (F₅.change hs₆ hDL hD₀) ((hoC.ns zC).sameBut hs₆ (Ne.symm hDC)) (fun q hq => ?_) hI₅⟩
        rcases List.mem_cons.mp hq with rfl | hq
        · exact ⟨hD₆.trans (congrArg some (lst_snoc ys yv)), hDL, hD₀⟩
        · have z := N₅ q (.tail _ (.tail _ (.tail _ (.tail _ hq))))
          exact ⟨hs₆.extBut _ _ (newsC q hq).2 z.1, z.2⟩
      · have hin : i = items.size := Nat.le_antisymm hi (Nat.not_lt.mp hlt)
        subst hin
        refine W.done _ _ _ hst fun h₂ tk₂ hk₂ => ?_
        have up₂ : ∀ c o, c ≠ e → c ≠ it → h'.get? c = some o → h₂.get? c = some o := fun c o q1 q2 q => hk₂ c o (by simp [q1, q2]) q
        have F₂ : Fr h₀ env.locals h₂ m := ⟨F'.ns.at' fun o q => up₂ _ o Le Li q, fun c o q => up₂ c o (fun z => by rw [z, e0] at q; cases q) (fun z => by rw [z, it0] at q; cases q) (F'.keep c o q), F'.above⟩
        have N₂ : News h₀ env.locals h₂ ((g₀.objs.size, lst ys) :: news) := fun q hq => by
          have z := N' q hq
          refine ⟨up₂ _ _ ?_ ?_ z.1, z.2⟩
          · rcases List.mem_cons.mp hq with rfl | hq
            · exact Ne.symm eC.2
            · exact (off q hq).1
          · rcases List.mem_cons.mp hq with rfl | hq
            · exact Ne.symm iC.2
            · exact (off q hq).2
        have hn₂' : h₂.Ns H2.objs.size m' := hn'.at' fun o q => up₂ _ o (Ne.symm eC.1) (Ne.symm iC.1) q
        show wpAny _ A (assign (.Name y py) env (.ref g₀.objs.size)) _ _ _
        refine wpAny_assign_Name (wpAny_storeName_local hy F₂.ns (fun h₃ hn₃ hs₃ => ?_) hp)
        have hL₀ : h₀.get? env.locals = none := Heap.get?_none_of_le F₂.above
        have F₃ : Fr h₀ env.locals h₃ (fun z => if z = y then some (.ref g₀.objs.size) else m z) := ⟨hn₃, fun b o q => hs₃.extBut b o (fun z => by rw [z, hL₀] at q; cases q) (F₂.keep b o q), F₂.above⟩
        refine ⟨m', hn₂'.sameBut hs₃ hCL, fun h₄ hs₄ => hQ ys g₀.objs.size h₄ _ hI (F₃.change hs₄ hCL hC₀) (fun q hq => ?_) newsLt⟩
        have z : h₃.get? q.1 = some q.2 := hs₃.extBut _ _ (N₂ q hq).2.1 (N₂ q hq).1
        refine ⟨hs₄.extBut _ _ ?_ z, (N₂ q hq).2⟩
        rcases List.mem_cons.mp hq with rfl | hq
        · exact hDC
        · exact (newsC q hq).1
    · rcases List.mem_cons.mp hp with rfl | hp
      · exact ⟨hacc, hDL, hD₀⟩
      · exact ⟨old' _ _ (N p hp).1, (N p hp).2⟩
  exact codeAny_compStart_list loop (W.self 0 _ _ _ hst₁ loop)
end
/-- k steps more, all of them sound -/
noncomputable def lsChk : Nat → List It3 × List Str → Bool
  | 0, st => st.1.isEmpty
  | k + 1, st => lsOk st && lsChk k (lsStep st)
noncomputable def lsEnd : Nat → List It3 × List Str → List It3 × List Str
  | 0, st => st
  | k + 1, st => lsEnd k (lsStep st)
noncomputable def lsSt (n : Nat) : List It3 × List Str := ([([], Str.ofString "/", n)], [])
/-- the rows of a number -/
noncomputable def rowsT (n : Nat) : List Str := Str.ofString "/" :: wrT n
noncomputable def rdChk (b : Int) : List (Str × Int) → List Str → Bool
  | _, [] => true
  | c, p :: ps => rdOk c p && rdChk b (rdS b c p) ps
noncomputable def LsB (n : Nat) : Bool := decide (lsChk 26 (lsSt n) = true ∧ (lsEnd 26 (lsSt n)).2 = rowsT n)
theorem ls_a : ∀ k : Nat, k < 32 → LsB k = true := by decide +kernel
theorem ls_b : ∀ k : Nat, k < 32 → LsB (k + 32) = true := by decide +kernel
theorem ls_c : ∀ k : Nat, k < 32 → LsB (k + 64) = true := by decide +kernel
theorem ls_d : ∀ k : Nat, k < 32 → LsB (k + 96) = true := by decide +kernel
theorem ls_facts (n : Nat) (h : n < 128) : lsChk 26 (lsSt n) = true ∧ (lsEnd 26 (lsSt n)).2 = rowsT n := of_decide_eq_true (four (P := fun n => LsB n = true) ls_a ls_b ls_c ls_d n h)
abbrev RdF (n : Nat) : Prop := rdChk 2 (zeros (rowsT n)) ((rowsT n).drop 1).reverse = true ∧ rdChk 3 (zeros (rowsT n)) ((rowsT n).drop 1).reverse = true ∧
    kdpHas (rdRun 2 (zeros (rowsT n)) ((rowsT n).drop 1).reverse) (Str.ofString "/") = true ∧ kdpHas (rdRun 3 (zeros (rowsT n)) ((rowsT n).drop 1).reverse) (Str.ofString "/") = true ∧
    kdpLook (rdRun 2 (zeros (rowsT n)) ((rowsT n).drop 1).reverse) (Str.ofString "/") 0 = (n : Int) ∧ kdpLook (rdRun 3 (zeros (rowsT n)) ((rowsT n).drop 1).reverse) (Str.ofString "/") 0 = ((raT n : Nat) : Int)
noncomputable def RdB (n : Nat) : Bool := decide (RdF n)
theorem rd_a : ∀ k : Nat, k < 32 → RdB k = true := by decide +kernel
theorem rd_b : ∀ k : Nat, k < 32 → RdB (k + 32) = true := by decide +kernel
theorem rd_c : ∀ k : Nat, k < 32 → RdB (k + 64) = true := by decide +kernel
theorem rd_d : ∀ k : Nat, k < 32 → RdB (k + 96) = true := by decide +kernel
theorem rd_facts (n : Nat) (h : n < 128) : RdF n := of_decide_eq_true (four (P := fun n => RdB n = true) rd_a rd_b rd_c rd_d n h)
theorem hd_facts : ∀ n : Nat, n < 128 → (rowsT n).length < 100 ∧ ∀ p ∈ ((rowsT n).drop 1).reverse, p.length < 1000 ∧ 1 ≤ (headT p).length ∧ (headT p).length < 10000 := by decide +kernel
theorem lsEnd_step : ∀ (k : Nat) (st : List It3 × List Str), lsEnd k (lsStep st) = lsStep (lsEnd k st)
  | 0, _ => rfl
  | k + 1, st => lsEnd_step k (lsStep st)
theorem lsRun_end (n : Nat) : ∀ k, lsRun n k = lsEnd k (lsSt n)
  | 0 => rfl
  | k + 1 => by
    show lsStep (lsRun n k) = lsEnd k (lsStep (lsSt n))
    rw [lsRun_end n k, lsEnd_step]
theorem lsChk_ok : ∀ (k : Nat) (st : List It3 × List Str), lsChk k st = true → (lsEnd k st).1 = [] ∧ ∀ j, j < k → lsOk (lsEnd j st) = true
  | 0, st, h => ⟨List.isEmpty_iff.mp h, fun j hj => absurd hj (Nat.not_lt_zero j)⟩
  | k + 1, st, h => by
    simp only [lsChk, Bool.and_eq_true] at h
    obtain ⟨a, b⟩ := lsChk_ok k (lsStep st) h.2
    refine ⟨a, fun j hj => ?_⟩
    cases j with
    | zero => exact h.1
    | succ j => exact b j (by omega)
theorem ls_end {n : Nat} (hn : n < 128) : (lsRun n 26).1 = [] ∧ (∀ k, k < 26 → lsOk (lsRun n k) = true) ∧ (lsRun n 26).2 = rowsT n := by
  obtain ⟨a, b⟩ := ls_facts n hn
  obtain ⟨c, d⟩ := lsChk_ok 26 _ a
  rw [lsRun_end]
  exact ⟨c, fun k hk => by rw [lsRun_end]; exact d k hk, b⟩
theorem rdChk_ok (b : Int) : ∀ (ps : List Str) (c : List (Str × Int)), rdChk b c ps = true → ∀ i p, ps[i]? = some p → rdOk (rdRun b c (ps.take i)) p = true
  | [], _, _, i, p, e => by simp at e
  | q :: ps, c, h, i, p, e => by
    simp only [rdChk, Bool.and_eq_true] at h
    cases i with
    | zero => cases e; exact h.1
    | succ i => exact rdChk_ok b ps _ h.2 i p (by simpa using e)
theorem rd_ok {n : Nat} (hn : n < 128) : ∀ i p, ((rowsT n).drop 1).reverse[i]? = some p → p.length < 10000 ∧ (1 ≤ (headT p).length ∧ (headT p).length < 10000) ∧ rdOk (rdRun 2 (zeros (rowsT n)) (((rowsT n).drop 1).reverse.take i)) p = true ∧ rdOk (rdRun 3 (zeros (rowsT n)) (((rowsT n).drop 1).reverse.take i)) p = true := fun i p e => by
  obtain ⟨a, b, -⟩ := rd_facts n hn
  obtain ⟨-, c⟩ := hd_facts n hn
  obtain ⟨c1, c2, c3⟩ := c p (List.mem_of_getElem? e)
  exact ⟨by omega, ⟨c2, c3⟩, rdChk_ok 2 _ _ a i p e, rdChk_ok 3 _ _ b i p e⟩
noncomputable def depthT (n : Nat) : List Int := ((rowsT n).drop 1).map fun p => Txt.count p (Str.ofString "/")
theorem depth_up : ∀ n : Nat, n < 127 → ltL (depthT n) (depthT (n + 1)) = true := by decide +kernel
theorem ltL_trans : ∀ {a b c : List Int}, ltL a b = true → ltL b c = true → ltL a c = true
  | [], [], [], h1, _ => by simp [ltL] at h1
  | [], _ :: _, [], _, h2 => by simp [ltL] at h2
  | [], _, _ :: _, _, _ => by simp [ltL]
  | _ :: _, [], _, h1, _ => by simp [ltL] at h1
  | x :: xs, y :: ys, [], _, h2 => by simp [ltL] at h2
  | x :: xs, y :: ys, z :: zs, h1, h2 => by
    simp only [ltL] at h1 h2 ⊢
    by_cases e1 : x = y
    · subst e1
      by_cases e2 : x = z
      · rw [if_pos e2]
        rw [if_pos rfl] at h1
        rw [if_pos e2] at h2
        exact ltL_trans h1 h2
      · rw [if_neg e2] at h2 ⊢
        exact h2
    · rw [if_neg e1] at h1
      have h1 := of_decide_eq_true h1
      by_cases e2 : y = z
      · subst e2
        rw [if_neg e1]
        exact decide_eq_true h1
      · rw [if_neg e2] at h2
        have h2 := of_decide_eq_true h2
        rw [if_neg (by omega)]
        exact decide_eq_true (by omega)
theorem ltL_irrefl : ∀ a : List Int, ltL a a = false
  | [] => rfl
  | x :: xs => by simp only [ltL, if_pos rfl]; exact ltL_irrefl xs
theorem depth_lt : ∀ (j a : Nat), a + (j + 1) < 128 → ltL (depthT a) (depthT (a + (j + 1))) = true
  | 0, a, h => depth_up a (by omega)
  | j + 1, a, h => ltL_trans (depth_lt j a (by omega)) (depth_up (a + (j + 1)) (by omega))
/-- what the law's heap holds for a number -/
noncomputable def itemT (n : Nat) : It2 := (depthT n, ((raT n : Nat) : Int))
theorem lt2_item {a b : Nat} (ha : a < 128) (hb : b < 128) : lt2 (itemT a) (itemT b) = decide (a < b) := by
  unfold lt2 itemT
  rcases Nat.lt_trichotomy a b with h | h | h
  · have z := depth_lt (b - a - 1) a (by omega)
    rw [show a + (b - a - 1 + 1) = b by omega] at z
    have hne : depthT a ≠ depthT b := fun q => by rw [q, ltL_irrefl] at z; cases z
    simp [hne, z, h]
  · subst h
    simp
  · have z := depth_lt (a - b - 1) b (by omega)
    rw [show b + (a - b - 1 + 1) = a by omega] at z
    have hne : depthT a ≠ depthT b := fun q => by rw [q, ltL_irrefl] at z; cases z
    have hno : ltL (depthT a) (depthT b) = false := by
      cases q : ltL (depthT a) (depthT b) with
      | false => rfl
      | true => have := ltL_trans z q; rw [ltL_irrefl] at this; cases this
    have : ¬ a < b := by omega
    simp [hne, hno, this]
set_option linter.unusedSimpArgs false
/-- one pop -/
noncomputable def pop1 {α : Type} (lt : α → α → Bool) (xs : List α) : Option (α × List α) := match xs.reverse with
  | [] => none
  | x :: ys => if ys.length < 900 then some (hpop lt ys.reverse x) else none
theorem pop1_spec {α : Type} {lt : α → α → Bool} {xs : List α} {p : α × List α} (e : pop1 lt xs = some p) : ∃ ys x, xs = ys ++ [x] ∧ ys.length < 900 ∧ hpop lt ys x = p := by
  unfold pop1 at e
  cases h : xs.reverse with
  | nil => rw [h] at e; cases e
  | cons x ys =>
    rw [h] at e
    dsimp only at e
    by_cases q : ys.length < 900
    · rw [if_pos q] at e
      refine ⟨ys.reverse, x, ?_, by rw [List.length_reverse]; exact q, Option.some.inj e⟩
      rw [← List.reverse_reverse xs, h, List.reverse_cons]
    · rw [if_neg q] at e; cases e
/-- the three pops of the heapified three -/
noncomputable def pops3 {α : Type} (lt : α → α → Bool) (x y z : α) : Option (List α) := (pop1 lt (siftup lt 0 [x, y, z])).bind fun a => (pop1 lt a.2).bind fun b => (pop1 lt b.2).bind fun c => some [a.1, b.1, c.1]
theorem pops3_run {α : Type} {lt : α → α → Bool} {a b c : α} {os : List α} (e : pops3 lt a b c = some os) :
    ∃ st : Nat → List α, st 0 = siftup lt 0 [a, b, c] ∧ ∀ i o, os[i]? = some o → ∃ ys x, st i = ys ++ [x] ∧ ys.length < 900 ∧ hpop lt ys x = (o, st (i + 1)) := by
  unfold pops3 at e
  obtain ⟨p, hp, e⟩ := Option.bind_eq_some_iff.mp e
  obtain ⟨q, hq, e⟩ := Option.bind_eq_some_iff.mp e
  obtain ⟨r, hr, e⟩ := Option.bind_eq_some_iff.mp e
  cases e
  refine ⟨fun i => [siftup lt 0 [a, b, c], p.2, q.2, r.2].getD i [], rfl, fun i o h => ?_⟩
  rcases i with _ | _ | _ | i
  · cases h; exact pop1_spec hp
  · cases h; exact pop1_spec hq
  · cases h; exact pop1_spec hr
  · cases h
theorem pops3_eq {α : Type} {lt : α → α → Bool} {f : Nat → α} {a b c : Nat} (h : ∀ x y, x = a ∨ x = b ∨ x = c → y = a ∨ y = b ∨ y = c → lt (f x) (f y) = decide (x < y)) :
    ∃ x y z, pops3 lt (f a) (f b) (f c) = some [f x, f y, f z] ∧ x ≤ y ∧ y ≤ z ∧ [x, y, z].Perm [a, b, c] := by
  have ab := h a b (by simp) (by simp)
  have ac := h a c (by simp) (by simp)
  have ba := h b a (by simp) (by simp)
  have bc := h b c (by simp) (by simp)
  have ca := h c a (by simp) (by simp)
  have cb := h c b (by simp) (by simp)
  by_cases q1 : a < b <;> by_cases q2 : a < c <;> by_cases q3 : b < c <;> by_cases q4 : b < a <;> by_cases q5 : c < a <;> by_cases q6 : c < b <;> first
    | (exfalso; omega)
    | (simp only [q1, q2, q3, q4, q5, q6, decide_true, decide_false] at ab ac ba bc ca cb
       first
       | (refine ⟨a, b, c, ?_, by omega, by omega, .refl _⟩; simp [pops3, pop1, siftup, sup, sdown, hpop, ab, ac, ba, bc, ca, cb]; done)
       | (refine ⟨a, c, b, ?_, by omega, by omega, .cons _ (.swap ..)⟩; simp [pops3, pop1, siftup, sup, sdown, hpop, ab, ac, ba, bc, ca, cb]; done)
       | (refine ⟨b, a, c, ?_, by omega, by omega, .swap ..⟩; simp [pops3, pop1, siftup, sup, sdown, hpop, ab, ac, ba, bc, ca, cb]; done)
       | (refine ⟨b, c, a, ?_, by omega, by omega, (List.Perm.cons _ (.swap ..)).trans (.swap ..)⟩; simp [pops3, pop1, siftup, sup, sdown, hpop, ab, ac, ba, bc, ca, cb]; done)
       | (refine ⟨c, a, b, ?_, by omega, by omega, (List.Perm.swap ..).trans (.cons _ (.swap ..))⟩; simp [pops3, pop1, siftup, sup, sdown, hpop, ab, ac, ba, bc, ca, cb]; done)
       | (refine ⟨c, b, a, ?_, by omega, by omega, (List.Perm.swap ..).trans ((List.Perm.cons _ (.swap ..)).trans (.swap ..))⟩; simp [pops3, pop1, siftup, sup, sdown, hpop, ab, ac, ba, bc, ca, cb]; done)
       | (refine ⟨a, b, c, ?_, by omega, by omega, .refl _⟩; simp [pops3, pop1, siftup, sup, sdown, hpop, ab, ac, ba, bc, ca, cb]; (repeat' constructor) <;> (congr 1; omega))
       | (refine ⟨a, c, b, ?_, by omega, by omega, .cons _ (.swap ..)⟩; simp [pops3, pop1, siftup, sup, sdown, hpop, ab, ac, ba, bc, ca, cb]; (repeat' constructor) <;> (congr 1; omega))
       | (refine ⟨b, a, c, ?_, by omega, by omega, .swap ..⟩; simp [pops3, pop1, siftup, sup, sdown, hpop, ab, ac, ba, bc, ca, cb]; (repeat' constructor) <;> (congr 1; omega))
       | (refine ⟨b, c, a, ?_, by omega, by omega, (List.Perm.cons _ (.swap ..)).trans (.swap ..)⟩; simp [pops3, pop1, siftup, sup, sdown, hpop, ab, ac, ba, bc, ca, cb]; (repeat' constructor) <;> (congr 1; omega))
       | (refine ⟨c, a, b, ?_, by omega, by omega, (List.Perm.swap ..).trans (.cons _ (.swap ..))⟩; simp [pops3, pop1, siftup, sup, sdown, hpop, ab, ac, ba, bc, ca, cb]; (repeat' constructor) <;> (congr 1; omega))
       | (refine ⟨c, b, a, ?_, by omega, by omega, (List.Perm.swap ..).trans ((List.Perm.cons _ (.swap ..)).trans (.swap ..))⟩; simp [pops3, pop1, siftup, sup, sdown, hpop, ab, ac, ba, bc, ca, cb]; (repeat' constructor) <;> (congr 1; omega)))
/-- an item of the law's heap whose objects stand at good places -/
inductive R2P (ok : Addr → Prop) (h : Heap) : Value → It2 → Prop
  | mk (a aw : Addr) (x : It2) (tn : Tok) (vs : List Value) (k : Nat) (oa : ok a) (ow : ok aw) (ha : h.get? a = some (tupO [.ref aw, .int x.2 tn])) (hw : h.get? aw = some (listO vs k)) (hi : IntsAre vs x.1) : R2P ok h (.ref a) x
inductive InI2 (items : List (Addr × Obj)) : Value → It2 → Prop
  | mk (a aw : Addr) (x : It2) (tn : Tok) (vs : List Value) (k : Nat) (ha : (a, tupO [.ref aw, .int x.2 tn]) ∈ items) (hw : (aw, listO vs k) ∈ items) (hi : IntsAre vs x.1) : InI2 items (.ref a) x
theorem R2P.mono {ok : Addr → Prop} {h h' : Heap} {v : Value} {x : It2} (k : h.StaysIn h') (r : R2P ok h v x) : R2P ok h' v x := by
  obtain ⟨a, aw, _, tn, vs, n, oa, ow, ha, hw, hi⟩ := r
  exact .mk a aw _ tn vs n oa ow (k _ _ ha) (k _ _ hw) hi
theorem R2P.r2 {ok : Addr → Prop} {h : Heap} {v : Value} {x : It2} (r : R2P ok h v x) : R2 h v x := by
  obtain ⟨a, aw, _, tn, vs, n, oa, ow, ha, hw, hi⟩ := r
  exact .mk a aw _ tn vs n ha hw hi
noncomputable def ordQ (w : World) (ok : Addr → Prop) : Ord w It2 where
  R := R2P ok
  mono := R2P.mono
  lt := lt2
  cmp := fun {_ s _ _ _ _ Q} h1 h2 hu _ q => cmp2 h1.r2 h2.r2 hu PR w NE Q (q s.heap s.toks fun _ _ e => e)
theorem InI2.up {items more : List (Addr × Obj)} {v : Value} {x : It2} (k : ∀ p ∈ items, p ∈ more) (r : InI2 items v x) : InI2 more v x := by
  obtain ⟨a, aw, _, tn, vs, n, ha, hw, hi⟩ := r
  exact .mk a aw _ tn vs n (k _ ha) (k _ hw) hi
theorem items2_of {ok : Addr → Prop} {h : Heap} : ∀ {vs : List Value} {xs : List It2}, AllR (R2P ok h) vs xs → ∃ items : List (Addr × Obj), (∀ p ∈ items, ok p.1 ∧ h.get? p.1 = some p.2) ∧ AllR (InI2 items) vs xs := by
  intro vs
  induction vs with
  | nil =>
    intro xs h
    rw [List.eq_nil_of_length_eq_zero h.1.symm]
    exact ⟨[], fun _ z => (nomatch z), AllR.nil⟩
  | cons v vs ih =>
    intro xs h
    cases xs with
    | nil => exact absurd h.1 (by simp)
    | cons x xs =>
      obtain ⟨h1, hr⟩ := h.uncons
      obtain ⟨items, hk, hI⟩ := ih hr
      obtain ⟨a, aw, _, tn, ws, k, oa, ow, ha, hw, hi⟩ := h1
      refine ⟨(a, tupO [.ref aw, .int x.2 tn]) :: (aw, listO ws k) :: items, fun p hp => ?_, AllR.cons (hI.imp fun v x q => q.up fun p hp => .tail _ (.tail _ hp)) (.mk a aw _ tn ws k (.head _) (.tail _ (.head _)) hi)⟩
      rcases List.mem_cons.mp hp with rfl | hp
      · exact ⟨oa, ha⟩
      · rcases List.mem_cons.mp hp with rfl | hp
        · exact ⟨ow, hw⟩
        · exact hk p hp
theorem r2p_of {ok : Addr → Prop} {h : Heap} {items : List (Addr × Obj)} (hk : ∀ p ∈ items, ok p.1 ∧ h.get? p.1 = some p.2) {v : Value} {x : It2} (r : InI2 items v x) : R2P ok h v x := by
  obtain ⟨a, aw, _, tn, vs, k, ha, hw, hi⟩ := r
  exact .mk a aw _ tn vs k (hk _ ha).1 (hk _ hw).1 (hk _ ha).2 (hk _ hw).2 hi
theorem r2p_hide {ok : Addr → Prop} {h : Heap} {l : Addr} (hl : ∀ b, ok b → b ≠ l) {v : Value} {x : It2} (r : R2P ok h v x) : R2P ok (h.hide l) v x := by
  obtain ⟨a, aw, _, tn, vs, k, oa, ow, ha, hw, hi⟩ := r
  exact .mk a aw _ tn vs k oa ow ((Heap.hide_ne h (hl _ oa)).trans ha) ((Heap.hide_ne h (hl _ ow)).trans hw) hi
/-- lists of the same texts are equal -/
theorem same_strs : ∀ ws : List Str, PySem.Spec.sameAll (ws.map PyData.str) (ws.map PyData.str) = true
  | [] => by simp [PySem.Spec.sameAll]
  | x :: r => by simp [PySem.Spec.sameAll, PySem.Spec.same, same_strs r]
theorem lay_strs : ∀ {ws : List Str}, (∀ x ∈ ws, PyData.strOk x = true) → PyData.canLayAll0 (ws.map PyData.str) = true
  | [], _ => rfl
  | x :: r, h => by
    have h1 := h x (.head _)
    have h2 := lay_strs fun y hy => h y (.tail _ hy)
    simp [PyData.canLayAll0, PyData.canLay0, h1, h2]
theorem depth_strs : ∀ ws : List Str, PyData.depthAll (ws.map PyData.str) = 0
  | [] => rfl
  | _ :: r => by simp [PyData.depthAll, PyData.depth, depth_strs r]
theorem shaped_strs {ws : List Str} (h : ∀ x ∈ ws, PyData.strOk x = true) : SeqAt.shaped (.list (ws.map PyData.str)) = true := by
  simp [SeqAt.shaped, PyData.canLay0, PyData.depth, lay_strs h, depth_strs]
theorem carried_strs : ∀ {vs : List Value} {ws : List Str}, AllR IsStr vs ws → CarriedAll vs (ws.map PyData.str)
  | [], [], _ => .nil
  | [], _ :: _, h => absurd h.1 (by simp)
  | _ :: _, [], h => absurd h.1 (by simp)
  | v :: vs, x :: xs, h => by
    obtain ⟨⟨t, rfl⟩, hr⟩ := h.uncons
    exact .cons (.str x t) (carried_strs hr)
theorem ne_strs {w : World} {A : Around} {E : Value → Shared → Prop} {s : Shared} {a b : Addr} {xs ys : List Value} {ws : List Str} {Q : Value → Shared → Prop} (ha : s.heap.IsList a xs.toArray) (hb : s.heap.IsList b ys.toArray) (hi : AllR IsStr xs ws) (hj : AllR IsStr ys ws)
    (hok : ∀ x ∈ ws, PyData.strOk x = true) (hu : A.units + 64 < cLine) (h : Q (.bool false) s) : wpAny (model PR w) A (compareOp .NotEq (.ref a) (.ref b)) Q E s :=
  ne_dataH_same (reads_newData ha (carried_strs hi)) (reads_newData hb (carried_strs hj)) (shaped_strs hok) (shaped_strs hok) hu (SeqAt.noMix_of_shape (.list .str) rfl _ _ (list_map_has fun _ => rfl) (list_map_has fun _ => rfl)) (by
    simp only [PySem.Spec.same]
    rw [same_strs]
    exact h)
theorem rows_ok : ∀ n : Nat, n < 128 → ∀ x ∈ rowsT n, PyData.strOk x = true := by decide +kernel
theorem pick_from1 (vs : List Value) : (slicePick vs.toArray (some 1) none none).toList = vs.drop 1 := by
  rw [kms_pick_eq]
  show (vs.drop (min 1 vs.length)).take (vs.length - min 1 vs.length) = _
  rw [kmk_drop_min, List.take_of_length_le]
  rw [List.length_drop]
  exact Nat.sub_le_sub_left (Nat.min_le_left _ _) _
theorem slice_from1 {w : World} {A : Around} {E : Value → Shared → Prop} {h : Heap} {g : Array GenState} {d : Drawn} {tk : Nat} {os : OsState} {h₀ : Heap} {L l : Addr} {m : Str → Option Value} {news : List (Addr × Obj)} {value slice : PySem.Expr} {vs : List Value} {t0 : Tok} {Q : Value → Shared → Prop}
    (F : Fr h₀ L h m) (N : News h₀ L h news) (hl : h.IsList l vs.toArray)
    (hs : subscripted slice false (.ref l) (.ref h.objs.size) = operate [.ref h.objs.size, .ref l] (getItem (.ref l) (.ref h.objs.size))) (ht : ∀ r, letTemporaryGo value (.ref l) r = pure ()) (hz : vs.length < 10000)
    (k : ∀ D h', Fr h₀ L h' m → News h₀ L h' ((D, PySem.W.listOf (vs.drop 1).toArray 0) :: news) → (∀ p ∈ news, p.1 < D) → Q (.ref D) ⟨h', g, d, tk, os⟩) :
    wpAny (model PR w) A (subscriptTail value slice (.ref l) (.ref h.objs.size)) Q E ⟨h.push { cls := .type "slice", data := .fields #[.int 1 t0, .none, .none] }, g, d, tk, os⟩ :=
  kmk_slice_lit (s := ⟨h, g, d, tk, os⟩) (its := vs.toArray) (lo := some 1) (hi := none) F N hl (by kmk_part) (by kmk_part) (pick_from1 vs) k hs ht (by rw [List.size_toArray, sizeLine_eq]; omega)
/-- rising rows of the same numbers are one row -/
theorem rising_eq : ∀ {a b : List Int}, a.Perm b → a.Pairwise (· ≤ ·) → b.Pairwise (· ≤ ·) → a = b
  | [], b, p, _, _ => (List.nil_perm.mp p).symm
  | x :: a, [], p, _, _ => absurd p.length_eq (by simp)
  | x :: a, y :: b, p, ha, hb => by
    have hx := p.mem_iff.mp (List.mem_cons_self (a := x))
    have hy := p.mem_iff.mpr (List.mem_cons_self (a := y))
    have e : x = y := by
      rcases List.mem_cons.mp hx with q | q
      · exact q
      · rcases List.mem_cons.mp hy with q' | q'
        · exact q'.symm
        · exact Int.le_antisymm ((List.pairwise_cons.mp ha).1 _ q') ((List.pairwise_cons.mp hb).1 _ q)
    subst e
    rw [rising_eq p.cons_inv (List.pairwise_cons.mp ha).2 (List.pairwise_cons.mp hb).2]
theorem intsAre_of : ∀ {vs : List Value}, (∀ v ∈ vs, ∃ i t, v = .int i t) → ∃ ns, IntsAre vs ns
  | [], _ => ⟨[], .nil⟩
  | v :: vs, h => by
    obtain ⟨i, t, rfl⟩ := h v (.head _)
    obtain ⟨ns, hn⟩ := intsAre_of fun v hv => h v (.tail _ hv)
    exact ⟨i :: ns, .cons i t hn⟩
theorem ints_mem : ∀ {vs : List Value} {ns : List Int}, IntsAre vs ns → ∀ v ∈ vs, ∃ i t, v = .int i t
  | _, _, .nil, _, h => nomatch h
  | _, _, .cons i t r, v, h => by
    rcases List.mem_cons.mp h with rfl | h
    · exact ⟨i, t, rfl⟩
    · exact ints_mem r v h
theorem pick_ints {vs : List Value} {ns : List Int} (h : IntsAre vs ns) (lo hi st : Option Int) : ∃ ms, IntsAre (slicePick vs.toArray lo hi st).toList ms := by
  refine intsAre_of fun v hv => ?_
  unfold slicePick at hv
  generalize sliceBounds lo hi st vs.toArray.size = b at hv
  obtain ⟨b1, b2, b3⟩ := b
  simp only [List.mem_filterMap] at hv
  obtain ⟨i, -, e⟩ := hv
  exact ints_mem h v (by simpa using Array.mem_of_getElem? e)
inductive LwP (lh D9 hc dc it : Addr) (ys : List Value) (oh oc : Obj) (nn : List Nat) (i : Nat) (m : Str → Option Value) : List (Addr × Obj) → Prop
  | mk (vs : List Value) (n : Nat) (its : List (Addr × Obj)) (hits : ∀ p ∈ its, p.1 ≠ lh ∧ p.1 ≠ it) (hI : AllR (InI2 its) vs ((nn.take i).map itemT)) (m1 : m (Str.ofString "numbers") = some (.ref D9)) :
    LwP lh D9 hc dc it ys oh oc nn i m ((lh, listO vs n) :: (D9, LCg.lst ys) :: (hc, oh) :: (dc, oc) :: its)
inductive LwO (lh D9 hc dc : Addr) (ys : List Value) (oh oc : Obj) (st : Nat → List It2) (os : List Int) (i : Nat) (yy : List Value) : List (Addr × Obj) → Prop
  | mk (vs : List Value) (n : Nat) (its : List (Addr × Obj)) (hits : ∀ p ∈ its, p.1 ≠ lh) (hI : AllR (InI2 its) vs (st i)) (hyy : IntsAre yy (os.take i)) :
    LwO lh D9 hc dc ys oh oc st os i yy ((lh, listO vs n) :: (D9, LCg.lst ys) :: (hc, oh) :: (dc, oc) :: its)
theorem callerA_room (e : Env) : (callerA.deeper e).units + 1000 < cLine ∧ (callerA.deeper e).depth + 100 < recursionLimit :=
  ⟨by show callerA.units + 3 + 1000 < cLine; decide, by show callerA.depth + 1 + 100 < recursionLimit; decide⟩
theorem written_spec0 {w : World} {mean : ExcName → Option Value} {mg mb : Str → Option Value} {A : Around} {s : Shared} {t1 t2 : Tok} {Q : Value → Shared → Prop} {n : Nat} (hn : n < 128)
    (W : Wd w mean mg mb s.heap) (hu : A.units + 1000 < cLine) (hd : A.depth + 100 < recursionLimit) (hh : A.handled = none)
    (hQ : ∀ h' tk r vs, s.heap.StaysIn h' → NewL s.heap h' r vs → AllR IsStr vs (wrT n) → Q (.ref r) { s with heap := h', toks := tk }) :
    wpAny (model PR w) A (call (.ref 186) [.int n t1, .str (Str.ofString "") t2]) Q NE s := by
  rw [show Str.ofString "" = ⟨#[]⟩ by decide +kernel]
  exact written_spec hn W hu hd hh hQ
theorem AllR.tail1 {α : Type} {R : Value → α → Prop} {vs : List Value} {xs : List α} (h : AllR R vs xs) : AllR R (vs.drop 1) (xs.drop 1) :=
  ⟨by simp [h.1], fun i v x e1 e2 => h.2 (1 + i) v x (by rw [← List.getElem?_drop]; exact e1) (by rw [← List.getElem?_drop]; exact e2)⟩
theorem ints_at {vs : List Value} {ns : List Int} (h : IntsAre vs ns) : ∀ {i : Nat} {v : Value}, vs[i]? = some v → ∃ n t, ns[i]? = some n ∧ v = .int n t := by
  induction h with
  | nil => intro i v e; simp at e
  | cons n t _ ih =>
    intro i v e
    cases i with
    | zero => cases e; exact ⟨n, t, rfl, rfl⟩
    | succ i => exact ih (by simpa using e)
section
variable {w : World} {A : Around} {E : Value → Shared → Prop} {h : Heap} {g : Array GenState} {d : Drawn} {tk : Nat} {os : OsState} {h₀ : Heap} {L l : Addr} {m : Str → Option Value} {news : List (Addr × Obj)} {value slice : PySem.Expr} {vs : List Value} {ns : List Int} {Q : Value → Shared → Prop} {ops : List Value}
theorem slice_take12 {t0 : Tok} (F : Fr h₀ L h m) (N : News h₀ L h news) (hl : h.IsList l vs.toArray) (hI : IntsAre vs ns)
    (hs : subscripted slice false (.ref l) (.ref h.objs.size) = operate [.ref h.objs.size, .ref l] (getItem (.ref l) (.ref h.objs.size))) (ht : ∀ r, letTemporaryGo value (.ref l) r = pure ()) (hz : vs.length < 10000)
    (k : ∀ D ws h', Fr h₀ L h' m → News h₀ L h' ((D, PySem.W.listOf (List.toArray ws) 0) :: news) → (∀ p ∈ news, p.1 < D) → IntsAre ws (ns.take 12) → Q (.ref D) ⟨h', g, d, tk, os⟩) :
    wpAny (model PR w) A (subscriptTail value slice (.ref l) (.ref h.objs.size)) Q E ⟨h.push { cls := .type "slice", data := .fields #[.none, .int 12 t0, .none] }, g, d, tk, os⟩ :=
  kmk_slice_ints (s := ⟨h, g, d, tk, os⟩) (lo := none) (hi := some 12) (c := (ns.take 12).length) F N hl (by kmk_part) (by kmk_part) hI (kmk_upto hI (by decide)) rfl (fun D ws h' F' N' l1 hi _ _ => k D ws h' F' N' l1 hi) hs ht (by rw [List.size_toArray, sizeLine_eq]; omega)
theorem slice_step3 {i : Int} {t0 t1 : Tok} (F : Fr h₀ L h m) (N : News h₀ L h news) (hl : h.IsList l vs.toArray) (hI : IntsAre vs ns)
    (hs : subscripted slice false (.ref l) (.ref h.objs.size) = operate ops (getItem (.ref l) (.ref h.objs.size))) (ht : ∀ r, letTemporaryGo value (.ref l) r = pure ()) (hz : vs.length < 10000)
    (k : ∀ D ws ms h', Fr h₀ L h' m → News h₀ L h' ((D, PySem.W.listOf (List.toArray ws) 0) :: news) → (∀ p ∈ news, p.1 < D) → IntsAre ws ms → Q (.ref D) ⟨h', g, d, tk, os⟩) :
    wpAny (model PR w) A (subscriptTail value slice (.ref l) (.ref h.objs.size)) Q E ⟨h.push { cls := .type "slice", data := .fields #[.int i t0, .none, .int 3 t1] }, g, d, tk, os⟩ := by
  obtain ⟨ms, hm⟩ := pick_ints hI (some i) none (some 3)
  exact kmk_slice3_lit (s := ⟨h, g, d, tk, os⟩) (its := vs.toArray) (lo := some i) (hi := none) (st := some 3) F N hl (by kmk_part) (by kmk_part) (by kmk_part) (by decide) rfl (fun D h' F' N' l1 => k D _ ms h' F' N' l1 hm) hs ht (by rw [List.size_toArray, sizeLine_eq]; omega)
end
set_option maxHeartbeats 16000000 in
theorem law_holds : PySem.Challenge.rw_ik0179_01.Holds := Mine.hd (by
  w_strict (
    k_go0
    (all_goals try k_fold)
    refine wpAny_mono (E := NE) ?_ (fun _ _ q => q) (fun _ _ q => q.elim)
    rename_i w s₀ s₁ mg mb G Y fa o pm doc ho hg KX X V GL T B TE TW wa wb M wc wd hcd wI hs hlay0 hL1 hr1 hl2 we wf wg wv wh hLw ra w1 r0 hIw hr hc1 hc2 K0 hD h₁ tk₁ F c1 c2 e1 e2 N X0
    have hfin : ∀ (s' : Shared) (m : Str → Option Value), Fr s₁.heap s₁.heap.objs.size s'.heap m → s'.gens = s₁.gens → s'.os = s₁.os → qk (.ret (.bool true)) s' := by
      intro s' m F' g1 g2
      refine goodW_bool F' (g1.trans hg) (raisesW_false ?_) ?_ g2
      · wrow_none_raised
      · wrow_post
    have W : Wd w (ExcName.means s₀.heap) mg mb s₁.heap := ⟨KX, T⟩
    have hI' := hIw.length
    obtain ⟨m, Fn, hms⟩ : ∃ m, Fr s₁.heap s₁.heap.objs.size h₁ m ∧ m (Str.ofString "script") = some (.ref wg) := ⟨_, F, rfl⟩
    have n1 : c1.data = .cell none := e1
    have n2 : c2.data = .cell none := e2
    clear F e1 e2
    clear_value qk ek
    clear G Y ho V GL B TE TW M hcd hs hlay0 hL1 hr1 hl2 ra w1 r0 hr K0 hD X0 X
    dsimp only
    (repeat' (first | ((with_reducible refine ⟨(by k_in : Frag.In _ _), ?_⟩); (try dsimp only [List.nil_append, List.cons_append])) | ((fail_if_success k_end); (fail_if_success (with_reducible (first | show At (call (.ref _) _ _) | show At (exec (.While _ _ _ _) _) | show At (exec (.For _ _ _ _ _) _) | show At (call (.type "range") _ _) | show At (pyIter _) | show At (eval (.ListComp _ _ _ _) _) | show At (eval (.DictComp _ _ _ _ _) _) | show At (subscriptTail _ _ _ _) | (show At (compareOp _ _ _); fail_if_success show At (compareOp _ (.int _ _) (.int _ _))) | show At (setItem _ _ _) | show At (call (.builtin _) _ _) | show At (exec (.Assign _ (.ListComp _ _ _ _) _) _) | show At (call (.type "enumerate") _ _)))); (walk1; try dsimp only))))
    walk1
    refine LCg.ListComp_U (F₀ := Fn) (by with_unfolding_all rfl) (by decide) (by rfl) (by decide) (by rfl) ?_
    (repeat' (first | ((with_reducible refine ⟨(by k_in : Frag.In _ _), ?_⟩); (try dsimp only [List.nil_append, List.cons_append])) | ((fail_if_success k_end); (fail_if_success (with_reducible (first | show At (call (.ref _) _ _) | show At (exec (.While _ _ _ _) _) | show At (exec (.For _ _ _ _ _) _) | show At (call (.type "range") _ _) | show At (pyIter _) | show At (eval (.ListComp _ _ _ _) _) | show At (eval (.DictComp _ _ _ _ _) _) | show At (subscriptTail _ _ _ _) | (show At (compareOp _ _ _); fail_if_success show At (compareOp _ (.int _ _) (.int _ _))) | show At (setItem _ _ _) | show At (call (.builtin _) _ _) | show At (exec (.Assign _ (.ListComp _ _ _ _) _) _) | show At (call (.type "enumerate") _ _)))); (walk1; try dsimp only))))
    refine' slice_take12 ?yF ?yN ?yl ?yi ?ys ?yt ?yz ?_
    case yF => exact Fn
    case yN => exact N
    case yl => exact Heap.IsList.at hLw fun o e => Fn.keep _ _ e
    case yi => exact hIw
    case ys => with_unfolding_all rfl
    case yt => kmk_pure
    case yz => omega
    intro D2 ws2 h2 F2 N2 l2 hI2
    have hlen2 := hI2.length
    rw [List.length_take] at hlen2
    refine LCg.CompSrc.ledger (its := ws2.toArray) rfl F2 N2 (.head _) (by rw [sizeLine_eq, List.size_toArray]; omega) fun g9 => ?_
    refine rest_loop (fun i ys nw => nw = _ ∧ ys.length = i ∧ ∃ ns, IntsAre ys ns) ?_ ?_ ⟨rfl, rfl, [], .nil⟩
    · rintro i ys nw hi ⟨rfl, hyl, ns, hys⟩ v I oI C oC D m₂ h tk E' hv hC hx F N off ne
      obtain ⟨cv, ct, rfl⟩ := ints_mem hI2 v (by simpa using Array.mem_of_getElem? hv)
      (repeat' (first | ((with_reducible refine ⟨(by k_in : Frag.In _ _), ?_⟩); (try dsimp only [List.nil_append, List.cons_append])) | ((fail_if_success k_end); (fail_if_success (with_reducible (first | show At (call (.ref _) _ _) | show At (exec (.While _ _ _ _) _) | show At (exec (.For _ _ _ _ _) _) | show At (call (.type "range") _ _) | show At (pyIter _) | show At (eval (.ListComp _ _ _ _) _) | show At (eval (.DictComp _ _ _ _ _) _) | show At (call (.builtin "issubclass") _ _)))); (walk1; try dsimp only))))
      exact LCg.CompEnd.intro F N _ (fun p hp => hp) off (.inr ⟨_, .head _, rfl, _, rfl⟩) ⟨rfl, by simp [hyl], _, hys.append (.cons _ _ .nil)⟩
    · rintro ys nw ⟨rfl, hyl, ns, hys⟩
      intro D h tk F3 N3 o3
      dsimp only
      (repeat' (first | ((with_reducible refine ⟨(by k_in : Frag.In _ _), ?_⟩); (try dsimp only [List.nil_append, List.cons_append])) | ((fail_if_success k_end); (fail_if_success (with_reducible (first | show At (call (.ref _) _ _) | show At (exec (.While _ _ _ _) _) | show At (exec (.For _ _ _ _ _) _) | show At (call (.type "range") _ _) | show At (pyIter _) | show At (eval (.ListComp _ _ _ _) _) | show At (eval (.DictComp _ _ _ _ _) _) | show At (subscriptTail _ _ _ _) | (show At (compareOp _ _ _); fail_if_success show At (compareOp _ (.int _ _) (.int _ _))) | show At (setItem _ _ _) | show At (call (.builtin _) _ _) | show At (exec (.Assign _ (.ListComp _ _ _ _) _) _) | show At (call (.type "enumerate") _ _)))); (walk1; try dsimp only))))
      rename_i _ _ h4 oc F4 N4' n4
      have N4 : News s₁.heap s₁.heap.objs.size h4 [(D, LCg.lst ys), (D2, PySem.W.listOf ws2.toArray 0), (s₁.heap.objs.size + 1 + 1, c1), (s₁.heap.objs.size + 1, oc)] := N4'
      clear N4'
      refine comp_enum (h₀ := s₁.heap) (m := m) (by rfl) (by with_unfolding_all rfl) rfl (by with_unfolding_all rfl) (by decide) (by rfl) (by decide) (by rfl) (by rfl) (by decide) (by rfl) (by rfl) ?_
      (repeat' (first | ((with_reducible refine ⟨(by k_in : Frag.In _ _), ?_⟩); (try dsimp only [List.nil_append, List.cons_append])) | ((fail_if_success k_end); (fail_if_success (with_reducible (first | show At (call (.ref _) _ _) | show At (exec (.While _ _ _ _) _) | show At (exec (.For _ _ _ _ _) _) | show At (call (.type "range") _ _) | show At (pyIter _) | show At (eval (.ListComp _ _ _ _) _) | show At (eval (.DictComp _ _ _ _ _) _) | show At (subscriptTail _ _ _ _) | (show At (compareOp _ _ _); fail_if_success show At (compareOp _ (.int _ _) (.int _ _))) | show At (setItem _ _ _) | show At (call (.builtin _) _ _) | show At (exec (.Assign _ (.ListComp _ _ _ _) _) _) | show At (call (.type "enumerate") _ _)))); (walk1; try dsimp only))))
      with_reducible rename Fr _ _ _ _ => F5
      with_reducible rename News _ _ _ _ => N5
      refine call_enumerate_list (News.isList N5 (.head _)) ?_
      intro h6 he hit hz6 k6
      dsimp only at he hit hz6 k6 ⊢
      rename_i lE hE qE
      have off6 : ∀ p ∈ [(lE, PySem.W.listOf #[Value.int 72 tk, Value.int 70 (tk + 1), Value.int 34 (tk + 1 + 1)] 0), (D, LCg.lst ys), (D2, PySem.W.listOf ws2.toArray 0), (s₁.heap.objs.size + 1 + 1, c1), (s₁.heap.objs.size + 1, oc)], p.1 < hE.objs.size := fun p hp => Heap.lt_size (N5 p hp).1
      have f6 : ∀ a, hE.objs.size ≤ a → s₁.heap.get? a = none := fun a ha => by
        cases q : s₁.heap.get? a with
        | none => rfl
        | some o' => exact absurd (Heap.lt_size (F5.keep a o' q)) (Nat.not_lt.mpr ha)
      refine ⟨fun i ys => ∃ nn : List Nat, nn.length = i ∧ (∀ n ∈ nn, n < 128) ∧ IntsAre ys (nn.map fun n : Nat => (n : Int)), #[Value.int 72 tk, Value.int 70 (tk + 1), Value.int 34 (tk + 1 + 1)], lE, _, _, _, _, _, _, rfl, rfl,
        { sz := (by show 3 < 1000; decide), hol := fun h q => ⟨_, q, rfl, _, rfl⟩, mem := .head _, turn := ?_, start := ⟨[], rfl, fun _ z => (nomatch z), .nil⟩, fin := ?_, en := ⟨_, he⟩, iter := hit, ne := Nat.succ_ne_self _, fr := F5.keeps k6, nw := fun p hp => ⟨k6 _ _ (N5 p hp).1, (N5 p hp).2⟩,
          fe := f6 _ (Nat.le_succ _), fi := f6 _ (Nat.le_refl _), le := by have := F5.ns.lt; exact Nat.ne_of_lt (Nat.lt_succ_of_lt this), li := Nat.ne_of_lt F5.ns.lt, off := fun p hp => ⟨Nat.ne_of_lt (Nat.lt_succ_of_lt (off6 p hp)), Nat.ne_of_lt (off6 p hp)⟩ }⟩
      · rintro i x ys' hx ⟨nn, hnl, hnn, hys'⟩ t e oe it oit C oC D' m₂ h tk' E' hC hk hseed F N
        obtain ⟨z, tz, rfl⟩ : ∃ z tz, x = .int z tz := by
          match i, hx with
          | 0, hx => exact ⟨_, _, (Option.some.inj hx).symm⟩
          | 1, hx => exact ⟨_, _, (Option.some.inj hx).symm⟩
          | 2, hx => exact ⟨_, _, (Option.some.inj hx).symm⟩
          | i + 3, hx => simp at hx
        clear N5 F5
        refine hidePost fun TN hTN => ?_
        (repeat' (first | ((with_reducible refine ⟨(by k_in : Frag.In _ _), ?_⟩); (try dsimp only [List.nil_append, List.cons_append])) | ((fail_if_success k_end); (fail_if_success (with_reducible (first | show At (call (.ref _) _ _) | show At (exec (.While _ _ _ _) _) | show At (exec (.For _ _ _ _ _) _) | show At (call (.type "range") _ _) | show At (pyIter _) | show At (eval (.ListComp _ _ _ _) _) | show At (eval (.DictComp _ _ _ _ _) _) | show At (subscriptTail _ _ _ _) | (show At (compareOp _ _ _); fail_if_success show At (compareOp _ (.int _ _) (.int _ _))) | show At (setItem _ _ _) | show At (call (.builtin _) _ _) | show At (exec (.Assign _ (.ListComp _ _ _ _) _) _) | show At (call (.type "enumerate") _ _)))); (walk1; try dsimp only))))
        refine' slice_step3 ?xF ?xN ?xl ?xi ?xs ?xt ?xz ?_
        case xF => exact F
        case xN => exact N
        case xl => exact ⟨_, (N (D, LCg.lst ys) (.tail _ (.tail _ (.tail _ (.tail _ (.tail _ (.head _))))))).1, rfl, _, rfl⟩
        case xi => exact hys
        case xs => with_unfolding_all rfl
        case xt => kmk_pure
        case xz => rw [hyl, List.size_toArray]; omega
        intro D7 ws7 ms7 h7 F7 N7 l7 hi7
        clear F N
        (repeat' (first | ((with_reducible refine ⟨(by k_in : Frag.In _ _), ?_⟩); (try dsimp only [List.nil_append, List.cons_append])) | ((fail_if_success k_end); (fail_if_success (with_reducible (first | show At (call (.ref _) _ _) | show At (exec (.While _ _ _ _) _) | show At (exec (.For _ _ _ _ _) _) | show At (call (.type "range") _ _) | show At (pyIter _) | show At (eval (.ListComp _ _ _ _) _) | show At (eval (.DictComp _ _ _ _ _) _) | show At (subscriptTail _ _ _ _) | (show At (compareOp _ _ _); fail_if_success show At (compareOp _ (.int _ _) (.int _ _))) | show At (setItem _ _ _) | show At (call (.builtin _) _ _) | show At (exec (.Assign _ (.ListComp _ _ _ _) _) _) | show At (call (.type "enumerate") _ _)))); (walk1; try dsimp only))))
        refine LSm.sum_ints F7 N7 rfl ⟨_, (N7 _ (.head _)).1, rfl, _, rfl⟩ hi7 ?_
        intro h8 tk8 t8 F8 N8
        clear F7 N7
        dsimp only
        (repeat' (first | ((with_reducible refine ⟨(by k_in : Frag.In _ _), ?_⟩); (try dsimp only [List.nil_append, List.cons_append])) | ((fail_if_success k_end); (fail_if_success (with_reducible (first | show At (call (.ref _) _ _) | show At (exec (.While _ _ _ _) _) | show At (exec (.For _ _ _ _ _) _) | show At (call (.type "range") _ _) | show At (pyIter _) | show At (eval (.ListComp _ _ _ _) _) | show At (eval (.DictComp _ _ _ _ _) _) | show At (subscriptTail _ _ _ _) | (show At (compareOp _ _ _); fail_if_success show At (compareOp _ (.int _ _) (.int _ _))) | show At (setItem _ _ _) | show At (call (.builtin _) _ _) | show At (exec (.Assign _ (.ListComp _ _ _ _) _) _) | show At (call (.type "enumerate") _ _)))); (walk1; try dsimp only))))
        have lo := Int.fmod_nonneg_of_pos (z + ms7.sum) (show (0 : Int) < 128 by decide)
        have hi := Int.fmod_lt_of_pos (z + ms7.sum) (show (0 : Int) < 128 by decide)
        refine hTN _ _ ⟨h8, _, rfl, F8, fun p hp => N8 p (.tail _ hp), nn ++ [((z + ms7.sum).fmod 128).toNat], by simp [hnl], fun n hn => ?_, ?_⟩
        · rcases List.mem_append.mp hn with hn | hn
          · exact hnn n hn
          · cases List.mem_singleton.mp hn
            omega
        · rw [List.map_append]
          refine hys'.append ?_
          show IntsAre _ [((((z + ms7.sum).fmod 128).toNat : Nat) : Int)]
          rw [Int.toNat_of_nonneg lo]
          exact .cons _ _ .nil
      · rintro ys' D9 h9 tk9 ⟨nn, hnl, hnn, hys'⟩ F9 N9 l9
        have F10 : Fr s₁.heap s₁.heap.objs.size h9 (fun z => if z = Str.ofString "numbers" then some (.ref D9) else m z) := F9
        have N10 : News s₁.heap s₁.heap.objs.size h9 [(D9, LCg.lst ys'), (D2, PySem.W.listOf ws2.toArray 0), (s₁.heap.objs.size + 1 + 1, c1), (s₁.heap.objs.size + 1, oc)] := news_sub N9 (by kcf_all)
        clear N5 F5 F9 N9
        dsimp only
        (repeat' (first | ((with_reducible refine ⟨(by k_in : Frag.In _ _), ?_⟩); (try dsimp only [List.nil_append, List.cons_append])) | ((fail_if_success k_end); (fail_if_success (with_reducible (first | show At (call (.ref _) _ _) | show At (exec (.While _ _ _ _) _) | show At (exec (.For _ _ _ _ _) _) | show At (call (.type "range") _ _) | show At (pyIter _) | show At (eval (.ListComp _ _ _ _) _) | show At (eval (.DictComp _ _ _ _ _) _) | show At (subscriptTail _ _ _ _) | (show At (compareOp _ _ _); fail_if_success show At (compareOp _ (.int _ _) (.int _ _))) | show At (setItem _ _ _) | show At (call (.builtin _) _ _) | show At (exec (.Assign _ (.ListComp _ _ _ _) _) _) | show At (call (.type "enumerate") _ _)))); (walk1; try dsimp only))))
        have hlen3 : nn.length = 3 := hnl
        have hyl9 : ys'.length = 3 := by have := hys'.length; rw [List.length_map] at this; omega
        rename_i lh hA FA NA lA hB oh FB NB nh
        have NC : News s₁.heap s₁.heap.objs.size hB [(lh, listO [] 0), (D9, LCg.lst ys'), (s₁.heap.objs.size + 1 + 1, oh), (s₁.heap.objs.size + 1, oc)] := by
          have N : News s₁.heap s₁.heap.objs.size hB _ := NB
          exact news_sub N (by kcf_all)
        clear NA NB FA l9
        have hl9 : D9 ≠ lh := Nat.ne_of_lt lA.1
        have hch : s₁.heap.objs.size + 1 + 1 ≠ lh ∧ s₁.heap.objs.size + 1 ≠ lh := ⟨Nat.ne_of_lt lA.2.2.1, Nat.ne_of_lt lA.2.2.2⟩
        have hl0 : s₁.heap.get? lh = none := (NC _ (.head _)).2.2
        have hlL : lh ≠ s₁.heap.objs.size := (NC _ (.head _)).2.1
        refine wpAny_For ?_
        (repeat' (first | ((with_reducible refine ⟨(by k_in : Frag.In _ _), ?_⟩); (try dsimp only [List.nil_append, List.cons_append])) | ((fail_if_success k_end); (fail_if_success (with_reducible (first | show At (call (.ref _) _ _) | show At (exec (.While _ _ _ _) _) | show At (exec (.For _ _ _ _ _) _) | show At (call (.type "range") _ _) | show At (pyIter _) | show At (eval (.ListComp _ _ _ _) _) | show At (eval (.DictComp _ _ _ _ _) _) | show At (subscriptTail _ _ _ _) | (show At (compareOp _ _ _); fail_if_success show At (compareOp _ (.int _ _) (.int _ _))) | show At (setItem _ _ _) | show At (call (.builtin _) _ _) | show At (exec (.Assign _ (.ListComp _ _ _ _) _) _) | show At (call (.type "enumerate") _ _)))); (walk1; try dsimp only))))
        have hI0 : ∀ p ∈ [(lh, listO [] 0), (D9, LCg.lst ys'), (s₁.heap.objs.size + 1 + 1, oh), (s₁.heap.objs.size + 1, oc)], p.1 ≠ hB.objs.size := fun p hp => Nat.ne_of_lt (Heap.lt_size (NC p hp).1)
        refine for_list (l := D9) (vs := ys') (LwP lh D9 (s₁.heap.objs.size + 1 + 1) (s₁.heap.objs.size + 1) hB.objs.size ys' oh oc nn) ?_ ?_ rfl rfl rfl FB NC (.mk [] 0 [] (fun _ z => (nomatch z)) AllR.nil (by walk_at "m_lk")) ?_ ?_
        · rintro i m rest' h ⟨vs, n', its, -, -, -⟩ F N
          exact ⟨_, (N _ (.tail _ (.head _))).1, rfl, _, rfl⟩
        · rintro i m rest' ⟨vs, n', its, hits, -, -⟩ p hp
          rcases List.mem_cons.mp hp with rfl | hp
          · exact hI0 (lh, listO [] 0) (.head _)
          rcases List.mem_cons.mp hp with rfl | hp
          · exact hI0 _ (.tail _ (.head _))
          rcases List.mem_cons.mp hp with rfl | hp
          · exact hI0 _ (.tail _ (.tail _ (.head _)))
          rcases List.mem_cons.mp hp with rfl | hp
          · exact hI0 _ (.tail _ (.tail _ (.tail _ (.head _))))
          · exact (hits p hp).2
        · rintro i v mT rest' hT tkT oi hi hv ⟨vs, n', its, hits, hI, m1⟩ F N
          refine hidePost fun TQ hTQ => ?_
          have FT : Fr s₁.heap s₁.heap.objs.size hT _ := F
          have NT : News s₁.heap s₁.heap.objs.size hT ((hB.objs.size, oi) :: (lh, listO vs n') :: (D9, LCg.lst ys') :: (s₁.heap.objs.size + 1 + 1, oh) :: (s₁.heap.objs.size + 1, oc) :: its) := N
          clear F N
          obtain ⟨nz, tz, hnz, rfl⟩ := ints_at hys' hv
          rw [List.getElem?_map] at hnz
          obtain ⟨n, hn, rfl⟩ := Option.map_eq_some_iff.mp hnz
          have hn128 := hnn n (List.mem_of_getElem? hn)
          (repeat' (first | ((with_reducible refine ⟨(by k_in : Frag.In _ _), ?_⟩); (try dsimp only [List.nil_append, List.cons_append])) | ((fail_if_success k_end); (fail_if_success (with_reducible (first | show At (call (.ref _) _ _) | show At (exec (.While _ _ _ _) _) | show At (exec (.For _ _ _ _ _) _) | show At (call (.type "range") _ _) | show At (pyIter _) | show At (eval (.ListComp _ _ _ _) _) | show At (eval (.DictComp _ _ _ _ _) _) | show At (subscriptTail _ _ _ _) | (show At (compareOp _ _ _); fail_if_success show At (compareOp _ (.int _ _) (.int _ _))) | show At (setItem _ _ _) | show At (call (.builtin _) _ _) | show At (exec (.Assign _ (.ListComp _ _ _ _) _) _) | show At (call (.type "enumerate") _ _)))); (walk1; try dsimp only))))
          obtain ⟨le1, le2, le3⟩ := ls_end hn128
          refine listed_spec (W.keeps FT.keep) (callerA_room _).1 (callerA_room _).2 rfl hn128 (K := 26) le1 le2 ?_
          rw [le3]
          intro h5 tk5 r5 vs5 k5 ⟨r0, kr, re⟩ hw5
          have F5 := fr_stays FT k5
          have N5 := news_add FT NT k5 r0 re
          clear k5 FT NT
          (repeat' (first | ((with_reducible refine ⟨(by k_in : Frag.In _ _), ?_⟩); (try dsimp only [List.nil_append, List.cons_append])) | ((fail_if_success k_end); (fail_if_success (with_reducible (first | show At (call (.ref _) _ _) | show At (exec (.While _ _ _ _) _) | show At (exec (.For _ _ _ _ _) _) | show At (call (.type "range") _ _) | show At (pyIter _) | show At (eval (.ListComp _ _ _ _) _) | show At (eval (.DictComp _ _ _ _ _) _) | show At (subscriptTail _ _ _ _) | (show At (compareOp _ _ _); fail_if_success show At (compareOp _ (.int _ _) (.int _ _))) | show At (setItem _ _ _) | show At (call (.builtin _) _ _) | show At (exec (.Assign _ (.ListComp _ _ _ _) _) _) | show At (call (.type "enumerate") _ _)))); (walk1; try dsimp only))))
          with_reducible rename Fr _ _ _ _ => F9
          with_reducible rename News _ _ _ _ => N9
          have hlen : (rowsT n).length < 100 := (hd_facts n hn128).1
          refine written_spec0 hn128 (W.keeps F9.keep) (callerA_room _).1 (callerA_room _).2 rfl ?_
          intro h7 tk7 r7 vs7 k7 ⟨r70, kr7, re7⟩ hw7
          have F7 := fr_stays F9 k7
          have N7 := news_add F9 N9 k7 r70 re7
          clear k7 F9 N9
          dsimp only
          refine add_lists (vs := [_]) (ws := vs7) F7 N7 ⟨_, (N7 _ (.tail _ (.head _))).1, rfl, _, rfl⟩ ⟨_, (N7 _ (.head _)).1, rfl, _, rfl⟩ (fun h8 F8 N8 => ?_) (by have := hw7.1; rw [sizeLine_eq]; simp [rowsT] at hlen ⊢; omega)
          dsimp only
          refine ne_strs (xs := vs5) ⟨_, (N8 (r5, listO vs5 kr) (.tail _ (.tail _ (.tail _ (.head _))))).1, rfl, _, rfl⟩ ⟨_, (N8 _ (.head _)).1, rfl, _, rfl⟩ hw5 (hw7.cons ⟨_, rfl⟩) (rows_ok n hn128) (Nat.lt_trans (Nat.add_lt_add_left (by decide) _) (callerA_room _).1) ?_
          clear F7 N7
          (repeat' (first | ((with_reducible refine ⟨(by k_in : Frag.In _ _), ?_⟩); (try dsimp only [List.nil_append, List.cons_append])) | ((fail_if_success k_end); (fail_if_success (with_reducible (first | show At (call (.ref _) _ _) | show At (exec (.While _ _ _ _) _) | show At (exec (.For _ _ _ _ _) _) | show At (call (.type "range") _ _) | show At (pyIter _) | show At (eval (.ListComp _ _ _ _) _) | show At (eval (.DictComp _ _ _ _ _) _) | show At (subscriptTail _ _ _ _) | (show At (compareOp _ _ _); fail_if_success show At (compareOp _ (.int _ _) (.int _ _))) | show At (setItem _ _ _) | show At (call (.builtin _) _ _) | show At (exec (.Assign _ (.ListComp _ _ _ _) _) _) | show At (call (.type "enumerate") _ _)))); (walk1; try dsimp only))))
          have N8' : News s₁.heap s₁.heap.objs.size h8 ((r5, listO vs5 kr) :: (hB.objs.size, oi) :: (lh, listO vs n') :: (D9, LCg.lst ys') :: (s₁.heap.objs.size + 1 + 1, oh) :: (s₁.heap.objs.size + 1, oc) :: its) := fun p hp => N8 p (.tail _ (.tail _ (.tail _ hp)))
          clear N8
          obtain ⟨-, -, ha2, ha3, e2, e3⟩ := rd_facts n hn128
          refine read_spec (ws := rowsT n) (W.keeps F8.keep) (callerA_room _).1 (callerA_room _).2 rfl (N8' _ (.head _)).1 hw5 (by omega) (Nat.succ_pos _) ⟨ha2, ha3⟩ (rd_ok hn128) ?_
          rw [e2, e3]
          intro h10 tk10 r10 ta tb k10 r100 re10
          have F10 := fr_stays F8 k10
          have N10 := news_add F8 N8' k10 r100 re10
          clear k10 F8 N8'
          dsimp only
          (repeat' (first | ((with_reducible refine ⟨(by k_in : Frag.In _ _), ?_⟩); (try dsimp only [List.nil_append, List.cons_append])) | ((fail_if_success k_end); (fail_if_success (with_reducible (first | show At (call (.ref _) _ _) | show At (exec (.While _ _ _ _) _) | show At (exec (.For _ _ _ _ _) _) | show At (call (.type "range") _ _) | show At (pyIter _) | show At (eval (.ListComp _ _ _ _) _) | show At (eval (.DictComp _ _ _ _ _) _) | show At (subscriptTail _ _ _ _) | (show At (compareOp _ _ _); fail_if_success show At (compareOp _ (.int _ _) (.int _ _))) | show At (setItem _ _ _) | show At (call (.builtin _) _ _) | show At (exec (.Assign _ (.ListComp _ _ _ _) _) _) | show At (call (.type "enumerate") _ _)))); (walk1; try dsimp only))))
          · exfalso
            rename_i q
            exact q rfl
          with_reducible rename Fr _ _ _ _ => F11
          with_reducible rename News _ _ _ _ => N11
          refine LCg.ListComp_U (F₀ := F11) (by with_unfolding_all rfl) (by decide) (by rfl) (by decide) (by rfl) ?_
          (repeat' (first | ((with_reducible refine ⟨(by k_in : Frag.In _ _), ?_⟩); (try dsimp only [List.nil_append, List.cons_append])) | ((fail_if_success k_end); (fail_if_success (with_reducible (first | show At (call (.ref _) _ _) | show At (exec (.While _ _ _ _) _) | show At (exec (.For _ _ _ _ _) _) | show At (call (.type "range") _ _) | show At (pyIter _) | show At (eval (.ListComp _ _ _ _) _) | show At (eval (.DictComp _ _ _ _ _) _) | show At (subscriptTail _ _ _ _) | (show At (compareOp _ _ _); fail_if_success show At (compareOp _ (.int _ _) (.int _ _))) | show At (setItem _ _ _) | show At (call (.builtin _) _ _) | show At (exec (.Assign _ (.ListComp _ _ _ _) _) _) | show At (call (.type "enumerate") _ _)))); (walk1; try dsimp only))))
          refine' slice_from1 (vs := vs5) ?yF ?yN ?yl ?ys ?yt ?yz ?_
          case yF => exact F11
          case yN => exact N11
          case yl => exact ⟨_, (N11 (r5, listO vs5 kr) (.tail _ (.head _))).1, rfl, _, rfl⟩
          case ys => with_unfolding_all rfl
          case yt => kmk_pure
          case yz => rw [hw5.1]; omega
          intro D12 h12 F12 N12 l12
          have N12' : News s₁.heap s₁.heap.objs.size h12 ((D12, PySem.W.listOf (vs5.drop 1).toArray 0) :: (hB.objs.size, oi) :: (lh, listO vs n') :: (D9, LCg.lst ys') :: (s₁.heap.objs.size + 1 + 1, oh) :: (s₁.heap.objs.size + 1, oc) :: its) := fun p hp => by
            rcases List.mem_cons.mp hp with rfl | hp
            · exact N12 _ (.head _)
            · exact N12 _ (.tail _ (.tail _ (.tail _ hp)))
          have l12' : ∀ p ∈ (hB.objs.size, oi) :: (lh, listO vs n') :: (D9, LCg.lst ys') :: (s₁.heap.objs.size + 1 + 1, oh) :: (s₁.heap.objs.size + 1, oc) :: its, p.1 < D12 := fun p hp => l12 p (.tail _ (.tail _ hp))
          clear F11 N11 N12 l12
          have hwt := hw5.tail1
          refine LCg.CompSrc.ledger (its := (vs5.drop 1).toArray) rfl F12 N12' (.head _) (by rw [sizeLine_eq, List.size_toArray, List.length_drop, hw5.1]; omega) fun g9 => ?_
          refine rest_loop (fun i ys nw => nw = _ ∧ IntsAre ys ((depthT n).take i)) ?_ ?_ ⟨rfl, .nil⟩
          · rintro i yy nw hi ⟨rfl, hys⟩ v I oI C oC DD m₂ h tk E' hv hC hx F N off ne
            obtain ⟨p, hp, tp, rfl⟩ := hwt.getV (by simpa using hv)
            (repeat' (first | ((with_reducible refine ⟨(by k_in : Frag.In _ _), ?_⟩); (try dsimp only [List.nil_append, List.cons_append])) | ((fail_if_success k_end); (fail_if_success (with_reducible (first | show At (call (.ref _) _ _) | show At (exec (.While _ _ _ _) _) | show At (exec (.For _ _ _ _ _) _) | show At (call (.type "range") _ _) | show At (pyIter _) | show At (eval (.ListComp _ _ _ _) _) | show At (eval (.DictComp _ _ _ _ _) _) | show At (call (.builtin "issubclass") _ _)))); (walk1; try dsimp only))))
            refine LCg.CompEnd.intro F N _ (fun p hp => hp) off (.inr ⟨_, .head _, rfl, _, rfl⟩) ⟨rfl, ?_⟩
            have e : (depthT n)[i]? = some (Txt.count p (Str.ofString "/")) := by unfold depthT; rw [List.getElem?_map, hp]; rfl
            rw [List.take_add_one, e]
            exact hys.append (.cons _ _ .nil)
          · rintro yy nw ⟨rfl, hys⟩
            rw [List.size_toArray, hwt.1, show ((rowsT n).drop 1).length = (depthT n).length by unfold depthT; rw [List.length_map], List.take_length] at hys
            intro D13 h13 tk13 F13 N13 o13
            dsimp only
            (repeat' (first | ((with_reducible refine ⟨(by k_in : Frag.In _ _), ?_⟩); (try dsimp only [List.nil_append, List.cons_append])) | ((fail_if_success k_end); (fail_if_success (with_reducible (first | show At (call (.ref _) _ _) | show At (exec (.While _ _ _ _) _) | show At (exec (.For _ _ _ _ _) _) | show At (call (.type "range") _ _) | show At (pyIter _) | show At (eval (.ListComp _ _ _ _) _) | show At (eval (.DictComp _ _ _ _ _) _) | show At (subscriptTail _ _ _ _) | (show At (compareOp _ _ _); fail_if_success show At (compareOp _ (.int _ _) (.int _ _))) | show At (setItem _ _ _) | show At (call (.builtin _) _ _) | show At (exec (.Assign _ (.ListComp _ _ _ _) _) _) | show At (call (.type "enumerate") _ _)))); (walk1; try dsimp only))))
            with_reducible rename Fr _ _ _ _ => F14
            with_reducible rename News _ _ _ _ => N14
            rename_i D14 h14 q14
            have N14' : News s₁.heap s₁.heap.objs.size h14 ((lh, listO vs n') :: (hB.objs.size, oi) :: (D9, LCg.lst ys') :: (s₁.heap.objs.size + 1 + 1, oh) :: (s₁.heap.objs.size + 1, oc) :: (D14, tupO [.ref D13, .int (raT n : Nat) tb]) :: (D13, listO yy yy.length) :: its) := fun p hp => by
              rcases List.mem_cons.mp hp with rfl | hp
              · exact N14 _ (.tail _ (.tail _ (.tail _ (.tail _ (.head _)))))
              rcases List.mem_cons.mp hp with rfl | hp
              · exact N14 _ (.tail _ (.tail _ (.tail _ (.head _))))
              rcases List.mem_cons.mp hp with rfl | hp
              · exact N14 _ (.tail _ (.tail _ (.tail _ (.tail _ (.tail _ (.head _))))))
              rcases List.mem_cons.mp hp with rfl | hp
              · exact N14 _ (.tail _ (.tail _ (.tail _ (.tail _ (.tail _ (.tail _ (.head _)))))))
              rcases List.mem_cons.mp hp with rfl | hp
              · exact N14 _ (.tail _ (.tail _ (.tail _ (.tail _ (.tail _ (.tail _ (.tail _ (.head _))))))))
              rcases List.mem_cons.mp hp with rfl | hp
              · exact N14 _ (.head _)
              rcases List.mem_cons.mp hp with rfl | hp
              · exact N14 _ (.tail _ (.head _))
              · exact N14 _ (.tail _ (.tail _ (.tail _ (.tail _ (.tail _ (.tail _ (.tail _ (.tail _ hp))))))))
            have z14 : D14 ≠ lh ∧ D14 ≠ hB.objs.size := ⟨(Nat.ne_of_lt q14.2.2.2.1).symm, (Nat.ne_of_lt q14.2.2.1).symm⟩
            have z13 : D13 ≠ lh ∧ D13 ≠ hB.objs.size := ⟨fun q => o13.2.2.1 q.symm, fun q => o13.2.1 q.symm⟩
            have hits' : ∀ p ∈ (D14, tupO [.ref D13, .int (raT n : Nat) tb]) :: (D13, listO yy yy.length) :: its, p.1 ≠ lh ∧ p.1 ≠ hB.objs.size := fun p hp => by
              rcases List.mem_cons.mp hp with rfl | hp
              · exact z14
              rcases List.mem_cons.mp hp with rfl | hp
              · exact z13
              · exact hits p hp
            clear N14
            refine item_append F14 N14' (.head (fun p hp => by
              rcases List.mem_cons.mp hp with rfl | hp
              · exact (hI0 (lh, listO [] 0) (.head _)).symm
              rcases List.mem_cons.mp hp with rfl | hp
              · exact hl9
              rcases List.mem_cons.mp hp with rfl | hp
              · exact hch.1
              rcases List.mem_cons.mp hp with rfl | hp
              · exact hch.2
              · exact (hits' p hp).1)) (by rw [hI.1]; simp; omega) ?_
            intro h15 F15 N15
            clear F14 N14'
            dsimp only
            (repeat' (first | ((with_reducible refine ⟨(by k_in : Frag.In _ _), ?_⟩); (try dsimp only [List.nil_append, List.cons_append])) | ((fail_if_success k_end); (fail_if_success (with_reducible (first | show At (call (.ref _) _ _) | show At (exec (.While _ _ _ _) _) | show At (exec (.For _ _ _ _ _) _) | show At (call (.type "range") _ _) | show At (pyIter _) | show At (eval (.ListComp _ _ _ _) _) | show At (eval (.DictComp _ _ _ _ _) _) | show At (subscriptTail _ _ _ _) | (show At (compareOp _ _ _); fail_if_success show At (compareOp _ (.int _ _) (.int _ _))) | show At (setItem _ _ _) | show At (call (.builtin _) _ _) | show At (exec (.Assign _ (.ListComp _ _ _ _) _) _) | show At (call (.type "enumerate") _ _)))); (walk1; try dsimp only))))
            have N16 : News s₁.heap s₁.heap.objs.size h15 ((hB.objs.size, oi) :: (lh, listO (vs ++ [.ref D14]) (n' + 1)) :: (D9, LCg.lst ys') :: (s₁.heap.objs.size + 1 + 1, oh) :: (s₁.heap.objs.size + 1, oc) :: (D14, tupO [.ref D13, .int (raT n : Nat) tb]) :: (D13, listO yy yy.length) :: its) := fun p hp => by
              rcases List.mem_cons.mp hp with rfl | hp
              · exact N15 _ (.tail _ (.head _))
              rcases List.mem_cons.mp hp with rfl | hp
              · exact N15 _ (.head _)
              · exact N15 _ (.tail _ (.tail _ hp))
            refine hTQ _ _ ⟨_, _, _, _, rfl, F15, N16, .mk _ _ _ hits' ?_ (by walk_at "m_lk")⟩
            rw [List.take_add_one, hn, List.map_append]
            exact (hI.imp fun v x q => q.up fun p hp => .tail _ (.tail _ hp)).push (.mk D14 D13 (itemT n) tb yy yy.length (.head _) (.tail _ (.head _)) hys)
        · rintro mD rest' hT tkT ⟨vs, n', its, hits, hI, m1⟩ F N
          have FT : Fr s₁.heap s₁.heap.objs.size hT _ := F
          have NT : News s₁.heap s₁.heap.objs.size hT ((lh, listO vs n') :: (D9, LCg.lst ys') :: (s₁.heap.objs.size + 1 + 1, oh) :: (s₁.heap.objs.size + 1, oc) :: its) := N
          clear F N
          rw [hyl9, show nn.take 3 = nn by rw [← hlen3]; exact List.take_length ..] at hI
          (repeat' (first | ((with_reducible refine ⟨(by k_in : Frag.In _ _), ?_⟩); (try dsimp only [List.nil_append, List.cons_append])) | ((fail_if_success k_end); (fail_if_success (with_reducible (first | show At (call (.ref _) _ _) | show At (exec (.While _ _ _ _) _) | show At (exec (.For _ _ _ _ _) _) | show At (call (.type "range") _ _) | show At (pyIter _) | show At (eval (.ListComp _ _ _ _) _) | show At (eval (.DictComp _ _ _ _ _) _) | show At (subscriptTail _ _ _ _) | (show At (compareOp _ _ _); fail_if_success show At (compareOp _ (.int _ _) (.int _ _))) | show At (setItem _ _ _) | show At (call (.builtin _) _ _) | show At (exec (.Assign _ (.ListComp _ _ _ _) _) _) | show At (call (.type "enumerate") _ _)))); (walk1; try dsimp only))))
          obtain ⟨na, nb, nc, hnabc⟩ : ∃ a b c, nn = [a, b, c] := by
            match nn, hlen3 with
            | [a, b, c], _ => exact ⟨a, b, c, rfl⟩
          have ha128 : na < 128 := hnn na (by rw [hnabc]; simp)
          have hb128 : nb < 128 := hnn nb (by rw [hnabc]; simp)
          have hc128 : nc < 128 := hnn nc (by rw [hnabc]; simp)
          have hsm : ∀ x, x = na ∨ x = nb ∨ x = nc → x < 128 := by rintro x (rfl | rfl | rfl) <;> assumption
          obtain ⟨xa, xb, xc, hp3, hab, hbc, hperm⟩ := pops3_eq (lt := lt2) (f := itemT) (a := na) (b := nb) (c := nc) fun x y hx hy => lt2_item (hsm x hx) (hsm y hy)
          obtain ⟨st, hst0, hrun⟩ := pops3_run hp3
          rw [hnabc] at hI
          have hitO : ∀ p ∈ its, (s₁.heap.get? p.1 = none ∧ p.1 ≠ s₁.heap.objs.size ∧ p.1 ≠ lh) ∧ hT.get? p.1 = some p.2 := fun p hp => by
            have z := NT p (.tail _ (.tail _ (.tail _ (.tail _ hp))))
            exact ⟨⟨z.2.2, z.2.1, (hits p hp).1⟩, z.1⟩
          refine heapify_spec (ordQ w (fun b => s₁.heap.get? b = none ∧ b ≠ s₁.heap.objs.size ∧ b ≠ lh)) (B := Heap.hide hT lh) (xs := [itemT na, itemT nb, itemT nc]) (W.keeps (stays_hide FT.keep hl0)) stays_of_hide (Heap.hide_self _ _) (NT _ (.head _)).1
            (hI.imp fun v x q => r2p_hide (fun b hb => hb.2.2) (r2p_of hitO q)) (Nat.lt_trans (Nat.add_lt_add_left (by decide) _) (callerA_room _).1) (Nat.lt_trans (Nat.add_lt_add_left (by decide) _) (callerA_room _).2) rfl rfl ?_
          intro h6 tk6 vs6 n6 q6 e6 R6
          have k6 : (hT.hide lh).StaysIn h6 := StaysIn.trans (KB.stays_hide q6) stays_of_hide
          obtain ⟨items, hit1, hit2⟩ := items2_of (R6.imp fun v x => (ordQ w (fun b => s₁.heap.get? b = none ∧ b ≠ s₁.heap.objs.size ∧ b ≠ lh)).mono k6)
          rw [show (ordQ w (fun b => s₁.heap.get? b = none ∧ b ≠ s₁.heap.objs.size ∧ b ≠ lh)).lt = lt2 from rfl, ← hst0] at hit2
          have F6 := fr_KB FT hl0 hlL.symm q6
          have NTc : News s₁.heap s₁.heap.objs.size hT [(lh, listO vs n'), (D9, LCg.lst ys'), (s₁.heap.objs.size + 1 + 1, oh), (s₁.heap.objs.size + 1, oc)] := news_sub NT (by kcf_all)
          have N6c := news_KB NTc (fun p hp => by
            rcases List.mem_cons.mp hp with rfl | hp
            · exact hl9
            rcases List.mem_cons.mp hp with rfl | hp
            · exact hch.1
            · cases List.mem_singleton.mp hp
              exact hch.2) q6 e6
          have N6 : News s₁.heap s₁.heap.objs.size h6 ((lh, listO vs6 n6) :: (D9, LCg.lst ys') :: (s₁.heap.objs.size + 1 + 1, oh) :: (s₁.heap.objs.size + 1, oc) :: items) := fun p hp => by
            rcases List.mem_cons.mp hp with rfl | hp
            · exact N6c _ (.head _)
            rcases List.mem_cons.mp hp with rfl | hp
            · exact N6c _ (.tail _ (.head _))
            rcases List.mem_cons.mp hp with rfl | hp
            · exact N6c _ (.tail _ (.tail _ (.head _)))
            rcases List.mem_cons.mp hp with rfl | hp
            · exact N6c _ (.tail _ (.tail _ (.tail _ (.head _))))
            · exact ⟨(hit1 p hp).2, (hit1 p hp).1.2.1, (hit1 p hp).1.1⟩
          have hit1' : ∀ p ∈ items, p.1 ≠ lh := fun p hp => (hit1 p hp).1.2.2
          clear N6c NTc FT NT hit1 R6 hI hitO hits
          dsimp only
          (repeat' (first | ((with_reducible refine ⟨(by k_in : Frag.In _ _), ?_⟩); (try dsimp only [List.nil_append, List.cons_append])) | ((fail_if_success k_end); (fail_if_success (with_reducible (first | show At (call (.ref _) _ _) | show At (exec (.While _ _ _ _) _) | show At (exec (.For _ _ _ _ _) _) | show At (call (.type "range") _ _) | show At (pyIter _) | show At (eval (.ListComp _ _ _ _) _) | show At (eval (.DictComp _ _ _ _ _) _) | show At (subscriptTail _ _ _ _) | (show At (compareOp _ _ _); fail_if_success show At (compareOp _ (.int _ _) (.int _ _))) | show At (setItem _ _ _) | show At (call (.builtin _) _ _) | show At (exec (.Assign _ (.ListComp _ _ _ _) _) _) | show At (call (.type "enumerate") _ _)))); (walk1; try dsimp only))))
          with_reducible rename Fr _ _ _ _ => F7
          refine LCg.Assign_ListComp_U (F₀ := F7) rfl (by with_unfolding_all rfl) (by with_unfolding_all rfl) (by decide) (by rfl) (by decide) (by rfl) (by rfl) (by rfl) ?_
          (repeat' (first | ((with_reducible refine ⟨(by k_in : Frag.In _ _), ?_⟩); (try dsimp only [List.nil_append, List.cons_append])) | ((fail_if_success k_end); (fail_if_success (with_reducible (first | show At (call (.ref _) _ _) | show At (exec (.While _ _ _ _) _) | show At (exec (.For _ _ _ _ _) _) | show At (call (.type "range") _ _) | show At (pyIter _) | show At (eval (.ListComp _ _ _ _) _) | show At (eval (.DictComp _ _ _ _ _) _) | show At (subscriptTail _ _ _ _) | (show At (compareOp _ _ _); fail_if_success show At (compareOp _ (.int _ _) (.int _ _))) | show At (setItem _ _ _) | show At (call (.builtin _) _ _) | show At (exec (.Assign _ (.ListComp _ _ _ _) _) _) | show At (call (.type "enumerate") _ _)))); (walk1; try dsimp only))))
          refine call_range_1 ?_
          dsimp only
          refine LCg.CompSrc.range (n := 3) rfl (F7.push _) (news_push N6 _) (Heap.get?_push_size _ rfl) (by decide) (by decide) (by decide) fun g9 => ?_
          refine rest_loop (LwO lh D9 (s₁.heap.objs.size + 1 + 1) (s₁.heap.objs.size + 1) ys' oh oc st [(itemT xa).2, (itemT xb).2, (itemT xc).2]) ?_ ?_ (.mk _ _ _ hit1' hit2 .nil)
          · rintro i yy nw hi ⟨vs, n', its, hits, hI, hyy⟩ v I oI C oC DD m₂ h tk E' hv hC hx F N off ne
            have off' := off.mem
            obtain ⟨ox, hox⟩ : ∃ o, [itemT xa, itemT xb, itemT xc][i]? = some o := ⟨_, List.getElem?_eq_getElem hi⟩
            obtain ⟨yl, x, hst, hyl3, hpp⟩ := hrun i ox hox
            dsimp only
            (repeat' (first | ((with_reducible refine ⟨(by k_in : Frag.In _ _), ?_⟩); (try dsimp only [List.nil_append, List.cons_append])) | ((fail_if_success k_end); (fail_if_success (with_reducible (first | show At (call (.ref _) _ _) | show At (exec (.While _ _ _ _) _) | show At (exec (.For _ _ _ _ _) _) | show At (call (.type "range") _ _) | show At (pyIter _) | show At (eval (.ListComp _ _ _ _) _) | show At (eval (.DictComp _ _ _ _ _) _) | show At (subscriptTail _ _ _ _) | (show At (compareOp _ _ _); fail_if_success show At (compareOp _ (.int _ _) (.int _ _))) | show At (setItem _ _ _) | show At (call (.builtin _) _ _) | show At (exec (.Assign _ (.ListComp _ _ _ _) _) _) | show At (call (.type "enumerate") _ _)))); (walk1; try dsimp only))))
            refine wpAny_mono (E := NE) ?_ (fun _ _ q => q) fun _ _ q => q.elim
            have hok : ∀ p ∈ its, (s₁.heap.get? p.1 = none ∧ p.1 ≠ s₁.heap.objs.size ∧ p.1 ≠ lh ∧ p.1 ≠ I ∧ p.1 ≠ C ∧ p.1 ≠ DD) ∧ h.get? p.1 = some p.2 := fun p hp => by
              have z := N p (.tail _ (.tail _ (.tail _ (.tail _ (.tail _ (.tail _ (.tail _ hp)))))))
              exact ⟨⟨z.2.2, z.2.1, hits p hp, off' p (.tail _ (.tail _ (.tail _ (.tail _ hp))))⟩, z.1⟩
            have offl := off' _ (.head _)
            refine heappop_spec (ordQ w (fun b => s₁.heap.get? b = none ∧ b ≠ s₁.heap.objs.size ∧ b ≠ lh ∧ b ≠ I ∧ b ≠ C ∧ b ≠ DD)) (B := Heap.hide h lh) (ys := yl) (x := x) (vs := vs) (W.keeps (stays_hide F.keep hl0)) stays_of_hide (Heap.hide_self _ _) (N _ (.tail _ (.tail _ (.tail _ (.head _))))).1
              (by rw [← hst]; exact hI.imp fun v x q => r2p_hide (fun b hb => hb.2.2.1) (r2p_of hok q)) (Nat.lt_trans (Nat.add_lt_add_left (by decide) _) (callerA_room _).1) (Nat.lt_trans (Nat.add_lt_add_left (by decide) _) (callerA_room _).2) hyl3 ?_
            intro h8 tk8 v8 vs8 n8 q8 e8 r8 R8
            have k8 : (h.hide lh).StaysIn h8 := StaysIn.trans (KB.stays_hide q8) stays_of_hide
            obtain ⟨items8, hitA, hitB⟩ := items2_of (R8.imp fun v x => (ordQ w (fun b => s₁.heap.get? b = none ∧ b ≠ s₁.heap.objs.size ∧ b ≠ lh ∧ b ≠ I ∧ b ≠ C ∧ b ≠ DD)).mono k8)
            rw [show (ordQ w (fun b => s₁.heap.get? b = none ∧ b ≠ s₁.heap.objs.size ∧ b ≠ lh ∧ b ≠ I ∧ b ≠ C ∧ b ≠ DD)).lt = lt2 from rfl, hpp] at r8 hitB
            obtain ⟨it, iw, _, tn, wv, kw, ok1, ok2, g1, g2, hiw⟩ := r8
            have F8 := fr_KB F hl0 hlL.symm q8
            have NcB : News s₁.heap s₁.heap.objs.size h [(lh, listO vs n'), (I, oI), (C, oC), (DD, LCg.lst yy), (D9, LCg.lst ys'), (s₁.heap.objs.size + 1 + 1, oh), (s₁.heap.objs.size + 1, oc)] := news_sub N (by kcf_all)
            have NcA := news_KB NcB (fun p hp => by
              rcases List.mem_cons.mp hp with rfl | hp
              · exact offl.1.symm
              rcases List.mem_cons.mp hp with rfl | hp
              · exact offl.2.1.symm
              rcases List.mem_cons.mp hp with rfl | hp
              · exact offl.2.2.symm
              rcases List.mem_cons.mp hp with rfl | hp
              · exact hl9
              rcases List.mem_cons.mp hp with rfl | hp
              · exact hch.1
              · cases List.mem_singleton.mp hp
                exact hch.2) q8 e8
            have N8 : News s₁.heap s₁.heap.objs.size h8 ((I, oI) :: (C, oC) :: (DD, LCg.lst yy) :: (lh, listO vs8 n8) :: (D9, LCg.lst ys') :: (s₁.heap.objs.size + 1 + 1, oh) :: (s₁.heap.objs.size + 1, oc) :: items8) := fun p hp => by
              rcases List.mem_cons.mp hp with rfl | hp
              · exact NcA _ (.tail _ (.head _))
              rcases List.mem_cons.mp hp with rfl | hp
              · exact NcA _ (.tail _ (.tail _ (.head _)))
              rcases List.mem_cons.mp hp with rfl | hp
              · exact NcA _ (.tail _ (.tail _ (.tail _ (.head _))))
              rcases List.mem_cons.mp hp with rfl | hp
              · exact NcA _ (.head _)
              rcases List.mem_cons.mp hp with rfl | hp
              · exact NcA _ (.tail _ (.tail _ (.tail _ (.tail _ (.head _)))))
              rcases List.mem_cons.mp hp with rfl | hp
              · exact NcA _ (.tail _ (.tail _ (.tail _ (.tail _ (.tail _ (.head _))))))
              rcases List.mem_cons.mp hp with rfl | hp
              · exact NcA _ (.tail _ (.tail _ (.tail _ (.tail _ (.tail _ (.tail _ (.head _)))))))
              · exact ⟨(hitA p hp).2, (hitA p hp).1.2.1, (hitA p hp).1.1⟩
            have off8 : LCg.Off3 I C DD ((lh, listO vs8 n8) :: (D9, LCg.lst ys') :: (s₁.heap.objs.size + 1 + 1, oh) :: (s₁.heap.objs.size + 1, oc) :: items8) := LCg.Off3.of fun p hp => by
              rcases List.mem_cons.mp hp with rfl | hp
              · exact offl
              rcases List.mem_cons.mp hp with rfl | hp
              · exact off' _ (.tail _ (.head _))
              rcases List.mem_cons.mp hp with rfl | hp
              · exact off' _ (.tail _ (.tail _ (.head _)))
              rcases List.mem_cons.mp hp with rfl | hp
              · exact off' _ (.tail _ (.tail _ (.tail _ (.head _))))
              · exact (hitA p hp).1.2.2.2
            have gT := k8 _ _ g1
            clear NcA NcB F N R8 hok
            dsimp only
            (repeat' (first | ((with_reducible refine ⟨(by k_in : Frag.In _ _), ?_⟩); (try dsimp only [List.nil_append, List.cons_append])) | ((fail_if_success k_end); (fail_if_success (with_reducible (first | show At (call (.ref _) _ _) | show At (exec (.While _ _ _ _) _) | show At (exec (.For _ _ _ _ _) _) | show At (call (.type "range") _ _) | show At (pyIter _) | show At (eval (.ListComp _ _ _ _) _) | show At (eval (.DictComp _ _ _ _ _) _) | show At (subscriptTail _ _ _ _) | (show At (compareOp _ _ _); fail_if_success show At (compareOp _ (.int _ _) (.int _ _))) | show At (setItem _ _ _) | show At (call (.builtin _) _ _) | show At (exec (.Assign _ (.ListComp _ _ _ _) _) _) | show At (call (.type "enumerate") _ _)))); (walk1; try dsimp only))))
            refine item_tupleT (l := [.ref iw, .int ox.2 tn]) (j := 1) ⟨_, gT, rfl, _, rfl⟩ (by decide) (by decide) (by rfl) (by rfl) ?_
            refine LCg.CompEnd.intro F8 N8 _ (fun p hp => hp) off8 trivial (.mk _ _ _ (fun p hp => (hitA p hp).1.2.2.1) hitB ?_)
            rw [List.take_add_one, show ([(itemT xa).2, (itemT xb).2, (itemT xc).2] : List Int)[i]? = some ox.2 by
              rw [show ([(itemT xa).2, (itemT xb).2, (itemT xc).2] : List Int) = [itemT xa, itemT xb, itemT xc].map (·.2) from rfl, List.getElem?_map, hox]; rfl]
            exact hyy.append (.cons _ _ .nil)
          · rintro yy nw ⟨vs, n', its, hits, hI, hyy⟩
            intro D8 h8 tk8 F8 N8 o8
            dsimp only
            (repeat' (first | ((with_reducible refine ⟨(by k_in : Frag.In _ _), ?_⟩); (try dsimp only [List.nil_append, List.cons_append])) | ((fail_if_success k_end); (fail_if_success (with_reducible (first | show At (call (.ref _) _ _) | show At (exec (.While _ _ _ _) _) | show At (exec (.For _ _ _ _ _) _) | show At (call (.type "range") _ _) | show At (pyIter _) | show At (eval (.ListComp _ _ _ _) _) | show At (eval (.DictComp _ _ _ _ _) _) | show At (subscriptTail _ _ _ _) | (show At (compareOp _ _ _); fail_if_success show At (compareOp _ (.int _ _) (.int _ _))) | show At (setItem _ _ _) | show At (call (.builtin _) _ _) | show At (exec (.Assign _ (.ListComp _ _ _ _) _) _) | show At (call (.type "enumerate") _ _)))); (walk1; try dsimp only))))
            have N8' : News s₁.heap s₁.heap.objs.size h8 [(D8, LCg.lst yy), (D9, LCg.lst ys')] := news_sub N8 (by kcf_all)
            clear N8 N6
            refine LCg.ListComp_U (F₀ := F8) (by with_unfolding_all rfl) (by decide) (by rfl) (by decide) (by rfl) ?_
            (repeat' (first | ((with_reducible refine ⟨(by k_in : Frag.In _ _), ?_⟩); (try dsimp only [List.nil_append, List.cons_append])) | ((fail_if_success k_end); (fail_if_success (with_reducible (first | show At (call (.ref _) _ _) | show At (exec (.While _ _ _ _) _) | show At (exec (.For _ _ _ _ _) _) | show At (call (.type "range") _ _) | show At (pyIter _) | show At (eval (.ListComp _ _ _ _) _) | show At (eval (.DictComp _ _ _ _ _) _) | show At (subscriptTail _ _ _ _) | (show At (compareOp _ _ _); fail_if_success show At (compareOp _ (.int _ _) (.int _ _))) | show At (setItem _ _ _) | show At (call (.builtin _) _ _) | show At (exec (.Assign _ (.ListComp _ _ _ _) _) _) | show At (call (.type "enumerate") _ _)))); (walk1; try dsimp only))))
            refine kso_sorted F8 N8' ⟨_, (N8' (D9, LCg.lst ys') (.tail _ (.head _))).1, rfl, _, rfl⟩ hys' (by rw [List.length_map, hlen3]; decide) ?_
            intro D10 vs10 ns10 c10 h10 F10 N10 l10 hi10 hlen10 hpm hpw _
            rw [hnabc] at hpm
            have hns : ns10 = [(xa : Int), (xb : Int), (xc : Int)] := rising_eq (hpm.trans (hperm.symm.map fun n : Nat => (n : Int))) hpw (by simp; omega)
            have hvl : vs10.length = 3 := by rw [hi10.length, hns]; rfl
            have hx3 : ∀ (i : Nat) (z : Int), ([(xa : Int), (xb : Int), (xc : Int)])[i]? = some z → ∃ n : Nat, z = n ∧ n < 128 := fun i z e => by
              have hm : ∀ x, x ∈ [xa, xb, xc] → x < 128 := fun x hx => hnn x (by rw [hnabc]; exact hperm.mem_iff.mp hx)
              match i, e with
              | 0, e => cases e; exact ⟨xa, rfl, hm xa (by simp)⟩
              | 1, e => cases e; exact ⟨xb, rfl, hm xb (by simp)⟩
              | 2, e => cases e; exact ⟨xc, rfl, hm xc (by simp)⟩
              | i + 3, e => simp at e
            refine LCg.CompSrc.ledger (its := vs10.toArray) rfl F10 N10 (.head _) (by rw [sizeLine_eq, List.size_toArray, hvl]; decide) fun g11 => ?_
            refine rest_loop (fun i zz nw => nw = [(D10, PySem.W.listOf vs10.toArray c10), (D8, LCg.lst yy), (D9, LCg.lst ys')] ∧ IntsAre zz (([(itemT xa).2, (itemT xb).2, (itemT xc).2]).take i)) ?_ ?_ ⟨rfl, .nil⟩
            · rintro i zz nw hi ⟨rfl, hzz⟩ v I oI C oC DD m₂ h tk E' hv hC hx F N off ne
              obtain ⟨nz, tz, hnz, rfl⟩ := ints_at hi10 (show vs10[i]? = some v by simpa using hv)
              rw [hns] at hnz
              obtain ⟨n, rfl, hn128⟩ := hx3 i nz hnz
              (repeat' (first | ((with_reducible refine ⟨(by k_in : Frag.In _ _), ?_⟩); (try dsimp only [List.nil_append, List.cons_append])) | ((fail_if_success k_end); (fail_if_success (with_reducible (first | show At (call (.ref _) _ _) | show At (exec (.While _ _ _ _) _) | show At (exec (.For _ _ _ _ _) _) | show At (call (.type "range") _ _) | show At (pyIter _) | show At (eval (.ListComp _ _ _ _) _) | show At (eval (.DictComp _ _ _ _ _) _) | show At (subscriptTail _ _ _ _) | (show At (compareOp _ _ _); fail_if_success show At (compareOp _ (.int _ _) (.int _ _))) | show At (setItem _ _ _) | show At (call (.builtin _) _ _) | show At (exec (.Assign _ (.ListComp _ _ _ _) _) _) | show At (call (.type "enumerate") _ _)))); (walk1; try dsimp only))))
              refine raised_spec hn128 (W.keeps F.keep) (callerA_room _).1 (callerA_room _).2 rfl ?_
              intro h12 tk12 t12 k12
              have F12 := fr_stays F k12
              have N12 := news_stays N k12
              clear k12 F N
              dsimp only
              refine LCg.CompEnd.intro F12 N12 _ (fun p hp => hp) off (.inr ⟨_, .head _, rfl, _, rfl⟩) ⟨rfl, ?_⟩
              have e3 : ([(itemT xa).2, (itemT xb).2, (itemT xc).2] : List Int)[i]? = some ((raT n : Nat) : Int) := by
                match i, hnz with
                | 0, e => cases Int.ofNat.inj (Option.some.inj e); rfl
                | 1, e => cases Int.ofNat.inj (Option.some.inj e); rfl
                | 2, e => cases Int.ofNat.inj (Option.some.inj e); rfl
                | i + 3, e => simp at e
              rw [List.take_add_one, e3]
              exact hzz.append (.cons _ _ .nil)
            · rintro zz nw ⟨rfl, hzz⟩
              intro D14 h14 tk14 F14 N14 o14
              dsimp only
              rw [List.size_toArray, hvl] at hzz
              refine ke_eq_ints ⟨_, (N14 (D8, LCg.lst yy) (.tail _ (.tail _ (.head _)))).1, rfl, _, rfl⟩ ⟨_, (N14 _ (.head _)).1, rfl, _, rfl⟩ hyy hzz (Nat.lt_trans (Nat.add_lt_add_left (by decide) _) (callerA_room _).1) ?_
              rw [decide_eq_true rfl]
              exact hfin _ _ F14 rfl rfl))
end Mine
theorem PySem.Challenge.cw_ik0179_01_holds : PySem.Challenge.rw_ik0179_01.Holds := by
  exact Mine.law_holds
