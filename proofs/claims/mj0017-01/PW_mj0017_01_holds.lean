import PyProof.Rows.All
import Wide.All
import OpenK.AllK
import Wide.FinOn
import PyProof.FactsAll.tuple
import PyProof.Rows.CatchStr
import PyProof.ExcStrAll.IndexError
import PySem.Challenge.RW_mj0017_01
set_option Elab.async false
section
open PySem PySem.W PyProof.Rows
namespace Mine
abbrev Itm := Int × Int × Int
abbrev tupO (p : Itm) (t1 t2 t3 : Tok) (n : Nat) : Obj := { cls := .type "tuple", data := .seq #[.int p.1 t1, .int p.2.1 t2, .int p.2.2 t3] n }
def TupIs (g : Heap) (a : Addr) (p : Itm) : Prop := ∃ t1 t2 t3 n, g.get? a = some (tupO p t1 t2 t3 n)
theorem TupIs.keeps {g g' : Heap} {a : Addr} {p : Itm} (h : TupIs g a p) (k : ∀ b o, g.get? b = some o → g'.get? b = some o) : TupIs g' a p := by
  obtain ⟨t1, t2, t3, n, ho⟩ := h
  exact ⟨t1, t2, t3, n, k _ _ ho⟩
def ltI (x y : Itm) : Bool := decide (x.1 < y.1 ∨ (x.1 = y.1 ∧ (x.2.1 < y.2.1 ∨ (x.2.1 = y.2.1 ∧ x.2.2 < y.2.2))))
section
variable {prog : Program} {w : World} {A : Around} {E : Value → Shared → Prop} {s : Shared}
theorem tuple_lt_tree {a b : Addr} {p q : Itm} {t1 t2 t3 u1 u2 u3 : Tok} {n k : Nat} {P : PySem.Fin → Shared → Prop} (hx : s.heap.get? a = some (tupO p t1 t2 t3 n)) (hy : s.heap.get? b = some (tupO q u1 u2 u3 k))
    (h : P (.done (.ret (.bool (ltI p q)))) s) : wpAny (model prog w) A (Builtin.«tuple.__lt__» ⟨[.ref a, .ref b], []⟩) P E s := by
  show wpAny _ _ (isInstance (.ref b) (.type "tuple") >>= _) _ _ s
  refine wpAny_bind (wpAny_isInstance (T := "tuple") ⟨_, hy, rfl⟩ isSubtype_tuple_tuple ?_)
  simp only [Bool.not_true, Bool.false_eq_true, if_false]
  refine wpAny_bind (wpAny_tupleItemsOf hx rfl ?_)
  refine wpAny_bind (wpAny_tupleItemsOf hy rfl ?_)
  refine wpAny_bind ?_
  simp only [List.zip_cons_cons, List.zip_nil_right]
  rw [List.forIn_cons]
  refine wpAny_bind (wpAny_bind (wpAny_eqBool_int ?_))
  by_cases e1 : p.1 = q.1
  · rw [beq_iff_eq.mpr e1]
    simp only [Bool.not_true, Bool.false_eq_true, if_false]
    refine wpAny_pure ?_
    dsimp only
    rw [List.forIn_cons]
    refine wpAny_bind (wpAny_bind (wpAny_eqBool_int ?_))
    by_cases e2 : p.2.1 = q.2.1
    · rw [beq_iff_eq.mpr e2]
      simp only [Bool.not_true, Bool.false_eq_true, if_false]
      refine wpAny_pure ?_
      dsimp only
      rw [List.forIn_cons]
      refine wpAny_bind (wpAny_bind (wpAny_eqBool_int ?_))
      by_cases e3 : p.2.2 = q.2.2
      · rw [beq_iff_eq.mpr e3]
        simp only [Bool.not_true, Bool.false_eq_true, if_false]
        refine wpAny_pure ?_
        dsimp only
        rw [List.forIn_nil]
        refine wpAny_pure ?_
        refine wpAny_pure ?_
        have : ltI p q = false := by simp [ltI, e1, e2, e3]
        rw [this] at h
        exact h
      · rw [beq_eq_false_iff_ne.mpr e3]
        simp only [Bool.not_false, if_true]
        refine wpAny_bind (wpAny_rule (wpAny_bind ?_))
        refine wpAny_mono (lt_int (Q := fun v s' => v = .bool (ltI p q) ∧ s' = s) (E := E) ⟨by simp [ltI, e1, e2], rfl⟩) ?_ (fun _ _ x => x)
        rintro v s' ⟨rfl, rfl⟩
        exact wpAny_bind (wpAny_pure (wpAny_pure (wpAny_pure (wpAny_pure h))))
    · rw [beq_eq_false_iff_ne.mpr e2]
      simp only [Bool.not_false, if_true]
      refine wpAny_bind (wpAny_rule (wpAny_bind ?_))
      refine wpAny_mono (lt_int (Q := fun v s' => v = .bool (ltI p q) ∧ s' = s) (E := E) ⟨by simp [ltI, e1, e2], rfl⟩) ?_ (fun _ _ x => x)
      rintro v s' ⟨rfl, rfl⟩
      exact wpAny_bind (wpAny_pure (wpAny_pure (wpAny_pure (wpAny_pure h))))
  · rw [beq_eq_false_iff_ne.mpr e1]
    simp only [Bool.not_false, if_true]
    refine wpAny_bind (wpAny_rule (wpAny_bind ?_))
    refine wpAny_mono (lt_int (Q := fun v s' => v = .bool (ltI p q) ∧ s' = s) (E := E) ⟨by simp [ltI, e1], rfl⟩) ?_ (fun _ _ x => x)
    rintro v s' ⟨rfl, rfl⟩
    exact wpAny_bind (wpAny_pure (wpAny_pure (wpAny_pure (wpAny_pure h))))
theorem lt_tup {v u : Addr} {p q : Itm} {Q : Value → Shared → Prop} (hx : TupIs s.heap v p) (hy : TupIs s.heap u q) (hu : A.units < cLine) (h : Q (.bool (ltI p q)) s) :
    wpAny (model prog w) A (compareOp .Lt (.ref v) (.ref u)) Q E s := by
  obtain ⟨t1, t2, t3, n, ho⟩ := hx
  obtain ⟨u1, u2, u3, k, ho'⟩ := hy
  refine cmp_ofLt ?_
  exact wpAny_richCompare_same_room (op := .Lt) ⟨_, ho, rfl⟩ ⟨_, ho', rfl⟩ F.slot_tuple_lt
      (wpAny_call_entry F.slot_tuple_lt ⟨_, ho, rfl⟩ F.entry_tuple_lt (tuple_lt_tree ho ho' ⟨_, rfl, (fun e => nomatch e), h⟩) (F.args_tuple_lt_2 _ _)) hu
end
end Mine
end

section
open PySem PySem.W PySem.Calls PyProof.Rows
namespace Mine
section
variable {prog : Program} {w : World} {A₀ A : Around} {s : Shared} {base h₀ : Heap} {outer : List Env} {L : Addr} {m mg mb : Str → Option Value} {env : Env} {news : List (Addr × Obj)} {K : Frag} {p : Program} {loose : List Str} {mean : ExcName → Option Value}
  {R : Result → Shared → Prop} {name qual : Str} {params : Arguments} {body : List Stmt} {scope : Scope} {dV kV doc pm cdv ct oc : Value} {an od : Option Addr} {osl : Array (Option Value)} {f : Addr} {args : Args} {binds : List (Str × Value)}
/-- what a def leaves behind: its own frame and its own objects still read, and the result is as wanted -/
def Back (g : Heap) (R : Result → Shared → Prop) (v : Value) (s' : Shared) : Prop := ∃ L' m' news', Fr g L' s'.heap m' ∧ News g L' s'.heap news' ∧ R (.ok (.ret v)) s'
theorem Back.intro {g : Heap} {L' : Addr} {m' : Str → Option Value} {news' : List (Addr × Obj)} {R : Result → Shared → Prop} {v : Value} {s' : Shared} (F : Fr g L' s'.heap m') (N : News g L' s'.heap news') (r : R (.ok (.ret v)) s') : Back g R v s' := ⟨_, _, _, F, N, r⟩
theorem enter (B : Below A₀ base outer h₀) (F : Fr h₀ L s.heap m) (X₀ : K.In h₀) (N : News h₀ L s.heap news) (T : Top p loose mean mg mb h₀) (hA : A.frames = some (env :: outer)) (hf : env.frame = some L) (hke : env.scope.kind = .function)
    (ho : K.lookup f = some ⟨oc, od, .func (fnOf name qual params body scope dV kV doc pm an cdv ct), osl⟩) (hcd : codeIn K cdv qual = true) (hroom : A.depth < recursionLimit)
    (hbind : BindsTo s (fnOf name qual params body scope dV kV doc pm an cdv ct) args binds) (hloc : ∀ y ∈ binds, scope.names.lookup y.1 = some .local)
    (h : ∀ g L' h₁, GSub s.heap g (news.map (·.1)) → Fr g L' h₁ (fun y => binds.reverse.lookup y) → News g L' h₁ news → Below A base (env :: outer) g → K.In g → Top p loose mean mg mb g →
      wpAny (model prog w) (A.deeper (envOf qual scope L' f cdv)) (execs body (envOf qual scope L' f cdv)) (fun fl s' => Back g R (match fl with | .ret v => v | _ => .none) s')
        (fun e s' => wpAny (model prog w) (A.deeper (envOf qual scope L' f cdv)) (leaving (envOf qual scope L' f cdv) e) (fun _ s'' => R (.error e) s'') (fun e' s'' => R (.error e') s'') s')
        { s with heap := h₁, toks := s.toks + binds.length })
    (hco : scope.isCoroutine = false) (hgen : scope.isGenerator = false) (hk : scope.kind = .function)
    (hcell : ∀ x ∈ scope.names, x.2 ≠ .cell) : codeAny (model prog w) A (.call (.ref f) args) R s :=
  code_defG B F X₀ N T hA hf hke ho hcd hroom hbind hloc (fun g L' h₁ _ F' N' B' X' T' hg => wpAny_mono (h g L' h₁ hg F' N' B' X' T') (fun _ _ ⟨_, _, _, F₂, N₂, r⟩ => leaveK_ F₂ N₂ fun _ _ => r) fun _ _ y => y) hco hgen hk hcell
end
/-- everything but what lies at l stays -/
def Keeps (l : Addr) (h h' : Heap) : Prop := ∀ b o, h.get? b = some o → b ≠ l → h'.get? b = some o
theorem Keeps.fr {l L : Addr} {h₀ h h' : Heap} {m : Str → Option Value} (k : Keeps l h h') (F : Fr h₀ L h m) (hl : h₀.get? l = none) (hL : l ≠ L) : Fr h₀ L h' m := by
  obtain ⟨oL, es, ep, hL', r⟩ := F.ns
  refine ⟨⟨oL, es, ep, k _ _ hL' (Ne.symm hL), r⟩, fun b o e => k _ _ (F.keep b o e) fun q => ?_, F.above⟩
  rw [q, hl] at e; cases e
theorem Keeps.news {l L : Addr} {h₀ h h' : Heap} {news : List (Addr × Obj)} (k : Keeps l h h') (N : News h₀ L h news) (hn : ∀ p ∈ news, p.1 ≠ l) : News h₀ L h' news :=
  fun p hp => ⟨k _ _ (N p hp).1 (hn p hp), (N p hp).2⟩
abbrev Cell := Addr × Itm
/-- the values of a list of cells -/
abbrev vals (l : List Cell) : List Value := l.map fun c => Value.ref c.1
def Cells (g : Heap) (l : List Cell) : Prop := ∀ c ∈ l, TupIs g c.1 c.2
theorem Cells.keeps {g g' : Heap} {l : List Cell} (h : Cells g l) (k : ∀ b o, g.get? b = some o → g'.get? b = some o) : Cells g' l := fun c hc => (h c hc).keeps k
theorem TupIs.but {h g : Heap} {l a : Addr} {p : Itm} {xs : Array Value} {n : Nat} (t : TupIs h a p) (hl : h.get? l = some (listOf xs n)) (k : ∀ b o, h.get? b = some o → b ≠ l → g.get? b = some o) : TupIs g a p := by
  obtain ⟨t1, t2, t3, c, ho⟩ := t
  refine ⟨t1, t2, t3, c, k _ _ ho fun q => ?_⟩
  rw [q, hl] at ho
  simp at ho
theorem Cells.but {h g : Heap} {l : Addr} {cs : List Cell} {xs : Array Value} {n : Nat} (t : Cells h cs) (hl : h.get? l = some (listOf xs n)) (k : ∀ b o, h.get? b = some o → b ≠ l → g.get? b = some o) : Cells g cs :=
  fun c hc => (t c hc).but hl k
theorem Cells.at {g : Heap} {l : List Cell} (h : Cells g l) {i : Nat} (hi : i < l.length) : TupIs g (l.getD i default).1 (l.getD i default).2 := by
  have e : l.getD i default = l[i] := by simp [hi]
  rw [e]
  exact h _ (List.getElem_mem hi)
theorem Cells.set {g : Heap} {l : List Cell} (h : Cells g l) {i : Nat} {c : Cell} (hc : TupIs g c.1 c.2) : Cells g (l.set i c) := fun d hd => by
  rcases List.mem_or_eq_of_mem_set hd with q | rfl
  · exact h d q
  · exact hc
theorem vals_get {l : List Cell} {i : Nat} (hi : i < l.length) : (vals l).toArray[i]? = some (Value.ref (l.getD i default).1) := by
  have e : l.getD i default = l[i] := by simp [hi]
  simp [vals, e, hi]
section
variable {prog : Program} {w : World} {A : Around} {E : Value → Shared → Prop} {s : Shared} {h₀ : Heap} {L D : Addr} {m : Str → Option Value} {news news' : List (Addr × Obj)} {cells : List Cell} {n : Nat} {k : Int} {t u : Tok}
theorem get_cell {Q : Value → Shared → Prop} (N : News h₀ L s.heap news) (hm : (D, listOf (vals cells).toArray n) ∈ news) (h0 : 0 ≤ k) (h1 : k < (cells.length : Int)) (hfit : k < 2 ^ 63) (h : Q (.ref (cells.getD k.toNat default).1) s) :
    wpAny (model prog w) A (getItem (.ref D) (.int k u)) Q E s :=
  wpAny_getItem_list (PySem.IsL.isList (n := n) (N _ hm).1) h0 hfit (vals_get (by omega)) h
theorem sub_cell {value slice : PySem.Expr} {Q : Value → Shared → Prop} (N : News h₀ L s.heap news) (hm : (D, listOf (vals cells).toArray n) ∈ news) (h0 : 0 ≤ k) (h1 : k < (cells.length : Int)) (hfit : k < 2 ^ 63) (h : Q (.ref (cells.getD k.toNat default).1) s)
    (hs : subscripted slice false (.ref D) (.int k u) = operate [.ref D, .int k u] (getItem (.ref D) (.int k u)) := by with_unfolding_all rfl) :
    wpAny (model prog w) A (subscriptTail value slice (.ref D) (.int k u)) Q E s :=
  tail_any (IsL.isList (n := n) (N _ hm).1).typeIs slot_list_getitem.lookup (get_cell N hm h0 h1 hfit h) hs
theorem set_cell {c : Cell} {Q : Unit → Shared → Prop} (F : Fr h₀ L s.heap m) (N : News h₀ L s.heap news) (U : Upd D (listOf (vals cells).toArray n) (listOf (vals (cells.set k.toNat c)).toArray n) news news') (h0 : 0 ≤ k) (h1 : k < (cells.length : Int)) (hfit : k < 2 ^ 63)
    (h : ∀ h', Fr h₀ L h' m → News h₀ L h' news' → Q () { s with heap := h' }) :
    wpAny (model prog w) A (setItem (.ref D) (.int k t) (.ref c.1)) Q E s := by
  obtain ⟨pre, post, rfl, rfl, a, b⟩ := U.split
  have z := N (D, listOf (vals cells).toArray n) (List.mem_append.mpr (.inr (.head _)))
  refine ki_setAt z.1 h0 hfit (by simp; omega) (h _ (F.change (Heap.SameBut.update ..) z.2.1 z.2.2) (ki_turn _ N a b ?_ ?_))
  · apply Array.toList_inj.mp
    simp [vals, List.map_set]
  · simp
theorem len_cell {Q : Value → Shared → Prop} (N : News h₀ L s.heap news) (hm : (D, listOf (vals cells).toArray n) ∈ news) (h64 : cells.length < 64) (h : ∀ t tk, Q (.int (cells.length : Int) t) { s with toks := tk }) :
    wpAny (model prog w) A (call (.builtin "len") [.ref D]) Q E s := by
  have hl := PySem.IsL.isList (n := n) (N _ hm).1
  have e : (vals cells).toArray.size = cells.length := by simp
  refine len_list hl (by rw [e]; omega) ?_
  rw [e]
  exact h _ _
end
end Mine
end

section
open PySem PySem.W PyProof.Rows
namespace Mine
set_option maxRecDepth 100000 in
set_option maxHeartbeats 8000000 in
open_top hd for PySem.Challenge.rw_mj0017_01
end Mine
end

section
local macro_rules | `(tactic| walk_at "mine pad") => `(tactic| fail "pad")
theorem Mine.resetM3 : True := by
  w_top off
  k_with_none
  exact trivial
open PySem PySem.W PySem.Calls PyProof.Rows
namespace Mine
/-- a def at f, called in s with these arguments: it ends, and what it gives back and the heap behind it are as told; d frames deep, it writes at muts alone -/
def Does (w : World) (f : Addr) (d : Nat) (muts : List Addr) (s : Shared) (args : List Value) (Post : Value → Heap → Prop) : Prop :=
  ∀ (dp un : Nat) (gd : Option (List Code)) (cn : Str) (cs : Scope) (a : Addr) (ccd : Value) (cl : List (Str × Addr)) (outer : List Env) (A₀ : Around) (base h₀ : Heap) (L : Addr) (m : Str → Option Value)
    (p : Program) (loose : List Str) (mean : ExcName → Option Value) (mg mb : Str → Option Value) (Q E : Value → Shared → Prop),
    Below A₀ base outer h₀ → Fr h₀ L s.heap m → (hd.heap_39 w.params).In h₀ → Top p loose mean mg mb h₀ → cs.kind = .function → (∀ b ∈ muts, b ≠ L ∧ h₀.get? b = none) → dp + d < recursionLimit → un + 100 * d < cLine →
    (∀ v h' tk', Post v h' → Q v { s with heap := h', toks := tk' }) →
    wpAny (model PySem.Challenge.rw_mj0017_01.row.prog w) (ktrTop dp un gd cn cs L a ccd cl outer) (call (.ref f) args) Q E s

/-- the sift towards the root, c the item that is carried -/
def sd (c : Cell) (l : List Cell) (pos : Nat) : List Cell :=
  if pos = 0 then l.set pos c else
  if ltI c.2 (l.getD ((pos - 1) / 2) default).2 then sd c (l.set pos (l.getD ((pos - 1) / 2) default)) ((pos - 1) / 2) else l.set pos c
termination_by pos
decreasing_by omega

theorem Cells.tup {g h : Heap} {L : Addr} {m : Str → Option Value} {l : List Cell} {i : Nat} (hc : Cells g l) (F : Fr g L h m) (hi : i < l.length) : TupIs h (l.getD i default).1 (l.getD i default).2 := (hc.at hi).keeps F.keep

section
variable {prog : Program} {w : World} {A : Around} {E : Value → Shared → Prop} {s : Shared}
theorem shr1 {x : Int} {t u : Tok} {Q : Value → Shared → Prop} (y : Nat) (e : x = (y : Int)) (h : Q (.int ((y / 2 : Nat) : Int) s.toks) { s with toks := s.toks + 1 }) : wpAny (model prog w) A (binaryOp .RShift (.int x t) (.int 1 u)) Q E s := by
  refine rshift_int (by decide) ?_
  have e' : x.fdiv (2 ^ Int.toNat 1) = ((y / 2 : Nat) : Int) := by
    subst e
    show (y : Int).fdiv 2 = _
    rw [Int.fdiv_eq_ediv_of_nonneg _ (by decide)]
    omega
  rw [e']
  exact h
end

local macro_rules | `(tactic| walk_at "subscriptTail") => `(tactic| (k_here; (with_reducible show wpAny _ _ (subscriptTail _ _ (Value.ref _) (Value.int _ _)) _ _ _); k_dflt (refine' sub_cell ?k1 ?k2 ?k4 ?k5 ?k6 ?_ ?k7; (case k1 => k_asm); (case k2 => k_mem); (case k4 => omega); (case k5 => (try simp only [List.length_set]); omega); (case k6 => omega); (case k7 => with_unfolding_all rfl); k_whole); (try simp only [Int.toNat_natCast])))
local macro_rules | `(tactic| walk_at "setItem ref int") => `(tactic| (k_here; (with_reducible show wpAny _ _ (setItem (Value.ref _) (Value.int _ _) (Value.ref _)) _ _ _); k_dflt (refine' set_cell ?k1 ?k2 ?k3 ?k5 ?k6 ?k7 ?_; (case k1 => k_asm); (case k2 => k_asm); (case k3 => k_upd); (case k5 => omega); (case k6 => (try simp only [List.length_set]); omega); (case k7 => omega); k_whole); intro h' F' N'; (try simp only [Int.toNat_natCast] at N'); (try dsimp only)))
local macro_rules | `(tactic| walk_at "exec While Compare cons nil") => `(tactic| k_dflt (k_extra "while"))
local macro_rules | `(tactic| walk_at "binaryOp RShift int int") => `(tactic| k_dflt (k_extra "shr"))
local macro_rules | `(tactic| walk_at "KswEnd") => `(tactic| k_dflt (k_extra "kend"))
local macro_rules | `(tactic| walk_at "compareOp Lt ref ref") => `(tactic| (k_here; (with_reducible show wpAny _ _ (compareOp CmpOp.Lt (Value.ref _) (Value.ref _)) _ _ _); k_dflt (k_extra "lt")))
local macro_rules | `(tactic| walk_at "execs cons") => `(tactic| (dsimp only; refine wpAny_execs_cons ?_))

set_option maxRecDepth 100000 in
set_option maxHeartbeats 4000000 in
theorem siftdown_does {w : World} {s : Shared} {l : Addr} {cells : List Cell} {n pos : Nat} {t0 t1 : Tok} (hl : s.heap.get? l = some (listOf (vals cells).toArray n)) (hc : Cells s.heap cells) (hp : pos < cells.length) (h64 : cells.length < 64) :
    Does w 35 1 [l] s [.ref l, .int 0 t0, .int pos t1] (fun v h' => v = .none ∧ Keeps l s.heap h' ∧ h'.get? l = some (listOf (vals (sd (cells.getD pos default) cells pos)).toArray n)) := by
  unfold Does; k_fill
  intro dp un gd cn cs a ccd cl outer A₀ base h₀ L m p loose mean mg mb Q E B F X T hk hm hd hu hret
  have N : News h₀ L s.heap [(l, listOf (vals cells).toArray n)] := fun q hq => by
    obtain rfl := List.mem_singleton.mp hq
    exact ⟨hl, (hm l (.head _)).1, (hm l (.head _)).2⟩
  refine wpAny_call ?_
  k_dflt (refine' enter (binds := [(Str.ofString "heap", .ref l), (Str.ofString "startpos", .int 0 t0), (Str.ofString "pos", .int pos t1)]) ?k1 ?k2 ?k3 ?k4 ?k5 ?kA ?kF ?kK ?k6 ?k7 ?k8 ?k9 ?kB ?_ ?c2 ?c3 ?c4 ?c5; (case kA => exact rfl); (case kF => exact rfl); (case kK => assumption); (case k1 => k_asm); (case k2 => k_asm); (case k3 => k_asm); (case k4 => k_asm); (case k5 => k_asm); (case k6 => k_is); (case k7 => k_is); (case k8 => ktr_room); (case k9 => exact BindsTo.of_eq rfl); (case c5 => decide); (case kB => exact locs rfl); (case c2 => exact rfl); (case c3 => exact rfl); (case c4 => exact rfl))
  intro g L' h' hg F' N' B' X' T'
  have hcg : Cells g cells := hc.but hl fun b o e n => hg b o e (by simpa using n)
  clear N F X T B
  dsimp only
  (try k_unmd)
  k_fold
  k_with_none
  k_with "while" => (refine ksw_while (σ := List Cell × Nat × Tok) (fun c => [(l, listOf (vals c.1).toArray n)]) (fun c => [(Str.ofString "pos", .int c.2.1 c.2.2)]) (fun c => Cells g c.1 ∧ c.1.length = cells.length ∧ c.2.1 < cells.length) [Str.ofString "parentpos", Str.ofString "parent"] (fun c => sd (cells.getD pos default) c.1 c.2.1 = sd (cells.getD pos default) cells pos) (fun c => c.2.1) (cells, pos, t1) (by k_asm) (by k_asm) ⟨hcg, rfl, hp⟩ (by intro q hq; obtain rfl := List.mem_singleton.mp hq; rfl) rfl ?_; rintro ⟨cs', p', t'⟩ u h tk ⟨hc1, hc2, hc3⟩ hc4 F N; dsimp only at hc1 hc2 hc3 hc4 N; dsimp only [kstB] at F)
  k_with "shr" => (refine shr1 (p' - 1) (by omega) ?_)
  k_with "lt" => (refine lt_tup (Cells.tup (by first | exact hcg | assumption) (by k_asm) (by omega)) (Cells.tup (by first | exact hc1 | assumption) (by k_asm) (by omega)) (by show un + 3 < cLine; omega) ?_)
  k_with "kend" =>
    have hlt : ltI (cells.getD pos default).2 (cs'.getD ((p' - 1) / 2) default).2 = true := by assumption
    have hpar : (p' - 1) / 2 < cs'.length := by omega
    refine ksw_end (cs'.set p' (cs'.getD ((p' - 1) / 2) default), (p' - 1) / 2, _) (by k_asm) (by k_asm) (fun q hq => hq) ⟨hc1.set (hc1.at hpar), by simp [hc2], by show (p' - 1) / 2 < cells.length; omega⟩ (by intro q hq; obtain rfl := List.mem_singleton.mp hq; rfl) (by ksw_same) ?_ (by show (p' - 1) / 2 < p'; omega)
    rw [← hc4, sd.eq_1 _ cs' p', if_neg (by omega), if_pos hlt]
  repeat' (first | (k_unfold; (try dsimp only)) | (walk1; (try dsimp only)) | fail "no step")
  · rename_i F9 N9
    have hlt : ltI (cells.getD pos default).2 (cs'.getD ((p' - 1) / 2) default).2 = false := by assumption
    refine Back.intro F9 N9 (hret _ _ _ ⟨rfl, ?_, ?_⟩)
    · intro b o e hb
      exact F9.keep _ _ (hg b o e (by simpa using hb))
    · rw [← hc4, sd.eq_1 _ cs' p', if_neg (by omega), if_neg (by rw [hlt]; decide)]
      exact (N9 _ (.head _)).1
  · rename_i F9 N9
    refine Back.intro F9 N9 (hret _ _ _ ⟨rfl, ?_, ?_⟩)
    · intro b o e hb
      exact F9.keep _ _ (hg b o e (by simpa using hb))
    · rw [← hc4, sd.eq_1 _ cs' p', if_pos (by omega)]
      exact (N9 _ (.head _)).1
end Mine
end

section
local macro_rules | `(tactic| walk_at "mine pad") => `(tactic| fail "pad")
local macro_rules | `(tactic| walk_at "mine pad") => `(tactic| fail "pad")
local macro_rules | `(tactic| walk_at "mine pad") => `(tactic| fail "pad")
local macro_rules | `(tactic| walk_at "mine pad") => `(tactic| fail "pad")
local macro_rules | `(tactic| walk_at "mine pad") => `(tactic| fail "pad")
local macro_rules | `(tactic| walk_at "mine pad") => `(tactic| fail "pad")
local macro_rules | `(tactic| walk_at "mine pad") => `(tactic| fail "pad")
local macro_rules | `(tactic| walk_at "mine pad") => `(tactic| fail "pad")
local macro_rules | `(tactic| walk_at "mine pad") => `(tactic| fail "pad")
theorem Mine.resetM4 : True := by
  w_top off
  k_with_none
  exact trivial
open PySem PySem.W PySem.Calls PyProof.Rows
namespace Mine
theorem Does.use {w : World} {f : Addr} {d : Nat} {muts : List Addr} {s : Shared} {args : List Value} {Post : Value → Heap → Prop} (D : Does w f d muts s args Post)
    {dp un : Nat} {gd : Option (List Code)} {cn : Str} {cs : Scope} {a : Addr} {ccd : Value} {cl : List (Str × Addr)} {outer : List Env} {A₀ : Around} {base h₀ : Heap} {L : Addr} {m : Str → Option Value}
    {p : Program} {loose : List Str} {mean : ExcName → Option Value} {mg mb : Str → Option Value} {Q E : Value → Shared → Prop}
    (B : Below A₀ base outer h₀) (F : Fr h₀ L s.heap m) (X : (hd.heap_39 w.params).In h₀) (T : Top p loose mean mg mb h₀) (hk : cs.kind = .function) (hm : ∀ b ∈ muts, b ≠ L ∧ h₀.get? b = none) (hd : dp + d < recursionLimit) (hu : un + 100 * d < cLine)
    (ret : ∀ v h' tk', Post v h' → Q v { s with heap := h', toks := tk' }) :
    wpAny (model PySem.Challenge.rw_mj0017_01.row.prog w) (ktrTop dp un gd cn cs L a ccd cl outer) (call (.ref f) args) Q E s := D _ _ _ _ _ _ _ _ _ _ _ _ _ _ _ _ _ _ _ _ _ B F X T hk hm hd hu ret

/-- the child that is drawn up -/
def child (l : List Cell) (pos : Nat) : Nat :=
  if 2 * pos + 2 < l.length ∧ ltI (l.getD (2 * pos + 1) default).2 (l.getD (2 * pos + 2) default).2 = false then 2 * pos + 2 else 2 * pos + 1
theorem child_gt (l : List Cell) (pos : Nat) : pos < child l pos := by unfold child; split <;> omega
theorem child_lt {l : List Cell} {pos : Nat} (h : 2 * pos + 1 < l.length) : child l pos < l.length := by unfold child; split <;> omega
def su (l : List Cell) (pos : Nat) : List Cell × Nat :=
  if 2 * pos + 1 < l.length then su (l.set pos (l.getD (child l pos) default)) (child l pos) else (l, pos)
termination_by l.length - pos
decreasing_by have := child_gt l pos; rw [List.length_set]; omega
theorem su_len (l : List Cell) (pos : Nat) : (su l pos).1.length = l.length := by
  induction l, pos using su.induct with
  | case1 l pos h ih => rw [su, if_pos h, ih, List.length_set]
  | case2 l pos h => rw [su, if_neg h]
theorem su_lt (l : List Cell) (pos : Nat) (hp : pos < l.length) : (su l pos).2 < l.length := by
  induction l, pos using su.induct with
  | case1 l pos h ih => rw [su, if_pos h]; simpa using ih (by rw [List.length_set]; exact child_lt h)
  | case2 l pos h => rw [su, if_neg h]; exact hp
def siftup (l : List Cell) : List Cell :=
  let r := su l 0
  sd (l.getD 0 default) (r.1.set r.2 (l.getD 0 default)) r.2
theorem two_one (p : Nat) : (2 : Int) * (p : Int) + 1 = ((2 * p + 1 : Nat) : Int) := by omega
theorem plus_one (p : Nat) : (p : Int) + 1 = ((p + 1 : Nat) : Int) := by omega
theorem Cells.siftsTo {g : Heap} {c : Cell} {l : List Cell} {pos : Nat} (h : Cells g l) (hc : TupIs g c.1 c.2) (hp : pos < l.length) : Cells g (sd c l pos) := by
  induction l, pos using sd.induct c with
  | case1 l => rw [sd, if_pos rfl]; exact h.set hc
  | case2 l pos h0 h1 ih => rw [sd, if_neg h0, if_pos h1]; exact ih (h.set (h.at (by omega))) (by rw [List.length_set]; omega)
  | case3 l pos h0 h1 => rw [sd, if_neg h0, if_neg h1]; exact h.set hc
theorem Cells.drawn {g : Heap} {l : List Cell} {pos : Nat} (h : Cells g l) : Cells g (su l pos).1 := by
  induction l, pos using su.induct with
  | case1 l pos h1 ih => rw [su, if_pos h1]; exact ih (h.set (h.at (child_lt h1)))
  | case2 l pos h1 => rw [su, if_neg h1]; exact h

local macro_rules | `(tactic| walk_at "subscriptTail") => `(tactic| (k_here; (with_reducible show wpAny _ _ (subscriptTail _ _ (Value.ref _) (Value.int _ _)) _ _ _); k_dflt (refine' sub_cell ?k1 ?k2 ?k4 ?k5 ?k6 ?_ ?k7; (case k1 => k_asm); (case k2 => k_mem); (case k4 => omega); (case k5 => (try simp only [List.length_set]); omega); (case k6 => omega); (case k7 => with_unfolding_all rfl); k_whole); (try simp only [Int.toNat_natCast])))
local macro_rules | `(tactic| walk_at "setItem ref int") => `(tactic| (k_here; (with_reducible show wpAny _ _ (setItem (Value.ref _) (Value.int _ _) (Value.ref _)) _ _ _); k_dflt (refine' set_cell ?k1 ?k2 ?k3 ?k5 ?k6 ?k7 ?_; (case k1 => k_asm); (case k2 => k_asm); (case k3 => k_upd); (case k5 => omega); (case k6 => (try simp only [List.length_set]); omega); (case k7 => omega); k_whole); intro h' F' N'; (try simp only [Int.toNat_natCast] at N'); (try dsimp only)))
local macro_rules | `(tactic| walk_at "call builtin:len") => `(tactic| (k_here; (with_reducible show wpAny _ _ (call (Value.builtin "len") [Value.ref _]) _ _ _); k_dflt (refine' len_cell ?k1 ?k2 ?k3 ?_; (case k1 => k_asm); (case k2 => k_mem); (case k3 => omega); k_whole); intro t' tk'; (try dsimp only)))
local macro_rules | `(tactic| walk_at "exec While Compare cons nil") => `(tactic| k_dflt (k_extra "while"))
local macro_rules | `(tactic| walk_at "binaryOp RShift int int") => `(tactic| k_dflt (k_extra "shr"))
local macro_rules | `(tactic| walk_at "KswEnd") => `(tactic| k_dflt (k_extra "kend"))
local macro_rules | `(tactic| walk_at "compareOp Lt ref ref") => `(tactic| (k_here; (with_reducible show wpAny _ _ (compareOp CmpOp.Lt (Value.ref _) (Value.ref _)) _ _ _); k_dflt (k_extra "lt")))
local macro_rules | `(tactic| walk_at "call ref") => `(tactic| k_dflt (k_extra "call"))

set_option maxRecDepth 100000 in
set_option maxHeartbeats 4000000 in
theorem siftup_does {w : World} {s : Shared} {l : Addr} {cells : List Cell} {n : Nat} {t0 : Tok} (hl : s.heap.get? l = some (listOf (vals cells).toArray n)) (hc : Cells s.heap cells) (hp : 0 < cells.length) (h64 : cells.length < 64) :
    Does w 42 2 [l] s [.ref l, .int 0 t0] (fun v h' => v = .none ∧ Keeps l s.heap h' ∧ h'.get? l = some (listOf (vals (siftup cells)).toArray n)) := by
  unfold Does; k_fill
  intro dp un gd cn cs a ccd cl outer A₀ base h₀ L m p loose mean mg mb Q E B F X T hk hm hd hu hret
  have N : News h₀ L s.heap [(l, listOf (vals cells).toArray n)] := fun q hq => by
    obtain rfl := List.mem_singleton.mp hq
    exact ⟨hl, (hm l (.head _)).1, (hm l (.head _)).2⟩
  refine wpAny_call ?_
  k_dflt (refine' enter (binds := [(Str.ofString "heap", .ref l), (Str.ofString "pos", .int 0 t0)]) ?k1 ?k2 ?k3 ?k4 ?k5 ?kA ?kF ?kK ?k6 ?k7 ?k8 ?k9 ?kB ?_ ?c2 ?c3 ?c4 ?c5; (case kA => exact rfl); (case kF => exact rfl); (case kK => assumption); (case k1 => k_asm); (case k2 => k_asm); (case k3 => k_asm); (case k4 => k_asm); (case k5 => k_asm); (case k6 => k_is); (case k7 => k_is); (case k8 => ktr_room); (case k9 => exact BindsTo.of_eq rfl); (case c5 => decide); (case kB => exact locs rfl); (case c2 => exact rfl); (case c3 => exact rfl); (case c4 => exact rfl))
  intro g L' h' hg F' N' B' X' T'
  have hcg : Cells g cells := hc.but hl fun b o e n => hg b o e (by simpa using n)
  clear N F X T B
  dsimp only
  (try k_unmd)
  k_fold
  k_with_none
  k_with "lt" => (refine lt_tup (Cells.tup (by assumption) (by k_asm) (by omega)) (Cells.tup (by assumption) (by k_asm) (by omega)) (by show un + 3 < cLine; omega) ?_)
  k_with "go" => (repeat' (first | (k_unfold; (try dsimp only)) | ((fail_if_success (with_reducible show wpAny _ _ (exec (PySem.Stmt.While _ _ _ _) _) _ _ _)); (fail_if_success (with_reducible show KswEnd _ _ _ _ _ _ _ _ _ _ _ _)); (fail_if_success (with_reducible show wpAny _ _ (PySem.call (Value.ref _) _ _) _ _ _)); walk1; (try dsimp only); (try simp only [two_one, plus_one])) | fail "no step"))
  k_extra "go"
  k_dflt (refine ksw_while (σ := List Cell × Nat × Tok × Tok) (fun c => [(l, listOf (vals c.1).toArray n)]) (fun c => [(Str.ofString "pos", .int c.2.1 c.2.2.1), (Str.ofString "childpos", .int ((2 * c.2.1 + 1 : Nat) : Int) c.2.2.2)]) (fun c => Cells g c.1 ∧ c.1.length = cells.length ∧ c.2.1 < cells.length) [Str.ofString "rightpos"] (fun c => su c.1 c.2.1 = su cells 0) (fun c => cells.length - c.2.1) (cells, 0, t0, _) (by k_asm) (by k_asm) ⟨hcg, rfl, hp⟩ (List.forall_mem_cons.mpr ⟨rfl, List.forall_mem_singleton.mpr rfl⟩) rfl ?_)
  rintro ⟨cs', p', t', t''⟩ u h tk ⟨hc1, hc2, hc3⟩ hc4 F N
  dsimp only at hc1 hc2 hc3 hc4 N; dsimp only [kstB] at F
  k_extra "go"
  · have hch : child cs' p' = 2 * p' + 1 := if_neg fun q => by
      have : ltI (cs'.getD (2 * p' + 1) default).2 (cs'.getD (2 * p' + 2) default).2 = true := by assumption
      rw [this] at q; exact absurd q.2 (by decide)
    refine ksw_end (cs'.set p' (cs'.getD (2 * p' + 1) default), 2 * p' + 1, _, _) (by k_asm) (by k_asm) (fun q hq => hq) ⟨hc1.set (hc1.at (by omega)), by simp [hc2], by show 2 * p' + 1 < cells.length; omega⟩ (List.forall_mem_cons.mpr ⟨rfl, List.forall_mem_singleton.mpr rfl⟩) (by ksw_same) ?_ (by show cells.length - (2 * p' + 1) < cells.length - p'; omega)
    rw [← hc4, su.eq_1 cs' p', if_pos (by omega), hch]
  · have hch : child cs' p' = 2 * p' + 2 := if_pos ⟨by omega, by assumption⟩
    refine ksw_end (cs'.set p' (cs'.getD (2 * p' + 2) default), 2 * p' + 2, _, _) (by k_asm) (by k_asm) (fun q hq => hq) ⟨hc1.set (hc1.at (by omega)), by simp [hc2], by show 2 * p' + 2 < cells.length; omega⟩ (List.forall_mem_cons.mpr ⟨rfl, List.forall_mem_singleton.mpr rfl⟩) (by ksw_same) ?_ (by show cells.length - (2 * p' + 2) < cells.length - p'; omega)
    rw [← hc4, su.eq_1 cs' p', if_pos (by omega), hch]
  · have hch : child cs' p' = 2 * p' + 1 := if_neg fun q => by omega
    refine ksw_end (cs'.set p' (cs'.getD (2 * p' + 1) default), 2 * p' + 1, _, _) (by k_asm) (by k_asm) (fun q hq => hq) ⟨hc1.set (hc1.at (by omega)), by simp [hc2], by show 2 * p' + 1 < cells.length; omega⟩ (List.forall_mem_cons.mpr ⟨rfl, List.forall_mem_singleton.mpr rfl⟩) (by ksw_same) ?_ (by show cells.length - (2 * p' + 1) < cells.length - p'; omega)
    rw [← hc4, su.eq_1 cs' p', if_pos (by omega), hch]
  · rename Fr _ _ _ _ => F9
    rename News _ _ _ _ => N9
    have e9 : su cells 0 = (cs', p') := by rw [← hc4, su.eq_1 cs' p', if_neg (by omega)]
    have hT0 : TupIs g (cells.getD 0 default).1 (cells.getD 0 default).2 := hcg.at hp
    have hget : (cs'.set p' (cells.getD 0 default)).getD p' default = cells.getD 0 default := by
      simp [hc2, hc3]
    k_dflt (refine Does.use (siftdown_does (cells := cs'.set p' (cells.getD 0 default)) (n := n) (pos := p') (News.get N9 (.head _)) ((hc1.set hT0).keeps F9.keep) (by rw [List.length_set]; omega) (by rw [List.length_set]; omega)) (by k_asm) F9 (by k_asm) (by k_asm) rfl (List.forall_mem_singleton.mpr (N9 _ (.head _)).2) (by show dp + 1 + 1 < recursionLimit; omega) (by show un + 3 + 100 * 1 < cLine; omega) ?_)
    rintro v h2 tk2 ⟨rfl, kp, hl2⟩
    have F2 := kp.fr F9 (N9 _ (.head _)).2.2 (N9 _ (.head _)).2.1
    have N2 : News g L' h2 [(l, listOf (vals (siftup cells)).toArray n)] := List.forall_mem_singleton.mpr ⟨by
      rw [hl2, hget]; unfold siftup; rw [e9], (N9 _ (.head _)).2⟩
    dsimp only
    clear F9 N9
    k_extra "go"
    refine Back.intro F2 N2 (hret _ _ _ ⟨rfl, ?_, (N2 _ (.head _)).1⟩)
    intro b o e hb
    exact F2.keep _ _ (hg b o e (by simpa using hb))
end Mine
end

section
local macro_rules | `(tactic| walk_at "mine pad") => `(tactic| fail "pad")
theorem Mine.resetM5 : True := by
  w_top off
  k_with_none
  exact trivial
open PySem PySem.W PySem.Calls PyProof.Rows
namespace Mine
section
variable {prog : Program} {w : World} {A : Around} {E : Value → Shared → Prop} {s : Shared} {h₀ : Heap} {L D : Addr} {m : Str → Option Value} {news news' : List (Addr × Obj)} {cells : List Cell} {n : Nat} {k : Int} {t u : Tok}
theorem push_cell {c : Cell} {Q : Value → Shared → Prop} (F : Fr h₀ L s.heap m) (N : News h₀ L s.heap news) (U : Upd D (listOf (vals cells).toArray n) (listOf (vals (cells ++ [c])).toArray (n + 1)) news news') (h64 : cells.length < 64)
    (h : ∀ h', Fr h₀ L h' m → News h₀ L h' news' → Q .none { s with heap := h' }) : wpAny (model prog w) A (call (.builtin "list.append") [.ref D, .ref c.1]) Q E s := by
  have e : (vals (cells ++ [c])).toArray = (vals cells).toArray.push (.ref c.1) := by simp [vals]
  rw [e] at U
  exact append_K F N U h (by rw [sizeLine_eq]; simp; omega)
theorem pop_cell {Q : Value → Shared → Prop} (F : Fr h₀ L s.heap m) (N : News h₀ L s.heap news) (U : Upd D (listOf (vals cells).toArray n) (listOf (vals cells.dropLast).toArray (n + 1)) news news') (hne : 0 < cells.length) (h64 : cells.length < 64)
    (h : ∀ h', Fr h₀ L h' m → News h₀ L h' news' → Q (.ref (cells.getLastD default).1) { s with heap := h' }) : wpAny (model prog w) A (call (.builtin "list.pop") [.ref D]) Q E s := by
  have e : cells = cells.dropLast ++ [cells.getLastD default] := by
    have hn : cells ≠ [] := by intro q; rw [q] at hne; exact absurd hne (by decide)
    rw [List.getLastD_eq_getLast?, List.getLast?_eq_some_getLast hn]
    exact (List.dropLast_concat_getLast hn).symm
  refine kl_pop F N (p := vals cells.dropLast) (y := .ref (cells.getLastD default).1) ?_ U (by simp; rw [sizeLine_eq]; omega) h
  have e2 : vals cells = vals cells.dropLast ++ [.ref (cells.getLastD default).1] := by
    conv => lhs; rw [e]
    simp [vals]
  show kl_last (vals cells) = _
  rw [e2]
  exact kpa_last _ _
theorem truthy_cell {Q : Bool → Shared → Prop} (N : News h₀ L s.heap news) (hm : (D, listOf (vals cells).toArray n) ∈ news) (h64 : cells.length < 64) (h : ∀ tk, Q (decide (0 < cells.length)) { s with toks := tk }) :
    wpAny (model prog w) A (truthy (.ref D)) Q E s := by
  have hl := PySem.IsL.isList (n := n) (N _ hm).1
  refine wpAny_truthy_list hl (by simp; omega) ?_
  have e : (!(vals cells).toArray.isEmpty) = decide (0 < cells.length) := by
    cases cells <;> simp
  rw [e]
  exact h _
end
def hpush (c : Cell) (l : List Cell) : List Cell := sd c (l ++ [c]) l.length
def hpop (l : List Cell) : List Cell := if l.length = 1 then [] else siftup (l.dropLast.set 0 (l.getLastD default))
theorem Cells.last {g : Heap} {l : List Cell} (h : Cells g l) (hp : 0 < l.length) : TupIs g (l.getLastD default).1 (l.getLastD default).2 := by
  have hn : l ≠ [] := by intro q; rw [q] at hp; exact absurd hp (by decide)
  rw [List.getLastD_eq_getLast?, List.getLast?_eq_some_getLast hn]
  exact h _ (List.getLast_mem hn)
theorem Cells.dropLast {g : Heap} {l : List Cell} (h : Cells g l) : Cells g l.dropLast := fun c hc => h c ((List.dropLast_sublist l).mem hc)
theorem Cells.snoc {g : Heap} {l : List Cell} {c : Cell} (h : Cells g l) (hc : TupIs g c.1 c.2) : Cells g (l ++ [c]) := fun d hd => by
  rcases List.mem_append.mp hd with q | q
  · exact h d q
  · rw [List.mem_singleton.mp q]; exact hc

local macro_rules | `(tactic| walk_at "subscriptTail") => `(tactic| (k_here; (with_reducible show wpAny _ _ (subscriptTail _ _ (Value.ref _) (Value.int _ _)) _ _ _); k_dflt (refine' sub_cell ?k1 ?k2 ?k4 ?k5 ?k6 ?_ ?k7; (case k1 => k_asm); (case k2 => k_mem); (case k4 => omega); (case k5 => (try simp only [List.length_set]); omega); (case k6 => omega); (case k7 => with_unfolding_all rfl); k_whole); (try simp only [Int.toNat_natCast])))
local macro_rules | `(tactic| walk_at "setItem ref int") => `(tactic| (k_here; (with_reducible show wpAny _ _ (setItem (Value.ref _) (Value.int _ _) (Value.ref _)) _ _ _); k_dflt (refine' set_cell ?k1 ?k2 ?k3 ?k5 ?k6 ?k7 ?_; (case k1 => k_asm); (case k2 => k_asm); (case k3 => k_upd); (case k5 => omega); (case k6 => (try simp only [List.length_set]); omega); (case k7 => omega); k_whole); intro h' F' N'; (try simp only [Int.toNat_natCast] at N'); (try dsimp only)))
local macro_rules | `(tactic| walk_at "call builtin:len") => `(tactic| (k_here; (with_reducible show wpAny _ _ (call (Value.builtin "len") [Value.ref _]) _ _ _); k_dflt (refine' len_cell ?k1 ?k2 ?k3 ?_; (case k1 => k_asm); (case k2 => k_mem); (case k3 => (try simp only [List.length_append, List.length_cons, List.length_nil]); omega); k_whole); intro t' tk'; (try dsimp only)))
local macro_rules | `(tactic| walk_at "call builtin:list.append") => `(tactic| (k_here; (with_reducible show wpAny _ _ (call (Value.builtin "list.append") [Value.ref _, Value.ref _]) _ _ _); k_dflt (refine' push_cell ?k1 ?k2 ?k3 ?k4 ?_; (case k1 => k_asm); (case k2 => k_asm); (case k3 => k_upd); (case k4 => omega); k_whole); intro h' F' N'; (try dsimp only)))
local macro_rules | `(tactic| walk_at "call builtin:list.pop") => `(tactic| (k_here; (with_reducible show wpAny _ _ (call (Value.builtin "list.pop") [Value.ref _]) _ _ _); k_dflt (refine' pop_cell ?k1 ?k2 ?k3 ?k4 ?k5 ?_; (case k1 => k_asm); (case k2 => k_asm); (case k3 => k_upd); (case k4 => omega); (case k5 => omega); k_whole); intro h' F' N'; (try dsimp only)))
local macro_rules | `(tactic| walk_at "truthy ref") => `(tactic| (k_here; (with_reducible show wpAny _ _ (truthy (Value.ref _)) _ _ _); k_dflt (refine' truthy_cell ?k1 ?k2 ?k3 ?_; (case k1 => k_asm); (case k2 => k_mem); (case k3 => (try simp only [List.length_dropLast]); omega); k_whole); intro tk'; (try dsimp only)))

set_option maxRecDepth 100000 in
set_option maxHeartbeats 4000000 in
theorem heappush_does {w : World} {s : Shared} {l : Addr} {cells : List Cell} {n : Nat} {c : Cell} (hl : s.heap.get? l = some (listOf (vals cells).toArray n)) (hc : Cells s.heap cells) (ht : TupIs s.heap c.1 c.2) (h63 : cells.length < 63) :
    Does w 21 2 [l] s [.ref l, .ref c.1] (fun v h' => v = .none ∧ Keeps l s.heap h' ∧ ∃ n', h'.get? l = some (listOf (vals (hpush c cells)).toArray n')) := by
  unfold Does; k_fill
  intro dp un gd cn cs a ccd cl outer A₀ base h₀ L m p loose mean mg mb Q E B F X T hk hm hd hu hret
  have N : News h₀ L s.heap [(l, listOf (vals cells).toArray n)] := fun q hq => by
    obtain rfl := List.mem_singleton.mp hq
    exact ⟨hl, (hm l (.head _)).1, (hm l (.head _)).2⟩
  refine wpAny_call ?_
  k_dflt (refine' enter (binds := [(Str.ofString "heap", .ref l), (Str.ofString "item", .ref c.1)]) ?k1 ?k2 ?k3 ?k4 ?k5 ?kA ?kF ?kK ?k6 ?k7 ?k8 ?k9 ?kB ?_ ?c2 ?c3 ?c4 ?c5; (case kA => exact rfl); (case kF => exact rfl); (case kK => assumption); (case k1 => k_asm); (case k2 => k_asm); (case k3 => k_asm); (case k4 => k_asm); (case k5 => k_asm); (case k6 => k_is); (case k7 => k_is); (case k8 => ktr_room); (case k9 => exact BindsTo.of_eq rfl); (case c5 => decide); (case kB => exact locs rfl); (case c2 => exact rfl); (case c3 => exact rfl); (case c4 => exact rfl))
  intro g L' h' hg F' N' B' X' T'
  have hcg : Cells g cells := hc.but hl fun b o e n => hg b o e (by simpa using n)
  have htg : TupIs g c.1 c.2 := ht.but hl fun b o e n => hg b o e (by simpa using n)
  clear N F X T B
  dsimp only
  (try k_unmd)
  k_fold
  k_with_none
  k_with "go" => (repeat' (first | (k_unfold; (try dsimp only)) | ((fail_if_success (with_reducible show wpAny _ _ (exec (PySem.Stmt.While _ _ _ _) _) _ _ _)); (fail_if_success (with_reducible show KswEnd _ _ _ _ _ _ _ _ _ _ _ _)); (fail_if_success (with_reducible show wpAny _ _ (PySem.call (Value.ref _) _ _) _ _ _)); walk1; (try dsimp only); (try simp only [two_one, plus_one])) | fail "no step"))
  k_extra "go"
  rename Fr _ _ _ _ => F9
  rename News _ _ _ _ => N9
  have hlen : (((cells ++ [c]).length : Nat) : Int) - 1 = (cells.length : Int) := by simp
  rw [hlen]
  have hget : (cells ++ [c]).getD cells.length default = c := by simp
  k_dflt (refine Does.use (siftdown_does (cells := cells ++ [c]) (n := n + 1) (pos := cells.length) (News.get N9 (.head _)) ((hcg.snoc htg).keeps F9.keep) (by simp) (by simp; omega)) (by k_asm) F9 (by k_asm) (by k_asm) rfl (List.forall_mem_singleton.mpr (N9 _ (.head _)).2) (by show dp + 1 + 1 < recursionLimit; omega) (by show un + 3 + 100 * 1 < cLine; omega) ?_)
  rintro v h2 tk2 ⟨rfl, kp, hl2⟩
  have F2 := kp.fr F9 (N9 _ (.head _)).2.2 (N9 _ (.head _)).2.1
  have N2 : News g L' h2 [(l, listOf (vals (hpush c cells)).toArray (n + 1))] := List.forall_mem_singleton.mpr ⟨by
      rw [hl2, hget]; rfl, (N9 _ (.head _)).2⟩
  dsimp only
  clear F9 N9
  k_extra "go"
  refine Back.intro F2 N2 (hret _ _ _ ⟨rfl, ?_, _, (N2 _ (.head _)).1⟩)
  intro b o e hb
  exact F2.keep _ _ (hg b o e (by simpa using hb))

set_option maxRecDepth 100000 in
set_option maxHeartbeats 4000000 in
theorem heappop_does {w : World} {s : Shared} {l : Addr} {cells : List Cell} {n : Nat} (hl : s.heap.get? l = some (listOf (vals cells).toArray n)) (hc : Cells s.heap cells) (hp : 0 < cells.length) (h64 : cells.length < 64) :
    Does w 28 3 [l] s [.ref l] (fun v h' => v = .ref (cells.getD 0 default).1 ∧ Keeps l s.heap h' ∧ ∃ n', h'.get? l = some (listOf (vals (hpop cells)).toArray n')) := by
  unfold Does; k_fill
  intro dp un gd cn cs a ccd cl outer A₀ base h₀ L m p loose mean mg mb Q E B F X T hk hm hd hu hret
  have N : News h₀ L s.heap [(l, listOf (vals cells).toArray n)] := fun q hq => by
    obtain rfl := List.mem_singleton.mp hq
    exact ⟨hl, (hm l (.head _)).1, (hm l (.head _)).2⟩
  refine wpAny_call ?_
  k_dflt (refine' enter (binds := [(Str.ofString "heap", .ref l)]) ?k1 ?k2 ?k3 ?k4 ?k5 ?kA ?kF ?kK ?k6 ?k7 ?k8 ?k9 ?kB ?_ ?c2 ?c3 ?c4 ?c5; (case kA => exact rfl); (case kF => exact rfl); (case kK => assumption); (case k1 => k_asm); (case k2 => k_asm); (case k3 => k_asm); (case k4 => k_asm); (case k5 => k_asm); (case k6 => k_is); (case k7 => k_is); (case k8 => ktr_room); (case k9 => exact BindsTo.of_eq rfl); (case c5 => decide); (case kB => exact locs rfl); (case c2 => exact rfl); (case c3 => exact rfl); (case c4 => exact rfl))
  intro g L' h' hg F' N' B' X' T'
  have hcg : Cells g cells := hc.but hl fun b o e n => hg b o e (by simpa using n)
  clear N F X T B
  dsimp only
  (try k_unmd)
  k_fold
  k_with_none
  k_with "go" => (repeat' (first | (k_unfold; (try dsimp only)) | ((fail_if_success (with_reducible show wpAny _ _ (exec (PySem.Stmt.While _ _ _ _) _) _ _ _)); (fail_if_success (with_reducible show KswEnd _ _ _ _ _ _ _ _ _ _ _ _)); (fail_if_success (with_reducible show wpAny _ _ (PySem.call (Value.ref _) _ _) _ _ _)); walk1; (try dsimp only); (try simp only [two_one, plus_one])) | fail "no step"))
  have hdl : cells.dropLast.length = cells.length - 1 := List.length_dropLast
  k_extra "go"
  · rename Fr _ _ _ _ => F9
    rename News _ _ _ _ => N9
    have hlt : 0 < cells.dropLast.length := by assumption
    have hcs : Cells g (cells.dropLast.set 0 (cells.getLastD default)) := hcg.dropLast.set (hcg.last hp)
    k_dflt (refine Does.use (siftup_does (cells := cells.dropLast.set 0 (cells.getLastD default)) (n := n + 1) (News.get N9 (.head _)) (hcs.keeps F9.keep) (by rw [List.length_set]; omega) (by rw [List.length_set]; omega)) (by k_asm) F9 (by k_asm) (by k_asm) rfl (List.forall_mem_singleton.mpr (N9 _ (.head _)).2) (by show dp + 1 + 2 < recursionLimit; omega) (by show un + 3 + 100 * 2 < cLine; omega) ?_)
    rintro v h2 tk2 ⟨rfl, kp, hl2⟩
    have F2 := kp.fr F9 (N9 _ (.head _)).2.2 (N9 _ (.head _)).2.1
    have N2 : News g L' h2 [(l, listOf (vals (hpop cells)).toArray (n + 1))] := List.forall_mem_singleton.mpr ⟨by
      rw [hl2, hpop, if_neg (by omega)], (N9 _ (.head _)).2⟩
    dsimp only
    clear F9 N9
    k_extra "go"
    refine Back.intro F2 N2 (hret _ _ _ ⟨?_, ?_, _, (N2 _ (.head _)).1⟩)
    · have : cells.dropLast.getD 0 default = cells.getD 0 default := by
        match cells, hlt with
        | c :: d :: r, _ => rfl
      show Value.ref (cells.dropLast.getD 0 default).1 = _
      rw [this]
    · intro b o e hb
      exact F2.keep _ _ (hg b o e (by simpa using hb))
  · rename Fr _ _ _ _ => F9
    rename News _ _ _ _ => N9
    have hlt : ¬ 0 < cells.dropLast.length := by assumption
    have h1 : cells.length = 1 := by omega
    obtain ⟨c, rfl⟩ := List.length_eq_one_iff.mp h1
    refine Back.intro F9 N9 (hret _ _ _ ⟨rfl, ?_, n + 1, ?_⟩)
    · intro b o e hb
      exact F9.keep _ _ (hg b o e (by simpa using hb))
    · exact (N9 _ (.head _)).1
end Mine
end

section
open PySem PySem.W PySem.Calls PyProof.Rows
namespace Mine
def ForEnd {σ : Type} (h₀ : Heap) (L : Addr) (s : Shared) (Led : σ → List (Addr × Obj)) (ps : σ → List (Str × Value)) (stored : List Str) (m₀ : Str → Option Value) (Inv : Nat → σ → Prop) (I : Addr) (oI : Obj) (i : Nat) (s₂ : Shared) : Prop :=
  ∃ (c' : σ) (h' : Heap) (tk : Nat) (m' : Str → Option Value), s₂ = { s with heap := h', toks := tk } ∧ Fr h₀ L h' m' ∧ News h₀ L h' (Led c') ∧ h'.get? I = some oI ∧ (∀ p ∈ Led c', p.1 ≠ I) ∧ (∀ p ∈ ps c', m' p.1 = some p.2) ∧ (∀ z, (∀ p ∈ ps c', z ≠ p.1) → stored.contains z = false → m' z = m₀ z) ∧ Inv (i + 1) c'
def ForPost {σ : Type} (h₀ : Heap) (L : Addr) (s : Shared) (Led : σ → List (Addr × Obj)) (ps : σ → List (Str × Value)) (stored : List Str) (m₀ : Str → Option Value) (Inv : Nat → σ → Prop) (I : Addr) (oI : Obj) (i : Nat) (Q : Flow → Shared → Prop) (f : Flow) (s₂ : Shared) : Prop :=
  match f with
  | .ret v => Q (.ret v) s₂
  | .brk => Q .next s₂
  | _ => ForEnd h₀ L s Led ps stored m₀ Inv I oI i s₂
theorem ForEnd.intro {σ : Type} {h₀ : Heap} {L : Addr} {s : Shared} {Led : σ → List (Addr × Obj)} {ps : σ → List (Str × Value)} {stored : List Str} {m₀ m' : Str → Option Value} {Inv : Nat → σ → Prop} {I : Addr} {oI : Obj} {i : Nat} {h' : Heap} {tk : Nat} (c' : σ)
    (F : Fr h₀ L h' m') (N : News h₀ L h' (Led c')) (hI : h'.get? I = some oI) (hn : ∀ p ∈ Led c', p.1 ≠ I) (hk : ∀ p ∈ ps c', m' p.1 = some p.2) (hr : ∀ z, (∀ p ∈ ps c', z ≠ p.1) → stored.contains z = false → m' z = m₀ z) (hp : Inv (i + 1) c') :
    ForEnd h₀ L s Led ps stored m₀ Inv I oI i { s with heap := h', toks := tk } := ⟨c', h', tk, m', rfl, F, N, hI, hn, hk, hr, hp⟩
section
variable {prog : Program} {w : World} {A : Around} {E : Value → Shared → Prop} {Q : Flow → Shared → Prop} {s : Shared} {env : Env} {h₀ : Heap} {target : Expr} {body : List Stmt}
theorem turns_of {σ : Type} {I : Addr} {fp : List Addr} {n : Nat} {P Md : Nat → Value → Heap → Prop} {St : Nat → Heap → Prop} {m₀ : Str → Option Value} (W : KTurns prog w A target I fp [I] n P Md St)
    (Led : σ → List (Addr × Obj)) (ps : σ → List (Str × Value)) (stored : List Str) (Inv : Nat → σ → Prop) (c₀ : σ)
    (hfp : ∀ b ∈ fp, b = I ∨ ∃ o, h₀.get? b = some o) (hL : env.locals ∉ fp) (hI0 : h₀.get? I = none) (hIn : ∃ o, s.heap.get? I = some o) (hst : St 0 s.heap) (F : Fr h₀ env.locals s.heap m₀) (N : News h₀ env.locals s.heap (Led c₀)) (hnI : ∀ p ∈ Led c₀, p.1 ≠ I)
    (hIst : ∀ i h, St i h → ∃ o, h.get? I = some o)
    (hk : ∀ p ∈ ps c₀, m₀ p.1 = some p.2) (hp : Inv 0 c₀)
    (turn : ∀ (c : σ) (i : Nat) (v : Value) (u : Str → Option Value) h tk oI, i < n → P i v h → Inv i c → (∀ p ∈ Led c, p.1 ≠ I) → h.get? I = some oI → Fr h₀ env.locals h (kstB (fun z => if stored.contains z then u z else m₀ z) (ps c)) → News h₀ env.locals h (Led c ++ [(I, oI)]) →
      wpAny (model prog w) A (assign target env v) (fun _ s₃ => wpAny (model prog w) A (execs body env) (ForPost h₀ env.locals s Led ps stored m₀ Inv I oI i Q) E s₃) E { s with heap := h, toks := tk })
    (done : ∀ (c : σ) (u : Str → Option Value) h tk, Inv n c → Fr h₀ env.locals h (kstB (fun z => if stored.contains z then u z else m₀ z) (ps c)) → News h₀ env.locals h (Led c) → Q .next { s with heap := h, toks := tk }) :
    TurnsAt prog w A h₀ env target body Q E (.ref I) s := by
  refine ⟨I, fp, [I], n, P, Md, St, m₀, Led c₀, fun i m nx => ∃ c : σ, nx = Led c ∧ (∀ p ∈ ps c, m p.1 = some p.2) ∧ (∀ z, (∀ p ∈ ps c, z ≠ p.1) → stored.contains z = false → m z = m₀ z) ∧ Inv i c, rfl, W, hL, ?_, ?_, hst, F, N, ⟨c₀, rfl, hk, fun _ _ _ => rfl, hp⟩, ?_, ?_⟩
  · intro b hb; rw [List.mem_singleton.mp hb]; exact hI0
  · intro p hp hq; exact hnI p hp (List.mem_singleton.mp hq)
  · rintro i v m₁ news₁ h₁ tk₁ own hi hP ⟨c, rfl, h1, h2, hInv⟩ hoff hown hget hall hst₁ F₁ N₁
    obtain ⟨oI, hoI⟩ := hIst _ _ hst₁
    have hoff' : ∀ p ∈ Led c, p.1 ≠ I := fun p hp q => hoff p hp (List.mem_singleton.mpr q)
    have hmem : (I, oI) ∈ own := hall I (W.sub I (.head _)) hI0 oI hoI
    have N₂ : News h₀ env.locals h₁ (Led c ++ [(I, oI)]) := fun p hp => by
      rcases List.mem_append.mp hp with q | q
      · exact N₁ p (List.mem_append_right _ q)
      · rw [List.mem_singleton.mp q]; exact N₁ _ (List.mem_append_left _ hmem)
    have fin : ∀ s₃, ForEnd h₀ env.locals s Led ps stored m₀ Inv I oI i s₃ → LoopStepU h₀ env.locals [I] own (fun m nx => ∃ c : σ, nx = Led c ∧ (∀ p ∈ ps c, m p.1 = some p.2) ∧ (∀ z, (∀ p ∈ ps c, z ≠ p.1) → stored.contains z = false → m z = m₀ z) ∧ Inv (i + 1) c) { s with heap := h₁, toks := tk₁ } .next s₃ := by
      rintro s₃ ⟨c', h', tk, m', rfl, F', N', hI', hn', hk', hr', hp'⟩
      refine ⟨rfl, h', tk, m', Led c', rfl, F', ?_, fun p hp q => hn' p hp (List.mem_singleton.mp q), c', rfl, hk', hr', hp'⟩
      intro p hp
      rcases List.mem_append.mp hp with q | q
      · rcases hfp p.1 (hown p q) with e | ⟨o, e⟩
        · have hq := hget p q
          rw [e, hoI] at hq
          have hm := N₁ p (List.mem_append_left _ q)
          refine ⟨?_, hm.2⟩
          rw [e, hI', Option.some.inj hq]
        · have := (N₁ p (List.mem_append_left _ q)).2.2
          rw [e] at this; cases this
      · exact N' p q
    refine wpAny_mono (turn c i v m₁ h₁ tk₁ oI hi hP hInv hoff' hoI (ksw_fr h1 h2 F₁) N₂) (fun _ s₃ hx => wpAny_mono hx (fun f s₄ q => ?_) fun _ _ e => e) fun _ _ e => e
    cases f with
    | ret v => exact .ret q
    | brk => exact .brk q
    | next => exact .next (fin _ q)
    | cont => exact .cont (fin _ q)
  · rintro h' tk m' news' F' N' _ ⟨c, rfl, h1, h2, hInv⟩
    exact done c m' h' tk hInv (ksw_fr h1 h2 F') N'
/-- a loop over a list that lies in the frame's ground -/
theorem for_list {σ : Type} {ax : Addr} {vs : List Value} {nn : Nat} {m₀ : Str → Option Value}
    (Led : σ → List (Addr × Obj)) (ps : σ → List (Str × Value)) (stored : List Str) (Inv : Nat → σ → Prop) (c₀ : σ)
    (hh : A.handled = none) (hax : h₀.get? ax = some (listOf vs.toArray nn)) (F : Fr h₀ env.locals s.heap m₀) (N : News h₀ env.locals s.heap (Led c₀))
    (hk : ∀ p ∈ ps c₀, m₀ p.1 = some p.2) (hp : Inv 0 c₀)
    (turn : ∀ (c : σ) (i : Nat) (v : Value) (u : Str → Option Value) h tk I oI, i < vs.length → vs[i]? = some v → Inv i c → (∀ p ∈ Led c, p.1 ≠ I) → h.get? I = some oI → Fr h₀ env.locals h (kstB (fun z => if stored.contains z then u z else m₀ z) (ps c)) → News h₀ env.locals h (Led c ++ [(I, oI)]) →
      ∀ s', s' = { s with heap := s.heap.push { cls := .type "list_iterator", data := .fields #[.ref ax, .int 0 0] } } →
      wpAny (model prog w) A (assign target env v) (fun _ s₃ => wpAny (model prog w) A (execs body env) (ForPost h₀ env.locals s' Led ps stored m₀ Inv I oI i Q) E s₃) E { s with heap := h, toks := tk })
    (done : ∀ (c : σ) (u : Str → Option Value) h tk, Inv vs.length c → Fr h₀ env.locals h (kstB (fun z => if stored.contains z then u z else m₀ z) (ps c)) → News h₀ env.locals h (Led c) → Q .next { s with heap := h, toks := tk }) :
    wpAny (model prog w) A (pyIter (.ref ax)) (fun it s₂ => TurnsAt prog w A h₀ env target body Q E it s₂) E s := by
  have hl : s.heap.IsList ax vs.toArray := PySem.IsL.isList (n := nn) (F.keep _ _ hax)
  have hlt : ax < s.heap.objs.size := Heap.lt_size (F.keep _ _ hax)
  have hne : ax ≠ s.heap.objs.size := Nat.ne_of_lt hlt
  refine wpAny_pyIter_list hl ?_
  refine turns_of (KTurns.ofWalks (Walks.list hh s.heap.objs.size ax hne vs.toArray) fun i v s Q E st q => letGo_listiter st.1 q) Led ps stored Inv c₀ ?_ ?_ (next_is_new F) ⟨_, Heap.get?_push_size _ rfl⟩ ?_ (F.push _) (fun p hp => ⟨Heap.get?_push_of_some _ (N p hp).1, (N p hp).2⟩) (fun p hp q => ?_) (fun i h st => ?_) hk hp ?_ ?_
  · intro b hb
    rcases List.mem_cons.mp hb with e | hb
    · exact .inl e
    · rw [List.mem_singleton.mp hb]; exact .inr ⟨_, hax⟩
  · intro hI
    rcases List.mem_cons.mp hI with e | hI
    · exact absurd F.ns.lt (e ▸ Nat.lt_irrefl _)
    · have e : env.locals = ax := List.mem_singleton.mp hI
      exact absurd (Heap.lt_size hax) (Nat.not_lt.mpr (e ▸ F.above))
  · exact ⟨⟨_, Heap.get?_push_size _ rfl, rfl, rfl⟩, hl.at fun o e => Heap.get?_push_of_some _ e⟩
  · exact absurd (Heap.lt_size (N p hp).1) (q ▸ Nat.lt_irrefl _)
  · obtain ⟨o, ho, _⟩ := st.1; exact ⟨o, ho⟩
  · intro c i v u h tk oI hi hP hInv hne hoI F₁ N₁
    exact turn c i v u h tk _ oI (by simpa using hi) (by simpa using hP) hInv hne hoI F₁ N₁ _ rfl
  · intro c u h tk hInv F₁ N₁
    exact done c u h tk (by simpa using hInv) F₁ N₁
end
end Mine
end

section
open PySem PySem.W PySem.Calls PySem.Spec PyProof.Rows
namespace Mine
theorem sd_len (c : Cell) (l : List Cell) (pos : Nat) : (sd c l pos).length = l.length := by
  induction l, pos using sd.induct c with
  | case1 l => rw [sd, if_pos rfl, List.length_set]
  | case2 l pos h0 h1 ih => rw [sd, if_neg h0, if_pos h1, ih, List.length_set]
  | case3 l pos h0 h1 => rw [sd, if_neg h0, if_neg h1, List.length_set]
theorem siftup_len (l : List Cell) : (siftup l).length = l.length := by
  unfold siftup; simp only []; rw [sd_len, List.length_set, su_len]
theorem hpush_len (c : Cell) (l : List Cell) : (hpush c l).length = l.length + 1 := by unfold hpush; rw [sd_len]; simp
theorem hpop_len (l : List Cell) : (hpop l).length = l.length - 1 := by
  unfold hpop; split
  · next h => rw [h]; rfl
  · rw [siftup_len, List.length_set, List.length_dropLast]
theorem Cells.hpush {g : Heap} {l : List Cell} {c : Cell} (h : Cells g l) (hc : TupIs g c.1 c.2) : Cells g (hpush c l) := (h.snoc hc).siftsTo hc (by simp)
theorem Cells.siftup {g : Heap} {l : List Cell} (h : Cells g l) (hp : 0 < l.length) : Cells g (siftup l) := by
  unfold Mine.siftup
  have h0 := h.at hp
  refine Cells.siftsTo (h.drawn.set h0) h0 ?_
  rw [List.length_set, su_len]; exact su_lt l 0 hp
theorem Cells.hpop {g : Heap} {l : List Cell} (h : Cells g l) (hp : 0 < l.length) : Cells g (hpop l) := by
  unfold Mine.hpop; split
  · intro c hc; cases hc
  · refine Cells.siftup (h.dropLast.set (h.last hp)) ?_
    rw [List.length_set, List.length_dropLast]; omega
/-- a house: its pair's address, where it begins, its triple -/
abbrev House := Addr × Int × Cell
abbrev pairO (H : House) (t : Tok) (n : Nat) : Obj := { cls := .type "tuple", data := .seq #[.int H.2.1 t, .ref H.2.2.1] n }
def HouseIs (g : Heap) (H : House) : Prop := (∃ t n, g.get? H.1 = some (pairO H t n)) ∧ TupIs g H.2.2.1 H.2.2.2
def Houses (g : Heap) (hs : List House) : Prop := ∀ H ∈ hs, HouseIs g H
abbrev hvals (hs : List House) : List Value := hs.map fun H => Value.ref H.1
theorem HouseIs.keeps {g g' : Heap} {H : House} (h : HouseIs g H) (k : ∀ b o, g.get? b = some o → g'.get? b = some o) : HouseIs g' H := by
  obtain ⟨⟨t, n, ho⟩, ht⟩ := h
  exact ⟨⟨t, n, k _ _ ho⟩, ht.keeps k⟩
theorem Houses.keeps {g g' : Heap} {hs : List House} (h : Houses g hs) (k : ∀ b o, g.get? b = some o → g'.get? b = some o) : Houses g' hs := fun H hH => (h H hH).keeps k
theorem HouseIs.but {h g : Heap} {l : Addr} {H : House} {xs : Array Value} {n : Nat} (t : HouseIs h H) (hl : h.get? l = some (listOf xs n)) (k : ∀ b o, h.get? b = some o → b ≠ l → g.get? b = some o) : HouseIs g H := by
  obtain ⟨⟨t, m, ho⟩, ht⟩ := t
  refine ⟨⟨t, m, k _ _ ho fun q => ?_⟩, ht.but hl k⟩
  rw [q, hl] at ho
  simp at ho
theorem Houses.but {h g : Heap} {l : Addr} {hs : List House} {xs : Array Value} {n : Nat} (t : Houses h hs) (hl : h.get? l = some (listOf xs n)) (k : ∀ b o, h.get? b = some o → b ≠ l → g.get? b = some o) : Houses g hs := fun H hH => (t H hH).but hl k
def pushAll (x : Int) (hs : List House) (l : List Cell) : List Cell := hs.foldl (fun l H => if H.2.1 = x then hpush H.2.2 l else l) l
def drain (x : Int) (l : List Cell) : List Cell :=
  if 0 < l.length ∧ (l.getD 0 default).2.2.1 ≤ x then drain x (hpop l) else l
termination_by l.length
decreasing_by rw [hpop_len]; omega
theorem pushAll_snoc (x : Int) (hs : List House) (H : House) (l : List Cell) : pushAll x (hs ++ [H]) l = if H.2.1 = x then hpush H.2.2 (pushAll x hs l) else pushAll x hs l := by
  unfold pushAll; rw [List.foldl_append]; rfl
theorem pushAll_len (x : Int) (hs : List House) : ∀ (l : List Cell), (pushAll x hs l).length ≤ l.length + hs.length := by
  induction hs with
  | nil => intro l; exact Nat.le_refl _
  | cons H hs ih =>
    intro l
    show (pushAll x hs (if H.2.1 = x then hpush H.2.2 l else l)).length ≤ _
    refine Nat.le_trans (ih _) ?_
    split
    · rw [hpush_len, List.length_cons]; omega
    · rw [List.length_cons]; omega
section
variable {prog : Program} {w : World} {A : Around} {E : Value → Shared → Prop} {s : Shared}
theorem TupIs.isTup {a : Addr} {p : Itm} (ht : TupIs s.heap a p) : ∃ t1 t2 t3, IsTup s.heap a [Value.int p.1 t1, Value.int p.2.1 t2, Value.int p.2.2 t3].toArray := by
  obtain ⟨t1, t2, t3, n, ho⟩ := ht
  exact ⟨t1, t2, t3, _, ho, rfl, n, rfl⟩
theorem sub_tup0 {value slice : PySem.Expr} {a : Addr} {p : Itm} {u : Tok} {Q : Value → Shared → Prop} (ht : TupIs s.heap a p) (h : ∀ t, Q (.int p.1 t) s)
    (hs : subscripted slice false (.ref a) (.int 0 u) = operate [.ref a, .int 0 u] (getItem (.ref a) (.int 0 u)) := by with_unfolding_all rfl) :
    wpAny (model prog w) A (subscriptTail value slice (.ref a) (.int 0 u)) Q E s := by
  obtain ⟨t1, t2, t3, it⟩ := ht.isTup
  exact item_tupleT it (by decide) (by decide) (j := 0) rfl rfl (h _) hs
theorem sub_tup1 {value slice : PySem.Expr} {a : Addr} {p : Itm} {u : Tok} {Q : Value → Shared → Prop} (ht : TupIs s.heap a p) (h : ∀ t, Q (.int p.2.1 t) s)
    (hs : subscripted slice false (.ref a) (.int 1 u) = operate [.ref a, .int 1 u] (getItem (.ref a) (.int 1 u)) := by with_unfolding_all rfl) :
    wpAny (model prog w) A (subscriptTail value slice (.ref a) (.int 1 u)) Q E s := by
  obtain ⟨t1, t2, t3, it⟩ := ht.isTup
  exact item_tupleT it (by decide) (by decide) (j := 1) rfl rfl (h _) hs
theorem TupIs.reads {h : Heap} {a : Addr} {p : Itm} (ht : TupIs h a p) : ∃ as, Reads h (.ref a) (.tuple [.int p.1, .int p.2.1, .int p.2.2]) as := by
  obtain ⟨t1, t2, t3, n, ho⟩ := ht
  exact ⟨_, reads_tuple_at ho rfl rfl (.cons (.int _ _) (.cons (.int _ _) (.cons (.int _ _) .nil)))⟩
theorem ne_tup {a b : Addr} {p q : Itm} {Q : Value → Shared → Prop} (hx : TupIs s.heap a p) (hy : TupIs s.heap b q) (hu : A.units + 64 < cLine) (h : Q (.bool (!decide (p = q))) s) :
    wpAny (model prog w) A (compareOp .NotEq (.ref a) (.ref b)) Q E s := by
  obtain ⟨as, rx⟩ := hx.reads
  obtain ⟨bs, ry⟩ := hy.reads
  refine ne_dataH rx ry rfl rfl hu ?_
  have e : PyData.eqv (.tuple [.int p.1, .int p.2.1, .int p.2.2]) (.tuple [.int q.1, .int q.2.1, .int q.2.2]) = decide (p = q) := by
    obtain ⟨p1, p2, p3⟩ := p
    obtain ⟨q1, q2, q3⟩ := q
    simp only [PyData.eqv, PyData.eqvAll, Prod.mk.injEq, Bool.and_true]
    by_cases h1 : p1 = q1 <;> by_cases h2 : p2 = q2 <;> by_cases h3 : p3 = q3 <;> simp [h1, h2, h3]
  rw [e]
  exact h
end
end Mine
end

section
local macro_rules | `(tactic| walk_at "mine pad") => `(tactic| fail "pad")
local macro_rules | `(tactic| walk_at "mine pad") => `(tactic| fail "pad")
local macro_rules | `(tactic| walk_at "mine pad") => `(tactic| fail "pad")
local macro_rules | `(tactic| walk_at "mine pad") => `(tactic| fail "pad")
local macro_rules | `(tactic| walk_at "mine pad") => `(tactic| fail "pad")
local macro_rules | `(tactic| walk_at "mine pad") => `(tactic| fail "pad")
local macro_rules | `(tactic| walk_at "mine pad") => `(tactic| fail "pad")
local macro_rules | `(tactic| walk_at "mine pad") => `(tactic| fail "pad")
theorem Mine.resetM8 : True := by
  w_top off
  k_with_none
  exact trivial
open PySem PySem.W PySem.Calls PySem.Spec PyProof.Rows
namespace Mine
local macro_rules | `(tactic| walk_at "subscriptTail") => `(tactic| (k_here; (with_reducible show wpAny _ _ (subscriptTail _ _ (Value.ref _) (Value.int _ _)) _ _ _); k_dflt (k_extra "tupitem")))
local macro_rules | `(tactic| walk_at "subscriptTail") => `(tactic| (k_here; (with_reducible show wpAny _ _ (subscriptTail _ _ (Value.ref _) (Value.int _ _)) _ _ _); k_dflt (refine' sub_cell ?k1 ?k2 ?k4 ?k5 ?k6 ?_ ?k7; (case k1 => k_asm); (case k2 => k_mem); (case k4 => omega); (case k5 => (try simp only [List.length_set]); omega); (case k6 => omega); (case k7 => with_unfolding_all rfl); k_whole); (try simp only [Int.toNat_natCast, Int.toNat_zero])))
local macro_rules | `(tactic| walk_at "truthy ref") => `(tactic| (k_here; (with_reducible show wpAny _ _ (truthy (Value.ref _)) _ _ _); k_dflt (refine' truthy_cell ?k1 ?k2 ?k3 ?_; (case k1 => k_asm); (case k2 => k_mem); (case k3 => (try simp only [List.length_dropLast]); omega); k_whole); intro tk'; (try dsimp only)))
local macro_rules | `(tactic| walk_at "compareOp NotEq ref ref") => `(tactic| (k_here; (with_reducible show wpAny _ _ (compareOp CmpOp.NotEq (Value.ref _) (Value.ref _)) _ _ _); k_dflt (k_extra "ne")))

local macro_rules | `(tactic| walk_at "ForPost") => `(tactic| dsimp only [ForPost])

set_option maxRecDepth 100000 in
set_option maxHeartbeats 4000000 in
theorem step_does {w : World} {s : Shared} {l ha : Addr} {cells : List Cell} {hs : List House} {n nh : Nat} {x : Int} {tx : Tok} (hl : s.heap.get? l = some (listOf (vals cells).toArray n)) (hc : Cells s.heap cells)
    (hha : s.heap.get? ha = some (listOf (hvals hs).toArray nh)) (hne : ha ≠ l) (hhs : Houses s.heap hs) (h63 : cells.length + hs.length < 63) :
    Does w 73 4 [l] s [.ref l, .ref ha, .int x tx] (fun v h' => v = .bool true ∧ Keeps l s.heap h' ∧ ∃ n', h'.get? l = some (listOf (vals (drain x (pushAll x hs cells))).toArray n')) := by
  unfold Does; k_fill
  intro dp un gd cn cs a ccd cl outer A₀ base h₀ L m p loose mean mg mb Q E B F X T hk hm hd hu hret
  have N : News h₀ L s.heap [(l, listOf (vals cells).toArray n)] := fun q hq => by
    obtain rfl := List.mem_singleton.mp hq
    exact ⟨hl, (hm l (.head _)).1, (hm l (.head _)).2⟩
  refine wpAny_call ?_
  k_dflt (refine' enter (binds := [(Str.ofString "heap", .ref l), (Str.ofString "houses", .ref ha), (Str.ofString "x", .int x tx)]) ?k1 ?k2 ?k3 ?k4 ?k5 ?kA ?kF ?kK ?k6 ?k7 ?k8 ?k9 ?kB ?_ ?c2 ?c3 ?c4 ?c5; (case kA => exact rfl); (case kF => exact rfl); (case kK => assumption); (case k1 => k_asm); (case k2 => k_asm); (case k3 => k_asm); (case k4 => k_asm); (case k5 => k_asm); (case k6 => k_is); (case k7 => k_is); (case k8 => ktr_room); (case k9 => exact BindsTo.of_eq rfl); (case c5 => decide); (case kB => exact locs rfl); (case c2 => exact rfl); (case c3 => exact rfl); (case c4 => exact rfl))
  intro g L' h' hg F' N' B' X' T'
  have hg' : ∀ b o, s.heap.get? b = some o → b ≠ l → g.get? b = some o := fun b o e n => hg b o e (by simpa using n)
  have hcg : Cells g cells := hc.but hl hg'
  have hhg : Houses g hs := hhs.but hl hg'
  have hag : g.get? ha = some (listOf (hvals hs).toArray nh) := hg' _ _ hha hne
  clear N F X T B
  dsimp only
  (try k_unmd)
  k_fold
  k_with_none
  k_with "go" => (repeat' (first | (k_unfold; (try dsimp only)) | ((fail_if_success (with_reducible show wpAny _ _ (exec (PySem.Stmt.While _ _ _ _) _) _ _ _)); (fail_if_success (with_reducible show wpAny _ _ (exec (PySem.Stmt.For _ _ _ _ _) _) _ _ _)); (fail_if_success (with_reducible show wpAny _ _ (pyIter _) _ _ _)); (fail_if_success (with_reducible show KswEnd _ _ _ _ _ _ _ _ _ _ _ _)); (fail_if_success (with_reducible show ForEnd _ _ _ _ _ _ _ _ _ _ _ _)); (fail_if_success (with_reducible show wpAny _ _ (PySem.call (Value.ref _) _ _) _ _ _)); walk1; (try dsimp only); (try simp only [two_one, plus_one])) | fail "no step"))
  k_extra "go"
  rename Fr _ _ _ _ => F9
  rename News _ _ _ _ => N9
  k_dflt (refine For_turns F9 ?_)
  k_extra "go"
  k_dflt (refine for_list (σ := List Cell × Nat) (fun c => [(l, listOf (vals c.1).toArray c.2)]) (fun _ => []) [Str.ofString "begin", Str.ofString "item"] (fun i c => Cells g c.1 ∧ c.1 = pushAll x (hs.take i) cells) (cells, n) rfl hag (by k_asm) (by k_asm) (by intro q hq; cases hq) ⟨hcg, rfl⟩ ?_ ?_)
  · rintro ⟨cs', n'⟩ i v u h tk I oI hi hv ⟨hc1, hc2⟩ hI hoI F N _ rfl
    dsimp only at hc1 hc2 hI N
    dsimp only [kstB] at F
    have hi' : i < hs.length := by simpa using hi
    obtain ⟨H, hH⟩ : ∃ H, hs[i]? = some H := ⟨_, List.getElem?_eq_getElem hi'⟩
    have hv' : v = .ref H.1 := by
      have : (hvals hs)[i]? = some (.ref H.1) := by simp [hH]
      rw [this] at hv; exact (Option.some.inj hv).symm
    subst hv'
    obtain ⟨⟨t, nt, hp⟩, ht⟩ := hhg H (List.mem_of_getElem? hH)
    have hit : IsTup h H.1 [Value.int H.2.1 t, Value.ref H.2.2.1].toArray := ⟨_, F.keep _ _ hp, rfl, nt, rfl⟩
    replace F : Fr g L' h _ := F
    replace N : News g L' h [(l, listOf (vals cs').toArray n'), (I, oI)] := N
    have hlI : l ≠ I := hI _ (.head _)
    have hlen : cs'.length ≤ cells.length + i := by
      rw [hc2]; refine Nat.le_trans (pushAll_len _ _ _) ?_
      rw [List.length_take]; omega
    have htk : hs.take (i + 1) = hs.take i ++ [H] := by rw [List.take_add_one, hH]; rfl
    have hnext : pushAll x (hs.take (i + 1)) cells = if H.2.1 = x then hpush H.2.2 cs' else cs' := by rw [htk, pushAll_snoc, ← hc2]
    k_dflt (refine unpackN_ F N hit rfl rfl rfl ?_)
    intro h2 F2 N2
    dsimp only
    clear F N
    k_extra "go"
    · rename Fr _ _ _ _ => F3
      rename News _ _ _ _ => N3
      have hx : H.2.1 = x := by assumption
      k_dflt (refine Does.use (heappush_does (c := H.2.2) (n := n') (News.get N3 (.head _)) (hc1.keeps F3.keep) (ht.keeps F3.keep) (by omega)) (by k_asm) F3 (by k_asm) (by k_asm) rfl (List.forall_mem_singleton.mpr (N3 _ (.head _)).2) (by show dp + 1 + 2 < recursionLimit; omega) (by show un + 3 + 100 * 2 < cLine; omega) ?_)
      rintro v h4 tk4 ⟨rfl, kp, n4, hl4⟩
      have F4 := kp.fr F3 (N3 _ (.head _)).2.2 (N3 _ (.head _)).2.1
      have N4 : News g L' h4 [(l, listOf (vals (hpush H.2.2 cs')).toArray n4), (I, oI)] := List.forall_mem_cons.mpr ⟨⟨hl4, (N3 _ (.head _)).2⟩, kp.news (fun q hq => N3 q (.tail _ hq)) (List.forall_mem_singleton.mpr (Ne.symm hlI))⟩
      dsimp only
      clear F3 N3
      k_extra "go"
      refine ForEnd.intro (hpush H.2.2 cs', n4) F4 (fun q hq => N4 q (by rw [List.mem_singleton.mp hq]; exact .head _)) (N4 _ (.tail _ (.head _))).1 (List.forall_mem_singleton.mpr hlI) (by intro q hq; cases hq) (by ksw_same) ⟨hc1.hpush ht, ?_⟩
      rw [hnext, if_pos hx]
    · rename Fr _ _ _ _ => F3
      rename News _ _ _ _ => N3
      have hx : ¬ H.2.1 = x := by assumption
      refine ForEnd.intro (cs', n') F3 (fun q hq => N3 q (by rw [List.mem_singleton.mp hq]; exact .head _)) (N3 _ (.tail _ (.head _))).1 (List.forall_mem_singleton.mpr hlI) (by intro q hq; cases hq) (by ksw_same) ⟨hc1, ?_⟩
      rw [hnext, if_neg hx]
  · rintro ⟨cs', n'⟩ u h tk ⟨hc1, hc2⟩ F N
    dsimp only at hc1 hc2 N
    dsimp only [kstB] at F
    replace F : Fr g L' h _ := F
    replace N : News g L' h [(l, listOf (vals cs').toArray n')] := N
    have hcp : cs' = pushAll x hs cells := by
      have : hs.take (hvals hs).length = hs := by simp
      rw [this] at hc2; exact hc2
    have hlen : cs'.length < 63 := by
      rw [hcp]; exact Nat.lt_of_le_of_lt (pushAll_len _ _ _) h63
    clear hc2 F9 N9
    k_extra "go"
    k_dflt (refine ksw_while (σ := List Cell × Nat) (fun c => [(l, listOf (vals c.1).toArray c.2)]) (fun _ => []) (fun c => Cells g c.1 ∧ c.1.length < 63) [Str.ofString "top"] (fun c => drain x c.1 = drain x cs') (fun c => c.1.length) (cs', n') (by k_asm) (by k_asm) ⟨hc1, hlen⟩ (by intro q hq; cases hq) rfl ?_)
    rintro ⟨ds, nd⟩ u2 h2 tk2 ⟨hd1, hd2⟩ hd3 F2 N2
    dsimp only at hd1 hd2 hd3 N2
    dsimp only [kstB] at F2
    clear F N
    k_with "tupitem" => (refine sub_tup1 (Cells.tup (i := 0) hd1 (by k_asm) (by omega)) ?_ (by with_unfolding_all rfl); intro t9)
    k_extra "go"
    · rename Fr _ _ _ _ => F3
      rename News _ _ _ _ => N3
      have hpos : 0 < ds.length := by assumption
      have hle : (ds.getD 0 default).2.2.1 ≤ x := by assumption
      k_dflt (refine Does.use (heappop_does (n := nd) (News.get N3 (.head _)) (hd1.keeps F3.keep) hpos (by omega)) (by k_asm) F3 (by k_asm) (by k_asm) rfl (List.forall_mem_singleton.mpr (N3 _ (.head _)).2) (by show dp + 1 + 3 < recursionLimit; omega) (by show un + 3 + 100 * 3 < cLine; omega) ?_)
      rintro v h4 tk4 ⟨rfl, kp, n4, hl4⟩
      have F4 := kp.fr F3 (N3 _ (.head _)).2.2 (N3 _ (.head _)).2.1
      have N4 : News g L' h4 [(l, listOf (vals (hpop ds)).toArray n4)] := List.forall_mem_singleton.mpr ⟨hl4, (N3 _ (.head _)).2⟩
      dsimp only
      clear F3 N3
      k_with "ne" => (refine ne_tup (Cells.tup (i := 0) hd1 (by k_asm) hpos) (Cells.tup (i := 0) hd1 (by k_asm) hpos) (by show un + 3 + 64 < cLine; omega) ?_; rw [decide_eq_true rfl])
      k_extra "go"
      refine ksw_end (hpop ds, n4) F4 N4 (fun q hq => hq) ⟨hd1.hpop hpos, by show (hpop ds).length < 63; rw [hpop_len]; omega⟩ (by intro q hq; cases hq) (by ksw_same) ?_ (by show (hpop ds).length < ds.length; rw [hpop_len]; omega)
      rw [← hd3, drain.eq_1 x ds, if_pos ⟨hpos, hle⟩]
    · refine Back.intro F2 N2 (hret _ _ _ ⟨rfl, ?_, nd, ?_⟩)
      · intro b o e hb
        exact F2.keep _ _ (hg' b o e hb)
      · rw [← hcp, ← hd3, drain.eq_1 x ds, if_neg (by omega)]
        exact (N2 _ (.head _)).1
    · refine Back.intro F2 N2 (hret _ _ _ ⟨rfl, ?_, nd, ?_⟩)
      · intro b o e hb
        exact F2.keep _ _ (hg' b o e hb)
      · rw [← hcp, ← hd3, drain.eq_1 x ds, if_neg (by omega)]
        exact (N2 _ (.head _)).1
end Mine
end

section
local macro_rules | `(tactic| walk_at "mine pad") => `(tactic| fail "pad")
theorem Mine.resetM9 : True := by
  w_top off
  k_with_none
  exact trivial
open PySem PySem.W PySem.Calls PySem.Spec PyProof.Rows
namespace Mine
section
variable {prog : Program} {w : World} {A : Around} {E : Value → Shared → Prop} {Q : Flow → Shared → Prop} {s : Shared} {env : Env} {h₀ : Heap} {y : Str} {py : Pos} {body : List Stmt}
/-- a loop over a range by ones -/
theorem for_range {σ : Type} {r : Addr} {a₀ b₀ : Int} {t₀ u₀ v₀ : Tok} {n : Nat} {m₀ : Str → Option Value}
    (Led : σ → List (Addr × Obj)) (ps : σ → List (Str × Value)) (stored : List Str) (Inv : Nat → σ → Prop) (c₀ : σ)
    (hh : A.handled = none) (hr : IsRange s.heap r a₀ b₀ 1 t₀ u₀ v₀) (hsmall : Builtin.Range.small a₀ b₀ 1 = true) (hn : Builtin.Range.rangeSize a₀ b₀ 1 = (n : Int)) (F : Fr h₀ env.locals s.heap m₀) (N : News h₀ env.locals s.heap (Led c₀))
    (hk : ∀ p ∈ ps c₀, m₀ p.1 = some p.2) (hp : Inv 0 c₀)
    (turn : ∀ (c : σ) (i : Nat) (t : Tok) (u : Str → Option Value) h tk I oI, i < n → Inv i c → (∀ p ∈ Led c, p.1 ≠ I) → h.get? I = some oI → Fr h₀ env.locals h (kstB (fun z => if stored.contains z then u z else m₀ z) (ps c)) → News h₀ env.locals h (Led c ++ [(I, oI)]) →
      ∀ s', s' = { s with heap := s.heap.push { cls := .type "range_iterator", data := .fields #[rawInt a₀, rawInt (Builtin.Range.rangeSize a₀ b₀ 1), rawInt 1] } } →
      wpAny (model prog w) A (assign (.Name y py) env (.int (a₀ + (i : Int)) t)) (fun _ s₃ => wpAny (model prog w) A (execs body env) (ForPost h₀ env.locals s' Led ps stored m₀ Inv I oI i Q) E s₃) E { s with heap := h, toks := tk })
    (done : ∀ (c : σ) (u : Str → Option Value) h tk, Inv n c → Fr h₀ env.locals h (kstB (fun z => if stored.contains z then u z else m₀ z) (ps c)) → News h₀ env.locals h (Led c) → Q .next { s with heap := h, toks := tk }) :
    wpAny (model prog w) A (pyIter (.ref r)) (fun it s₂ => TurnsAt prog w A h₀ env (.Name y py) body Q E it s₂) E s := by
  refine wpAny_pyIter_range hr hsmall ?_
  refine turns_of (KTurns.ofWalks (Walks.range hh s.heap.objs.size a₀ 1 n) fun i v s Q E st q => by unfold letOwnedTupleGo; exact wpAny_pure q) Led ps stored Inv c₀ ?_ ?_ (next_is_new F) ⟨_, Heap.get?_push_size _ rfl⟩ ?_ (F.push _) (fun p hp => ⟨Heap.get?_push_of_some _ (N p hp).1, (N p hp).2⟩) (fun p hp q => ?_) (fun i h st => ⟨_, st⟩) hk hp ?_ ?_
  · intro b hb
    exact .inl (List.mem_singleton.mp hb)
  · intro hI
    exact absurd F.ns.lt ((List.mem_singleton.mp hI) ▸ Nat.lt_irrefl _)
  · show IsRangeIter _ _ _ _ _
    rw [hn]
    simpa using Heap.get?_push_size _ rfl
  · exact absurd (Heap.lt_size (N p hp).1) (q ▸ Nat.lt_irrefl _)
  · rintro c i v u h tk oI hi ⟨t, rfl⟩ hInv hne hoI F₁ N₁
    have e1 : a₀ + (i : Int) * 1 = a₀ + (i : Int) := by omega
    rw [e1]
    exact turn c i t u h tk _ oI hi hInv hne hoI F₁ N₁ _ rfl
  · intro c u h tk hInv F₁ N₁
    exact done c u h tk hInv F₁ N₁
end
section
variable {prog : Program} {w : World} {A : Around} {E : Value → Shared → Prop} {s : Shared} {D : Addr} {cells : List Cell} {n : Nat} {k : Int} {t u : Tok}
theorem sub_cellB {value slice : PySem.Expr} {Q : Value → Shared → Prop} (hD : s.heap.get? D = some (listOf (vals cells).toArray n)) (h0 : 0 ≤ k) (h1 : k < (cells.length : Int)) (hfit : k < 2 ^ 63) (h : Q (.ref (cells.getD k.toNat default).1) s)
    (hs : subscripted slice false (.ref D) (.int k u) = operate [.ref D, .int k u] (getItem (.ref D) (.int k u)) := by with_unfolding_all rfl) :
    wpAny (model prog w) A (subscriptTail value slice (.ref D) (.int k u)) Q E s :=
  tail_any (IsL.isList (n := n) hD).typeIs slot_list_getitem.lookup (wpAny_getItem_list (PySem.IsL.isList (n := n) hD) h0 hfit (vals_get (by omega)) h) hs
theorem len_cellB {Q : Value → Shared → Prop} (hD : s.heap.get? D = some (listOf (vals cells).toArray n)) (h64 : cells.length < 64) (h : ∀ t tk, Q (.int (cells.length : Int) t) { s with toks := tk }) :
    wpAny (model prog w) A (call (.builtin "len") [.ref D]) Q E s := by
  have hl := PySem.IsL.isList (n := n) hD
  have e : (vals cells).toArray.size = cells.length := by simp
  refine len_list hl (by rw [e]; omega) ?_
  rw [e]
  exact h _ _
end
theorem one_plus (p : Nat) : (1 : Int) + (p : Int) = ((p + 1 : Nat) : Int) := by omega
theorem fdiv2 {prog : Program} {w : World} {A : Around} {E : Value → Shared → Prop} {s : Shared} {x : Int} {t u : Tok} {Q : Value → Shared → Prop} (y : Nat) (hy : y < 1000) (e : x = (y : Int)) (h : Q (.int ((y / 2 : Nat) : Int) s.toks) { s with toks := s.toks + 1 }) : wpAny (model prog w) A (binaryOp .FloorDiv (.int x t) (.int 2 u)) Q E s := by
  subst e
  refine floordiv_int (by decide) ?_ (Or.inl (PyProof.noPylong_small (by omega)))
  have e' : (y : Int).fdiv 2 = ((y / 2 : Nat) : Int) := by
    rw [Int.fdiv_eq_ediv_of_nonneg _ (by decide)]
    omega
  rw [e']
  exact h
def IsHeap (l : List Cell) : Prop := ∀ i, 1 ≤ i → i < l.length → ltI (l.getD i default).2 (l.getD ((i - 1) / 2) default).2 = false

local macro_rules | `(tactic| walk_at "subscriptTail") => `(tactic| (k_here; (with_reducible show wpAny _ _ (subscriptTail _ _ (Value.ref _) (Value.int _ _)) _ _ _); k_dflt (k_extra "item")))
local macro_rules | `(tactic| walk_at "call builtin:len") => `(tactic| (k_here; (with_reducible show wpAny _ _ (call (Value.builtin "len") [Value.ref _]) _ _ _); k_dflt (k_extra "len")))
local macro_rules | `(tactic| walk_at "compareOp Lt ref ref") => `(tactic| (k_here; (with_reducible show wpAny _ _ (compareOp CmpOp.Lt (Value.ref _) (Value.ref _)) _ _ _); k_dflt (k_extra "lt")))
local macro_rules | `(tactic| walk_at "binaryOp FloorDiv int int") => `(tactic| k_dflt (k_extra "fdiv"))
local macro_rules | `(tactic| walk_at "ForPost") => `(tactic| dsimp only [ForPost])
local macro_rules | `(tactic| walk_at "call type:range") => `(tactic| (k_here; k_dflt (refine' range2_rows ?k1 ?k2 ?_; (case k1 => k_asm); (case k2 => k_asm)); intro h' tk' t1' u1' v1' R' F' N' keep'))

set_option maxRecDepth 100000 in
set_option maxHeartbeats 4000000 in
theorem isheap_does {w : World} {s : Shared} {l : Addr} {cells : List Cell} {n : Nat} (hl : s.heap.get? l = some (listOf (vals cells).toArray n)) (hc : Cells s.heap cells) (h64 : cells.length < 64) (hheap : IsHeap cells) :
    Does w 66 1 [] s [.ref l] (fun v h' => v = .bool true ∧ ∀ b o, s.heap.get? b = some o → h'.get? b = some o) := by
  unfold Does; k_fill
  intro dp un gd cn cs a ccd cl outer A₀ base h₀ L m p loose mean mg mb Q E B F X T hk hm hd hu hret
  have N : News h₀ L s.heap [] := News.nil
  refine wpAny_call ?_
  k_dflt (refine' enter (binds := [(Str.ofString "heap", .ref l)]) ?k1 ?k2 ?k3 ?k4 ?k5 ?kA ?kF ?kK ?k6 ?k7 ?k8 ?k9 ?kB ?_ ?c2 ?c3 ?c4 ?c5; (case kA => exact rfl); (case kF => exact rfl); (case kK => assumption); (case k1 => k_asm); (case k2 => k_asm); (case k3 => k_asm); (case k4 => k_asm); (case k5 => k_asm); (case k6 => k_is); (case k7 => k_is); (case k8 => ktr_room); (case k9 => exact BindsTo.of_eq rfl); (case c5 => decide); (case kB => exact locs rfl); (case c2 => exact rfl); (case c3 => exact rfl); (case c4 => exact rfl))
  intro g L' h' hg F' N' B' X' T'
  have hg' : ∀ b o, s.heap.get? b = some o → g.get? b = some o := fun b o e => hg b o e (by simp)
  have hcg : Cells g cells := hc.keeps hg'
  have hlg : g.get? l = some (listOf (vals cells).toArray n) := hg' _ _ hl
  clear N F X T B
  dsimp only
  (try k_unmd)
  k_fold
  k_with_none
  k_with "go" => (repeat' (first | (k_unfold; (try dsimp only)) | ((fail_if_success (with_reducible show wpAny _ _ (exec (PySem.Stmt.While _ _ _ _) _) _ _ _)); (fail_if_success (with_reducible show wpAny _ _ (exec (PySem.Stmt.For _ _ _ _ _) _) _ _ _)); (fail_if_success (with_reducible show wpAny _ _ (pyIter _) _ _ _)); (fail_if_success (with_reducible show KswEnd _ _ _ _ _ _ _ _ _ _ _ _)); (fail_if_success (with_reducible show ForEnd _ _ _ _ _ _ _ _ _ _ _ _)); (fail_if_success (with_reducible show wpAny _ _ (PySem.call (Value.ref _) _ _) _ _ _)); walk1; (try dsimp only); (try simp only [two_one, plus_one])) | fail "no step"))
  k_with "len" => (refine len_cellB (cells := cells) (n := n) (Fr.keep (by k_asm) _ _ hlg) h64 ?_; intro t' tk')
  k_extra "go"
  rename Fr _ _ _ _ => F9
  rename News _ _ _ _ => N9
  k_dflt (refine For_turns F9 ?_)
  k_extra "go"
  rename Fr _ _ _ _ => F8
  rename News _ _ _ _ => N8
  rename IsRange _ _ _ _ _ _ _ _ => R8
  k_dflt (refine for_range (σ := Unit) (n := ((cells.length : Int) - 1).toNat) (fun _ => []) (fun _ => []) [Str.ofString "i"] (fun _ _ => True) () rfl R8 (small_one (by omega) (by omega) (by omega) (by omega)) (rangeSize_nat _ _) F8 N8 (by intro q hq; cases hq) trivial ?_ ?_)
  · rintro ⟨⟩ i ti u h tk I oI hi _ hI hoI F N _ rfl
    dsimp only [kstB] at F
    replace F : Fr g L' h _ := F
    replace N : News g L' h [(I, oI)] := N
    simp only [one_plus]
    clear F8 N8 F9 N9
    have hi' : i + 1 < cells.length := by omega
    k_with "item" => (refine sub_cellB (cells := cells) (n := n) (Fr.keep (by k_asm) _ _ hlg) (by omega) (by omega) (by omega) ?_ (by with_unfolding_all rfl); simp only [Int.toNat_natCast])
    k_with "fdiv" => (refine fdiv2 i (by omega) (by omega) ?_)
    k_with "lt" => (refine lt_tup (Cells.tup (i := i + 1) hcg (by k_asm) (by omega)) (Cells.tup (i := i / 2) hcg (by k_asm) (by omega)) (by show un + 3 < cLine; omega) ?_; rw [show ltI (cells.getD (i + 1) default).2 (cells.getD (i / 2) default).2 = false from hheap (i + 1) (by omega) hi'])
    k_extra "go"
    rename Fr _ _ _ _ => F3
    rename News _ _ _ _ => N3
    exact ForEnd.intro () F3 News.nil (N3 _ (.head _)).1 (by intro q hq; cases hq) (by intro q hq; cases hq) (by ksw_same) trivial
  · rintro ⟨⟩ u h tk _ F N
    dsimp only [kstB] at F
    replace F : Fr g L' h _ := F
    replace N : News g L' h [] := N
    clear F8 N8 F9 N9
    k_extra "go"
    exact Back.intro F N (hret _ _ _ ⟨rfl, fun b o e => F.keep _ _ (hg' b o e)⟩)
end Mine
end

section
open PySem PySem.W PySem.Calls PySem.Spec PyProof.Rows
namespace Mine
/-- as ForEnd, with several things of the loop's own -/
def ForEndW {σ : Type} (h₀ : Heap) (L : Addr) (s : Shared) (Led : σ → List (Addr × Obj)) (ps : σ → List (Str × Value)) (stored : List Str) (m₀ : Str → Option Value) (Inv : Nat → σ → Prop) (own : List (Addr × Obj)) (i : Nat) (s₂ : Shared) : Prop :=
  ∃ (c' : σ) (h' : Heap) (tk : Nat) (m' : Str → Option Value), s₂ = { s with heap := h', toks := tk } ∧ Fr h₀ L h' m' ∧ News h₀ L h' (Led c') ∧ (∀ q ∈ own, h'.get? q.1 = some q.2) ∧ (∀ p ∈ Led c', ∀ q ∈ own, p.1 ≠ q.1) ∧ (∀ p ∈ ps c', m' p.1 = some p.2) ∧ (∀ z, (∀ p ∈ ps c', z ≠ p.1) → stored.contains z = false → m' z = m₀ z) ∧ Inv (i + 1) c'
def ForPostW {σ : Type} (h₀ : Heap) (L : Addr) (s : Shared) (Led : σ → List (Addr × Obj)) (ps : σ → List (Str × Value)) (stored : List Str) (m₀ : Str → Option Value) (Inv : Nat → σ → Prop) (own : List (Addr × Obj)) (i : Nat) (Q : Flow → Shared → Prop) (f : Flow) (s₂ : Shared) : Prop :=
  match f with
  | .ret v => Q (.ret v) s₂
  | .brk => Q .next s₂
  | _ => ForEndW h₀ L s Led ps stored m₀ Inv own i s₂
theorem ForEndW.intro {σ : Type} {h₀ : Heap} {L : Addr} {s : Shared} {Led : σ → List (Addr × Obj)} {ps : σ → List (Str × Value)} {stored : List Str} {m₀ m' : Str → Option Value} {Inv : Nat → σ → Prop} {own : List (Addr × Obj)} {i : Nat} {h' : Heap} {tk : Nat} (c' : σ)
    (F : Fr h₀ L h' m') (N : News h₀ L h' (Led c')) (hI : ∀ q ∈ own, h'.get? q.1 = some q.2) (hn : ∀ p ∈ Led c', ∀ q ∈ own, p.1 ≠ q.1) (hk : ∀ p ∈ ps c', m' p.1 = some p.2) (hr : ∀ z, (∀ p ∈ ps c', z ≠ p.1) → stored.contains z = false → m' z = m₀ z) (hp : Inv (i + 1) c') :
    ForEndW h₀ L s Led ps stored m₀ Inv own i { s with heap := h', toks := tk } := ⟨c', h', tk, m', rfl, F, N, hI, hn, hk, hr, hp⟩
theorem owns_of {h : Heap} : ∀ {wr : List Addr}, (∀ b ∈ wr, ∃ o, h.get? b = some o) → ∃ own : List (Addr × Obj), own.map (·.1) = wr ∧ ∀ q ∈ own, h.get? q.1 = some q.2
  | [], _ => ⟨[], rfl, fun _ hq => nomatch hq⟩
  | b :: r, hw => by
    obtain ⟨o, ho⟩ := hw b (.head _)
    obtain ⟨own, e, ho'⟩ := owns_of (wr := r) fun b hb => hw b (.tail _ hb)
    exact ⟨(b, o) :: own, by rw [List.map_cons, e], List.forall_mem_cons.mpr ⟨ho, ho'⟩⟩
section
variable {prog : Program} {w : World} {A : Around} {E : Value → Shared → Prop} {Q : Flow → Shared → Prop} {s : Shared} {env : Env} {h₀ : Heap} {target : Expr} {body : List Stmt}
theorem turns_ofW {σ : Type} {I : Addr} {fp wr : List Addr} {n : Nat} {P Md : Nat → Value → Heap → Prop} {St : Nat → Heap → Prop} {m₀ : Str → Option Value} (W : KTurns prog w A target I fp wr n P Md St)
    (Led : σ → List (Addr × Obj)) (ps : σ → List (Str × Value)) (stored : List Str) (Inv : Nat → σ → Prop) (c₀ : σ)
    (hfp : ∀ b ∈ fp, b ∈ wr ∨ ∃ o, h₀.get? b = some o) (hL : env.locals ∉ fp) (hI0 : ∀ b ∈ wr, h₀.get? b = none) (hst : St 0 s.heap) (F : Fr h₀ env.locals s.heap m₀) (N : News h₀ env.locals s.heap (Led c₀)) (hnI : ∀ p ∈ Led c₀, p.1 ∉ wr)
    (hIst : ∀ i h, St i h → ∀ b ∈ wr, ∃ o, h.get? b = some o)
    (hk : ∀ p ∈ ps c₀, m₀ p.1 = some p.2) (hp : Inv 0 c₀)
    (turn : ∀ (c : σ) (i : Nat) (v : Value) (u : Str → Option Value) h tk own, i < n → P i v h → Inv i c → (∀ p ∈ Led c, ∀ q ∈ own, p.1 ≠ q.1) → own.map (·.1) = wr → (∀ q ∈ own, h.get? q.1 = some q.2) → Fr h₀ env.locals h (kstB (fun z => if stored.contains z then u z else m₀ z) (ps c)) → News h₀ env.locals h (Led c ++ own) →
      wpAny (model prog w) A (assign target env v) (fun _ s₃ => wpAny (model prog w) A (execs body env) (ForPostW h₀ env.locals s Led ps stored m₀ Inv own i Q) E s₃) E { s with heap := h, toks := tk })
    (done : ∀ (c : σ) (u : Str → Option Value) h tk, Inv n c → Fr h₀ env.locals h (kstB (fun z => if stored.contains z then u z else m₀ z) (ps c)) → News h₀ env.locals h (Led c) → Q .next { s with heap := h, toks := tk }) :
    TurnsAt prog w A h₀ env target body Q E (.ref I) s := by
  refine ⟨I, fp, wr, n, P, Md, St, m₀, Led c₀, fun i m nx => ∃ c : σ, nx = Led c ∧ (∀ p ∈ ps c, m p.1 = some p.2) ∧ (∀ z, (∀ p ∈ ps c, z ≠ p.1) → stored.contains z = false → m z = m₀ z) ∧ Inv i c, rfl, W, hL, hI0, hnI, hst, F, N, ⟨c₀, rfl, hk, fun _ _ _ => rfl, hp⟩, ?_, ?_⟩
  · rintro i v m₁ news₁ h₁ tk₁ own hi hP ⟨c, rfl, h1, h2, hInv⟩ hoff hown hget hall hst₁ F₁ N₁
    obtain ⟨ow, how, hoget⟩ := owns_of (hIst _ _ hst₁)
    have hwr : ∀ q ∈ ow, q.1 ∈ wr := fun q hq => how ▸ List.mem_map.mpr ⟨q, hq, rfl⟩
    have hoff' : ∀ p ∈ Led c, ∀ q ∈ ow, p.1 ≠ q.1 := fun p hp q hq e => hoff p hp (e ▸ hwr q hq)
    have hmem : ∀ q ∈ ow, q ∈ own := fun q hq => hall q.1 (W.sub _ (hwr q hq)) (hI0 _ (hwr q hq)) q.2 (hoget q hq)
    have N₂ : News h₀ env.locals h₁ (Led c ++ ow) := fun p hp => by
      rcases List.mem_append.mp hp with q | q
      · exact N₁ p (List.mem_append_right _ q)
      · exact N₁ _ (List.mem_append_left _ (hmem p q))
    have fin : ∀ s₃, ForEndW h₀ env.locals s Led ps stored m₀ Inv ow i s₃ → LoopStepU h₀ env.locals wr own (fun m nx => ∃ c : σ, nx = Led c ∧ (∀ p ∈ ps c, m p.1 = some p.2) ∧ (∀ z, (∀ p ∈ ps c, z ≠ p.1) → stored.contains z = false → m z = m₀ z) ∧ Inv (i + 1) c) { s with heap := h₁, toks := tk₁ } .next s₃ := by
      rintro s₃ ⟨c', h', tk, m', rfl, F', N', hI', hn', hk', hr', hp'⟩
      refine ⟨rfl, h', tk, m', Led c', rfl, F', ?_, fun p hp q => ?_, c', rfl, hk', hr', hp'⟩
      · intro p hp
        rcases List.mem_append.mp hp with q | q
        · have hm := N₁ p (List.mem_append_left _ q)
          rcases hfp p.1 (hown p q) with e | ⟨o, e⟩
          · rw [← how] at e
            obtain ⟨r, hr, er⟩ := List.mem_map.mp e
            have h3 := hoget r hr
            have h4 := hget p q
            have h5 := hI' r hr
            have er' : r.1 = p.1 := er
            rw [er'] at h3 h5
            rw [h3] at h4
            exact ⟨h5.trans h4, hm.2⟩
          · have := hm.2.2
            rw [e] at this; cases this
        · exact N' p q
      · rw [← how] at q
        obtain ⟨r, hr, er⟩ := List.mem_map.mp q
        exact hn' p hp r hr er.symm
    refine wpAny_mono (turn c i v m₁ h₁ tk₁ ow hi hP hInv hoff' how hoget (ksw_fr h1 h2 F₁) N₂) (fun _ s₃ hx => wpAny_mono hx (fun f s₄ q => ?_) fun _ _ e => e) fun _ _ e => e
    cases f with
    | ret v => exact .ret q
    | brk => exact .brk q
    | next => exact .next (fin _ q)
    | cont => exact .cont (fin _ q)
  · rintro h' tk m' news' F' N' _ ⟨c, rfl, h1, h2, hInv⟩
    exact done c m' h' tk hInv (ksw_fr h1 h2 F') N'
/-- a loop over enumerate of a list that lies in the frame's ground -/
theorem for_enum {σ : Type} {elts : List Expr} {k : Nat} {pos : Pos} {ax : Addr} {vs : List Value} {nn : Nat} {m₀ : Str → Option Value}
    (Led : σ → List (Addr × Obj)) (ps : σ → List (Str × Value)) (stored : List Str) (Inv : Nat → σ → Prop) (c₀ : σ)
    (hh : A.handled = none) (hax : h₀.get? ax = some (listOf vs.toArray nn)) (F : Fr h₀ env.locals s.heap m₀) (N : News h₀ env.locals s.heap (Led c₀))
    (hk : ∀ p ∈ ps c₀, m₀ p.1 = some p.2) (hp : Inv 0 c₀)
    (turn : ∀ (c : σ) (i : Nat) (T : Addr) (t : Tok) (v : Value) (u : Str → Option Value) h tk own, i < vs.length → vs[i]? = some v → IsTup h T #[.int (i : Int) t, v] → Inv i c → (∀ p ∈ Led c, ∀ q ∈ own, p.1 ≠ q.1) → (∀ q ∈ own, h.get? q.1 = some q.2) → Fr h₀ env.locals h (kstB (fun z => if stored.contains z then u z else m₀ z) (ps c)) → News h₀ env.locals h (Led c ++ own) →
      ∀ s' h'', s' = { s with heap := h'' } →
      wpAny (model prog w) A (assign (.Tuple elts k pos) env (.ref T)) (fun _ s₃ => wpAny (model prog w) A (execs body env) (ForPostW h₀ env.locals s' Led ps stored m₀ Inv own i Q) E s₃) E { s with heap := h, toks := tk })
    (done : ∀ (c : σ) (u : Str → Option Value) h tk, Inv vs.length c → Fr h₀ env.locals h (kstB (fun z => if stored.contains z then u z else m₀ z) (ps c)) → News h₀ env.locals h (Led c) → Q .next { s with heap := h, toks := tk }) :
    wpAny (model prog w) A (call (.type "enumerate") [.ref ax]) (fun xv s₁ => wpAny (model prog w) A (pyIter xv) (fun it s₂ => TurnsAt prog w A h₀ env (.Tuple elts k pos) body Q E it s₂) E s₁) E s := by
  have hl : s.heap.IsList ax vs.toArray := PySem.IsL.isList (n := nn) (F.keep _ _ hax)
  have hlt : ax < s.heap.objs.size := Heap.lt_size (F.keep _ _ hax)
  have hLs : env.locals < s.heap.objs.size := F.ns.lt
  refine call_enumerate_list hl fun h' hE hI hsz hkp => ?_
  refine wpAny_pyIter_enum hE ?_
  refine turns_ofW (KTurns.ofWalksU (WalksT.enumerate hh (s.heap.objs.size + 1) s.heap.objs.size ax (Nat.succ_ne_self _) (ktu_ne 1 hlt) (Nat.ne_of_lt hlt) vs.toArray).toU) Led ps stored Inv c₀ ?_ ?_ ?_ ?_ (F.keeps hkp) (N.grown hkp) (fun p hp q => ?_) (fun i h st => ?_) hk hp ?_ ?_
  · intro b hb
    have hb' : b = s.heap.objs.size + 1 ∨ b = s.heap.objs.size ∨ b = ax := by simpa using hb
    rcases hb' with rfl | rfl | rfl
    · exact .inl (by simp)
    · exact .inl (by simp)
    · exact .inr ⟨_, hax⟩
  · intro hI'
    have hb' : env.locals = s.heap.objs.size + 1 ∨ env.locals = s.heap.objs.size ∨ env.locals = ax := by simpa using hI'
    rcases hb' with e | e | e
    · exact ktu_ne 1 hLs e
    · exact Nat.ne_of_lt hLs e
    · exact absurd (Heap.lt_size hax) (Nat.not_lt.mpr (e ▸ F.above))
  · intro b hb
    have hb' : b = s.heap.objs.size + 1 ∨ b = s.heap.objs.size := by simpa using hb
    rcases hb' with rfl | rfl
    · exact ktu_new F (Nat.le_add_right _ _)
    · exact ktu_new F (Nat.le_refl _)
  · exact ⟨⟨.none, hE⟩, hI, hl.at fun o e => hkp ax o e⟩
  · have hb' : p.1 = s.heap.objs.size + 1 ∨ p.1 = s.heap.objs.size := by simpa using q
    have hlp := Heap.lt_size (N p hp).1
    rcases hb' with e | e
    · exact ktu_ne 1 hlp e
    · exact Nat.ne_of_lt hlp e
  · intro b hb
    have hb' : b = s.heap.objs.size + 1 ∨ b = s.heap.objs.size := by simpa using hb
    obtain ⟨⟨old, he⟩, ⟨oi, hoi, _⟩, _⟩ := st
    rcases hb' with rfl | rfl
    · exact ⟨_, he⟩
    · exact ⟨oi, hoi⟩
  · rintro c i v u h tk own hi ⟨T, vals, rfl, ⟨t, x, hx, rfl⟩, hT⟩ hInv hne how hget F₁ N₁
    exact turn c i T t x u h tk own (by simpa using hi) (by simpa using hx) hT hInv hne hget F₁ N₁ _ _ rfl
  · intro c u h tk hInv F₁ N₁
    exact done c u h tk (by simpa using hInv) F₁ N₁
end
end Mine
end

section
local macro_rules | `(tactic| walk_at "mine pad") => `(tactic| fail "pad")
local macro_rules | `(tactic| walk_at "mine pad") => `(tactic| fail "pad")
local macro_rules | `(tactic| walk_at "mine pad") => `(tactic| fail "pad")
local macro_rules | `(tactic| walk_at "mine pad") => `(tactic| fail "pad")
local macro_rules | `(tactic| walk_at "mine pad") => `(tactic| fail "pad")
local macro_rules | `(tactic| walk_at "mine pad") => `(tactic| fail "pad")
local macro_rules | `(tactic| walk_at "mine pad") => `(tactic| fail "pad")
local macro_rules | `(tactic| walk_at "mine pad") => `(tactic| fail "pad")
theorem Mine.resetM11 : True := by
  w_top off
  k_with_none
  exact trivial
open PySem PySem.W PySem.Calls PySem.Spec PyProof.Rows
namespace Mine
abbrev hdata (H : House) : Int × Itm := (H.2.1, H.2.2.2)
def houseOf (i : Nat) (v : Int) : Int × Itm := (v.fmod 12, (-1 - (v.fdiv 72).fmod 8, v.fmod 12 + 1 + (v.fdiv 12).fmod 6, (i : Int)))
def housesOf (ns : List Int) : List (Int × Itm) := ns.zipIdx.map fun p => houseOf p.2 p.1
def HousesIn (tups : List (Addr × Obj)) (hs : List House) : Prop := ∀ H ∈ hs, (∃ t n, (H.1, pairO H t n) ∈ tups) ∧ ∃ t1 t2 t3 n, (H.2.2.1, tupO H.2.2.2 t1 t2 t3 n) ∈ tups
theorem HousesIn.mono {tups tups' : List (Addr × Obj)} {hs : List House} (h : HousesIn tups hs) (hm : ∀ p ∈ tups, p ∈ tups') : HousesIn tups' hs := fun H hH => by
  obtain ⟨⟨t, n, a⟩, t1, t2, t3, k, b⟩ := h H hH
  exact ⟨⟨t, n, hm _ a⟩, t1, t2, t3, k, hm _ b⟩
theorem HousesIn.houses {tups : List (Addr × Obj)} {hs : List House} {h : Heap} (hi : HousesIn tups hs) (hg : ∀ p ∈ tups, h.get? p.1 = some p.2) : Houses h hs := fun H hH => by
  obtain ⟨⟨t, n, a⟩, t1, t2, t3, k, b⟩ := hi H hH
  exact ⟨⟨t, n, hg _ a⟩, t1, t2, t3, k, hg _ b⟩

theorem allLt_mem {d : Addr} : ∀ {l : List (Addr × Obj)}, AllLt d l → ∀ p ∈ l, @LT.lt Nat _ p.1 d
  | [], _, _, hp => nomatch hp
  | _ :: _, h, _, .head _ => h.1
  | _ :: _, h, p, .tail _ hp => allLt_mem h.2 p hp
theorem housesOf_snoc (ns : List Int) (i : Nat) (hi : i < ns.length) : housesOf (ns.take (i + 1)) = housesOf (ns.take i) ++ [houseOf i ns[i]] := by
  have hg : ns[i]? = some ns[i] := List.getElem?_eq_getElem hi
  have hlen : (ns.take i).length = i := by rw [List.length_take]; omega
  unfold housesOf
  rw [List.take_add_one, hg, Option.toList_some, List.zipIdx_append, List.map_append, hlen]
  simp
local macro_rules | `(tactic| walk_at "ForPostW") => `(tactic| dsimp only [ForPostW])

set_option maxRecDepth 100000 in
set_option maxHeartbeats 4000000 in
theorem houses_does {w : World} {s : Shared} {na : Addr} {vs : List Value} {ns : List Int} {nn : Nat} (hl : s.heap.get? na = some (listOf vs.toArray nn)) (hi : IntsAre vs ns) (h63 : ns.length < 63) :
    Does w 49 1 [] s [.ref na] (fun v h' => ∃ ha hs n, v = .ref ha ∧ h'.get? ha = some (listOf (hvals hs).toArray n) ∧ Houses h' hs ∧ hs.map hdata = housesOf ns ∧ ∀ b o, s.heap.get? b = some o → h'.get? b = some o) := by
  unfold Does; k_fill
  intro dp un gd cn cs a ccd cl outer A₀ base h₀ L m p loose mean mg mb Q E B F X T hk hm hd hu hret
  have N : News h₀ L s.heap [] := News.nil
  refine wpAny_call ?_
  k_dflt (refine' enter (binds := [(Str.ofString "numbers", .ref na)]) ?k1 ?k2 ?k3 ?k4 ?k5 ?kA ?kF ?kK ?k6 ?k7 ?k8 ?k9 ?kB ?_ ?c2 ?c3 ?c4 ?c5; (case kA => exact rfl); (case kF => exact rfl); (case kK => assumption); (case k1 => k_asm); (case k2 => k_asm); (case k3 => k_asm); (case k4 => k_asm); (case k5 => k_asm); (case k6 => k_is); (case k7 => k_is); (case k8 => ktr_room); (case k9 => exact BindsTo.of_eq rfl); (case c5 => decide); (case kB => exact locs rfl); (case c2 => exact rfl); (case c3 => exact rfl); (case c4 => exact rfl))
  intro g L' h' hg F' N' B' X' T'
  have hg' : ∀ b o, s.heap.get? b = some o → g.get? b = some o := fun b o e => hg b o e (by simp)
  have hng : g.get? na = some (listOf vs.toArray nn) := hg' _ _ hl
  clear N F X T B
  dsimp only
  (try k_unmd)
  k_fold
  k_with_none
  k_with "go" => (repeat' (first | (k_unfold; (try dsimp only)) | ((fail_if_success (with_reducible show wpAny _ _ (exec (PySem.Stmt.While _ _ _ _) _) _ _ _)); (fail_if_success (with_reducible show wpAny _ _ (exec (PySem.Stmt.For _ _ _ _ _) _) _ _ _)); (fail_if_success (with_reducible show wpAny _ _ (pyIter _) _ _ _)); (fail_if_success (with_reducible show KswEnd _ _ _ _ _ _ _ _ _ _ _ _)); (fail_if_success (with_reducible show ForEndW _ _ _ _ _ _ _ _ _ _ _)); (fail_if_success (with_reducible show wpAny _ _ (PySem.call (Value.ref _) _ _) _ _ _)); (fail_if_success (with_reducible show wpAny _ _ (PySem.call (Value.type _) _ _) _ _ _)); (fail_if_success (with_reducible show wpAny _ _ (PySem.call (Value.builtin "list.append") _ _) _ _ _)); walk1; (try dsimp only)) | fail "no step"))
  k_extra "go"
  rename_i ha h8 l8 h9 _ _
  rename Fr _ _ _ _ => F9
  rename News _ _ _ _ => N9
  k_dflt (refine For_turns F9 ?_)
  k_extra "go"
  k_dflt (refine for_enum (σ := List House × Nat × List (Addr × Obj)) (vs := vs) (fun c => (ha, listOf (hvals c.1).toArray c.2.1) :: c.2.2) (fun _ => []) [Str.ofString "i", Str.ofString "v", Str.ofString "begin", Str.ofString "end"] (fun i c => HousesIn c.2.2 c.1 ∧ c.1.map hdata = housesOf (ns.take i) ∧ ∀ p ∈ c.2.2, p.1 ≠ ha) ([], 0, []) rfl hng F9 N9 (by intro q hq; cases hq) ⟨(fun _ hq => nomatch hq), rfl, (fun _ hq => nomatch hq)⟩ ?_ ?_)
  · rintro ⟨hs, n, tups⟩ i TA ti v u h tk own hlt hv hTA ⟨hc1, hc2, hc3⟩ hne hget F N _ _ rfl
    dsimp only at hc1 hc2 hc3 hne N
    dsimp only [kstB] at F
    replace F : Fr g L' h _ := F
    replace N : News g L' h ((ha, listOf (hvals hs).toArray n) :: (tups ++ own)) := N
    have hin : i < ns.length := by rw [← hi.length]; exact hlt
    obtain ⟨tv, hx⟩ := hi.get i ns[i] (by simp [hin])
    rw [hx] at hv
    obtain rfl := Option.some.inj hv
    clear F9 N9
    k_dflt (refine unpackN_ F N hTA rfl rfl rfl ?_)
    intro h2 F2 N2
    dsimp only
    clear F N
    k_extra "go"
    rename_i D1 h1 l1 D2 h3 F3 N3 l2
    have hH : hdata ((D2, ns[i].fmod 12, D1, (-1 - (ns[i].fdiv 72).fmod 8, ns[i].fmod 12 + 1 + (ns[i].fdiv 12).fmod 6, (i : Int))) : House) = houseOf i ns[i] := rfl
    have hpush : (hvals hs).toArray.push (.ref D2) = (hvals (hs ++ [(D2, ns[i].fmod 12, D1, (-1 - (ns[i].fdiv 72).fmod 8, ns[i].fmod 12 + 1 + (ns[i].fdiv 12).fmod 6, (i : Int)))])).toArray := by simp
    have hoff : ∀ p ∈ tups ++ own, p.1 ≠ ha := fun q hq e => by
      rcases List.mem_append.mp hq with hq | hq
      · exact hc3 q hq e
      · exact hne _ (.head _) q hq e.symm
    have hlen9 : hs.length = i := by
      have := congrArg List.length hc2
      simp [housesOf] at this; omega
    k_dflt (refine append_K F3 N3 (Upd.tail (Nat.ne_of_gt l2.2.1) (Upd.tail (Nat.ne_of_gt l1.1) (Upd.head hoff))) ?_ (by rw [sizeLine_eq]; simp; omega))
    intro h4 F4 N4
    rw [hpush] at N4
    dsimp only
    clear F3 N3
    k_extra "go"
    have key : ∃ o2 o1, (∃ t k, o2 = pairO (D2, ns[i].fmod 12, D1, (-1 - (ns[i].fdiv 72).fmod 8, ns[i].fmod 12 + 1 + (ns[i].fdiv 12).fmod 6, (i : Int))) t k) ∧ (∃ t1 t2 t3 k, o1 = tupO (-1 - (ns[i].fdiv 72).fmod 8, ns[i].fmod 12 + 1 + (ns[i].fdiv 12).fmod 6, (i : Int)) t1 t2 t3 k) ∧ News g L' h4 ((D2, o2) :: (D1, o1) :: (ha, listOf (hvals (hs ++ [(D2, ns[i].fmod 12, D1, (-1 - (ns[i].fdiv 72).fmod 8, ns[i].fmod 12 + 1 + (ns[i].fdiv 12).fmod 6, (i : Int)))])).toArray (n + 1)) :: (tups ++ own)) := ⟨_, _, ⟨_, _, rfl⟩, ⟨_, _, _, _, rfl⟩, N4⟩
    obtain ⟨o2, o1, ⟨u1, u2, e2⟩, ⟨w1, w2, w3, w4, e1⟩, N5⟩ := key
    clear N4
    refine ForEndW.intro (hs ++ [(D2, ns[i].fmod 12, D1, (-1 - (ns[i].fdiv 72).fmod 8, ns[i].fmod 12 + 1 + (ns[i].fdiv 12).fmod 6, (i : Int)))], n + 1, (D2, o2) :: (D1, o1) :: tups) F4 (fun q hq => N5 q ?_) (fun q hq => (N5 q ?_).1) ?_ (by intro q hq; cases hq) (by ksw_same) ⟨?_, ?_, ?_⟩
    · rcases List.mem_cons.mp hq with rfl | hq
      · exact .tail _ (.tail _ (.head _))
      · rcases List.mem_cons.mp hq with rfl | hq
        · exact .head _
        · rcases List.mem_cons.mp hq with rfl | hq
          · exact .tail _ (.head _)
          · exact .tail _ (.tail _ (.tail _ (List.mem_append_left _ hq)))
    · exact .tail _ (.tail _ (.tail _ (List.mem_append_right _ hq)))
    · intro q hq r hr
      rcases List.mem_cons.mp hq with rfl | hq
      · exact hne _ (.head _) r hr
      · rcases List.mem_cons.mp hq with rfl | hq
        · exact Nat.ne_of_gt (allLt_mem l2.2.2 r (List.mem_append_right _ hr))
        · rcases List.mem_cons.mp hq with rfl | hq
          · exact Nat.ne_of_gt (allLt_mem l1.2 r (List.mem_append_right _ hr))
          · exact hne q (.tail _ hq) r hr
    · intro H hH'
      rcases List.mem_append.mp hH' with hH' | hH'
      · exact (hc1.mono fun q hq => .tail _ (.tail _ hq)) H hH'
      · rw [List.mem_singleton.mp hH']
        exact ⟨⟨u1, u2, by rw [← e2]; exact .head _⟩, w1, w2, w3, w4, by rw [← e1]; exact .tail _ (.head _)⟩
    · rw [List.map_append, hc2, housesOf_snoc ns i hin]
      rfl
    · intro q hq
      rcases List.mem_cons.mp hq with rfl | hq
      · exact Nat.ne_of_gt l2.2.1
      · rcases List.mem_cons.mp hq with rfl | hq
        · exact Nat.ne_of_gt l1.1
        · exact hc3 q hq
  · rintro ⟨hs, n, tups⟩ u h tk ⟨hc1, hc2, hc3⟩ F N
    dsimp only at hc1 hc2 hc3 N
    dsimp only [kstB] at F
    replace F : Fr g L' h _ := F
    replace N : News g L' h ((ha, listOf (hvals hs).toArray n) :: tups) := N
    clear F9 N9
    k_extra "go"
    refine Back.intro F N (hret _ _ _ ⟨ha, hs, n, rfl, (N _ (.head _)).1, hc1.houses fun q hq => (N q (.tail _ hq)).1, ?_, fun b o e => F.keep _ _ (hg' b o e)⟩)
    rw [hc2, hi.length, List.take_length]
end Mine
end

section
open PySem PySem.W PySem.Calls PySem.Spec PyProof.Rows PyProof.Rows.LCg
namespace Mine
/-- behind a step that leaves the ledger as it was -/
def CE (h₀ : Heap) (L : Addr) (m : Str → Option Value) (s₁ : Shared) (led : List (Addr × Obj)) (P : Prop) (s' : Shared) : Prop :=
  ∃ h' tk, s' = { s₁ with heap := h', toks := tk } ∧ Fr h₀ L h' m ∧ News h₀ L h' led ∧ P
theorem CE.intro {h₀ h' : Heap} {L : Addr} {m : Str → Option Value} {s₁ : Shared} {led : List (Addr × Obj)} {P : Prop} {tk : Nat} (F : Fr h₀ L h' m) (N : News h₀ L h' led) (p : P) : CE h₀ L m s₁ led P { s₁ with heap := h', toks := tk } := ⟨h', tk, rfl, F, N, p⟩
section
variable {prog : Program} {w : World} {A : Around} {E : Value → Shared → Prop} {s : Shared} {h₀ : Heap} {L : Addr} {m : Str → Option Value} {env : Env}
/-- what a turn of a comprehension over the houses has to show -/
def HTurn (prog : Program) (w : World) (A : Around) (h₀ : Heap) (L : Addr) (m : Str → Option Value) (env : Env) (c elt : Expr) (a b : Str) (scope : Scope) (cl : List (Str × Addr)) (s₂ : Shared) (hs : List House) (news : List (Addr × Obj)) (Inv : Nat → List Value → Prop) : Prop :=
  ∀ (i : Nat) (H : House) (t : Tok) (ys : List Value) (I : Addr) (oI : Obj) (C : Addr) (oC : Obj) (D : Addr) (m₂ : Str → Option Value) (h : Heap) (tk : Nat) (E' : Value → Shared → Prop), hs[i]? = some H → Inv i ys → NsObj oC m₂ → m₂ a = some (.int H.2.1 t) → m₂ b = some (.ref H.2.2.1) →
    Fr h₀ L h m → News h₀ L h ((I, oI) :: (C, oC) :: (D, lst ys) :: news) →
    wpAny (model prog w) A (isTrue c (compEnvC scope cl C env) (eval c (compEnvC scope cl C env))) (fun ok s₃ => if ok = true then
      wpAny (model prog w) A (eval elt (compEnvC scope cl C env)) (fun y s₄ => CE h₀ L m { s₂ with heap := h, toks := tk } ((I, oI) :: (C, oC) :: (D, lst ys) :: news) (Inv (i + 1) (ys ++ [y])) s₄) E' s₃
      else CE h₀ L m { s₂ with heap := h, toks := tk } ((I, oI) :: (C, oC) :: (D, lst ys) :: news) (Inv (i + 1) ys) s₃) E' { s₂ with heap := h, toks := tk }

def HSrc (prog : Program) (w : World) (A : Around) (h₀ : Heap) (L : Addr) (m : Str → Option Value) (env : Env) (c elt : Expr) (a b : Str) (scope : Scope) (cl : List (Str × Addr)) (hs : List House) (ax : Addr) (news : List (Addr × Obj)) (Inv : Nat → List Value → Prop) (Fin : Shared → Prop) (xv : Value) (s₁ : Shared) : Prop :=
  xv = .ref ax ∧ Fr h₀ L s₁.heap m ∧ News h₀ L s₁.heap news ∧ Inv 0 [] ∧ ∀ s₂ : Shared, (∃ g, s₂ = { s₁ with heap := g }) → HTurn prog w A h₀ L m env c elt a b scope cl s₂ hs news Inv ∧ Fin s₂

theorem comp_block {elt iter c : Expr} {a b : Str} {pa pb tp : Pos} {kk : Nat} {scope : Scope} {cl : List (Str × Addr)} {pos : Pos} {s₂ : Shared} {I ax : Addr} {hs : List House} {nn : Nat} {news : List (Addr × Obj)} {Inv : Nat → List Value → Prop}
    {RR : Value → Addr → Result → Shared → Prop}
    (hh : A.handled = none) (hax : h₀.get? ax = some (listOf (hvals hs).toArray nn)) (hhs : Houses h₀ hs) (hsz : hs.length < 64) (hit : s₂.heap.IsListIter I ax 0)
    (hcell : ∀ y ∈ scope.names, y.2 ≠ .cell) (hkind : scope.kind = .function) (hxa : scope.names.lookup a = some .local) (hxb : scope.names.lookup b = some .local) (hab : ¬ a = b)
    (F : Fr h₀ L s₂.heap m) (N : News h₀ L s₂.heap news) (hIL : L ≠ I) (hI₀ : h₀.get? I = none) (off : ∀ p ∈ news, p.1 ≠ I) (h0 : Inv 0 [])
    (turn : HTurn prog w A h₀ L m env c elt a b scope cl s₂ hs news Inv)
    (hRR : ∀ D C h tk m' ys, Inv hs.length ys → ys.length ≤ hs.length → Fr h₀ L h m → News h₀ L h ((D, lst ys) :: news) → (∀ p ∈ news, p.1 ≠ D) → h.Ns C m' → h₀.get? C = none → C ≠ L → C ≠ D → (∀ p ∈ news, p.1 ≠ C) → RR (.ref D) C (.ok .next) { s₂ with heap := h, toks := tk }) :
    wpAny (model prog w) A (newList []) (fun acc s₃ => wpAny (model prog w) A (newFunctionEnv scope env.globals cl [] env.qual none .none (some env)) (fun cenv s₄ =>
      codeAny (model prog w) A (.compStart (.ListComp elt [⟨.Tuple [.Name a pa, .Name b pb] kk tp, iter, [c], 0⟩] scope pos) 0 (.ref I) acc { cenv with scope := relabel scope env }) (RR acc cenv.locals) s₄) E s₃) E s₂ := by
  have hl₂ : s₂.heap.IsList ax (hvals hs).toArray := PySem.IsL.isList (n := nn) (F.keep _ _ hax)
  have hIlt : I < s₂.heap.objs.size := by obtain ⟨o, e, _⟩ := hit; exact Heap.lt_size e
  have haxlt : ax < s₂.heap.objs.size := Heap.lt_size (F.keep _ _ hax)
  have hLlt : L < s₂.heap.objs.size := F.ns.lt
  have haxI : ax ≠ I := fun q => by rw [q, hI₀] at hax; cases hax
  refine wpAny_newObj_type (wpAny_newFunctionEnv hcell (by intro y hy; simp at hy) (fun h₁ hns₁ hsb₁ => ?_) hkind)
  dsimp only at hns₁ hsb₁ ⊢
  generalize hH2 : s₂.heap.push { cls := .type "list", dict := none, data := .seq ([] : List Value).toArray } = H2 at hns₁ hsb₁ ⊢
  generalize hCd : H2.objs.size = C at hns₁ hsb₁ ⊢
  generalize hDd : s₂.heap.objs.size = D at hIlt haxlt hLlt ⊢
  have hCD : C = D + 1 := by rw [← hCd, ← hH2, Heap.size_push, hDd]
  have hDC : D ≠ C := by rw [hCD]; exact Nat.ne_of_lt (Nat.lt_succ_self _)
  have lt_ne : ∀ q : Nat, q < D → q ≠ C ∧ q ≠ D := fun q hq => ⟨by rw [hCD]; exact Nat.ne_of_lt (Nat.lt_succ_of_lt hq), Nat.ne_of_lt hq⟩
  have old : ∀ q o, s₂.heap.get? q = some o → h₁.get? q = some o := fun q o e => hsb₁.extBut q o (lt_ne q (hDd ▸ Heap.lt_size e)).1 (Heap.get?_push_of_some _ (hH2 ▸ Heap.get?_push_of_some _ e))
  have hacc : h₁.get? D = some (lst []) := hsb₁.extBut _ _ hDC (Heap.get?_push_of_some _ (hH2 ▸ hDd ▸ Heap.get?_push_size _ rfl))
  have fresh₀ : ∀ q : Nat, D ≤ q → h₀.get? q = none := fun q hq => by
    cases e : h₀.get? q with
    | none => rfl
    | some o => exact absurd (Heap.lt_size (F.keep _ _ e)) (Nat.not_lt.mpr (hDd ▸ hq))
  have hD₀ : h₀.get? D = none := fresh₀ D (Nat.le_refl _)
  have hC₀ : h₀.get? C = none := fresh₀ C (by rw [hCD]; exact Nat.le_succ _)
  have hDL : D ≠ L := Ne.symm (lt_ne L hLlt).2
  have hCL : C ≠ L := Ne.symm (lt_ne L hLlt).1
  have hCI : I ≠ C := (lt_ne I hIlt).1
  have hDI : I ≠ D := (lt_ne I hIlt).2
  have offN : ∀ p ∈ news, p.1 ≠ C ∧ p.1 ≠ D := fun p hp => lt_ne p.1 (hDd ▸ Heap.lt_size (N p hp).1)
  have W := Walks.list (prog := prog) (w := w) hh I ax haxI (hvals hs).toArray
  have hlen : (hvals hs).toArray.size = hs.length := by simp
  rw [hlen] at W
  have loop : ∀ s₃ : Shared, s₃ = { s₂ with heap := h₁, toks := s₂.toks + ([] : List (Str × Value)).length } →
      codeAny (model prog w) A (.compLoop (.ListComp elt [⟨.Tuple [.Name a pa, .Name b pb] kk tp, iter, [c], 0⟩] scope pos) 0 (.ref I) (.ref D) (compEnvC scope cl C env)) (RR (.ref D) C) s₃ := by
    rintro s₃ rfl
    refine kct_loop (fun k s' => ∃ h' tk i ys m', s' = { s₂ with heap := h', toks := tk } ∧ i ≤ hs.length ∧ k = hs.length + 1 - i ∧ ys.length ≤ i ∧ h'.IsListIter I ax i ∧ Fr h₀ L h' m ∧ h'.Ns C m' ∧ News h₀ L h' ((D, lst ys) :: news) ∧ Inv i ys) ?_ (hs.length + 1)
      ⟨h₁, _, 0, [], _, rfl, Nat.zero_le _, rfl, Nat.le_refl _, hit.at fun o e => old _ o e, F.keeps old, hns₁, ?_, h0⟩
    · rintro k s' ⟨h', tk, i, ys, m', rfl, hi, rfl, hyl, hit', F', hn', N', hInv⟩
      have hl' : h'.IsList ax (hvals hs).toArray := PySem.IsL.isList (n := nn) (F'.keep _ _ hax)
      by_cases hlt : i < hs.length
      · obtain ⟨H, hH⟩ : ∃ H, hs[i]? = some H := ⟨_, List.getElem?_eq_getElem hlt⟩
        obtain ⟨⟨t, nt, hp⟩, ht⟩ := hhs H (List.mem_of_getElem? hH)
        refine W.item i _ _ _ hlt ⟨hit', hl'⟩ fun v h₂ tk₂ hPv hst₂ hk₂ => ?_
        have hv : v = .ref H.1 := by
          have e : (hvals hs).toArray[i]? = some (.ref H.1) := by simp [hH]
          rw [e] at hPv; exact (Option.some.inj hPv).symm
        subst hv
        have up₂ : ∀ q o, q ≠ I → h'.get? q = some o → h₂.get? q = some o := fun q o hq e => hk₂ q o (by simpa using hq) e
        refine letGo_listiter hst₂.1 ?_
        have hT : h₂.IsTuple H.1 #[Value.int H.2.1 t, Value.ref H.2.2.1] := ⟨_, up₂ _ _ (fun q => by rw [q, hI₀] at hp; cases hp) (F'.keep _ _ hp), rfl, nt, rfl⟩
        refine kcp_assign (env := compEnvC scope cl C env) hh hT (lookup_relabel_local hxa) (lookup_relabel_local hxb) (by simp [compEnvC, relabel, hkind]) (hn'.at' fun o e => up₂ _ o (Ne.symm hCI) e) fun h₄ tk₄ hn₄ hs₄ => ?_
        have up : ∀ q o, q ≠ I → q ≠ C → h'.get? q = some o → h₄.get? q = some o := fun q o h1 h2 e => hs₄ q o h2 (up₂ q o h1 e)
        obtain ⟨oI, heI, hcI, hdI⟩ := hst₂.1
        have heI₄ : h₄.get? I = some oI := hs₄ I _ hCI heI
        obtain ⟨oC, heC, hoC⟩ := ns_obj hn₄
        have F₄ : Fr h₀ L h₄ m := ⟨F'.ns.at' fun o e => up _ o hIL (Ne.symm hCL) e, fun q o e => up q o (fun z => by rw [z, hI₀] at e; cases e) (fun z => by rw [z, hC₀] at e; cases e) (F'.keep q o e), F'.above⟩
        have N₄ : News h₀ L h₄ ((I, oI) :: (C, oC) :: (D, lst ys) :: news) := by
          refine List.forall_mem_cons.mpr ⟨⟨heI₄, Ne.symm hIL, hI₀⟩, List.forall_mem_cons.mpr ⟨⟨heC, hCL, hC₀⟩, fun q hq => ⟨up _ _ ?_ ?_ (N' q hq).1, (N' q hq).2⟩⟩⟩
          · rcases List.mem_cons.mp hq with rfl | hq
            · exact Ne.symm hDI
            · exact off q hq
          · rcases List.mem_cons.mp hq with rfl | hq
            · exact hDC
            · exact (offN q hq).1
        have fin : ∀ (ys' : List Value) (h₅ : Heap) (tk₅ : Nat), ys'.length ≤ i + 1 → Fr h₀ L h₅ m → News h₀ L h₅ ((I, oI) :: (C, oC) :: (D, lst ys') :: news) → Inv (i + 1) ys' →
            ∃ q', q' < hs.length + 1 - i ∧ ∃ h' tk i ys m', ({ s₂ with heap := h₅, toks := tk₅ } : Shared) = { s₂ with heap := h', toks := tk } ∧ i ≤ hs.length ∧ q' = hs.length + 1 - i ∧ ys.length ≤ i ∧ h'.IsListIter I ax i ∧ Fr h₀ L h' m ∧ h'.Ns C m' ∧ News h₀ L h' ((D, lst ys) :: news) ∧ Inv i ys := by
          intro ys' h₅ tk₅ hle F₅ N₅ hI₅
          exact ⟨hs.length + 1 - (i + 1), by omega, h₅, tk₅, i + 1, ys', _, rfl, hlt, rfl, hle, ⟨oI, (N₅ _ (.head _)).1, hcI, hdI⟩, F₅, hoC.ns (N₅ _ (.tail _ (.head _))).1, fun q hq => N₅ q (.tail _ (.tail _ hq)), hI₅⟩
        refine wpAny_mono (turn i H t ys I oI C oC D _ h₄ tk₄ _ hH hInv hoC (by simp [hab]) (by simp) F₄ N₄) (fun ok s₅ h₅ => ?_) fun _ _ e => e
        cases ok with
        | false =>
          simp only [Bool.false_eq_true, if_false] at h₅ ⊢
          obtain ⟨h₅, tk₅, rfl, F₅, N₅, hI₅⟩ := h₅
          exact fin ys h₅ tk₅ (Nat.le_succ_of_le hyl) F₅ N₅ hI₅
        | true =>
          simp only [if_true] at h₅ ⊢
          refine wpAny_mono h₅ (fun y s₆ h₆ => ?_) fun _ _ e => e
          obtain ⟨h₅, tk₅, rfl, F₅, N₅, hI₅⟩ := h₆
          refine append_at (hsz := by show ys.toArray.size ≤ sizeLine; rw [List.size_toArray, sizeLine_eq]; omega) (N₅ _ (.tail _ (.tail _ (.head _)))).1 fun h₆ hs₆ hD₆ => ?_
          refine fin (ys ++ [y]) h₆ _ (by rw [List.length_append, List.length_singleton]; exact Nat.succ_le_succ hyl) (F₅.change hs₆ hDL hD₀) ?_ hI₅
          refine List.forall_mem_cons.mpr ⟨⟨hs₆.extBut _ _ hDI (N₅ _ (.head _)).1, (N₅ _ (.head _)).2⟩, List.forall_mem_cons.mpr ⟨⟨hs₆.extBut _ _ (Ne.symm hDC) (N₅ _ (.tail _ (.head _))).1, (N₅ _ (.tail _ (.head _))).2⟩, List.forall_mem_cons.mpr ⟨⟨hD₆.trans (congrArg some (lst_snoc ys y)), hDL, hD₀⟩, fun q hq => ?_⟩⟩⟩
          have z := N₅ q (.tail _ (.tail _ (.tail _ hq)))
          exact ⟨hs₆.extBut _ _ (offN q hq).2 z.1, z.2⟩
      · obtain rfl : i = hs.length := Nat.le_antisymm hi (Nat.not_lt.mp hlt)
        refine W.done _ _ _ ⟨hit', hl'⟩ fun h₂ tk₂ hk₂ => ?_
        refine hRR D C h₂ tk₂ _ ys hInv hyl (fr_but F' hk₂ hIL hI₀) (news_but N' hk₂ fun p hp => ?_) (fun p hp => (offN p hp).2) (hn'.at' fun o e => hk₂ _ o (by simpa using Ne.symm hCI) e) hC₀ hCL (Ne.symm hDC) (fun p hp => (offN p hp).1)
        rcases List.mem_cons.mp hp with rfl | hp
        · exact Ne.symm hDI
        · exact off p hp
    · refine List.forall_mem_cons.mpr ⟨⟨hacc, hDL, hD₀⟩, fun q hq => ⟨old _ _ (N q hq).1, (N q hq).2⟩⟩
  exact codeAny_compStart_list (loop _ rfl) (W.self 0 _ _ _ ⟨hit.at fun o e => old _ o e, hl₂.at fun o e => old _ o e⟩ (loop _ rfl))

theorem comp_houses {elt iter c : Expr} {a b : Str} {pa pb tp : Pos} {kk : Nat} {scope : Scope} {cl : List (Str × Addr)} {pos : Pos} {Q : Value → Shared → Prop} {hs : List House} {nn : Nat} {ax : Addr} {news : List (Addr × Obj)} (Inv : Nat → List Value → Prop) (F₀ : Fr h₀ L s.heap m) (N₀ : News h₀ L s.heap news)
    (hh : A.handled = none) (hax : h₀.get? ax = some (listOf (hvals hs).toArray nn)) (hhs : Houses h₀ hs) (hsz : hs.length < 64)
    (hclos : closureFor scope env = pure cl) (hcell : ∀ y ∈ scope.names, y.2 ≠ .cell) (hkind : scope.kind = .function)
    (hnames : ∀ y ∈ scope.names, y.2 = .local → scope.names.lookup y.1 = some .local) (hxa : scope.names.lookup a = some .local) (hxb : scope.names.lookup b = some .local) (hab : ¬ a = b)
    (h : wpAny (model prog w) A (eval iter env) (HSrc prog w A h₀ L m env c elt a b scope cl hs ax news Inv fun s₂ =>
      ∀ D h tk ys, Inv hs.length ys → ys.length ≤ hs.length → Fr h₀ L h m → News h₀ L h ((D, lst ys) :: news) → (∀ p ∈ news, p.1 ≠ D) → Q (.ref D) { s₂ with heap := h, toks := tk }) E s)
    (hs' : ∀ x, foldedSetIterable iter env x = pure x := by intro _; rfl) :
    wpAny (model prog w) A (eval (.ListComp elt [⟨.Tuple [.Name a pa, .Name b pb] kk tp, iter, [c], 0⟩] scope pos) env) Q E s := by
  rw [eval_ListComp]
  refine wpAny_comprehension_free (use := none) rfl hs' hclos hkind hnames (wpAny_mono h (fun xv s₁ h₁ => ?_) fun _ _ e => e)
  obtain ⟨rfl, F, N, h0, hT⟩ := h₁
  refine wpAny_pyIter_list (PySem.IsL.isList (n := nn) (F.keep _ _ hax)) ?_
  obtain ⟨turn, fin⟩ := hT _ ⟨_, rfl⟩
  refine comp_block hh hax hhs hsz ⟨_, Heap.get?_push_size _ rfl, rfl, rfl⟩ hcell hkind hxa hxb hab (F.push _) (fun p hp => ⟨Heap.get?_push_of_some _ (N p hp).1, (N p hp).2⟩) (Nat.ne_of_lt F.ns.lt) (next_is_new F) (fun p hp => Nat.ne_of_lt (Heap.lt_size (N p hp).1)) h0 turn ?_
  intro D C h tk m' ys hI hyl F' N' hD hn hC₀ hCL hCD offC
  refine ⟨m', hn, fun h'' hs'' => fin D h'' tk ys hI hyl (F'.change hs'' hCL hC₀) (fun p hp => ?_) hD⟩
  refine ⟨hs''.extBut _ _ ?_ (N' p hp).1, (N' p hp).2⟩
  rcases List.mem_cons.mp hp with rfl | hp
  · exact Ne.symm hCD
  · exact offC p hp

theorem assign_comp_houses {elt iter c : Expr} {a b y : Str} {pa pb tp py : Pos} {kk : Nat} {scope : Scope} {cl : List (Str × Addr)} {pos spos : Pos} {Q : Flow → Shared → Prop} {hs : List House} {nn : Nat} {ax : Addr} {news : List (Addr × Obj)} (Inv : Nat → List Value → Prop) (F₀ : Fr h₀ L s.heap m) (N₀ : News h₀ L s.heap news)
    (hLe : env.locals = L) (hh : A.handled = none) (hax : h₀.get? ax = some (listOf (hvals hs).toArray nn)) (hhs : Houses h₀ hs) (hsz : hs.length < 64)
    (hsw : swapsWith (.ListComp elt [⟨.Tuple [.Name a pa, .Name b pb] kk tp, iter, [c], 0⟩] scope pos) (some (.Name y py)) spos.line env = pure true)
    (hclos : closureFor scope env = pure cl) (hcell : ∀ y ∈ scope.names, y.2 ≠ .cell) (hkind : scope.kind = .function)
    (hnames : ∀ y ∈ scope.names, y.2 = .local → scope.names.lookup y.1 = some .local) (hxa : scope.names.lookup a = some .local) (hxb : scope.names.lookup b = some .local) (hab : ¬ a = b)
    (hy : env.kindOf y = some .local) (hp : (env.scope.kind == .class || (env.scope.kind == .module && env.locals != env.globals)) = false)
    (h : wpAny (model prog w) A (eval iter env) (HSrc prog w A h₀ L m env c elt a b scope cl hs ax news Inv fun s₂ =>
      ∀ D h tk ys, Inv hs.length ys → ys.length ≤ hs.length → Fr h₀ L h (fun z => if z = y then some (.ref D) else m z) → News h₀ L h ((D, lst ys) :: news) → (∀ p ∈ news, p.1 ≠ D) → Q .next { s₂ with heap := h, toks := tk }) E s)
    (hs' : ∀ x, foldedSetIterable iter env x = pure x := by intro _; rfl) :
    wpAny (model prog w) A (exec (.Assign [.Name y py] (.ListComp elt [⟨.Tuple [.Name a pa, .Name b pb] kk tp, iter, [c], 0⟩] scope pos) spos) env) Q E s := by
  subst hLe
  rw [exec_Assign_Name_used _ _ _ _ hsw]
  refine wpAny_bind (wpAny_standAt (wpAny_bind ?_))
  show wpAny _ A (do let _ ← comprehension (.ListComp elt [⟨.Tuple [.Name a pa, .Name b pb] kk tp, iter, [c], 0⟩] scope pos) scope env _ (newList []) false (eval iter env) (some (assign (.Name y py) env))) _ _ s
  refine wpAny_bind (wpAny_mono (wpAny_comprehension_free (use := some (assign (.Name y py) env)) (Q := fun _ s' => Q .next s') rfl hs' hclos hkind hnames
    (wpAny_mono h (fun xv s₁ h₁ => ?_) fun _ _ e => e)) (fun _ s' hq => wpAny_pure (wpAny_pure hq)) fun _ _ e => e)
  obtain ⟨rfl, F, N, h0, hT⟩ := h₁
  refine wpAny_pyIter_list (PySem.IsL.isList (n := nn) (F.keep _ _ hax)) ?_
  obtain ⟨turn, fin⟩ := hT _ ⟨_, rfl⟩
  refine comp_block hh hax hhs hsz ⟨_, Heap.get?_push_size _ rfl, rfl, rfl⟩ hcell hkind hxa hxb hab (F.push _) (fun p hp => ⟨Heap.get?_push_of_some _ (N p hp).1, (N p hp).2⟩) (Nat.ne_of_lt F.ns.lt) (next_is_new F) (fun p hp => Nat.ne_of_lt (Heap.lt_size (N p hp).1)) h0 turn ?_
  intro D C h tk m' ys hI hyl F' N' hD hn hC₀ hCL hCD offC
  show wpAny _ A (assign (.Name y py) env (.ref D)) _ _ _
  refine wpAny_assign_Name (wpAny_storeName_local hy F'.ns (fun h₂ hn₂ hs₂ => ?_) hp)
  have hL₀ : h₀.get? env.locals = none := Heap.get?_none_of_le F'.above
  have F₂ : Fr h₀ env.locals h₂ (fun z => if z = y then some (.ref D) else m z) := ⟨hn₂, fun q o e => hs₂.extBut q o (fun z => by rw [z, hL₀] at e; cases e) (F'.keep q o e), F'.above⟩
  refine ⟨m', hn.sameBut hs₂ hCL, fun h'' hs'' => fin D h'' _ ys hI hyl (F₂.change hs'' hCL hC₀) (fun p hp => ?_) hD⟩
  have z : h₂.get? p.1 = some p.2 := hs₂.extBut _ _ (N' p hp).2.1 (N' p hp).1
  refine ⟨hs''.extBut _ _ ?_ z, (N' p hp).2⟩
  rcases List.mem_cons.mp hp with rfl | hp
  · exact Ne.symm hCD
  · exact offC p hp
end
end Mine
end

section
local macro_rules | `(tactic| walk_at "mine pad") => `(tactic| fail "pad")
theorem Mine.resetM13 : True := by
  w_top off
  k_with_none
  exact trivial
open PySem PySem.W PySem.Calls PySem.Spec PyProof.Rows PyProof.Rows.LCg
namespace Mine
section
variable {prog : Program} {w : World} {A₀ A : Around} {s : Shared} {base h₀ : Heap} {outer : List Env} {L : Addr} {m mg mb : Str → Option Value} {env : Env} {news : List (Addr × Obj)} {K : Frag} {p : Program} {loose : List Str} {mean : ExcName → Option Value}
  {R : Result → Shared → Prop} {name qual : Str} {params : Arguments} {body : List Stmt} {scope : Scope} {dV kV doc pm cdv ct oc : Value} {an od : Option Addr} {osl : Array (Option Value)} {f : Addr} {args : Args} {binds : List (Str × Value)}
/-- a def that keeps some of its names in cells -/
theorem enterC (B : Below A₀ base outer h₀) (F : Fr h₀ L s.heap m) (X₀ : K.In h₀) (N : News h₀ L s.heap news) (T : Top p loose mean mg mb h₀) (hA : A.frames = some (env :: outer)) (hf : env.frame = some L) (hke : env.scope.kind = .function)
    (ho : K.lookup f = some ⟨oc, od, .func (fnOf name qual params body scope dV kV doc pm an cdv ct), osl⟩) (hcd : codeIn K cdv qual = true) (hroom : A.depth < recursionLimit)
    (hbind : BindsTo s (fnOf name qual params body scope dV kV doc pm an cdv ct) args binds) (hkind : (binds.all fun y => scope.names.lookup y.1 == some .local || scope.names.lookup y.1 == some .cell) = true)
    (hnd : ((cellsFrom 0 scope.names []).map (·.1)).Nodup)
    (h : ∀ g L' h₁ tk cells, (∀ b o, s.heap.get? b = some o → b ∉ news.map (·.1) → g.get? b = some o) → Fr g L' h₁ (bindL (envOfC qual scope L' f cdv).kindOf binds fun _ => none) → News g L' h₁ (cells ++ news) →
      CellsAre (bindC (envOfC qual scope L' f cdv).kindOf binds fun _ => none) (cellsFrom (L' + 1) scope.names []) cells → Below A base (env :: outer) g → K.In g → Top p loose mean mg mb g → (∀ p ∈ news, p.1 < L') →
      wpAny (model prog w) (A.deeper (envOfC qual scope L' f cdv)) (execs body (envOfC qual scope L' f cdv))
        (fun fl s' => R (.ok (.ret (match fl with | .ret v => v | _ => .none))) s')
        (fun e s' => wpAny (model prog w) (A.deeper (envOfC qual scope L' f cdv)) (leaving (envOfC qual scope L' f cdv) e) (fun _ s'' => R (.error e) s'') (fun e' s'' => R (.error e') s'') s')
        { s with heap := h₁, toks := tk })
    (hco : scope.isCoroutine = false) (hgen : scope.isGenerator = false) (hk : scope.kind = .function) : codeAny (model prog w) A (.call (.ref f) args) R s := by
  obtain ⟨FG, BG, st, lv⟩ := groundX (R := R) B F N hA hf hke
  refine codeAny_call_function hroom ((X₀.keeps F.keep) _ _ ho) rfl hco hgen rfl (codeRec_of (X₀.keeps F.keep) hcd) (hbind _ _ _ _ ?_)
  refine wpAny_newFunctionEnv_cells hk (kindsX hkind _) fun env' he s' x => ?_
  subst he
  refine ⟨(T.nolimit.keeps F.keep).keeps x.toInCall.keep, codeAny_func ?_⟩
  obtain ⟨h₁, tk, rfl, _⟩ := x.done
  have hk₁ := x.toInCall.keep
  obtain ⟨cells, NC, Y⟩ := Cl.news (h₀ := s.heap) (Nat.le_refl _) fun n c hm => ⟨x.cell n c (lookup_of_mem_nodup (cellsFrom_names scope.names 0 (s.heap.objs.size + 1) [] [] rfl ▸ hnd) hm), x.above n c hm⟩
  refine h _ s.heap.objs.size h₁ tk cells (fun b o e n => hideAll_get _ e n) ⟨x.toInCall.ns, fun b o e => hk₁ b o (of_hideAll _ e), Nat.le_of_eq (hideAll_size _ _)⟩ (fun p hp => ?_) Y BG (X₀.keeps st) (T.keeps st) (fun p hp => Heap.lt_size (N p hp).1)
  rcases List.mem_append.mp hp with hp | hp
  · refine ⟨(NC p hp).1, (NC p hp).2.1, ?_⟩
    cases q : (hideAll s.heap (news.map (·.1))).get? p.1 with
    | none => rfl
    | some o => have := of_hideAll _ q; rw [(NC p hp).2.2] at this; cases this
  · exact ⟨hk₁ _ _ (N p hp).1, Nat.ne_of_lt (Heap.lt_size (N p hp).1), hideAll_none _ (List.mem_map_of_mem hp)⟩
end
/-- the houses that stand at x -/
def stands (x : Int) (d : Int × Itm) : Bool := decide (d.1 ≤ x) && decide (x < d.2.2.1)
def heightsOf (x : Int) (ds : List (Int × Itm)) : List Int := ((ds.filter (stands x)).map fun d => -d.2.1) ++ [0]

theorem filt_snoc {hs : List House} {x : Int} {i : Nat} {H : House} (hH : hs[i]? = some H) : ((hs.take (i + 1)).map hdata).filter (stands x) = if stands x (hdata H) = true then ((hs.take i).map hdata).filter (stands x) ++ [hdata H] else ((hs.take i).map hdata).filter (stands x) := by
  rw [List.take_add_one, hH, Option.toList_some, List.map_append, List.filter_append]
  split
  · next h => simp [h]
  · next h => simp [h]
local macro_rules | `(tactic| walk_at "subscriptTail") => `(tactic| (k_here; (with_reducible show wpAny _ _ (subscriptTail _ _ (Value.ref _) (Value.int _ _)) _ _ _); k_dflt (k_extra "tupitem")))

set_option maxRecDepth 100000 in
set_option maxHeartbeats 4000000 in
theorem height_does {w : World} {s : Shared} {ha : Addr} {hs : List House} {nh : Nat} {x : Int} {tx : Tok}
    (hha : s.heap.get? ha = some (listOf (hvals hs).toArray nh)) (hhs : Houses s.heap hs) (h63 : hs.length < 63) :
    Does w 54 1 [] s [.ref ha, .int x tx] (fun v h' => (∃ M t, v = .int M t ∧ M ∈ heightsOf x (hs.map hdata) ∧ ∀ q ∈ heightsOf x (hs.map hdata), q ≤ M) ∧ ∀ b o, s.heap.get? b = some o → h'.get? b = some o) := by
  unfold Does; k_fill
  intro dp un gd cn cs a ccd cl outer A₀ base h₀ L m p loose mean mg mb Q E B F X T hk hm hd hu hret
  have N : News h₀ L s.heap [] := News.nil
  refine wpAny_call ?_
  k_dflt (refine' enterC (binds := [(Str.ofString "houses", .ref ha), (Str.ofString "x", .int x tx)]) ?k1 ?k2 ?k3 ?k4 ?k5 ?kA ?kF ?kK ?k6 ?k7 ?k8 ?k9 ?kB ?kD ?_ ?c2 ?c3 ?c4; (case kA => exact rfl); (case kF => exact rfl); (case kK => assumption); (case k1 => k_asm); (case k2 => k_asm); (case k3 => k_asm); (case k4 => k_asm); (case k5 => k_asm); (case k6 => k_is); (case k7 => k_is); (case k8 => ktr_room); (case k9 => exact BindsTo.of_eq rfl); (case kB => exact rfl); (case kD => decide +kernel); (case c2 => exact rfl); (case c3 => exact rfl); (case c4 => exact rfl))
  intro g L' h' tk' cells' hg F' N' Y' B' X' T' l1
  have hg' : ∀ b o, s.heap.get? b = some o → g.get? b = some o := fun b o e => hg b o e (by simp)
  have hhg : Houses g hs := hhs.keeps hg'
  have hag : g.get? ha = some (listOf (hvals hs).toArray nh) := hg' _ _ hha
  k_cells Y'
  (try simp only [List.cons_append, List.nil_append] at N')
  clear N F X T B
  dsimp only
  (try k_unmd)
  k_fold
  k_with_none
  k_with "go" => (repeat' (first | (k_unfold; (try dsimp only)) | ((fail_if_success (with_reducible show wpAny _ _ (exec (PySem.Stmt.While _ _ _ _) _) _ _ _)); (fail_if_success (with_reducible show wpAny _ _ (exec (PySem.Stmt.For _ _ _ _ _) _) _ _ _)); (fail_if_success (with_reducible show wpAny _ _ (exec (PySem.Stmt.Assign _ (PySem.Expr.ListComp _ _ _ _) _) _) _ _ _)); (fail_if_success (with_reducible show wpAny _ _ (eval (PySem.Expr.ListComp _ _ _ _) _) _ _ _)); (fail_if_success (with_reducible show wpAny _ _ (pyIter _) _ _ _)); (fail_if_success (with_reducible show CE _ _ _ _ _ _ _)); (fail_if_success (with_reducible show ForEnd _ _ _ _ _ _ _ _ _ _ _ _)); (fail_if_success (with_reducible show wpAny _ _ (PySem.call (Value.ref _) _ _) _ _ _)); walk1; (try dsimp only)) | fail "no step"))
  rename_i ox d1
  replace d1 : ox.data = .cell (some (.int x tx)) := d1
  k_extra "go"
  k_dflt (refine assign_comp_houses (fun i ys => IntsAre ys ((((hs.take i).map hdata).filter (stands x)).map fun d => -d.2.1)) F' N' (by rfl) rfl hag hhg (by omega) (by with_unfolding_all rfl) (by with_unfolding_all rfl) (by decide) (by rfl) (by decide) (by rfl) (by rfl) (by decide) (by rfl) (by rfl) ?_)
  k_extra "go"
  refine ⟨rfl, F', N', .nil, ?_⟩
  rintro _ ⟨g2, rfl⟩
  refine ⟨?_, ?_⟩
  · intro i H t ys I oI C oC D m₂ h tk E' hH hI hoC hma hmb F N
    obtain ⟨hHp, hHt⟩ := hhg H (List.mem_of_getElem? hH)
    clear F' N'
    dsimp only at F N ⊢
    have hfs := filt_snoc (x := x) hH
    k_with "tupitem" => (first | ((with_reducible show wpAny _ _ (subscriptTail _ _ _ (Value.int 1 _)) _ _ _); refine sub_tup1 (hHt.keeps (Fr.keep (by k_asm))) ?_ (by with_unfolding_all rfl); intro t9) | ((with_reducible show wpAny _ _ (subscriptTail _ _ _ (Value.int 0 _)) _ _ _); refine sub_tup0 (hHt.keeps (Fr.keep (by k_asm))) ?_ (by with_unfolding_all rfl); intro t9))
    k_extra "go"
    · have h1 : H.2.1 ≤ x := by assumption
      have h2 : x < H.2.2.2.2.1 := by assumption
      refine CE.intro F N ?_
      rw [hfs, if_pos (by simp [stands, h1, h2]), List.map_append]
      exact ksk_snoc hI
    · have h2 : ¬ x < H.2.2.2.2.1 := by assumption
      refine CE.intro F N ?_
      rw [hfs, if_neg (by simp [stands]; omega)]
      exact hI
    · have h1 : ¬ H.2.1 ≤ x := by assumption
      refine CE.intro F N ?_
      rw [hfs, if_neg (by simp [stands]; omega)]
      exact hI
  · intro D h tk ys hI hyl F N hD
    clear F' N'
    dsimp only at F N ⊢
    k_extra "go"
    rename Fr _ _ _ _ => F9
    rw [List.take_length] at *
    exact hret _ _ _ ⟨⟨_, _, rfl, by assumption, by assumption⟩, fun b o e => F9.keep _ _ (hg' b o e)⟩
end Mine
end

section
local macro_rules | `(tactic| walk_at "mine pad") => `(tactic| fail "pad")
local macro_rules | `(tactic| walk_at "mine pad") => `(tactic| fail "pad")
local macro_rules | `(tactic| walk_at "mine pad") => `(tactic| fail "pad")
theorem Mine.resetM14 : True := by
  w_top off
  k_with_none
  exact trivial
open PySem PySem.W PySem.Calls PySem.Spec PyProof.Rows PyProof.Rows.LCg
namespace Mine
def tupP (p : Itm) : PyData := .tuple [.int p.1, .int p.2.1, .int p.2.2]
theorem tupP_eqv (p q : Itm) : PyData.eqv (tupP p) (tupP q) = decide (p = q) := by
  obtain ⟨p1, p2, p3⟩ := p
  obtain ⟨q1, q2, q3⟩ := q
  simp only [tupP, PyData.eqv, PyData.eqvAll, Prod.mk.injEq, Bool.and_true]
  by_cases h1 : p1 = q1 <;> by_cases h2 : p2 = q2 <;> by_cases h3 : p3 = q3 <;> simp [h1, h2, h3]
theorem cells_reads {h : Heap} : ∀ {cells : List Cell}, Cells h cells → ∃ as, ReadsAll h (vals cells) (cells.map fun c => tupP c.2) as
  | [], _ => ⟨_, .nil⟩
  | c :: r, hc => by
    obtain ⟨as, rc⟩ := (hc c (.head _)).reads
    obtain ⟨bs, rr⟩ := cells_reads (cells := r) fun d hd => hc d (.tail _ hd)
    exact ⟨_, .cons rc rr⟩
theorem cells_lay : ∀ (cells : List Cell), PyData.canLayAll0 (cells.map fun c => tupP c.2) = true
  | [] => rfl
  | c :: r => by
    have := cells_lay r
    simp [PyData.canLayAll0, PyData.canLay0, tupP] at this ⊢
    exact this
theorem cells_depth : ∀ (cells : List Cell), PyData.depthAll (cells.map fun c => tupP c.2) ≤ 1
  | [] => Nat.zero_le _
  | c :: r => by
    have := cells_depth r
    simp only [List.map_cons, PyData.depthAll]
    refine Nat.max_le.mpr ⟨?_, this⟩
    simp [tupP, PyData.depth, PyData.depthAll]
section
variable {prog : Program} {w : World} {A : Around} {E : Value → Shared → Prop} {s : Shared} {D a : Addr} {cells : List Cell} {n : Nat} {p : Itm}
theorem list_reads (hD : s.heap.get? D = some (listOf (vals cells).toArray n)) (hc : Cells s.heap cells) : ∃ as, Reads s.heap (.ref D) (.list (cells.map fun c => tupP c.2)) as := by
  obtain ⟨as, r⟩ := cells_reads hc
  exact ⟨_, reads_list_at hD rfl rfl (by simpa using r)⟩
def inCells (l : List Cell) (p : Itm) : Bool := l.any fun c => decide (c.2 = p)
theorem notin_cells {Q : Value → Shared → Prop} (hD : s.heap.get? D = some (listOf (vals cells).toArray n)) (hc : Cells s.heap cells) (hx : TupIs s.heap a p) (hu : A.units + 8 < cLine) (h : Q (.bool (!inCells cells p)) s) :
    wpAny (model prog w) A (compareOp .NotIn (.ref a) (.ref D)) Q E s := by
  obtain ⟨as, rc⟩ := list_reads hD hc
  obtain ⟨bs, rx⟩ := hx.reads
  refine SeqAt.notIn_list_reads rc rx (cells_lay _) rfl ?_ ?_
  · have := cells_depth cells
    have := Nat.min_le_left (PyData.depthAll (cells.map fun c => tupP c.2)) (PyData.depth (.tuple [.int p.1, .int p.2.1, .int p.2.2]))
    omega
  · have e : ((cells.map fun c => tupP c.2).any fun y => PyData.eqv y (.tuple [.int p.1, .int p.2.1, .int p.2.2])) = inCells cells p := by
      unfold inCells
      rw [List.any_map]
      congr 1
      funext c
      exact tupP_eqv c.2 p
    rw [e]
    exact h
end
theorem any_filter {α : Type} (p : α → Bool) : ∀ l : List α, l.any p = decide (0 < (l.filter p).length)
  | [] => rfl
  | a :: l => by
    cases h : p a with
    | true => simp [h]
    | false => simp only [List.any_cons, h, Bool.false_or, List.filter_cons, Bool.false_eq_true, if_false]; exact any_filter p l
def higher (x : Int) (hs : List House) (p : Itm) : Bool := (hs.filter fun H => stands x (hdata H)).any fun H => decide (H.2.2.2.1 < p.1)
def goneTurn (x : Int) (hs : List House) (now : List Cell) (H : House) : List Cell :=
  if inCells now H.2.2.2 = false ∧ H.2.2.2.2.1 ≤ x ∧ higher x hs H.2.2.2 = false then now ++ [H.2.2] else now
def goneStep (x : Int) (hs : List House) (now : List Cell) : List Cell := hs.foldl (goneTurn x hs) now
def standing (x : Int) (hs : List House) : List Cell := (hs.filter fun H => stands x (hdata H)).map (·.2.2)
theorem standing_snoc {hs : List House} {x : Int} {i : Nat} {H : House} (hH : hs[i]? = some H) : standing x (hs.take (i + 1)) = if stands x (hdata H) = true then standing x (hs.take i) ++ [H.2.2] else standing x (hs.take i) := by
  unfold standing
  rw [List.take_add_one, hH, Option.toList_some, List.filter_append]
  split
  · next h => simp [h]
  · next h => simp [h]
theorem Houses.standing {g : Heap} {hs : List House} (h : Houses g hs) (x : Int) : Cells g (standing x hs) := fun c hc => by
  obtain ⟨H, hH, rfl⟩ := List.mem_map.mp hc
  exact (h H (List.mem_filter.mp hH).1).2

section
variable {prog : Program} {w : World} {A : Around} {E : Value → Shared → Prop} {s : Shared} {h₀ : Heap} {L : Addr} {m : Str → Option Value} {env : Env}
/-- what a turn of a comprehension over a list's items has to show -/
def NTurn (prog : Program) (w : World) (A : Around) (h₀ : Heap) (L : Addr) (m : Str → Option Value) (env : Env) (c elt : Expr) (x : Str) (scope : Scope) (cl : List (Str × Addr)) (s₂ : Shared) (vs : List Value) (news : List (Addr × Obj)) (Inv : Nat → List Value → Prop) : Prop :=
  ∀ (i : Nat) (v : Value) (ys : List Value) (I : Addr) (oI : Obj) (C : Addr) (oC : Obj) (D : Addr) (m₂ : Str → Option Value) (h : Heap) (tk : Nat) (E' : Value → Shared → Prop), vs[i]? = some v → Inv i ys → NsObj oC m₂ → m₂ x = some v →
    Fr h₀ L h m → News h₀ L h ((I, oI) :: (C, oC) :: (D, lst ys) :: news) →
    wpAny (model prog w) A (isTrue c (compEnvC scope cl C env) (eval c (compEnvC scope cl C env))) (fun ok s₃ => if ok = true then
      wpAny (model prog w) A (eval elt (compEnvC scope cl C env)) (fun y s₄ => CE h₀ L m { s₂ with heap := h, toks := tk } ((I, oI) :: (C, oC) :: (D, lst ys) :: news) (Inv (i + 1) (ys ++ [y])) s₄) E' s₃
      else CE h₀ L m { s₂ with heap := h, toks := tk } ((I, oI) :: (C, oC) :: (D, lst ys) :: news) (Inv (i + 1) ys) s₃) E' { s₂ with heap := h, toks := tk }
theorem rest_of {c elt : Expr} {x : Str} {scope : Scope} {cl : List (Str × Addr)} {s₂ : Shared} {vs : List Value} {news : List (Addr × Obj)} {Inv : Nat → List Value → Prop} {S : List (Addr × Obj) → Prop} {Fin : List Value → List (Addr × Obj) → Prop}
    (turn : NTurn prog w A h₀ L m env c elt x scope cl s₂ vs news Inv) (hS : S news) (fin : ∀ ys, Inv vs.length ys → Fin ys news) :
    ∀ (k i : Nat) (ys : List Value), i + k = vs.length → Inv i ys → LCt.CompRestT prog w A h₀ L m env c elt x scope cl s₂ S (fun i v => vs.toArray[i]? = some v) Fin k i ys news
  | 0, i, ys, hik, hI => LCt.CompRestT.zero (fin ys (by rw [← hik]; exact hI))
  | k + 1, i, ys, hik, hI => by
    refine LCt.CompRestT.succ fun v I oI C oC D m₂ h tk E' hv hoC hx F N off ne => ?_
    refine wpAny_mono (turn i v ys I oI C oC D m₂ h tk E' (by simpa using hv) hI hoC hx F N) (fun ok s₃ h₃ => ?_) fun _ _ e => e
    cases ok with
    | true =>
      simp only [if_true] at h₃ ⊢
      refine wpAny_mono h₃ (fun y s₄ h₄ => ?_) fun _ _ e => e
      obtain ⟨h', tk', rfl, F', N', hI'⟩ := h₄
      exact ⟨h', tk', news, rfl, F', N', off, hS, rest_of turn hS fin k (i + 1) _ (by omega) hI'⟩
    | false =>
      simp only [Bool.false_eq_true, if_false] at h₃ ⊢
      obtain ⟨h', tk', rfl, F', N', hI'⟩ := h₃
      exact ⟨h', tk', news, rfl, F', N', off, hS, rest_of turn hS fin k (i + 1) _ (by omega) hI'⟩
def NSrc (prog : Program) (w : World) (A : Around) (h₀ : Heap) (L : Addr) (m : Str → Option Value) (env : Env) (c elt : Expr) (x : Str) (scope : Scope) (cl : List (Str × Addr)) (vs : List Value) (ax : Addr) (news : List (Addr × Obj)) (Inv : Nat → List Value → Prop) (Fin : Shared → Prop) (xv : Value) (s₁ : Shared) : Prop :=
  xv = .ref ax ∧ Fr h₀ L s₁.heap m ∧ News h₀ L s₁.heap news ∧ Inv 0 [] ∧ ∀ s₂ : Shared, (∃ g, s₂ = { s₁ with heap := g }) → NTurn prog w A h₀ L m env c elt x scope cl s₂ vs news Inv ∧ Fin s₂
theorem comp_names {elt iter c : Expr} {x : Str} {px : Pos} {scope : Scope} {cl : List (Str × Addr)} {pos : Pos} {Q : Value → Shared → Prop} {vs : List Value} {nn : Nat} {ax : Addr} {news : List (Addr × Obj)} (Inv : Nat → List Value → Prop) (F₀ : Fr h₀ L s.heap m) (N₀ : News h₀ L s.heap news)
    (hh : A.handled = none) (hax : (ax, listOf vs.toArray nn) ∈ news) (hsz : vs.length < 64)
    (hclos : closureFor scope env = pure cl) (hcell : ∀ y ∈ scope.names, y.2 ≠ .cell) (hkind : scope.kind = .function)
    (hnames : ∀ y ∈ scope.names, y.2 = .local → scope.names.lookup y.1 = some .local) (hx : scope.names.lookup x = some .local)
    (h : wpAny (model prog w) A (eval iter env) (NSrc prog w A h₀ L m env c elt x scope cl vs ax news Inv fun s₂ =>
      ∀ D h tk ys, Inv vs.length ys → Fr h₀ L h m → News h₀ L h ((D, lst ys) :: news) → Off1 D news → Q (.ref D) { s₂ with heap := h, toks := tk }) E s)
    (hs' : ∀ x, foldedSetIterable iter env x = pure x := by intro _; rfl) :
    wpAny (model prog w) A (eval (.ListComp elt [⟨.Name x px, iter, [c], 0⟩] scope pos) env) Q E s := by
  refine LCt.ListComp_T F₀ hclos hcell hkind hnames hx (wpAny_mono h (fun xv s₁ h₁ => ?_) fun _ _ e => e) hs'
  obtain ⟨rfl, F, N, h0, hT⟩ := h₁
  refine LCt.CompSrcT.ledger hh F N hax (by simp; rw [sizeLine_eq]; omega) fun g => ?_
  obtain ⟨turn, fin⟩ := hT { s₁ with heap := g } ⟨g, rfl⟩
  have e : vs.toArray.size = vs.length := by simp
  rw [e]
  exact rest_of turn (.inr ⟨_, hax, rfl, _, rfl⟩) (fun ys hI D h tk F' N' o => fin D h tk ys hI F' N' o) vs.length 0 [] (by omega) h0
end
theorem goneStep_snoc {x : Int} {hs : List House} {gc : List Cell} {i : Nat} {H : House} (hH : hs[i]? = some H) : (hs.take (i + 1)).foldl (goneTurn x hs) gc = goneTurn x hs ((hs.take i).foldl (goneTurn x hs) gc) H := by
  rw [List.take_add_one, hH, Option.toList_some, List.foldl_append]; rfl
theorem goneFold_len (x : Int) (hs : List House) : ∀ (l : List House) (gc : List Cell), (l.foldl (goneTurn x hs) gc).length ≤ gc.length + l.length
  | [], gc => Nat.le_refl _
  | H :: l, gc => by
    refine Nat.le_trans (goneFold_len x hs l _) ?_
    unfold goneTurn
    split <;> simp <;> omega
local macro_rules | `(tactic| walk_at "subscriptTail") => `(tactic| (k_here; (with_reducible show wpAny _ _ (subscriptTail _ _ (Value.ref _) (Value.int _ _)) _ _ _); k_dflt (k_extra "tupitem")))
local macro_rules | `(tactic| walk_at "call type:list") => `(tactic| (k_here; k_dflt (k_extra "list")))
local macro_rules | `(tactic| walk_at "compareOp NotIn ref ref") => `(tactic| (k_here; k_dflt (k_extra "notin")))
local macro_rules | `(tactic| walk_at "ForPost") => `(tactic| dsimp only [ForPost])
local macro_rules | `(tactic| walk_at "truthy ref") => `(tactic| (k_here; (with_reducible show wpAny _ _ (truthy (Value.ref _)) _ _ _); k_dflt (refine' truthy_cell ?k1 ?k2 ?k3 ?_; (case k1 => k_asm); (case k2 => k_mem); (case k3 => omega); k_whole); intro tk'; (try dsimp only)))
local macro_rules | `(tactic| walk_at "call builtin:list.append") => `(tactic| (k_here; (with_reducible show wpAny _ _ (call (Value.builtin "list.append") [Value.ref _, Value.ref _]) _ _ _); k_dflt (refine' push_cell ?k1 ?k2 ?k3 ?k4 ?_; (case k1 => k_asm); (case k2 => k_asm); (case k3 => k_upd); (case k4 => omega); k_whole); intro h' F' N'; (try dsimp only)))

set_option maxRecDepth 100000 in
set_option maxHeartbeats 4000000 in
theorem gone_does {w : World} {s : Shared} {ha ga : Addr} {hs : List House} {gc : List Cell} {nh ng : Nat} {x : Int} {tx : Tok}
    (hha : s.heap.get? ha = some (listOf (hvals hs).toArray nh)) (hhs : Houses s.heap hs) (hga : s.heap.get? ga = some (listOf (vals gc).toArray ng)) (hgc : Cells s.heap gc) (h63 : gc.length + hs.length < 63) :
    Does w 59 1 [] s [.ref ha, .ref ga, .int x tx] (fun v h' => (∃ na n, v = .ref na ∧ h'.get? na = some (listOf (vals (goneStep x hs gc)).toArray n) ∧ s.heap.get? na = none) ∧ ∀ b o, s.heap.get? b = some o → h'.get? b = some o) := by
  unfold Does; k_fill
  intro dp un gd cn cs a ccd cl outer A₀ base h₀ L m p loose mean mg mb Q E B F X T hk hm hd hu hret
  have N : News h₀ L s.heap [] := News.nil
  refine wpAny_call ?_
  k_dflt (refine' enterC (binds := [(Str.ofString "houses", .ref ha), (Str.ofString "gone", .ref ga), (Str.ofString "x", .int x tx)]) ?k1 ?k2 ?k3 ?k4 ?k5 ?kA ?kF ?kK ?k6 ?k7 ?k8 ?k9 ?kB ?kD ?_ ?c2 ?c3 ?c4; (case kA => exact rfl); (case kF => exact rfl); (case kK => assumption); (case k1 => k_asm); (case k2 => k_asm); (case k3 => k_asm); (case k4 => k_asm); (case k5 => k_asm); (case k6 => k_is); (case k7 => k_is); (case k8 => ktr_room); (case k9 => exact BindsTo.of_eq rfl); (case kB => exact rfl); (case kD => decide +kernel); (case c2 => exact rfl); (case c3 => exact rfl); (case c4 => exact rfl))
  intro g L' h' tk' cells' hg F' N' Y' B' X' T' l1
  have hg' : ∀ b o, s.heap.get? b = some o → g.get? b = some o := fun b o e => hg b o e (by simp)
  have hhg : Houses g hs := hhs.keeps hg'
  have hag : g.get? ha = some (listOf (hvals hs).toArray nh) := hg' _ _ hha
  have hgag : g.get? ga = some (listOf (vals gc).toArray ng) := hg' _ _ hga
  have hgcg : Cells g gc := hgc.keeps hg'
  k_cells Y'
  (try simp only [List.cons_append, List.nil_append] at N')
  clear N F X T B
  dsimp only
  (try k_unmd)
  k_fold
  k_with_none
  k_with "go" => (repeat' (first | (k_unfold; (try dsimp only)) | ((fail_if_success (with_reducible show wpAny _ _ (exec (PySem.Stmt.While _ _ _ _) _) _ _ _)); (fail_if_success (with_reducible show wpAny _ _ (exec (PySem.Stmt.For _ _ _ _ _) _) _ _ _)); (fail_if_success (with_reducible show wpAny _ _ (exec (PySem.Stmt.Assign _ (PySem.Expr.ListComp _ _ _ _) _) _) _ _ _)); (fail_if_success (with_reducible show wpAny _ _ (eval (PySem.Expr.ListComp _ _ _ _) _) _ _ _)); (fail_if_success (with_reducible show wpAny _ _ (pyIter _) _ _ _)); (fail_if_success (with_reducible show CE _ _ _ _ _ _ _)); (fail_if_success (with_reducible show ForEnd _ _ _ _ _ _ _ _ _ _ _ _)); (fail_if_success (with_reducible show wpAny _ _ (PySem.call (Value.ref _) _ _) _ _ _)); walk1; (try dsimp only)) | fail "no step"))
  rename_i oi ox di dx
  replace di : oi.data = .cell none := di
  replace dx : ox.data = .cell (some (.int x tx)) := dx
  k_extra "go"
  k_dflt (refine assign_comp_houses (fun i ys => ys = vals (standing x (hs.take i))) F' N' (by rfl) rfl hag hhg (by omega) (by with_unfolding_all rfl) (by with_unfolding_all rfl) (by decide) (by rfl) (by decide) (by rfl) (by rfl) (by decide) (by rfl) (by rfl) ?_)
  k_extra "go"
  refine ⟨rfl, F', N', rfl, ?_⟩
  rintro _ ⟨g2, rfl⟩
  refine ⟨?_, ?_⟩
  · intro i H t ys I oI C oC D m₂ h tk E' hH hI hoC hma hmb F N
    obtain ⟨hHp, hHt⟩ := hhg H (List.mem_of_getElem? hH)
    clear F' N'
    dsimp only at F N ⊢
    have hfs := standing_snoc (x := x) hH
    k_with "tupitem" => ((with_reducible show wpAny _ _ (subscriptTail _ _ _ (Value.int 1 _)) _ _ _); refine sub_tup1 (hHt.keeps (Fr.keep (by k_asm))) ?_ (by with_unfolding_all rfl); intro t9)
    k_extra "go"
    · have h1 : H.2.1 ≤ x := by assumption
      have h2 : x < H.2.2.2.2.1 := by assumption
      refine CE.intro F N ?_
      rw [hfs, if_pos (by simp [stands, h1, h2]), hI]
      simp [vals]
    · have h2 : ¬ x < H.2.2.2.2.1 := by assumption
      refine CE.intro F N ?_
      rw [hfs, if_neg (by simp [stands]; omega)]
      exact hI
    · have h1 : ¬ H.2.1 ≤ x := by assumption
      refine CE.intro F N ?_
      rw [hfs, if_neg (by simp [stands]; omega)]
      exact hI
  · intro D h tk ys hI hyl F N hD
    clear F' N'
    rw [List.take_length] at hI
    subst hI
    dsimp only at F N ⊢
    k_with "list" => (refine' list_copyK ?k1 ?k2 (PySem.IsL.isList (n := ng) (Fr.keep ?k3 _ _ hgag)) ?_ ?z; (case k1 => k_asm); (case k2 => k_asm); (case k3 => k_asm); (case z => (rw [sizeLine_eq]; simp; omega)); intro na nn h9 F9 N9 l9; (try k_lt l9))
    k_extra "go"
    rename Fr _ _ _ _ => F8
    rename News _ _ _ _ => N8
    k_dflt (refine For_turns F8 ?_)
    k_extra "go"
    k_dflt (refine for_list (σ := List Cell × Nat × Obj) (fun c => [(na, listOf (vals c.1).toArray c.2.1), (D, lst (vals (standing x hs))), (L' + 1 + 1, c.2.2), (L' + 1, ox)]) (fun _ => []) [Str.ofString "begin"] (fun i c => Cells g c.1 ∧ c.1 = (hs.take i).foldl (goneTurn x hs) gc ∧ ∃ v, c.2.2.data = .cell v) (gc, nn, oi) rfl hag F8 N8 (by intro q hq; cases hq) ⟨hgcg, rfl, _, di⟩ ?_ ?_)
    · rintro ⟨cs', n', oi'⟩ i v u h2 tk2 I oI hi hv ⟨hc1, hc2, hc3⟩ hI hoI F N _ rfl
      dsimp only at hc1 hc2 hc3 hI N
      dsimp only [kstB] at F
      have hi' : i < hs.length := by simpa using hi
      obtain ⟨H, hH⟩ : ∃ H, hs[i]? = some H := ⟨_, List.getElem?_eq_getElem hi'⟩
      have hv' : v = .ref H.1 := by
        have : (hvals hs)[i]? = some (.ref H.1) := by simp [hH]
        rw [this] at hv; exact (Option.some.inj hv).symm
      subst hv'
      obtain ⟨⟨t, nt, hp⟩, ht⟩ := hhg H (List.mem_of_getElem? hH)
      have hit : IsTup h2 H.1 [Value.int H.2.1 t, Value.ref H.2.2.1].toArray := ⟨_, F.keep _ _ hp, rfl, nt, rfl⟩
      replace F : Fr g L' h2 _ := F
      replace N : News g L' h2 [(na, listOf (vals cs').toArray n'), (D, lst (vals (standing x hs))), (L' + 1 + 1, oi'), (L' + 1, ox), (I, oI)] := N
      have hIx : ∀ q : Addr × Obj, q.1 ∈ [na, D, L' + 1 + 1, L' + 1] → q.1 ≠ I := fun q hq => by
        simp only [List.mem_cons, List.not_mem_nil, or_false] at hq
        rcases hq with e | e | e | e <;> rw [e]
        · exact hI _ (.head _)
        · exact hI _ (.tail _ (.head _))
        · exact hI _ (.tail _ (.tail _ (.head _)))
        · exact hI _ (.tail _ (.tail _ (.tail _ (.head _))))
      have hnI : @Ne Nat na I := hI _ (.head _)
      have hDI : @Ne Nat D I := hI _ (.tail _ (.head _))
      have hiI : @Ne Nat (L' + 1 + 1) I := hI _ (.tail _ (.tail _ (.head _)))
      have hxI : @Ne Nat (L' + 1) I := hI _ (.tail _ (.tail _ (.tail _ (.head _))))
      have hD1 : @Ne Nat (L' + 1 + 1) D := hD _ (.head _)
      have hD2 : @Ne Nat (L' + 1) D := hD _ (.tail _ (.head _))
      have hlen : cs'.length ≤ gc.length + i := by
        rw [hc2]; refine Nat.le_trans (goneFold_len _ _ _ _) ?_
        rw [List.length_take]; omega
      have hnext := goneStep_snoc (x := x) (gc := gc) hH
      rw [← hc2] at hnext
      obtain ⟨vi, hvi⟩ := hc3
      clear F8 N8
      k_dflt (refine unpackN_ F N hit rfl rfl rfl ?_)
      intro h3 F3 N3
      dsimp only
      clear F N
      k_with "notin" => (refine notin_cells (cells := cs') (n := n') (News.get (by k_asm) (by k_mem)) (hc1.keeps (Fr.keep (by k_asm))) (ht.keeps (Fr.keep (by k_asm))) (by show un + 3 + 8 < cLine; omega) ?_)
      k_with "tupitem" => ((with_reducible show wpAny _ _ (subscriptTail _ _ _ (Value.int 1 _)) _ _ _); refine sub_tup1 (ht.keeps (Fr.keep (by k_asm))) ?_ (by with_unfolding_all rfl); intro t9)
      k_extra "go"
      · rename Fr _ _ _ _ => F4
        rename News _ _ _ _ => N4
        rename Obj => o4
        have hin : inCells cs' H.2.2.2 = true := by assumption
        refine ForEnd.intro (cs', n', o4) F4 (fun q hq => N4 q ((List.mem_append_left [(I, oI)]) hq)) (N4 (I, oI) (by k_mem)).1 ?_ (by intro q hq; cases hq) (by ksw_same) ⟨hc1, ?_, _, by assumption⟩
        · exact fun q hq => hIx q (by simpa using List.mem_map_of_mem (f := Prod.fst) hq)
        · rw [hnext, goneTurn, if_neg]
          rintro ⟨q, _⟩; rw [hin] at q; cases q
      · rename Fr _ _ _ _ => F4
        rename News _ _ _ _ => N4
        have hin : inCells cs' H.2.2.2 = false := by assumption
        have hle : H.2.2.2.2.1 ≤ x := by assumption
        rename Obj => o4
        have d4 : o4.data = Data.cell (some (Value.ref H.2.2.1)) := by assumption
        k_dflt (refine comp_names (vs := vals (standing x hs)) (fun i ys => ys = vals (((standing x hs).take i).filter fun c => decide (c.2.1 < H.2.2.2.1))) F4 N4 rfl (by k_mem) (by omega) (by with_unfolding_all rfl) (by decide) (by rfl) (by decide) (by rfl) ?_)
        k_extra "go"
        refine ⟨rfl, F4, N4, rfl, ?_⟩
        rintro _ ⟨g2, rfl⟩
        refine ⟨?_, ?_⟩
        · intro j v ys I2 oI2 C oC D2 m₂ h6 tk6 E' hv hI2 hoC hma F6 N6
          obtain ⟨c, hc, rfl⟩ : ∃ c, (standing x hs)[j]? = some c ∧ v = .ref c.1 := by
            have hv' := hv
            rw [List.getElem?_map] at hv'
            obtain ⟨c, hc, e⟩ := Option.map_eq_some_iff.mp hv'
            exact ⟨c, hc, e.symm⟩
          have hct := hhg.standing x c (List.mem_of_getElem? hc)
          have htk : ((standing x hs).take (j + 1)).filter (fun c => decide (c.2.1 < H.2.2.2.1)) = if c.2.1 < H.2.2.2.1 then ((standing x hs).take j).filter (fun c => decide (c.2.1 < H.2.2.2.1)) ++ [c] else ((standing x hs).take j).filter (fun c => decide (c.2.1 < H.2.2.2.1)) := by
            rw [List.take_add_one, hc, Option.toList_some, List.filter_append]
            split
            · next h => simp [h]
            · next h => simp [h]
          clear F4 N4
          dsimp only at F6 N6 ⊢
          k_with "tupitem" => (first | ((with_reducible show wpAny _ _ (subscriptTail _ _ (Value.ref c.1) (Value.int 0 _)) _ _ _); refine sub_tup0 (hct.keeps (Fr.keep (by k_asm))) ?_ (by with_unfolding_all rfl); intro t9) | ((with_reducible show wpAny _ _ (subscriptTail _ _ (Value.ref H.2.2.1) (Value.int 0 _)) _ _ _); refine sub_tup0 (ht.keeps (Fr.keep (by k_asm))) ?_ (by with_unfolding_all rfl); intro t9))
          k_extra "go"
          · have h1 : c.2.1 < H.2.2.2.1 := by assumption
            refine CE.intro F6 N6 ?_
            rw [htk, if_pos h1, hI2]
            simp [vals]
          · have h1 : ¬ c.2.1 < H.2.2.2.1 := by assumption
            refine CE.intro F6 N6 ?_
            rw [htk, if_neg h1]
            exact hI2
        · intro D2 h6 tk6 ys hI2 F6 N6 off
          have hfl : (standing x hs).take (vals (standing x hs)).length = standing x hs := by simp
          rw [hfl] at hI2
          subst hI2
          have hhi : higher x hs H.2.2.2 = decide (0 < ((standing x hs).filter fun c => decide (c.2.1 < H.2.2.2.1)).length) := by
            have e1 : higher x hs H.2.2.2 = (standing x hs).any fun c => decide (c.2.1 < H.2.2.2.1) := by
              unfold higher standing
              rw [List.any_map]; rfl
            rw [e1, any_filter]
          have hfl64 : ((standing x hs).filter fun c => decide (c.2.1 < H.2.2.2.1)).length < 64 := by
            have h1 := List.length_filter_le (fun c : Cell => decide (c.2.1 < H.2.2.2.1)) (standing x hs)
            have h2 : (vals (standing x hs)).length = (standing x hs).length := by simp
            omega
          obtain ⟨off1, off2, off3, off4, off5, _⟩ := off
          dsimp only at off1 off2 off3 off4 off5
          clear F4 N4
          dsimp only at F6 N6 ⊢
          k_extra "go"
          · have hpos : 0 < ((standing x hs).filter fun c => decide (c.2.1 < H.2.2.2.1)).length := by assumption
            refine ForEnd.intro (cs', n', o4) F6 (fun q hq => N6 q (.tail _ ((List.mem_append_left [(I, oI)]) hq))) (N6 (I, oI) (by k_mem)).1 ?_ (by intro q hq; cases hq) (by ksw_same) ⟨hc1, ?_, _, d4⟩
            · exact fun q hq => hIx q (by simpa using List.mem_map_of_mem (f := Prod.fst) hq)
            · rw [hnext, goneTurn, if_neg]
              rintro ⟨_, _, q⟩; rw [hhi, decide_eq_true hpos] at q; cases q
          · have hpos : ¬ 0 < ((standing x hs).filter fun c => decide (c.2.1 < H.2.2.2.1)).length := by assumption
            rename Fr _ _ _ _ => F7
            rename News _ _ _ _ => N7
            refine ForEnd.intro (cs' ++ [H.2.2], n' + 1, o4) F7 (fun q hq => N7 q (.tail _ ((List.mem_append_left [(I, oI)]) hq))) (N7 (I, oI) (by k_mem)).1 ?_ (by intro q hq; cases hq) (by ksw_same) ⟨hc1.snoc ht, ?_, _, d4⟩
            · exact fun q hq => hIx q (by simpa using List.mem_map_of_mem (f := Prod.fst) hq)
            · rw [hnext, goneTurn, if_pos]
              exact ⟨hin, hle, by rw [hhi, decide_eq_false hpos]⟩
      · rename Fr _ _ _ _ => F4
        rename News _ _ _ _ => N4
        rename Obj => o4
        have hle : ¬ H.2.2.2.2.1 ≤ x := by assumption
        refine ForEnd.intro (cs', n', o4) F4 (fun q hq => N4 q ((List.mem_append_left [(I, oI)]) hq)) (N4 (I, oI) (by k_mem)).1 ?_ (by intro q hq; cases hq) (by ksw_same) ⟨hc1, ?_, _, by assumption⟩
        · exact fun q hq => hIx q (by simpa using List.mem_map_of_mem (f := Prod.fst) hq)
        · rw [hnext, goneTurn, if_neg]
          rintro ⟨_, q, _⟩; exact hle q
    · rintro ⟨cs', n', oi'⟩ u h2 tk2 ⟨hc1, hc2, hc3⟩ F N
      dsimp only at hc1 hc2 hc3 N
      dsimp only [kstB] at F
      replace F : Fr g L' h2 _ := F
      replace N : News g L' h2 [(na, listOf (vals cs').toArray n'), (D, lst (vals (standing x hs))), (L' + 1 + 1, oi'), (L' + 1, ox)] := N
      have hcp : cs' = goneStep x hs gc := by
        have : hs.take (hvals hs).length = hs := by simp
        rw [this] at hc2; exact hc2
      clear F8 N8
      k_extra "go"
      refine hret _ _ _ ⟨⟨na, n', rfl, hcp ▸ (N _ (.head _)).1, ?_⟩, fun b o e => F.keep _ _ (hg' b o e)⟩
      cases e : s.heap.get? na with
      | none => rfl
      | some o => have := (N _ (.head _)).2.2; rw [hg' _ _ e] at this; cases this
end Mine
end

section
open PySem PySem.W PySem.Calls PySem.Spec PyProof.Rows PyProof.Rows.LCg
namespace Mine
/-- a tree of questions, asked of an order that is known -/
def wpP {α : Type} (lt : Nat → Nat → Bool) (n : Nat) : KasT α → (α → Prop) → Prop
  | .ret a, Q => Q a
  | .ask i j k, Q => i < n ∧ j < n ∧ wpP lt n (k (lt i j)) Q
theorem wpP_mono {α : Type} {lt : Nat → Nat → Bool} {n : Nat} : ∀ {t : KasT α} {Q Q' : α → Prop}, wpP lt n t Q → (∀ a, Q a → Q' a) → wpP lt n t Q'
  | .ret a, _, _, h, hq => hq a h
  | .ask _ _ k, _, _, h, hq => ⟨h.1, h.2.1, wpP_mono (t := k _) h.2.2 hq⟩
theorem wpP_bind {α β : Type} {lt : Nat → Nat → Bool} {n : Nat} {f : α → KasT β} {Q : β → Prop} : ∀ {t : KasT α}, wpP lt n t (fun a => wpP lt n (f a) Q) → wpP lt n (t.bind f) Q
  | .ret _, h => h
  | .ask _ _ k, h => ⟨h.1, h.2.1, wpP_bind (t := k _) h.2.2⟩
structure Ord (lt : Nat → Nat → Bool) (n : Nat) : Prop where
  irr : ∀ i, lt i i = false
  trans : ∀ i j k, lt i j = true → lt j k = true → lt i k = true
  tot : ∀ i j, i < n → j < n → i ≠ j → lt i j = true ∨ lt j i = true
def Good (n : Nat) (p : Array Nat) : Prop := p.toList.Perm (List.range n)
abbrev at' (p : Array Nat) (k : Nat) : Nat := p.getD k 0
theorem at_getElem {p : Array Nat} {k : Nat} (h : k < p.size) : at' p k = p[k] := by simp [at', Array.getD, h]
theorem at_eq {p q : Array Nat} {k j : Nat} (h : p[k]? = q[j]?) : at' p k = at' q j := by
  simp only [at', Array.getD_eq_getD_getElem?, h]
theorem Good.size {n : Nat} {p : Array Nat} (g : Good n p) : p.size = n := by
  have := g.length_eq; simpa using this
theorem Good.lt {n : Nat} {p : Array Nat} (g : Good n p) {k : Nat} (h : k < n) : at' p k < n := by
  have hs : k < p.size := by rw [g.size]; exact h
  rw [at_getElem hs]
  have : p[k] ∈ p.toList := by simp
  exact List.mem_range.mp (g.mem_iff.mp this)
theorem Good.inj {n : Nat} {p : Array Nat} (g : Good n p) {a b : Nat} (ha : a < n) (hb : b < n) (h : a ≠ b) : at' p a ≠ at' p b := by
  have hn : p.toList.Nodup := g.nodup_iff.mpr List.nodup_range
  have ha' : a < p.size := by rw [g.size]; exact ha
  have hb' : b < p.size := by rw [g.size]; exact hb
  rw [at_getElem ha', at_getElem hb']
  intro e
  have := (List.getElem_inj (xs := p.toList) (i := a) (j := b) (h₀ := by simpa using ha') (h₁ := by simpa using hb') hn).mp (by simpa using e)
  exact h this
def SP (lt : Nat → Nat → Bool) (p : Array Nat) (m : Nat) : Prop := ∀ a b, a < b → b < m → lt (at' p a) (at' p b) = true
def SD (lt : Nat → Nat → Bool) (p : Array Nat) (m : Nat) : Prop := ∀ a b, a < b → b < m → lt (at' p b) (at' p a) = true
section
variable {lt : Nat → Nat → Bool} {n : Nat}
theorem SP.succ (O : Ord lt n) {p : Array Nat} {k : Nat} (h1 : 1 ≤ k) (h : SP lt p k) (hs : lt (at' p (k - 1)) (at' p k) = true) : SP lt p (k + 1) := fun a b hab hb => by
  by_cases hk : b = k
  · subst hk
    by_cases ha : a = b - 1
    · rw [ha]; exact hs
    · exact O.trans _ _ _ (h a (b - 1) (by omega) (by omega)) hs
  · exact h a b hab (by omega)
theorem SD.succ (O : Ord lt n) {p : Array Nat} {k : Nat} (h1 : 1 ≤ k) (h : SD lt p k) (hs : lt (at' p k) (at' p (k - 1)) = true) : SD lt p (k + 1) := fun a b hab hb => by
  by_cases hk : b = k
  · subst hk
    by_cases ha : a = b - 1
    · rw [ha]; exact hs
    · exact O.trans _ _ _ hs (h a (b - 1) (by omega) (by omega))
  · exact h a b hab (by omega)
theorem asc_ok (O : Ord lt n) {p : Array Nat} (G : Good n p) : ∀ f k, 1 ≤ k → k + f ≤ n → SP lt p k → wpP lt n (kas_asc p f k) (fun m => k ≤ m ∧ m ≤ k + f ∧ SP lt p m ∧ (m < k + f → lt (at' p m) (at' p (m - 1)) = true))
  | 0, k, _, _, h => ⟨Nat.le_refl _, Nat.le_refl _, h, fun q => absurd q (Nat.lt_irrefl _)⟩
  | f + 1, k, h1, hk, h => by
    refine ⟨G.lt (by omega), G.lt (by omega), ?_⟩
    cases hc : lt (at' p k) (at' p (k - 1)) with
    | true =>
      simp only [if_true]
      exact ⟨Nat.le_refl _, by omega, h, fun _ => hc⟩
    | false =>
      simp only [Bool.false_eq_true, if_false]
      have hs : lt (at' p (k - 1)) (at' p k) = true := by
        rcases O.tot _ _ (G.lt (k := k - 1) (by omega)) (G.lt (k := k) (by omega)) (G.inj (by omega) (by omega) (by omega)) with q | q
        · exact q
        · rw [hc] at q; cases q
      exact wpP_mono (asc_ok O G f (k + 1) (by omega) (by omega) (h.succ O h1 hs)) fun m hm => ⟨by omega, by omega, hm.2.2.1, fun q => hm.2.2.2 (by omega)⟩
theorem desc_ok (O : Ord lt n) {p : Array Nat} (G : Good n p) : ∀ f k, 1 ≤ k → k + f ≤ n → SD lt p k → wpP lt n (kas_desc f p k 0) (fun r => r.1 = p ∧ k ≤ r.2.1 ∧ r.2.1 ≤ k + f ∧ r.2.2 = 0 ∧ SD lt p r.2.1)
  | 0, k, _, _, h => ⟨rfl, Nat.le_refl _, Nat.le_refl _, rfl, h⟩
  | f + 1, k, h1, hk, h => by
    refine ⟨G.lt (by omega), G.lt (by omega), ?_⟩
    cases hc : lt (at' p k) (at' p (k - 1)) with
    | true =>
      simp only [if_true]
      rw [if_neg (by omega)]
      exact wpP_mono (desc_ok O G f (k + 1) (by omega) (by omega) (h.succ O h1 hc)) fun r hr => ⟨hr.1, by omega, by omega, hr.2.2.2.1, hr.2.2.2.2⟩
    | false =>
      simp only [Bool.false_eq_true, if_false]
      refine ⟨G.lt (by omega), G.lt (by omega), ?_⟩
      have hs : lt (at' p (k - 1)) (at' p k) = true := by
        rcases O.tot _ _ (G.lt (k := k - 1) (by omega)) (G.lt (k := k) (by omega)) (G.inj (by omega) (by omega) (by omega)) with q | q
        · exact q
        · rw [hc] at q; cases q
      rw [hs]
      simp only [if_true]
      exact ⟨rfl, Nat.le_refl _, by show k ≤ k + (f + 1); omega, rfl, h⟩
theorem Good.rev {p : Array Nat} (G : Good n p) (i j : Nat) : Good n (kas_rev p i j) := by
  have := mirror_perm p i j ((j - i) / 2)
  exact (Array.perm_iff_toList_perm.mp this).trans G
theorem rev_at {p : Array Nat} (m : Nat) (hm : m ≤ p.size) (k : Nat) (hk : k < m) : at' (kas_rev p 0 m) k = at' p (m - 1 - k) := by
  refine at_eq ?_
  unfold kas_rev
  rw [getElem?_mirror_all hm, if_pos ⟨Nat.zero_le _, hk⟩, Nat.zero_add]
theorem SD.rev {p : Array Nat} (G : Good n p) {m : Nat} (hm : m ≤ n) (h : SD lt p m) : SP lt (kas_rev p 0 m) m := fun a b hab hb => by
  rw [rev_at m (by rw [G.size]; exact hm) a (by omega), rev_at m (by rw [G.size]; exact hm) b hb]
  exact h _ _ (by omega) (by omega)
theorem count_ok (O : Ord lt n) {p : Array Nat} (G : Good n p) (hn : 1 ≤ n) : wpP lt n (kas_count n p) (fun r => Good n r.2 ∧ 1 ≤ r.1 ∧ r.1 ≤ n ∧ SP lt r.2 r.1) := by
  unfold kas_count
  refine wpP_bind (wpP_mono (asc_ok O G (n - 1) 1 (Nat.le_refl _) (by omega) fun a b _ hb => by omega) fun m hm => ?_)
  obtain ⟨h1, h2, h3, h4⟩ := hm
  by_cases he : (m == n) = true
  · rw [if_pos he]
    exact ⟨G, h1, by have := beq_iff_eq.mp he; omega, h3⟩
  · rw [if_neg he]
    have hne : m ≠ n := fun q => he (beq_iff_eq.mpr q)
    by_cases hg : m > 1
    · rw [if_pos hg]
      refine ⟨G.lt (by omega), G.lt (by omega), ?_⟩
      rw [h3 0 (m - 1) (by omega) (by omega)]
      simp only [if_true]
      exact ⟨G, h1, by omega, h3⟩
    · rw [if_neg hg]
      have hm1 : m = 1 := by omega
      subst hm1
      have hlt : lt (at' p 1) (at' p 0) = true := h4 (by omega)
      have hsd : SD lt p 2 := fun a b hab hb => by
        have : a = 0 := by omega
        have : b = 1 := by omega
        subst a b
        exact hlt
      unfold kas_descPart
      refine wpP_bind (wpP_mono (desc_ok O G (n - (1 + 1)) (1 + 1) (by omega) (by omega) hsd) fun r hr => ?_)
      obtain ⟨q1, q2, q3, q4, q5⟩ := hr
      rw [q4, if_neg (by omega), q1]
      unfold kas_tail3
      refine wpP_bind (wpP_mono (asc_ok O (G.rev 0 r.2.1) (n - r.2.1) r.2.1 (by omega) (by omega) (q5.rev G (by omega))) fun m' hm' => ?_)
      exact ⟨G.rev 0 _, by show 1 ≤ m'; omega, by show m' ≤ n; omega, hm'.2.2.1⟩
theorem place_ok (O : Ord lt n) {p : Array Nat} (G : Good n p) {k : Nat} (hk : k < n) (h : SP lt p k) : ∀ f l r, l ≤ r → r ≤ k → r - l ≤ f → (∀ a, a < l → lt (at' p a) (at' p k) = true) → (∀ a, r ≤ a → a < k → lt (at' p k) (at' p a) = true) →
    wpP lt n (kas_place p k f l r) (fun l' => l' ≤ k ∧ (∀ a, a < l' → lt (at' p a) (at' p k) = true) ∧ ∀ a, l' ≤ a → a < k → lt (at' p k) (at' p a) = true)
  | 0, l, r, hlr, hr, hf, ha, hb => ⟨by omega, ha, fun a q1 q2 => hb a (by omega) q2⟩
  | f + 1, l, r, hlr, hr, hf, ha, hb => by
    unfold kas_place
    by_cases hge : l ≥ r
    · rw [if_pos hge]
      exact ⟨by omega, ha, fun a q1 q2 => hb a (by omega) q2⟩
    · rw [if_neg hge]
      refine ⟨G.lt hk, G.lt (by omega), ?_⟩
      cases hc : lt (at' p k) (at' p ((l + r) / 2)) with
      | true =>
        simp only [if_true]
        refine place_ok O G hk h f l ((l + r) / 2) (by omega) (by omega) (by omega) ha fun a q1 q2 => ?_
        by_cases e : a = (l + r) / 2
        · rw [e]; exact hc
        · exact O.trans _ _ _ hc (h _ _ (by omega) q2)
      | false =>
        simp only [Bool.false_eq_true, if_false]
        have hs : lt (at' p ((l + r) / 2)) (at' p k) = true := by
          rcases O.tot _ _ (G.lt (k := (l + r) / 2) (by omega)) (G.lt (k := k) hk) (G.inj (by omega) hk (by omega)) with q | q
          · exact q
          · rw [hc] at q; cases q
        refine place_ok O G hk h f ((l + r) / 2 + 1) r (by omega) hr (by omega) (fun a q => ?_) hb
        by_cases e : a = (l + r) / 2
        · rw [e]; exact hs
        · exact O.trans _ _ _ (h _ _ (by omega) (by omega)) hs
theorem bin_ok (O : Ord lt n) : ∀ (f : Nat) (p : Array Nat) (k : Nat), Good n p → k + f ≤ n → SP lt p k → wpP lt n (kas_bin f p k) (fun q => Good n q ∧ SP lt q (k + f))
  | 0, p, k, G, _, h => ⟨G, h⟩
  | f + 1, p, k, G, hk, h => by
    unfold kas_bin
    refine wpP_bind (wpP_mono (place_ok O G (by omega) h k 0 k (Nat.zero_le _) (Nat.le_refl _) (by omega) (fun a q => absurd q (Nat.not_lt_zero _)) fun a q1 q2 => by omega) fun l hl => ?_)
    obtain ⟨hlk, ha, hb⟩ := hl
    have hks : k < p.size := by rw [G.size]; omega
    have hg := getElem?_bubble hks (k - l) (by omega)
    have hkl : k - (k - l) = l := by omega
    rw [hkl] at hg
    have e1 : at' (bubble p k (k - l)) l = at' p k := at_eq (by rw [hg, if_pos rfl])
    have e2 : ∀ a, l < a → a ≤ k → at' (bubble p k (k - l)) a = at' p (a - 1) := fun a q1 q2 => at_eq (by rw [hg, if_neg (by omega), if_pos ⟨q1, q2⟩])
    have e3 : ∀ a, a < l → at' (bubble p k (k - l)) a = at' p a := fun a q => at_eq (by rw [hg, if_neg (by omega), if_neg (by omega)])
    have G' : Good n (bubble p k (k - l)) := (Array.perm_iff_toList_perm.mp (bubble_perm p k (k - l))).trans G
    have S' : SP lt (bubble p k (k - l)) (k + 1) := fun a b hab hbk => by
      rcases Nat.lt_trichotomy a l with q | q | q
      · rw [e3 a q]
        rcases Nat.lt_trichotomy b l with z | z | z
        · rw [e3 b z]; exact h a b hab (by omega)
        · rw [z, e1]; exact ha a q
        · rw [e2 b z (by omega)]; exact h a (b - 1) (by omega) (by omega)
      · rw [q, e1, e2 b (by omega) (by omega)]
        exact hb (b - 1) (by omega) (by omega)
      · rw [e2 a q (by omega), e2 b (by omega) (by omega)]
        exact h (a - 1) (b - 1) (by omega) (by omega)
    exact wpP_mono (bin_ok O f _ (k + 1) G' (by omega) S') fun q hq => ⟨hq.1, by rw [show k + (f + 1) = k + 1 + f by omega]; exact hq.2⟩
theorem sort_ok (O : Ord lt n) (hn : 1 ≤ n) : wpP lt n (kas_sort n) (fun p => Good n p ∧ SP lt p n) := by
  unfold kas_sort
  have G0 : Good n (List.toArray (List.range n)) := by unfold Good; simp
  refine wpP_bind (wpP_mono (count_ok O G0 hn) fun r hr => ?_)
  obtain ⟨G, h1, h2, h3⟩ := hr
  have hmax : max r.1 1 = r.1 := by omega
  by_cases hlt : r.1 < n
  · rw [if_pos hlt, hmax]
    exact wpP_mono (bin_ok O (n - r.1) r.2 r.1 G (by omega) h3) fun q hq => ⟨hq.1, by have := hq.2; rwa [show r.1 + (n - r.1) = n by omega] at this⟩
  · rw [if_neg hlt]
    exact ⟨G, by have : r.1 = n := by omega
                 rw [this] at h3; exact h3⟩
end
end Mine
end

section
open PySem PySem.W PySem.Calls PySem.Spec PyProof.Rows PyProof.Rows.LCg
namespace Mine
section
variable {prog : Program} {w : World} {A : Around} {E : Value → Shared → Prop} {s : Shared} {h₀ : Heap} {L : Addr} {m : Str → Option Value} {news : List (Addr × Obj)}
theorem keyLt_cells {a b : Addr} {p q : Itm} {C : Bool → Shared → Prop} (hx : TupIs s.heap a p) (hy : TupIs s.heap b q) (h : C (ltI p q) s) :
    wpAny (model prog w) A (keyLt' (tuples' true) (.ref a) (.ref b)) C E s := by
  obtain ⟨t1, t2, t3, n, ho⟩ := hx
  obtain ⟨u1, u2, u3, k, ho'⟩ := hy
  refine kat_lt ho rfl ho' rfl ?_
  show KatLex prog w A true _ C [(.int p.1 t1, .int q.1 u1), (.int p.2.1 t2, .int q.2.1 u2), (.int p.2.2 t3, .int q.2.2 u3)] 0 s
  refine kat_cons (wpAny_eqBool_int ?_)
  by_cases e1 : p.1 = q.1
  · rw [beq_iff_eq.mpr e1]
    refine kat_yes (kat_cons (wpAny_eqBool_int ?_))
    by_cases e2 : p.2.1 = q.2.1
    · rw [beq_iff_eq.mpr e2]
      refine kat_yes (kat_cons (wpAny_eqBool_int ?_))
      by_cases e3 : p.2.2 = q.2.2
      · rw [beq_iff_eq.mpr e3]
        refine kat_yes (kat_nil ?_)
        have e : ltI p q = false := by simp [ltI, e1, e2, e3]
        rw [e] at h
        exact h
      · rw [beq_eq_false_iff_ne.mpr e3]
        refine kat_no ?_
        refine kat_one _ _ (lt_int ?_)
        have e : ltI p q = decide (p.2.2 < q.2.2) := by simp [ltI, e1, e2]
        rw [e] at h
        exact h
    · rw [beq_eq_false_iff_ne.mpr e2]
      refine kat_no ?_
      refine kat_one _ _ (lt_int ?_)
      have e : ltI p q = decide (p.2.1 < q.2.1) := by simp [ltI, e1, e2]
      rw [e] at h
      exact h
  · rw [beq_eq_false_iff_ne.mpr e1]
    refine kat_no (oneLt_int ?_)
    have e : ltI p q = decide (p.1 < q.1) := by simp [ltI, e1]
    rw [e] at h
    exact h
theorem tups_are {h : Heap} : ∀ {cells : List Cell}, Cells h cells → ∃ fs, KatTups h (vals cells) fs ∧ fs.length = cells.length ∧ ∀ v ∈ fs, ∃ i t, v = Value.int i t
  | [], _ => ⟨[], .nil, rfl, fun _ hq => nomatch hq⟩
  | c :: r, hc => by
    obtain ⟨fs, h1, h2, h3⟩ := tups_are (cells := r) fun d hd => hc d (.tail _ hd)
    obtain ⟨t1, t2, t3, n, ho⟩ := hc c (.head _)
    exact ⟨_ :: fs, KatTups.cons ho rfl rfl rfl h1, by rw [List.length_cons, List.length_cons, h2], List.forall_mem_cons.mpr ⟨⟨_, _, rfl⟩, h3⟩⟩
theorem kas_of {cells : List Cell} {α : Type} {Q : α → Shared → Prop} (hc : Cells s.heap cells) : ∀ {t : KasT α}, wpP (fun i j => ltI (cells.getD i default).2 (cells.getD j default).2) cells.length t (fun a => Q a s) → t.kasWp (kas_ask prog w A (tuples' true) (vals cells)) Q s
  | .ret _, h => h
  | .ask i j k, h => by
    have ei : (vals cells).getD i Value.none = .ref (cells.getD i default).1 := by simp [vals, h.1]
    have ej : (vals cells).getD j Value.none = .ref (cells.getD j default).1 := by simp [vals, h.2.1]
    show wpAny (model prog w) A (keyLt' (tuples' true) ((vals cells).getD i Value.none) ((vals cells).getD j Value.none)) _ _ s
    rw [ei, ej]
    exact keyLt_cells (hc.at h.1) (hc.at h.2.1) (kas_of hc h.2.2)
theorem ltI_irr (p : Itm) : ltI p p = false := by simp [ltI]
theorem ltI_trans {p q r : Itm} (h1 : ltI p q = true) (h2 : ltI q r = true) : ltI p r = true := by
  simp only [ltI, decide_eq_true_eq] at *
  omega
theorem ltI_tot {p q : Itm} (h : p ≠ q) : ltI p q = true ∨ ltI q p = true := by
  simp only [ltI, decide_eq_true_eq]
  by_cases h1 : p.1 = q.1
  · by_cases h2 : p.2.1 = q.2.1
    · by_cases h3 : p.2.2 = q.2.2
      · exact absurd (Prod.ext h1 (Prod.ext h2 h3)) h
      · omega
    · omega
  · omega
theorem cells_ord {cells : List Cell} (hnd : (cells.map (·.2)).Nodup) : Ord (fun i j => ltI (cells.getD i default).2 (cells.getD j default).2) cells.length where
  irr := fun i => ltI_irr _
  trans := fun i j k h1 h2 => ltI_trans h1 h2
  tot := fun i j hi hj hij => ltI_tot fun e => by
    have ei : cells.getD i default = cells[i] := by simp [hi]
    have ej : cells.getD j default = cells[j] := by simp [hj]
    rw [ei, ej] at e
    exact hij ((List.getElem_inj (xs := cells.map (·.2)) (i := i) (j := j) (h₀ := by simpa using hi) (h₁ := by simpa using hj) hnd).mp (by simpa using e))
theorem range_map {cells : List Cell} : (List.range cells.length).map (fun i => cells.getD i default) = cells := by
  apply List.ext_getElem
  · simp
  · intro i h1 h2
    simp at h1
    simp [h1]
theorem short_pairwise {α : Type} {R : α → α → Prop} : ∀ {l : List α}, l.length < 2 → l.Pairwise R
  | [], _ => .nil
  | [c], _ => List.pairwise_singleton _ _
  | _ :: _ :: _, h => by simp at h; omega
/-- sorted of a short list -/
theorem sorted_short {l : Addr} {vs : List Value} {Q : Value → Shared → Prop} (F : Fr h₀ L s.heap m) (N : News h₀ L s.heap news) (hl : s.heap.IsList l vs.toArray) (h2 : vs.length < 2)
    (h : ∀ D c h', Fr h₀ L h' m → News h₀ L h' ((D, listOf vs.toArray c) :: news) → (∀ q ∈ news, q.1 < D) → Q (.ref D) { s with heap := h' }) :
    wpAny (model prog w) A (call (.builtin "sorted") [.ref l]) Q E s := by
  refine Calls.call_function_entry kind_sorted plain_sorted entry_sorted (args_sorted1 _) ?_
  unfold Builtin.«sorted»
  refine wpAny_bind (m := checkCount "sorted" 1 1 _) (wpAny_pure ?_)
  refine wpAny_bind (collect_list hl ?_ (by rw [sizeLine_eq]; omega))
  refine wpAny_bind (wpAny_newList ?_ (by rw [sizeLine_eq]; omega))
  generalize hg1 : (s.heap.push (seqObj "list" #[] 0)).update s.heap.objs.size (Obj.mapSeq (· ++ vs.toArray)) = g1
  have hsz : g1.objs.size = s.heap.objs.size + 1 := by rw [← hg1, Heap.size_update, size_push']
  have up1 : ∀ b o, s.heap.get? b = some o → g1.get? b = some o := fun b o q => by
    have hlt : b < s.heap.objs.size := Heap.lt_size q
    rw [← hg1, Heap.get?_update_ne _ _ _ _ (Nat.ne_of_lt hlt), Heap.get?_push_ne _ _ _ (Nat.ne_of_lt hlt)]
    exact q
  generalize hD : g1.objs.size = D
  have hDs : s.heap.objs.size < D := by rw [← hD, hsz]; exact Nat.lt_succ_self _
  have hoL : (g1.push (seqObj "list" vs.toArray 0)).get? D = some (seqObj "list" vs.toArray 0) := by rw [← hD]; exact Heap.get?_push_size _ rfl
  have up2 : ∀ b o, s.heap.get? b = some o → (g1.push (seqObj "list" vs.toArray 0)).get? b = some o := fun b o q => Heap.get?_push_of_some _ (up1 b o q)
  show wpAny _ _ _ _ _ { s with heap := g1.push (seqObj "list" vs.toArray 0) }
  generalize hg2 : g1.push (seqObj "list" vs.toArray 0) = g2 at hoL up2
  refine wpAny_bind (wpAny_holding (wpAny_call_entry slot_list_sort ⟨_, hoL, rfl⟩ entry_list_sort ?body (args_list_sort _)))
  rw [list_sort_plain]
  refine wpAny_bind (listItems_at hoL rfl ?_)
  refine wpAny_bind (listUpdate_at hoL rfl ?_ (by rw [List.size_toArray, sizeLine_eq]; omega) (Nat.zero_le _))
  obtain ⟨e1, ho1⟩ : ∃ e1, (g2.update D (Obj.mapSeq fun _ => #[])).get? D = some (seqObj "list" #[] e1) := ⟨_, get?_update_seq hoL (fun _ => #[])⟩
  have up3 : ∀ b o, s.heap.get? b = some o → (g2.update D (Obj.mapSeq fun _ => #[])).get? b = some o := fun b o q => by
    rw [Heap.get?_update_ne _ _ _ _ (Nat.ne_of_lt (Nat.lt_trans (Heap.lt_size q) hDs))]; exact up2 b o q
  generalize g2.update D (Obj.mapSeq fun _ => (#[] : Array Value)) = g3 at ho1 up3
  refine wpAny_bind (seqEpoch_at ho1 rfl ?_)
  refine wpAny_bind (wpAny_newTuple ?_ (by show vs.length ≤ _; rw [sizeLine_eq]; omega))
  refine wpAny_bind (wpAny_newList ?_ (Nat.zero_le _))
  refine wpAny_holding ?_
  have ho6 : ((g3.push (seqObj "tuple" vs.toArray 0)).push (seqObj "list" #[] 0)).get? D = some (seqObj "list" #[] e1) := Heap.get?_push_of_some _ (Heap.get?_push_of_some _ ho1)
  have up4 : ∀ b o, s.heap.get? b = some o → ((g3.push (seqObj "tuple" vs.toArray 0)).push (seqObj "list" #[] 0)).get? b = some o := fun b o q => Heap.get?_push_of_some _ (Heap.get?_push_of_some _ (up3 b o q))
  show wpAny (model prog w) _ _ _ E { s with heap := (g3.push (seqObj "tuple" vs.toArray 0)).push (seqObj "list" #[] 0) }
  dsimp only
  generalize (g3.push (seqObj "tuple" vs.toArray 0)).push (seqObj "list" #[] 0) = g4 at ho6 up4 ⊢
  have hlt2 : vs.toArray.size < 2 := by simpa using h2
  rw [if_pos hlt2, if_pos hlt2]
  refine wpAny_bind (wpAny_pure ?_)
  rw [StateT.run_pure]
  refine wpAny_bind (wpAny_pure ?_)
  dsimp only
  refine wpAny_bind (seqEpoch_at ho6 rfl ?_)
  have harr : (arrOf (SortSt.mk' general' (vs.toArray.zip vs.toArray) #[] 7 none)).map (·.2) = vs.toArray := by
    apply Array.toList_inj.mp
    show ((vs.toArray.zip vs.toArray).map (·.2)).toList = _
    rw [Array.toList_map, ksk_zip]
    simp [List.map_snd_zip]
  rw [harr]
  refine wpAny_bind (listUpdate_at ho6 rfl ?_ (Nat.zero_le _) (by show vs.toArray.size ≤ _; rw [List.size_toArray, sizeLine_eq]; omega))
  simp only [bne_self_eq_false, Bool.false_eq_true, if_false]
  obtain ⟨c, hc⟩ : ∃ c, (g4.update D (Obj.mapSeq fun _ => vs.toArray)).get? D = some (seqObj "list" vs.toArray c) := ⟨_, get?_update_seq ho6 fun _ => vs.toArray⟩
  have up5 : ∀ b o, s.heap.get? b = some o → (g4.update D (Obj.mapSeq fun _ => vs.toArray)).get? b = some o := fun b o q => by
    rw [Heap.get?_update_ne _ _ _ _ (Nat.ne_of_lt (Nat.lt_trans (Heap.lt_size q) hDs))]; exact up4 b o q
  refine wpAny_pure ⟨_, rfl, wpAny_pure ⟨_, rfl, h D c _ (F.keeps up5) (List.forall_mem_cons.mpr ⟨⟨hc, Nat.ne_of_gt (Nat.lt_trans F.ns.lt hDs), ?_⟩, N.grown up5⟩) fun q hq => Nat.lt_trans (Heap.lt_size (N q hq).1) hDs⟩⟩
  exact Heap.get?_none_of_le (Nat.le_trans F.above (Nat.le_of_lt (Nat.lt_trans F.ns.lt hDs)))
/-- sorted of a list of triples, no two alike -/
theorem sorted_cells {l : Addr} {cells : List Cell} {Q : Value → Shared → Prop} (F : Fr h₀ L s.heap m) (N : News h₀ L s.heap news) (hl : s.heap.IsList l (vals cells).toArray) (hc : Cells h₀ cells) (hnd : (cells.map (·.2)).Nodup) (h64 : cells.length < 64)
    (h : ∀ D c h' out, Fr h₀ L h' m → News h₀ L h' ((D, listOf (vals out).toArray c) :: news) → (∀ q ∈ news, q.1 < D) → out.Perm cells → out.Pairwise (fun a b => ltI a.2 b.2 = true) → Q (.ref D) { s with heap := h' }) :
    wpAny (model prog w) A (call (.builtin "sorted") [.ref l]) Q E s := by
  have hlen : (vals cells).length = cells.length := by simp
  by_cases h2 : cells.length < 2
  · refine sorted_short F N hl (by rw [hlen]; exact h2) fun D c h' F' N' lt => h D c h' cells F' N' lt (.refl _) (short_pairwise h2)
  · refine kat_sorted F N hl (by rw [hlen]; omega) (by rw [hlen]; exact h64) fun D e1 h' F' N' lt => ?_
    have hc' : Cells h' cells := hc.keeps F'.keep
    obtain ⟨fs, t1, t2, t3⟩ := tups_are hc'
    refine kat_kind (T := .type "int") t1 (by omega) (fun v hv => ?_) rfl ?_
    · obtain ⟨i, t, rfl⟩ := t3 v hv
      exact fun A Q E s k q => wpAny_typeOf (T := "int") (typeIs_int s i t) q
    · show (kas_sort (vals cells).length).kasWp (kas_ask prog w _ (tuples' true) (vals cells)) _ _
      rw [hlen]
      refine kas_of (s := { s with heap := h' }) hc' (wpP_mono (sort_ok (cells_ord hnd) (by omega)) fun p hp => ?_)
      obtain ⟨G, S⟩ := hp
      have hmap : (p.toList.map fun i => (vals cells).getD i Value.none) = vals (p.toList.map fun i => cells.getD i default) := by
        show _ = (p.toList.map fun i => cells.getD i default).map _
        rw [List.map_map]
        refine List.map_congr_left fun i hi => ?_
        have : i < cells.length := List.mem_range.mp (G.mem_iff.mp hi)
        simp [vals, this]
      rw [hmap]
      refine KasFin.intro F' N' (UpdF.head fun q hq => Nat.ne_of_lt (lt q hq)) fun h'' c F'' N'' => ?_
      refine h D c h'' _ F'' N'' lt ?_ ?_
      · have := G.map (fun i => cells.getD i default)
        rw [range_map] at this
        exact this
      · rw [List.pairwise_map, List.pairwise_iff_getElem]
        intro i j hi hj hij
        have hi' : i < p.size := by simpa using hi
        have hj' : j < p.size := by simpa using hj
        have := S i j hij (by rw [← G.size]; exact hj')
        rw [at_getElem hi', at_getElem hj'] at this
        simpa using this
end
end Mine
end

section
local macro_rules | `(tactic| walk_at "mine pad") => `(tactic| fail "pad")
theorem Mine.resetM15 : True := by
  w_top off
  k_with_none
  exact trivial
open PySem PySem.W PySem.Calls PySem.Spec PyProof.Rows PyProof.Rows.LCg
namespace Mine
/-- a list without items refuses its pop -/
theorem pop_meets {l : Addr} {n : Nat} : Meets (Builtin.«list.pop» ⟨[.ref l], []⟩)
    (fun A R s => s.heap.get? l = some (listOf #[] n) ∧ A.handled = none ∧ ∀ h' tk e t, Heap.MadeExcOf s.heap h' e (.type "IndexError") [.str (Str.ofString "pop from empty list") t] → R (.error (.ref e)) { s with heap := h', toks := tk }) :=
  .of_wp fun prog w A R s h => by
    obtain ⟨hp, g, d, tk, os⟩ := s
    obtain ⟨hl, hh, h⟩ := h
    wp_walk
    unfold raiseErrorWords
    refine wpAny_bind (wpAny_mkText (wpAny_bind ?_))
    unfold newExc newTuple
    refine wpAny_bind (wpAny_newObj_type ?_)
    refine wpAny_bind (m := firstArgMember _ _) (wpAny_of_eq (a := Value.none) (by simp only [firstArgMember, plainExc_IndexError.first]; rfl) ?_)
    rw [plainExc_IndexError.own]
    refine wpAny_newObj_type ?_
    unfold raiseNew
    refine wpAny_bind (wpAny_handled ?_)
    rw [hh]
    first
      | refine wpAny_throw ?_
      | refine wpAny_bind (wpAny_pure (wpAny_throw ?_))
    refine h _ _ _ tk ⟨fun b o hb => Heap.get?_push_of_some _ (Heap.get?_push_of_some _ hb), Heap.get?_none_of_le (by simp), hp.objs.size, Heap.get?_push_size _ (by simp; rfl), Heap.get?_none_of_le (by simp), Heap.get?_push_of_some _ (Heap.get?_push_size _ rfl)⟩
theorem pop_empty {prog : Program} {w : World} {A : Around} {E : Value → Shared → Prop} {s : Shared} {Q : Value → Shared → Prop} {h₀ : Heap} {L D : Addr} {n : Nat} {news : List (Addr × Obj)} (N : News h₀ L s.heap news) (hm : (D, listOf #[] n) ∈ news) (hh : A.handled = none)
    (h : ∀ h' tk e t, Heap.MadeExcOf s.heap h' e (.type "IndexError") [.str (Str.ofString "pop from empty list") t] → E (.ref e) { s with heap := h', toks := tk }) :
    wpAny (model prog w) A (call (.builtin "list.pop") [.ref D]) Q E s :=
  call_meets PySem.F.slot_list_pop ⟨_, (N _ hm).1, rfl⟩ PySem.F.entry_list_pop (PySem.F.args_list_pop_1 _) (pop_meets (n := n)) ⟨(N _ hm).1, hh, h⟩

/-- the frames below, seen from the ground that a call stands on, are dicts -/
theorem dicts_push {h₀ h g : Heap} {L : Addr} {m : Str → Option Value} {outer : List Env} {env : Env} {ns : List Addr} (D : KtsDicts (outer.filterMap (·.frame)) h₀) (F : Fr h₀ L h m) (hf : env.frame = some L) (hn : ∀ b ∈ ns, b ≠ L ∧ h₀.get? b = none) (hg : ∀ b o, h.get? b = some o → b ∉ ns → g.get? b = some o) :
    KtsDicts ((env :: outer).filterMap (·.frame)) g := fun b hb => by
  rw [List.filterMap_cons, hf] at hb
  rcases List.mem_cons.mp hb with rfl | hb
  · obtain ⟨o, es, ep, h1, h2, _⟩ := F.ns
    exact ⟨o, es, ep, hg _ _ h1 (fun q => (hn _ q).1 rfl), h2⟩
  · obtain ⟨o, es, n, h1, h2⟩ := D b hb
    exact ⟨o, es, n, hg _ _ (F.keep _ _ h1) (fun q => by rw [(hn _ q).2] at h1; cases h1), h2⟩

theorem envOfC_nil {q : Str} {scope : Scope} {L a : Addr} {cd : Value} (h : cellsFrom (L + 1) scope.names [] = []) : envOfC q scope L a cd = envOf q scope L a cd := by
  unfold envOfC envOf
  rw [h]
/-- as Does, but the end is told from the heap below all frames alone: an exception has flown in between -/
def Ends (w : World) (f : Addr) (d : Nat) (muts : List Addr) (s : Shared) (args : List Value) (v : Value) : Prop :=
  ∀ (dp un : Nat) (gd : Option (List Code)) (cn : Str) (cs : Scope) (a : Addr) (ccd : Value) (cl : List (Str × Addr)) (outer : List Env) (A₀ : Around) (base h₀ : Heap) (L : Addr) (m : Str → Option Value)
    (p : Program) (loose : List Str) (mean : ExcName → Option Value) (mg mb : Str → Option Value) (Q E : Value → Shared → Prop),
    Below A₀ base outer h₀ → Fr h₀ L s.heap m → (hd.heap_39 w.params).In base → (hd.heap_39 w.params).In h₀ → Top p loose mean mg mb base → Top p loose mean mg mb h₀ → KtsDicts (outer.filterMap (·.frame)) h₀ →
    cs.kind = .function → (∀ b ∈ muts, b ≠ L ∧ h₀.get? b = none) → dp + d < recursionLimit → un + 100 * d < cLine →
    (∀ h' tk', base.StaysIn h' → Q v { s with heap := h', toks := tk' }) →
    wpAny (model PySem.Challenge.rw_mj0017_01.row.prog w) (ktrTop dp un gd cn cs L a ccd cl outer) (call (.ref f) args) Q E s
set_option maxRecDepth 100000 in
set_option maxHeartbeats 4000000 in
theorem refused_does {w : World} {s : Shared} {l : Addr} {n : Nat} (hl : s.heap.get? l = some (listOf #[] n)) : Ends w 85 3 [l] s [.ref l] (.bool true) := by
  unfold Ends; k_fill
  intro dp un gd cn cs a ccd cl outer A₀ base h₀ L m p loose mean mg mb Q E B F X0 X T0 T D hk hm hd hu hret
  have N : News h₀ L s.heap [(l, listOf #[] n)] := fun q hq => by
    obtain rfl := List.mem_singleton.mp hq
    exact ⟨hl, (hm l (.head _)).1, (hm l (.head _)).2⟩
  refine wpAny_call ?_
  k_dflt (refine' enterC (binds := [(Str.ofString "heap", .ref l)]) ?k1 ?k2 ?k3 ?k4 ?k5 ?kA ?kF ?kK ?k6 ?k7 ?k8 ?k9 ?kB ?kD ?_ ?c2 ?c3 ?c4; (case kA => exact rfl); (case kF => exact rfl); (case kK => assumption); (case k1 => k_asm); (case k2 => k_asm); (case k3 => exact X); (case k4 => k_asm); (case k5 => exact T); (case k6 => k_is); (case k7 => k_is); (case k8 => ktr_room); (case k9 => exact BindsTo.of_eq rfl); (case kB => exact rfl); (case kD => decide +kernel); (case c2 => exact rfl); (case c3 => exact rfl); (case c4 => exact rfl))
  intro g L' h' tk' cells' hg F' N' Y' B' X' T' l1
  obtain rfl : cells' = [] := by
    cases Y'
    rfl
  replace N' : News g L' h' [(l, listOf #[] n)] := N'
  simp only [bindL] at F'
  rw [if_pos (by rfl)] at F'
  rw [envOfC_nil (by rfl)]
  have D' := dicts_push (env := envX cn cs L a ccd cl) D F rfl (by simpa using hm) hg
  clear N X T B
  dsimp only
  (try k_unmd)
  k_fold
  k_with_none
  k_steps
  refine wpAny_call ?_
  k_dflt (refine' code_defG (binds := [(Str.ofString "heap", .ref l)]) ?k1 ?k2 ?k3 ?k4 ?k5 ?kA ?kF ?kK ?k6 ?k7 ?k8 ?k9 ?kB ?_ ?c2 ?c3 ?c4 ?c5; (case kA => exact rfl); (case kF => exact rfl); (case kK => exact rfl); (case k1 => exact B'); (case k2 => exact F'); (case k3 => exact X'); (case k4 => exact N'); (case k5 => exact T'); (case k6 => k_is); (case k7 => k_is); (case k8 => ktr_room); (case k9 => exact BindsTo.of_eq rfl); (case c5 => decide); (case kB => exact locs rfl); (case c2 => exact rfl); (case c3 => exact rfl); (case c4 => exact rfl))
  intro g2 L2 h2 FG F2 N2 B2 X2 T2 _
  clear X' T' F' N'
  dsimp only
  k_with "go" => (repeat' (first | (k_unfold; (try dsimp only)) | ((fail_if_success (with_reducible show wpAny _ _ (PySem.call (Value.builtin "list.pop") _ _) _ _ _)); walk1; (try dsimp only)) | fail "no step"))
  k_extra "go"
  rename Fr g2 _ _ _ => F9
  rename News g2 _ _ _ => N9
  refine pop_empty N9 (.head _) rfl ?_
  intro h3 tk3 e t3 hx
  clear X2 T2
  refine leave_raiseS B2 hx F9 N9 ?_ rfl
  intro h4 t4 R4 _ U4
  refine caught_SB (g₀ := g) R4 FG B' U4 X0 T0 D' KtsTurn.refl (by k_is) PyProof.Rows.Boot.«IndexError» (by decide) PySem.F.isExc_IndexError PySem.F.notTuple_IndexError (by rw [isSubtype_type]; kernel_rfl) ?_ rfl rfl rfl (by decide)
  intro h5 g5 news5 tk5 _ F5 N5 G5 Nl5 B5 X5 T5 _
  clear FG F9 N9 B2 R4 U4 hx B' D'
  have N6 : News g5 L' h5 ((l, listOf #[] n) :: news5) := fun q hq => (List.mem_cons.mp hq).elim (fun z => Nl5 q (z ▸ .head _)) (N5 q)
  have G6 := G5.more (l, listOf #[] n)
  clear N5 Nl5 G5
  dsimp only
  k_extra "go"
  refine type_got N6 G6 (by decide) ?_
  k_extra "go"
  rename Fr g5 _ _ _ => FZ
  exact hret _ _ fun b o q => FZ.keep _ _ (B5.stays _ _ q)
end Mine
end

section
open PySem PySem.W PySem.Calls PySem.Spec PyProof.Rows PyProof.Rows.LCg
namespace Mine
/-- the heap and the houses that have gone, behind k steps -/
def hpAt (hs : List House) : Nat → List Cell
  | 0 => []
  | k + 1 => drain (k : Int) (pushAll (k : Int) hs (hpAt hs k))
def gnAt (hs : List House) : Nat → List Cell
  | 0 => []
  | k + 1 => goneStep (k : Int) hs (gnAt hs k)
/-- begun and not gone -/
def leftAt (x : Int) (hs : List House) (gn : List Cell) : List Cell := (hs.filter fun H => decide (H.2.1 ≤ x) && !inCells gn H.2.2.2).map (·.2.2)
structure Fine (hs : List House) : Prop where
  len : hs.length ≤ 9
  hlen : ∀ k : Nat, k ≤ 19 → (hpAt hs k).length ≤ 9
  glen : ∀ k : Nat, k ≤ 19 → (gnAt hs k).length ≤ 9
  heap : ∀ k : Nat, k < 19 → IsHeap (hpAt hs (k + 1))
  top : ∀ k : Nat, k < 19 → 0 < (hpAt hs (k + 1)).length → ∀ M ∈ heightsOf (k : Int) (hs.map hdata), (∀ q ∈ heightsOf (k : Int) (hs.map hdata), q ≤ M) → -((hpAt hs (k + 1)).getD 0 default).2.1 = M
  none : ∀ k : Nat, k < 19 → (hpAt hs (k + 1)).length = 0 → ∀ M ∈ heightsOf (k : Int) (hs.map hdata), M = 0
  nd : ∀ k : Nat, k < 19 → ((hpAt hs (k + 1)).map (·.2)).Nodup
  ndl : ∀ k : Nat, k < 19 → ((leftAt (k : Int) hs (gnAt hs (k + 1))).map (·.2)).Nodup
  same : ∀ k : Nat, k < 19 → ∀ p, p ∈ (hpAt hs (k + 1)).map (·.2) ↔ p ∈ (leftAt (k : Int) hs (gnAt hs (k + 1))).map (·.2)
  last : hpAt hs 19 = []
end Mine
end

section
open PySem PySem.W PySem.Calls PySem.Spec PyProof.Rows PyProof.Rows.LCg
namespace Mine
theorem shaped_cells (cells : List Cell) : PySem.SeqAt.shaped (.list (cells.map fun c => tupP c.2)) = true := by
  have h1 := cells_lay cells
  have h2 := cells_depth cells
  have h3 : PyData.canLay0 (.list (cells.map fun c => tupP c.2)) = true := by rw [PyData.canLay0]; exact h1
  have h4 : PyData.depth (.list (cells.map fun c => tupP c.2)) ≤ 64 := by rw [PyData.depth]; omega
  exact Bool.and_eq_true_iff.mpr ⟨h3, decide_eq_true h4⟩
theorem eqv_cells : ∀ (l : List Itm), PyData.eqvAll (l.map tupP) (l.map tupP) = true
  | [] => rfl
  | p :: r => by
    have := eqv_cells r
    simp only [List.map_cons, PyData.eqvAll, this, tupP_eqv, Bool.and_true, decide_true]
theorem sorted_same : ∀ {a b : List Itm}, a.Pairwise (fun x y => ltI x y = true) → b.Pairwise (fun x y => ltI x y = true) → (∀ p, p ∈ a ↔ p ∈ b) → a = b
  | [], [], _, _, _ => rfl
  | [], y :: b, _, _, h => by have := (h y).mpr (.head _); cases this
  | x :: a, [], _, _, h => by have := (h x).mp (.head _); cases this
  | x :: a, y :: b, ha, hb, h => by
    have ha' := List.pairwise_cons.mp ha
    have hb' := List.pairwise_cons.mp hb
    have e : x = y := by
      rcases List.mem_cons.mp ((h x).mp (.head _)) with q | q
      · exact q
      rcases List.mem_cons.mp ((h y).mpr (.head _)) with r | r
      · exact r.symm
      have := ltI_trans (hb'.1 x q) (ha'.1 y r)
      rw [ltI_irr] at this; cases this
    subst e
    refine congrArg _ (sorted_same ha'.2 hb'.2 fun p => ⟨fun hp => ?_, fun hp => ?_⟩)
    · rcases List.mem_cons.mp ((h p).mp (.tail _ hp)) with q | q
      · subst q; have := ha'.1 _ hp; rw [ltI_irr] at this; cases this
      · exact q
    · rcases List.mem_cons.mp ((h p).mpr (.tail _ hp)) with q | q
      · subst q; have := hb'.1 _ hp; rw [ltI_irr] at this; cases this
      · exact q
theorem ne_cells {prog : Program} {w : World} {A : Around} {E : Value → Shared → Prop} {s : Shared} {D D' : Addr} {a b : List Cell} {n n' : Nat} {Q : Value → Shared → Prop}
    (hD : s.heap.get? D = some (listOf (vals a).toArray n)) (hD' : s.heap.get? D' = some (listOf (vals b).toArray n')) (ha : Cells s.heap a) (hb : Cells s.heap b) (e : a.map (·.2) = b.map (·.2)) (hu : A.units + 64 < cLine) (h : Q (.bool false) s) :
    wpAny (model prog w) A (compareOp .NotEq (.ref D) (.ref D')) Q E s := by
  obtain ⟨as, rx⟩ := list_reads hD ha
  obtain ⟨bs, ry⟩ := list_reads hD' hb
  refine ne_dataH rx ry (shaped_cells a) (shaped_cells b) hu ?_
  have e1 : (a.map fun c => tupP c.2) = (a.map (·.2)).map tupP := by rw [List.map_map]; rfl
  have e2 : (b.map fun c => tupP c.2) = (b.map (·.2)).map tupP := by rw [List.map_map]; rfl
  rw [e1, e2, e, PyData.eqv, eqv_cells]
  exact h
theorem left_snoc {x : Int} {hs : List House} {gn : List Cell} {i : Nat} {H : House} (hH : hs[i]? = some H) : leftAt x (hs.take (i + 1)) gn = if (decide (H.2.1 ≤ x) && !inCells gn H.2.2.2) = true then leftAt x (hs.take i) gn ++ [H.2.2] else leftAt x (hs.take i) gn := by
  unfold leftAt
  rw [List.take_add_one, hH, Option.toList_some, List.filter_append]
  split
  · next h => simp only [List.filter_cons, h, if_true, List.filter_nil, List.map_append, List.map_cons, List.map_nil]
  · next h => simp only [List.filter_cons, h, List.filter_nil]; simp
theorem left_len (x : Int) (hs : List House) (gn : List Cell) : (leftAt x hs gn).length ≤ hs.length := by
  unfold leftAt; rw [List.length_map]; exact List.length_filter_le _ _
theorem Houses.left {g : Heap} {hs : List House} (h : Houses g hs) (x : Int) (gn : List Cell) : Cells g (leftAt x hs gn) := fun c hc => by
  obtain ⟨H, hH, rfl⟩ := List.mem_map.mp hc
  exact (h H (List.mem_filter.mp hH).1).2
end Mine
end

section
local macro_rules | `(tactic| walk_at "mine pad") => `(tactic| fail "pad")
local macro_rules | `(tactic| walk_at "mine pad") => `(tactic| fail "pad")
theorem Mine.resetM16 : True := by
  w_top off
  k_with_none
  exact trivial
open PySem PySem.W PySem.Calls PySem.Spec PyProof.Rows PyProof.Rows.LCg
namespace Mine
theorem Cells.pushAll {g : Heap} {hs : List House} {x : Int} : ∀ {l : List Cell}, Houses g hs → Cells g l → Cells g (pushAll x hs l) := by
  induction hs with
  | nil => intro l _ h; exact h
  | cons H r ih =>
    intro l hh h
    show Cells g (Mine.pushAll x r (if H.2.1 = x then Mine.hpush H.2.2 l else l))
    refine ih (fun q hq => hh q (.tail _ hq)) ?_
    split
    · exact h.hpush (hh H (.head _)).2
    · exact h
theorem Cells.drain {g : Heap} {x : Int} (l : List Cell) (h : Cells g l) : Cells g (drain x l) := by
  induction l using drain.induct x with
  | case1 l hl ih => rw [Mine.drain, if_pos hl]; exact ih (h.hpop hl.1)
  | case2 l hl => rw [Mine.drain, if_neg hl]; exact h
theorem Houses.hpAt {g : Heap} {hs : List House} (h : Houses g hs) : ∀ k, Cells g (hpAt hs k)
  | 0 => fun _ hc => nomatch hc
  | k + 1 => Cells.drain _ (Cells.pushAll h (h.hpAt k))
theorem Cells.goneFold {g : Heap} {hs : List House} {x : Int} : ∀ (r : List House) {l : List Cell}, Houses g r → Cells g l → Cells g (r.foldl (goneTurn x hs) l)
  | [], _, _, h => h
  | H :: r, l, hh, h => by
    refine Cells.goneFold r (fun q hq => hh q (.tail _ hq)) ?_
    unfold goneTurn
    split
    · intro c hc
      rcases List.mem_append.mp hc with q | q
      · exact h c q
      · rw [List.mem_singleton.mp q]; exact (hh H (.head _)).2
    · exact h
theorem Houses.gnAt {g : Heap} {hs : List House} (h : Houses g hs) : ∀ k, Cells g (gnAt hs k)
  | 0 => fun _ hc => nomatch hc
  | k + 1 => Cells.goneFold hs h (h.gnAt k)
theorem news_turn {g h h' : Heap} {L l : Addr} {o o' : Obj} {a b c d : Addr × Obj} (N : News g L h [a, (l, o), b, c, d]) (kp : Keeps l h h') (hl : h'.get? l = some o') (ha : a.1 ≠ l) (hb : b.1 ≠ l) (hc : c.1 ≠ l) (hd : d.1 ≠ l) : News g L h' [a, (l, o'), b, c, d] := by
  intro q hq
  simp only [List.mem_cons, List.not_mem_nil, or_false] at hq
  rcases hq with rfl | rfl | rfl | rfl | rfl
  · exact ⟨kp _ _ (N _ (.head _)).1 ha, (N _ (.head _)).2⟩
  · exact ⟨hl, (N _ (.tail _ (.head _))).2⟩
  · exact ⟨kp _ _ (N _ (.tail _ (.tail _ (.head _)))).1 hb, (N _ (.tail _ (.tail _ (.head _)))).2⟩
  · exact ⟨kp _ _ (N _ (.tail _ (.tail _ (.tail _ (.head _))))).1 hc, (N _ (.tail _ (.tail _ (.tail _ (.head _))))).2⟩
  · exact ⟨kp _ _ (N _ (.tail _ (.tail _ (.tail _ (.tail _ (.head _)))))).1 hd, (N _ (.tail _ (.tail _ (.tail _ (.tail _ (.head _)))))).2⟩
/-- what the loop keeps: heap and gone as told, the cells of x and gone -/
def WInv (hs : List House) (l L : Nat) (i : Nat) (c : List Cell × Nat × Addr × List Cell × Nat × Obj × Obj) : Prop :=
  c.1 = hpAt hs i ∧ c.2.2.2.1 = gnAt hs i ∧ (∃ v, c.2.2.2.2.2.1.data = .cell v) ∧ c.2.2.2.2.2.2.data = .cell (some (.ref c.2.2.1)) ∧ @Ne Nat c.2.2.1 l ∧ @Ne Nat c.2.2.1 (L + 1 + 1) ∧ @Ne Nat c.2.2.1 (L + 1)
local macro_rules | `(tactic| walk_at "call type:range") => `(tactic| (k_here; k_dflt (refine' range1_rows ?k1 ?k2 ?_; (case k1 => k_asm); (case k2 => k_asm)); intro h' tk' t1' u1' v1' R' F' N' keep'))
local macro_rules | `(tactic| walk_at "subscriptTail") => `(tactic| (k_here; (with_reducible show wpAny _ _ (subscriptTail _ _ (Value.ref _) (Value.int _ _)) _ _ _); k_dflt (k_extra "item")))
local macro_rules | `(tactic| walk_at "call builtin:sorted") => `(tactic| (k_here; k_dflt (k_extra "sorted")))
local macro_rules | `(tactic| walk_at "compareOp NotIn ref ref") => `(tactic| (k_here; k_dflt (k_extra "notin")))
local macro_rules | `(tactic| walk_at "compareOp NotEq ref ref") => `(tactic| (k_here; k_dflt (k_extra "nelist")))
local macro_rules | `(tactic| walk_at "ForPost") => `(tactic| dsimp only [ForPost])
set_option maxRecDepth 100000 in
set_option maxHeartbeats 4000000 in
theorem walk_does {w : World} {s : Shared} {ha : Addr} {hs : List House} {nh : Nat} (hha : s.heap.get? ha = some (listOf (hvals hs).toArray nh)) (hhs : Houses s.heap hs) (fine : Fine hs) : Ends w 78 6 [] s [.ref ha] (.bool true) := by
  unfold Ends; k_fill
  intro dp un gd cn cs a ccd cl outer A₀ base h₀ L m p loose mean mg mb Q E B F X0 X T0 T D hk hm hd hu hret
  have N : News h₀ L s.heap [] := News.nil
  refine wpAny_call ?_
  k_dflt (refine' enterC (binds := [(Str.ofString "houses", .ref ha)]) ?k1 ?k2 ?k3 ?k4 ?k5 ?kA ?kF ?kK ?k6 ?k7 ?k8 ?k9 ?kB ?kD ?_ ?c2 ?c3 ?c4; (case kA => exact rfl); (case kF => exact rfl); (case kK => assumption); (case k1 => k_asm); (case k2 => k_asm); (case k3 => exact X); (case k4 => k_asm); (case k5 => exact T); (case k6 => k_is); (case k7 => k_is); (case k8 => ktr_room); (case k9 => exact BindsTo.of_eq rfl); (case kB => exact rfl); (case kD => decide +kernel); (case c2 => exact rfl); (case c3 => exact rfl); (case c4 => exact rfl))
  intro g L' h' tk' cells' hg F' N' Y' B' X' T' l1
  have hg' : ∀ b o, s.heap.get? b = some o → g.get? b = some o := fun b o e => hg b o e (by simp)
  have hhg : Houses g hs := hhs.keeps hg'
  have hag : g.get? ha = some (listOf (hvals hs).toArray nh) := hg' _ _ hha
  have D' := dicts_push (env := envX cn cs L a ccd cl) (ns := []) D F rfl (by intro q hq; cases hq) (fun b o e _ => hg' b o e)
  k_cells Y'
  (try simp only [List.cons_append, List.nil_append] at N')
  clear N F X T B
  dsimp only
  (try k_unmd)
  k_fold
  k_with_none
  k_with "go" => (repeat' (first | (k_unfold; (try dsimp only)) | ((fail_if_success (with_reducible show wpAny _ _ (exec (PySem.Stmt.While _ _ _ _) _) _ _ _)); (fail_if_success (with_reducible show wpAny _ _ (exec (PySem.Stmt.For _ _ _ _ _) _) _ _ _)); (fail_if_success (with_reducible show wpAny _ _ (exec (PySem.Stmt.Assign _ (PySem.Expr.ListComp _ _ _ _) _) _) _ _ _)); (fail_if_success (with_reducible show wpAny _ _ (eval (PySem.Expr.ListComp _ _ _ _) _) _ _ _)); (fail_if_success (with_reducible show wpAny _ _ (pyIter _) _ _ _)); (fail_if_success (with_reducible show CE _ _ _ _ _ _ _)); (fail_if_success (with_reducible show ForEnd _ _ _ _ _ _ _ _ _ _ _ _)); (fail_if_success (with_reducible show wpAny _ _ (PySem.call (Value.ref _) _ _) _ _ _)); walk1; (try dsimp only)) | fail "no step"))
  k_extra "go"
  rename_i ox1 og1 d1 d2 l h1 lt1 h2 ga0 h3 lt2 h4 og F9 N9 dg
  replace d1 : ox1.data = .cell none := d1
  k_dflt (refine For_turns F9 ?_)
  k_extra "go"
  rename Fr _ _ _ _ => F8
  rename News _ _ _ _ => N8
  rename IsRange _ _ _ _ _ _ _ _ => R8
  k_dflt (refine for_range (σ := List Cell × Nat × Addr × List Cell × Nat × Obj × Obj) (n := 19) (fun c => [(c.2.2.1, listOf (vals c.2.2.2.1).toArray c.2.2.2.2.1), (l, listOf (vals c.1).toArray c.2.1), (L' + 1 + 1, c.2.2.2.2.2.1), (L' + 1, c.2.2.2.2.2.2)]) (fun _ => []) [Str.ofString "height"] (WInv hs l L') ([], 0, ga0, [], 0, ox1, og) rfl R8 (by decide) (by decide) F8 N8 (by intro q hq; cases hq) ⟨rfl, rfl, ⟨_, d1⟩, dg, by show @Ne Nat ga0 l; omega, by show @Ne Nat ga0 (L' + 1 + 1); omega, by show @Ne Nat ga0 (L' + 1); omega⟩ ?_ ?_)
  · rintro ⟨hp, n, ga, gn, ng, ox, og⟩ i ti u h tk I oI hi ⟨rfl, rfl, ⟨vx, hvx⟩, hog, hga1, hga2, hga3⟩ hI hoI F N _ rfl
    dsimp only at hi hvx hog hga1 hga2 hga3 hI N
    dsimp only [kstB] at F
    replace F : Fr g L' h _ := F
    replace N : News g L' h [(ga, listOf (vals (gnAt hs i)).toArray ng), (l, listOf (vals (hpAt hs i)).toArray n), (L' + 1 + 1, ox), (L' + 1, og), (I, oI)] := N
    have gaI : @Ne Nat ga I := hI _ (.head _)
    have lI : @Ne Nat l I := hI _ (.tail _ (.head _))
    have xI : @Ne Nat (L' + 1 + 1) I := hI _ (.tail _ (.tail _ (.head _)))
    have gI : @Ne Nat (L' + 1) I := hI _ (.tail _ (.tail _ (.tail _ (.head _))))
    have hlen := fine.hlen i (by omega)
    have glen := fine.glen i (by omega)
    have hsl := fine.len
    have hag' : ha ≠ l := fun q => by
      have := (N _ (.tail _ (.head _))).2.2
      rw [← q, hag] at this; cases this
    simp only [Int.zero_add]
    clear F8 N8 F9 N9
    k_extra "go"
    rename Fr _ _ _ _ => F3
    rename News _ _ _ _ => N3
    rename_i h3x ox2 dx2
    replace N3 : News g L' _ [(ga, listOf (vals (gnAt hs i)).toArray ng), (l, listOf (vals (hpAt hs i)).toArray n), (L' + 1 + 1, ox2), (L' + 1, og), (I, oI)] := N3
    k_dflt (refine Does.use (step_does (n := n) (nh := nh) (News.get N3 (.tail _ (.head _))) ((hhg.hpAt i).keeps F3.keep) (F3.keep _ _ hag) hag' (hhg.keeps F3.keep) (by omega)) (by k_asm) F3 (by k_asm) (by k_asm) rfl (List.forall_mem_singleton.mpr (N3 _ (.tail _ (.head _))).2) (by show dp + 1 + 4 < recursionLimit; omega) (by show un + 3 + 100 * 4 < cLine; omega) ?_)
    rintro v h4 tk4 ⟨rfl, kp, n4, hl4⟩
    have F4 := kp.fr F3 (N3 _ (.tail _ (.head _))).2.2 (N3 _ (.tail _ (.head _))).2.1
    have N4 : News g L' h4 [(ga, listOf (vals (gnAt hs i)).toArray ng), (l, listOf (vals (hpAt hs (i + 1))).toArray n4), (L' + 1 + 1, ox2), (L' + 1, og), (I, oI)] := news_turn N3 kp hl4 hga1 (by show @Ne Nat (L' + 1 + 1) l; omega) (by show @Ne Nat (L' + 1) l; omega) (by show @Ne Nat I l; exact lI.symm)
    dsimp only
    clear F3 N3
    k_extra "go"
    rename Fr _ _ _ _ => F3
    rename News _ _ _ _ => N3
    k_dflt (refine Does.use (gone_does (nh := nh) (ng := ng) (F3.keep _ _ hag) (hhg.keeps F3.keep) (News.get N3 (.head _)) ((hhg.gnAt i).keeps F3.keep) (by omega)) (by k_asm) F3 (by k_asm) (by k_asm) rfl (by intro q hq; cases hq) (by show dp + 1 + 1 < recursionLimit; omega) (by show un + 3 + 100 * 1 < cLine; omega) ?_)
    rintro v h5 tk5 ⟨⟨na, nn, rfl, hna, hnew⟩, kp5⟩
    have F5 : Fr g L' h5 _ := F3.keeps kp5
    have hna0 : g.get? na = none := by
      cases q : g.get? na with
      | none => rfl
      | some o => rw [F3.keep _ _ q] at hnew; cases hnew
    have N5 : News g L' h5 [(na, listOf (vals (gnAt hs (i + 1))).toArray nn), (ga, listOf (vals (gnAt hs i)).toArray ng), (l, listOf (vals (hpAt hs (i + 1))).toArray n4), (L' + 1 + 1, ox2), (L' + 1, og), (I, oI)] := News.more F5 (fun q hq => ⟨kp5 _ _ (N3 q hq).1, (N3 q hq).2⟩) hna (fun es n q => by cases q) hna0
    have nal : @Ne Nat na l := fun q => by have := (N3 _ (.tail _ (.head _))).1; rw [show l = na from q.symm] at this; rw [this] at hnew; cases hnew
    have nax : @Ne Nat na (L' + 1 + 1) := fun q => by have := (N3 _ (.tail _ (.tail _ (.head _)))).1; rw [show L' + 1 + 1 = na from q.symm] at this; rw [this] at hnew; cases hnew
    have nag : @Ne Nat na (L' + 1) := fun q => by have := (N3 _ (.tail _ (.tail _ (.tail _ (.head _))))).1; rw [show L' + 1 = na from q.symm] at this; rw [this] at hnew; cases hnew
    have naI : @Ne Nat na I := fun q => by have := (N3 _ (.tail _ (.tail _ (.tail _ (.tail _ (.head _)))))).1; rw [show I = na from q.symm] at this; rw [this] at hnew; cases hnew
    dsimp only
    clear F3 N3
    k_extra "go"
    rename_i h7 og7 F7 N7 dg7
    have hlen1 := fine.hlen (i + 1) (by omega)
    have glen1 := fine.glen (i + 1) (by omega)
    refine truthy_cell (cells := hpAt hs (i + 1)) (n := n4) N7 (.tail _ (.tail _ (.head _))) (by omega) ?_
    intro tk7
    dsimp only
    k_with "rest" =>
      rename Fr _ _ _ _ => F8
      rename News _ _ _ _ => N8
      k_dflt (refine Does.use (height_does (nh := nh) (F8.keep _ _ hag) (hhg.keeps F8.keep) (by omega)) (by k_asm) F8 (by k_asm) (by k_asm) rfl (by intro q hq; cases hq) (by show dp + 1 + 1 < recursionLimit; omega) (by show un + 3 + 100 * 1 < cLine; omega) ?_)
    by_cases hpos : 0 < (hpAt hs (i + 1)).length
    case' pos =>
      rw [if_pos (by simpa using hpos)]
      k_with "item" => (first | ((with_reducible show wpAny _ _ (subscriptTail _ _ (Value.ref l) _) _ _ _); refine sub_cell (cells := hpAt hs (i + 1)) (n := n4) (k := 0) (by k_asm) (by k_mem) (by omega) (by omega) (by decide) ?_ (by with_unfolding_all rfl)) | (refine sub_tup0 (Cells.tup (i := 0) (hhg.hpAt (i + 1)) (by k_asm) (by omega)) ?_ (by with_unfolding_all rfl); intro t9))
      k_extra "go"
      k_extra "rest"
      rintro v h8 tk8 ⟨⟨M, tM, rfl, hM1, hM2⟩, kp8⟩
      obtain rfl := fine.top i hi hpos M hM1 hM2
    case' neg =>
      rw [if_neg (by simpa using hpos)]
      k_extra "go"
      k_extra "rest"
      rintro v h8 tk8 ⟨⟨M, tM, rfl, hM1, hM2⟩, kp8⟩
      obtain rfl := fine.none i hi (by omega) M hM1
    all_goals (
      (try dsimp only)
      have F9 := F8.keeps kp8
      have N9 : News g L' h8 [(na, listOf (vals (gnAt hs (i + 1))).toArray nn), (ga, listOf (vals (gnAt hs i)).toArray ng), (l, listOf (vals (hpAt hs (i + 1))).toArray n4), (L' + 1 + 1, ox2), (L' + 1, og7), (I, oI)] := fun q hq => ⟨kp8 _ _ (N8 q hq).1, (N8 q hq).2⟩
      (try dsimp only)
      clear F8 N8
      k_extra "go"
      all_goals (try (rename_i hne; exact absurd rfl hne))
      rename Fr _ _ _ _ => F8
      rename News _ _ _ _ => N8
      k_dflt (refine Does.use (isheap_does (cells := hpAt hs (i + 1)) (n := n4) (News.get N8 (.tail _ (.tail _ (.head _)))) ((hhg.hpAt (i + 1)).keeps F8.keep) (by omega) (fine.heap i hi)) (by k_asm) F8 (by k_asm) (by k_asm) rfl (by intro q hq; cases hq) (by show dp + 1 + 1 < recursionLimit; omega) (by show un + 3 + 100 * 1 < cLine; omega) ?_)
      rintro v h9 tk9 ⟨rfl, kp9⟩
      have F10 := F8.keeps kp9
      have N10 : News g L' h9 [(na, listOf (vals (gnAt hs (i + 1))).toArray nn), (ga, listOf (vals (gnAt hs i)).toArray ng), (l, listOf (vals (hpAt hs (i + 1))).toArray n4), (L' + 1 + 1, ox2), (L' + 1, og7), (I, oI)] := fun q hq => ⟨kp9 _ _ (N8 q hq).1, (N8 q hq).2⟩
      (try dsimp only)
      clear F8 N8
      k_with "sorted" => (refine sorted_cells (cells := hpAt hs (i + 1)) (by k_asm) (by k_asm) (PySem.IsL.isList (n := n4) (News.get (by k_asm) (by k_mem))) (hhg.hpAt (i + 1)) (fine.nd i hi) (by omega) ?_; intro D1 c1 h11 out1 F11 N11 lt1 perm1 pw1; (try k_lt lt1))
      k_extra "go"
      rename Fr g L' h11 _ => F12
      rename News g L' h11 _ => N12
      k_dflt (refine comp_houses (fun j ys => ys = vals (leftAt (i : Int) (hs.take j) (gnAt hs (i + 1)))) F12 N12 rfl hag hhg (by omega) (by with_unfolding_all rfl) (by decide) (by rfl) (by decide) (by rfl) (by rfl) (by decide) ?_)
      k_extra "go"
      refine ⟨rfl, F12, N12, rfl, ?_⟩
      rintro _ ⟨g2, rfl⟩
      refine ⟨?_, ?_⟩
      · intro j H t ys I2 oI2 C oC D m₂ h13 tk13 E' hH hI2 hoC hma hmb F13 N13
        obtain ⟨hHp, hHt⟩ := hhg H (List.mem_of_getElem? hH)
        clear F12 N12 F10 N10
        dsimp only at F13 N13 ⊢
        have hfs := left_snoc (x := (i : Int)) (gn := gnAt hs (i + 1)) hH
        k_with "notin" => (refine notin_cells (cells := gnAt hs (i + 1)) (n := nn) (News.get (by k_asm) (by k_mem)) ((hhg.gnAt (i + 1)).keeps (Fr.keep (by k_asm))) (hHt.keeps (Fr.keep (by k_asm))) (by show un + 3 + 8 < cLine; omega) ?_)
        k_extra "go"
        · have q1 : inCells (gnAt hs (i + 1)) H.2.2.2 = true := by assumption
          refine CE.intro F13 N13 ?_
          rw [hfs, if_neg (by simp [q1])]
          exact hI2
        · have q1 : inCells (gnAt hs (i + 1)) H.2.2.2 = false := by assumption
          have q2 : H.2.1 ≤ (i : Int) := by assumption
          refine CE.intro F13 N13 ?_
          rw [hfs, if_pos (by simp [q1, q2]), hI2]
          simp [vals]
        · have q2 : ¬ H.2.1 ≤ (i : Int) := by assumption
          refine CE.intro F13 N13 ?_
          rw [hfs, if_neg (by simp [q2])]
          exact hI2
      · intro D2 h13 tk13 ys hI2 hyl F13 N13 hD2
        clear F12 N12 F10 N10
        rw [List.take_length] at hI2
        subst hI2
        dsimp only at F13 N13 ⊢
        have hll := left_len (i : Int) hs (gnAt hs (i + 1))
        k_extra "go"
        k_dflt (refine sorted_cells (cells := leftAt (i : Int) hs (gnAt hs (i + 1))) F13 N13 (PySem.IsL.isList (n := _) (News.get N13 (.head _))) (hhg.left (i : Int) _) (fine.ndl i hi) (by omega) ?_)
        intro D3 c3 h14 out2 F14 N14 lt3 perm2 pw2
        dsimp only
        clear F13 N13
        k_with "nelist" => (refine ne_cells (a := out1) (b := out2) (n := c1) (n' := c3) (News.get N14 (by k_mem)) (News.get N14 (by k_mem)) (fun c hc => (hhg.hpAt (i + 1) c (perm1.mem_iff.mp hc)).keeps F14.keep) (fun c hc => (hhg.left (i : Int) (gnAt hs (i + 1)) c (perm2.mem_iff.mp hc)).keeps F14.keep) (sorted_same (List.pairwise_map.mpr pw1) (List.pairwise_map.mpr pw2) fun p => by (rw [(perm1.map (·.2)).mem_iff, (perm2.map (·.2)).mem_iff]; exact fine.same i hi p)) (by show un + 3 + 64 < cLine; omega) ?_)
        k_extra "go"
        refine ForEnd.intro (hpAt hs (i + 1), n4, na, gnAt hs (i + 1), nn, ox2, og7) F14 ?_ (N14 (I, oI) (by k_mem)).1 ?_ (by intro q hq; cases hq) (by ksw_same) ⟨rfl, rfl, ⟨_, dx2⟩, dg7, nal, nax, nag⟩
        · intro q hq
          simp only [List.mem_cons, List.not_mem_nil, or_false] at hq
          rcases hq with rfl | rfl | rfl | rfl
          all_goals exact N14 _ (by k_mem)
        · intro q hq
          simp only [List.mem_cons, List.not_mem_nil, or_false] at hq
          rcases hq with rfl | rfl | rfl | rfl
          · exact naI
          · exact lI
          · exact xI
          · exact gI)
  · rintro ⟨hp, n, ga, gn, ng, ox, og⟩ u h tk ⟨h19, hrest⟩ F N
    dsimp only at h19 N
    dsimp only [kstB] at F
    replace F : Fr g L' h _ := F
    rw [fine.last] at h19
    subst h19
    replace N : News g L' h [(ga, listOf (vals gn).toArray ng), (l, listOf #[] n), (L' + 1 + 1, ox), (L' + 1, og)] := N
    clear F8 N8 F9 N9
    k_extra "go"
    rename Fr _ _ _ _ => F3
    rename News _ _ _ _ => N3
    k_dflt (refine refused_does (n := n) (News.get N3 (.tail _ (.head _))) _ _ _ _ _ _ _ _ _ _ _ _ _ _ _ _ _ _ _ _ _ B' F3 X0 X' T0 T' D' rfl (List.forall_mem_singleton.mpr (N3 _ (.tail _ (.head _))).2) (by show dp + 1 + 3 < recursionLimit; omega) (by show un + 3 + 100 * 3 < cLine; omega) ?_)
    intro h20 tk20 st
    dsimp only
    exact hret _ _ st
end Mine
end

section
open PySem PySem.W PySem.Calls PySem.Spec PyProof.Rows PyProof.Rows.LCg
namespace Mine
/-- the item at a place -/
abbrev itm (l : List Cell) (i : Nat) : Itm := (l.getD i default).2
/-- not over -/
abbrev le (p q : Itm) : Prop := ltI q p = false
theorem ltI_iff (p q : Itm) : ltI p q = true ↔ (p.1 < q.1 ∨ (p.1 = q.1 ∧ (p.2.1 < q.2.1 ∨ (p.2.1 = q.2.1 ∧ p.2.2 < q.2.2)))) := by simp [ltI]
theorem le_iff (p q : Itm) : le p q ↔ ¬ (q.1 < p.1 ∨ (q.1 = p.1 ∧ (q.2.1 < p.2.1 ∨ (q.2.1 = p.2.1 ∧ q.2.2 < p.2.2)))) := by
  rw [← ltI_iff]; simp [le]
theorem le_of_lt {p q : Itm} (h : ltI p q = true) : le p q := by
  rw [ltI_iff] at h; rw [le_iff]; omega
theorem le_trans {p q r : Itm} (h1 : le p q) (h2 : le q r) : le p r := by
  rw [le_iff] at *; omega
theorem le_refl (p : Itm) : le p p := ltI_irr p
theorem itm_set_same {l : List Cell} {i : Nat} {c : Cell} (h : i < l.length) : itm (l.set i c) i = c.2 := by
  simp [itm, h]
theorem itm_set_ne {l : List Cell} {i j : Nat} {c : Cell} (h : i ≠ j) : itm (l.set i c) j = itm l j := by
  simp [itm, h, List.getElem?_set_ne]
theorem sd_heap (c : Cell) : ∀ (l : List Cell) (pos : Nat), pos < l.length →
    (∀ i, 1 ≤ i → i < l.length → i ≠ pos → (i - 1) / 2 ≠ pos → le (itm l ((i - 1) / 2)) (itm l i)) →
    (∀ i, 1 ≤ i → i < l.length → (i - 1) / 2 = pos → le c.2 (itm l i)) →
    (1 ≤ pos → ∀ i, 1 ≤ i → i < l.length → (i - 1) / 2 = pos → le (itm l ((pos - 1) / 2)) (itm l i)) → IsHeap (sd c l pos) := by
  intro l pos
  induction l, pos using sd.induct c with
  | case1 l =>
    intro hp H1 H2 H3
    rw [sd, if_pos rfl]
    intro i h1 hi
    rw [List.length_set] at hi
    show le (itm _ _) (itm _ _)
    rw [itm_set_ne (j := i) (by omega)]
    by_cases q : (i - 1) / 2 = 0
    · rw [q, itm_set_same hp]; exact H2 i h1 hi q
    · rw [itm_set_ne (by omega)]; exact H1 i h1 hi (by omega) q
  | case2 l pos h0 hlt ih =>
    intro hp H1 H2 H3
    rw [sd, if_neg h0, if_pos hlt]
    have hpp : (pos - 1) / 2 < l.length := by omega
    have hc : le c.2 (itm l ((pos - 1) / 2)) := le_of_lt hlt
    have hv : itm (l.set pos (l.getD ((pos - 1) / 2) default)) pos = itm l ((pos - 1) / 2) := itm_set_same hp
    refine ih (by rw [List.length_set]; exact hpp) ?_ ?_ ?_
    · intro i h1 hi n1 n2
      rw [List.length_set] at hi
      by_cases q : i = pos
      · subst q; exact absurd rfl n2
      rw [itm_set_ne (j := i) (Ne.symm q)]
      by_cases q2 : (i - 1) / 2 = pos
      · rw [q2, hv]; exact H3 (by omega) i h1 hi q2
      · rw [itm_set_ne (Ne.symm q2)]; exact H1 i h1 hi q q2
    · intro i h1 hi e
      rw [List.length_set] at hi
      by_cases q : i = pos
      · subst q; rw [hv]; exact hc
      · rw [itm_set_ne (Ne.symm q)]
        have := H1 i h1 hi q (by omega)
        rw [e] at this
        exact le_trans hc this
    · intro hp1 i h1 hi e
      rw [List.length_set] at hi
      have hup := H1 ((pos - 1) / 2) (by omega) (by omega) (by omega) (by omega)
      rw [itm_set_ne (j := ((pos - 1) / 2 - 1) / 2) (by omega)]
      by_cases q : i = pos
      · subst q; rw [hv]; exact hup
      · rw [itm_set_ne (Ne.symm q)]
        have := H1 i h1 hi q (by omega)
        rw [e] at this
        exact le_trans hup this
  | case3 l pos h0 hlt =>
    intro hp H1 H2 H3
    rw [sd, if_neg h0, if_neg hlt]
    intro i h1 hi
    rw [List.length_set] at hi
    show le (itm _ _) (itm _ _)
    by_cases q : i = pos
    · subst q
      rw [itm_set_same hp, itm_set_ne (by omega)]
      exact Bool.eq_false_iff.mpr hlt
    · rw [itm_set_ne (j := i) (Ne.symm q)]
      by_cases q2 : (i - 1) / 2 = pos
      · rw [q2, itm_set_same hp]; exact H2 i h1 hi q2
      · rw [itm_set_ne (Ne.symm q2)]; exact H1 i h1 hi q q2
theorem child_below {l : List Cell} {pos : Nat} (h : 2 * pos + 1 < l.length) : child l pos < l.length := by unfold child; split <;> omega
theorem child_par (l : List Cell) (pos : Nat) : (child l pos - 1) / 2 = pos := by unfold child; split <;> omega
theorem child_ge (l : List Cell) (pos : Nat) : 1 ≤ child l pos := by unfold child; split <;> omega
theorem child_le {l : List Cell} {pos i : Nat} (h1 : 1 ≤ i) (hi : i < l.length) (e : (i - 1) / 2 = pos) (n : i ≠ child l pos) : le (itm l (child l pos)) (itm l i) := by
  have hi2 : i = 2 * pos + 1 ∨ i = 2 * pos + 2 := by omega
  unfold child at n ⊢
  split at n <;> rename_i hq
  · rw [if_pos hq]
    obtain rfl : i = 2 * pos + 1 := by omega
    exact hq.2
  · rw [if_neg hq]
    obtain rfl : i = 2 * pos + 2 := by omega
    have : ltI (l.getD (2 * pos + 1) default).2 (l.getD (2 * pos + 2) default).2 = true := by
      cases q : ltI (l.getD (2 * pos + 1) default).2 (l.getD (2 * pos + 2) default).2 with
      | true => rfl
      | false => exact absurd ⟨hi, q⟩ hq
    exact le_of_lt this
theorem su_heap : ∀ (l : List Cell) (pos : Nat), pos < l.length →
    (∀ i, 1 ≤ i → i < l.length → i ≠ pos → (i - 1) / 2 ≠ pos → le (itm l ((i - 1) / 2)) (itm l i)) →
    (1 ≤ pos → ∀ i, 1 ≤ i → i < l.length → (i - 1) / 2 = pos → le (itm l ((pos - 1) / 2)) (itm l i)) →
    (su l pos).1.length = l.length ∧ (su l pos).2 < l.length ∧ l.length ≤ 2 * (su l pos).2 + 1 ∧
    (∀ i, 1 ≤ i → i < l.length → i ≠ (su l pos).2 → (i - 1) / 2 ≠ (su l pos).2 → le (itm (su l pos).1 ((i - 1) / 2)) (itm (su l pos).1 i)) := by
  intro l pos
  induction l, pos using su.induct with
  | case1 l pos h ih =>
    intro hp H1 H3
    rw [su, if_pos h]
    have hk := child_below h
    have hkp := child_par l pos
    have hk1 := child_ge l pos
    have hv : itm (l.set pos (l.getD (child l pos) default)) pos = itm l (child l pos) := itm_set_same hp
    rw [List.length_set] at ih
    refine ih hk ?_ ?_
    · intro i h1 hi n1 n2
      by_cases q : i = pos
      · subst q
        rw [hv, itm_set_ne (by omega)]
        exact H3 h1 _ hk1 hk hkp
      · rw [itm_set_ne (j := i) (Ne.symm q)]
        by_cases q2 : (i - 1) / 2 = pos
        · rw [q2, hv]; exact child_le h1 hi q2 n1
        · rw [itm_set_ne (Ne.symm q2)]; exact H1 i h1 hi q q2
    · intro _ i h1 hi e
      have hgt := child_gt l pos
      rw [hkp, hv, itm_set_ne (by omega)]
      have := H1 i h1 hi (by omega) (by omega)
      rw [e] at this
      exact this
  | case2 l pos h =>
    intro hp H1 H3
    rw [su, if_neg h]
    exact ⟨rfl, hp, by show l.length ≤ 2 * pos + 1; omega, H1⟩
theorem siftup_heap {l : List Cell} (hp : 0 < l.length) (H1 : ∀ i, 1 ≤ i → i < l.length → (i - 1) / 2 ≠ 0 → le (itm l ((i - 1) / 2)) (itm l i)) : IsHeap (siftup l) := by
  obtain ⟨a1, a2, a3, a4⟩ := su_heap l 0 hp (fun i h1 hi _ n => H1 i h1 hi n) (fun h => absurd h (by decide))
  unfold siftup
  refine sd_heap _ _ _ (by rw [List.length_set, a1]; exact a2) ?_ ?_ ?_
  · intro i h1 hi n1 n2
    rw [List.length_set, a1] at hi
    rw [itm_set_ne (Ne.symm n1), itm_set_ne (Ne.symm n2)]
    exact a4 i h1 hi n1 n2
  · intro i h1 hi e
    rw [List.length_set, a1] at hi
    omega
  · intro _ i h1 hi e
    rw [List.length_set, a1] at hi
    omega
theorem hpush_heap {c : Cell} {l : List Cell} (h : IsHeap l) : IsHeap (hpush c l) := by
  unfold hpush
  have hl : (l ++ [c]).length = l.length + 1 := by simp
  refine sd_heap _ _ _ (by omega) ?_ ?_ ?_
  · intro i h1 hi n1 n2
    have hi' : i < l.length := by omega
    have e1 : itm (l ++ [c]) i = itm l i := by simp [itm, List.getElem?_append_left hi']
    have e2 : itm (l ++ [c]) ((i - 1) / 2) = itm l ((i - 1) / 2) := by simp [itm, List.getElem?_append_left (show (i - 1) / 2 < l.length by omega)]
    rw [e1, e2]
    exact h i h1 hi'
  · intro i h1 hi e; omega
  · intro _ i h1 hi e; omega
theorem hpop_heap {l : List Cell} (h : IsHeap l) (hp : 0 < l.length) : IsHeap (hpop l) := by
  unfold hpop
  split
  · intro i h1 hi; exact absurd hi (by simp)
  · refine siftup_heap (by simp; omega) ?_
    intro i h1 hi n
    simp only [List.length_set, List.length_dropLast] at hi
    have e : ∀ j, 1 ≤ j → j < l.length - 1 → itm (l.dropLast.set 0 (l.getLastD default)) j = itm l j := by
      intro j hj hj2
      rw [itm_set_ne (by omega)]
      simp [itm, hj2, show j < l.length by omega]
    rw [e i h1 hi, e _ (by omega) (by omega)]
    exact h i h1 (by omega)
theorem root_le {l : List Cell} (h : IsHeap l) : ∀ i, i < l.length → le (itm l 0) (itm l i) := by
  intro i
  induction i using Nat.strongRecOn with
  | ind i ih =>
    intro hi
    by_cases q : i = 0
    · subst q; exact le_refl _
    · exact le_trans (ih ((i - 1) / 2) (by omega) (by omega)) (h i (by omega) hi)
end Mine
end

section
open PySem PySem.W PySem.Calls PySem.Spec PyProof.Rows PyProof.Rows.LCg
namespace Mine
theorem swap_perm {l : List Cell} {i j : Nat} (hi : i < l.length) (hj : j < l.length) (n : i ≠ j) (c : Cell) : ((l.set i (l.getD j default)).set j c).Perm (l.set i c) := by
  rw [List.perm_iff_count]
  intro b
  have hj' : j < (l.set i (l.getD j default)).length := by rw [List.length_set]; exact hj
  have e : (l.set i (l.getD j default))[j] = l[j] := by rw [List.getElem_set_ne n]
  have e2 : l.getD j default = l[j] := by simp [hj]
  rw [List.count_set hj', List.count_set hi, List.count_set hi, e, e2]
  have p1 : l[i] == b → 1 ≤ l.count b := fun q => List.count_pos_iff.mpr (by rw [← eq_of_beq q]; exact List.getElem_mem hi)
  split <;> split <;> split <;> simp_all <;> omega
theorem sd_perm (c : Cell) : ∀ (l : List Cell) (pos : Nat), pos < l.length → (sd c l pos).Perm (l.set pos c) := by
  intro l pos
  induction l, pos using sd.induct c with
  | case1 l => intro hp; rw [sd, if_pos rfl]
  | case2 l pos h0 hlt ih =>
    intro hp
    rw [sd, if_neg h0, if_pos hlt]
    exact (ih (by rw [List.length_set]; omega)).trans (swap_perm hp (by omega) (by omega) c)
  | case3 l pos h0 hlt => intro hp; rw [sd, if_neg h0, if_neg hlt]
theorem su_perm (c : Cell) : ∀ (l : List Cell) (pos : Nat), pos < l.length → ((su l pos).1.set (su l pos).2 c).Perm (l.set pos c) := by
  intro l pos
  induction l, pos using su.induct with
  | case1 l pos h ih =>
    intro hp
    rw [su, if_pos h]
    have hk := child_below h
    have := child_gt l pos
    exact (ih (by rw [List.length_set]; exact hk)).trans (swap_perm hp hk (by omega) c)
  | case2 l pos h => intro hp; rw [su, if_neg h]
theorem siftup_perm {l : List Cell} (hp : 0 < l.length) : (siftup l).Perm l := by
  unfold siftup
  have a1 : (su l 0).1.length = l.length ∧ (su l 0).2 < l.length := by
    have : ∀ (l : List Cell) (pos : Nat), pos < l.length → (su l pos).1.length = l.length ∧ (su l pos).2 < l.length := by
      intro l pos
      induction l, pos using su.induct with
      | case1 l pos h ih =>
        intro hp
        rw [su, if_pos h]
        rw [List.length_set] at ih
        exact ih (child_below h)
      | case2 l pos h => intro hp; rw [su, if_neg h]; exact ⟨rfl, hp⟩
    exact this l 0 hp
  refine (sd_perm _ _ _ (by rw [List.length_set, a1.1]; exact a1.2)).trans ?_
  rw [List.set_set]
  refine (su_perm _ l 0 hp).trans ?_
  have e : l.getD 0 default = l[0] := by simp [hp]
  rw [e, List.set_getElem_self]
theorem hpush_perm (c : Cell) (l : List Cell) : (hpush c l).Perm (c :: l) := by
  unfold hpush
  refine (sd_perm c _ _ (by simp)).trans ?_
  rw [List.set_append_right _ _ (Nat.le_refl _)]
  simp only [Nat.sub_self, List.set_cons_zero]
  exact List.perm_append_singleton c l
theorem hpop_perm {l : List Cell} (hp : 0 < l.length) : (l.getD 0 default :: hpop l).Perm l := by
  unfold hpop
  match l, hp with
  | [a], _ => exact List.Perm.refl _
  | a :: b :: r, _ =>
    rw [if_neg (by simp)]
    refine ((siftup_perm (by simp)).cons _).trans ?_
    have e : (a :: b :: r).dropLast = a :: (b :: r).dropLast := rfl
    have hb : (b :: r) ≠ [] := by simp
    have e2 : (a :: b :: r).getLastD default = (b :: r).getLast hb := by simp [List.getLastD_eq_getLast?, List.getLast?_eq_some_getLast]
    rw [e, e2, List.set_cons_zero]
    show (a :: _ :: _).Perm (a :: b :: r)
    refine List.Perm.cons a ?_
    refine (List.perm_append_singleton ((b :: r).getLast hb) (b :: r).dropLast).symm.trans ?_
    rw [List.dropLast_concat_getLast]
end Mine
end

section
open PySem PySem.W PySem.Calls PySem.Spec PyProof.Rows PyProof.Rows.LCg
namespace Mine
abbrev its (l : List Cell) : List Itm := l.map (·.2)
theorem root_le_mem {l : List Cell} (h : IsHeap l) : ∀ p ∈ its l, le (itm l 0) p := by
  intro p hp
  obtain ⟨c, hc, rfl⟩ := List.mem_map.mp hp
  obtain ⟨i, hi, e⟩ := List.mem_iff_getElem.mp hc
  have := root_le h i hi
  have e2 : itm l i = c.2 := by simp [itm, hi, e]
  rw [e2] at this
  exact this
theorem root_mem {l : List Cell} (hp : 0 < l.length) : itm l 0 ∈ its l := by
  have e : l.getD 0 default = l[0] := by simp [hp]
  show (l.getD 0 default).2 ∈ _
  rw [e]
  exact List.mem_map.mpr ⟨_, List.getElem_mem hp, rfl⟩
theorem drain_spec (x : Int) : ∀ l : List Cell, IsHeap l → (its l).Nodup →
    IsHeap (drain x l) ∧ (its (drain x l)).Nodup ∧ (0 < (drain x l).length → x < (itm (drain x l) 0).2.1) ∧
    (∀ p, p ∈ its (drain x l) ↔ p ∈ its l ∧ ¬ (p.2.1 ≤ x ∧ ∀ q ∈ its l, x < q.2.1 → p.1 ≤ q.1)) := by
  intro l
  induction l using drain.induct x with
  | case1 l hl ih =>
    intro hh hn
    rw [drain, if_pos hl]
    have pm := (hpop_perm hl.1).map (·.2)
    have pm' : (itm l 0 :: its (hpop l)).Perm (its l) := pm
    have hn' := pm'.nodup_iff.mpr hn
    have hnc := List.nodup_cons.mp hn'
    obtain ⟨i1, i2, i3, i4⟩ := ih (hpop_heap hh hl.1) hnc.2
    refine ⟨i1, i2, i3, fun p => ?_⟩
    have hm : ∀ q, q ∈ its l ↔ q = itm l 0 ∨ q ∈ its (hpop l) := fun q => by rw [← pm'.mem_iff, List.mem_cons]
    have hr : (itm l 0).2.1 ≤ x := hl.2
    rw [i4 p]
    constructor
    · rintro ⟨h1, h2⟩
      refine ⟨(hm p).mpr (.inr h1), fun h3 => h2 ⟨h3.1, fun q hq => h3.2 q ((hm q).mpr (.inr hq))⟩⟩
    · rintro ⟨h1, h2⟩
      rcases (hm p).mp h1 with rfl | h1
      · refine absurd ⟨hr, fun q hq _ => ?_⟩ h2
        have := root_le_mem hh q hq
        rw [le_iff] at this; omega
      · refine ⟨h1, fun h3 => h2 ⟨h3.1, fun q hq hx => ?_⟩⟩
        rcases (hm q).mp hq with rfl | hq
        · omega
        · exact h3.2 q hq hx
  | case2 l hl =>
    intro hh hn
    rw [drain, if_neg hl]
    refine ⟨hh, hn, fun hp => ?_, fun p => ⟨fun h => ⟨h, fun h2 => ?_⟩, fun h => h.1⟩⟩
    · have : ¬ (itm l 0).2.1 ≤ x := fun q => hl ⟨hp, q⟩
      omega
    · have hp : 0 < l.length := by
        cases l with
        | nil => cases h
        | cons => simp
      have h3 : ¬ (itm l 0).2.1 ≤ x := fun q => hl ⟨hp, q⟩
      have h4 := h2.2 _ (root_mem hp) (by omega)
      have h5 := root_le_mem hh p h
      rw [le_iff] at h5
      omega
abbrev hit (H : House) : Itm := H.2.2.2
theorem pushAll_spec (x : Int) : ∀ (hs : List House) (l : List Cell), IsHeap l → (its l).Nodup → (hs.map hit).Nodup → (∀ H ∈ hs, H.2.1 = x → hit H ∉ its l) →
    IsHeap (pushAll x hs l) ∧ (its (pushAll x hs l)).Nodup ∧ ∀ p, p ∈ its (pushAll x hs l) ↔ p ∈ its l ∨ ∃ H ∈ hs, H.2.1 = x ∧ hit H = p
  | [], l, h1, h2, _, _ => ⟨h1, h2, fun p => ⟨.inl, fun h => h.elim id fun ⟨_, hq, _⟩ => nomatch hq⟩⟩
  | H :: r, l, h1, h2, h3, h4 => by
    have h3' := List.nodup_cons.mp h3
    show IsHeap (pushAll x r (if H.2.1 = x then hpush H.2.2 l else l)) ∧ (its (pushAll x r (if H.2.1 = x then hpush H.2.2 l else l))).Nodup ∧ ∀ p, p ∈ its (pushAll x r (if H.2.1 = x then hpush H.2.2 l else l)) ↔ _
    split
    · next hx =>
      have pm : (its (hpush H.2.2 l)).Perm (hit H :: its l) := (hpush_perm H.2.2 l).map (·.2)
      obtain ⟨i1, i2, i3⟩ := pushAll_spec x r (hpush H.2.2 l) (hpush_heap h1) (pm.nodup_iff.mpr (List.nodup_cons.mpr ⟨h4 H (.head _) hx, h2⟩)) h3'.2 (fun G hG hx2 hin => by
        rcases List.mem_cons.mp (pm.mem_iff.mp hin) with q | q
        · exact h3'.1 (q ▸ List.mem_map_of_mem hG)
        · exact h4 G (.tail _ hG) hx2 q)
      refine ⟨i1, i2, fun p => ?_⟩
      rw [i3 p, pm.mem_iff, List.mem_cons]
      constructor
      · rintro ((rfl | q) | ⟨G, hG, q⟩)
        · exact .inr ⟨H, .head _, hx, rfl⟩
        · exact .inl q
        · exact .inr ⟨G, .tail _ hG, q⟩
      · rintro (q | ⟨G, hG, q1, q2⟩)
        · exact .inl (.inr q)
        · rcases List.mem_cons.mp hG with rfl | hG
          · exact .inl (.inl q2.symm)
          · exact .inr ⟨G, hG, q1, q2⟩
    · next hx =>
      obtain ⟨i1, i2, i3⟩ := pushAll_spec x r l h1 h2 h3'.2 (fun G hG => h4 G (.tail _ hG))
      refine ⟨i1, i2, fun p => ?_⟩
      rw [i3 p]
      constructor
      · rintro (q | ⟨G, hG, q⟩)
        · exact .inl q
        · exact .inr ⟨G, .tail _ hG, q⟩
      · rintro (q | ⟨G, hG, q1, q2⟩)
        · exact .inl q
        · rcases List.mem_cons.mp hG with rfl | hG
          · exact absurd q1 hx
          · exact .inr ⟨G, hG, q1, q2⟩
theorem inCells_iff (l : List Cell) (p : Itm) : inCells l p = true ↔ p ∈ its l := by
  simp [inCells]
theorem notin_iff (l : List Cell) (p : Itm) : inCells l p = false ↔ p ∉ its l := by
  rw [← inCells_iff]; simp
theorem higher_iff (x : Int) (hs : List House) (p : Itm) : higher x hs p = false ↔ ∀ H ∈ hs, H.2.1 ≤ x → x < (hit H).2.1 → p.1 ≤ (hit H).1 := by
  simp only [higher, List.any_eq_false, List.mem_filter, stands, Bool.and_eq_true, decide_eq_true_eq]
  constructor
  · intro h H hH h1 h2
    have := h H ⟨hH, h1, h2⟩
    show p.1 ≤ H.2.2.2.1
    omega
  · rintro h H ⟨hH, h1, h2⟩
    have : p.1 ≤ H.2.2.2.1 := h H hH h1 h2
    omega
theorem gone_spec (x : Int) (hs : List House) : ∀ (r : List House) (now : List Cell), (its now).Nodup →
    (its (r.foldl (goneTurn x hs) now)).Nodup ∧ ∀ p, p ∈ its (r.foldl (goneTurn x hs) now) ↔ p ∈ its now ∨ ∃ H ∈ r, hit H = p ∧ p.2.1 ≤ x ∧ higher x hs p = false
  | [], now, h => ⟨h, fun p => ⟨.inl, fun h => h.elim id fun ⟨_, hq, _⟩ => nomatch hq⟩⟩
  | H :: r, now, h => by
    show (its (r.foldl (goneTurn x hs) (goneTurn x hs now H))).Nodup ∧ ∀ p, p ∈ its (r.foldl (goneTurn x hs) (goneTurn x hs now H)) ↔ _
    by_cases q : inCells now H.2.2.2 = false ∧ H.2.2.2.2.1 ≤ x ∧ higher x hs H.2.2.2 = false
    · rw [goneTurn, if_pos q]
      have e : its (now ++ [H.2.2]) = its now ++ [hit H] := by simp [its, hit]
      have hn : (its (now ++ [H.2.2])).Nodup := by
        rw [e, List.nodup_append]
        refine ⟨h, by simp, ?_⟩
        intro a ha b hb
        rw [List.mem_singleton.mp hb]
        exact fun z => (notin_iff _ _).mp q.1 ((show a = H.2.2.2 from z) ▸ ha)
      obtain ⟨i1, i2⟩ := gone_spec x hs r _ hn
      refine ⟨i1, fun p => ?_⟩
      rw [i2 p, e, List.mem_append, List.mem_singleton]
      constructor
      · rintro ((a | rfl) | ⟨G, hG, a⟩)
        · exact .inl a
        · exact .inr ⟨H, .head _, rfl, q.2.1, q.2.2⟩
        · exact .inr ⟨G, .tail _ hG, a⟩
      · rintro (a | ⟨G, hG, a⟩)
        · exact .inl (.inl a)
        · rcases List.mem_cons.mp hG with rfl | hG
          · exact .inl (.inr a.1.symm)
          · exact .inr ⟨G, hG, a⟩
    · rw [goneTurn, if_neg q]
      obtain ⟨i1, i2⟩ := gone_spec x hs r _ h
      refine ⟨i1, fun p => ?_⟩
      rw [i2 p]
      constructor
      · rintro (a | ⟨G, hG, a⟩)
        · exact .inl a
        · exact .inr ⟨G, .tail _ hG, a⟩
      · rintro (a | ⟨G, hG, a⟩)
        · exact .inl a
        · rcases List.mem_cons.mp hG with rfl | hG
          · refine .inl ?_
            obtain ⟨rfl, a2, a3⟩ := a
            rw [← inCells_iff]
            cases z : inCells now (hit G) with
            | true => rfl
            | false => exact absurd ⟨z, a2, a3⟩ q
          · exact .inr ⟨G, hG, a⟩
end Mine
end

section
open PySem PySem.W PySem.Calls PySem.Spec PyProof.Rows PyProof.Rows.LCg
namespace Mine
/-- houses as the law builds them -/
structure Town (hs : List House) : Prop where
  len : hs.length ≤ 9
  nd : (hs.map hit).Nodup
  from0 : ∀ H ∈ hs, 0 ≤ H.2.1
  wide : ∀ H ∈ hs, H.2.1 < (hit H).2.1
  over : ∀ H ∈ hs, (hit H).2.1 ≤ 17
  high : ∀ H ∈ hs, (hit H).1 ≤ -1
structure Behind (hs : List House) (k : Nat) : Prop where
  heap : IsHeap (hpAt hs k)
  nd : (its (hpAt hs k)).Nodup
  gnd : (its (gnAt hs k)).Nodup
  gone : ∀ p ∈ its (gnAt hs k), (∃ H ∈ hs, hit H = p) ∧ p.2.1 < (k : Int)
  mem : ∀ p, p ∈ its (hpAt hs k) ↔ (∃ H ∈ hs, hit H = p ∧ H.2.1 < (k : Int)) ∧ p ∉ its (gnAt hs k)
theorem Town.start {hs : List House} (t : Town hs) : Behind hs 0 where
  heap := fun i _ hi => absurd hi (by simp [hpAt])
  nd := by simp [hpAt, its]
  gnd := by simp [gnAt, its]
  gone := fun p hp => nomatch hp
  mem := fun p => ⟨(fun h => nomatch h), fun ⟨⟨H, hH, _, h⟩, _⟩ => by have := t.from0 H hH; omega⟩
theorem Town.loaded {hs : List House} {k : Nat} (t : Town hs) (b : Behind hs k) : IsHeap (pushAll (k : Int) hs (hpAt hs k)) ∧ (its (pushAll (k : Int) hs (hpAt hs k))).Nodup ∧
    ∀ p, p ∈ its (pushAll (k : Int) hs (hpAt hs k)) ↔ (∃ H ∈ hs, hit H = p ∧ H.2.1 ≤ (k : Int)) ∧ p ∉ its (gnAt hs k) := by
  have key : ∀ H ∈ hs, (k : Int) ≤ H.2.1 → hit H ∉ its (gnAt hs k) := fun H hH hx hin => by
    have h1 := (b.gone _ hin).2
    have h2 := t.wide H hH
    omega
  obtain ⟨a1, a2, a3⟩ := pushAll_spec (k : Int) hs (hpAt hs k) b.heap b.nd t.nd (fun H hH hx hin => by
    obtain ⟨⟨G, hG, e, hlt⟩, hg⟩ := (b.mem _).mp hin
    have : G = H := by
      have hp := t.nd
      have : ∀ (l : List House), (l.map hit).Nodup → ∀ a ∈ l, ∀ b ∈ l, hit a = hit b → a = b := by
        intro l
        induction l with
        | nil => intro _ a ha; cases ha
        | cons c r ih =>
          intro hn a ha b hb e
          have hn' := List.nodup_cons.mp hn
          rcases List.mem_cons.mp ha with q1 | q1
          · rcases List.mem_cons.mp hb with q2 | q2
            · rw [q1, q2]
            · refine absurd ?_ hn'.1
              rw [← q1, e]; exact List.mem_map_of_mem q2
          · rcases List.mem_cons.mp hb with q2 | q2
            · refine absurd ?_ hn'.1
              rw [← q2, ← e]; exact List.mem_map_of_mem q1
            · exact ih hn'.2 a q1 b q2 e
      exact this hs t.nd G hG H hH e
    subst this
    omega)
  refine ⟨a1, a2, fun p => ?_⟩
  rw [a3 p, b.mem p]
  constructor
  · rintro (⟨⟨H, hH, e, h⟩, hg⟩ | ⟨H, hH, hx, rfl⟩)
    · exact ⟨⟨H, hH, e, by omega⟩, hg⟩
    · exact ⟨⟨H, hH, rfl, by omega⟩, key H hH (by omega)⟩
  · rintro ⟨⟨H, hH, e, h⟩, hg⟩
    by_cases hx : H.2.1 = (k : Int)
    · exact .inr ⟨H, hH, hx, e⟩
    · exact .inl ⟨⟨H, hH, e, by omega⟩, hg⟩
theorem Town.step {hs : List House} {k : Nat} (t : Town hs) (b : Behind hs k) : Behind hs (k + 1) := by
  obtain ⟨a1, a2, a3⟩ := t.loaded b
  obtain ⟨d1, d2, d3, d4⟩ := drain_spec (k : Int) _ a1 a2
  obtain ⟨g1, g2⟩ := gone_spec (k : Int) hs hs (gnAt hs k) b.gnd
  refine ⟨d1, d2, g1, ?_, ?_⟩
  · intro p hp
    rcases (g2 p).mp hp with h | ⟨H, hH, e, h, _⟩
    · have := b.gone p h
      exact ⟨this.1, by omega⟩
    · exact ⟨⟨H, hH, e⟩, by omega⟩
  · intro p
    have hg : p ∈ its (gnAt hs (k + 1)) ↔ _ := g2 p
    have hd : p ∈ its (hpAt hs (k + 1)) ↔ _ := d4 p
    rw [hd, hg, a3 p]
    constructor
    · rintro ⟨⟨⟨H, hH, e, h⟩, hn⟩, hx⟩
      refine ⟨⟨H, hH, e, by omega⟩, ?_⟩
      rintro (q | ⟨G, hG, e2, q1, q2⟩)
      · exact hn q
      · refine hx ⟨q1, fun q hq hqx => ?_⟩
        obtain ⟨⟨J, hJ, rfl, hJ2⟩, _⟩ := (a3 q).mp hq
        exact (higher_iff _ _ _).mp q2 J hJ hJ2 hqx
    · rintro ⟨⟨H, hH, e, h⟩, hn⟩
      have hn1 : p ∉ its (gnAt hs k) := fun q => hn (.inl q)
      refine ⟨⟨⟨H, hH, e, by omega⟩, hn1⟩, ?_⟩
      rintro ⟨hx, hq⟩
      refine hn (.inr ⟨H, hH, e, hx, (higher_iff _ _ _).mpr fun J hJ j1 j2 => ?_⟩)
      refine hq (hit J) ((a3 _).mpr ⟨⟨J, hJ, rfl, j1⟩, fun z => ?_⟩) j2
      have := (b.gone _ z).2
      omega
theorem Town.behind {hs : List House} (t : Town hs) : ∀ k, Behind hs k
  | 0 => t.start
  | k + 1 => t.step (t.behind k)
theorem Town.top {hs : List House} {k : Nat} (t : Town hs) : (0 < (hpAt hs (k + 1)).length → (k : Int) < (itm (hpAt hs (k + 1)) 0).2.1) := by
  obtain ⟨a1, a2, _⟩ := t.loaded (t.behind k)
  exact (drain_spec (k : Int) _ a1 a2).2.2.1
theorem few {a b : List Itm} : a.Nodup → (∀ p ∈ a, p ∈ b) → a.length ≤ b.length := by
  induction a generalizing b with
  | nil => intro _ _; exact Nat.zero_le _
  | cons x a ih =>
    intro hn hs
    have hn' := List.nodup_cons.mp hn
    have hx := hs x (.head _)
    have h := ih (b := b.erase x) hn'.2 fun p hp => (List.mem_erase_of_ne (fun (e : p = x) => hn'.1 (e ▸ hp))).mpr (hs p (.tail _ hp))
    rw [List.length_erase_of_mem hx] at h
    have : 0 < b.length := List.length_pos_of_mem hx
    simp only [List.length_cons]
    omega
theorem mem_heights (x : Int) (hs : List House) (M : Int) : M ∈ heightsOf x (hs.map hdata) ↔ (∃ H ∈ hs, H.2.1 ≤ x ∧ x < (hit H).2.1 ∧ M = -(hit H).1) ∨ M = 0 := by
  unfold heightsOf
  rw [List.mem_append, List.mem_singleton, List.mem_map]
  constructor
  · rintro (⟨d, hd, rfl⟩ | rfl)
    · obtain ⟨h1, h2⟩ := List.mem_filter.mp hd
      obtain ⟨H, hH, rfl⟩ := List.mem_map.mp h1
      simp only [stands, Bool.and_eq_true, decide_eq_true_eq] at h2
      exact .inl ⟨H, hH, h2.1, h2.2, rfl⟩
    · exact .inr rfl
  · rintro (⟨H, hH, h1, h2, rfl⟩ | rfl)
    · refine .inl ⟨hdata H, List.mem_filter.mpr ⟨List.mem_map_of_mem hH, ?_⟩, rfl⟩
      simp only [stands, Bool.and_eq_true, decide_eq_true_eq]
      exact ⟨h1, h2⟩
    · exact .inr rfl
theorem Town.stands_in {hs : List House} {k : Nat} (t : Town hs) {H : House} (hH : H ∈ hs) (h1 : H.2.1 ≤ (k : Int)) (h2 : (k : Int) < (hit H).2.1) : hit H ∈ its (hpAt hs (k + 1)) := by
  refine ((t.behind (k + 1)).mem _).mpr ⟨⟨H, hH, rfl, by omega⟩, fun z => ?_⟩
  have := ((t.behind (k + 1)).gone _ z).2
  omega
theorem Town.fine {hs : List House} (t : Town hs) : Fine hs where
  len := t.len
  hlen := fun k _ => by
    have h := few (b := hs.map hit) (t.behind k).nd fun p hp => by
      obtain ⟨⟨H, hH, e, _⟩, _⟩ := ((t.behind k).mem p).mp hp
      exact e ▸ List.mem_map_of_mem hH
    rw [List.length_map, List.length_map] at h
    exact Nat.le_trans h t.len
  glen := fun k _ => by
    have h := few (b := hs.map hit) (t.behind k).gnd fun p hp => by
      obtain ⟨⟨H, hH, e⟩, _⟩ := (t.behind k).gone p hp
      exact e ▸ List.mem_map_of_mem hH
    rw [List.length_map, List.length_map] at h
    exact Nat.le_trans h t.len
  heap := fun k _ => (t.behind (k + 1)).heap
  top := fun k _ hp M hM hmax => by
    have hr := t.top hp
    have hm := root_mem hp
    obtain ⟨⟨H, hH, e, hb⟩, _⟩ := ((t.behind (k + 1)).mem _).mp hm
    have h1 := hmax (-(hit H).1) ((mem_heights _ _ _).mpr (.inl ⟨H, hH, by omega, by rw [e]; exact hr, rfl⟩))
    have h3 := t.high H hH
    show -(itm (hpAt hs (k + 1)) 0).1 = M
    rw [← e]
    rcases (mem_heights _ _ _).mp hM with ⟨G, hG, g1, g2, rfl⟩ | rfl
    · have h2 := root_le_mem (t.behind (k + 1)).heap _ (t.stands_in hG g1 g2)
      rw [← e, le_iff] at h2
      omega
    · omega
  none := fun k _ hp M hM => by
    rcases (mem_heights _ _ _).mp hM with ⟨G, hG, g1, g2, rfl⟩ | rfl
    · have := t.stands_in hG g1 g2
      rw [List.eq_nil_of_length_eq_zero hp] at this
      cases this
    · rfl
  nd := fun k _ => (t.behind (k + 1)).nd
  ndl := fun k _ => by
    have e : (leftAt (k : Int) hs (gnAt hs (k + 1))).map (·.2) = (hs.filter fun H => decide (H.2.1 ≤ (k : Int)) && !inCells (gnAt hs (k + 1)) H.2.2.2).map hit := by
      unfold leftAt; rw [List.map_map]; rfl
    rw [e]
    exact (List.filter_sublist.map hit).nodup t.nd
  same := fun k _ p => by
    have h := (t.behind (k + 1)).mem p
    refine h.trans ?_
    constructor
    · rintro ⟨⟨H, hH, rfl, hb⟩, hg⟩
      refine List.mem_map.mpr ⟨H.2.2, List.mem_map.mpr ⟨H, List.mem_filter.mpr ⟨hH, ?_⟩, rfl⟩, rfl⟩
      have := (notin_iff _ _).mpr hg
      have hb' : H.2.1 ≤ (k : Int) := by omega
      simp only [hb', decide_true, Bool.true_and, this, Bool.not_false]
    · intro hp
      obtain ⟨c, hc, rfl⟩ := List.mem_map.mp hp
      obtain ⟨H, hH, rfl⟩ := List.mem_map.mp hc
      obtain ⟨h1, h2⟩ := List.mem_filter.mp hH
      simp only [Bool.and_eq_true, decide_eq_true_eq, Bool.not_eq_true'] at h2
      exact ⟨⟨H, h1, rfl, by omega⟩, (notin_iff _ _).mp h2.2⟩
  last := by
    cases q : hpAt hs 19 with
    | nil => rfl
    | cons c r =>
      have hp : 0 < (hpAt hs (18 + 1)).length := by show 0 < (hpAt hs 19).length; rw [q]; simp
      have hr := t.top hp
      obtain ⟨⟨H, hH, e, _⟩, _⟩ := ((t.behind (18 + 1)).mem _).mp (root_mem hp)
      have := t.over H hH
      rw [← e] at hr
      omega
theorem town_of {hs : List House} {ns : List Int} (h : hs.map hdata = housesOf ns) (hl : ns.length ≤ 9) : Town hs := by
  have each : ∀ H ∈ hs, ∃ i v, hdata H = houseOf i v := fun H hH => by
    have := List.mem_map_of_mem (f := hdata) hH
    rw [h] at this
    obtain ⟨p, _, e⟩ := List.mem_map.mp this
    exact ⟨p.2, p.1, e.symm⟩
  have nums : ∀ H ∈ hs, 0 ≤ H.2.1 ∧ H.2.1 < (hit H).2.1 ∧ (hit H).2.1 ≤ 17 ∧ (hit H).1 ≤ -1 := fun H hH => by
    obtain ⟨i, v, e⟩ := each H hH
    have e1 : H.2.1 = v.fmod 12 := congrArg Prod.fst e
    have e2 : hit H = (-1 - (v.fdiv 72).fmod 8, v.fmod 12 + 1 + (v.fdiv 12).fmod 6, (i : Int)) := congrArg Prod.snd e
    rw [e1, e2]
    have a1 : v.fmod 12 = v % 12 := Int.fmod_eq_emod_of_nonneg _ (by decide)
    have a2 : (v.fdiv 12).fmod 6 = (v.fdiv 12) % 6 := Int.fmod_eq_emod_of_nonneg _ (by decide)
    have a3 : (v.fdiv 72).fmod 8 = (v.fdiv 72) % 8 := Int.fmod_eq_emod_of_nonneg _ (by decide)
    show 0 ≤ v.fmod 12 ∧ v.fmod 12 < v.fmod 12 + 1 + (v.fdiv 12).fmod 6 ∧ v.fmod 12 + 1 + (v.fdiv 12).fmod 6 ≤ 17 ∧ -1 - (v.fdiv 72).fmod 8 ≤ -1
    rw [a1, a2, a3]
    omega
  refine ⟨?_, ?_, fun H hH => (nums H hH).1, fun H hH => (nums H hH).2.1, fun H hH => (nums H hH).2.2.1, fun H hH => (nums H hH).2.2.2⟩
  · have := congrArg List.length h
    simp only [List.length_map, housesOf, List.length_zipIdx] at this
    omega
  · have h1 : (ns.zipIdx.map Prod.snd).Pairwise (· < ·) := by
      rw [List.zipIdx_map_snd]; exact List.pairwise_lt_range'
    have h2 : (housesOf ns).Pairwise (fun a b => a.2 ≠ b.2) := by
      unfold housesOf
      rw [List.pairwise_map]
      refine (List.pairwise_map.mp h1).imp ?_
      intro a b hab e
      have := congrArg (fun z : Itm => z.2.2) e
      simp only [houseOf] at this
      omega
    rw [← h, List.pairwise_map] at h2
    exact List.pairwise_map.mpr h2
end Mine
end

section
local macro_rules | `(tactic| walk_at "mine pad") => `(tactic| fail "pad")
theorem Mine.resetM17 : True := by
  w_top off
  k_with_none
  exact trivial
open PySem PySem.W PySem.Calls PySem.Spec PyProof.Rows PyProof.Rows.LCg
namespace Mine
theorem seq_stays {h h' : Heap} {L b : Addr} {m : Str → Option Value} {o : Obj} {xs : Array Value} {n : Nat} (hn : h.Ns L m) (hs : Heap.SameBut L h h') (ho : h.get? b = some o) (hd : o.data = .seq xs n) : h'.get? b = some o := by
  refine (hs.2 b fun q => ?_).trans ho
  obtain ⟨oL, es, ep, hL, r⟩ := hn
  rw [q, hL] at ho
  obtain rfl := Option.some.inj ho
  rw [hd] at r
  cases r.1
theorem Houses.stay {h h' : Heap} {L : Addr} {m : Str → Option Value} {hs : List House} (t : Houses h hs) (hn : h.Ns L m) (sb : Heap.SameBut L h h') : Houses h' hs := fun H hH => by
  obtain ⟨⟨t1, n1, ho⟩, t2, t3, t4, n2, hp⟩ := t H hH
  exact ⟨⟨t1, n1, seq_stays hn sb ho rfl⟩, t2, t3, t4, n2, seq_stays hn sb hp rfl⟩
theorem nil_of {h₀ h : Heap} {L : Addr} {m : Str → Option Value} (F : Fr h₀ L h m) : News h₀ L h [] := News.nil
end Mine
set_option maxRecDepth 100000 in
set_option maxHeartbeats 8000000 in
theorem PySem.Challenge.cw_mj0017_01_holds : PySem.Challenge.rw_mj0017_01.Holds := by
  w_on
  refine Mine.hd ?_
  w_strict (
    k_go0
    (all_goals try k_fold)
    k_with "go" => (repeat' (first | (k_unfold; (try dsimp only)) | ((fail_if_success (with_reducible show wpAny _ _ (PySem.call (Value.ref _) _ _) _ _ _)); (first | walk1 | (dsimp only; walk1))) | fail "no step"))
    k_extra "go"
    rename Fr _ _ _ _ => F1
    rename News _ _ _ _ => N1
    rename IntsAre _ (_ ++ _) => hI1
    k_dflt (refine Mine.Does.use (Mine.houses_does (News.get N1 (.head _)) hI1 (by simp; omega)) (by k_asm) F1 (by k_asm) (by k_asm) rfl (by intro q hq; cases hq) (by decide) (by decide) ?_)
    rintro v h2 tk2 ⟨ha, hs, n, rfl, hha, hhs, hmap, kp⟩
    have F2 := F1.keeps kp
    clear N1 F1
    dsimp only
    refine wpAny_storeName_local (by rfl) F2.ns (fun h3 hn3 sb3 => ?_) (by rfl)
    have hha3 := Mine.seq_stays F2.ns sb3 hha rfl
    have hhs3 := hhs.stay F2.ns sb3
    have F3 := F2.set hn3 sb3
    have N3 := Mine.nil_of F3
    clear F2 kp hha hhs
    have fine := (Mine.town_of hmap (by simp; omega)).fine
    (try dsimp only)
    k_extra "go"
    rename Top _ _ _ _ _ _ => T0
    rename Frag.In _ _ => X0
    rename (_ = #[]) => hg
    k_dflt (refine Mine.walk_does hha3 hhs3 fine _ _ _ _ _ _ _ _ _ _ _ _ _ _ _ _ _ _ _ _ _ (by k_asm) F3 X0 X0 T0 T0 ktsDicts_nil rfl (by intro q hq; cases hq) (by decide) (by decide) ?_)
    intro h9 tk9 st
    dsimp only
    refine ⟨.inl ⟨.bool true, _, [], rfl, raisesW_false ?_, ReadsW.bool _, ?_, fun _ => ⟨List.nodup_nil, fun _ hq => nomatch hq⟩⟩, st, rfl, hg⟩
    · wrow_none_raised
    · kc_post)
end
