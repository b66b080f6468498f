import PyProof.Rows.All
import Wide.All
import OpenK.AllK
import Wide.FinOn
import PySem.Challenge.RW_pg0155_01
set_option Elab.async false
local macro_rules | `(tactic| k_mem) => `(tactic| assumption)
local macro_rules | `(tactic| k_upd) => `(tactic| with_reducible assumption)
local macro_rules | `(tactic| k_all) => `(tactic| assumption)
section
open PySem PySem.W PyProof.Rows
namespace Mine
set_option maxRecDepth 100000
set_option maxHeartbeats 8000000
/-- the i-th statement of the top -/
def stmtAt (i : Nat) : Stmt := PySem.Challenge.pw_pg0155_01.main.body.getD i (.Pass default)
/-- the given program, its top told by places -/
def pw2 : Program := { PySem.Challenge.pw_pg0155_01 with main := { PySem.Challenge.pw_pg0155_01.main with body := [stmtAt 0, stmtAt 1, stmtAt 2, stmtAt 3, stmtAt 4, stmtAt 5, stmtAt 6, stmtAt 7, stmtAt 8, stmtAt 9, stmtAt 10, stmtAt 11, stmtAt 12, stmtAt 13, stmtAt 14, stmtAt 15, stmtAt 16, stmtAt 17, stmtAt 18, stmtAt 19, stmtAt 20, stmtAt 21, stmtAt 22, stmtAt 23, stmtAt 24, stmtAt 25, stmtAt 26, stmtAt 27, stmtAt 28, stmtAt 29, stmtAt 30, stmtAt 31, stmtAt 32, stmtAt 33, stmtAt 34, stmtAt 35, stmtAt 36, stmtAt 37, stmtAt 38, stmtAt 39, stmtAt 40, stmtAt 41, stmtAt 42, stmtAt 43, stmtAt 44, stmtAt 45, stmtAt 46, stmtAt 47, stmtAt 48, stmtAt 49, stmtAt 50, stmtAt 51, stmtAt 52, stmtAt 53, stmtAt 54, stmtAt 55, stmtAt 56, stmtAt 57, stmtAt 58, stmtAt 59, stmtAt 60, stmtAt 61, stmtAt 62, stmtAt 63, stmtAt 64, stmtAt 65, stmtAt 66, stmtAt 67, stmtAt 68, stmtAt 69, stmtAt 70, stmtAt 71, stmtAt 72, stmtAt 73, stmtAt 74, stmtAt 75, stmtAt 76] } }
def rw2 : OpenLaw := { prog := pw2, name := Str.ofString "law", about := [Str.ofString "le"], foot := 10, most := some 63, bound := none, writes := false }
theorem rw2_eq : rw2 = PySem.Challenge.rw_pg0155_01 := rfl
local macro_rules | `(tactic| k_head) => `(tactic| z_head)
open_top hz for rw2
end Mine
end
section
open PySem PySem.W PyProof.Rows PySem.Calls PyProof.V PySem.Spec
namespace Mine
set_option maxRecDepth 100000

/-- the end of a loop's turn -/
def TEnd (h₀ : Heap) (L : Addr) (s₁ : Shared) (I : Addr) (it : Obj) (K : (Str → Option Value) → List (Addr × Obj) → Prop) (s₂ : Shared) : Prop :=
  ∃ h' tk m' nx, s₂ = { s₁ with heap := h', toks := tk } ∧ Fr h₀ L h' m' ∧ News h₀ L h' ((I, it) :: nx) ∧ (∀ p ∈ nx, p.1 ≠ I) ∧ K m' nx
def TPost (h₀ : Heap) (L : Addr) (s₁ : Shared) (I : Addr) (it : Obj) (K : (Str → Option Value) → List (Addr × Obj) → Prop) (Q : Flow → Shared → Prop) (f : Flow) (s₂ : Shared) : Prop :=
  match f with
  | .ret v => Q (.ret v) s₂
  | .brk => Q .next s₂
  | _ => TEnd h₀ L s₁ I it K s₂
theorem TEnd.intro {h₀ : Heap} {L I : Addr} {it : Obj} {K : (Str → Option Value) → List (Addr × Obj) → Prop} {s₁ : Shared} {h' : Heap} {tk : Nat} {m' : Str → Option Value} {all : List (Addr × Obj)} (nx : List (Addr × Obj)) (F : Fr h₀ L h' m') (N : News h₀ L h' all)
    (sub : ∀ p ∈ (I, it) :: nx, p ∈ all) (off : ∀ p ∈ nx, p.1 ≠ I) (r : K m' nx) : TEnd h₀ L s₁ I it K { s₁ with heap := h', toks := tk } := ⟨h', tk, m', nx, rfl, F, fun p hp => N p (sub p hp), off, r⟩
section
variable {prog : Program} {w : World} {A : Around} {E : Value → Shared → Prop} {s : Shared} {env : Env} {h₀ : Heap} {target : Expr} {body : List Stmt} {Q : Flow → Shared → Prop}

theorem rest_J {vs : List Value} {ax : Addr} {lo : Obj} {I : Addr} (J : Nat → (Str → Option Value) → List (Addr × Obj) → Prop)
    (keep : ∀ i m nx, J i m nx → (ax, lo) ∈ nx)
    (turn : ∀ it i v m₁ nx h tk, vs[i]? = some v → it.cls = .type "list_iterator" → J i m₁ nx → (∀ p ∈ nx, p.1 ≠ I) → Fr h₀ env.locals h m₁ → News h₀ env.locals h ((I, it) :: nx) →
      wpAny (model prog w) A (assign target env v) (fun _ s₂ => wpAny (model prog w) A (execs body env) (TPost h₀ env.locals { s with heap := h, toks := tk } I it (J (i + 1)) Q) E s₂) E { s with heap := h, toks := tk })
    (done : ∀ m₁ nx h tk, J vs.length m₁ nx → Fr h₀ env.locals h m₁ → News h₀ env.locals h nx → Q .next { s with heap := h, toks := tk }) :
    ∀ (k i : Nat), i + k = vs.length → ∀ m nx, J i m nx → (∀ p ∈ nx, p.1 ≠ I) →
      ItemsRest prog w A E h₀ env target body Q s [(I, "list_iterator")] [(ax, lo)] ((vs.drop i).map .val) m nx := by
  intro k
  induction k with
  | zero =>
    intro i hi m nx hj off
    have : vs.drop i = [] := List.drop_eq_nil_of_le (by omega)
    rw [this]
    have e : i = vs.length := by omega
    subst e
    exact ItemsRest.zero fun h tk F N => done m nx h tk hj F N
  | succ k ih =>
    intro i hi m nx hj off
    have hlt : i < vs.length := by omega
    rw [List.drop_eq_getElem_cons hlt, List.map_cons]
    refine ItemsRest.val fun h tk F => AllObj.cons fun o ho => AllObj.nil fun N => ?_
    refine wpAny_mono (turn o i vs[i] m nx h tk (List.getElem?_eq_getElem hlt) ho hj off F N) (fun _ s₂ h₂ => wpAny_mono h₂ (fun f s₃ p => ?_) fun _ _ e => e) fun _ _ e => e
    have fin : TEnd h₀ env.locals { s with heap := h, toks := tk } I o (J (i + 1)) s₃ → UnrEndW h₀ env.locals { s with heap := h, toks := tk } [(I, o)] (fun m' n' => SubL [(ax, lo)] n' ∧ ItemsRest prog w A E h₀ env target body Q s [(I, "list_iterator")] [(ax, lo)] ((vs.drop (i + 1)).map .val) m' n') s₃ := by
      rintro ⟨h', tk', m', nx', e, F', N', off', hj'⟩
      exact ⟨h', tk', m', nx', e, F', N', fun p hp q hq => by rw [List.mem_singleton.mp hq]; exact off' p hp, ⟨keep _ _ _ hj', trivial⟩, ih (i + 1) (by omega) m' nx' hj' off'⟩
    cases f with
    | ret v => exact p
    | brk => exact p
    | next => exact fin p
    | cont => exact fin p

theorem iter_J {ax : Addr} {lo : Obj} {vs : List Value} {n : Nat} {m₀ : Str → Option Value} {news all : List (Addr × Obj)} (J : Nat → (Str → Option Value) → List (Addr × Obj) → Prop)
    (hh : A.handled = none) (F : Fr h₀ env.locals s.heap m₀) (N : News h₀ env.locals s.heap all) (hs : ∀ p ∈ news, p ∈ all) (hm : (ax, lo) ∈ news) (hc : lo.cls = .type "list") (hd : lo.data = .seq vs.toArray n)
    (hj : J 0 m₀ news) (keep : ∀ i m nx, J i m nx → (ax, lo) ∈ nx)
    (turn : ∀ I it i v m₁ nx h tk, (∀ p ∈ news, p.1 < I) → vs[i]? = some v → it.cls = .type "list_iterator" → J i m₁ nx → (∀ p ∈ nx, p.1 ≠ I) → Fr h₀ env.locals h m₁ → News h₀ env.locals h ((I, it) :: nx) →
      wpAny (model prog w) A (assign target env v) (fun _ s₂ => wpAny (model prog w) A (execs body env) (TPost h₀ env.locals { s with heap := h, toks := tk } I it (J (i + 1)) Q) E s₂) E { s with heap := h, toks := tk })
    (done : ∀ m₁ nx h tk, J vs.length m₁ nx → Fr h₀ env.locals h m₁ → News h₀ env.locals h nx → Q .next { s with heap := h, toks := tk }) :
    wpAny (model prog w) A (pyIter (.ref ax)) (fun it s₂ => TurnsAt prog w A h₀ env target body Q E it s₂) E s := by
  have N' : News h₀ env.locals s.heap news := fun p hp => N p (hs p hp)
  refine iter_listTurns hh F N' hm hc hd fun I hI => ?_
  have := rest_J (prog := prog) (w := w) (A := A) (E := E) (s := s) (env := env) (h₀ := h₀) (target := target) (body := body) (Q := Q) (vs := vs) (ax := ax) (lo := lo) (I := I) J keep (fun it i v m₁ nx h tk => turn I it i v m₁ nx h tk hI) done vs.length 0 (Nat.zero_add _) m₀ news hj (fun p hp => Nat.ne_of_lt (hI p hp))
  rwa [List.drop_zero] at this
end
end Mine
end
section
open PySem PySem.W PyProof.Rows PySem.Calls PyProof.V PySem.Spec
namespace Mine
set_option maxRecDepth 100000
section
variable {prog : Program} {w : World} {A : Around} {E : Value → Shared → Prop} {s : Shared} {h₀ : Heap} {L D : Addr} {m : Str → Option Value} {news news' : List (Addr × Obj)} {vs : List Value} {n : Nat} {k : Int} {t u : Tok} {v : Value}
theorem set_any {Q : Unit → Shared → Prop} (F : Fr h₀ L s.heap m) (N : News h₀ L s.heap news) (U : Upd D (listOf vs.toArray n) (listOf (vs.set k.toNat v).toArray n) news news') (h0 : 0 ≤ k) (h1 : k < vs.length) (hfit : k < 2 ^ 63)
    (h : ∀ h', Fr h₀ L h' m → News h₀ L h' news' → Q () { s with heap := h' }) :
    wpAny (model prog w) A (setItem (.ref D) (.int k t) v) Q E s := by
  obtain ⟨pre, post, rfl, rfl, a, b⟩ := U.split
  have z := N (D, listOf vs.toArray n) (List.mem_append.mpr (.inr (.head _)))
  refine ki_setAt z.1 h0 hfit (by simpa using h1) (h _ (F.change (Heap.SameBut.update ..) z.2.1 z.2.2) (ki_turn _ N a b ?_ ?_))
  · show vs.toArray.setIfInBounds k.toNat v = (vs.set k.toNat v).toArray
    apply Array.toList_inj.mp
    simp
  · simp
theorem get_any {Q : Value → Shared → Prop} (N : News h₀ L s.heap news) (hm : (D, listOf vs.toArray n) ∈ news) (hx : vs[k.toNat]? = some v) (h0 : 0 ≤ k) (hfit : k < 2 ^ 63) (h : Q v s) :
    wpAny (model prog w) A (getItem (.ref D) (.int k u)) Q E s := wpAny_getItem_list (PySem.IsL.isList (n := n) (N _ hm).1) h0 hfit (by simpa using hx) h
theorem sub_any {value slice : PySem.Expr} {Q : Value → Shared → Prop} (N : News h₀ L s.heap news) (hm : (D, listOf vs.toArray n) ∈ news) (hx : vs[k.toNat]? = some v) (h0 : 0 ≤ k) (hfit : k < 2 ^ 63) (h : Q v s)
    (hs : subscripted slice false (.ref D) (.int k u) = operate [.ref D, .int k u] (getItem (.ref D) (.int k u)) := by with_unfolding_all rfl) :
    wpAny (model prog w) A (subscriptTail value slice (.ref D) (.int k u)) Q E s :=
  have hL : s.heap.IsList D vs.toArray := PySem.IsL.isList (n := n) (N _ hm).1
  tail_any hL.typeIs slot_list_getitem.lookup (get_any N hm hx h0 hfit h) hs
end
theorem Upd.same {d : Addr} {o : Obj} : ∀ {l l' : List (Addr × Obj)}, Upd d o o l l' → l' = l
  | _, _, .head _ => rfl
  | _, _, .tail _ r => by rw [Upd.same r]

def OptIs : Value → Option Int → Prop
  | v, none => v = .none
  | v, some x => ∃ t, v = .int x t
def leastO : Option Int → Int → Option Int
  | none, s => some s
  | some x, s => if s < x then some s else some x
def leastU (us : List Value) (p : Nat) (st : Int) (ts : Tok) : Option Int → List Value
  | none => us.set p (.int st ts)
  | some x => if st < x then us.set p (.int st ts) else us
end Mine
end
section
open PySem PySem.W PyProof.Rows PySem.Calls PyProof.V PySem.Spec
namespace Mine
set_option maxRecDepth 100000

/-- the end of a comprehension's element -/
def CEnd (h₀ : Heap) (L : Addr) (m : Str → Option Value) (s₁ : Shared) (I : Addr) (oI : Obj) (C : Addr) (oC : Obj) (D : Addr) (oD : Obj) (S : List (Addr × Obj) → Prop) (K : Value → List (Addr × Obj) → Prop) (y : Value) (s₂ : Shared) : Prop :=
  LCg.CompEnd h₀ L m s₁ I oI C oC D oD S K y s₂
theorem CEnd.intro {h₀ : Heap} {L I C D : Addr} {m : Str → Option Value} {s₁ : Shared} {oI oC oD : Obj} {S : List (Addr × Obj) → Prop} {K : Value → List (Addr × Obj) → Prop} {y : Value} {h' : Heap} {tk : Nat} {all : List (Addr × Obj)} (nx : List (Addr × Obj))
    (F : Fr h₀ L h' m) (N : News h₀ L h' all) (sub : ∀ p ∈ (I, oI) :: (C, oC) :: (D, oD) :: nx, p ∈ all) (off : LCg.Off3 I C D nx) (hS : S nx) (r : K y nx) :
    CEnd h₀ L m s₁ I oI C oC D oD S K y { s₁ with heap := h', toks := tk } := LCg.CompEnd.intro F N nx sub off hS r
section
variable {prog : Program} {w : World} {A : Around} {h₀ : Heap} {L : Addr} {m : Str → Option Value} {env : Env} {elt : Expr} {x : Str} {scope : Scope} {cl : List (Str × Addr)} {s : Shared} {S : List (Addr × Obj) → Prop} {P : Nat → Value → Prop} {Fin : List Value → List (Addr × Obj) → Prop}
theorem comp_J {n : Nat} {news : List (Addr × Obj)} (K : Nat → List Value → List (Addr × Obj) → Prop)
    (h0 : K 0 [] news)
    (turn : ∀ i ys nx, K i ys nx → ∀ v I oI C oC D m₂ h tk (E' : Value → Shared → Prop), i < n → P i v → LCg.NsObj oC m₂ → m₂ x = some v → Fr h₀ L h m → News h₀ L h ((I, oI) :: (C, oC) :: (D, LCg.lst ys) :: nx) → LCg.Off3 I C D nx → ((@Ne Nat I C) ∧ (@Ne Nat I D) ∧ (@Ne Nat C D)) →
      wpAny (model prog w) A (eval elt (compEnvC scope cl C env)) (CEnd h₀ L m { s with heap := h, toks := tk } I oI C oC D (LCg.lst ys) S (fun y nx' => K (i + 1) (ys ++ [y]) nx')) E' { s with heap := h, toks := tk })
    (fin : ∀ ys nx, K n ys nx → Fin ys nx) : LCg.CompRest prog w A h₀ L m env elt x scope cl s S P Fin n 0 [] news := by
  have key : ∀ (j i : Nat) (ys : List Value) (nx : List (Addr × Obj)), i + j = n → K i ys nx → LCg.CompRest prog w A h₀ L m env elt x scope cl s S P Fin j i ys nx := by
    intro j
    induction j with
    | zero =>
      intro i ys nx hi hk
      have e : i = n := by omega
      subst e
      exact LCg.CompRest.zero (fin ys nx hk)
    | succ j ih =>
      intro i ys nx hi hk
      refine LCg.CompRest.succ ?_
      intro v I oI C oC D m₂ h tk E' hv hC hx F N off ne
      refine wpAny_mono (turn i ys nx hk v I oI C oC D m₂ h tk E' (by omega) hv hC hx F N off ne) (fun y s₂ hq => ?_) fun _ _ e => e
      obtain ⟨h', tk', nw, e, F', N', off', hS, r⟩ := hq
      exact ⟨h', tk', nw, e, F', N', off', hS, ih (i + 1) _ nw (by omega) r⟩
  exact key n 0 [] news (by omega) h0
end

/-- the walk stands here -/
def Hold (P : Prop) : Prop := P
theorem Hold.out {P : Prop} (h : Hold P) : P := h
theorem allLt_out {d : Addr} : ∀ {l : List (Addr × Obj)}, AllLt d l → ∀ p ∈ l, p.1 < d
  | [], _, _, hp => nomatch hp
  | _ :: _, h, p, hp => by
    rcases List.mem_cons.mp hp with e | hp
    · rw [e]; exact h.1
    · exact allLt_out h.2 p hp
theorem off1_out {D : Addr} : ∀ {l : List (Addr × Obj)}, LCg.Off1 D l → ∀ p ∈ l, p.1 ≠ D
  | [], _, _, hp => nomatch hp
  | _ :: _, h, p, hp => by
    rcases List.mem_cons.mp hp with e | hp
    · rw [e]; exact h.1
    · exact off1_out h.2 p hp
/-- rows of a table, as objects -/
def rowsL : List Addr → List (List Value) → List (Addr × Obj)
  | R :: Rs, u :: us => (R, listOf u.toArray 0) :: rowsL Rs us
  | _, _ => []
theorem rowsL_mem : ∀ {Rs : List Addr} {us : List (List Value)} {i : Nat} {R : Addr} {u : List Value}, Rs[i]? = some R → us[i]? = some u → (R, listOf u.toArray 0) ∈ rowsL Rs us
  | _ :: _, _ :: _, 0, _, _, h1, h2 => by cases h1; cases h2; exact List.mem_cons_self ..
  | _ :: _, _ :: _, i + 1, _, _, h1, h2 => List.mem_cons_of_mem _ (rowsL_mem (i := i) (by simpa using h1) (by simpa using h2))
  | [], _, _, _, _, h1, _ => by simp at h1
  | _ :: _, [], _, _, _, _, h2 => by simp at h2
theorem rowsL_addr : ∀ {Rs : List Addr} {us : List (List Value)}, ∀ p ∈ rowsL Rs us, p.1 ∈ Rs
  | R :: Rs, u :: us, p, hp => by
    rcases List.mem_cons.mp hp with rfl | hp
    · exact List.mem_cons_self ..
    · exact List.mem_cons_of_mem _ (rowsL_addr p hp)
  | [], _, _, hp => by cases hp
  | _ :: _, [], _, hp => by cases hp
theorem rowsL_upd {rest : List (Addr × Obj)} : ∀ {Rs : List Addr} {us : List (List Value)} {i : Nat} {R : Addr} {u v : List Value}, Rs.Nodup → (∀ R ∈ Rs, ∀ p ∈ rest, p.1 ≠ R) → Rs[i]? = some R → us[i]? = some u →
    Upd R (listOf u.toArray 0) (listOf v.toArray 0) (rowsL Rs us ++ rest) (rowsL Rs (us.set i v) ++ rest)
  | Q :: Rs, _ :: us, 0, R, u, v, hn, ho, h1, h2 => by
    cases h1; cases h2
    refine Upd.head fun p hp => ?_
    rcases List.mem_append.mp hp with hp | hp
    · intro e
      exact (List.nodup_cons.mp hn).1 (e ▸ rowsL_addr p hp)
    · exact ho _ (List.mem_cons_self ..) p hp
  | Q :: Rs, _ :: us, i + 1, R, u, v, hn, ho, h1, h2 => by
    have h1' : Rs[i]? = some R := by simpa using h1
    refine Upd.tail (fun e => ?_) (rowsL_upd (i := i) (List.nodup_cons.mp hn).2 (fun R' hR => ho R' (List.mem_cons_of_mem _ hR)) h1' (by simpa using h2))
    exact (List.nodup_cons.mp hn).1 ((show Q = R from e) ▸ List.mem_of_getElem? h1')
  | [], _, _, _, _, _, _, _, h1, _ => by simp at h1
  | _ :: _, [], _, _, _, _, _, _, _, h2 => by simp at h2
end Mine
end
section
open PySem PySem.W PyProof.Rows PySem.Calls PyProof.V PySem.Spec
namespace Mine
set_option maxRecDepth 100000
/-- where two ways meet -/
structure JoinQ {α : Type} (R : α → Prop) (h₀ : Heap) (L : Addr) (m : Str → Option Value) (news : List (Addr × Obj)) (s : Shared) (v : α) (s' : Shared) : Prop where
  holds : R v
  state : ∃ h' tk, s' = { s with heap := h', toks := tk } ∧ Fr h₀ L h' m ∧ News h₀ L h' news
theorem join {α : Type} {M : Model} {A : Around} {t : Sem α} {Q : α → Shared → Prop} {E : Value → Shared → Prop} {s : Shared} {h₀ : Heap} {L : Addr} {m : Str → Option Value} {news : List (Addr × Obj)} (R : α → Prop) (_F : Fr h₀ L s.heap m) (_N : News h₀ L s.heap news)
    (h1 : wpAny M A t (JoinQ R h₀ L m news s) E s) (h2 : ∀ v h' tk, R v → Fr h₀ L h' m → News h₀ L h' news → Q v { s with heap := h', toks := tk }) : wpAny M A t Q E s :=
  wpAny_mono h1 (fun v s' q => by obtain ⟨hR, h', tk, rfl, F', N'⟩ := q; exact h2 v h' tk hR F' N') fun _ _ e => e
theorem JoinQ.intro {α : Type} {R : α → Prop} {h₀ : Heap} {L : Addr} {m : Str → Option Value} {news all : List (Addr × Obj)} {s : Shared} {v : α} {h' : Heap} {tk : Nat} (hR : R v) (F : Fr h₀ L h' m) (N : News h₀ L h' all) (hs : ∀ p ∈ news, p ∈ all) :
    JoinQ R h₀ L m news s v { s with heap := h', toks := tk } := ⟨hR, h', tk, rfl, F, fun p hp => N p (hs p hp)⟩
theorem genQ {P : (Flow → Shared → Prop) → Prop} (q : Flow → Shared → Prop) (h : ∀ QQ, q = QQ → P QQ) : P q := h q rfl
theorem letA {A : Around} {P : Around → Prop} (h : let A9 := A; P A9) : P A := h
end Mine
end
section
open PySem PySem.W PyProof.Rows PySem.Calls PyProof.V PySem.Spec
namespace Mine
set_option maxRecDepth 100000
section
variable {prog : Program} {w : World} {A : Around} {E : Value → Shared → Prop} {s : Shared} {env : Env} {h₀ : Heap} {x : Str} {body : List Stmt} {Q : Flow → Shared → Prop}
theorem iter_rangeJ {r : Addr} {t₀ u₀ v₀ : Tok} {n : Nat} {m₀ : Str → Option Value} {news : List (Addr × Obj)}
    (J : Nat → (Str → Option Value) → List (Addr × Obj) → Prop)
    (hh : A.handled = none) (hr : IsRange s.heap r 0 (n : Int) 1 t₀ u₀ v₀) (hsmall : Builtin.Range.small 0 (n : Int) 1 = true) (hn : Builtin.Range.rangeSize 0 (n : Int) 1 = (n : Int)) (F : Fr h₀ env.locals s.heap m₀) (N : News h₀ env.locals s.heap news) (hj : J 0 m₀ news)
    (turn : ∀ i t m₁ nx h tk own, i < n → OwnOff own (news.map (·.1)) → J i m₁ nx → Fr h₀ env.locals h (fun y => if y = x then some (.int (i : Int) t) else m₁ y) → News h₀ env.locals h (nx ++ own) →
      wpAny (model prog w) A (execs body env) (InvPostN h₀ env.locals (J (i + 1)) own (news.map (·.1)) { s with heap := h, toks := tk } Q) E { s with heap := h, toks := tk })
    (done : ∀ m₁ nx h tk, J n m₁ nx → Fr h₀ env.locals h m₁ → News h₀ env.locals h nx → Q .next { s with heap := h, toks := tk }) :
    wpAny (model prog w) A (pyIter (.ref r)) (fun it s₂ => LoopAtV prog w A h₀ env x body Q E it s₂) E s := by
  refine wpAny_pyIter_range hr hsmall ?_
  have W : Walks prog w A s.heap.objs.size [s.heap.objs.size] [s.heap.objs.size] n (fun i v => i < n ∧ ∃ t, v = .int (0 + i * 1) t)
      (fun i h => IsRangeIter h s.heap.objs.size (0 + (i : Nat) * 1) ((n : Int) - (i : Nat)) 1) := (Walks.range hh _ 0 1 n).bound
  refine loop_invN J W ?_ ?_ ?_ ?_ (by show IsRangeIter _ _ _ _ _; rw [hn]; simpa using Heap.get?_push_size _ rfl) (F.push _) (fun p hp => ⟨Heap.get?_push_of_some _ (N p hp).1, (N p hp).2⟩) hj ?_ done
  · intro hm
    exact absurd F.ns.lt ((List.mem_singleton.mp hm) ▸ Nat.lt_irrefl _)
  · intro b hb
    rw [List.mem_singleton.mp hb]
    exact next_is_new F
  · intro p hp hI
    exact absurd (Heap.lt_size (N p hp).1) ((List.mem_singleton.mp hI) ▸ Nat.lt_irrefl _)
  · intro p hp hI
    exact absurd (Heap.lt_size (N p hp).1) ((List.mem_singleton.mp hI) ▸ Nat.lt_irrefl _)
  · rintro i v m₁ nx h tk own hi ⟨_, t, rfl⟩ _ ho hj' F' N'
    have e : (0 : Int) + (i : Int) * 1 = (i : Int) := by omega
    rw [e] at F'
    exact turn i t m₁ nx h tk own hi ho hj' F' N'
end
theorem InvEndN.mk' {h₀ : Heap} {L : Addr} {J : (Str → Option Value) → List (Addr × Obj) → Prop} {m' : Str → Option Value} {own news' : List (Addr × Obj)} {adr : List Addr} {s₁ : Shared} {h' : Heap} {tk : Nat} (nx : List (Addr × Obj)) (F : Fr h₀ L h' m') (N : News h₀ L h' news')
    (hn : ∀ p ∈ nx ++ own, p ∈ news') (ha : nx.map (·.1) = adr) (hj : J m' nx) : InvEndN h₀ L J own adr s₁ { s₁ with heap := h', toks := tk } :=
  InvEndN.intro F N hj ha (fun p hp => hn p (List.mem_append_left _ hp)) (fun p hp => hn p (List.mem_append_right _ hp))
section
variable {prog : Program} {w : World} {A : Around} {E : Value → Shared → Prop} {s : Shared} {h₀ : Heap} {L D b : Addr} {m : Str → Option Value} {news news' : List (Addr × Obj)} {vs ws : List Value} {n n2 : Nat} {k : Int} {t u : Tok} {v : Value}
theorem sub_neg {value slice : PySem.Expr} {Q : Value → Shared → Prop} (N : News h₀ L s.heap news) (hm : (D, listOf vs.toArray n) ∈ news) (hx : vs[vs.length - 1]? = some v) (h : Q v s)
    (hs : subscripted slice false (.ref D) (.int (-1) u) = operate [.ref D, .int (-1) u] (getItem (.ref D) (.int (-1) u)) := by with_unfolding_all rfl) :
    wpAny (model prog w) A (subscriptTail value slice (.ref D) (.int (-1) u)) Q E s :=
  have hL : s.heap.IsList D vs.toArray := PySem.IsL.isList (n := n) (N _ hm).1
  have hlen : 1 ≤ vs.length := by have := (List.getElem?_eq_some_iff.mp hx).1; omega
  tail_any hL.typeIs slot_list_getitem.lookup (wpAny_getItem_list_neg hL (by decide) (by rw [List.size_toArray]; omega) (by decide) (by
    have e : ((-1 : Int) + (vs.toArray.size : Int)).toNat = vs.length - 1 := by rw [List.size_toArray]; omega
    rw [e]; simpa using hx) h) hs
theorem sub_strs {value slice : PySem.Expr} {ss : List Str} {Q : Value → Shared → Prop} (N : News h₀ L s.heap news) (hm : (D, listOf vs.toArray n) ∈ news) (hss : StrsAre vs ss) (h0 : 0 ≤ k) (h1 : k < ss.length) (hfit : k < 2 ^ 63) (h : ∀ t, Q (.str (ss.getD k.toNat (Str.ofString "")) t) s)
    (hs : subscripted slice false (.ref D) (.int k u) = operate [.ref D, .int k u] (getItem (.ref D) (.int k u)) := by with_unfolding_all rfl) :
    wpAny (model prog w) A (subscriptTail value slice (.ref D) (.int k u)) Q E s := by
  have hk : k.toNat < ss.length := by omega
  have e : ss[k.toNat]? = some (ss.getD k.toNat (Str.ofString "")) := by rw [List.getD_eq_getElem?_getD, List.getElem?_eq_getElem hk]; rfl
  obtain ⟨t, ht⟩ := hss.get _ _ e
  exact sub_any N hm ht h0 hfit (h t) hs
theorem iadd_list {Q : Value → Shared → Prop} (Fm : Fr h₀ L s.heap m) (N : News h₀ L s.heap news) (hb : (b, listOf ws.toArray n2) ∈ news) (hz : vs.length + ws.length ≤ sizeLine)
    (U : ∀ n', ∃ news', Upd D (listOf vs.toArray n) (listOf (vs ++ ws).toArray n') news news' ∧ ∀ h', Fr h₀ L h' m → News h₀ L h' news' → Q (.ref D) { s with heap := h' }) :
    wpAny (model prog w) A (inplaceOp .Add (.ref D) (.ref b)) Q E s := by
  obtain ⟨news', U, h⟩ := U (if (vs.toArray ++ ws.toArray).size == vs.toArray.size then n else n + 1)
  obtain ⟨pre, post, rfl, rfl, a, c⟩ := U.split
  have z := N (D, listOf vs.toArray n) (List.mem_append.mpr (.inr (.head _)))
  have zb := (N _ hb).1
  have hT : s.TypeIs (.ref D) "list" := ⟨_, z.1, rfl⟩
  have hTb : s.TypeIs (.ref b) "list" := ⟨_, zb, rfl⟩
  have hsz : vs.toArray.size + ws.toArray.size ≤ sizeLine := by rw [List.size_toArray, List.size_toArray]; exact hz
  unfold inplaceOp
  refine wpAny_holding ?_
  have hsl : seqSlot? (.type "list") (dunderI "add") = pure (some (.builtin "list.__iadd__")) := PySem.seqSlot_of (T := "list") (name := dunderI "add") (id := "list.__iadd__") PySem.F.slot_list_iadd.lookup (by decide +kernel)
  have hfi : fillsInplaceSlot (.type "list") "add" (Operator.Add == .Add) = pure false := by
    unfold fillsInplaceSlot
    show (typeLookup (.type "list") (dunderI "add") >>= fun fi => pure (fi.isSome && !isSeqSlot fi)) = pure false
    rw [PySem.F.slot_list_iadd.lookup]; rfl
  refine wpAny_bind (wpAny_typeOf hT (wpAny_bind (wpAny_of_eq hfi ?_)))
  show wpAny _ A (if false = true then _ else _) Q E s
  rw [if_neg Bool.false_ne_true]
  refine wpAny_bind (binaryOp1_none (nm := "add") hT hTb noFill_list_add ?_)
  refine wpAny_bind (wpAny_of_eq hsl ?_)
  refine wpAny_bind (wpAny_rule ?_)
  refine call_meets PySem.F.slot_list_iadd hT PySem.F.entry_list_iadd (PySem.F.args_list_iadd_2 _ _) (AutoSeq1.list___iadd___list_list_0 D vs.toArray n b ws.toArray n2 (extend_door hsz) (Nat.le_trans (Nat.le_add_right _ _) hsz)) ⟨z.1, zb, h _ (Fm.change (Heap.SameBut.update ..) z.2.1 z.2.2) (ki_turn _ N a c ?_ ?_)⟩
  · simp
  · simp
end
theorem methEq {M : Model} {A : Around} {x y : Str} {v : Value} {pl : Sem Bool} {Q : Value × List Value → Shared → Prop} {E : Value → Shared → Prop} {s : Shared} (h : x = y) (H : wpAny M A (getMethod v y pl) Q E s) : wpAny M A (getMethod v x pl) Q E s := h ▸ H
end Mine
end
section
open PySem PySem.W PyProof.Rows PySem.Calls PyProof.V PySem.Spec
namespace Mine
set_option maxRecDepth 100000
theorem runs_toks {M : Model} {Γ : PySem.Ctx} {p : Pos} {t : Sem Fin} {fs : List Frame} {s : Shared} {e : End} {s' : Shared} (h : Runs M Γ p t fs s e s') : s.toks ≤ s'.toks := by
  induction h with
  | fresh _ ih => exact Nat.le_trans (Nat.le_succ _) ih
  | call _ _ i1 i2 => exact Nat.le_trans i1 i2
  | resumeFresh _ _ _ _ i1 i2 => exact Nat.le_trans i1 i2
  | resumeSuspended _ _ _ _ i1 i2 => exact Nat.le_trans i1 i2
  | segRet _ _ i1 i2 => exact Nat.le_trans i1 i2
  | segGen _ _ i1 i2 => exact Nat.le_trans i1 i2
  | segSuspGen _ _ _ _ i1 i2 => exact Nat.le_trans i1 i2
  | _ => first | exact Nat.le_refl _ | assumption
theorem wakes_toks {M : Model} {Γ : PySem.Ctx} {p : Pos} {g : Nat} {r : Resume} {s : Shared} {res : GenResult} {s' : Shared} (h : Wakes M Γ p g r s res s') : s.toks ≤ s'.toks := by
  unfold Wakes at h
  split at h
  · cases h
  · split at h
    · obtain ⟨e, s₁, h1, _, _, rfl⟩ := h
      have q : (s.setGen g GenState.running).toks ≤ s₁.toks := runs_toks h1
      exact q
    · obtain ⟨_, rfl⟩ := h; exact Nat.le_refl _
    · obtain ⟨_, rfl⟩ := h; exact Nat.le_refl _
  · obtain ⟨e, s₁, h1, _, _, rfl⟩ := h
    have q : (s.setGen g GenState.running).toks ≤ s₁.toks := runs_toks h1
    exact q
  · obtain ⟨_, rfl⟩ := h; exact Nat.le_refl _
  · obtain ⟨_, rfl⟩ := h; exact Nat.le_refl _
theorem wp_toks {α : Type} {M : Model} {Γ : PySem.Ctx} (k₀ : Nat) (t : Sem α) : ∀ (Q : α → Pos → Shared → Prop) (E : Value → Pos → Shared → Prop) (p : Pos) (s : Shared), k₀ ≤ s.toks →
    Sem.wp M Γ t (fun a p s' => k₀ ≤ s'.toks → Q a p s') E p s → Sem.wp M Γ t Q E p s := by
  induction t with
  | pure a => exact fun Q E p s hk h => h hk
  | raise => exact fun Q E p s hk h => h
  | unsupported => exact fun Q E p s hk h => h
  | finish => exact fun Q E p s hk h => h
  | rule _ k ih => exact fun Q E p s hk h => ih _ Q E p s hk h
  | «at» p' k ih => exact fun Q E p s hk h => ih _ Q E p' s hk h
  | load a _ k ih => exact fun Q E p s hk ⟨o, ho, h⟩ => ⟨o, ho, ih _ Q E p s hk h⟩
  | update a _ f k ih => exact fun Q E p s hk ⟨ho, h⟩ => ⟨ho, ih _ Q E p { s with heap := s.heap.update a f } hk h⟩
  | loadIfAlive a k ih => exact fun Q E p s hk h => ih _ Q E p s hk h
  | point _ k ih => exact fun Q E p s hk h => ih _ Q E p s hk h
  | register => exact fun Q E p s hk h => h
  | alloc o k ih => exact fun Q E p s hk h => ih _ Q E p { s with heap := s.heap.push o } hk h
  | fresh k ih => exact fun Q E p s hk h => ih _ Q E p { s with toks := s.toks + 1 } (Nat.le_trans hk (Nat.le_succ _)) h
  | ask k ih => exact fun Q E p s hk h => ih _ Q E p s hk h
  | choose src n k ih => exact fun Q E p s hk ⟨hn, h⟩ => ⟨hn, ih _ Q E p { s with drawn := s.drawn.bump src } hk h⟩
  | os q _ k ih => exact fun Q E p s hk h => ih _ Q E p { s with os := (Os.step s.os q).1 } hk h
  | call c h _ _ k ih => exact fun Q E p s hk ⟨r, s₁, hr, h⟩ => ⟨r, s₁, hr, ih _ Q E p s₁ (Nat.le_trans hk (runs_toks hr)) h⟩
  | handled own k ih => exact fun Q E p s hk h => ih _ Q E p s hk h
  | genState g k ih => exact fun Q E p s hk ⟨st, hs, h⟩ => ⟨st, hs, ih _ Q E p s hk h⟩
  | newGen c k ih => exact fun Q E p s hk h => ih _ Q E p { s with gens := s.gens.push (.fresh c) } hk h
  | resume g r _ k ih => exact fun Q E p s hk ⟨res, s₁, hw, h⟩ => ⟨res, s₁, hw, ih _ Q E p s₁ (Nat.le_trans hk (wakes_toks hw)) h⟩
  | yield => exact fun Q E p s hk h => h
  | stack k ih => exact fun Q E p s hk h => ih _ Q E p s hk h
  | fork => exact fun Q E p s hk h => h
  | thread k ih => exact fun Q E p s hk h => ih _ Q E p s hk h
  | await => exact fun Q E p s hk h => h
/-- the tokens never fall -/
theorem toks_up {α : Type} {M : Model} {A : Around} {t : Sem α} {Q : α → Shared → Prop} {E : Value → Shared → Prop} {s : Shared} (k₀ : Nat) (hk : k₀ ≤ s.toks) (h : wpAny M A t (fun v s' => k₀ ≤ s'.toks → Q v s') E s) : wpAny M A t Q E s :=
  fun Γ p hΓ => wp_toks k₀ t _ _ p s hk (h Γ p hΓ)
end Mine
end
section
open PySem PySem.W PyProof.Rows PySem.Calls PyProof.V PySem.Spec
namespace Mine
set_option maxRecDepth 100000
section
variable {prog : Program} {w : World} {A : Around} {E : Value → Shared → Prop} {s : Shared}
/-- one step of an enumeration of a text, its tokens told -/
theorem next_sign {e it : Addr} {x : Str} {t : Tok} {i c : Nat} {old : Value} {Q : Option Value → Shared → Prop} (he : IsEnum s.heap e it i old) (hit : s.heap.IsStrIter it "str_ascii_iterator" x t i) (hx : x.cps[i]? = some c) (hne : e ≠ it)
    (hQ : ∀ h', IsEnumOut h' e it ((i : Int) + 1) (.str ⟨#[c]⟩ s.toks) s.heap.objs.size → h'.IsStrIter it "str_ascii_iterator" x t (i + 1) →
      h'.get? s.heap.objs.size = some { cls := .type "tuple", data := .seq #[.int i (s.toks + 1), .str ⟨#[c]⟩ s.toks] } →
      (∀ b o, b ≠ e → b ≠ it → s.heap.get? b = some o → h'.get? b = some o) → Q (some (.ref s.heap.objs.size)) { s with heap := h', toks := s.toks + 1 + 1 }) :
    wpAny (model prog w) A (pyNext (.ref e)) Q E s := by
  have hT : s.TypeIs (.ref e) "enumerate" := ⟨_, he, rfl⟩
  unfold pyNext
  refine wpAny_bind (wpAny_attempt (wpAny_callSpecial?_slot (name := Str.ofString "__next__") hT F.slot_enumerate_next (wpAny_call_entry F.slot_enumerate_next hT F.entry_enumerate_next ?_ (F.args_enumerate_next_1 _))))
  obtain ⟨hp, g, d, tk, os⟩ := s
  have hel : e < hp.objs.size := Heap.lt_size he
  show wpAny _ _ (field (.ref e) 2 >>= _) _ _ _
  refine wpAny_bind (wpAny_field he rfl (x := .ref it) rfl (wpAny_bind (wpAny_nextOf_ascii_item hit hx fun h₁ hit₁ hs₁ => ?_)))
  have hs₁' : Heap.SameBut it hp h₁ := hs₁
  have he₁ : IsEnum h₁ e it i old := (hs₁'.2 e hne).trans he
  show wpAny _ _ (field (.ref e) 3 >>= _) _ _ ⟨h₁, g, d, tk + 1, os⟩
  refine wpAny_bind (wpAny_field he₁ rfl (x := rawInt i) rfl ?_)
  show wpAny _ _ (field (.ref e) 4 >>= _) _ _ ⟨h₁, g, d, tk + 1, os⟩
  refine wpAny_bind (wpAny_field he₁ rfl (x := .none) rfl ?_)
  show wpAny _ _ (mkInt i >>= _) _ _ ⟨h₁, g, d, tk + 1, os⟩
  refine wpAny_bind (wpAny_mkInt ?_)
  show wpAny _ _ (setField (.ref e) 3 (rawInt ((i : Int) + 1)) >>= _) _ _ ⟨h₁, g, d, tk + 1 + 1, os⟩
  refine wpAny_bind (wpAny_setField_rec he₁ (by simp) fun h₂ he₂ hs₂ => ?_)
  have hs₂' : Heap.SameBut e h₁ h₂ := hs₂
  have he₂' : IsEnum h₂ e it ((i : Int) + 1) old := he₂
  show wpAny _ _ (setField (.ref e) 4 .none >>= _) _ _ ⟨h₂, g, d, tk + 1 + 1, os⟩
  refine wpAny_bind (wpAny_setField_rec he₂' (by simp) fun h₃ he₃ hs₃ => ?_)
  have hs₃' : Heap.SameBut e h₂ h₃ := hs₃
  have he₃' : IsEnum h₃ e it ((i : Int) + 1) old := he₃
  have hz : h₃.objs.size = hp.objs.size := by rw [hs₃'.1, hs₂'.1, hs₁'.1]
  show wpAny _ _ (newTuple [.int i (tk + 1), .str ⟨#[c]⟩ tk] >>= _) _ _ ⟨h₃, g, d, tk + 1 + 1, os⟩
  refine wpAny_bind (wpAny_newTuple ?_)
  have k4 : ∃ h₄, h₄ = h₃.push { cls := .type "tuple", data := .seq #[.int i (tk + 1), .str ⟨#[c]⟩ tk] } := ⟨_, rfl⟩
  obtain ⟨h₄, e4⟩ := k4
  have he₄ : IsEnum h₄ e it ((i : Int) + 1) old := by rw [e4]; exact Heap.get?_push_of_some _ he₃'
  have ht₄ : h₄.get? hp.objs.size = some { cls := .type "tuple", data := .seq #[.int i (tk + 1), .str ⟨#[c]⟩ tk] } := by rw [e4, ← hz]; exact Heap.get?_push_size _ rfl
  have hit₄ : h₄.IsStrIter it "str_ascii_iterator" x t (i + 1) := by
    obtain ⟨o, ho, r⟩ := hit₁
    exact ⟨o, by rw [e4]; exact Heap.get?_push_of_some _ (hs₃'.extBut it o hne.symm (hs₂'.extBut it o hne.symm ho)), r⟩
  have hk₄ : ∀ b o, b ≠ e → b ≠ it → hp.get? b = some o → h₄.get? b = some o := fun b o q1 q2 q => by
    rw [e4]; exact Heap.get?_push_of_some _ (hs₃'.extBut b o q1 (hs₂'.extBut b o q1 (hs₁'.extBut b o q2 q)))
  show wpAny _ _ (Builtin.SmallTypes.ownedTupleIsFree (.ref e) >>= _) _ _ ⟨h₃.push _, g, d, tk + 1 + 1, os⟩
  rw [hz]
  show wpAny _ _ (Builtin.SmallTypes.ownedTupleIsFree (.ref e) >>= _) _ _ ⟨h₃.push { cls := .type "tuple", data := .seq #[.int i (tk + 1), .str ⟨#[c]⟩ tk] }, g, d, tk + 1 + 1, os⟩
  rw [← e4]
  refine wpAny_bind ?_
  unfold Builtin.SmallTypes.ownedTupleIsFree
  refine wpAny_bind (wpAny_field he₄ rfl (x := .none) rfl (wpAny_pure ?_))
  simp only [if_true]
  refine wpAny_bind (wpAny_rule (wpAny_bind (wpAny_field he₄ rfl (x := old) rfl (wpAny_bind (wpAny_setField_rec he₄ (by simp) fun h₅ he₅ hs₅ => ?_)))))
  have hs₅' : Heap.SameBut e h₄ h₅ := hs₅
  have he₅' : IsEnum h₅ e it ((i : Int) + 1) (.str ⟨#[c]⟩ tk) := he₅
  show wpAny _ _ (Builtin.SmallTypes.ownedTupleHandOut (.ref e) (.ref hp.objs.size) >>= _) _ _ ⟨h₅, g, d, tk + 1 + 1, os⟩
  refine wpAny_bind ?_
  unfold Builtin.SmallTypes.ownedTupleHandOut
  refine wpAny_bind (wpAny_setField_rec he₅' (by simp) fun h₆ he₆ hs₆ => ?_)
  have hs₆' : Heap.SameBut e h₅ h₆ := hs₆
  have he₆' : IsEnumOut h₆ e it ((i : Int) + 1) (.str ⟨#[c]⟩ tk) hp.objs.size := he₆
  refine wpAny_setField_rec he₆' (by simp) fun h₇ he₇ hs₇ => ?_
  have hs₇' : Heap.SameBut e h₆ h₇ := hs₇
  have kp : ∀ b o, b ≠ e → h₄.get? b = some o → h₇.get? b = some o := fun b o q y => hs₇'.extBut b o q (hs₆'.extBut b o q (hs₅'.extBut b o q y))
  refine wpAny_bind (wpAny_letGo (wpAny_pure ⟨_, rfl, wpAny_pure (hQ h₇ he₇ ?_ (kp _ _ (Nat.ne_of_gt hel) ht₄) fun b o q1 q2 q => kp b o q1 (hk₄ b o q1 q2 q))⟩))
  obtain ⟨o, ho, r⟩ := hit₄
  exact ⟨o, kp it o hne.symm ho, r⟩
end
theorem tok0 {u v : Tok} (hu : 1 ≤ u) (hv : 1 ≤ v) : (u == 0 || v == 0) = false := Bool.or_eq_false_iff.mpr ⟨beq_eq_false_iff_ne.mpr (Nat.ne_of_gt hu), beq_eq_false_iff_ne.mpr (Nat.ne_of_gt hv)⟩
theorem is_apart {M : Model} {A : Around} {E : Value → Shared → Prop} {s : Shared} {y z : Str} {u v : Tok} {Q : Value → Shared → Prop} (hu : 1 ≤ u) (hv : 1 ≤ v) (huv : u ≠ v) (hyz : y ≠ z) (hq : Q (.bool false) s) : wpAny M A (compareOp .Is (.str y u) (.str z v)) Q E s := by
  show wpAny M A (isSame.created (y == z) u v >>= fun b => pure (.bool b)) Q E s
  unfold isSame.created
  refine wpAny_bind (wpAny_ite ?_)
  rw [if_neg (by rw [tok0 hu hv]; exact Bool.false_ne_true)]
  refine wpAny_ite ?_
  rw [if_neg (by simpa using huv)]
  refine wpAny_ite ?_
  rw [if_pos (by simp [hyz])]
  exact wpAny_pure (wpAny_pure hq)
theorem is_like {M : Model} {A : Around} {E : Value → Shared → Prop} {s : Shared} {y z : Str} {u v : Tok} {Q : Value → Shared → Prop} (hu : 1 ≤ u) (hv : 1 ≤ v) (hb : NoneBooked s.heap) (hq : ∀ b, Q (.bool b) s) : wpAny M A (compareOp .Is (.str y u) (.str z v)) Q E s := by
  show wpAny M A (isSame (.str y u) (.str z v) >>= fun b => pure (.bool b)) Q E s
  exact wpAny_bind (wpAny_isSame_str (tok0 hu hv) hb fun b => wpAny_pure (hq b))
section
variable {prog : Program} {w : World} {A : Around} {E : Value → Shared → Prop} {s : Shared} {h₀ : Heap} {env : Env} {body orelse : List Stmt} {Q : Flow → Shared → Prop}
/-- a turn that goes on -/
def SNext (h₀ : Heap) (L : Addr) (s : Shared) (all : List (Addr × Obj)) (J : (Str → Option Value) → Prop) (f : Flow) (s₃ : Shared) : Prop :=
  f = .next ∧ ∃ h' tk m', s₃ = { s with heap := h', toks := tk } ∧ Fr h₀ L h' m' ∧ News h₀ L h' all ∧ J m'
/-- a turn that finds it -/
def SHit (Q : Flow → Shared → Prop) (f : Flow) (s₃ : Shared) : Prop := ∃ v, f = .ret v ∧ Q (.ret v) s₃
theorem enum_search {elts : List Expr} {k : Nat} {pos : Pos} {x : Str} {t : Tok} {j : Nat} {m : Str → Option Value} {news : List (Addr × Obj)}
    (ha : x.cps.all (· < 128) = true) (F : Fr h₀ env.locals s.heap m) (N : News h₀ env.locals s.heap news) (hj : j < x.cps.size) (k0 : Nat) (htk : k0 ≤ s.toks)
    (J : (Str → Option Value) → Prop) (hJ : J m)
    (miss : ∀ i c u ti T p1 p2 m₁ h tk, i < j → k0 ≤ u → k0 ≤ tk → x.cps[i]? = some c → IsTup h T #[.int (i : Nat) ti, .str ⟨#[c]⟩ u] → J m₁ → Fr h₀ env.locals h m₁ → News h₀ env.locals h (p1 :: p2 :: news) →
      wpAny (model prog w) A (assign (.Tuple elts k pos) env (.ref T)) (fun _ s₂ => wpAny (model prog w) A (execs body env) (SNext h₀ env.locals s (p1 :: p2 :: news) J) E s₂) E { s with heap := h, toks := tk })
    (hit : ∀ c u ti T p1 p2 m₁ h tk, k0 ≤ u → k0 ≤ tk → x.cps[j]? = some c → IsTup h T #[.int (j : Nat) ti, .str ⟨#[c]⟩ u] → J m₁ → Fr h₀ env.locals h m₁ → News h₀ env.locals h (p1 :: p2 :: news) →
      wpAny (model prog w) A (assign (.Tuple elts k pos) env (.ref T)) (fun _ s₂ => wpAny (model prog w) A (execs body env) (SHit Q) E s₂) E { s with heap := h, toks := tk })
    (hE : PassesOwn (model prog w) A env E := by passes_own) :
    wpAny (model prog w) A (call (.type "enumerate") [.str x t]) (fun xv s₁ => wpAny (model prog w) A (pyIter xv) (fun it s₂ =>
      codeAny (model prog w) A (.forLoop (.Tuple elts k pos) it body orelse env) (fun r s' => match r with | .ok f => Q f s' | .error e => cameBackBy (model prog w) A env E e s') s₂) E s₁) E s := by
  refine call_enumerate_str fun h₁ he₁ hit₁ hsz hk => ?_
  refine wpAny_pyIter_enum he₁ ?_
  have hLs : env.locals < s.heap.objs.size := F.ns.lt
  have hit₁' : h₁.IsStrIter s.heap.objs.size "str_ascii_iterator" x t 0 := by simpa [strIterType, ha] using hit₁
  have hEI : @Ne Nat (s.heap.objs.size + 1) s.heap.objs.size := Nat.succ_ne_self _
  have nE : h₀.get? (s.heap.objs.size + 1) = none := ktu_new F (Nat.le_add_right _ _)
  have nI : h₀.get? s.heap.objs.size = none := ktu_new F (Nat.le_refl _)
  have lE : @Ne Nat (s.heap.objs.size + 1) env.locals := Nat.ne_of_gt (Nat.lt_succ_of_lt hLs)
  have lI : @Ne Nat s.heap.objs.size env.locals := Nat.ne_of_gt hLs
  have dE : ∀ p ∈ news, p.1 ≠ s.heap.objs.size + 1 := fun p hp => ktu_ne 1 (Heap.lt_size (N p hp).1)
  have dI : ∀ p ∈ news, p.1 ≠ s.heap.objs.size := fun p hp => Nat.ne_of_lt (Heap.lt_size (N p hp).1)
  refine codeAny_forLoop_any (fun n s' => ∃ i h tk m', n = x.cps.size - i ∧ i ≤ j ∧ k0 ≤ tk ∧ s' = { s with heap := h, toks := tk } ∧ (∃ old, IsEnum h (s.heap.objs.size + 1) s.heap.objs.size i old) ∧ h.IsStrIter s.heap.objs.size "str_ascii_iterator" x t i ∧ Fr h₀ env.locals h m' ∧ News h₀ env.locals h news ∧ J m') ?_ x.cps.size
    ⟨0, h₁, s.toks, m, rfl, Nat.zero_le _, htk, rfl, ⟨_, he₁⟩, hit₁', F.keeps hk, N.grown hk, hJ⟩
  rintro n s' ⟨i, h, tk, m', rfl, hi, ht1, rfl, ⟨old, he⟩, hit', F', N', hJ'⟩
  have hlt : i < x.cps.size := by omega
  have hc : x.cps[i]? = some x.cps[i] := Array.getElem?_eq_getElem hlt
  refine next_sign he hit' hc hEI fun h₂ he₂ hit₂ hT₂ hk₂ => ?_
  refine wpAny_letOwnedTupleGo_enum (s := { s with heap := h₂, toks := tk + 1 + 1 }) he₂ fun h₃ he₃ hs₃ => ?_
  have hs₃' : Heap.SameBut (s.heap.objs.size + 1) h₂ h₃ := hs₃
  have kp : ∀ b o, b ≠ s.heap.objs.size + 1 → b ≠ s.heap.objs.size → h.get? b = some o → h₃.get? b = some o := fun b o q1 q2 q => hs₃'.extBut b o q1 (hk₂ b o q1 q2 q)
  have F₃ : Fr h₀ env.locals h₃ m' := ⟨F'.ns.at' fun o e => kp _ o lE.symm lI.symm e, fun b o e => kp b o (fun q => by rw [q, nE] at e; cases e) (fun q => by rw [q, nI] at e; cases e) (F'.keep b o e), F'.above⟩
  obtain ⟨oi, hoi, hic⟩ := hit₂
  have hoi₃ : h₃.get? s.heap.objs.size = some oi := hs₃'.extBut _ oi hEI.symm hoi
  have hsE : s.heap.objs.size + 1 < h.objs.size := Heap.lt_size he
  have hT₃ : h₃.get? h.objs.size = some _ := hs₃'.extBut _ _ (Nat.ne_of_gt hsE) hT₂
  have N₃ : News h₀ env.locals h₃ ((s.heap.objs.size + 1, _) :: (s.heap.objs.size, oi) :: news) := fun p hp => by
    rcases List.mem_cons.mp hp with rfl | hp
    · exact ⟨he₃, lE, nE⟩
    · rcases List.mem_cons.mp hp with rfl | hp
      · exact ⟨hoi₃, lI, nI⟩
      · exact ⟨kp _ _ (dE p hp) (dI p hp) (N' p hp).1, (N' p hp).2⟩
  by_cases hij : i < j
  · refine toks_up k0 (by show k0 ≤ tk + 1 + 1; omega) ?_
    refine wpAny_mono (miss i x.cps[i] tk (tk + 1) h.objs.size _ _ m' h₃ (tk + 1 + 1) hij ht1 (by omega) hc ⟨_, hT₃, rfl, _, rfl⟩ hJ' F₃ N₃) (fun _ s₂ q h1 => toks_up k0 h1 (wpAny_mono (wpAny_passesOwn hE q) (fun f s₃ h3 h2 => ?_) fun _ _ q => q)) hE
    obtain ⟨rfl, h₄, tk₄, m₄, rfl, F₄, N₄, hJ₄⟩ := h3
    refine ⟨x.cps.size - (i + 1), by omega, i + 1, h₄, tk₄, m₄, rfl, hij, h2, rfl, ⟨_, (N₄ _ (List.mem_cons_self ..)).1⟩, ⟨oi, (N₄ _ (List.mem_cons_of_mem _ (List.mem_cons_self ..))).1, hic⟩, F₄, fun p hp => N₄ p (List.mem_cons_of_mem _ (List.mem_cons_of_mem _ hp)), hJ₄⟩
  · have e : i = j := by omega
    subst e
    refine wpAny_mono (hit x.cps[i] tk (tk + 1) h.objs.size _ _ m' h₃ (tk + 1 + 1) ht1 (by omega) hc ⟨_, hT₃, rfl, _, rfl⟩ hJ' F₃ N₃) (fun _ s₂ q => wpAny_mono (wpAny_passesOwn hE q) (fun f s₃ h3 => ?_) fun _ _ q => q) hE
    obtain ⟨v', rfl, hq⟩ := h3
    exact hq
end
end Mine
end
section
open PySem PySem.W PyProof.Rows PySem.Calls PyProof.V PySem.Spec
namespace Mine
set_option maxRecDepth 100000
theorem slice_take (l : List Nat) {k : Int} (h : 0 ≤ k) : Txt.slice ⟨l.toArray⟩ none (some k) = ⟨(l.take k.toNat).toArray⟩ := by
  have e : (⟨l.toArray⟩ : Str).length = l.length := by simp [Str.length]
  rw [eq_of_beq (slice_to_min_closes (x := ⟨l.toArray⟩) (n := k) h rfl), e]
  apply congrArg (fun a : List Nat => (⟨a.toArray⟩ : Str))
  show List.take _ (List.drop 0 l) = _
  rw [List.drop_zero]
  split
  · rw [List.take_of_length_le (by omega), List.take_of_length_le (by omega)]
  · rw [Int.sub_zero]
theorem slice_drop (l : List Nat) {k : Int} (h : 0 ≤ k) (h2 : k ≤ l.length) : Txt.slice ⟨l.toArray⟩ (some k) none = ⟨(l.drop k.toNat).toArray⟩ := by
  rw [eq_of_beq (slice_closes_from (x := ⟨l.toArray⟩) (i := k) ⟨h, by simpa using h2⟩), List.take_of_length_le (by simp; omega)]
theorem item_at {l : List Nat} {k : Int} {c : Nat} (h : 0 ≤ k) (hc : l[k.toNat]? = some c) : Txt.item ⟨l.toArray⟩ k = ⟨#[c]⟩ := by
  have hl := (List.getElem?_eq_some_iff.mp hc).1
  have e : (⟨l.toArray⟩ : Str).length = l.length := by simp [Str.length]
  unfold Txt.item Txt.charAt seqIndex?
  rw [e]
  have h1 : ¬ k < 0 := by omega
  have h2 : (0 ≤ k && k < l.length) = true := by simp; omega
  simp only [h1, if_false, h2, if_true, Option.bind_some]
  have : l.toArray[k.toNat]? = some c := by simpa using hc
  rw [this]; rfl
section
variable {prog : Program} {w : World} {A : Around} {E : Value → Shared → Prop} {s : Shared} {l : List Nat} {t u : Tok}
theorem sub_sign {value slice : PySem.Expr} {k : Int} {c : Nat} {Q : Value → Shared → Prop} (h0 : 0 ≤ k) (hc : l[k.toNat]? = some c) (hf : k < 2 ^ 63) (h : Q (.str ⟨#[c]⟩ s.toks) { s with toks := s.toks + 1 })
    (hs : subscripted slice false (.str ⟨l.toArray⟩ t) (.int k u) = operate [.str ⟨l.toArray⟩ t, .int k u] (getItem (.str ⟨l.toArray⟩ t) (.int k u)) := by with_unfolding_all rfl)
    (ht : ∀ r, letTemporaryGo value (.str ⟨l.toArray⟩ t) r = pure () := by intro _; with_unfolding_all rfl) :
    wpAny (model prog w) A (subscriptTail value slice (.str ⟨l.toArray⟩ t) (.int k u)) Q E s := by
  have hl := (List.getElem?_eq_some_iff.mp hc).1
  have e : (⟨l.toArray⟩ : Str).length = l.length := by simp [Str.length]
  refine item_str ?_ (by rw [e]; omega) (by rw [e]; omega) (fun _ => by rw [item_at h0 hc]; exact h) hs ht
  unfold fitsSsize
  simp; omega
end
end Mine
namespace Mine
open PySem PySem.W PyProof.Rows PySem.Calls PyProof.V PySem.Spec
theorem execs_app (a b : List Stmt) (env : Env) : execs (a ++ b) env = (do match ← execs a env with | .next => execs b env | f => pure f) := by
  induction a with
  | nil => rfl
  | cons st r ih =>
    show (do match ← exec st env with | .next => execs (r ++ b) env | f => pure f) = (do match ← (do match ← exec st env with | .next => execs r env | f => pure f) with | .next => execs b env | f => pure f)
    rw [bind_assoc]
    congr 1
    funext f
    cases f <;> first | exact ih | rfl
theorem cut {M : Model} {A : Around} {E : Value → Shared → Prop} {s : Shared} {Q : Flow → Shared → Prop} {a b : List Stmt} {env : Env} (P : Shared → Prop) (h1 : wpAny M A (execs a env) (fun f s' => f = .next ∧ P s') E s) (h2 : ∀ s', P s' → wpAny M A (execs b env) Q E s') : wpAny M A (execs (a ++ b) env) Q E s := by
  rw [execs_app]
  refine wpAny_bind (wpAny_mono h1 (fun f s' h => ?_) fun _ _ e => e)
  obtain ⟨rfl, hp⟩ := h
  exact h2 s' hp
end Mine
namespace Mine
open PySem PySem.W PyProof.Rows PySem.Calls PyProof.V PySem.Spec
/-- the while rule with its two ends hidden -/
theorem While_inv3 {prog : Program} {w : World} {A : Around} {E : Value → Shared → Prop} {Q : Flow → Shared → Prop} {s : Shared} {env : Env} {h₀ : Heap} {L : Addr} {test : Expr} {body : List Stmt} {pos : Pos} {m : Str → Option Value} {news : List (Addr × Obj)} (J : Nat → (Str → Option Value) → List (Addr × Obj) → Prop) {n₀ : Nat}
    (F : Fr h₀ L s.heap m) (N : News h₀ L s.heap news) (hJ : J n₀ m news)
    (turn : ∀ n m₁ news₁, J n m₁ news₁ → ∀ h₁ tk₁ (QT : Flow → Shared → Prop) (QF : Shared → Prop),
      (∀ h' tk m₂ news₂ n', Fr h₀ L h' m₂ → News h₀ L h' news₂ → n' < n → J n' m₂ news₂ → QT .next { s with heap := h', toks := tk }) → (∀ s', Q .next s' → QF s') → Fr h₀ L h₁ m₁ → News h₀ L h₁ news₁ →
      wpAny (model prog w) A (isTrue test env (eval test env)) (fun b s₂ => if b = true then wpAny (model prog w) A (execs body env) QT E s₂ else QF s₂) E { s with heap := h₁, toks := tk₁ })
    (hE : PassesOwn (model prog w) A env E := by passes_own) :
    wpAny (model prog w) A (exec (.While test body [] pos) env) Q E s :=
  While_inv2 J F N hJ (fun n m₁ news₁ h₁ tk₁ F₁ N₁ j => turn n m₁ news₁ j h₁ tk₁ (WhileStep2 h₀ L s J Q n) (fun s' => Q .next s') (fun h' tk m₂ news₂ n' F' N' hn hj => ⟨h', tk, m₂, news₂, n', rfl, F', N', hn, hj⟩) (fun _ h => h) F₁ N₁) hE
end Mine
end
section
open PySem PySem.W PyProof.Rows
namespace Mine
set_option maxRecDepth 100000
set_option maxHeartbeats 8000000

/-- what a call of the text's def `f` with arguments `vs` does, from any frame -/
structure Spec (w : World) (mean : ExcName → Option Value) (mg mb : Str → Option Value) (f : Addr) (vs : List Value) (news : List (Addr × Obj)) (dn : Nat)
    (post : Value → List (Addr × Obj) → Prop) : Prop where
  run : ∀ (dp un : Nat) (gd : Option (List Code)) (cn : Str) (cs : Scope) (a : Addr) (ccd : Value) (cl : List (Str × Addr)) (outer : List Env) (A₀ : Around) (base h₀ : Heap) (L : Addr) (m : Str → Option Value) (s : Shared) (Q E : Value → Shared → Prop),
    Below A₀ base outer h₀ → Fr h₀ L s.heap m → (Mine.hz.heap_216 w.params).In h₀ → News h₀ L s.heap news →
    Top Mine.hz.view_396 (looseW Mine.hz.view_396 [Str.ofString "EXACT_TOKEN_TYPES"]) mean mg mb h₀ → cs.kind = .function →
    dp + dn < recursionLimit → un + 8 * dn < cLine →
    (∀ (v : Value) (news' : List (Addr × Obj)) (h' : Heap) (tk' : Nat), Fr h₀ L h' m → News h₀ L h' news' → post v news' → Q v { s with heap := h', toks := tk' }) →
    wpAny (model Mine.pw2 w) (ktrTop dp un gd cn cs L a ccd cl outer) (call (.ref f) vs) Q E s
theorem Spec.use {w : World} {mean : ExcName → Option Value} {mg mb : Str → Option Value} {f : Addr} {vs : List Value} {news : List (Addr × Obj)} {dn : Nat} {post : Value → List (Addr × Obj) → Prop}
    (C : Spec w mean mg mb f vs news dn post) {dp un : Nat} {gd : Option (List Code)} {cn : Str} {cs : Scope} {a : Addr} {ccd : Value} {cl : List (Str × Addr)} {outer : List Env} {A₀ : Around} {base h₀ : Heap} {L : Addr} {m : Str → Option Value} {s : Shared} {Q E : Value → Shared → Prop}
    (B : Below A₀ base outer h₀) (F : Fr h₀ L s.heap m) (X : (Mine.hz.heap_216 w.params).In h₀) (N : News h₀ L s.heap news)
    (T : Top Mine.hz.view_396 (looseW Mine.hz.view_396 [Str.ofString "EXACT_TOKEN_TYPES"]) mean mg mb h₀) (hk : cs.kind = .function)
    (hd : dp + dn < recursionLimit) (hu : un + 8 * dn < cLine)
    (ret : ∀ (v : Value) (news' : List (Addr × Obj)) (h' : Heap) (tk' : Nat), Fr h₀ L h' m → News h₀ L h' news' → post v news' → Q v { s with heap := h', toks := tk' }) :
    wpAny (model Mine.pw2 w) (ktrTop dp un gd cn cs L a ccd cl outer) (call (.ref f) vs) Q E s 
  := C.run _ _ _ _ _ _ _ _ _ _ _ _ _ _ _ _ _ B F X N T hk hd hu ret
theorem Spec.useT {w : World} {mean : ExcName → Option Value} {mg mb : Str → Option Value} {f : Addr} {vs : List Value} {news new2 : List (Addr × Obj)} {dn : Nat} {r : Tok → Value}
    (C : Spec w mean mg mb f vs news dn (fun v n' => ∃ t : Tok, v = r t ∧ n' = new2)) {dp un : Nat} {gd : Option (List Code)} {cn : Str} {cs : Scope} {a : Addr} {ccd : Value} {cl : List (Str × Addr)} {outer : List Env} {A₀ : Around} {base h₀ : Heap} {L : Addr} {m : Str → Option Value} {s : Shared} {Q E : Value → Shared → Prop}
    (B : Below A₀ base outer h₀) (F : Fr h₀ L s.heap m) (X : (Mine.hz.heap_216 w.params).In h₀) (N : News h₀ L s.heap news)
    (T : Top Mine.hz.view_396 (looseW Mine.hz.view_396 [Str.ofString "EXACT_TOKEN_TYPES"]) mean mg mb h₀) (hk : cs.kind = .function)
    (hd : dp + dn < recursionLimit) (hu : un + 8 * dn < cLine)
    (ret : ∀ (t : Tok) (h' : Heap) (tk' : Nat), Fr h₀ L h' m → News h₀ L h' new2 → Q (r t) { s with heap := h', toks := tk' }) :
    wpAny (model Mine.pw2 w) (ktrTop dp un gd cn cs L a ccd cl outer) (call (.ref f) vs) Q E s :=
  C.run _ _ _ _ _ _ _ _ _ _ _ _ _ _ _ _ _ B F X N T hk hd hu fun v n' h' tk' F' N' ⟨t, e, e'⟩ => e ▸ ret t h' tk' F' (e' ▸ N')
theorem nameEq {M : Model} {A : Around} {x y : Str} {pos : Pos} {env : Env} {Q E : Value → Shared → Prop} {s : Shared} (h : x = y) (H : wpAny M A (eval (.Name y pos) env) Q E s) : wpAny M A (eval (.Name x pos) env) Q E s := h ▸ H
end Mine
end
section
open PySem PySem.W PyProof.Rows
namespace Mine
set_option maxRecDepth 100000
set_option maxHeartbeats 8000000
section
variable (w : World) (mean : ExcName → Option Value) (mg mb : Str → Option Value)
theorem c_lt (a : Int) (ta : Tok) (b : Int) (tb : Tok) (news : List (Addr × Obj)) : Spec w mean mg mb 21 [.int a ta, .int b tb] news 1 (fun v n' => ∃ _ : Tok, v = .bool (decide (a < b)) ∧ n' = news) := by
  w_top off
  refine ⟨?_⟩
  intro dp un gd cn cs a9 ccd cl outer A₀ base h₀ L m s Q E B F X N T hk hd hu hret
  refine wpAny_call ?_
  k_dflt cell_enter
  refine letA (P := fun A => wpAny _ A _ _ _ _) ?_
  intro A9
  k_steps
  all_goals refine hret _ _ _ _ (by k_asm) (by k_asm) ?_
  all_goals exact ⟨0, rfl, rfl⟩
theorem c_le (a : Int) (ta : Tok) (b : Int) (tb : Tok) (news : List (Addr × Obj)) : Spec w mean mg mb 28 [.int a ta, .int b tb] news 1 (fun v n' => ∃ _ : Tok, v = .bool (decide (a ≤ b)) ∧ n' = news) := by
  w_top off
  refine ⟨?_⟩
  intro dp un gd cn cs a9 ccd cl outer A₀ base h₀ L m s Q E B F X N T hk hd hu hret
  refine wpAny_call ?_
  k_dflt cell_enter
  refine letA (P := fun A => wpAny _ A _ _ _ _) ?_
  intro A9
  k_steps
  all_goals refine hret _ _ _ _ (by k_asm) (by k_asm) ?_
  all_goals exact ⟨0, rfl, rfl⟩
theorem c_eq (a : Int) (ta : Tok) (b : Int) (tb : Tok) (news : List (Addr × Obj)) : Spec w mean mg mb 35 [.int a ta, .int b tb] news 1 (fun v n' => ∃ _ : Tok, v = .bool (decide (a = b)) ∧ n' = news) := by
  w_top off
  refine ⟨?_⟩
  intro dp un gd cn cs a9 ccd cl outer A₀ base h₀ L m s Q E B F X N T hk hd hu hret
  refine wpAny_call ?_
  k_dflt cell_enter
  refine letA (P := fun A => wpAny _ A _ _ _ _) ?_
  intro A9
  k_steps
  all_goals refine hret _ _ _ _ (by k_asm) (by k_asm) ?_
  all_goals exact ⟨0, rfl, rfl⟩
theorem c_ge (a : Int) (ta : Tok) (b : Int) (tb : Tok) (news : List (Addr × Obj)) : Spec w mean mg mb 42 [.int a ta, .int b tb] news 1 (fun v n' => ∃ _ : Tok, v = .bool (decide (b ≤ a)) ∧ n' = news) := by
  w_top off
  refine ⟨?_⟩
  intro dp un gd cn cs a9 ccd cl outer A₀ base h₀ L m s Q E B F X N T hk hd hu hret
  refine wpAny_call ?_
  k_dflt cell_enter
  refine letA (P := fun A => wpAny _ A _ _ _ _) ?_
  intro A9
  k_steps
  all_goals refine hret _ _ _ _ (by k_asm) (by k_asm) ?_
  all_goals exact ⟨0, rfl, rfl⟩
theorem c_gt (a : Int) (ta : Tok) (b : Int) (tb : Tok) (news : List (Addr × Obj)) : Spec w mean mg mb 49 [.int a ta, .int b tb] news 1 (fun v n' => ∃ _ : Tok, v = .bool (decide (b < a)) ∧ n' = news) := by
  w_top off
  refine ⟨?_⟩
  intro dp un gd cn cs a9 ccd cl outer A₀ base h₀ L m s Q E B F X N T hk hd hu hret
  refine wpAny_call ?_
  k_dflt cell_enter
  refine letA (P := fun A => wpAny _ A _ _ _ _) ?_
  intro A9
  k_steps
  all_goals refine hret _ _ _ _ (by k_asm) (by k_asm) ?_
  all_goals exact ⟨0, rfl, rfl⟩
theorem c_add (a : Int) (ta : Tok) (b : Int) (tb : Tok) (news : List (Addr × Obj)) : Spec w mean mg mb 56 [.int a ta, .int b tb] news 1 (fun v n' => ∃ t : Tok, v = .int (a + b) t ∧ n' = news) := by
  w_top off
  refine ⟨?_⟩
  intro dp un gd cn cs a9 ccd cl outer A₀ base h₀ L m s Q E B F X N T hk hd hu hret
  refine wpAny_call ?_
  k_dflt cell_enter
  refine letA (P := fun A => wpAny _ A _ _ _ _) ?_
  intro A9
  k_steps
  all_goals refine hret _ _ _ _ (by k_asm) (by k_asm) ?_
  all_goals exact ⟨_, rfl, rfl⟩
theorem c_inv (a : Int) (ta : Tok) (news : List (Addr × Obj)) : Spec w mean mg mb 63 [.int a ta] news 1 (fun v n' => ∃ t : Tok, v = .int (-a - 1) t ∧ n' = news) := by
  w_top off
  refine ⟨?_⟩
  intro dp un gd cn cs a9 ccd cl outer A₀ base h₀ L m s Q E B F X N T hk hd hu hret
  refine wpAny_call ?_
  k_dflt cell_enter
  refine letA (P := fun A => wpAny _ A _ _ _ _) ?_
  intro A9
  k_steps
  all_goals refine hret _ _ _ _ (by k_asm) (by k_asm) ?_
  all_goals exact ⟨_, rfl, rfl⟩
theorem c_neg (a : Int) (ta : Tok) (news : List (Addr × Obj)) : Spec w mean mg mb 70 [.int a ta] news 1 (fun v n' => ∃ t : Tok, v = .int (-a) t ∧ n' = news) := by
  w_top off
  refine ⟨?_⟩
  intro dp un gd cn cs a9 ccd cl outer A₀ base h₀ L m s Q E B F X N T hk hd hu hret
  refine wpAny_call ?_
  k_dflt cell_enter
  refine letA (P := fun A => wpAny _ A _ _ _ _) ?_
  intro A9
  k_steps
  all_goals refine hret _ _ _ _ (by k_asm) (by k_asm) ?_
  all_goals exact ⟨_, rfl, rfl⟩
theorem c_sub (a : Int) (ta : Tok) (b : Int) (tb : Tok) (news : List (Addr × Obj)) : Spec w mean mg mb 77 [.int a ta, .int b tb] news 1 (fun v n' => ∃ t : Tok, v = .int (a - b) t ∧ n' = news) := by
  w_top off
  refine ⟨?_⟩
  intro dp un gd cn cs a9 ccd cl outer A₀ base h₀ L m s Q E B F X N T hk hd hu hret
  refine wpAny_call ?_
  k_dflt cell_enter
  refine letA (P := fun A => wpAny _ A _ _ _ _) ?_
  intro A9
  k_steps
  all_goals refine hret _ _ _ _ (by k_asm) (by k_asm) ?_
  all_goals exact ⟨_, rfl, rfl⟩
theorem c_isnt (a : Int) (ta : Tok) (news : List (Addr × Obj)) : Spec w mean mg mb 115 [.int a ta] news 1 (fun v n' => ∃ _ : Tok, v = .bool (decide (256 ≤ a)) ∧ n' = news) := by
  w_top off
  refine ⟨?_⟩
  intro dp un gd cn cs a9 ccd cl outer A₀ base h₀ L m s Q E B F X N T hk hd hu hret
  refine wpAny_call ?_
  k_dflt cell_enter
  refine letA (P := fun A => wpAny _ A _ _ _ _) ?_
  intro A9
  k_steps
  all_goals refine hret _ _ _ _ (by k_asm) (by k_asm) ?_
  all_goals exact ⟨0, rfl, rfl⟩

inductive PrimOf : Nat → List Value → (Tok → Value) → Prop
  | lt (a b : Int) (t u : Tok) : PrimOf 21 [.int a t, .int b u] fun _ => .bool (decide (a < b))
  | le (a b : Int) (t u : Tok) : PrimOf 28 [.int a t, .int b u] fun _ => .bool (decide (a ≤ b))
  | eq (a b : Int) (t u : Tok) : PrimOf 35 [.int a t, .int b u] fun _ => .bool (decide (a = b))
  | ge (a b : Int) (t u : Tok) : PrimOf 42 [.int a t, .int b u] fun _ => .bool (decide (b ≤ a))
  | gt (a b : Int) (t u : Tok) : PrimOf 49 [.int a t, .int b u] fun _ => .bool (decide (b < a))
  | add (a b : Int) (t u : Tok) : PrimOf 56 [.int a t, .int b u] fun t => .int (a + b) t
  | sub (a b : Int) (t u : Tok) : PrimOf 77 [.int a t, .int b u] fun t => .int (a - b) t
  | inv (a : Int) (t : Tok) : PrimOf 63 [.int a t] fun t => .int (-a - 1) t
  | neg (a : Int) (t : Tok) : PrimOf 70 [.int a t] fun t => .int (-a) t
  | isnt (a : Int) (t : Tok) : PrimOf 115 [.int a t] fun _ => .bool (decide (256 ≤ a))
theorem c_prim (f : Nat) (vs : List Value) (r : Tok → Value) (e : PrimOf f vs r) (news : List (Addr × Obj)) : Spec w mean mg mb f vs news 1 (fun v n' => ∃ t : Tok, v = r t ∧ n' = news) := by
  cases e
  · exact c_lt ..
  · exact c_le ..
  · exact c_eq ..
  · exact c_ge ..
  · exact c_gt ..
  · exact c_add ..
  · exact c_sub ..
  · exact c_inv ..
  · exact c_neg ..
  · exact c_isnt ..
end
end Mine
end
section
open PySem PySem.W PyProof.Rows
namespace Mine
set_option maxRecDepth 100000
set_option maxHeartbeats 8000000
section
variable (w : World) (mean : ExcName → Option Value) (mg mb : Str → Option Value)

def holdsF (kind apart bound : Int) : Bool := if kind = 20 then decide (apart < bound) else if kind = 21 then decide (bound < apart) else if kind = 27 then decide (apart = bound) else if kind = 29 then decide (apart ≤ bound) else decide (bound ≤ apart)
theorem c_holds (k a b : Int) (tk ta tb : Tok) (news : List (Addr × Obj)) : Spec w mean mg mb 134 [.int k tk, .int a ta, .int b tb] news 2 (fun v n' => ∃ _ : Tok, v = .bool (holdsF k a b) ∧ n' = news) := by
  w_top off
  refine ⟨?_⟩
  intro dp un gd cn cs a9 ccd cl outer A₀ base h₀ L m s Q E B F X N T hk hd hu hret
  refine wpAny_call ?_
  k_dflt cell_enter
  refine letA (P := fun A => wpAny _ A _ _ _ _) ?_
  intro A9
  repeat' (first | ((with_reducible show wpAny _ _ (call (Value.ref _) _) _ _ _); k_dflt (refine' Spec.useT (c_prim _ _ _ _ _ _ _ ?kr _) ?k1 ?k2 ?k3 ?k4 ?k5 ?kK ?kd ?ku ?_; (case k1 => k_asm); (case k2 => k_asm); (case k3 => k_asm); (case k4 => k_asm); (case k5 => k_asm); (case kr => first | exact PrimOf.lt _ _ _ _  | exact PrimOf.le _ _ _ _  | exact PrimOf.eq _ _ _ _  | exact PrimOf.ge _ _ _ _  | exact PrimOf.gt _ _ _ _  | exact PrimOf.add _ _ _ _  | exact PrimOf.sub _ _ _ _  | exact PrimOf.inv _ _  | exact PrimOf.neg _ _  | exact PrimOf.isnt _ _ ); (case kK => first | exact rfl | assumption); (case kd => ktr_room); (case ku => ktr_units); (intro t9 h9 tk9 F9 N9; (try dsimp only); (try k_sweep); (try k_fold)))) | (k_unfold; (try dsimp only)) | (k_end; kc_close) | walk1 | (dsimp only; walk1) | (leave1; walk_say "STEP leave1"; (try dsimp only)) | fail "no step")
  all_goals refine hret _ _ _ _ (by k_asm) (by k_asm) ?_
  all_goals (unfold holdsF; refine ⟨0, ?_, rfl⟩; simp [*])
end
end Mine
end
section
open PySem PySem.W PyProof.Rows
namespace Mine
set_option maxRecDepth 100000
set_option maxHeartbeats 8000000
section
variable (w : World) (mean : ExcName → Option Value) (mg mb : Str → Option Value)

def oneOf (c : Int) : Int := (c.fdiv 5).fmod 4
def twoOf (c : Int) : Int := (oneOf c + 1 + (c.fdiv 20).fmod 3).fmod 4
def kindOf (c : Int) : Int := c.fmod 5
def boundOf (c : Int) : Int := (c.fdiv 60).fmod 41 - 20
abbrev tup (vs : List Value) : Obj := { cls := .type "tuple", data := .seq vs.toArray }
theorem c_draw (c : Int) (tc : Tok) (news : List (Addr × Obj)) : Spec w mean mg mb 148 [.int c tc] news 1 (fun v n' => ∃ a t1 t2 t3 t4, v = .ref a ∧ (∀ p ∈ news, p.1 < a) ∧ n' = (a, tup [.int (oneOf c) t1, .int (twoOf c) t2, .int (kindOf c) t3, .int (boundOf c) t4]) :: news) := by
  w_top off
  refine ⟨?_⟩
  intro dp un gd cn cs a9 ccd cl outer A₀ base h₀ L m s Q E B F X N T hk hd hu hret
  refine wpAny_call ?_
  k_dflt cell_enter
  refine letA (P := fun A => wpAny _ A _ _ _ _) ?_
  intro A9
  k_steps
  all_goals refine hret _ _ _ _ (by k_asm) (by k_asm) ?_
  exact ⟨_, _, _, _, _, rfl, by assumption, rfl⟩
end
end Mine
end
section
open PySem PySem.W PyProof.Rows
namespace Mine
set_option maxRecDepth 100000
set_option maxHeartbeats 8000000
section
variable (w : World) (mean : ExcName → Option Value) (mg mb : Str → Option Value)

theorem c_getint (N' : Addr) (us : List Value) (n : Nat) (x : List Int) (hx : IntsAre us x) (i : Int) (ti : Tok) (h0 : 0 ≤ i) (h1 : i < x.length) (hl : x.length < 100) (news : List (Addr × Obj)) (hm : (N', listOf us.toArray n) ∈ news) :
    Spec w mean mg mb 91 [.ref N', .int i ti] news 1 (fun v n' => ∃ t : Tok, v = .int (x.getD i.toNat 0) t ∧ n' = news) := by
  w_top off
  refine ⟨?_⟩
  intro dp un gd cn cs a9 ccd cl outer A₀ base h₀ L m s Q E B F X N T hk hd hu hret
  refine wpAny_call ?_
  k_dflt cell_enter
  refine letA (P := fun A => wpAny _ A _ _ _ _) ?_
  intro A9
  k_steps
  all_goals refine hret _ _ _ _ (by k_asm) (by k_asm) ?_
  exact ⟨_, rfl, rfl⟩
theorem c_setint (N' : Addr) (us : List Value) (n : Nat) (x : List Int) (hx : IntsAre us x) (i : Int) (ti : Tok) (v : Int) (tv : Tok) (h0 : 0 ≤ i) (h1 : i < x.length) (hl : x.length < 100) (news news' : List (Addr × Obj)) (U : Upd N' (listOf us.toArray n) (listOf (us.set i.toNat (.int v tv)).toArray n) news news') :
    Spec w mean mg mb 105 [.ref N', .int i ti, .int v tv] news 1 (fun y n' => ∃ _ : Tok, y = .none ∧ n' = news') := by
  w_top off
  refine ⟨?_⟩
  intro dp un gd cn cs a9 ccd cl outer A₀ base h₀ L m s Q E B F X N T hk hd hu hret
  refine wpAny_call ?_
  k_dflt cell_enter
  refine letA (P := fun A => wpAny _ A _ _ _ _) ?_
  intro A9
  k_steps
  all_goals refine hret _ _ _ _ (by k_asm) (by k_asm) ?_
  exact ⟨0, rfl, rfl⟩
end
end Mine
end
section
open PySem PySem.W PyProof.Rows
namespace Mine
set_option maxRecDepth 100000
set_option maxHeartbeats 8000000
section
variable (w : World) (mean : ExcName → Option Value) (mg mb : Str → Option Value)
def DrawAt (news : List (Addr × Obj)) (v : Value) (d : Int × Int × Int × Int) : Prop :=
  ∃ a t1 t2 t3 t4 n, v = .ref a ∧ (a, ({ cls := .type "tuple", data := .seq [.int d.1 t1, .int d.2.1 t2, .int d.2.2.1 t3, .int d.2.2.2 t4].toArray n } : Obj)) ∈ news
def DrawsAt (news : List (Addr × Obj)) (S : Addr) (ds : List (Int × Int × Int × Int)) : Prop :=
  ∃ (vs : List Value) (n : Nat), (S, listOf vs.toArray n) ∈ news ∧ vs.length = ds.length ∧ ∀ (i : Nat) (v : Value), vs[i]? = some v → ∃ d, ds[i]? = some d ∧ DrawAt news v d
def mendX (x : List Int) (d : Int × Int × Int × Int) : List Int :=
  let apart := x.getD d.1.toNat 0 - x.getD d.2.1.toNat 0
  if holdsF d.2.2.1 apart d.2.2.2 = true then x else
    let less : Int := if d.2.2.1 = 20 ∨ d.2.2.1 = 21 then 1 else 0
    if d.2.2.1 = 20 ∨ d.2.2.2 < apart then x.set d.1.toNat (x.getD d.2.1.toNat 0 + d.2.2.2 - less) else x.set d.2.1.toNat (x.getD d.1.toNat 0 - d.2.2.2 - less)
def mendB (x : List Int) (d : Int × Int × Int × Int) : Int :=
  if holdsF d.2.2.1 (x.getD d.1.toNat 0 - x.getD d.2.1.toNat 0) d.2.2.2 = true then 0 else 1
def mendAll : List (Int × Int × Int × Int) → List Int × Int → List Int × Int
  | [], p => p
  | d :: ds, p => mendAll ds (mendX p.1 d, p.2 + mendB p.1 d)
theorem mendAll_snoc (ds : List (Int × Int × Int × Int)) (d : Int × Int × Int × Int) : ∀ p, mendAll (ds ++ [d]) p = (mendX (mendAll ds p).1 d, (mendAll ds p).2 + mendB (mendAll ds p).1 d) := by
  induction ds with
  | nil => intro p; rfl
  | cons e r ih => intro p; exact ih _
theorem mendX_len (x : List Int) (d : Int × Int × Int × Int) : (mendX x d).length = x.length := by
  unfold mendX
  dsimp only
  split
  · rfl
  · split <;> simp
theorem mendAll_len (ds : List (Int × Int × Int × Int)) : ∀ p, (mendAll ds p).1.length = p.1.length := by
  induction ds with
  | nil => intro p; rfl
  | cons e r ih => intro p; exact (ih _).trans (mendX_len ..)
def form3 (x1 : Str) (v1 : Value) (x2 : Str) (v2 : Value) (x3 : Str) (v3 : Value) (u : Str → Option Value) : Str → Option Value := fun y => if y = x1 then some v1 else if y = x2 then some v2 else if y = x3 then some v3 else u y
theorem form3_of {x1 x2 x3 : Str} {v1 v2 v3 : Value} {m : Str → Option Value} (h1 : m x1 = some v1) (h2 : m x2 = some v2) (h3 : m x3 = some v3) : m = form3 x1 v1 x2 v2 x3 v3 m := by
  funext y
  unfold form3
  split
  · rename_i e; rw [e, h1]
  · split
    · rename_i e; rw [e, h2]
    · split
      · rename_i e; rw [e, h3]
      · rfl

theorem off_head {I N' : Addr} {o o' : Obj} {rest : List (Addr × Obj)} (h : N' < I) (hI : ∀ p ∈ (N', o) :: rest, p.1 ≠ I) : ∀ p ∈ (N', o') :: rest, p.1 ≠ I := fun p hp => by
  rcases List.mem_cons.mp hp with rfl | hp
  · exact Nat.ne_of_lt h
  · exact hI p (List.mem_cons_of_mem _ hp)
theorem ints_eq {us : List Value} {x x' : List Int} (h : IntsAre us x) (e : x = x') : IntsAre us x' := e ▸ h
theorem int_eq {m : Str → Option Value} {z : Str} {b b' : Int} {t : Tok} (h : m z = some (.int b t)) (e : b = b') : m z = some (.int b' t) := e ▸ h
section
variable {y : List Int} {o tw kd bd b : Int}
theorem mX_keep (q : (holdsF kd (y.getD o.toNat 0 - y.getD tw.toNat 0) bd == true) = true) : y = mendX y (o, tw, kd, bd) := by
  have q' := beq_iff_eq.mp q
  unfold mendX; dsimp only; rw [if_pos q']
theorem mB_keep (q : (holdsF kd (y.getD o.toNat 0 - y.getD tw.toNat 0) bd == true) = true) : b = b + mendB y (o, tw, kd, bd) := by
  have q' := beq_iff_eq.mp q
  unfold mendB; dsimp only; rw [if_pos q', Int.add_zero]
theorem ne_of {c : Bool} (q : (c == true) = false) : ¬ c = true := by cases c <;> simp_all
theorem mB_fix (q : (holdsF kd (y.getD o.toNat 0 - y.getD tw.toNat 0) bd == true) = false) : b + 1 = b + mendB y (o, tw, kd, bd) := by
  unfold mendB; dsimp only; rw [if_neg (ne_of q)]
theorem k2_t (c : ([20, 21].any fun x => x == kd) = true) : kd = 20 ∨ kd = 21 := by simp at c; omega
theorem k2_f (c : ([20, 21].any fun x => x == kd) = false) : ¬ (kd = 20 ∨ kd = 21) := by simp at c; omega
end

section
variable {y : List Int} {o tw kd bd b : Int}
theorem mX_gt (q : (holdsF kd (y.getD o.toNat 0 - y.getD tw.toNat 0) bd == true) = false) (a : kd = 20 ∨ bd < y.getD o.toNat 0 - y.getD tw.toNat 0) :
    y.set o.toNat (y.getD tw.toNat 0 + bd - (if kd = 20 ∨ kd = 21 then 1 else 0)) = mendX y (o, tw, kd, bd) := by
  unfold mendX; dsimp only; rw [if_neg (ne_of q), if_pos a]
theorem mX_le (q : (holdsF kd (y.getD o.toNat 0 - y.getD tw.toNat 0) bd == true) = false) (a : ¬ (kd = 20 ∨ bd < y.getD o.toNat 0 - y.getD tw.toNat 0)) :
    y.set tw.toNat (y.getD o.toNat 0 - bd - (if kd = 20 ∨ kd = 21 then 1 else 0)) = mendX y (o, tw, kd, bd) := by
  unfold mendX; dsimp only; rw [if_neg (ne_of q), if_neg a]
end

def Less (kd : Int) (v : Value) : Prop := ∃ t, v = .int (if kd = 20 ∨ kd = 21 then 1 else 0) t
theorem less_t {kd : Int} {t : Tok} (c : ([20, 21].any fun x => x == kd) = true) : Less kd (.int 1 t) := ⟨t, by rw [if_pos (k2_t c)]⟩
theorem less_f {kd : Int} {t : Tok} (c : ([20, 21].any fun x => x == kd) = false) : Less kd (.int 0 t) := ⟨t, by rw [if_neg (k2_f c)]⟩
inductive MendI (S N' : Addr) (n : Nat) (rest : List (Addr × Obj)) (p : List Int × Int) : (Str → Option Value) → List (Addr × Obj) → Prop
  | mk (us' : List Value) (t : Tok) (u : Str → Option Value) (hx' : IntsAre us' p.1) : MendI S N' n rest p (form3 (Str.ofString "broken") (.int p.2 t) (Str.ofString "statements") (.ref S) (Str.ofString "numbers") (.ref N') u) ((N', listOf us'.toArray n) :: rest)
theorem MendI.of {S N' : Addr} {n : Nat} {rest : List (Addr × Obj)} {p : List Int × Int} {m : Str → Option Value} {us' : List Value} {t : Tok} (hx' : IntsAre us' p.1) (h1 : m (Str.ofString "broken") = some (.int p.2 t)) (h2 : m (Str.ofString "statements") = some (.ref S)) (h3 : m (Str.ofString "numbers") = some (.ref N')) :
    MendI S N' n rest p m ((N', listOf us'.toArray n) :: rest) := by
  rw [form3_of h1 h2 h3]; exact .mk us' t m hx'
theorem c_mended (S N' : Addr) (us : List Value) (n : Nat) (x : List Int) (hx : IntsAre us x) (hl : x.length = 4) (ds : List (Int × Int × Int × Int)) (hds : ∀ d ∈ ds, 0 ≤ d.1 ∧ d.1 < 4 ∧ 0 ≤ d.2.1 ∧ d.2.1 < 4) (rest : List (Addr × Obj)) (hS : DrawsAt rest S ds) (off : ∀ p ∈ rest, p.1 ≠ N') :
    Spec w mean mg mb 141 [.ref S, .ref N'] ((N', listOf us.toArray n) :: rest) 3 (fun y n' => ∃ t, y = .int (mendAll ds (x, 0)).2 t ∧ ∃ us', IntsAre us' (mendAll ds (x, 0)).1 ∧ n' = (N', listOf us'.toArray n) :: rest) := by
  w_top off
  refine ⟨?_⟩
  intro dp un gd cn cs a9 ccd cl outer A₀ base h₀ L m s Q E B F X N T hk hd hu hret
  refine wpAny_call ?_
  k_dflt cell_enter
  refine letA (P := fun A => wpAny _ A _ _ _ _) ?_
  intro A9
  obtain ⟨vs, nS, hSm, hlen, hit⟩ := hS
  k_steps
  (rename Fr _ _ _ _ => lF'); (with_unfolding_all refine' For_turns lF' ?_)
  k_steps
  rename Fr _ _ _ _ => lF'
  rename News _ _ _ _ => lN'
  with_unfolding_all refine' iter_J (lo := listOf vs.toArray nS) (vs := vs) (n := nS) (news := (N', listOf us.toArray n) :: rest) (fun i => MendI S N' n rest (mendAll (ds.take i) (x, 0))) ?kh lF' lN' (fun p hp => hp) (List.mem_cons_of_mem _ hSm) ?kc ?kd ?_ ?_ ?_ ?_
  case kh => exact rfl
  case kc => exact rfl
  case kd => exact rfl
  · exact .of hx rfl rfl rfl
  · rintro i m nx ⟨us', _, _, _⟩
    exact List.mem_cons_of_mem _ hSm
  · rintro I it i v m₁ nx h tk hI hv hic ⟨us', t, u, hx'⟩ hoffI F₁ N₁
    have hNI : @LT.lt Nat _ N' I := hI _ (List.mem_cons_self ..)
    clear lF' lN'
    obtain ⟨d, hd', a, t1, t2, t3, t4, n', rfl, hdm⟩ := hit i v hv
    obtain ⟨o, tw, kd, bd⟩ := d
    dsimp only at hdm
    have hb := hds _ (List.mem_of_getElem? hd')
    dsimp only at hb
    have hy : (mendAll (ds.take i) (x, 0)).1.length = 4 := (mendAll_len _ _).trans hl
    have hstep : mendAll (ds.take (i + 1)) (x, 0) = (mendX (mendAll (ds.take i) (x, 0)).1 (o, tw, kd, bd), (mendAll (ds.take i) (x, 0)).2 + mendB (mendAll (ds.take i) (x, 0)).1 (o, tw, kd, bd)) := by
      rw [List.take_add_one, hd']; exact mendAll_snoc ..
    rw [hstep]
    obtain ⟨y, ey⟩ : ∃ y, y = (mendAll (ds.take i) (x, 0)).1 := ⟨_, rfl⟩
    obtain ⟨b, eb⟩ : ∃ b, b = (mendAll (ds.take i) (x, 0)).2 := ⟨_, rfl⟩
    rw [← ey] at hx' hy; rw [← eb] at F₁; rw [← ey, ← eb]
    have q4 : (0 : Int) ≤ o := hb.1
    have q5 : o < (y.length : Int) := by rw [hy]; exact hb.2.1
    have q6 : (0 : Int) ≤ tw := hb.2.2.1
    have q7 : tw < (y.length : Int) := by rw [hy]; exact hb.2.2.2
    have q8 : y.length < 100 := by rw [hy]; decide
    clear hret hds hit hI hv N F X T B
    refine genQ (P := fun QQ => wpAny _ _ (assign _ _ _) (fun _ s₂ => wpAny _ _ (execs _ _) QQ _ s₂) _ _) _ ?_
    intro QQ hQQ
    repeat' (first | ((with_reducible show wpAny _ _ (call (Value.ref _) _) _ _ _); k_dflt (refine' Spec.useT (c_prim _ _ _ _ _ _ _ ?kr _) ?k1 ?k2 ?k3 ?k4 ?k5 ?kK ?kd ?ku ?_; (case k1 => k_asm); (case k2 => k_asm); (case k3 => k_asm); (case k4 => k_asm); (case k5 => k_asm); (case kr => first | exact PrimOf.lt _ _ _ _  | exact PrimOf.le _ _ _ _  | exact PrimOf.eq _ _ _ _  | exact PrimOf.ge _ _ _ _  | exact PrimOf.gt _ _ _ _  | exact PrimOf.add _ _ _ _  | exact PrimOf.sub _ _ _ _  | exact PrimOf.inv _ _  | exact PrimOf.neg _ _  | exact PrimOf.isnt _ _ ); (case kK => first | exact rfl | assumption); (case kd => ktr_room); (case ku => ktr_units); (intro t9 h9 tk9 F9 N9; (try dsimp only); (try k_sweep); (try k_fold)))) | ((with_reducible show wpAny _ _ (call (Value.ref 91) _) _ _ _); k_dflt (refine' Spec.useT (c_getint _ _ _ _ _ _ _ _ ?kx _ _ ?k0 ?kb ?kl _ ?km) ?k1 ?k2 ?k3 ?k4 ?k5 ?kK ?kd ?ku ?_; (case k1 => k_asm); (case k2 => k_asm); (case k3 => k_asm); (case k4 => k_asm); (case k5 => k_asm); (case km => k_mem); (case kx => assumption); (case k0 => first | assumption | omega); (case kb => first | assumption | omega); (case kl => first | assumption | omega); (case kK => first | exact rfl | assumption); (case kd => ktr_room); (case ku => ktr_units); (intro t9 h9 tk9 F9 N9; (try dsimp only); (try k_sweep); (try k_fold)))) | ((with_reducible show wpAny _ _ (call (Value.ref 105) _) _ _ _); k_dflt (refine' Spec.useT (c_setint _ _ _ _ _ _ _ _ ?kx _ _ _ _ ?k0 ?kb ?kl _ _ ?km) ?k1 ?k2 ?k3 ?k4 ?k5 ?kK ?kd ?ku ?_; (case k1 => k_asm); (case k2 => k_asm); (case k3 => k_asm); (case k4 => k_asm); (case k5 => k_asm); (case km => k_upd); (case kx => assumption); (case k0 => first | assumption | omega); (case kb => first | assumption | omega); (case kl => first | assumption | omega); (case kK => first | exact rfl | assumption); (case kd => ktr_room); (case ku => ktr_units); (intro t9 h9 tk9 F9 N9; (try dsimp only); (try k_sweep); (try k_fold)))) | ((with_reducible show wpAny _ _ (call (Value.ref 134) _) _ _ _); k_dflt (refine' Spec.useT (c_holds _ _ _ _ _ _ _ _ _ _ _ ) ?k1 ?k2 ?k3 ?k4 ?k5 ?kK ?kd ?ku ?_; (case k1 => k_asm); (case k2 => k_asm); (case k3 => k_asm); (case k4 => k_asm); (case k5 => k_asm); (case kK => first | exact rfl | assumption); (case kd => ktr_room); (case ku => ktr_units); (intro t9 h9 tk9 F9 N9; (try dsimp only); (try k_sweep); (try k_fold)))) | ((with_reducible show wpAny _ _ (eval (Expr.IfExp _ _ _ _) _) _ _ _); (fail_if_success (with_reducible show wpAny _ _ _ (JoinQ _ _ _ _ _ _) _ _)); k_dflt (refine' join (Less kd) ?F ?N ?_ ?_; (case F => k_asm); (case N => k_asm); rotate_left 1; (intro v9 h9 tk9 R9 F9 N9; (obtain ⟨t9, e9⟩ := R9); subst e9; (try dsimp only); (try k_sweep); (try k_fold)); rotate_right 1)) | ((with_reducible show wpAny _ _ (isTrue (Expr.BoolOp _ _ _) _ _) _ _ _); (fail_if_success (with_reducible show wpAny _ _ _ (JoinQ _ _ _ _ _ _) _ _)); k_dflt (refine' join (fun b : Bool => b = decide (kd = 20 ∨ bd < y.getD o.toNat 0 - y.getD tw.toNat 0)) ?F ?N ?_ ?_; (case F => k_asm); (case N => k_asm); rotate_left 1; (intro v9 h9 tk9 R9 F9 N9; subst R9; (try dsimp only); (try k_sweep); (try k_fold)); rotate_right 1)) | ((with_reducible show JoinQ _ _ _ _ _ _ _ _); refine JoinQ.intro ?_ (by k_asm) (by k_asm) (by (intro p hp; repeat (first | exact hp | refine List.mem_cons_of_mem _ ?_))); first | exact less_t (by assumption) | exact less_f (by assumption) | (symm; first | (refine decide_eq_true ?_; omega) | (refine decide_eq_false ?_; omega))) | (k_unfold; (try dsimp only)) | (k_end; kc_close) | walk1 | (dsimp only; walk1) | (leave1; walk_say "STEP leave1"; (try dsimp only)) | fail "no step")
    all_goals (try dsimp only)
    all_goals rw [← hQQ]
    all_goals (try dsimp only)
    all_goals (try dsimp only [TPost])
    all_goals (refine TEnd.intro ((N', listOf _ n) :: rest) (by k_asm) (by k_asm) (by (intro p hp; repeat (first | exact hp | refine List.mem_cons_of_mem _ ?_))) (off_head hNI hoffI) (.of (ints_eq (by first | exact hx' | exact ints_set hx' _) ?_) (int_eq rfl ?_) rfl rfl))
    all_goals first
      | exact mX_keep (by assumption)
      | exact mB_keep (by assumption)
      | exact mB_fix (by assumption)
      | exact mX_gt (by assumption) (by assumption)
      | exact mX_le (by assumption) (by assumption)
  · rintro m₁ nx h tk ⟨us', t, u, hx'⟩ F₁ N₁
    clear lF' lN'
    have e : ds.take vs.length = ds := by rw [hlen]; exact List.take_length ..
    rw [e] at hx' F₁
    k_steps
    all_goals refine hret _ _ _ _ (by k_asm) (by k_asm) ?_
    exact ⟨_, rfl, _, hx', rfl⟩
end
end Mine
end
section
open PySem PySem.W PyProof.Rows
namespace Mine
set_option maxRecDepth 100000
set_option maxHeartbeats 8000000
section
variable (w : World) (mean : ExcName → Option Value) (mg mb : Str → Option Value)
theorem c_least (R : Addr) (us : List Value) (n : Nat) (hl : us.length = 4) (p : Int) (tp : Tok) (st : Int) (ts : Tok) (h0 : 0 ≤ p) (h1 : p < 4) (o : Option Int) (v : Value) (hv : us[p.toNat]? = some v) (ho : OptIs v o) (news news' : List (Addr × Obj)) (hm : (R, listOf us.toArray n) ∈ news)
    (U : Upd R (listOf us.toArray n) (listOf (leastU us p.toNat st ts o).toArray n) news news') :
    Spec w mean mg mb 162 [.ref R, .int p tp, .int st ts] news 1 (fun y n' => ∃ _ : Tok, y = .none ∧ n' = news') := by
  w_top off
  refine ⟨?_⟩
  intro dp un gd cn cs a9 ccd cl outer A₀ base h₀ L m s Q E B F X N T hk hd hu hret
  refine wpAny_call ?_
  k_dflt cell_enter
  refine letA (P := fun A => wpAny _ A _ _ _ _) ?_
  intro A9
  cases o with
  | none =>
    have e : v = .none := ho
    subst e
    dsimp only [leastU] at U
    repeat' (first | ((with_reducible show wpAny _ _ (subscriptTail _ _ (Value.ref _) (Value.int _ _)) _ _ _); k_dflt (refine' sub_any ?k1 ?k2 ?k3 ?k4 ?k5 ?_ ?k7; (case k1 => k_asm); (case k2 => k_mem); (case k3 => with_reducible assumption); (case k4 => first | assumption | omega); (case k5 => first | assumption | omega); (case k7 => with_unfolding_all rfl); k_whole)) | ((with_reducible show wpAny _ _ (setItem (Value.ref _) (Value.int _ _) _) _ _ _); k_dflt (refine' set_any ?k1 ?k2 ?k3 ?k5 ?k6 ?k7 ?_; (case k1 => k_asm); (case k2 => k_asm); (case k3 => k_upd); (case k5 => first | assumption | omega); (case k6 => first | assumption | omega); (case k7 => first | assumption | omega); k_whole); intro h' F' N'; (try k_sweep)) | (k_unfold; (try dsimp only)) | (k_end; kc_close) | walk1 | (dsimp only; walk1) | (leave1; walk_say "STEP leave1"; (try dsimp only)) | fail "no step")
    all_goals refine hret _ _ _ _ (by k_asm) (by k_asm) ?_
    exact ⟨0, rfl, rfl⟩
  | some x =>
    obtain ⟨t, rfl⟩ := ho
    dsimp only [leastU] at U
    by_cases hlt : st < x
    · rw [if_pos hlt] at U
      repeat' (first | ((with_reducible show wpAny _ _ (subscriptTail _ _ (Value.ref _) (Value.int _ _)) _ _ _); k_dflt (refine' sub_any ?k1 ?k2 ?k3 ?k4 ?k5 ?_ ?k7; (case k1 => k_asm); (case k2 => k_mem); (case k3 => with_reducible assumption); (case k4 => first | assumption | omega); (case k5 => first | assumption | omega); (case k7 => with_unfolding_all rfl); k_whole)) | ((with_reducible show wpAny _ _ (setItem (Value.ref _) (Value.int _ _) _) _ _ _); k_dflt (refine' set_any ?k1 ?k2 ?k3 ?k5 ?k6 ?k7 ?_; (case k1 => k_asm); (case k2 => k_asm); (case k3 => k_upd); (case k5 => first | assumption | omega); (case k6 => first | assumption | omega); (case k7 => first | assumption | omega); k_whole); intro h' F' N'; (try k_sweep)) | (k_unfold; (try dsimp only)) | (k_end; kc_close) | walk1 | (dsimp only; walk1) | (leave1; walk_say "STEP leave1"; (try dsimp only)) | fail "no step")
      all_goals refine hret _ _ _ _ (by k_asm) (by k_asm) ?_
      exact ⟨0, rfl, rfl⟩
    · rw [if_neg hlt] at U
      have e := Upd.same U
      subst e
      repeat' (first | ((with_reducible show wpAny _ _ (subscriptTail _ _ (Value.ref _) (Value.int _ _)) _ _ _); k_dflt (refine' sub_any ?k1 ?k2 ?k3 ?k4 ?k5 ?_ ?k7; (case k1 => k_asm); (case k2 => k_mem); (case k3 => with_reducible assumption); (case k4 => first | assumption | omega); (case k5 => first | assumption | omega); (case k7 => with_unfolding_all rfl); k_whole)) | ((with_reducible show wpAny _ _ (setItem (Value.ref _) (Value.int _ _) _) _ _ _); k_dflt (refine' set_any ?k1 ?k2 ?k3 ?k5 ?k6 ?k7 ?_; (case k1 => k_asm); (case k2 => k_asm); (case k3 => k_upd); (case k5 => first | assumption | omega); (case k6 => first | assumption | omega); (case k7 => first | assumption | omega); k_whole); intro h' F' N'; (try k_sweep)) | (k_unfold; (try dsimp only)) | (k_end; kc_close) | walk1 | (dsimp only; walk1) | (leave1; walk_say "STEP leave1"; (try dsimp only)) | fail "no step")
      all_goals refine hret _ _ _ _ (by k_asm) (by k_asm) ?_
      exact ⟨0, rfl, rfl⟩
end
end Mine
end
section
open PySem PySem.W PyProof.Rows
namespace Mine
set_option maxRecDepth 100000
set_option maxHeartbeats 8000000
section
variable (w : World) (mean : ExcName → Option Value) (mg mb : Str → Option Value)

abbrev Mat := Nat → Nat → Option Int
def RowsOk (us : List (List Value)) (M : Mat) : Prop := us.length = 4 ∧ ∀ i, i < 4 → ∃ u, us[i]? = some u ∧ u.length = 4 ∧ ∀ j, j < 4 → ∃ v, u[j]? = some v ∧ OptIs v (M i j)
def updM (M : Mat) (i j : Nat) (s : Int) : Mat := fun a b => if a = i ∧ b = j then leastO (M a b) s else M a b
def stepM (M : Mat) (d : Int × Int × Int × Int) : Mat :=
  let M1 := if d.2.2.1 < 3 then updM M d.1.toNat d.2.1.toNat (if d.2.2.1 = 0 then d.2.2.2 - 1 else d.2.2.2) else M
  if 1 < d.2.2.1 then updM M1 d.2.1.toNat d.1.toNat (if d.2.2.1 = 4 then -d.2.2.2 - 1 else -d.2.2.2) else M1
theorem rowsOk_upd {us : List (List Value)} {M : Mat} (h : RowsOk us M) {i p : Nat} {u : List Value} (hu : us[i]? = some u) (hi : i < 4) (hp : p < 4) (st : Int) (ts : Tok) : RowsOk (us.set i (leastU u p st ts (M i p))) (updM M i p st) := by
  refine ⟨by rw [List.length_set]; exact h.1, fun a ha => ?_⟩
  obtain ⟨w, hw, hwl, hwv⟩ := h.2 a ha
  by_cases e : a = i
  · subst e
    have : w = u := Option.some.inj (hw.symm.trans hu)
    subst this
    have hlt : a < us.length := by rw [h.1]; exact ha
    refine ⟨_, by rw [List.getElem?_set_self hlt], ?_, fun b hb => ?_⟩
    · unfold leastU
      split
      · rw [List.length_set]; exact hwl
      · split
        · rw [List.length_set]; exact hwl
        · exact hwl
    · obtain ⟨v, hv, hvo⟩ := hwv b hb
      by_cases eb : b = p
      · subst eb
        unfold updM leastU
        rw [if_pos ⟨rfl, rfl⟩]
        cases hM : M a b with
        | none => exact ⟨_, List.getElem?_set_self (by omega), ts, rfl⟩
        | some x =>
          dsimp only [leastO]
          by_cases hlt : st < x
          · rw [if_pos hlt, if_pos hlt]; exact ⟨_, List.getElem?_set_self (by omega), ts, rfl⟩
          · rw [if_neg hlt, if_neg hlt]; exact ⟨v, hv, hM ▸ hvo⟩
      · refine ⟨v, ?_, by unfold updM; rw [if_neg (fun q => eb q.2)]; exact hvo⟩
        unfold leastU
        split
        · rw [List.getElem?_set_ne (Ne.symm eb)]; exact hv
        · split
          · rw [List.getElem?_set_ne (Ne.symm eb)]; exact hv
          · exact hv
  · refine ⟨w, by rw [List.getElem?_set_ne (Ne.symm e)]; exact hw, hwl, fun b hb => ?_⟩
    obtain ⟨v, hv, hvo⟩ := hwv b hb
    exact ⟨v, hv, by unfold updM; rw [if_neg (fun q => e q.1)]; exact hvo⟩
theorem Spec.post {w : World} {mean : ExcName → Option Value} {mg mb : Str → Option Value} {f : Addr} {vs : List Value} {news : List (Addr × Obj)} {dn : Nat} {p q : Value → List (Addr × Obj) → Prop} (C : Spec w mean mg mb f vs news dn p) (h : ∀ v n', p v n' → q v n') : Spec w mean mg mb f vs news dn q :=
  ⟨fun dp un gd cn cs a ccd cl outer A₀ base h₀ L m s Q E B F X N T hk hd hu hret => C.run dp un gd cn cs a ccd cl outer A₀ base h₀ L m s Q E B F X N T hk hd hu fun v n' h' tk' F' N' hp => hret v n' h' tk' F' N' (h v n' hp)⟩
theorem c_leastRow (Rs : List Addr) (us : List (List Value)) (M : Mat) (hn : Rs.Nodup) (hok : RowsOk us M) (rest : List (Addr × Obj)) (off : ∀ R ∈ Rs, ∀ p ∈ rest, p.1 ≠ R) (i : Int) (hi0 : 0 ≤ i) (hi1 : i < 4) (R : Addr) (hR : Rs[i.toNat]? = some R)
    (p : Int) (tp : Tok) (hp0 : 0 ≤ p) (hp1 : p < 4) (st : Int) (ts : Tok) (p1 p2 : Addr × Obj) (o1 : p1.1 ≠ R) (o2 : p2.1 ≠ R) :
    Spec w mean mg mb 162 [.ref R, .int p tp, .int st ts] (p1 :: p2 :: (rowsL Rs us ++ rest)) 1 (fun y n' => y = .none ∧ ∃ us', RowsOk us' (updM M i.toNat p.toNat st) ∧ n' = p1 :: p2 :: (rowsL Rs us' ++ rest)) := by
  obtain ⟨u, hu, hul, huv⟩ := hok.2 i.toNat (by omega)
  obtain ⟨v, hv, hvo⟩ := huv p.toNat (by omega)
  refine Spec.post (c_least w mean mg mb R u 0 hul p tp st ts hp0 hp1 (M i.toNat p.toNat) v hv hvo _ (p1 :: p2 :: (rowsL Rs (us.set i.toNat (leastU u p.toNat st ts (M i.toNat p.toNat))) ++ rest)) ?_ ?_) ?_
  · exact List.mem_cons_of_mem _ (List.mem_cons_of_mem _ (List.mem_append_left _ (rowsL_mem hR hu)))
  · exact Upd.tail o1 (Upd.tail o2 (rowsL_upd hn off hR hu))
  · rintro y n' ⟨_, rfl, rfl⟩
    exact ⟨rfl, _, rowsOk_upd hok hu (by omega) (by omega) st ts, rfl⟩
end
end Mine
end
section
open PySem PySem.W PyProof.Rows
namespace Mine
set_option maxRecDepth 100000
set_option maxHeartbeats 8000000
section
variable (w : World) (mean : ExcName → Option Value) (mg mb : Str → Option Value)

def stepsAll (ds : List (Int × Int × Int × Int)) : Mat := ds.foldl stepM (fun _ _ => none)
theorem stepM_snoc (ds : List (Int × Int × Int × Int)) (d : Int × Int × Int × Int) (M : Mat) : (ds ++ [d]).foldl stepM M = stepM (ds.foldl stepM M) d := by rw [List.foldl_append]; rfl
theorem rows_eq {us : List (List Value)} {M M' : Mat} (h : RowsOk us M) (e : M = M') : RowsOk us M' := e ▸ h
theorem form1_of {x1 : Str} {v1 : Value} {m : Str → Option Value} (h1 : m x1 = some v1) : m = fun y => if y = x1 then some v1 else m y := by
  funext y
  split
  · rename_i e; rw [e, h1]
  · rfl
def noneRow : List Value := [.none, .none, .none, .none]
theorem rowsOk_none : RowsOk [noneRow, noneRow, noneRow, noneRow] (fun _ _ => none) := by
  refine ⟨rfl, fun i hi => ⟨noneRow, ?_, rfl, fun j hj => ⟨.none, ?_, rfl⟩⟩⟩
  · match i, hi with
    | 0, _ => rfl
    | 1, _ => rfl
    | 2, _ => rfl
    | 3, _ => rfl
  · match j, hj with
    | 0, _ => rfl
    | 1, _ => rfl
    | 2, _ => rfl
    | 3, _ => rfl
/-- the table that a comprehension builds -/
inductive CompK (news : List (Addr × Obj)) (i : Nat) : List Value → List (Addr × Obj) → Prop
  | mk (Rs : List Addr) (nx : List (Addr × Obj)) (hRl : Rs.length = i) (hRn : Rs.Nodup) (hRo : ∀ R ∈ Rs, ∀ p ∈ news, p.1 < R) (hnx : ∀ p, p ∈ nx ↔ p ∈ rowsL Rs (Rs.map fun _ => noneRow) ++ news) : CompK news i (Rs.map Value.ref) nx
inductive StepI (T : Addr) (Rs : List Addr) (k : Nat) (news : List (Addr × Obj)) (M : Mat) : (Str → Option Value) → List (Addr × Obj) → Prop
  | mk (us : List (List Value)) (u : Str → Option Value) (hok : RowsOk us M) : StepI T Rs k news M (fun y => if y = Str.ofString "steps" then some (.ref T) else u y) ((T, listOf (Rs.map Value.ref).toArray k) :: (rowsL Rs us ++ news))
theorem StepI.of {T : Addr} {Rs : List Addr} {k : Nat} {news : List (Addr × Obj)} {M : Mat} {us : List (List Value)} {m : Str → Option Value} (hok : RowsOk us M) (h : m (Str.ofString "steps") = some (.ref T)) : StepI T Rs k news M m ((T, listOf (Rs.map Value.ref).toArray k) :: (rowsL Rs us ++ news)) := by
  rw [form1_of h]; exact .mk us m hok
theorem form2_of {x1 x2 : Str} {v1 v2 : Value} {m : Str → Option Value} (h1 : m x1 = some v1) (h2 : m x2 = some v2) : m = fun y => if y = x1 then some v1 else if y = x2 then some v2 else m y := by
  funext y
  split
  · rename_i e; rw [e, h1]
  · split
    · rename_i e; rw [e, h2]
    · rfl
theorem rowsL_snoc : ∀ (Rs : List Addr) (R : Addr), rowsL (Rs ++ [R]) ((Rs ++ [R]).map fun _ => noneRow) = rowsL Rs (Rs.map fun _ => noneRow) ++ [(R, listOf noneRow.toArray 0)]
  | [], _ => rfl
  | Q :: Rs, R => by
    show (Q, listOf noneRow.toArray 0) :: rowsL (Rs ++ [R]) ((Rs ++ [R]).map fun _ => noneRow) = (Q, listOf noneRow.toArray 0) :: (rowsL Rs (Rs.map fun _ => noneRow) ++ [(R, listOf noneRow.toArray 0)])
    rw [rowsL_snoc Rs R]
theorem c_steps (D : Addr) (ds : List (Int × Int × Int × Int)) (hds : ∀ d ∈ ds, 0 ≤ d.1 ∧ d.1 < 4 ∧ 0 ≤ d.2.1 ∧ d.2.1 < 4) (news : List (Addr × Obj)) (hD : DrawsAt news D ds) :
    Spec w mean mg mb 167 [.ref D] news 2 (fun y n' => ∃ T Rs us k, y = .ref T ∧ Rs.length = 4 ∧ Rs.Nodup ∧ RowsOk us (stepsAll ds) ∧ T ∉ Rs ∧ (∀ p ∈ news, p.1 ≠ T) ∧ (∀ R ∈ Rs, ∀ p ∈ news, p.1 ≠ R) ∧ n' = (T, listOf (Rs.map Value.ref).toArray k) :: (rowsL Rs us ++ news)) := by
  w_top off
  refine ⟨?_⟩
  intro dp un gd cn cs a9 ccd cl outer A₀ base h₀ L m s Q E B F X N T hk hd hu hret
  refine wpAny_call ?_
  k_dflt cell_enter
  refine letA (P := fun A => wpAny _ A _ _ _ _) ?_
  intro A9
  obtain ⟨vs, nS, hSm, hlen, hit⟩ := hD
  repeat' (first | ((with_reducible show LCg.CompRest _ _ _ _ _ _ _ _ _ _ _ _ _ _ _ _ _ _ _); refine Hold.out ?_) | ((with_reducible show wpAny _ _ (exec (Stmt.Assign [Expr.Name _ _] (Expr.ListComp _ _ _ _) _) _) _ _ _); k_dflt (refine LCg.Assign_ListComp_U (F₀ := by k_asm) (by rfl) (by with_unfolding_all rfl) (by with_unfolding_all rfl) (by decide) (by rfl) (by decide) (by rfl) (by rfl) (by rfl) ?_)) | (k_unfold; (try dsimp only)) | (k_end; kc_close) | walk1 | (dsimp only; walk1) | (leave1; walk_say "STEP leave1"; (try dsimp only)) | ((with_reducible show wpAny _ _ (eval (Expr.Name _ _) _) _ _ _); refine nameEq (y := Str.ofString "range") (by decide +kernel) ?_; walk1) | fail "no step")
  unfold Hold
  refine comp_J (CompK news) (.mk [] _ rfl List.nodup_nil (fun _ h => (nomatch h)) (fun p => Iff.rfl)) ?_ ?_
  · rintro i ys nx ⟨Rs, nx, hRl, hRn, hRo, hnx⟩ v I oI C oC D' m₂ h tk E' hi hP hC hx F N off ne
    repeat' (first | ((with_reducible show wpAny _ _ (binaryOp _ (Value.ref _) (Value.int _ _)) _ _ _); k_dflt (refine' KMa.mul ?F ?N ?l ?lo ?hi ?z ?e ?_; (case F => k_asm); (case N => k_asm); (case l => exact News.isList (by k_asm) (by k_mem)); (case lo => decide); (case hi => decide); (case z => decide); (case e => exact rfl); k_whole); intro D9 h9 F9 N9 l9; (try k_lt l9); (try k_sweep)) | (k_unfold; (try dsimp only)) | (k_end; kc_close) | walk1 | (dsimp only; walk1) | (leave1; walk_say "STEP leave1"; (try dsimp only)) | fail "no step")
    refine CEnd.intro ((D9, listOf noneRow.toArray 0) :: nx) F9 N9 ?_ ⟨⟨?_, ?_, ?_⟩, off⟩ trivial ?_
    · intro p hp
      simp only [List.mem_cons] at hp ⊢
      rcases hp with h | h | h | h | h
      · exact .inr (.inr (.inl h))
      · exact .inr (.inr (.inr (.inl h)))
      · exact .inr (.inr (.inr (.inr (.inl h))))
      · exact .inl h
      · exact .inr (.inr (.inr (.inr (.inr h))))
    · refine neN ?_; omega
    · refine neN ?_; omega
    · refine neN ?_; omega
    · have hlt := allLt_out l9.2.2.2.2
      have hmk := CompK.mk (news := news) (i := i + 1) (Rs ++ [D9]) ((D9, listOf noneRow.toArray 0) :: nx) (by rw [List.length_append, List.length_singleton, hRl]) ?_ ?_ ?_
      · rw [List.map_append] at hmk; exact hmk
      · refine List.nodup_append.mpr ⟨hRn, List.nodup_cons.mpr ⟨List.not_mem_nil, List.nodup_nil⟩, ?_⟩
        intro a ha b hb e
        rw [List.mem_singleton.mp hb] at e
        obtain ⟨j, hj⟩ := List.mem_iff_getElem?.mp ha
        have q := hlt _ ((hnx _).mpr (List.mem_append_left _ (rowsL_mem hj (u := noneRow) (by simp [hj]))))
        exact absurd q (by rw [e]; exact Nat.lt_irrefl _)
      · intro R hR p hp
        rcases List.mem_append.mp hR with hR | hR
        · exact hRo R hR p hp
        · rw [List.mem_singleton.mp hR]
          exact hlt p ((hnx p).mpr (List.mem_append_right _ hp))
      · intro p
        rw [rowsL_snoc, List.mem_cons, hnx p, List.mem_append, List.mem_append, List.mem_append, List.mem_singleton]
        constructor
        · rintro (h | h | h)
          · exact .inl (.inr h)
          · exact .inl (.inl h)
          · exact .inr h
        · rintro ((h | h) | h)
          · exact .inr (.inl h)
          · exact .inl h
          · exact .inr (.inr h)
  · rintro ys nx ⟨Rs, nx, hRl, hRn, hRo, hnx⟩
    intro T h1 tk1 F1 N1 off1
    have N2 : News _ _ _ ((T, listOf (Rs.map Value.ref).toArray (Rs.map Value.ref).length) :: (rowsL Rs (Rs.map fun _ => noneRow) ++ news)) := fun p hp => N1 p (by
      rcases List.mem_cons.mp hp with rfl | hp
      · exact List.mem_cons_self ..
      · exact List.mem_cons_of_mem _ ((hnx p).mpr hp))
    clear N1
    replace hRl : Rs.length = (4 : Nat) := hRl
    have offT := off1_out off1
    have hTR : T ∉ Rs := by
      intro hR
      obtain ⟨j, hj⟩ := List.mem_iff_getElem?.mp hR
      exact offT _ ((hnx _).mpr (List.mem_append_left _ (rowsL_mem hj (u := noneRow) (by simp [hj])))) rfl
    have hTn : ∀ p ∈ news, p.1 ≠ T := fun p hp => offT p ((hnx p).mpr (List.mem_append_right _ hp))
    have hRn' : ∀ R ∈ Rs, ∀ p ∈ news, p.1 ≠ R := fun R hR p hp => Nat.ne_of_lt (hRo R hR p hp)
    have hok : RowsOk (Rs.map fun _ => noneRow) (fun _ _ => none) := by
      match Rs, hRl with
      | [_, _, _, _], _ => exact rowsOk_none
    k_steps
    (rename Fr _ _ _ _ => lF'); (with_unfolding_all refine' For_turns lF' ?_)
    k_steps
    rename Fr _ _ _ _ => lF'
    rename News _ _ _ _ => lN'
    with_unfolding_all refine' iter_J (lo := listOf vs.toArray nS) (vs := vs) (n := nS) (news := (T, listOf (Rs.map Value.ref).toArray (Rs.map Value.ref).length) :: (rowsL Rs (Rs.map fun _ => noneRow) ++ news)) (fun i => StepI T Rs (Rs.map Value.ref).length news (stepsAll (ds.take i))) ?kh lF' lN' (fun p hp => hp) (List.mem_cons_of_mem _ (List.mem_append_right _ hSm)) ?kc ?kd ?_ ?_ ?_ ?_
    case kh => exact rfl
    case kc => exact rfl
    case kd => exact rfl
    · exact .of hok rfl
    · rintro i m nx ⟨us', _, _⟩
      exact List.mem_cons_of_mem _ (List.mem_append_right _ hSm)
    · rintro I it i v m₁ nx h tk hI hv hic ⟨us', u, hok'⟩ hoffI F₁ N₁
      clear lF' lN'
      have hTI : T ≠ I := hoffI _ (List.mem_cons_self ..)
      obtain ⟨d, hd', a, t1, t2, t3, t4, n', rfl, hdm⟩ := hit i v hv
      obtain ⟨o, tw, kd, bd⟩ := d
      dsimp only at hdm
      have hb := hds _ (List.mem_of_getElem? hd')
      dsimp only at hb
      have hdm' : (a, ({ cls := .type "tuple", data := .seq [.int o t1, .int tw t2, .int kd t3, .int bd t4].toArray n' } : Obj)) ∈ rowsL Rs us' ++ news := List.mem_append_right _ hdm
      have hstep : stepsAll (ds.take (i + 1)) = stepM (stepsAll (ds.take i)) (o, tw, kd, bd) := by
        rw [List.take_add_one, hd']; exact stepM_snoc ..
      rw [hstep]
      obtain ⟨M, eM⟩ : ∃ M, M = stepsAll (ds.take i) := ⟨_, rfl⟩
      rw [← eM] at hok'; rw [← eM]
      obtain ⟨R1, hR1⟩ : ∃ R, Rs[o.toNat]? = some R := ⟨_, List.getElem?_eq_getElem (by omega)⟩
      obtain ⟨R2, hR2⟩ : ∃ R, Rs[tw.toNat]? = some R := ⟨_, List.getElem?_eq_getElem (by omega)⟩
      have hV1 : (Rs.map Value.ref)[o.toNat]? = some (.ref R1) := by rw [List.getElem?_map, hR1]; rfl
      have hV2 : (Rs.map Value.ref)[tw.toNat]? = some (.ref R2) := by rw [List.getElem?_map, hR2]; rfl
      have hIR : ∀ R ∈ Rs, I ≠ R := fun R hR e => by
        obtain ⟨j, hj⟩ := List.mem_iff_getElem?.mp hR
        have hj4 : j < 4 := by have := (List.getElem?_eq_some_iff.mp hj).1; omega
        obtain ⟨w, hw, _⟩ := hok'.2 j hj4
        exact hoffI _ (List.mem_cons_of_mem _ (List.mem_append_left _ (rowsL_mem hj hw))) e.symm
      have hIR1 : (I, it).1 ≠ R1 := hIR R1 (List.mem_of_getElem? hR1)
      have hIR2 : (I, it).1 ≠ R2 := hIR R2 (List.mem_of_getElem? hR2)
      have hTR1 : T ≠ R1 := fun e => hTR (e ▸ List.mem_of_getElem? hR1)
      have hTR2 : T ≠ R2 := fun e => hTR (e ▸ List.mem_of_getElem? hR2)
      have hoff' : ∀ us : List (List Value), ∀ p ∈ (T, listOf (Rs.map Value.ref).toArray (Rs.map Value.ref).length) :: (rowsL Rs us ++ news), p.1 ≠ I := fun us p hp => by
        rcases List.mem_cons.mp hp with rfl | hp
        · exact hTI
        · rcases List.mem_append.mp hp with hp | hp
          · exact fun e => hIR _ (rowsL_addr p hp) e.symm
          · exact hoffI p (List.mem_cons_of_mem _ (List.mem_append_right _ hp))
      have q4 : (0 : Int) ≤ o := hb.1
      have q5 : o < 4 := hb.2.1
      have q6 : (0 : Int) ≤ tw := hb.2.2.1
      have q7 : tw < 4 := hb.2.2.2
      clear hret hds hit hI hv N off1 offT hok hnx hstep eM
      refine genQ (P := fun QQ => wpAny _ _ (assign _ _ _) (fun _ s₂ => wpAny _ _ (execs _ _) QQ _ s₂) _ _) _ ?_
      intro QQ hQQ
      repeat' (first | ((with_reducible show wpAny _ _ (call (Value.ref 162) _) _ _ _); k_dflt (refine' Spec.use (c_leastRow _ _ _ _ _ _ _ ?cn ?ck _ ?co _ ?i0 ?i1 _ ?cR _ _ ?p0 ?p1 _ _ _ _ ?o1 ?o2) ?k1 ?k2 ?k3 ?k4 ?k5 ?kK ?kd ?ku ?_; (case k1 => k_asm); (case k2 => k_asm); (case k3 => k_asm); (case k4 => k_asm); (case k5 => k_asm); (case cn => assumption); (case ck => assumption); (case co => assumption); (case cR => assumption); (case i0 => first | assumption | omega); (case i1 => first | assumption | omega); (case p0 => first | assumption | omega); (case p1 => first | assumption | omega); (case o1 => assumption); (case o2 => assumption); (case kK => first | exact rfl | assumption); (case kd => ktr_room); (case ku => ktr_units); (intro v9 news9 h9 tk9 F9 N9 hp9; (obtain ⟨e9, u9, hr9, e9'⟩ := hp9); subst e9; subst e9'; (try dsimp only); (try k_sweep); (try k_fold)))) | ((with_reducible show wpAny _ _ (subscriptTail _ _ (Value.ref _) (Value.int _ _)) _ _ _); k_dflt (refine' sub_any ?k1 ?k2 ?k3 ?k4 ?k5 ?_ ?k7; (case k1 => k_asm); (case k2 => k_mem); (case k3 => with_reducible assumption); (case k4 => first | assumption | omega); (case k5 => first | assumption | omega); (case k7 => with_unfolding_all rfl); k_whole)) | ((with_reducible show wpAny _ _ (eval (Expr.IfExp _ (Expr.BinOp (Expr.Name _ _) _ _ _) _ _) _) _ _ _); (fail_if_success (with_reducible show wpAny _ _ _ (JoinQ _ _ _ _ _ _) _ _)); k_dflt (refine' join (fun v => ∃ t, v = Value.int (if kd = 0 then bd - 1 else bd) t) ?F ?N ?_ ?_; (case F => k_asm); (case N => k_asm); rotate_left 1; (intro v9 h9 tk9 R9 F9 N9; (obtain ⟨t9, e9⟩ := R9); subst e9; (try dsimp only); (try k_sweep); (try k_fold)); rotate_right 1)) | ((with_reducible show wpAny _ _ (eval (Expr.IfExp _ (Expr.BinOp (Expr.UnaryOp _ _ _) _ _ _) _ _) _) _ _ _); (fail_if_success (with_reducible show wpAny _ _ _ (JoinQ _ _ _ _ _ _) _ _)); k_dflt (refine' join (fun v => ∃ t, v = Value.int (if kd = 4 then -bd - 1 else -bd) t) ?F ?N ?_ ?_; (case F => k_asm); (case N => k_asm); rotate_left 1; (intro v9 h9 tk9 R9 F9 N9; (obtain ⟨t9, e9⟩ := R9); subst e9; (try dsimp only); (try k_sweep); (try k_fold)); rotate_right 1)) | ((with_reducible show JoinQ _ _ _ _ _ _ _ _); refine JoinQ.intro ?_ (by k_asm) (by k_asm) (by (intro p hp; repeat (first | exact hp | refine List.mem_cons_of_mem _ ?_))); first | exact ⟨_, by rw [if_pos (by assumption)]⟩ | exact ⟨_, by rw [if_neg (by assumption)]⟩) | (k_unfold; (try dsimp only)) | (k_end; kc_close) | walk1 | (dsimp only; walk1) | (leave1; walk_say "STEP leave1"; (try dsimp only)) | fail "no step")
      all_goals (try dsimp only)
      all_goals rw [← hQQ]
      all_goals (try dsimp only [TPost])
      all_goals (refine TEnd.intro ((T, listOf (Rs.map Value.ref).toArray (Rs.map Value.ref).length) :: (rowsL Rs _ ++ news)) (by k_asm) (by k_asm) (fun p hp => hp) (hoff' _) (.of ?_ rfl))
      all_goals (refine rows_eq (by assumption) ?_; unfold stepM; dsimp only; (repeat' split) <;> first | rfl | omega)
    · rintro m₁ nx h tk ⟨us', u, hok'⟩ F₁ N₁
      clear lF' lN'
      have e : ds.take vs.length = ds := by rw [hlen]; exact List.take_length ..
      rw [e] at hok'
      k_steps
      all_goals refine hret _ _ _ _ (by k_asm) (by k_asm) ?_
      exact ⟨T, Rs, us', _, rfl, hRl, hRn, hok', hTR, hTn, hRn', rfl⟩
end
end Mine
end
section
open PySem PySem.W PyProof.Rows
namespace Mine
set_option maxRecDepth 100000
set_option maxHeartbeats 8000000
section
variable (w : World) (mean : ExcName → Option Value) (mg mb : Str → Option Value)

def turnF (M : Mat) (rec : List Nat → Int → List Int × List Int) (way : List Nat) (tot : Int) (p : List Int × List Int) (v : Nat) : List Int × List Int :=
  match M (way.getLastD 0) v with
  | none => p
  | some s => if v = way.headD 0 then (p.1, p.2 ++ [tot + s]) else if v ∈ way then p else (p.1 ++ (rec (way ++ [v]) (tot + s)).1, p.2 ++ (rec (way ++ [v]) (tot + s)).2)
def waysF (M : Mat) : Nat → List Nat → Int → List Int × List Int
  | 0, _, tot => ([tot], [])
  | k + 1, way, tot => (List.range 4).foldl (turnF M (waysF M k) way tot) ([tot], [])
def cS : Nat → Nat
  | 0 => 1
  | k + 1 => 1 + 4 * cS k
def cR : Nat → Nat
  | 0 => 0
  | k + 1 => 4 * (1 + cR k)
def stW (M : Mat) (k : Nat) (way : List Nat) (tot : Int) (i : Nat) : List Int × List Int := ((List.range 4).take i).foldl (turnF M (waysF M k) way tot) ([tot], [])
theorem stW_step (M : Mat) (k : Nat) (way : List Nat) (tot : Int) {i : Nat} (hi : i < 4) : stW M k way tot (i + 1) = turnF M (waysF M k) way tot (stW M k way tot i) i := by
  unfold stW
  rw [List.take_add_one, List.foldl_append, List.getElem?_range hi]
  rfl
theorem stW_len (M : Mat) (k : Nat) (h : ∀ way tot, (waysF M k way tot).1.length ≤ cS k ∧ (waysF M k way tot).2.length ≤ cR k) (way : List Nat) (tot : Int) : ∀ i, i ≤ 4 → (stW M k way tot i).1.length ≤ 1 + i * cS k ∧ (stW M k way tot i).2.length ≤ i * (1 + cR k)
  | 0, _ => by simp [stW]
  | i + 1, hi => by
    have ih := stW_len M k h way tot i (by omega)
    rw [stW_step M k way tot (by omega), Nat.succ_mul, Nat.succ_mul]
    unfold turnF
    split
    · omega
    · rename_i s _
      split
      · simp only [List.length_append, List.length_singleton]; omega
      · split
        · omega
        · have hw := h (way ++ [i]) (tot + s)
          simp only [List.length_append]; omega
theorem waysF_len (M : Mat) : ∀ k way tot, (waysF M k way tot).1.length ≤ cS k ∧ (waysF M k way tot).2.length ≤ cR k
  | 0, _, _ => by simp [waysF, cS]
  | k + 1, way, tot => by
    have h := stW_len M k (waysF_len M k) way tot 4 (Nat.le_refl _)
    have e : stW M k way tot 4 = waysF M (k + 1) way tot := rfl
    rw [e] at h
    simp only [cS, cR]
    omega
theorem nodup_le : ∀ (n : Nat) (l : List Nat), l.Nodup → (∀ a ∈ l, a < n) → l.length ≤ n
  | 0, [], _, _ => Nat.le_refl _
  | 0, a :: _, _, h => absurd (h a (List.mem_cons_self ..)) (Nat.not_lt_zero _)
  | n + 1, l, hn, h => by
    have h1 := nodup_le n (l.erase n) (hn.erase n) (fun a ha => by
      have ha' := (List.Nodup.mem_erase_iff hn).mp ha
      have := h a ha'.2
      have := ha'.1
      omega)
    have h2 := List.length_erase_le (a := n) (l := l)
    by_cases hm : n ∈ l
    · have := List.length_erase_of_mem hm; omega
    · rw [List.erase_of_not_mem hm] at h1; omega
def form5 (x1 : Str) (v1 : Value) (x2 : Str) (v2 : Value) (x3 : Str) (v3 : Value) (x4 : Str) (v4 : Value) (x5 : Str) (v5 : Value) (u : Str → Option Value) : Str → Option Value := fun y => if y = x1 then some v1 else if y = x2 then some v2 else if y = x3 then some v3 else if y = x4 then some v4 else if y = x5 then some v5 else u y
theorem form5_of {x1 x2 x3 x4 x5 : Str} {v1 v2 v3 v4 v5 : Value} {m : Str → Option Value} (h1 : m x1 = some v1) (h2 : m x2 = some v2) (h3 : m x3 = some v3) (h4 : m x4 = some v4) (h5 : m x5 = some v5) : m = form5 x1 v1 x2 v2 x3 v3 x4 v4 x5 v5 m := by
  funext y
  unfold form5
  by_cases e1 : y = x1
  · rw [if_pos e1, e1, h1]
  rw [if_neg e1]
  by_cases e2 : y = x2
  · rw [if_pos e2, e2, h2]
  rw [if_neg e2]
  by_cases e3 : y = x3
  · rw [if_pos e3, e3, h3]
  rw [if_neg e3]
  by_cases e4 : y = x4
  · rw [if_pos e4, e4, h4]
  rw [if_neg e4]
  by_cases e5 : y = x5
  · rw [if_pos e5, e5, h5]
  rw [if_neg e5]
theorem ints_last {vw : List Value} {way : List Nat} (h : IntsAre vw (way.map fun a : Nat => (a : Int))) (hne : way ≠ []) : ∃ t, vw[vw.length - 1]? = some (.int ((way.getLastD 0 : Nat) : Int) t) := by
  have hl : vw.length = way.length := by rw [h.length, List.length_map]
  have h0 : 0 < way.length := List.length_pos_iff.mpr hne
  have e : (way.map fun a : Nat => (a : Int))[vw.length - 1]? = some ((way.getLastD 0 : Nat) : Int) := by
    rw [hl, List.getElem?_map, ← List.getLast?_eq_getElem?, List.getLast?_eq_some_getLast hne]
    rw [List.getLastD_eq_getLast?, List.getLast?_eq_some_getLast hne]; rfl
  exact h.get _ _ e
theorem ints_first {vw : List Value} {way : List Nat} (h : IntsAre vw (way.map fun a : Nat => (a : Int))) (hne : way ≠ []) : ∃ t, vw[(0 : Int).toNat]? = some (.int ((way.headD 0 : Nat) : Int) t) := by
  match way, hne with
  | a :: r, _ => exact h.get 0 _ rfl
inductive WayI (Tb W : Addr) (tot : Int) (tt : Tok) (G S : Addr) (g : List Int) (rest : List (Addr × Obj)) (p : List Int × List Int) : (Str → Option Value) → List (Addr × Obj) → Prop
  | mk (vs : List Value) (ns : Nat) (gs' : List Value) (ng' : Nat) (u : Str → Option Value) (hvs : IntsAre vs p.1) (hgs' : IntsAre gs' (g ++ p.2)) : WayI Tb W tot tt G S g rest p (form5 (Str.ofString "steps") (.ref Tb) (Str.ofString "way") (.ref W) (Str.ofString "total") (.int tot tt) (Str.ofString "rings") (.ref G) (Str.ofString "sums") (.ref S) u) ((S, listOf vs.toArray ns) :: (G, listOf gs'.toArray ng') :: rest)
theorem WayI.of {Tb W : Addr} {tot : Int} {tt : Tok} {G S : Addr} {g : List Int} {rest : List (Addr × Obj)} {p : List Int × List Int} {m : Str → Option Value} {vs : List Value} {ns : Nat} {gs' : List Value} {ng' : Nat} (hvs : IntsAre vs p.1) (hgs' : IntsAre gs' (g ++ p.2)) (h1 : m (Str.ofString "steps") = some (.ref Tb)) (h2 : m (Str.ofString "way") = some (.ref W)) (h3 : m (Str.ofString "total") = some (.int tot tt)) (h4 : m (Str.ofString "rings") = some (.ref G)) (h5 : m (Str.ofString "sums") = some (.ref S)) :
    WayI Tb W tot tt G S g rest p m ((S, listOf vs.toArray ns) :: (G, listOf gs'.toArray ng') :: rest) := by
  rw [form5_of h1 h2 h3 h4 h5]; exact .mk vs ns gs' ng' m hvs hgs'
theorem c_ways (Tb : Addr) (Rs : List Addr) (us : List (List Value)) (kT : Nat) (M : Mat) (hok : RowsOk us M) (hRl : Rs.length = 4) : ∀ (k : Nat) (way : List Nat) (W : Addr) (vw : List Value) (nw : Nat) (tot : Int) (tt : Tok) (G : Addr) (gs : List Value) (ng : Nat) (g : List Int) (rest : List (Addr × Obj)),
    way.length + k = 5 → way ≠ [] → way.Nodup → (∀ a ∈ way, a < 4) → IntsAre vw (way.map fun a : Nat => (a : Int)) → IntsAre gs g → (Tb, listOf (Rs.map Value.ref).toArray kT) ∈ rest → (∀ (i : Nat) (R : Addr) (u : List Value), Rs[i]? = some R → us[i]? = some u → (R, listOf u.toArray 0) ∈ rest) → (W, listOf vw.toArray nw) ∈ rest → (∀ p ∈ rest, p.1 ≠ G) → g.length + cR k ≤ 5000 →
    Spec w mean mg mb 174 [.ref Tb, .ref W, .int tot tt, .ref G] ((G, listOf gs.toArray ng) :: rest) (k + 2) (fun y n' => ∃ S vs ns gs' ng', y = .ref S ∧ IntsAre vs (waysF M k way tot).1 ∧ IntsAre gs' (g ++ (waysF M k way tot).2) ∧ S ≠ G ∧ (∀ p ∈ rest, p.1 ≠ S) ∧ n' = (S, listOf vs.toArray ns) :: (G, listOf gs'.toArray ng') :: rest) := by
  intro k
  induction k with
  | zero =>
    intro way W vw nw tot tt G gs ng g rest hlen hne hnd hlt
    have := nodup_le 4 way hnd hlt
    omega
  | succ k ih =>
  intro way W vw nw tot tt G gs ng g rest hlen hne hnd hlt hvw hgs hT hRows hW hG hcap
  w_top off
  refine ⟨?_⟩
  intro dp un gd cn cs a9 ccd cl outer A₀ base h₀ L m s Q E B F X N T hk hd hu hret
  refine wpAny_call ?_
  k_dflt cell_enter
  refine letA (P := fun A => wpAny _ A _ _ _ _) ?_
  intro A9
  repeat' (first | ((with_reducible show wpAny _ _ (exec (Stmt.For _ _ _ _ _) _) _ _ _); refine Hold.out ?_) | (k_unfold; (try dsimp only)) | (k_end; kc_close) | walk1 | (dsimp only; walk1) | (leave1; walk_say "STEP leave1"; (try dsimp only)) | fail "no step")
  unfold Hold
  rename_i S hq lS hS FS NS
  (rename Fr _ _ _ _ => lF'); (with_unfolding_all refine' For_invVF lF' ?f1 ?f2 ?_)
  case f1 => exact rfl
  case f2 => exact rfl
  repeat' (first | ((with_reducible show wpAny _ _ (pyIter _) _ _ _); refine Hold.out ?_) | (k_unfold; (try dsimp only)) | (k_end; kc_close) | walk1 | (dsimp only; walk1) | (leave1; walk_say "STEP leave1"; (try dsimp only)) | ((with_reducible show wpAny _ _ (eval (Expr.Name _ _) _) _ _ _); refine nameEq (y := Str.ofString "range") (by decide +kernel) ?_; walk1) | fail "no step")
  unfold Hold
  rename IsRange _ _ _ _ _ _ _ _ => hR
  rename Fr _ _ _ _ => lF'
  rename News _ _ _ _ => lN'
  have hSG : @Ne Nat S G := Nat.ne_of_gt lS.1
  have hSr := allLt_out lS.2
  have hbnd := stW_len M k (waysF_len M k) way tot
  have hway : way.length ≤ 4 := nodup_le 4 way hnd hlt
  with_unfolding_all refine' iter_rangeJ (n := 4) (fun i => WayI Tb W tot tt G S g rest (stW M k way tot i)) ?kh hR ?ks ?kn lF' lN' ?_ ?_ ?_
  case kh => exact rfl
  case ks => decide
  case kn => decide
  · exact .of (.cons _ _ .nil) (by rw [show (stW M k way tot 0).2 = [] from rfl, List.append_nil]; assumption) rfl rfl rfl rfl rfl
  · rintro i t m₁ nx h tk own hi hoff ⟨vs, ns, gs', ng', u, hvs, hgs'⟩ F₁ N₁
    clear lF' lN' hR
    replace hi : i < (4 : Nat) := hi
    rw [stW_step M k way tot hi]
    have hb := hbnd i (by omega)
    have hb2 : i * (1 + cR k) ≤ 3 * (1 + cR k) := Nat.mul_le_mul_right _ (by omega)
    have hb3 : i * cS k ≤ 3 * cS k := Nat.mul_le_mul_right _ (by omega)
    have hlast : way.getLastD 0 < 4 := hlt _ (by rw [List.getLastD_eq_getLast?, List.getLast?_eq_some_getLast hne]; exact List.getLast_mem hne)
    obtain ⟨tl, hvl⟩ := ints_last hvw hne
    obtain ⟨t0, hv0⟩ := ints_first hvw hne
    obtain ⟨RL, hRL⟩ : ∃ R, Rs[way.getLastD 0]? = some R := ⟨_, List.getElem?_eq_getElem (by omega)⟩
    have hVL : (Rs.map Value.ref)[((way.getLastD 0 : Nat) : Int).toNat]? = some (.ref RL) := by rw [Int.toNat_natCast, List.getElem?_map, hRL]; rfl
    obtain ⟨uL, huL, huLl, hvv⟩ := hok.2 _ hlast
    obtain ⟨v, hv, ho⟩ := hvv i hi
    have hv' : uL[((i : Nat) : Int).toNat]? = some v := by rw [Int.toNat_natCast]; exact hv
    have mT := List.mem_append_left own hT
    have mR := List.mem_append_left own (hRows _ _ _ hRL huL)
    have mW := List.mem_append_left own hW
    have oG : ∀ p ∈ rest ++ own, p.1 ≠ G := fun p hp => (List.mem_append.mp hp).elim (hG p) fun hp => hoff p hp G (by simp)
    have oS : ∀ p ∈ rest ++ own, p.1 ≠ S := fun p hp => (List.mem_append.mp hp).elim (fun hp => Nat.ne_of_lt (hSr p hp)) fun hp => hoff p hp S (by simp)
    have hgl : gs'.length ≤ 5000 := by rw [hgs'.length, List.length_append]; simp only [cR] at hcap; omega
    have hgz : gs'.toArray.size ≤ sizeLine := by rw [List.size_toArray, sizeLine_eq]; omega
    clear F X B N T
    refine genQ (P := fun QQ => wpAny _ _ (execs _ _) QQ _ _) _ ?_
    intro QQ hQQ
    cases hM : M (way.getLastD 0) i with
    | none =>
      rw [hM] at ho
      have ev : v = .none := ho
      subst ev
      have et : ∀ p, turnF M (waysF M k) way tot p i = p := fun p => by unfold turnF; rw [hM]
      repeat' (first | ((with_reducible show wpAny _ _ (call (Value.ref 174) _) _ _ _); refine Hold.out ?_) | ((with_reducible show wpAny _ _ (subscriptTail _ _ (Value.ref _) (Value.int (-1) _)) _ _ _); k_dflt (refine' sub_neg ?k1 ?k2 ?k3 ?_ ?k7; (case k1 => k_asm); (case k2 => k_mem); (case k3 => assumption); (case k7 => with_unfolding_all rfl); k_whole)) | ((with_reducible show wpAny _ _ (subscriptTail _ _ (Value.ref _) (Value.int _ _)) _ _ _); k_dflt (refine' sub_any ?k1 ?k2 ?k3 ?k4 ?k5 ?_ ?k7; (case k1 => k_asm); (case k2 => k_mem); (case k3 => assumption); (case k4 => first | assumption | omega); (case k5 => first | assumption | omega); (case k7 => with_unfolding_all rfl); k_whole)) | ((with_reducible show wpAny _ _ (compareOp CmpOp.NotIn (Value.int _ _) (Value.ref _)) _ _ _); k_dflt (refine' notin_list_ints ?nl9 ?ni9 ?_; (case nl9 => exact News.isList (by k_asm) (by k_mem)); (case ni9 => assumption); k_whole); rw [hany]) | ((with_reducible show wpAny _ _ (call (Value.builtin "list.append") _) _ _ _); k_dflt (refine' append_K ?k1 ?k2 ?k3 ?_ ?z; (case k1 => k_asm); (case k2 => k_asm); (case k3 => k_upd); (case z => assumption); k_whole); intro h9 F9 N9; (try k_sweep)) | ((with_reducible show wpAny _ _ (binaryOp Operator.Add (Value.ref _) (Value.ref _)) _ _ _); k_dflt (refine' kmk_add_ints ?ca9 ?cb9 ?cc9 ?cd9 ?ce9 ?cf9 ?_ ?cg9; (case ca9 => k_asm); (case cb9 => k_asm); (case cc9 => exact News.isList (by k_asm) (by k_mem)); (case cd9 => exact News.isList (by k_asm) (by k_mem)); (case ce9 => assumption); (case cf9 => exact .cons _ _ .nil); (case cg9 => assumption)); intro D9 ws9 h9 F9 N9 l9 hI9; (try k_lt l9); (try k_sweep)) | ((show @ite Prop _ _ _ _); first | refine ite_pos (decide_eq_true hq') ?_ | refine ite_neg (Bool.eq_false_iff.mp (decide_eq_false hq')) ?_ | refine ite_pos hq' ?_ | refine ite_neg hq' ?_) | (k_unfold; (try dsimp only)) | (k_end; kc_close) | walk1 | (dsimp only; walk1) | (leave1; walk_say "STEP leave1"; (try dsimp only)) | ((with_reducible show wpAny _ _ (getMethod _ _ _) _ _ _); refine methEq (y := Str.ofString "append") (by decide +kernel) ?_; walk1) | fail "no step")
      all_goals (try dsimp only)
      rw [← hQQ]
      dsimp only [InvPostN]
      refine InvEndN.mk' ((S, listOf vs.toArray ns) :: (G, listOf gs'.toArray ng') :: rest) (by k_asm) (by k_asm) (by (intro p hp; repeat (first | exact hp | refine List.mem_cons_of_mem _ ?_))) rfl ?_
      exact .of (by rw [et]; exact hvs) (by rw [et]; exact hgs') rfl rfl rfl rfl rfl
    | some st =>
      rw [hM] at ho
      obtain ⟨ts, ev⟩ := ho
      subst ev
      by_cases hq : i = way.headD 0
      · have hq' : (i : Int) = ((way.headD 0 : Nat) : Int) := congrArg _ hq
        have et : ∀ p, turnF M (waysF M k) way tot p i = (p.1, p.2 ++ [tot + st]) := fun p => by unfold turnF; rw [hM]; dsimp only; rw [if_pos hq]
        repeat' (first | ((with_reducible show wpAny _ _ (call (Value.ref 174) _) _ _ _); refine Hold.out ?_) | ((with_reducible show wpAny _ _ (subscriptTail _ _ (Value.ref _) (Value.int (-1) _)) _ _ _); k_dflt (refine' sub_neg ?k1 ?k2 ?k3 ?_ ?k7; (case k1 => k_asm); (case k2 => k_mem); (case k3 => assumption); (case k7 => with_unfolding_all rfl); k_whole)) | ((with_reducible show wpAny _ _ (subscriptTail _ _ (Value.ref _) (Value.int _ _)) _ _ _); k_dflt (refine' sub_any ?k1 ?k2 ?k3 ?k4 ?k5 ?_ ?k7; (case k1 => k_asm); (case k2 => k_mem); (case k3 => assumption); (case k4 => first | assumption | omega); (case k5 => first | assumption | omega); (case k7 => with_unfolding_all rfl); k_whole)) | ((with_reducible show wpAny _ _ (compareOp CmpOp.NotIn (Value.int _ _) (Value.ref _)) _ _ _); k_dflt (refine' notin_list_ints ?nl9 ?ni9 ?_; (case nl9 => exact News.isList (by k_asm) (by k_mem)); (case ni9 => assumption); k_whole); rw [hany]) | ((with_reducible show wpAny _ _ (call (Value.builtin "list.append") _) _ _ _); k_dflt (refine' append_K ?k1 ?k2 ?k3 ?_ ?z; (case k1 => k_asm); (case k2 => k_asm); (case k3 => k_upd); (case z => assumption); k_whole); intro h9 F9 N9; (try k_sweep)) | ((with_reducible show wpAny _ _ (binaryOp Operator.Add (Value.ref _) (Value.ref _)) _ _ _); k_dflt (refine' kmk_add_ints ?ca9 ?cb9 ?cc9 ?cd9 ?ce9 ?cf9 ?_ ?cg9; (case ca9 => k_asm); (case cb9 => k_asm); (case cc9 => exact News.isList (by k_asm) (by k_mem)); (case cd9 => exact News.isList (by k_asm) (by k_mem)); (case ce9 => assumption); (case cf9 => exact .cons _ _ .nil); (case cg9 => assumption)); intro D9 ws9 h9 F9 N9 l9 hI9; (try k_lt l9); (try k_sweep)) | ((show @ite Prop _ _ _ _); first | refine ite_pos (decide_eq_true hq') ?_ | refine ite_neg (Bool.eq_false_iff.mp (decide_eq_false hq')) ?_ | refine ite_pos hq' ?_ | refine ite_neg hq' ?_) | (k_unfold; (try dsimp only)) | (k_end; kc_close) | walk1 | (dsimp only; walk1) | (leave1; walk_say "STEP leave1"; (try dsimp only)) | ((with_reducible show wpAny _ _ (getMethod _ _ _) _ _ _); refine methEq (y := Str.ofString "append") (by decide +kernel) ?_; walk1) | fail "no step")
        all_goals (try dsimp only)
        rw [← hQQ]
        dsimp only [InvPostN]
        rw [List.push_toArray] at N9
        refine InvEndN.mk' ((S, listOf vs.toArray ns) :: (G, listOf _ (ng' + 1)) :: rest) (by k_asm) N9 (by (intro p hp; repeat (first | exact hp | refine List.mem_cons_of_mem _ ?_))) rfl ?_
        exact .of (by rw [et]; exact hvs) (by rw [et, ← List.append_assoc]; exact hgs'.append (.cons _ _ .nil)) rfl rfl rfl rfl rfl
      · have hq' : ¬ (i : Int) = ((way.headD 0 : Nat) : Int) := fun e => hq (Int.ofNat.inj e)
        by_cases hin : i ∈ way
        · have hany : ((way.map fun a : Nat => (a : Int)).any (· == (i : Int))) = true := by
            rw [List.any_map]; exact List.any_eq_true.mpr ⟨i, hin, by simp⟩
          have et : ∀ p, turnF M (waysF M k) way tot p i = p := fun p => by unfold turnF; rw [hM]; dsimp only; rw [if_neg hq, if_pos hin]
          repeat' (first | ((with_reducible show wpAny _ _ (call (Value.ref 174) _) _ _ _); refine Hold.out ?_) | ((with_reducible show wpAny _ _ (subscriptTail _ _ (Value.ref _) (Value.int (-1) _)) _ _ _); k_dflt (refine' sub_neg ?k1 ?k2 ?k3 ?_ ?k7; (case k1 => k_asm); (case k2 => k_mem); (case k3 => assumption); (case k7 => with_unfolding_all rfl); k_whole)) | ((with_reducible show wpAny _ _ (subscriptTail _ _ (Value.ref _) (Value.int _ _)) _ _ _); k_dflt (refine' sub_any ?k1 ?k2 ?k3 ?k4 ?k5 ?_ ?k7; (case k1 => k_asm); (case k2 => k_mem); (case k3 => assumption); (case k4 => first | assumption | omega); (case k5 => first | assumption | omega); (case k7 => with_unfolding_all rfl); k_whole)) | ((with_reducible show wpAny _ _ (compareOp CmpOp.NotIn (Value.int _ _) (Value.ref _)) _ _ _); k_dflt (refine' notin_list_ints ?nl9 ?ni9 ?_; (case nl9 => exact News.isList (by k_asm) (by k_mem)); (case ni9 => assumption); k_whole); rw [hany]) | ((with_reducible show wpAny _ _ (call (Value.builtin "list.append") _) _ _ _); k_dflt (refine' append_K ?k1 ?k2 ?k3 ?_ ?z; (case k1 => k_asm); (case k2 => k_asm); (case k3 => k_upd); (case z => assumption); k_whole); intro h9 F9 N9; (try k_sweep)) | ((with_reducible show wpAny _ _ (binaryOp Operator.Add (Value.ref _) (Value.ref _)) _ _ _); k_dflt (refine' kmk_add_ints ?ca9 ?cb9 ?cc9 ?cd9 ?ce9 ?cf9 ?_ ?cg9; (case ca9 => k_asm); (case cb9 => k_asm); (case cc9 => exact News.isList (by k_asm) (by k_mem)); (case cd9 => exact News.isList (by k_asm) (by k_mem)); (case ce9 => assumption); (case cf9 => exact .cons _ _ .nil); (case cg9 => assumption)); intro D9 ws9 h9 F9 N9 l9 hI9; (try k_lt l9); (try k_sweep)) | ((show @ite Prop _ _ _ _); first | refine ite_pos (decide_eq_true hq') ?_ | refine ite_neg (Bool.eq_false_iff.mp (decide_eq_false hq')) ?_ | refine ite_pos hq' ?_ | refine ite_neg hq' ?_) | (k_unfold; (try dsimp only)) | (k_end; kc_close) | walk1 | (dsimp only; walk1) | (leave1; walk_say "STEP leave1"; (try dsimp only)) | ((with_reducible show wpAny _ _ (getMethod _ _ _) _ _ _); refine methEq (y := Str.ofString "append") (by decide +kernel) ?_; walk1) | fail "no step")
          all_goals (try dsimp only)
          rw [← hQQ]
          dsimp only [InvPostN]
          refine InvEndN.mk' ((S, listOf vs.toArray ns) :: (G, listOf gs'.toArray ng') :: rest) (by k_asm) (by k_asm) (by (intro p hp; repeat (first | exact hp | refine List.mem_cons_of_mem _ ?_))) rfl ?_
          exact .of (by rw [et]; exact hvs) (by rw [et]; exact hgs') rfl rfl rfl rfl rfl
        · have hany : ((way.map fun a : Nat => (a : Int)).any (· == (i : Int))) = false := by
            rw [List.any_map]; exact List.any_eq_false.mpr fun a ha => by
              simp only [Function.comp, beq_iff_eq]; intro e; exact hin (Int.ofNat.inj e ▸ ha)
          have hwz : (way.map fun a : Nat => (a : Int)).length + [((i : Nat) : Int)].length ≤ sizeLine := by rw [List.length_map, sizeLine_eq, List.length_singleton]; omega
          have et : ∀ p, turnF M (waysF M k) way tot p i = (p.1 ++ (waysF M k (way ++ [i]) (tot + st)).1, p.2 ++ (waysF M k (way ++ [i]) (tot + st)).2) := fun p => by unfold turnF; rw [hM]; dsimp only; rw [if_neg hq, if_neg hin]
          have hcS : cS k ≤ 100 := (show ∀ k, k ≤ 3 → cS k ≤ 100 by decide) k (by have := List.length_pos_iff.mpr hne; omega)
          have hwl := waysF_len M k (way ++ [i]) (tot + st)
          repeat' (first | ((with_reducible show wpAny _ _ (call (Value.ref 174) _) _ _ _); refine Hold.out ?_) | ((with_reducible show wpAny _ _ (subscriptTail _ _ (Value.ref _) (Value.int (-1) _)) _ _ _); k_dflt (refine' sub_neg ?k1 ?k2 ?k3 ?_ ?k7; (case k1 => k_asm); (case k2 => k_mem); (case k3 => assumption); (case k7 => with_unfolding_all rfl); k_whole)) | ((with_reducible show wpAny _ _ (subscriptTail _ _ (Value.ref _) (Value.int _ _)) _ _ _); k_dflt (refine' sub_any ?k1 ?k2 ?k3 ?k4 ?k5 ?_ ?k7; (case k1 => k_asm); (case k2 => k_mem); (case k3 => assumption); (case k4 => first | assumption | omega); (case k5 => first | assumption | omega); (case k7 => with_unfolding_all rfl); k_whole)) | ((with_reducible show wpAny _ _ (compareOp CmpOp.NotIn (Value.int _ _) (Value.ref _)) _ _ _); k_dflt (refine' notin_list_ints ?nl9 ?ni9 ?_; (case nl9 => exact News.isList (by k_asm) (by k_mem)); (case ni9 => assumption); k_whole); rw [hany]) | ((with_reducible show wpAny _ _ (call (Value.builtin "list.append") _) _ _ _); k_dflt (refine' append_K ?k1 ?k2 ?k3 ?_ ?z; (case k1 => k_asm); (case k2 => k_asm); (case k3 => k_upd); (case z => assumption); k_whole); intro h9 F9 N9; (try k_sweep)) | ((with_reducible show wpAny _ _ (binaryOp Operator.Add (Value.ref _) (Value.ref _)) _ _ _); k_dflt (refine' kmk_add_ints ?ca9 ?cb9 ?cc9 ?cd9 ?ce9 ?cf9 ?_ ?cg9; (case ca9 => k_asm); (case cb9 => k_asm); (case cc9 => exact News.isList (by k_asm) (by k_mem)); (case cd9 => exact News.isList (by k_asm) (by k_mem)); (case ce9 => assumption); (case cf9 => exact .cons _ _ .nil); (case cg9 => assumption)); intro D9 ws9 h9 F9 N9 l9 hI9; (try k_lt l9); (try k_sweep)) | ((show @ite Prop _ _ _ _); first | refine ite_pos (decide_eq_true hq') ?_ | refine ite_neg (Bool.eq_false_iff.mp (decide_eq_false hq')) ?_ | refine ite_pos hq' ?_ | refine ite_neg hq' ?_) | (k_unfold; (try dsimp only)) | (k_end; kc_close) | walk1 | (dsimp only; walk1) | (leave1; walk_say "STEP leave1"; (try dsimp only)) | ((with_reducible show wpAny _ _ (getMethod _ _ _) _ _ _); refine methEq (y := Str.ofString "append") (by decide +kernel) ?_; walk1) | fail "no step")
          unfold Hold
          have l9' := allLt_out l9.2
          have hSD : @Ne Nat D9 S := Nat.ne_of_gt (l9' _ (List.mem_cons_self ..))
          have hGD : @Ne Nat D9 G := Nat.ne_of_gt (l9' _ (List.mem_cons_of_mem _ (List.mem_cons_self ..)))
          have hI : IntsAre ws9 ((way ++ [i]).map fun a : Nat => (a : Int)) := by rw [List.map_append]; exact hI9
          have N8 : News _ _ _ ((G, listOf gs'.toArray ng') :: ((D9, listOf ws9.toArray 0) :: (S, listOf vs.toArray ns) :: (rest ++ own))) := fun p hp => N9 p (by
            rcases List.mem_cons.mp hp with rfl | hp
            · exact List.mem_cons_of_mem _ (List.mem_cons_of_mem _ (List.mem_cons_of_mem _ (List.mem_cons_self ..)))
            · rcases List.mem_cons.mp hp with rfl | hp
              · exact List.mem_cons_self ..
              · rcases List.mem_cons.mp hp with rfl | hp
                · exact List.mem_cons_of_mem _ (List.mem_cons_of_mem _ (List.mem_cons_self ..))
                · exact List.mem_cons_of_mem _ (List.mem_cons_of_mem _ (List.mem_cons_of_mem _ (List.mem_cons_of_mem _ hp))))
          clear N9
          have up : ∀ p ∈ rest, p ∈ (D9, listOf ws9.toArray 0) :: (S, listOf vs.toArray ns) :: (rest ++ own) := fun p hp => List.mem_cons_of_mem _ (List.mem_cons_of_mem _ (List.mem_append_left _ hp))
          k_dflt (refine' Spec.use (ih (way ++ [i]) D9 ws9 0 (tot + st) _ G gs' ng' (g ++ (stW M k way tot i).2) ((D9, listOf ws9.toArray 0) :: (S, listOf vs.toArray ns) :: (rest ++ own)) ?i1 ?i2 ?i3 ?i4 hI hgs' (up _ hT) (fun j R u h1 h2 => up _ (hRows j R u h1 h2)) (List.mem_cons_self ..) ?i5 ?i6) ?k1 ?k2 ?k3 N8 ?k5 ?kK ?kd ?ku ?_)
          case k1 => k_asm
          case k2 => k_asm
          case k3 => k_asm
          case k5 => k_asm
          case i1 => rw [List.length_append, List.length_singleton]; omega
          case i2 => exact List.append_ne_nil_of_left_ne_nil hne _
          case i3 => exact List.nodup_append.mpr ⟨hnd, List.nodup_cons.mpr ⟨List.not_mem_nil, List.nodup_nil⟩, fun a ha b hb e => hin (by rw [List.mem_singleton.mp hb] at e; exact e ▸ ha)⟩
          case i4 => exact fun a ha => (List.mem_append.mp ha).elim (hlt a) fun ha => by rw [List.mem_singleton.mp ha]; exact hi
          case i5 =>
            intro p hp
            rcases List.mem_cons.mp hp with rfl | hp
            · exact hGD
            · rcases List.mem_cons.mp hp with rfl | hp
              · exact hSG
              · exact oG p hp
          case i6 => rw [List.length_append]; simp only [cR] at hcap; omega
          case kK => first | exact rfl | assumption
          case kd => ktr_room
          case ku => ktr_units
          rintro v9 news9 h10 tk10 F10 N10 ⟨S', vs', ns', gs'', ng'', rfl, hvs', hgs'', hSG', hSr', rfl⟩
          dsimp only
          have hSS : @Ne Nat S' S := fun e => hSr' (S, listOf vs.toArray ns) (List.mem_cons_of_mem _ (List.mem_cons_self ..)) e.symm
          refine iadd_list (vs := vs) (ws := vs') (n := ns) F10 N10 (List.mem_cons_self ..) ?_ (fun n' => ⟨(S', listOf vs'.toArray ns') :: (G, listOf gs''.toArray ng'') :: (D9, listOf ws9.toArray 0) :: (S, listOf (vs ++ vs').toArray n') :: (rest ++ own), ?_, fun h11 F11 N11 => ?_⟩)
          · rw [hvs.length, hvs'.length, sizeLine_eq]; omega
          · exact Upd.tail hSS (Upd.tail (Ne.symm hSG) (Upd.tail hSD (Upd.head oS)))
          · clear F10 N10 N8 F9
            repeat' (first | ((with_reducible show wpAny _ _ (call (Value.ref 174) _) _ _ _); refine Hold.out ?_) | ((with_reducible show wpAny _ _ (subscriptTail _ _ (Value.ref _) (Value.int (-1) _)) _ _ _); k_dflt (refine' sub_neg ?k1 ?k2 ?k3 ?_ ?k7; (case k1 => k_asm); (case k2 => k_mem); (case k3 => assumption); (case k7 => with_unfolding_all rfl); k_whole)) | ((with_reducible show wpAny _ _ (subscriptTail _ _ (Value.ref _) (Value.int _ _)) _ _ _); k_dflt (refine' sub_any ?k1 ?k2 ?k3 ?k4 ?k5 ?_ ?k7; (case k1 => k_asm); (case k2 => k_mem); (case k3 => assumption); (case k4 => first | assumption | omega); (case k5 => first | assumption | omega); (case k7 => with_unfolding_all rfl); k_whole)) | ((with_reducible show wpAny _ _ (compareOp CmpOp.NotIn (Value.int _ _) (Value.ref _)) _ _ _); k_dflt (refine' notin_list_ints ?nl9 ?ni9 ?_; (case nl9 => exact News.isList (by k_asm) (by k_mem)); (case ni9 => assumption); k_whole); rw [hany]) | ((with_reducible show wpAny _ _ (call (Value.builtin "list.append") _) _ _ _); k_dflt (refine' append_K ?k1 ?k2 ?k3 ?_ ?z; (case k1 => k_asm); (case k2 => k_asm); (case k3 => k_upd); (case z => assumption); k_whole); intro h9 F9 N9; (try k_sweep)) | ((with_reducible show wpAny _ _ (binaryOp Operator.Add (Value.ref _) (Value.ref _)) _ _ _); k_dflt (refine' kmk_add_ints ?ca9 ?cb9 ?cc9 ?cd9 ?ce9 ?cf9 ?_ ?cg9; (case ca9 => k_asm); (case cb9 => k_asm); (case cc9 => exact News.isList (by k_asm) (by k_mem)); (case cd9 => exact News.isList (by k_asm) (by k_mem)); (case ce9 => assumption); (case cf9 => exact .cons _ _ .nil); (case cg9 => assumption)); intro D9 ws9 h9 F9 N9 l9 hI9; (try k_lt l9); (try k_sweep)) | ((show @ite Prop _ _ _ _); first | refine ite_pos (decide_eq_true hq') ?_ | refine ite_neg (Bool.eq_false_iff.mp (decide_eq_false hq')) ?_ | refine ite_pos hq' ?_ | refine ite_neg hq' ?_) | (k_unfold; (try dsimp only)) | (k_end; kc_close) | walk1 | (dsimp only; walk1) | (leave1; walk_say "STEP leave1"; (try dsimp only)) | ((with_reducible show wpAny _ _ (getMethod _ _ _) _ _ _); refine methEq (y := Str.ofString "append") (by decide +kernel) ?_; walk1) | fail "no step")
            all_goals (try dsimp only)
            rw [← hQQ]
            dsimp only [InvPostN]
            refine InvEndN.mk' ((S, listOf (vs ++ vs').toArray n') :: (G, listOf gs''.toArray ng'') :: rest) (by k_asm) (by k_asm) ?_ rfl ?_
            · intro p hp
              rcases List.mem_cons.mp hp with rfl | hp
              · exact List.mem_cons_of_mem _ (List.mem_cons_of_mem _ (List.mem_cons_of_mem _ (List.mem_cons_self ..)))
              · rcases List.mem_cons.mp hp with rfl | hp
                · exact List.mem_cons_of_mem _ (List.mem_cons_self ..)
                · exact List.mem_cons_of_mem _ (List.mem_cons_of_mem _ (List.mem_cons_of_mem _ (List.mem_cons_of_mem _ hp)))
            · exact .of (by rw [et]; exact hvs.append hvs') (by rw [et, ← List.append_assoc]; exact hgs'') rfl rfl rfl rfl rfl
  · rintro m₁ nx h tk ⟨vs, ns, gs', ng', u, hvs, hgs'⟩ F₁ N₁
    clear lF' lN' hR
    k_steps
    all_goals refine hret _ _ _ _ (by k_asm) (by k_asm) ?_
    exact ⟨S, vs, ns, gs', ng', rfl, hvs, hgs', hSG, fun p hp => Nat.ne_of_lt (hSr p hp), rfl⟩
end
end Mine
end
section
open PySem PySem.W PyProof.Rows
namespace Mine
set_option maxRecDepth 100000
set_option maxHeartbeats 8000000
section
variable (w : World) (mean : ExcName → Option Value) (mg mb : Str → Option Value)

def opC (kd : Int) : List Nat := [[60], [60, 61], [61, 61], [62, 61], [62]].getD kd.toNat []
def digC (n : Nat) : List Nat := if n < 10 then [48 + n] else [48 + n / 10, 48 + n % 10]
def numC (b : Int) : List Nat := if b < 0 then 45 :: digC b.natAbs else digC b.natAbs
def drawC (d : Int × Int × Int × Int) : List Nat := [97 + d.1.toNat, 45, 97 + d.2.1.toNat] ++ opC d.2.2.1 ++ numC d.2.2.2
theorem item_abcd {o : Int} (h : 0 ≤ o ∧ o < 4) : Txt.item (Str.ofString "abcd") o = ⟨#[97 + o.toNat]⟩ := by
  obtain ⟨n, rfl⟩ := Int.eq_ofNat_of_zero_le h.1
  have hn : n < 4 := by omega
  exact (show ∀ n : Nat, n < 4 → Txt.item (Str.ofString "abcd") (n : Int) = ⟨#[97 + (n : Int).toNat]⟩ by decide +kernel) n hn
theorem ops_kd {kd : Int} (h : 0 ≤ kd ∧ kd < 5) : [Str.ofString "<", Str.ofString "<=", Str.ofString "==", Str.ofString ">=", Str.ofString ">"].getD kd.toNat (Str.ofString "") = ⟨(opC kd).toArray⟩ := by
  obtain ⟨n, rfl⟩ := Int.eq_ofNat_of_zero_le h.1
  have hn : n < 5 := by omega
  exact (show ∀ n : Nat, n < 5 → [Str.ofString "<", Str.ofString "<=", Str.ofString "==", Str.ofString ">=", Str.ofString ">"].getD (n : Int).toNat (Str.ofString "") = ⟨(opC (n : Int)).toArray⟩ by decide +kernel) n hn
theorem num_bd {b : Int} (h : -20 ≤ b ∧ b ≤ 20) : Str.ofString (toString b) = ⟨(numC b).toArray⟩ ∧ (numC b).length ≤ 3 := by
  obtain ⟨n, hn⟩ := Int.eq_ofNat_of_zero_le (show 0 ≤ b + 20 by omega)
  have hn' : n < 41 := by omega
  have e : b = (n : Int) - 20 := by omega
  rw [e]
  exact (show ∀ n : Nat, n < 41 → Str.ofString (toString ((n : Int) - 20)) = ⟨(numC ((n : Int) - 20)).toArray⟩ ∧ (numC ((n : Int) - 20)).length ≤ 3 by decide +kernel) n hn'
theorem str_app (a b : List Nat) : (⟨a.toArray⟩ : Str) ++ (⟨b.toArray⟩ : Str) = ⟨(a ++ b).toArray⟩ := by
  show Str.append _ _ = _
  unfold Str.append
  simp
theorem text_eq {o tw kd bd : Int} (h1 : 0 ≤ o ∧ o < 4) (h2 : 0 ≤ tw ∧ tw < 4) (h3 : 0 ≤ kd ∧ kd < 5) (h4 : -20 ≤ bd ∧ bd ≤ 20) :
    Txt.item (Str.ofString "abcd") o ++ Str.ofString "-" ++ Txt.item (Str.ofString "abcd") tw ++ [Str.ofString "<", Str.ofString "<=", Str.ofString "==", Str.ofString ">=", Str.ofString ">"].getD kd.toNat (Str.ofString "") ++ Str.ofString (toString bd) = ⟨(drawC (o, tw, kd, bd)).toArray⟩ := by
  rw [item_abcd h1, item_abcd h2, ops_kd h3, (num_bd h4).1, show Str.ofString "-" = ⟨[45].toArray⟩ by decide +kernel]
  rw [show (#[97 + o.toNat] : Array Nat) = [97 + o.toNat].toArray from rfl, show (#[97 + tw.toNat] : Array Nat) = [97 + tw.toNat].toArray from rfl, str_app, str_app, str_app, str_app]
  rfl
theorem text_fits {o tw kd bd : Int} (h1 : 0 ≤ o ∧ o < 4) (h2 : 0 ≤ tw ∧ tw < 4) (h3 : 0 ≤ kd ∧ kd < 5) (h4 : -20 ≤ bd ∧ bd ≤ 20) :
    (Txt.item (Str.ofString "abcd") o ++ Str.ofString "-" ++ Txt.item (Str.ofString "abcd") tw ++ [Str.ofString "<", Str.ofString "<=", Str.ofString "==", Str.ofString ">=", Str.ofString ">"].getD kd.toNat (Str.ofString "")).length + (Str.ofString (toString bd)).length ≤ sizeLine := by
  rw [item_abcd h1, item_abcd h2, ops_kd h3, (num_bd h4).1, show Str.ofString "-" = ⟨[45].toArray⟩ by decide +kernel]
  rw [show (#[97 + o.toNat] : Array Nat) = [97 + o.toNat].toArray from rfl, show (#[97 + tw.toNat] : Array Nat) = [97 + tw.toNat].toArray from rfl, str_app, str_app, str_app]
  have h := (num_bd h4).2
  have ho : (opC kd).length ≤ 2 := by
    obtain ⟨n, rfl⟩ := Int.eq_ofNat_of_zero_le h3.1
    have hn : n < 5 := by omega
    exact (show ∀ n : Nat, n < 5 → (opC (n : Int)).length ≤ 2 by decide +kernel) n hn
  unfold Str.length
  rw [List.size_toArray, List.size_toArray, sizeLine_eq]
  simp only [List.length_append, List.length_cons, List.length_nil]
  omega
theorem text_eq2 {o tw kd bd : Int} (h1 : 0 ≤ o ∧ o < 4) (h2 : 0 ≤ tw ∧ tw < 4) (h3 : 0 ≤ kd ∧ kd < 5) (h4 : -20 ≤ bd ∧ bd ≤ 20) :
    Txt.item ⟨⟨[97, 98, 99, 100]⟩⟩ o ++ ⟨⟨[45]⟩⟩ ++ Txt.item ⟨⟨[97, 98, 99, 100]⟩⟩ tw ++ [(⟨⟨[60]⟩⟩ : Str), ⟨⟨[60, 61]⟩⟩, ⟨⟨[61, 61]⟩⟩, ⟨⟨[62, 61]⟩⟩, ⟨⟨[62]⟩⟩].getD kd.toNat (Str.ofString "") ++ Str.ofString (toString bd) = ⟨(drawC (o, tw, kd, bd)).toArray⟩ := by
  have e1 : (⟨⟨[97, 98, 99, 100]⟩⟩ : Str) = Str.ofString "abcd" := by decide +kernel
  have e2 : (⟨⟨[45]⟩⟩ : Str) = Str.ofString "-" := by decide +kernel
  have e3 : [(⟨⟨[60]⟩⟩ : Str), ⟨⟨[60, 61]⟩⟩, ⟨⟨[61, 61]⟩⟩, ⟨⟨[62, 61]⟩⟩, ⟨⟨[62]⟩⟩] = [Str.ofString "<", Str.ofString "<=", Str.ofString "==", Str.ofString ">=", Str.ofString ">"] := by decide +kernel
  rw [e1, e2, e3]
  exact text_eq h1 h2 h3 h4
theorem c_text (a : Addr) (n : Nat) (o tw kd bd : Int) (t1 t2 t3 t4 : Tok) (h1 : 0 ≤ o ∧ o < 4) (h2 : 0 ≤ tw ∧ tw < 4) (h3 : 0 ≤ kd ∧ kd < 5) (h4 : -20 ≤ bd ∧ bd ≤ 20) (news : List (Addr × Obj)) (hm : (a, ({ cls := .type "tuple", data := .seq [.int o t1, .int tw t2, .int kd t3, .int bd t4].toArray n } : Obj)) ∈ news) :
    Spec w mean mg mb 155 [.ref a] news 1 (fun y n' => ∃ t : Tok, y = .str ⟨(drawC (o, tw, kd, bd)).toArray⟩ t ∧ n' = news) := by
  w_top off
  refine ⟨?_⟩
  intro dp un gd cn cs a9 ccd cl outer A₀ base h₀ L m s Q E B F X N T hk hd hu hret
  refine wpAny_call ?_
  k_dflt cell_enter
  refine letA (P := fun A => wpAny _ A _ _ _ _) ?_
  intro A9
  have hfit := text_fits h1 h2 h3 h4
  repeat' (first | ((with_reducible show wpAny _ _ (subscriptTail _ _ (Value.ref _) (Value.int kd _)) _ _ _); k_dflt (refine' sub_strs ?k1 ?k2 ?k3 ?k4 ?k5 ?k6 ?_ ?k7; (case k1 => k_asm); (case k2 => k_mem); (case k3 => exact .cons _ _ (.cons _ _ (.cons _ _ (.cons _ _ (.cons _ _ .nil))))); (case k4 => exact h3.1); (case k5 => exact h3.2); (case k6 => omega); (case k7 => with_unfolding_all rfl); k_whole); intro _) | ((with_reducible show wpAny _ _ (binaryOp Operator.Add (Value.str _ _) (Value.str _ _)) _ _ _); refine add_str ?_ (by assumption); intro _ _) | (k_unfold; (try dsimp only)) | (k_end; kc_close) | walk1 | (dsimp only; walk1) | (leave1; walk_say "STEP leave1"; (try dsimp only)) | ((with_reducible show wpAny _ _ (eval (Expr.Name _ _) _) _ _ _); refine nameEq (y := Str.ofString "str") (by decide +kernel) ?_; walk1) | fail "no step")
  refine (congrArg (fun x : Str => Q (.str x _) _) (text_eq2 h1 h2 h3 h4)).mpr ?_
  have kN' : News h₀ L _ news := fun p hp => (by assumption : News h₀ L _ _) p (List.mem_cons_of_mem _ hp)
  exact hret _ _ _ _ (by k_asm) kN' ⟨_, rfl, rfl⟩
end
end Mine
end
section
open PySem PySem.W PyProof.Rows
namespace Mine
set_option maxRecDepth 100000
set_option maxHeartbeats 8000000
section
variable (w : World) (mean : ExcName → Option Value) (mg mb : Str → Option Value)

def okey (k : Str) : Bool := match k.cps.toList with
  | [] => false
  | a :: r => [33, 37, 38, 40, 41, 42, 43, 44, 45, 46, 47, 58, 59, 60, 61, 62, 64, 91, 93, 94, 123, 124, 125, 126].contains a && (match r with
    | [] => true
    | b :: _ => [61, 42, 62, 60, 47, 46].contains b)
def okEntry (e : DictEntry) : Bool := match e.key with
  | .str k _ => okey k
  | _ => false
theorem isStr_eq {x : Str} {v : Value} (h : v.isStr x = true) : ∃ t, v = .str x t := by
  cases v <;> simp [Value.isStr] at h
  rename_i k t
  exact ⟨t, by rw [h]⟩
theorem tok_dict (P : Params) : ∃ es n, (Mine.hz.heap_216 P).lookup 106 = some ⟨.type "dict", none, .dict es n, #[]⟩ ∧ KeysLit P es.toList ∧ es.toList.all okEntry = true ∧ (es.toList.any fun e => e.refKey) = false := by
  refine ⟨_, _, by k_is, by k_keys, by rfl, by rfl⟩
theorem tok_none (P : Params) {x : Str} (h : okey x = false) : nsIn (Mine.hz.heap_216 P) 106 x = some none := by
  obtain ⟨es, n, hl, _, ho, hr⟩ := tok_dict P
  unfold nsIn
  rw [hl]
  dsimp only
  split
  · rename_i e he
    have h1 := List.find?_some he
    have h2 := List.all_eq_true.mp ho e (List.mem_of_find?_eq_some he)
    obtain ⟨t, ht⟩ := isStr_eq h1
    unfold okEntry at h2
    rw [ht] at h2
    dsimp only at h2
    rw [h] at h2
    cases h2
  · rw [hr]; rfl

theorem c_containsD (x : Str) (t : Tok) (r : Option Value) (e : nsIn (Mine.hz.heap_216 w.params) 106 x = some r) (news : List (Addr × Obj)) :
    Spec w mean mg mb 84 [.ref 106, .str x t] news 1 (fun y n' => ∃ _ : Tok, y = .bool r.isSome ∧ n' = news) := by
  w_top off
  refine ⟨?_⟩
  intro dp un gd cn cs a9 ccd cl outer A₀ base h₀ L m s Q E B F X N T hk hd hu hret
  refine wpAny_call ?_
  k_dflt cell_enter
  refine letA (P := fun A => wpAny _ A _ _ _ _) ?_
  intro A9
  repeat' (first | ((with_reducible show wpAny _ _ (compareOp CmpOp.In (Value.str _ _) (Value.ref _)) _ _ _); k_dflt (refine' topIn_K ?ti1 ?ti2 ?ti3 ?ti4 ?ti5 ?ti6 ?_; (case ti1 => k_asm); (case ti2 => k_asm); (case ti3 => k_is); (case ti4 => k_keys); (case ti5 => assumption); (case ti6 => decide))) | ((with_reducible show wpAny _ _ (subscriptTail _ _ (Value.ref _) (Value.str _ _)) _ _ _); k_dflt (refine' topItem_K ?ti1 ?ti2 ?ti3 ?ti4 ?ti5 ?_; (case ti1 => k_asm); (case ti2 => k_asm); (case ti3 => k_is); (case ti4 => k_keys); (case ti5 => assumption))) | (k_unfold; (try dsimp only)) | (k_end; kc_close) | walk1 | (dsimp only; walk1) | (leave1; walk_say "STEP leave1"; (try dsimp only)) | fail "no step")
  all_goals refine hret _ _ _ _ (by k_asm) (by k_asm) ?_
  exact ⟨0, rfl, rfl⟩
theorem c_getD (x : Str) (t : Tok) (v : Value) (e : nsIn (Mine.hz.heap_216 w.params) 106 x = some (some v)) (news : List (Addr × Obj)) :
    Spec w mean mg mb 91 [.ref 106, .str x t] news 1 (fun y n' => ∃ _ : Tok, y = v ∧ n' = news) := by
  w_top off
  refine ⟨?_⟩
  intro dp un gd cn cs a9 ccd cl outer A₀ base h₀ L m s Q E B F X N T hk hd hu hret
  refine wpAny_call ?_
  k_dflt cell_enter
  refine letA (P := fun A => wpAny _ A _ _ _ _) ?_
  intro A9
  repeat' (first | ((with_reducible show wpAny _ _ (compareOp CmpOp.In (Value.str _ _) (Value.ref _)) _ _ _); k_dflt (refine' topIn_K ?ti1 ?ti2 ?ti3 ?ti4 ?ti5 ?ti6 ?_; (case ti1 => k_asm); (case ti2 => k_asm); (case ti3 => k_is); (case ti4 => k_keys); (case ti5 => assumption); (case ti6 => decide))) | ((with_reducible show wpAny _ _ (subscriptTail _ _ (Value.ref _) (Value.str _ _)) _ _ _); k_dflt (refine' topItem_K ?ti1 ?ti2 ?ti3 ?ti4 ?ti5 ?_; (case ti1 => k_asm); (case ti2 => k_asm); (case ti3 => k_is); (case ti4 => k_keys); (case ti5 => assumption))) | (k_unfold; (try dsimp only)) | (k_end; kc_close) | walk1 | (dsimp only; walk1) | (leave1; walk_say "STEP leave1"; (try dsimp only)) | fail "no step")
  all_goals refine hret _ _ _ _ (by k_asm) (by k_asm) ?_
  exact ⟨0, rfl, rfl⟩
theorem c_containsS (c : Nat) (hc : c < 128) (t u : Tok) (news : List (Addr × Obj)) :
    Spec w mean mg mb 84 [.str (Str.ofString "abcd") t, .str ⟨#[c]⟩ u] news 1 (fun y n' => ∃ _ : Tok, y = .bool (decide (97 ≤ c ∧ c < 101)) ∧ n' = news) := by
  w_top off
  refine ⟨?_⟩
  intro dp un gd cn cs a9 ccd cl outer A₀ base h₀ L m s Q E B F X N T hk hd hu hret
  refine wpAny_call ?_
  k_dflt cell_enter
  refine letA (P := fun A => wpAny _ A _ _ _ _) ?_
  intro A9
  k_steps
  all_goals refine hret _ _ _ _ (by k_asm) (by k_asm) ?_
  exact ⟨0, congrArg Value.bool ((show ∀ c, c < 128 → Txt.contains (Str.ofString "abcd") ⟨#[c]⟩ = decide (97 ≤ c ∧ c < 101) by decide +kernel) c hc), rfl⟩
structure SpecT (kt : Nat) (w : World) (mean : ExcName → Option Value) (mg mb : Str → Option Value) (f : Addr) (vs : List Value) (news : List (Addr × Obj)) (dn : Nat) (post : Value → List (Addr × Obj) → Prop) : Prop where
  run : ∀ (dp un : Nat) (gd : Option (List Code)) (cn : Str) (cs : Scope) (a : Addr) (ccd : Value) (cl : List (Str × Addr)) (outer : List Env) (A₀ : Around) (base h₀ : Heap) (L : Addr) (m : Str → Option Value) (s : Shared) (Q E : Value → Shared → Prop),
    Below A₀ base outer h₀ → Fr h₀ L s.heap m → (Mine.hz.heap_216 w.params).In h₀ → News h₀ L s.heap news →
    Top Mine.hz.view_396 (looseW Mine.hz.view_396 [Str.ofString "EXACT_TOKEN_TYPES"]) mean mg mb h₀ → cs.kind = .function →
    dp + dn < recursionLimit → un + 8 * dn < cLine → kt ≤ s.toks →
    (∀ (v : Value) (news' : List (Addr × Obj)) (h' : Heap) (tk' : Nat), Fr h₀ L h' m → News h₀ L h' news' → post v news' → Q v { s with heap := h', toks := tk' }) →
    wpAny (model Mine.pw2 w) (ktrTop dp un gd cn cs L a ccd cl outer) (call (.ref f) vs) Q E s
theorem SpecT.use {kt : Nat} {w : World} {mean : ExcName → Option Value} {mg mb : Str → Option Value} {f : Addr} {vs : List Value} {news : List (Addr × Obj)} {dn : Nat} {post : Value → List (Addr × Obj) → Prop}
    (C : SpecT kt w mean mg mb f vs news dn post) {dp un : Nat} {gd : Option (List Code)} {cn : Str} {cs : Scope} {a : Addr} {ccd : Value} {cl : List (Str × Addr)} {outer : List Env} {A₀ : Around} {base h₀ : Heap} {L : Addr} {m : Str → Option Value} {s : Shared} {Q E : Value → Shared → Prop}
    (B : Below A₀ base outer h₀) (F : Fr h₀ L s.heap m) (X : (Mine.hz.heap_216 w.params).In h₀) (N : News h₀ L s.heap news)
    (T : Top Mine.hz.view_396 (looseW Mine.hz.view_396 [Str.ofString "EXACT_TOKEN_TYPES"]) mean mg mb h₀) (hk : cs.kind = .function)
    (hd : dp + dn < recursionLimit) (hu : un + 8 * dn < cLine) (ht : kt ≤ s.toks)
    (ret : ∀ (v : Value) (news' : List (Addr × Obj)) (h' : Heap) (tk' : Nat), Fr h₀ L h' m → News h₀ L h' news' → post v news' → Q v { s with heap := h', toks := tk' }) :
    wpAny (model Mine.pw2 w) (ktrTop dp un gd cn cs L a ccd cl outer) (call (.ref f) vs) Q E s
  := C.run _ _ _ _ _ _ _ _ _ _ _ _ _ _ _ _ _ B F X N T hk hd hu ht ret
theorem none_booked {P : Params} {h₀ h : Heap} {L : Addr} {m : Str → Option Value} (X : (Mine.hz.heap_216 P).In h₀) (F : Fr h₀ L h m) : NoneBooked h :=
  ⟨fun _ => none, ⟨_, _, _, F.keep _ _ (X 2 _ (by k_is)), rfl, (fun e he => by simp at he), fun _ => rfl⟩, rfl⟩
theorem c_indexOf (c : Nat) (hc : 97 ≤ c ∧ c < 101) (t u : Tok) (hu : 1 ≤ u) (news : List (Addr × Obj)) :
    SpecT (u + 1) w mean mg mb 98 [.str (Str.ofString "abcd") t, .str ⟨#[c]⟩ u] news 1 (fun y n' => ∃ t : Tok, y = .int ((c : Int) - 97) t ∧ n' = news) := by
  w_top off
  refine ⟨?_⟩
  intro dp un gd cn cs a9 ccd cl outer A₀ base h₀ L m s Q E B F X N T hk hd hu' ht hret
  refine wpAny_call ?_
  k_dflt cell_enter
  refine letA (P := fun A => wpAny _ A _ _ _ _) ?_
  intro A9
  have hat : ∀ (i : Nat) (c' : Nat), (Str.ofString "abcd").cps[i]? = some c' → c' = 97 + i := by
    intro i c' h
    have hi : i < 4 := by
      have := (Array.getElem?_eq_some_iff.mp h).1
      have e : (Str.ofString "abcd").cps.size = 4 := by decide +kernel
      omega
    have e := (show ∀ i, i < 4 → (Str.ofString "abcd").cps[i]? = some (97 + i) by decide +kernel) i hi
    rw [e] at h
    exact (Option.some.inj h).symm
  refine wpAny_execs_cons ?_
  refine wpAny_For ?_
  repeat' (first | ((with_reducible show wpAny _ _ (call (Value.type _) [Value.str _ _]) _ _ _); refine Hold.out ?_) | (k_unfold; (try dsimp only)) | (k_end; kc_close) | walk1 | (dsimp only; walk1) | (leave1; walk_say "STEP leave1"; (try dsimp only)) | ((with_reducible show wpAny _ _ (eval (Expr.Name _ _) _) _ _ _); refine nameEq (y := Str.ofString "enumerate") (by decide +kernel) ?_; walk1) | fail "no step")
  unfold Hold
  rename Fr _ _ _ _ => lF
  rename News _ _ _ _ => lN
  with_unfolding_all refine' enum_search (j := c - 97) ?e2 lF lN ?e3 (u + 1) ?e5 (fun m => ∃ u' : Str → Option Value, m = fun y => if y = Str.ofString "b" then some (.str ⟨#[c]⟩ u) else u' y) ?e4 ?_ ?_
  case e2 => decide +kernel
  case e3 => exact Nat.lt_of_lt_of_eq (show c - 97 < 4 by omega) (by decide +kernel)
  case e4 => exact ⟨_, form1_of rfl⟩
  case e5 => exact Nat.le_trans ht (Nat.le_add_right _ _)
  · rintro i c' v ti T' p1 p2 m₁ h tk hi hv htk hc' hT ⟨u9, rfl⟩ F₁ N₁
    clear lF lN
    have e := hat i c' hc'
    subst e
    have hne : (⟨#[97 + i]⟩ : Str) ≠ ⟨#[c]⟩ := fun q => by simp at q; omega
    have hv1 : 1 ≤ v := by omega
    have hvu : v ≠ u := Nat.ne_of_gt hv
    refine genQ (P := fun QQ => wpAny _ _ (assign _ _ _) (fun _ s₂ => wpAny _ _ (execs _ _) QQ _ s₂) _ _) _ ?_
    intro QQ hQQ
    repeat' (first | ((with_reducible show wpAny _ _ (compareOp CmpOp.Is (Value.str _ _) (Value.str _ _)) _ _ _); refine is_apart hv1 hu hvu hne ?_) | ((show @ite Prop _ _ _ _); refine ite_neg (fun q => hne (eq_of_beq q)) ?_) | (k_unfold; (try dsimp only)) | (k_end; kc_close) | walk1 | (dsimp only; walk1) | (leave1; walk_say "STEP leave1"; (try dsimp only)) | fail "no step")
    all_goals (try dsimp only)
    rw [← hQQ]
    exact ⟨rfl, _, _, _, rfl, by k_asm, by k_asm, _, form1_of rfl⟩
  · rintro c' v ti T' p1 p2 m₁ h tk hv htk hc' hT ⟨u9, rfl⟩ F₁ N₁
    clear lF lN
    have e := hat _ c' hc'
    have e2 : 97 + (c - 97) = c := by omega
    rw [e2] at e
    subst e
    have hv1 : 1 ≤ v := by omega
    refine genQ (P := fun QQ => wpAny _ _ (assign _ _ _) (fun _ s₂ => wpAny _ _ (execs _ _) QQ _ s₂) _ _) _ ?_
    intro QQ hQQ
    repeat' (first | ((with_reducible show wpAny _ _ (compareOp CmpOp.Is (Value.str _ _) (Value.str _ _)) _ _ _); refine is_like hv1 hu (none_booked (by assumption) (by assumption)) ?_; intro bb; cases bb) | ((show @ite Prop _ _ _ _); refine ite_pos (beq_self_eq_true _) ?_) | (k_unfold; (try dsimp only)) | (k_end; kc_close) | walk1 | (dsimp only; walk1) | (leave1; walk_say "STEP leave1"; (try dsimp only)) | fail "no step")
    all_goals (try dsimp only)
    all_goals rw [← hQQ]
    all_goals refine ⟨_, rfl, ?_⟩
    all_goals (try dsimp only)
    all_goals k_steps
    all_goals (rename News h₀ L _ _ => kN)
    all_goals exact hret _ news _ _ (by k_asm) (fun p hp => kN p (List.mem_cons_of_mem _ (List.mem_cons_of_mem _ hp))) ⟨ti, by congr 1; omega, rfl⟩
end
end Mine
end
section
open PySem PySem.W PyProof.Rows
namespace Mine
set_option maxRecDepth 100000
set_option maxHeartbeats 8000000
section
variable (w : World) (mean : ExcName → Option Value) (mg mb : Str → Option Value)

inductive TokAt (P : Params) (l : List Nat) : Nat → Int → Prop
  | two (W : Int) (t : Tok) (h2 : nsIn (Mine.hz.heap_216 P) 106 ⟨(l.take 2).toArray⟩ = some (some (.int W t))) (hl : 2 ≤ l.length) : TokAt P l 2 W
  | one (W : Int) (t : Tok) (h2 : nsIn (Mine.hz.heap_216 P) 106 ⟨(l.take 2).toArray⟩ = some none) (h1 : nsIn (Mine.hz.heap_216 P) 106 ⟨(l.take 1).toArray⟩ = some (some (.int W t))) (hl : 1 ≤ l.length) : TokAt P l 1 W
  | name (c : Nat) (h2 : nsIn (Mine.hz.heap_216 P) 106 ⟨(l.take 2).toArray⟩ = some none) (h1 : nsIn (Mine.hz.heap_216 P) 106 ⟨(l.take 1).toArray⟩ = some none) (hc : l[0]? = some c) (hb : 97 ≤ c ∧ c < 101) : TokAt P l 1 (256 + ((c : Int) - 97))
  | num (c k : Nat) (n : Int) (h2 : nsIn (Mine.hz.heap_216 P) 106 ⟨(l.take 2).toArray⟩ = some none) (h1 : nsIn (Mine.hz.heap_216 P) 106 ⟨(l.take 1).toArray⟩ = some none) (hc : l[0]? = some c) (hb : ¬ (97 ≤ c ∧ c < 101)) (h128 : c < 128) (hk : 1 ≤ k) (hkl : k ≤ l.length) (hd : ∀ i, 1 ≤ i → i < k → ∃ c, l[i]? = some c ∧ 48 ≤ c ∧ c < 58)
      (he : k < l.length → ∃ c, l[k]? = some c ∧ c < 128 ∧ ¬ (48 ≤ c ∧ c < 58)) (hn : PySem.intText? ⟨(l.take k).toArray⟩ = some n) (h640 : k ≤ 640) : TokAt P l k (-n - 1)
theorem TokAt.size {P : Params} {l : List Nat} {k : Nat} {W : Int} (h : TokAt P l k W) : 1 ≤ k ∧ k ≤ l.length := by
  cases h with
  | two _ _ _ hl => exact ⟨by decide, hl⟩
  | one _ _ _ _ hl => exact ⟨by decide, hl⟩
  | name _ _ _ hc _ => exact ⟨by decide, (List.getElem?_eq_some_iff.mp hc).1⟩
  | num _ _ _ _ _ _ _ _ hk hkl => exact ⟨hk, hkl⟩
inductive Lex (P : Params) (Fin : List (List Int)) : List Nat → List (List Int) → List Int → Prop
  | nil (D : List (List Int)) (c : List Int) (h : Fin = D ++ [c]) : Lex P Fin [] D c
  | word (l : List Nat) (D : List (List Int)) (c : List Int) (k : Nat) (W : Int) (ht : TokAt P l k W) (hW : W ≠ 12) (r : Lex P Fin (l.drop k) D (c ++ [W])) : Lex P Fin l D c
  | comma (l : List Nat) (D : List (List Int)) (c : List Int) (k : Nat) (ht : TokAt P l k 12) (r : Lex P Fin (l.drop k) (D ++ [c]) []) : Lex P Fin l D c
theorem Lex.cut {P : Params} {Fin : List (List Int)} {l : List Nat} {D : List (List Int)} {c : List Int} (h : Lex P Fin l D c) : (l = [] ∧ Fin = D ++ [c]) ∨ ∃ k W, TokAt P l k W ∧ ((W ≠ 12 ∧ Lex P Fin (l.drop k) D (c ++ [W])) ∨ (W = 12 ∧ Lex P Fin (l.drop k) (D ++ [c]) [])) := by
  cases h with
  | nil D c h => exact .inl ⟨rfl, h⟩
  | word l D c k W ht hW r => exact .inr ⟨k, W, ht, .inl ⟨hW, r⟩⟩
  | comma l D c k ht r => exact .inr ⟨k, 12, ht, .inr ⟨rfl, r⟩⟩
def RowsAt (led : List (Addr × Obj)) (refs : List Value) (Ws : List (List Int)) : Prop :=
  refs.length = Ws.length ∧ ∀ (i : Nat) (W : List Int), Ws[i]? = some W → ∃ a us n, refs[i]? = some (.ref a) ∧ (a, listOf us.toArray n) ∈ led ∧ IntsAre us W
theorem RowsAt.snoc {led led' : List (Addr × Obj)} {rs us : List Value} {D : List (List Int)} {c : List Int} {a : Addr} {n : Nat} (h : RowsAt led rs D) (hs : ∀ p ∈ led, p ∈ led') (hm : (a, listOf us.toArray n) ∈ led') (hu : IntsAre us c) : RowsAt led' (rs ++ [Value.ref a]) (D ++ [c]) := by
  refine ⟨by simp [h.1], fun i W hi => ?_⟩
  by_cases e : i < D.length
  · rw [List.getElem?_append_left e] at hi
    obtain ⟨a', us', n', p, q, r⟩ := h.2 i W hi
    exact ⟨a', us', n', by rw [List.getElem?_append_left (by rw [h.1]; exact e)]; exact p, hs _ q, r⟩
  · have e2 : i = D.length := by
      have := (List.getElem?_eq_some_iff.mp hi).1
      simp at this; omega
    subst e2
    rw [List.getElem?_append_right (Nat.le_refl _), Nat.sub_self] at hi
    have e3 : c = W := Option.some.inj hi
    subst e3
    exact ⟨a, us, n, by rw [← h.1, List.getElem?_append_right (Nat.le_refl _), Nat.sub_self]; rfl, hm, hu⟩
structure MidQ (h₀ : Heap) (L : Addr) (s : Shared) (nx : List (Addr × Obj)) (K : (Str → Option Value) → Prop) (f : Flow) (s' : Shared) : Prop where
  flow : f = .next
  state : ∃ h' tk m', s' = { s with heap := h', toks := tk } ∧ Fr h₀ L h' m' ∧ News h₀ L h' nx ∧ K m'
theorem MidQ.intro {h₀ : Heap} {L : Addr} {s : Shared} {nx all : List (Addr × Obj)} {K : (Str → Option Value) → Prop} {h' : Heap} {tk : Nat} {m' : Str → Option Value} (F : Fr h₀ L h' m') (N : News h₀ L h' all) (hs : ∀ p ∈ nx, p ∈ all) (hK : K m') : MidQ h₀ L s nx K .next { s with heap := h', toks := tk } := ⟨rfl, h', tk, m', rfl, F, fun p hp => N p (hs p hp), hK⟩
theorem cutM {M : Model} {A : Around} {E : Value → Shared → Prop} {s : Shared} {Q : Flow → Shared → Prop} {a b : List Stmt} {env : Env} {h₀ : Heap} {L : Addr} {m : Str → Option Value} {nx : List (Addr × Obj)} (K : (Str → Option Value) → Prop) (_F : Fr h₀ L s.heap m) (_N : News h₀ L s.heap nx)
    (h1 : wpAny M A (execs a env) (MidQ h₀ L s nx K) E s) (h2 : ∀ m', K m' → ∀ h' tk, Fr h₀ L h' m' → News h₀ L h' nx → wpAny M A (execs b env) Q E { s with heap := h', toks := tk }) : wpAny M A (execs (a ++ b) env) Q E s :=
  cut (fun s' => ∃ h' tk m', s' = { s with heap := h', toks := tk } ∧ Fr h₀ L h' m' ∧ News h₀ L h' nx ∧ K m') (wpAny_mono h1 (fun f s' q => ⟨q.flow, q.state⟩) fun _ _ e => e) fun s' ⟨h', tk, m', e, F', N', k⟩ => e ▸ h2 m' k h' tk F' N'
theorem c_inD_t (x : Str) (t : Tok) (v : Value) (e : nsIn (Mine.hz.heap_216 w.params) 106 x = some (some v)) (news : List (Addr × Obj)) : Spec w mean mg mb 84 [.ref 106, .str x t] news 1 (fun y n' => ∃ _ : Tok, y = .bool true ∧ n' = news) := c_containsD w mean mg mb x t _ e news
theorem c_inD_f (x : Str) (t : Tok) (e : nsIn (Mine.hz.heap_216 w.params) 106 x = some none) (news : List (Addr × Obj)) : Spec w mean mg mb 84 [.ref 106, .str x t] news 1 (fun y n' => ∃ _ : Tok, y = .bool false ∧ n' = news) := c_containsD w mean mg mb x t _ e news
theorem c_inS_t (c : Nat) (hc : 97 ≤ c ∧ c < 101) (t u : Tok) (news : List (Addr × Obj)) : Spec w mean mg mb 84 [.str (Str.ofString "abcd") t, .str ⟨#[c]⟩ u] news 1 (fun y n' => ∃ _ : Tok, y = .bool true ∧ n' = news) := by
  have := c_containsS w mean mg mb c (by omega) t u news
  rwa [decide_eq_true hc] at this
theorem c_inS_f (c : Nat) (hb : ¬ (97 ≤ c ∧ c < 101)) (hc : c < 128) (t u : Tok) (news : List (Addr × Obj)) : Spec w mean mg mb 84 [.str (Str.ofString "abcd") t, .str ⟨#[c]⟩ u] news 1 (fun y n' => ∃ _ : Tok, y = .bool false ∧ n' = news) := by
  have := c_containsS w mean mg mb c hc t u news
  rwa [decide_eq_false hb] at this
theorem form4_of {x1 x2 x3 x4 : Str} {v1 v2 v3 v4 : Value} {m : Str → Option Value} (h1 : m x1 = some v1) (h2 : m x2 = some v2) (h3 : m x3 = some v3) (h4 : m x4 = some v4) : m = fun y => if y = x1 then some v1 else if y = x2 then some v2 else if y = x3 then some v3 else if y = x4 then some v4 else m y := by
  funext y
  split
  · rename_i e; rw [e, h1]
  · split
    · rename_i e; rw [e, h2]
    · split
      · rename_i e; rw [e, h3]
      · split
        · rename_i e; rw [e, h4]
        · rfl

theorem str_eq {m : Str → Option Value} {z : Str} {x x' : Str} {t : Tok} (h : m z = some (.str x t)) (e : x = x') : m z = some (.str x' t) := e ▸ h
theorem len_codes {prog : Program} {A : Around} {E : Value → Shared → Prop} {s : Shared} {l : List Nat} {t : Tok} {Q : Value → Shared → Prop} (hl : l.length ≤ 1000) (h : Q (.int (l.length : Nat) (s.toks + 1)) { s with toks := s.toks + 1 + 1 }) : wpAny (model prog w) A (call (.builtin "len") [.str ⟨l.toArray⟩ t]) Q E s := by
  have e : (⟨l.toArray⟩ : Str).length = l.length := by simp [Str.length]
  exact len_str (by rw [e]; omega) (by rw [e]; exact h)
inductive WordI (P : Params) (Fin : List (List Int)) (news : List (Addr × Obj)) (R : Addr) (n : Nat) : (Str → Option Value) → List (Addr × Obj) → Prop
  | mk (l : List Nat) (D : List (List Int)) (c : List Int) (t : Tok) (rs us : List Value) (n1 n2 : Nat) (a : Addr) (led : List (Addr × Obj)) (u : Str → Option Value) (hn : l.length = n) (hlen : l.length + D.length + c.length ≤ 1000) (hL : Lex P Fin l D c) (hus : IntsAre us c) (hrs : RowsAt led rs D) (hnews : ∀ p ∈ news, p ∈ led) (hRa : @Ne Nat R a) (oR : ∀ p ∈ led, p.1 ≠ R) (oa : ∀ p ∈ led, p.1 ≠ a) :
    WordI P Fin news R n (fun y => if y = Str.ofString "text" then some (.str ⟨l.toArray⟩ t) else if y = Str.ofString "rows" then some (.ref R) else u y) ((R, listOf (rs ++ [Value.ref a]).toArray n1) :: (a, listOf us.toArray n2) :: led)
theorem WordI.of {P : Params} {Fin : List (List Int)} {news : List (Addr × Obj)} {R : Addr} {n : Nat} {m : Str → Option Value} {l : List Nat} {D : List (List Int)} {c : List Int} {t : Tok} {rs us : List Value} {n1 n2 : Nat} {a : Addr} {led : List (Addr × Obj)} (hn : l.length = n) (hlen : l.length + D.length + c.length ≤ 1000) (hL : Lex P Fin l D c) (hus : IntsAre us c) (hrs : RowsAt led rs D) (hnews : ∀ p ∈ news, p ∈ led) (hRa : @Ne Nat R a) (oR : ∀ p ∈ led, p.1 ≠ R) (oa : ∀ p ∈ led, p.1 ≠ a)
    (h1 : m (Str.ofString "text") = some (.str ⟨l.toArray⟩ t)) (h2 : m (Str.ofString "rows") = some (.ref R)) : WordI P Fin news R n m ((R, listOf (rs ++ [Value.ref a]).toArray n1) :: (a, listOf us.toArray n2) :: led) := by
  rw [form2_of h1 h2]; exact .mk l D c t rs us n1 n2 a led m hn hlen hL hus hrs hnews hRa oR oa
inductive DigI (x : Str) (t : Tok) (R : Addr) (k : Nat) (led : List (Addr × Obj)) (n : Nat) : (Str → Option Value) → List (Addr × Obj) → Prop
  | mk (i : Nat) (t1 t2 : Tok) (u : Str → Option Value) (hn : k - i = n) (h1 : 1 ≤ i) (h2 : i ≤ k) : DigI x t R k led n (fun y => if y = Str.ofString "text" then some (.str x t) else if y = Str.ofString "rows" then some (.ref R) else if y = Str.ofString "size" then some (.int (i : Int) t1) else if y = Str.ofString "word" then some (.int 0 t2) else u y) led
theorem DigI.of {x : Str} {t : Tok} {R : Addr} {k : Nat} {led : List (Addr × Obj)} {n : Nat} {m : Str → Option Value} {i : Nat} {t1 t2 : Tok} (hn : k - i = n) (h1 : 1 ≤ i) (h2 : i ≤ k) (m1 : m (Str.ofString "text") = some (.str x t)) (m2 : m (Str.ofString "rows") = some (.ref R)) (m3 : m (Str.ofString "size") = some (.int (i : Int) t1)) (m4 : m (Str.ofString "word") = some (.int 0 t2)) : DigI x t R k led n m led := by
  rw [form4_of m1 m2 m3 m4]; exact .mk i t1 t2 m hn h1 h2
inductive TokI (x : Str) (t : Tok) (R : Addr) (k : Nat) (W : Int) : (Str → Option Value) → Prop
  | mk (t1 t2 : Tok) (u : Str → Option Value) : TokI x t R k W (fun y => if y = Str.ofString "text" then some (.str x t) else if y = Str.ofString "rows" then some (.ref R) else if y = Str.ofString "size" then some (.int (k : Int) t1) else if y = Str.ofString "word" then some (.int W t2) else u y)
theorem TokI.of {x : Str} {t : Tok} {R : Addr} {k : Nat} {W : Int} {m : Str → Option Value} {t1 t2 : Tok} (m1 : m (Str.ofString "text") = some (.str x t)) (m2 : m (Str.ofString "rows") = some (.ref R)) (m3 : m (Str.ofString "size") = some (.int (k : Int) t1)) (m4 : m (Str.ofString "word") = some (.int W t2)) : TokI x t R k W m := by
  rw [form4_of m1 m2 m3 m4]; exact .mk t1 t2 m
theorem c_words (l : List Nat) (Fin : List (List Int)) (hL : Lex w.params Fin l [] []) (hl : l.length ≤ 1000) (t : Tok) (news : List (Addr × Obj)) :
    Spec w mean mg mb 122 [.str ⟨l.toArray⟩ t] news 2 (fun y n' => ∃ R rs n led, y = .ref R ∧ n' = (R, listOf rs.toArray n) :: led ∧ RowsAt led rs Fin ∧ (∀ p ∈ news, p ∈ led)) := by
  w_top off
  refine ⟨?_⟩
  intro dp un gd cn cs a9 ccd cl outer A₀ base h₀ L m s Q E B F X N T hk hd hu hret
  refine wpAny_call ?_
  k_dflt cell_enter
  refine letA (P := fun A => wpAny _ A _ _ _ _) ?_
  intro A9
  repeat' (first | ((with_reducible show wpAny _ _ (exec (Stmt.While _ _ _ _) _) _ _ _); refine Hold.out ?_) | (k_unfold; (try dsimp only)) | (k_end; kc_close) | walk1 | (dsimp only; walk1) | (leave1; walk_say "STEP leave1"; (try dsimp only)) | fail "no step")
  unfold Hold
  rename_i a1 hq1 la R hqb lR hq3 F2 N2
  have ha1 := la
  have hRa : @Ne Nat R a1 := Nat.ne_of_gt lR.1
  have hRl := allLt_out lR.2
  refine While_inv3 (WordI w.params Fin news R) F2 N2 (n₀ := l.length) ?_ ?_
  · exact WordI.of (D := []) (c := []) (rs := []) (us := []) rfl (by simpa using hl) hL .nil ⟨rfl, fun i W h => by simp at h⟩ (fun p hp => hp) hRa (fun p hp => Nat.ne_of_lt (hRl p hp)) (fun p hp => Nat.ne_of_lt (ha1 p hp)) rfl rfl
  · clear N2 F2 hRl ha1 hRa lR la hL hl F N
    rintro n m₁ nx ⟨l, D, c, t, rs, us, n1, n2, a, led, u, rfl, hlen, hL, hus, hrs, hnews, hRa, oR, oa⟩ h₁ tk₁ QT QF hT hF' F₁ N₁
    have haR : @Ne Nat a R := fun e => hRa e.symm
    rcases hL.cut with ⟨rfl, hF⟩ | ⟨k, W, ht, hnext⟩
    · k_steps
      (try dsimp only)
      refine hF' _ ?_
      k_steps
      exact hret _ _ _ _ (by k_asm) (by k_asm) ⟨R, _, _, (a, listOf us.toArray n2) :: led, rfl, rfl, by rw [hF]; exact hrs.snoc (fun p hp => List.mem_cons_of_mem _ hp) (List.mem_cons_self ..) hus, fun p hp => List.mem_cons_of_mem _ (hnews p hp)⟩
    · have hks := ht.size
      have hpos : 0 < l.length := by omega
      have hz : (⟨l.toArray⟩ : Str).length ≤ sizeLine := by rw [sizeLine_eq]; simp [Str.length]; omega
      repeat' (first | ((with_reducible show wpAny _ _ (execs _ _) _ _ _); refine Hold.out ?_) | (k_unfold; (try dsimp only)) | (k_end; kc_close) | walk1 | (dsimp only; walk1) | (leave1; walk_say "STEP leave1"; (try dsimp only)) | fail "no step")
      rotate_left 1
      · exfalso
        rename (_ : Int) = 0 => q0
        omega
      unfold Hold
      with_unfolding_all refine' cutM (a := [_, _, _]) (TokI ⟨l.toArray⟩ t R k W) F₁ N₁ ?_ ?_
      · have hl9 : l.length ≤ 1000 := by omega
        clear hnext hL hus hrs hnews hlen
        refine genQ (P := fun QQ => wpAny _ _ (execs _ _) QQ _ _) _ ?_
        intro QQ hQQ
        cases ht with
        | two W t h2 hl =>
          have e2 : nsIn (Mine.hz.heap_216 w.params) 106 (Txt.slice ⟨l.toArray⟩ none (some 2)) = some (some (.int W t)) := by rw [slice_take l (by decide)]; exact h2
          repeat' (first | (first | ((with_reducible show wpAny _ _ (call (Value.ref 84) _) _ _ _); k_dflt (refine' Spec.useT (c_inD_t _ _ _ _ _ _ _ ?ke _) ?k1 ?k2 ?k3 ?k4 ?k5 ?kK ?kd ?ku ?_; (case k1 => k_asm); (case k2 => k_asm); (case k3 => k_asm); (case k4 => k_asm); (case k5 => k_asm); (case ke => with_reducible assumption); (case kK => first | exact rfl | assumption); (case kd => ktr_room); (case ku => ktr_units); (intro t9 h9 tk9 F9 N9; (try dsimp only); (try k_sweep); (try k_fold)))) | ((with_reducible show wpAny _ _ (call (Value.ref 84) _) _ _ _); k_dflt (refine' Spec.useT (c_inD_f _ _ _ _ _ _ ?ke _) ?k1 ?k2 ?k3 ?k4 ?k5 ?kK ?kd ?ku ?_; (case k1 => k_asm); (case k2 => k_asm); (case k3 => k_asm); (case k4 => k_asm); (case k5 => k_asm); (case ke => with_reducible assumption); (case kK => first | exact rfl | assumption); (case kd => ktr_room); (case ku => ktr_units); (intro t9 h9 tk9 F9 N9; (try dsimp only); (try k_sweep); (try k_fold))))) | ((with_reducible show wpAny _ _ (call (Value.ref 91) _) _ _ _); k_dflt (refine' Spec.useT (c_getD _ _ _ _ _ _ _ ?ke _) ?k1 ?k2 ?k3 ?k4 ?k5 ?kK ?kd ?ku ?_; (case k1 => k_asm); (case k2 => k_asm); (case k3 => k_asm); (case k4 => k_asm); (case k5 => k_asm); (case ke => with_reducible assumption); (case kK => first | exact rfl | assumption); (case kd => ktr_room); (case ku => ktr_units); (intro t9 h9 tk9 F9 N9; (try dsimp only); (try k_sweep); (try k_fold)))) | (k_unfold; (try dsimp only)) | (k_end; kc_close) | walk1 | (dsimp only; walk1) | (leave1; walk_say "STEP leave1"; (try dsimp only)) | fail "no step")
          (try dsimp only)
          rw [← hQQ]
          refine MidQ.intro (by k_asm) (by k_asm) (by (intro p hp; repeat (first | exact hp | refine List.mem_cons_of_mem _ ?_))) ?_
          exact .of rfl rfl rfl rfl
        | one W t h2 h1 hl =>
          have e2 : nsIn (Mine.hz.heap_216 w.params) 106 (Txt.slice ⟨l.toArray⟩ none (some 2)) = some none := by rw [slice_take l (by decide)]; exact h2
          have e1 : nsIn (Mine.hz.heap_216 w.params) 106 (Txt.slice ⟨l.toArray⟩ none (some 1)) = some (some (.int W t)) := by rw [slice_take l (by decide)]; exact h1
          repeat' (first | (first | ((with_reducible show wpAny _ _ (call (Value.ref 84) _) _ _ _); k_dflt (refine' Spec.useT (c_inD_t _ _ _ _ _ _ _ ?ke _) ?k1 ?k2 ?k3 ?k4 ?k5 ?kK ?kd ?ku ?_; (case k1 => k_asm); (case k2 => k_asm); (case k3 => k_asm); (case k4 => k_asm); (case k5 => k_asm); (case ke => with_reducible assumption); (case kK => first | exact rfl | assumption); (case kd => ktr_room); (case ku => ktr_units); (intro t9 h9 tk9 F9 N9; (try dsimp only); (try k_sweep); (try k_fold)))) | ((with_reducible show wpAny _ _ (call (Value.ref 84) _) _ _ _); k_dflt (refine' Spec.useT (c_inD_f _ _ _ _ _ _ ?ke _) ?k1 ?k2 ?k3 ?k4 ?k5 ?kK ?kd ?ku ?_; (case k1 => k_asm); (case k2 => k_asm); (case k3 => k_asm); (case k4 => k_asm); (case k5 => k_asm); (case ke => with_reducible assumption); (case kK => first | exact rfl | assumption); (case kd => ktr_room); (case ku => ktr_units); (intro t9 h9 tk9 F9 N9; (try dsimp only); (try k_sweep); (try k_fold))))) | ((with_reducible show wpAny _ _ (call (Value.ref 91) _) _ _ _); k_dflt (refine' Spec.useT (c_getD _ _ _ _ _ _ _ ?ke _) ?k1 ?k2 ?k3 ?k4 ?k5 ?kK ?kd ?ku ?_; (case k1 => k_asm); (case k2 => k_asm); (case k3 => k_asm); (case k4 => k_asm); (case k5 => k_asm); (case ke => with_reducible assumption); (case kK => first | exact rfl | assumption); (case kd => ktr_room); (case ku => ktr_units); (intro t9 h9 tk9 F9 N9; (try dsimp only); (try k_sweep); (try k_fold)))) | (k_unfold; (try dsimp only)) | (k_end; kc_close) | walk1 | (dsimp only; walk1) | (leave1; walk_say "STEP leave1"; (try dsimp only)) | fail "no step")
          (try dsimp only)
          rw [← hQQ]
          refine MidQ.intro (by k_asm) (by k_asm) (by (intro p hp; repeat (first | exact hp | refine List.mem_cons_of_mem _ ?_))) ?_
          exact .of rfl rfl rfl rfl
        | name c h2 h1 hc hb =>
          have e2 : nsIn (Mine.hz.heap_216 w.params) 106 (Txt.slice ⟨l.toArray⟩ none (some 2)) = some none := by rw [slice_take l (by decide)]; exact h2
          have e1 : nsIn (Mine.hz.heap_216 w.params) 106 (Txt.slice ⟨l.toArray⟩ none (some 1)) = some none := by rw [slice_take l (by decide)]; exact h1
          have hc' : l[(0 : Int).toNat]? = some c := hc
          repeat' (first | (first | ((with_reducible show wpAny _ _ (call (Value.ref 84) _) _ _ _); k_dflt (refine' Spec.useT (c_inD_t _ _ _ _ _ _ _ ?ke _) ?k1 ?k2 ?k3 ?k4 ?k5 ?kK ?kd ?ku ?_; (case k1 => k_asm); (case k2 => k_asm); (case k3 => k_asm); (case k4 => k_asm); (case k5 => k_asm); (case ke => with_reducible assumption); (case kK => first | exact rfl | assumption); (case kd => ktr_room); (case ku => ktr_units); (intro t9 h9 tk9 F9 N9; (try dsimp only); (try k_sweep); (try k_fold)))) | ((with_reducible show wpAny _ _ (call (Value.ref 84) _) _ _ _); k_dflt (refine' Spec.useT (c_inD_f _ _ _ _ _ _ ?ke _) ?k1 ?k2 ?k3 ?k4 ?k5 ?kK ?kd ?ku ?_; (case k1 => k_asm); (case k2 => k_asm); (case k3 => k_asm); (case k4 => k_asm); (case k5 => k_asm); (case ke => with_reducible assumption); (case kK => first | exact rfl | assumption); (case kd => ktr_room); (case ku => ktr_units); (intro t9 h9 tk9 F9 N9; (try dsimp only); (try k_sweep); (try k_fold))))) | ((with_reducible show wpAny _ _ (call (Value.ref 91) _) _ _ _); k_dflt (refine' Spec.useT (c_getD _ _ _ _ _ _ _ ?ke _) ?k1 ?k2 ?k3 ?k4 ?k5 ?kK ?kd ?ku ?_; (case k1 => k_asm); (case k2 => k_asm); (case k3 => k_asm); (case k4 => k_asm); (case k5 => k_asm); (case ke => with_reducible assumption); (case kK => first | exact rfl | assumption); (case kd => ktr_room); (case ku => ktr_units); (intro t9 h9 tk9 F9 N9; (try dsimp only); (try k_sweep); (try k_fold)))) | (first | ((with_reducible show wpAny _ _ (call (Value.ref 84) _) _ _ _); k_dflt (refine' Spec.useT (c_inS_t _ _ _ _ _ ?ke _ _ _) ?k1 ?k2 ?k3 ?k4 ?k5 ?kK ?kd ?ku ?_; (case k1 => k_asm); (case k2 => k_asm); (case k3 => k_asm); (case k4 => k_asm); (case k5 => k_asm); (case ke => with_reducible assumption); (case kK => first | exact rfl | assumption); (case kd => ktr_room); (case ku => ktr_units); (intro t9 h9 tk9 F9 N9; (try dsimp only); (try k_sweep); (try k_fold)))) | ((with_reducible show wpAny _ _ (call (Value.ref 84) _) _ _ _); k_dflt (refine' Spec.useT (c_inS_f _ _ _ _ _ ?ke ?kf _ _ _) ?k1 ?k2 ?k3 ?k4 ?k5 ?kK ?kd ?ku ?_; (case k1 => k_asm); (case k2 => k_asm); (case k3 => k_asm); (case k4 => k_asm); (case k5 => k_asm); (case ke => with_reducible assumption); (case kf => with_reducible assumption); (case kK => first | exact rfl | assumption); (case kd => ktr_room); (case ku => ktr_units); (intro t9 h9 tk9 F9 N9; (try dsimp only); (try k_sweep); (try k_fold))))) | ((with_reducible show wpAny _ _ (call (Value.ref 98) _) _ _ _); k_dflt (refine' SpecT.use (c_indexOf _ _ _ _ _ ?ke _ _ ?kf _) ?k1 ?k2 ?k3 ?k4 ?k5 ?kK ?kd ?ku ?kt ?_; (case k1 => k_asm); (case k2 => k_asm); (case k3 => k_asm); (case k4 => k_asm); (case k5 => k_asm); (case ke => with_reducible assumption); (case kf => exact Nat.le_add_left 1 _); (case kt => exact Nat.le_refl _); (case kK => first | exact rfl | assumption); (case kd => ktr_room); (case ku => ktr_units); (intro v9 news9 h9 tk9 F9 N9 hp9; (obtain ⟨t9, e9, e9'⟩ := hp9); subst e9; subst e9'; (try dsimp only); (try k_sweep); (try k_fold)))) | ((with_reducible show wpAny _ _ (subscriptTail _ _ (Value.str _ _) (Value.int _ _)) _ _ _); k_dflt (refine' sub_sign ?k1 ?k2 ?k3 ?_ ?k6 ?k7; (case k1 => first | assumption | omega); (case k2 => with_reducible assumption); (case k3 => omega); (case k6 => with_unfolding_all rfl); (case k7 => (intro _; with_unfolding_all rfl)))) | ((with_reducible show wpAny _ _ (call (Value.ref _) _) _ _ _); k_dflt (refine' Spec.useT (c_prim _ _ _ _ _ _ _ ?kr _) ?k1 ?k2 ?k3 ?k4 ?k5 ?kK ?kd ?ku ?_; (case k1 => k_asm); (case k2 => k_asm); (case k3 => k_asm); (case k4 => k_asm); (case k5 => k_asm); (case kr => first | exact PrimOf.lt _ _ _ _  | exact PrimOf.le _ _ _ _  | exact PrimOf.eq _ _ _ _  | exact PrimOf.ge _ _ _ _  | exact PrimOf.gt _ _ _ _  | exact PrimOf.add _ _ _ _  | exact PrimOf.sub _ _ _ _  | exact PrimOf.inv _ _  | exact PrimOf.neg _ _  | exact PrimOf.isnt _ _ ); (case kK => first | exact rfl | assumption); (case kd => ktr_room); (case ku => ktr_units); (intro t9 h9 tk9 F9 N9; (try dsimp only); (try k_sweep); (try k_fold)))) | (k_unfold; (try dsimp only)) | (k_end; kc_close) | walk1 | (dsimp only; walk1) | (leave1; walk_say "STEP leave1"; (try dsimp only)) | fail "no step")
          (try dsimp only)
          rw [← hQQ]
          refine MidQ.intro (by k_asm) (by k_asm) (by (intro p hp; repeat (first | exact hp | refine List.mem_cons_of_mem _ ?_))) ?_
          exact .of rfl rfl rfl rfl
        | num c k n h2 h1 hc hb h128 hk hkl hd he hn h640 =>
          have e2 : nsIn (Mine.hz.heap_216 w.params) 106 (Txt.slice ⟨l.toArray⟩ none (some 2)) = some none := by rw [slice_take l (by decide)]; exact h2
          have e1 : nsIn (Mine.hz.heap_216 w.params) 106 (Txt.slice ⟨l.toArray⟩ none (some 1)) = some none := by rw [slice_take l (by decide)]; exact h1
          have hc' : l[(0 : Int).toNat]? = some c := hc
          repeat' (first | (first | ((with_reducible show wpAny _ _ (call (Value.ref 84) _) _ _ _); k_dflt (refine' Spec.useT (c_inD_t _ _ _ _ _ _ _ ?ke _) ?k1 ?k2 ?k3 ?k4 ?k5 ?kK ?kd ?ku ?_; (case k1 => k_asm); (case k2 => k_asm); (case k3 => k_asm); (case k4 => k_asm); (case k5 => k_asm); (case ke => with_reducible assumption); (case kK => first | exact rfl | assumption); (case kd => ktr_room); (case ku => ktr_units); (intro t9 h9 tk9 F9 N9; (try dsimp only); (try k_sweep); (try k_fold)))) | ((with_reducible show wpAny _ _ (call (Value.ref 84) _) _ _ _); k_dflt (refine' Spec.useT (c_inD_f _ _ _ _ _ _ ?ke _) ?k1 ?k2 ?k3 ?k4 ?k5 ?kK ?kd ?ku ?_; (case k1 => k_asm); (case k2 => k_asm); (case k3 => k_asm); (case k4 => k_asm); (case k5 => k_asm); (case ke => with_reducible assumption); (case kK => first | exact rfl | assumption); (case kd => ktr_room); (case ku => ktr_units); (intro t9 h9 tk9 F9 N9; (try dsimp only); (try k_sweep); (try k_fold))))) | ((with_reducible show wpAny _ _ (call (Value.ref 91) _) _ _ _); k_dflt (refine' Spec.useT (c_getD _ _ _ _ _ _ _ ?ke _) ?k1 ?k2 ?k3 ?k4 ?k5 ?kK ?kd ?ku ?_; (case k1 => k_asm); (case k2 => k_asm); (case k3 => k_asm); (case k4 => k_asm); (case k5 => k_asm); (case ke => with_reducible assumption); (case kK => first | exact rfl | assumption); (case kd => ktr_room); (case ku => ktr_units); (intro t9 h9 tk9 F9 N9; (try dsimp only); (try k_sweep); (try k_fold)))) | (first | ((with_reducible show wpAny _ _ (call (Value.ref 84) _) _ _ _); k_dflt (refine' Spec.useT (c_inS_t _ _ _ _ _ ?ke _ _ _) ?k1 ?k2 ?k3 ?k4 ?k5 ?kK ?kd ?ku ?_; (case k1 => k_asm); (case k2 => k_asm); (case k3 => k_asm); (case k4 => k_asm); (case k5 => k_asm); (case ke => with_reducible assumption); (case kK => first | exact rfl | assumption); (case kd => ktr_room); (case ku => ktr_units); (intro t9 h9 tk9 F9 N9; (try dsimp only); (try k_sweep); (try k_fold)))) | ((with_reducible show wpAny _ _ (call (Value.ref 84) _) _ _ _); k_dflt (refine' Spec.useT (c_inS_f _ _ _ _ _ ?ke ?kf _ _ _) ?k1 ?k2 ?k3 ?k4 ?k5 ?kK ?kd ?ku ?_; (case k1 => k_asm); (case k2 => k_asm); (case k3 => k_asm); (case k4 => k_asm); (case k5 => k_asm); (case ke => with_reducible assumption); (case kf => with_reducible assumption); (case kK => first | exact rfl | assumption); (case kd => ktr_room); (case ku => ktr_units); (intro t9 h9 tk9 F9 N9; (try dsimp only); (try k_sweep); (try k_fold))))) | ((with_reducible show wpAny _ _ (subscriptTail _ _ (Value.str _ _) (Value.int _ _)) _ _ _); k_dflt (refine' sub_sign ?k1 ?k2 ?k3 ?_ ?k6 ?k7; (case k1 => first | assumption | omega); (case k2 => with_reducible assumption); (case k3 => omega); (case k6 => with_unfolding_all rfl); (case k7 => (intro _; with_unfolding_all rfl)))) | ((with_reducible show wpAny _ _ (exec (Stmt.While _ _ _ _) _) _ _ _); refine Hold.out ?_) | (k_unfold; (try dsimp only)) | (k_end; kc_close) | walk1 | (dsimp only; walk1) | (leave1; walk_say "STEP leave1"; (try dsimp only)) | fail "no step")
          unfold Hold
          rename Fr _ _ _ _ => lF
          rename News _ _ _ _ => lN
          have hfact : (⟨l.toArray⟩ : Str).length = l.length := by simp [Str.length]
          have hn' : PySem.intText? (Txt.slice ⟨l.toArray⟩ none (some (k : Int))) = some n := by rw [slice_take l (by omega)]; exact hn
          have h640' : (Txt.slice ⟨l.toArray⟩ none (some (k : Int))).length ≤ 640 := by
            rw [slice_take l (by omega)]
            simp [Str.length]; omega
          have hdig : ∀ c, c < 128 → Txt.isdigit ⟨#[c]⟩ = decide (48 ≤ c ∧ c < 58) := by decide +kernel
          refine While_inv3 (DigI ⟨l.toArray⟩ t R k ((R, listOf (rs ++ [Value.ref a]).toArray n1) :: (a, listOf us.toArray n2) :: led)) lF lN (n₀ := k - 1) ?_ ?_
          · exact .of (i := 1) rfl (Nat.le_refl _) hk rfl rfl rfl rfl
          · clear lF lN e1 e2 h1 h2 hc hc' hb h128 hn h640 hT hF'
            rintro n' m' nx' ⟨i, t1, t2, u2, rfl, hi1, hik⟩ h' tk' Q3 QF3 hT3 hF3 F₃ N₃
            by_cases hlt : i < k
            · obtain ⟨c', hc, hd1⟩ := hd i hi1 hlt
              have hc' : l[((i : Nat) : Int).toNat]? = some c' := by rw [Int.toNat_natCast]; exact hc
              have hg : Txt.isdigit ⟨#[c']⟩ = true := by rw [hdig _ (by omega)]; exact decide_eq_true hd1
              repeat' (first | ((with_reducible show wpAny _ _ (subscriptTail _ _ (Value.str _ _) (Value.int _ _)) _ _ _); k_dflt (refine' sub_sign ?k1 ?k2 ?k3 ?_ ?k6 ?k7; (case k1 => first | assumption | omega); (case k2 => with_reducible assumption); (case k3 => omega); (case k6 => with_unfolding_all rfl); (case k7 => (intro _; with_unfolding_all rfl)))) | ((with_reducible show wpAny _ _ (call (Value.builtin "str.isdigit") [Value.str _ _]) _ _ _); refine KXw.isdigit (by with_reducible assumption) ?_) | ((with_reducible show wpAny _ _ (call (Value.builtin "len") [Value.str _ _]) _ _ _); refine len_codes _ hl9 ?_) | ((with_reducible show wpAny _ _ (execs _ _) _ _ _); refine Hold.out ?_) | (k_unfold; (try dsimp only)) | (k_end; kc_close) | walk1 | (dsimp only; walk1) | (leave1; walk_say "STEP leave1"; (try dsimp only)) | ((with_reducible show wpAny _ _ (eval (Expr.Name _ _) _) _ _ _); refine nameEq (y := Str.ofString "len") (by decide +kernel) ?_; walk1) | ((with_reducible show wpAny _ _ (getMethod _ _ _) _ _ _); refine methEq (y := Str.ofString "isdigit") (by decide +kernel) ?_; walk1) | fail "no step")
              unfold Hold
              repeat' (first | ((with_reducible show wpAny _ _ (subscriptTail _ _ (Value.str _ _) (Value.int _ _)) _ _ _); k_dflt (refine' sub_sign ?k1 ?k2 ?k3 ?_ ?k6 ?k7; (case k1 => first | assumption | omega); (case k2 => with_reducible assumption); (case k3 => omega); (case k6 => with_unfolding_all rfl); (case k7 => (intro _; with_unfolding_all rfl)))) | ((with_reducible show wpAny _ _ (call (Value.builtin "str.isdigit") [Value.str _ _]) _ _ _); refine KXw.isdigit (by with_reducible assumption) ?_) | ((with_reducible show wpAny _ _ (call (Value.builtin "len") [Value.str _ _]) _ _ _); refine len_codes _ hl9 ?_) | ((with_reducible show wpAny _ _ (call (Value.type "int") [Value.str _ _]) _ _ _); refine KIN.call_text (by with_reducible assumption) (by with_reducible assumption) ?_) | ((with_reducible show wpAny _ _ (call (Value.ref _) _) _ _ _); k_dflt (refine' Spec.useT (c_prim _ _ _ _ _ _ _ ?kr _) ?k1 ?k2 ?k3 ?k4 ?k5 ?kK ?kd ?ku ?_; (case k1 => k_asm); (case k2 => k_asm); (case k3 => k_asm); (case k4 => k_asm); (case k5 => k_asm); (case kr => first | exact PrimOf.lt _ _ _ _  | exact PrimOf.le _ _ _ _  | exact PrimOf.eq _ _ _ _  | exact PrimOf.ge _ _ _ _  | exact PrimOf.gt _ _ _ _  | exact PrimOf.add _ _ _ _  | exact PrimOf.sub _ _ _ _  | exact PrimOf.inv _ _  | exact PrimOf.neg _ _  | exact PrimOf.isnt _ _ ); (case kK => first | exact rfl | assumption); (case kd => ktr_room); (case ku => ktr_units); (intro t9 h9 tk9 F9 N9; (try dsimp only); (try k_sweep); (try k_fold)))) | (k_unfold; (try dsimp only)) | (k_end; kc_close) | walk1 | (dsimp only; walk1) | (leave1; walk_say "STEP leave1"; (try dsimp only)) | ((with_reducible show wpAny _ _ (eval (Expr.Name _ _) _) _ _ _); refine nameEq (y := Str.ofString "len") (by decide +kernel) ?_; walk1) | ((with_reducible show wpAny _ _ (eval (Expr.Name _ _) _) _ _ _); refine nameEq (y := Str.ofString "int") (by decide +kernel) ?_; walk1) | ((with_reducible show wpAny _ _ (getMethod _ _ _) _ _ _); refine methEq (y := Str.ofString "isdigit") (by decide +kernel) ?_; walk1) | fail "no step")
              (try dsimp only)
              refine hT3 _ _ _ _ (k - (i + 1)) (by k_asm) (by k_asm) (by omega) (.of (i := i + 1) rfl (by omega) (by omega) rfl rfl rfl rfl)
            · have hi : i = k := by omega
              subst hi
              by_cases hlen : i < l.length
              · obtain ⟨c', hc, h128, hnd⟩ := he hlen
                have hc' : l[((i : Nat) : Int).toNat]? = some c' := by rw [Int.toNat_natCast]; exact hc
                have hg : Txt.isdigit ⟨#[c']⟩ = false := by rw [hdig _ h128]; exact decide_eq_false hnd
                repeat' (first | ((with_reducible show wpAny _ _ (subscriptTail _ _ (Value.str _ _) (Value.int _ _)) _ _ _); k_dflt (refine' sub_sign ?k1 ?k2 ?k3 ?_ ?k6 ?k7; (case k1 => first | assumption | omega); (case k2 => with_reducible assumption); (case k3 => omega); (case k6 => with_unfolding_all rfl); (case k7 => (intro _; with_unfolding_all rfl)))) | ((with_reducible show wpAny _ _ (call (Value.builtin "str.isdigit") [Value.str _ _]) _ _ _); refine KXw.isdigit (by with_reducible assumption) ?_) | ((with_reducible show wpAny _ _ (call (Value.builtin "len") [Value.str _ _]) _ _ _); refine len_codes _ hl9 ?_) | ((with_reducible show wpAny _ _ (call (Value.type "int") [Value.str _ _]) _ _ _); refine KIN.call_text (by with_reducible assumption) (by with_reducible assumption) ?_) | ((with_reducible show wpAny _ _ (call (Value.ref _) _) _ _ _); k_dflt (refine' Spec.useT (c_prim _ _ _ _ _ _ _ ?kr _) ?k1 ?k2 ?k3 ?k4 ?k5 ?kK ?kd ?ku ?_; (case k1 => k_asm); (case k2 => k_asm); (case k3 => k_asm); (case k4 => k_asm); (case k5 => k_asm); (case kr => first | exact PrimOf.lt _ _ _ _  | exact PrimOf.le _ _ _ _  | exact PrimOf.eq _ _ _ _  | exact PrimOf.ge _ _ _ _  | exact PrimOf.gt _ _ _ _  | exact PrimOf.add _ _ _ _  | exact PrimOf.sub _ _ _ _  | exact PrimOf.inv _ _  | exact PrimOf.neg _ _  | exact PrimOf.isnt _ _ ); (case kK => first | exact rfl | assumption); (case kd => ktr_room); (case ku => ktr_units); (intro t9 h9 tk9 F9 N9; (try dsimp only); (try k_sweep); (try k_fold)))) | (k_unfold; (try dsimp only)) | (k_end; kc_close) | walk1 | (dsimp only; walk1) | (leave1; walk_say "STEP leave1"; (try dsimp only)) | ((with_reducible show wpAny _ _ (eval (Expr.Name _ _) _) _ _ _); refine nameEq (y := Str.ofString "len") (by decide +kernel) ?_; walk1) | ((with_reducible show wpAny _ _ (eval (Expr.Name _ _) _) _ _ _); refine nameEq (y := Str.ofString "int") (by decide +kernel) ?_; walk1) | ((with_reducible show wpAny _ _ (getMethod _ _ _) _ _ _); refine methEq (y := Str.ofString "isdigit") (by decide +kernel) ?_; walk1) | fail "no step")
                (try dsimp only)
                refine hF3 _ ?_
                repeat' (first | ((with_reducible show wpAny _ _ (subscriptTail _ _ (Value.str _ _) (Value.int _ _)) _ _ _); k_dflt (refine' sub_sign ?k1 ?k2 ?k3 ?_ ?k6 ?k7; (case k1 => first | assumption | omega); (case k2 => with_reducible assumption); (case k3 => omega); (case k6 => with_unfolding_all rfl); (case k7 => (intro _; with_unfolding_all rfl)))) | ((with_reducible show wpAny _ _ (call (Value.builtin "str.isdigit") [Value.str _ _]) _ _ _); refine KXw.isdigit (by with_reducible assumption) ?_) | ((with_reducible show wpAny _ _ (call (Value.builtin "len") [Value.str _ _]) _ _ _); refine len_codes _ hl9 ?_) | ((with_reducible show wpAny _ _ (call (Value.type "int") [Value.str _ _]) _ _ _); refine KIN.call_text (by with_reducible assumption) (by with_reducible assumption) ?_) | ((with_reducible show wpAny _ _ (call (Value.ref _) _) _ _ _); k_dflt (refine' Spec.useT (c_prim _ _ _ _ _ _ _ ?kr _) ?k1 ?k2 ?k3 ?k4 ?k5 ?kK ?kd ?ku ?_; (case k1 => k_asm); (case k2 => k_asm); (case k3 => k_asm); (case k4 => k_asm); (case k5 => k_asm); (case kr => first | exact PrimOf.lt _ _ _ _  | exact PrimOf.le _ _ _ _  | exact PrimOf.eq _ _ _ _  | exact PrimOf.ge _ _ _ _  | exact PrimOf.gt _ _ _ _  | exact PrimOf.add _ _ _ _  | exact PrimOf.sub _ _ _ _  | exact PrimOf.inv _ _  | exact PrimOf.neg _ _  | exact PrimOf.isnt _ _ ); (case kK => first | exact rfl | assumption); (case kd => ktr_room); (case ku => ktr_units); (intro t9 h9 tk9 F9 N9; (try dsimp only); (try k_sweep); (try k_fold)))) | (k_unfold; (try dsimp only)) | (k_end; kc_close) | walk1 | (dsimp only; walk1) | (leave1; walk_say "STEP leave1"; (try dsimp only)) | ((with_reducible show wpAny _ _ (eval (Expr.Name _ _) _) _ _ _); refine nameEq (y := Str.ofString "len") (by decide +kernel) ?_; walk1) | ((with_reducible show wpAny _ _ (eval (Expr.Name _ _) _) _ _ _); refine nameEq (y := Str.ofString "int") (by decide +kernel) ?_; walk1) | ((with_reducible show wpAny _ _ (getMethod _ _ _) _ _ _); refine methEq (y := Str.ofString "isdigit") (by decide +kernel) ?_; walk1) | fail "no step")
                (try dsimp only)
                rw [← hQQ]
                refine MidQ.intro (by k_asm) (by k_asm) (by (intro p hp; repeat (first | exact hp | refine List.mem_cons_of_mem _ ?_))) ?_
                exact .of rfl rfl rfl rfl
              · repeat' (first | ((with_reducible show wpAny _ _ (subscriptTail _ _ (Value.str _ _) (Value.int _ _)) _ _ _); k_dflt (refine' sub_sign ?k1 ?k2 ?k3 ?_ ?k6 ?k7; (case k1 => first | assumption | omega); (case k2 => with_reducible assumption); (case k3 => omega); (case k6 => with_unfolding_all rfl); (case k7 => (intro _; with_unfolding_all rfl)))) | ((with_reducible show wpAny _ _ (call (Value.builtin "str.isdigit") [Value.str _ _]) _ _ _); refine KXw.isdigit (by with_reducible assumption) ?_) | ((with_reducible show wpAny _ _ (call (Value.builtin "len") [Value.str _ _]) _ _ _); refine len_codes _ hl9 ?_) | ((with_reducible show wpAny _ _ (call (Value.type "int") [Value.str _ _]) _ _ _); refine KIN.call_text (by with_reducible assumption) (by with_reducible assumption) ?_) | ((with_reducible show wpAny _ _ (call (Value.ref _) _) _ _ _); k_dflt (refine' Spec.useT (c_prim _ _ _ _ _ _ _ ?kr _) ?k1 ?k2 ?k3 ?k4 ?k5 ?kK ?kd ?ku ?_; (case k1 => k_asm); (case k2 => k_asm); (case k3 => k_asm); (case k4 => k_asm); (case k5 => k_asm); (case kr => first | exact PrimOf.lt _ _ _ _  | exact PrimOf.le _ _ _ _  | exact PrimOf.eq _ _ _ _  | exact PrimOf.ge _ _ _ _  | exact PrimOf.gt _ _ _ _  | exact PrimOf.add _ _ _ _  | exact PrimOf.sub _ _ _ _  | exact PrimOf.inv _ _  | exact PrimOf.neg _ _  | exact PrimOf.isnt _ _ ); (case kK => first | exact rfl | assumption); (case kd => ktr_room); (case ku => ktr_units); (intro t9 h9 tk9 F9 N9; (try dsimp only); (try k_sweep); (try k_fold)))) | (k_unfold; (try dsimp only)) | (k_end; kc_close) | walk1 | (dsimp only; walk1) | (leave1; walk_say "STEP leave1"; (try dsimp only)) | ((with_reducible show wpAny _ _ (eval (Expr.Name _ _) _) _ _ _); refine nameEq (y := Str.ofString "len") (by decide +kernel) ?_; walk1) | ((with_reducible show wpAny _ _ (eval (Expr.Name _ _) _) _ _ _); refine nameEq (y := Str.ofString "int") (by decide +kernel) ?_; walk1) | ((with_reducible show wpAny _ _ (getMethod _ _ _) _ _ _); refine methEq (y := Str.ofString "isdigit") (by decide +kernel) ?_; walk1) | fail "no step")
                (try dsimp only)
                refine hF3 _ ?_
                repeat' (first | ((with_reducible show wpAny _ _ (subscriptTail _ _ (Value.str _ _) (Value.int _ _)) _ _ _); k_dflt (refine' sub_sign ?k1 ?k2 ?k3 ?_ ?k6 ?k7; (case k1 => first | assumption | omega); (case k2 => with_reducible assumption); (case k3 => omega); (case k6 => with_unfolding_all rfl); (case k7 => (intro _; with_unfolding_all rfl)))) | ((with_reducible show wpAny _ _ (call (Value.builtin "str.isdigit") [Value.str _ _]) _ _ _); refine KXw.isdigit (by with_reducible assumption) ?_) | ((with_reducible show wpAny _ _ (call (Value.builtin "len") [Value.str _ _]) _ _ _); refine len_codes _ hl9 ?_) | ((with_reducible show wpAny _ _ (call (Value.type "int") [Value.str _ _]) _ _ _); refine KIN.call_text (by with_reducible assumption) (by with_reducible assumption) ?_) | ((with_reducible show wpAny _ _ (call (Value.ref _) _) _ _ _); k_dflt (refine' Spec.useT (c_prim _ _ _ _ _ _ _ ?kr _) ?k1 ?k2 ?k3 ?k4 ?k5 ?kK ?kd ?ku ?_; (case k1 => k_asm); (case k2 => k_asm); (case k3 => k_asm); (case k4 => k_asm); (case k5 => k_asm); (case kr => first | exact PrimOf.lt _ _ _ _  | exact PrimOf.le _ _ _ _  | exact PrimOf.eq _ _ _ _  | exact PrimOf.ge _ _ _ _  | exact PrimOf.gt _ _ _ _  | exact PrimOf.add _ _ _ _  | exact PrimOf.sub _ _ _ _  | exact PrimOf.inv _ _  | exact PrimOf.neg _ _  | exact PrimOf.isnt _ _ ); (case kK => first | exact rfl | assumption); (case kd => ktr_room); (case ku => ktr_units); (intro t9 h9 tk9 F9 N9; (try dsimp only); (try k_sweep); (try k_fold)))) | (k_unfold; (try dsimp only)) | (k_end; kc_close) | walk1 | (dsimp only; walk1) | (leave1; walk_say "STEP leave1"; (try dsimp only)) | ((with_reducible show wpAny _ _ (eval (Expr.Name _ _) _) _ _ _); refine nameEq (y := Str.ofString "len") (by decide +kernel) ?_; walk1) | ((with_reducible show wpAny _ _ (eval (Expr.Name _ _) _) _ _ _); refine nameEq (y := Str.ofString "int") (by decide +kernel) ?_; walk1) | ((with_reducible show wpAny _ _ (getMethod _ _ _) _ _ _); refine methEq (y := Str.ofString "isdigit") (by decide +kernel) ?_; walk1) | fail "no step")
                (try dsimp only)
                rw [← hQQ]
                refine MidQ.intro (by k_asm) (by k_asm) (by (intro p hp; repeat (first | exact hp | refine List.mem_cons_of_mem _ ?_))) ?_
                exact .of rfl rfl rfl rfl
      · rintro m2 ⟨t1, t2, u2⟩ h2 tk2 F₂ N₂
        have hz2 : us.toArray.size ≤ sizeLine := by rw [List.size_toArray, sizeLine_eq, hus.length]; omega
        have hz3 : (rs ++ [Value.ref a]).toArray.size ≤ sizeLine := by rw [List.size_toArray, sizeLine_eq, List.length_append, hrs.1, List.length_singleton]; omega
        have hx9 : (rs ++ [Value.ref a])[(rs ++ [Value.ref a]).length - 1]? = some (Value.ref a) := by simp
        clear hpos ht hL F₁ N₁ hF'
        rcases hnext with ⟨hq', hr⟩ | ⟨rfl, hr⟩
        · repeat' (first | ((with_reducible show wpAny _ _ (subscriptTail _ _ (Value.ref _) (Value.int (-1) _)) _ _ _); k_dflt (refine' sub_neg ?k1 ?k2 ?k3 ?_ ?k7; (case k1 => k_asm); (case k2 => k_mem); (case k3 => assumption); (case k7 => with_unfolding_all rfl); k_whole)) | ((with_reducible show wpAny _ _ (call (Value.builtin "list.append") _) _ _ _); k_dflt (refine' append_K ?k1 ?k2 ?k3 ?_ ?z; (case k1 => k_asm); (case k2 => k_asm); (case k3 => k_upd); (case z => assumption); k_whole); intro h9 F9 N9; (try k_sweep)) | ((show @ite Prop _ _ _ _); first | refine ite_pos (decide_eq_true hq') ?_ | refine ite_neg (Bool.eq_false_iff.mp (decide_eq_false hq')) ?_ | refine ite_pos hq' ?_ | refine ite_neg hq' ?_) | (k_unfold; (try dsimp only)) | (k_end; kc_close) | walk1 | (dsimp only; walk1) | (leave1; walk_say "STEP leave1"; (try dsimp only)) | ((with_reducible show wpAny _ _ (getMethod _ _ _) _ _ _); refine methEq (y := Str.ofString "append") (by decide +kernel) ?_; walk1) | fail "no step")
          rename News _ _ _ _ => kN
          rw [List.push_toArray] at kN
          (try dsimp only)
          refine hT _ _ _ _ (l.drop k).length (by k_asm) kN (by rw [List.length_drop]; omega) (WordI.of (l := l.drop k) (c := c ++ [W]) (us := us ++ [.int W t2]) rfl ?_ hr (hus.append (.cons _ _ .nil)) hrs hnews hRa oR oa (str_eq rfl (slice_drop l (Int.natCast_nonneg k) (by omega))) rfl)
          rw [List.length_drop, List.length_append, List.length_singleton]; omega
        · repeat' (first | ((with_reducible show wpAny _ _ (subscriptTail _ _ (Value.ref _) (Value.int (-1) _)) _ _ _); k_dflt (refine' sub_neg ?k1 ?k2 ?k3 ?_ ?k7; (case k1 => k_asm); (case k2 => k_mem); (case k3 => assumption); (case k7 => with_unfolding_all rfl); k_whole)) | ((with_reducible show wpAny _ _ (call (Value.builtin "list.append") _) _ _ _); k_dflt (refine' append_K ?k1 ?k2 ?k3 ?_ ?z; (case k1 => k_asm); (case k2 => k_asm); (case k3 => k_upd); (case z => assumption); k_whole); intro h9 F9 N9; (try k_sweep)) | ((show @ite Prop _ _ _ _); first | refine ite_pos (decide_eq_true hq') ?_ | refine ite_neg (Bool.eq_false_iff.mp (decide_eq_false hq')) ?_ | refine ite_pos hq' ?_ | refine ite_neg hq' ?_) | (k_unfold; (try dsimp only)) | (k_end; kc_close) | walk1 | (dsimp only; walk1) | (leave1; walk_say "STEP leave1"; (try dsimp only)) | ((with_reducible show wpAny _ _ (getMethod _ _ _) _ _ _); refine methEq (y := Str.ofString "append") (by decide +kernel) ?_; walk1) | fail "no step")
          rename News _ _ _ _ => kN
          rename R < _ ∧ _ => l9
          rw [List.push_toArray] at kN
          (try dsimp only)
          have l8 := allLt_out l9.2.2
          refine hT _ _ _ ((R, listOf ((rs ++ [Value.ref a]) ++ [Value.ref _]).toArray (n1 + 1)) :: (_, listOf ([] : List Value).toArray 0) :: (a, listOf us.toArray n2) :: led) (l.drop k).length (by k_asm) (fun p hp => kN p ?_) (by rw [List.length_drop]; omega) (WordI.of (l := l.drop k) (D := D ++ [c]) (c := []) (rs := rs ++ [Value.ref a]) (us := []) rfl ?_ hr .nil (hrs.snoc (fun p hp => List.mem_cons_of_mem _ hp) (List.mem_cons_self ..) hus) (fun p hp => List.mem_cons_of_mem _ (hnews p hp)) (Nat.ne_of_lt l9.1) ?_ ?_ (str_eq rfl (slice_drop l (Int.natCast_nonneg k) (by omega))) rfl)
          · rcases List.mem_cons.mp hp with rfl | hp
            · exact List.mem_cons_of_mem _ (List.mem_cons_self ..)
            · rcases List.mem_cons.mp hp with rfl | hp
              · exact List.mem_cons_self ..
              · exact List.mem_cons_of_mem _ (List.mem_cons_of_mem _ hp)
          · rw [List.length_drop, List.length_append, List.length_singleton, List.length_nil]; omega
          · intro p hp
            rcases List.mem_cons.mp hp with rfl | hp
            · exact haR
            · exact oR p hp
          · intro p hp
            rcases List.mem_cons.mp hp with rfl | hp
            · exact Nat.ne_of_lt l9.2.1
            · exact Nat.ne_of_lt (l8 p hp)
end
end Mine
end
section
open PySem PySem.W PyProof.Rows
namespace Mine
set_option maxRecDepth 100000
set_option maxHeartbeats 8000000
section
variable (w : World) (mean : ExcName → Option Value) (mg mb : Str → Option Value)

def tokC (kd : Int) : Int := [20, 29, 27, 30, 21].getD kd.toNat 0

theorem ints2 {ys : List Value} {a b : Int} (h : IntsAre ys [a, b]) : ∃ t u, ys = [.int a t, .int b u] := by
  cases h with
  | cons _ t h =>
    cases h with
    | cons _ u h =>
      cases h
      exact ⟨t, u, rfl⟩
theorem comp_JT {prog : Program} {w : World} {A : Around} {h₀ : Heap} {L : Addr} {m : Str → Option Value} {env : Env} {ct elt : Expr} {x : Str} {scope : Scope} {cl : List (Str × Addr)} {s : Shared} {S : List (Addr × Obj) → Prop} {P : Nat → Value → Prop} {Fin : List Value → List (Addr × Obj) → Prop} {n : Nat} {news : List (Addr × Obj)} (K : Nat → List Value → List (Addr × Obj) → Prop)
    (h0 : K 0 [] news)
    (turn : ∀ i ys nx, K i ys nx → ∀ v I oI C oC D m₂ h tk (E' : Value → Shared → Prop), i < n → P i v → LCg.NsObj oC m₂ → m₂ x = some v → Fr h₀ L h m → News h₀ L h ((I, oI) :: (C, oC) :: (D, LCg.lst ys) :: nx) → LCg.Off3 I C D nx → ((@Ne Nat I C) ∧ (@Ne Nat I D) ∧ (@Ne Nat C D)) →
      wpAny (model prog w) A (isTrue ct (compEnvC scope cl C env) (eval ct (compEnvC scope cl C env))) (fun ok s' => if ok = true then
        wpAny (model prog w) A (eval elt (compEnvC scope cl C env)) (CEnd h₀ L m { s with heap := h, toks := tk } I oI C oC D (LCg.lst ys) S (fun y nx' => K (i + 1) (ys ++ [y]) nx')) E' s'
        else CEnd h₀ L m { s with heap := h, toks := tk } I oI C oC D (LCg.lst ys) S (fun _ nx' => K (i + 1) ys nx') Value.none s') E' { s with heap := h, toks := tk })
    (fin : ∀ ys nx, K n ys nx → Fin ys nx) : LCt.CompRestT prog w A h₀ L m env ct elt x scope cl s S P Fin n 0 [] news := by
  have key : ∀ (j i : Nat) (ys : List Value) (nx : List (Addr × Obj)), i + j = n → K i ys nx → LCt.CompRestT prog w A h₀ L m env ct elt x scope cl s S P Fin j i ys nx := by
    intro j
    induction j with
    | zero =>
      intro i ys nx hi hk
      have e : i = n := by omega
      subst e
      exact LCt.CompRestT.zero (fin ys nx hk)
    | succ j ih =>
      intro i ys nx hi hk
      refine LCt.CompRestT.succ ?_
      intro v I oI C oC D m₂ h tk E' hv hC hx F N off ne
      refine wpAny_mono (turn i ys nx hk v I oI C oC D m₂ h tk E' (by omega) hv hC hx F N off ne) (fun ok s₂ hq => ?_) fun _ _ e => e
      cases ok with
      | true =>
        simp only [if_true] at hq ⊢
        refine wpAny_mono hq (fun y s₃ hq => ?_) fun _ _ e => e
        obtain ⟨h', tk', nw, e, F', N', off', hS, r⟩ := hq
        exact ⟨h', tk', nw, e, F', N', off', hS, ih (i + 1) _ nw (by omega) r⟩
      | false =>
        simp only [Bool.false_eq_true, if_false] at hq ⊢
        obtain ⟨h', tk', nw, e, F', N', off', hS, r⟩ := hq
        exact ⟨h', tk', nw, e, F', N', off', hS, ih (i + 1) _ nw (by omega) r⟩
  exact key n 0 [] news (by omega) h0
theorem c_read (a : Addr) (us : List Value) (n : Nat) (W : List Int) (hW : IntsAre us W) (o tw kd v4 b : Int) (hf : (W.filter fun x => decide (256 ≤ x)).map (· - 256) = [o, tw]) (h3 : W[3]? = some kd) (h4 : W[4]? = some v4) (hl : W[W.length - 1]? = some (-b - 1)) (hlen : W.length ≤ 10) (news : List (Addr × Obj)) (hm : (a, listOf us.toArray n) ∈ news) :
    Spec w mean mg mb 127 [.ref a] news 2 (fun y n' => ∃ c t1 t2 t3 t4 k, y = .ref c ∧ (∀ p ∈ news, p.1 < c) ∧ (c, ({ cls := .type "tuple", data := .seq [.int o t1, .int tw t2, .int kd t3, .int (if v4 = 15 then -b else b) t4].toArray k } : Obj)) ∈ n' ∧ (∀ p ∈ news, p ∈ n')) := by
  w_top off
  refine ⟨?_⟩
  intro dp un gd cn cs a9 ccd cl outer A₀ base h₀ L m s Q E B F X N T hk hd hu hret
  refine wpAny_call ?_
  k_dflt cell_enter
  refine letA (P := fun A => wpAny _ A _ _ _ _) ?_
  intro A9
  have hsz : us.toArray.size ≤ sizeLine := by rw [List.size_toArray, hW.length, sizeLine_eq]; omega
  repeat' (first | ((with_reducible show wpAny _ _ (eval (Expr.ListComp _ _ _ _) _) _ _ _); refine Hold.out ?_) | (k_unfold; (try dsimp only)) | (k_end; kc_close) | walk1 | (dsimp only; walk1) | (leave1; walk_say "STEP leave1"; (try dsimp only)) | fail "no step")
  unfold Hold
  (k_dflt (refine LCt.ListComp_T (F₀ := by k_asm) (by with_unfolding_all rfl) (by decide) (by rfl) (by decide) (by rfl) ?_))
  repeat' (first | ((with_reducible show LCt.CompSrcT _ _ _ _ _ _ _ _ _ _ _ _ _ _ _); refine Hold.out ?_) | (k_unfold; (try dsimp only)) | (k_end; kc_close) | walk1 | (dsimp only; walk1) | (leave1; walk_say "STEP leave1"; (try dsimp only)) | fail "no step")
  unfold Hold
  (k_dflt (refine LCt.CompSrcT.ledger (by rfl) (by k_asm) (by k_asm) (by k_mem) (by assumption) ?_))
  intro g'
  refine comp_JT (fun i ys nx => nx = news ∧ IntsAre ys (((W.take i).filter fun x => decide (256 ≤ x)).map (· - 256))) ⟨rfl, .nil⟩ ?_ ?_
  · rintro i ys nx ⟨rfl, hys⟩ v I oI C oC D' m₂ h tk E' hi hP hC hx F N off ne
    have hv : us[i]? = some v := by simpa using hP
    have hlt : i < W.length := by rw [← hW.length]; exact (List.getElem?_eq_some_iff.mp hv).1
    obtain ⟨t, ht⟩ := hW.get i _ (List.getElem?_eq_getElem hlt)
    rw [hv] at ht
    have ev := Option.some.inj ht
    subst ev
    have hstep : W.take (i + 1) = W.take i ++ [W[i]] := by rw [List.take_add_one, List.getElem?_eq_getElem hlt]; rfl
    rw [hstep, List.filter_append, List.map_append]
    obtain ⟨x, ex⟩ : ∃ x, x = W[i] := ⟨_, rfl⟩
    rw [← ex] at hx ⊢
    by_cases hq' : 256 ≤ x
    · repeat' (first | ((with_reducible show wpAny _ _ (call (Value.ref _) _) _ _ _); k_dflt (refine' Spec.useT (c_prim _ _ _ _ _ _ _ ?kr _) ?k1 ?k2 ?k3 ?k4 ?k5 ?kK ?kd ?ku ?_; (case k1 => k_asm); (case k2 => k_asm); (case k3 => k_asm); (case k4 => k_asm); (case k5 => k_asm); (case kr => first | exact PrimOf.lt _ _ _ _  | exact PrimOf.le _ _ _ _  | exact PrimOf.eq _ _ _ _  | exact PrimOf.ge _ _ _ _  | exact PrimOf.gt _ _ _ _  | exact PrimOf.add _ _ _ _  | exact PrimOf.sub _ _ _ _  | exact PrimOf.inv _ _  | exact PrimOf.neg _ _  | exact PrimOf.isnt _ _ ); (case kK => first | exact rfl | assumption); (case kd => ktr_room); (case ku => ktr_units); (intro t9 h9 tk9 F9 N9; (try dsimp only); (try k_sweep); (try k_fold)))) | ((show @ite Prop _ _ _ _); first | refine ite_pos (decide_eq_true hq') ?_ | refine ite_neg (Bool.eq_false_iff.mp (decide_eq_false hq')) ?_ | refine ite_pos hq' ?_ | refine ite_neg hq' ?_) | (k_unfold; (try dsimp only)) | (k_end; kc_close) | walk1 | (dsimp only; walk1) | (leave1; walk_say "STEP leave1"; (try dsimp only)) | fail "no step")
      rw [List.filter_cons_of_pos (by simpa using hq'), List.filter_nil, List.map_singleton]
      exact CEnd.intro nx (by k_asm) (by k_asm) (fun p hp => hp) off (.inr ⟨_, hm, rfl, _, rfl⟩) ⟨rfl, hys.append (.cons _ _ .nil)⟩
    · repeat' (first | ((with_reducible show wpAny _ _ (call (Value.ref _) _) _ _ _); k_dflt (refine' Spec.useT (c_prim _ _ _ _ _ _ _ ?kr _) ?k1 ?k2 ?k3 ?k4 ?k5 ?kK ?kd ?ku ?_; (case k1 => k_asm); (case k2 => k_asm); (case k3 => k_asm); (case k4 => k_asm); (case k5 => k_asm); (case kr => first | exact PrimOf.lt _ _ _ _  | exact PrimOf.le _ _ _ _  | exact PrimOf.eq _ _ _ _  | exact PrimOf.ge _ _ _ _  | exact PrimOf.gt _ _ _ _  | exact PrimOf.add _ _ _ _  | exact PrimOf.sub _ _ _ _  | exact PrimOf.inv _ _  | exact PrimOf.neg _ _  | exact PrimOf.isnt _ _ ); (case kK => first | exact rfl | assumption); (case kd => ktr_room); (case ku => ktr_units); (intro t9 h9 tk9 F9 N9; (try dsimp only); (try k_sweep); (try k_fold)))) | ((show @ite Prop _ _ _ _); first | refine ite_pos (decide_eq_true hq') ?_ | refine ite_neg (Bool.eq_false_iff.mp (decide_eq_false hq')) ?_ | refine ite_pos hq' ?_ | refine ite_neg hq' ?_) | (k_unfold; (try dsimp only)) | (k_end; kc_close) | walk1 | (dsimp only; walk1) | (leave1; walk_say "STEP leave1"; (try dsimp only)) | fail "no step")
      rw [List.filter_cons_of_neg (by simpa using hq'), List.filter_nil]
      exact CEnd.intro nx (by k_asm) (by k_asm) (fun p hp => hp) off (.inr ⟨_, hm, rfl, _, rfl⟩) ⟨rfl, by rw [List.map_nil, List.append_nil]; exact hys⟩
  · rintro ys nx ⟨rfl, hys⟩
    intro T h1 tk1 F1 N1 off1
    rw [List.take_of_length_le (by rw [List.size_toArray, hW.length]; exact Nat.le_refl _), hf] at hys
    obtain ⟨ta9, tb9, rfl⟩ := ints2 hys
    obtain ⟨t3, h3'⟩ := hW.get 3 _ h3
    obtain ⟨t4, h4'⟩ := hW.get 4 _ h4
    obtain ⟨tl, hl'⟩ := hW.get _ _ hl
    rw [← hW.length] at hl'
    have h3'' : us[(3 : Int).toNat]? = some (.int kd t3) := h3'
    have h4'' : us[(4 : Int).toNat]? = some (.int v4 t4) := h4'
    clear hW hf hys hl h3 h4 h3' h4'
    by_cases hq' : v4 = 15
    · repeat' (first | ((with_reducible show wpAny _ _ (call (Value.ref _) _) _ _ _); k_dflt (refine' Spec.useT (c_prim _ _ _ _ _ _ _ ?kr _) ?k1 ?k2 ?k3 ?k4 ?k5 ?kK ?kd ?ku ?_; (case k1 => k_asm); (case k2 => k_asm); (case k3 => k_asm); (case k4 => k_asm); (case k5 => k_asm); (case kr => first | exact PrimOf.lt _ _ _ _  | exact PrimOf.le _ _ _ _  | exact PrimOf.eq _ _ _ _  | exact PrimOf.ge _ _ _ _  | exact PrimOf.gt _ _ _ _  | exact PrimOf.add _ _ _ _  | exact PrimOf.sub _ _ _ _  | exact PrimOf.inv _ _  | exact PrimOf.neg _ _  | exact PrimOf.isnt _ _ ); (case kK => first | exact rfl | assumption); (case kd => ktr_room); (case ku => ktr_units); (intro t9 h9 tk9 F9 N9; (try dsimp only); (try k_sweep); (try k_fold)))) | ((with_reducible show wpAny _ _ (subscriptTail _ _ (Value.ref _) (Value.int (-1) _)) _ _ _); k_dflt (refine' sub_neg ?k1 ?k2 ?k3 ?_ ?k7; (case k1 => k_asm); (case k2 => k_mem); (case k3 => assumption); (case k7 => with_unfolding_all rfl); k_whole)) | ((with_reducible show wpAny _ _ (subscriptTail _ _ (Value.ref _) (Value.int _ _)) _ _ _); k_dflt (refine' sub_any ?k1 ?k2 ?k3 ?k4 ?k5 ?_ ?k7; (case k1 => k_asm); (case k2 => k_mem); (case k3 => assumption); (case k4 => first | assumption | omega); (case k5 => first | assumption | omega); (case k7 => with_unfolding_all rfl); k_whole)) | ((show @ite Prop _ _ _ _); first | refine ite_pos (decide_eq_true hq') ?_ | refine ite_neg (Bool.eq_false_iff.mp (decide_eq_false hq')) ?_ | refine ite_pos hq' ?_ | refine ite_neg hq' ?_) | (k_unfold; (try dsimp only)) | (k_end; kc_close) | walk1 | (dsimp only; walk1) | (leave1; walk_say "STEP leave1"; (try dsimp only)) | fail "no step")
      refine hret _ _ _ _ (by k_asm) (by k_asm) ?_
      rw [show (if v4 = 15 then -b else b) = -(-(-b - 1) - 1) by rw [if_pos hq']; omega]
      refine ⟨_, _, _, _, _, _, rfl, ?_, List.mem_cons_self .., fun p hp => List.mem_cons_of_mem _ (List.mem_cons_of_mem _ hp)⟩
      exact allLt_out (And.right (by assumption))
    · repeat' (first | ((with_reducible show wpAny _ _ (call (Value.ref _) _) _ _ _); k_dflt (refine' Spec.useT (c_prim _ _ _ _ _ _ _ ?kr _) ?k1 ?k2 ?k3 ?k4 ?k5 ?kK ?kd ?ku ?_; (case k1 => k_asm); (case k2 => k_asm); (case k3 => k_asm); (case k4 => k_asm); (case k5 => k_asm); (case kr => first | exact PrimOf.lt _ _ _ _  | exact PrimOf.le _ _ _ _  | exact PrimOf.eq _ _ _ _  | exact PrimOf.ge _ _ _ _  | exact PrimOf.gt _ _ _ _  | exact PrimOf.add _ _ _ _  | exact PrimOf.sub _ _ _ _  | exact PrimOf.inv _ _  | exact PrimOf.neg _ _  | exact PrimOf.isnt _ _ ); (case kK => first | exact rfl | assumption); (case kd => ktr_room); (case ku => ktr_units); (intro t9 h9 tk9 F9 N9; (try dsimp only); (try k_sweep); (try k_fold)))) | ((with_reducible show wpAny _ _ (subscriptTail _ _ (Value.ref _) (Value.int (-1) _)) _ _ _); k_dflt (refine' sub_neg ?k1 ?k2 ?k3 ?_ ?k7; (case k1 => k_asm); (case k2 => k_mem); (case k3 => assumption); (case k7 => with_unfolding_all rfl); k_whole)) | ((with_reducible show wpAny _ _ (subscriptTail _ _ (Value.ref _) (Value.int _ _)) _ _ _); k_dflt (refine' sub_any ?k1 ?k2 ?k3 ?k4 ?k5 ?_ ?k7; (case k1 => k_asm); (case k2 => k_mem); (case k3 => assumption); (case k4 => first | assumption | omega); (case k5 => first | assumption | omega); (case k7 => with_unfolding_all rfl); k_whole)) | ((show @ite Prop _ _ _ _); first | refine ite_pos (decide_eq_true hq') ?_ | refine ite_neg (Bool.eq_false_iff.mp (decide_eq_false hq')) ?_ | refine ite_pos hq' ?_ | refine ite_neg hq' ?_) | (k_unfold; (try dsimp only)) | (k_end; kc_close) | walk1 | (dsimp only; walk1) | (leave1; walk_say "STEP leave1"; (try dsimp only)) | fail "no step")
      refine hret _ _ _ _ (by k_asm) (by k_asm) ?_
      rw [show (if v4 = 15 then -b else b) = -(-b - 1) - 1 by rw [if_neg hq']; omega]
      refine ⟨_, _, _, _, _, _, rfl, ?_, List.mem_cons_self .., fun p hp => List.mem_cons_of_mem _ (List.mem_cons_of_mem _ hp)⟩
      exact allLt_out (And.right (by assumption))
end
end Mine
end
section
open PySem PySem.W PyProof.Rows
namespace Mine
set_option maxRecDepth 100000
theorem okey_cons {c : Nat} {r : List Nat} (h : [33, 37, 38, 40, 41, 42, 43, 44, 45, 46, 47, 58, 59, 60, 61, 62, 64, 91, 93, 94, 123, 124, 125, 126].contains c = false) : okey ⟨(c :: r).toArray⟩ = false := by
  show ([33, 37, 38, 40, 41, 42, 43, 44, 45, 46, 47, 58, 59, 60, 61, 62, 64, 91, 93, 94, 123, 124, 125, 126].contains c && _) = false
  rw [h]; rfl
theorem okey_two {a c : Nat} (h : [61, 42, 62, 60, 47, 46].contains c = false) : okey ⟨[a, c].toArray⟩ = false := by
  show (_ && [61, 42, 62, 60, 47, 46].contains c) = false
  rw [h, Bool.and_false]
theorem let_ok {o : Nat} (ho : o < 4) : [33, 37, 38, 40, 41, 42, 43, 44, 45, 46, 47, 58, 59, 60, 61, 62, 64, 91, 93, 94, 123, 124, 125, 126].contains (97 + o) = false ∧ [61, 42, 62, 60, 47, 46].contains (97 + o) = false := 
  (show ∀ o : Nat, o < 4 → [33, 37, 38, 40, 41, 42, 43, 44, 45, 46, 47, 58, 59, 60, 61, 62, 64, 91, 93, 94, 123, 124, 125, 126].contains (97 + o) = false ∧ [61, 42, 62, 60, 47, 46].contains (97 + o) = false by decide) o ho
theorem dig_ok {o : Nat} (ho : o < 10) : [33, 37, 38, 40, 41, 42, 43, 44, 45, 46, 47, 58, 59, 60, 61, 62, 64, 91, 93, 94, 123, 124, 125, 126].contains (48 + o) = false ∧ [61, 42, 62, 60, 47, 46].contains (48 + o) = false := 
  (show ∀ o : Nat, o < 10 → [33, 37, 38, 40, 41, 42, 43, 44, 45, 46, 47, 58, 59, 60, 61, 62, 64, 91, 93, 94, 123, 124, 125, 126].contains (48 + o) = false ∧ [61, 42, 62, 60, 47, 46].contains (48 + o) = false by decide) o ho
theorem tok_eq {P : Params} {l : List Nat} {k : Nat} {W W' : Int} (h : TokAt P l k W) (e : W = W') : TokAt P l k W' := e ▸ h
theorem lx_name (P : Params) {o : Nat} (ho : o < 4) (r : List Nat) : TokAt P ((97 + o) :: r) 1 (256 + (o : Int)) :=
  tok_eq (.name (97 + o) (tok_none P (by rw [List.take_succ_cons]; exact okey_cons (let_ok ho).1)) (tok_none P (by rw [List.take_succ_cons]; exact okey_cons (let_ok ho).1)) rfl (by omega)) (by omega)
theorem lx_minus (P : Params) {c : Nat} (hc : [61, 42, 62, 60, 47, 46].contains c = false) (r : List Nat) : TokAt P (45 :: c :: r) 1 15 :=
  .one 15 _ (tok_none P (okey_two hc)) (by rfl) (Nat.le_add_left ..)
theorem lx_comma (P : Params) {c : Nat} (hc : [61, 42, 62, 60, 47, 46].contains c = false) (r : List Nat) : TokAt P (44 :: c :: r) 1 12 :=
  .one 12 _ (tok_none P (okey_two hc)) (by rfl) (Nat.le_add_left ..)
theorem lx_op (P : Params) {kd : Int} (h : 0 ≤ kd ∧ kd < 5) {c : Nat} (hc : [61, 42, 62, 60, 47, 46].contains c = false) (r : List Nat) : TokAt P (opC kd ++ c :: r) (opC kd).length (tokC kd) := by
  have : kd = 0 ∨ kd = 1 ∨ kd = 2 ∨ kd = 3 ∨ kd = 4 := by omega
  rcases this with rfl | rfl | rfl | rfl | rfl
  · exact .one 20 _ (tok_none P (okey_two hc)) (by rfl) (Nat.le_add_left ..)
  · exact .two 29 _ (by rfl) (Nat.le_add_left ..)
  · exact .two 27 _ (by rfl) (Nat.le_add_left ..)
  · exact .two 30 _ (by rfl) (Nat.le_add_left ..)
  · exact .one 21 _ (tok_none P (okey_two hc)) (by rfl) (Nat.le_add_left ..)
theorem digC_int {n : Nat} (h : n < 21) : PySem.intText? ⟨(digC n).toArray⟩ = some (n : Int) :=
  (show ∀ n : Nat, n < 21 → PySem.intText? ⟨(digC n).toArray⟩ = some (n : Int) by decide +kernel) n h
theorem digC_head {n : Nat} (h : n < 21) : ∃ c r, c < 10 ∧ digC n = (48 + c) :: r ∧ (r = [] ∨ ∃ d, d < 10 ∧ r = [48 + d]) := by
  unfold digC
  split
  · exact ⟨n, [], by omega, rfl, .inl rfl⟩
  · exact ⟨n / 10, [48 + n % 10], by omega, rfl, .inr ⟨n % 10, by omega, rfl⟩⟩
theorem lx_num (P : Params) {n : Nat} (h : n < 21) {rest : List Nat} (hr : rest = [] ∨ ∃ r, rest = 44 :: r) : TokAt P (digC n ++ rest) (digC n).length (-(n : Int) - 1) := by
  have hi := digC_int h
  obtain ⟨c, r, hc, e, hr2⟩ := digC_head h
  rw [e] at hi ⊢
  have hlen : ((48 + c) :: r).length ≤ 2 := by rcases hr2 with rfl | ⟨d, _, rfl⟩ <;> simp
  refine .num (48 + c) _ (n : Int) (tok_none P (by rw [List.cons_append, List.take_succ_cons]; exact okey_cons (dig_ok hc).1)) (tok_none P (by rw [List.cons_append, List.take_succ_cons]; exact okey_cons (dig_ok hc).1)) rfl (by omega) (by omega) (Nat.le_add_left ..) (by rw [List.length_append]; omega) ?_ ?_ ?_ (by omega)
  · intro i h1 h2
    rcases hr2 with rfl | ⟨d, hd, rfl⟩
    · simp at h2; omega
    · have : i = 1 := by simp at h2; omega
      subst this
      exact ⟨48 + d, rfl, by omega, by omega⟩
  · intro h2
    rcases hr with rfl | ⟨r', rfl⟩
    · rw [List.append_nil] at h2; omega
    · exact ⟨44, by rw [List.getElem?_append_right (Nat.le_refl _), Nat.sub_self]; rfl, by decide, by decide⟩
  · rw [List.take_append_of_le_length (Nat.le_refl _), List.take_length]; exact hi
/-- a statement's row of words -/
def rowI (d : Int × Int × Int × Int) : List Int := [256 + d.1, 15, 256 + d.2.1, tokC d.2.2.1] ++ ((if d.2.2.2 < 0 then [15] else []) ++ [-(d.2.2.2.natAbs : Int) - 1])
theorem lx_word {P : Params} {Fin : List (List Int)} {l r : List Nat} {D : List (List Int)} {c : List Int} {k : Nat} {W : Int} (ht : TokAt P l k W) (hW : W ≠ 12) (e : l.drop k = r) (h : Lex P Fin r D (c ++ [W])) : Lex P Fin l D c := .word l D c k W ht hW (e ▸ h)
theorem tokC_ne {kd : Int} (h : 0 ≤ kd ∧ kd < 5) : tokC kd ≠ 12 := by
  have : kd = 0 ∨ kd = 1 ∨ kd = 2 ∨ kd = 3 ∨ kd = 4 := by omega
  rcases this with rfl | rfl | rfl | rfl | rfl <;> decide
structure Fits (d : Int × Int × Int × Int) : Prop where
  o : 0 ≤ d.1 ∧ d.1 < 4
  w : 0 ≤ d.2.1 ∧ d.2.1 < 4
  k : 0 ≤ d.2.2.1 ∧ d.2.2.1 < 5
  b : -20 ≤ d.2.2.2 ∧ d.2.2.2 ≤ 20
theorem numC_head {b : Int} (h : -20 ≤ b ∧ b ≤ 20) : ∃ c r, numC b = c :: r ∧ [61, 42, 62, 60, 47, 46].contains c = false := by
  unfold numC
  split
  · exact ⟨45, _, rfl, rfl⟩
  · obtain ⟨c, r, hc, e, _⟩ := digC_head (n := b.natAbs) (by omega)
    exact ⟨_, _, e, (dig_ok hc).2⟩
theorem lex_draw {P : Params} {Fin : List (List Int)} {d : Int × Int × Int × Int} (h : Fits d) {rest : List Nat} (hr : rest = [] ∨ ∃ r, rest = 44 :: r) {D : List (List Int)} (H : Lex P Fin rest D (rowI d)) : Lex P Fin (drawC d ++ rest) D [] := by
  obtain ⟨o, w, kd, b⟩ := d
  obtain ⟨ho, hw, hk, hb⟩ := h
  dsimp only at ho hw hk hb
  have e1 : (256 : Int) + (o.toNat : Int) = 256 + o := by omega
  have e2 : (256 : Int) + (w.toNat : Int) = 256 + w := by omega
  unfold drawC
  dsimp only
  simp only [List.cons_append, List.append_assoc, List.nil_append]
  refine lx_word (r := 45 :: (97 + w.toNat) :: (opC kd ++ (numC b ++ rest))) (tok_eq (lx_name P (by omega) _) e1) (by omega) rfl ?_
  refine lx_word (r := (97 + w.toNat) :: (opC kd ++ (numC b ++ rest))) (lx_minus P (let_ok (by omega)).2 _) (by decide) rfl ?_
  refine lx_word (r := opC kd ++ (numC b ++ rest)) (tok_eq (lx_name P (by omega) _) e2) (by omega) rfl ?_
  obtain ⟨c, r, en, hc⟩ := numC_head hb
  refine lx_word (r := numC b ++ rest) (by rw [en, List.cons_append]; exact lx_op P hk hc _) (tokC_ne hk) (List.drop_left) ?_
  unfold rowI at H
  dsimp only at H
  unfold numC
  by_cases hb0 : b < 0
  · rw [if_pos hb0] at H ⊢
    obtain ⟨c, r, hc, ed, _⟩ := digC_head (n := b.natAbs) (by omega)
    refine lx_word (r := digC b.natAbs ++ rest) (by rw [ed]; exact lx_minus P (dig_ok hc).2 _) (by decide) rfl ?_
    exact lx_word (r := rest) (lx_num P (by omega) hr) (by omega) (List.drop_left) H
  · rw [if_neg hb0] at H ⊢
    exact lx_word (r := rest) (lx_num P (by omega) hr) (by omega) (List.drop_left) H
/-- the statements, glued -/
def txtC : List (Int × Int × Int × Int) → List Nat
  | [] => []
  | [d] => drawC d
  | d :: e :: r => drawC d ++ 44 :: txtC (e :: r)
theorem txtC_head (e : Int × Int × Int × Int) (r : List (Int × Int × Int × Int)) : ∃ s, txtC (e :: r) = (97 + e.1.toNat) :: s := by
  cases r with
  | nil => exact ⟨_, rfl⟩
  | cons f r => exact ⟨_, rfl⟩
theorem lex_txt (P : Params) : ∀ (ds : List (Int × Int × Int × Int)) (_ : ds ≠ []) (_ : ∀ d ∈ ds, Fits d) (D : List (List Int)), Lex P (D ++ ds.map rowI) (txtC ds) D []
  | [], h, _, _ => absurd rfl h
  | [d], _, h, D => by
    have := lex_draw (P := P) (Fin := D ++ [rowI d]) (h d (List.mem_cons_self ..)) (rest := []) (.inl rfl) (.nil D (rowI d) rfl)
    rw [List.append_nil] at this
    exact this
  | d :: e :: r, _, h, D => by
    refine lex_draw (h d (List.mem_cons_self ..)) (.inr ⟨_, rfl⟩) ?_
    have he := h e (List.mem_cons_of_mem _ (List.mem_cons_self ..))
    have ih := lex_txt P (e :: r) (by simp) (fun d hd => h d (List.mem_cons_of_mem _ hd)) (D ++ [rowI d])
    obtain ⟨s, es⟩ := txtC_head e r
    refine .comma _ D (rowI d) 1 (by rw [es]; exact lx_comma P (let_ok (by have := he.o; omega)).2 _) ?_
    rw [List.append_assoc] at ih
    exact ih
theorem drawC_len {d : Int × Int × Int × Int} (h : Fits d) : (drawC d).length ≤ 8 := by
  have h1 := (num_bd h.b).2
  have h2 : (opC d.2.2.1).length ≤ 2 := by
    obtain ⟨n, e⟩ := Int.eq_ofNat_of_zero_le h.k.1
    have hn : n < 5 := by have := h.k.2; omega
    rw [e]
    exact (show ∀ n : Nat, n < 5 → (opC (n : Int)).length ≤ 2 by decide +kernel) n hn
  unfold drawC
  simp only [List.length_append, List.length_cons, List.length_nil]
  omega
theorem txtC_len : ∀ (ds : List (Int × Int × Int × Int)) (_ : ∀ d ∈ ds, Fits d), (txtC ds).length ≤ 9 * ds.length
  | [], _ => Nat.le_refl _
  | [d], h => by have := drawC_len (h d (List.mem_cons_self ..)); show (drawC d).length ≤ 9 * 1; omega
  | d :: e :: r, h => by
    have h1 := drawC_len (h d (List.mem_cons_self ..))
    have h2 := txtC_len (e :: r) (fun d hd => h d (List.mem_cons_of_mem _ hd))
    show (drawC d ++ 44 :: txtC (e :: r)).length ≤ _
    simp only [List.length_append, List.length_cons] at *
    omega
/-- what _law_read wants of a row -/
theorem rowI_read {d : Int × Int × Int × Int} (h : Fits d) : ((rowI d).filter fun x => decide (256 ≤ x)).map (· - 256) = [d.1, d.2.1] ∧ (rowI d)[3]? = some (tokC d.2.2.1) ∧ (rowI d)[4]? = some (if d.2.2.2 < 0 then 15 else -(d.2.2.2.natAbs : Int) - 1) ∧
    (rowI d)[(rowI d).length - 1]? = some (-(d.2.2.2.natAbs : Int) - 1) ∧ (rowI d).length ≤ 10 ∧ (if (if d.2.2.2 < 0 then (15 : Int) else -(d.2.2.2.natAbs : Int) - 1) = 15 then -(d.2.2.2.natAbs : Int) else (d.2.2.2.natAbs : Int)) = d.2.2.2 := by
  obtain ⟨o, w, kd, b⟩ := d
  obtain ⟨ho, hw, hk, hb⟩ := h
  dsimp only at ho hw hk hb
  have hT : tokC kd < 256 := by
    have : kd = 0 ∨ kd = 1 ∨ kd = 2 ∨ kd = 3 ∨ kd = 4 := by omega
    rcases this with rfl | rfl | rfl | rfl | rfl <;> decide
  unfold rowI
  dsimp only
  have f1 : decide ((256 : Int) ≤ 256 + o) = true := decide_eq_true (by omega)
  have f2 : decide ((256 : Int) ≤ 256 + w) = true := decide_eq_true (by omega)
  have f3 : decide ((256 : Int) ≤ tokC kd) = false := decide_eq_false (by omega)
  have f4 : decide ((256 : Int) ≤ -(b.natAbs : Int) - 1) = false := decide_eq_false (by omega)
  have f5 : decide ((256 : Int) ≤ 15) = false := by decide
  have g1 : 256 + o - 256 = o := by omega
  have g2 : 256 + w - 256 = w := by omega
  by_cases hb0 : b < 0
  · simp only [if_pos hb0]
    refine ⟨?_, rfl, rfl, rfl, by simp, by simp only [if_true]; omega⟩
    simp only [List.cons_append, List.nil_append, List.filter_cons, List.filter_nil, f1, f2, f3, f4, f5, if_true, Bool.false_eq_true, if_false, List.map_cons, List.map_nil, g1, g2]
  · simp only [if_neg hb0]
    refine ⟨?_, rfl, rfl, rfl, by simp, by rw [if_neg (by omega)]; omega⟩
    simp only [List.cons_append, List.nil_append, List.filter_cons, List.filter_nil, f1, f2, f3, f4, f5, if_true, Bool.false_eq_true, if_false, List.map_cons, List.map_nil, g1, g2]
end Mine
end
section
namespace Mine
inductive Walk (M : Mat) : Nat → List Nat → Nat → Int → Prop
  | nil (a : Nat) : Walk M a [] a 0
  | cons {a b e : Nat} {l : List Nat} {s t : Int} (h : M a b = some s) (r : Walk M b l e t) : Walk M a (b :: l) e (s + t)
/-- the walk's edges hold at x -/
theorem Walk.holds {M : Mat} {x : Nat → Int} (hx : ∀ a b s, M a b = some s → x a ≤ x b + s) {a e : Nat} {l : List Nat} {t : Int} (h : Walk M a l e t) : x a ≤ x e + t := by
  induction h with
  | nil a => omega
  | cons h _ ih => have := hx _ _ _ h; omega
/-- rounds -/
theorem Walk.rounds {M : Mat} {y : Nat → Nat → Int} (hy : ∀ j a b s, M a b = some s → y (j + 1) a ≤ y j b + s) {a e : Nat} {l : List Nat} {t : Int} (h : Walk M a l e t) : y l.length a ≤ y 0 e + t := by
  induction h with
  | nil a => simp
  | @cons a b e l s t h _ ih => have := hy l.length a b s h; simp only [List.length_cons]; omega
theorem Walk.split {M : Mat} {b e c : Nat} {l : List Nat} {t : Int} (h : Walk M b l e t) : c ∈ b :: l → (c = b) ∨ ∃ l1 d l2 t1 s t2, l = l1 ++ c :: l2 ∧ Walk M b l1 d t1 ∧ M d c = some s ∧ Walk M c l2 e t2 ∧ t = t1 + s + t2 := by
  induction h with
  | nil a => intro hc; exact .inl (by simpa using hc)
  | @cons a b e l s t h r ih =>
    intro hc
    rcases List.mem_cons.mp hc with hc | hc
    · exact .inl hc
    rcases ih hc with rfl | ⟨l1, d, l2, t1, s', t2, rfl, w1, hd, w2, rfl⟩
    · exact .inr ⟨[], a, l, 0, s, t, rfl, .nil a, h, r, by omega⟩
    · exact .inr ⟨b :: l1, d, l2, s + t1, s', t2, rfl, .cons h w1, hd, w2, by omega⟩
/-- the ways, told -/
theorem foldW {M : Mat} {rec : List Nat → Int → List Int × List Int} {way : List Nat} {tot : Int} : ∀ (vs : List Nat) (p : List Int × List Int),
    (∀ t, t ∈ (vs.foldl (turnF M rec way tot) p).1 ↔ t ∈ p.1 ∨ ∃ v ∈ vs, ∃ s, M (way.getLastD 0) v = some s ∧ v ≠ way.headD 0 ∧ v ∉ way ∧ t ∈ (rec (way ++ [v]) (tot + s)).1) ∧
    (∀ t, t ∈ (vs.foldl (turnF M rec way tot) p).2 ↔ t ∈ p.2 ∨ ∃ v ∈ vs, ∃ s, M (way.getLastD 0) v = some s ∧ ((v = way.headD 0 ∧ t = tot + s) ∨ (v ≠ way.headD 0 ∧ v ∉ way ∧ t ∈ (rec (way ++ [v]) (tot + s)).2)))
  | [], p => by simp
  | v :: vs, p => by
    have ih := foldW (M := M) (rec := rec) (way := way) (tot := tot) vs (turnF M rec way tot p v)
    simp only [List.foldl_cons]
    refine ⟨fun t => ?_, fun t => ?_⟩
    · rw [ih.1 t]
      unfold turnF
      cases hM : M (way.getLastD 0) v with
      | none => simp only [List.mem_cons, exists_eq_or_imp, hM, reduceCtorEq, false_and, exists_false, false_or]
      | some s =>
        dsimp only
        split
        · rename_i h; simp only [List.mem_cons, exists_eq_or_imp, h, ne_eq, not_true_eq_false, false_and, and_false, exists_false, false_or]
        · split
          · rename_i h h'; simp only [List.mem_cons, exists_eq_or_imp, h', not_true_eq_false, false_and, and_false, exists_false, false_or]
          · rename_i h h'
            simp only [List.mem_append, List.mem_cons, exists_eq_or_imp, hM, Option.some.injEq, exists_eq_left', h, h', not_false_eq_true, true_and, ne_eq]
            exact or_assoc
    · rw [ih.2 t]
      unfold turnF
      cases hM : M (way.getLastD 0) v with
      | none => simp only [List.mem_cons, exists_eq_or_imp, hM, reduceCtorEq, false_and, exists_false, false_or]
      | some s =>
        dsimp only
        split
        · rename_i h
          subst h
          simp only [List.mem_append, List.mem_cons, List.not_mem_nil, exists_eq_or_imp, hM, Option.some.injEq, exists_eq_left', true_and, ne_eq, not_true_eq_false, false_and, or_false]
          exact or_assoc
        · split
          · rename_i h h'; simp only [List.mem_cons, exists_eq_or_imp, h, h', not_true_eq_false, false_and, and_false, or_self, exists_false, false_or]
          · rename_i h h'
            simp only [List.mem_append, List.mem_cons, exists_eq_or_imp, hM, Option.some.injEq, exists_eq_left', h, h', not_false_eq_true, true_and, ne_eq, false_and, false_or]
            exact or_assoc

theorem last_app {way : List Nat} {v : Nat} : (way ++ [v]).getLastD 0 = v := by simp
theorem head_app {way : List Nat} {v : Nat} (h : way ≠ []) : (way ++ [v]).headD 0 = way.headD 0 := by
  cases way with
  | nil => exact absurd rfl h
  | cons a r => rfl
/-- what stands in the ways -/
theorem ways_sound {M : Mat} : ∀ (k : Nat) (way : List Nat) (tot : Int), way ≠ [] →
    (∀ t ∈ (waysF M k way tot).1, ∃ l e t', Walk M (way.getLastD 0) l e t' ∧ t = tot + t' ∧ l.length ≤ k ∧ (∀ v ∈ l, v ∉ way) ∧ l.Nodup ∧ ∀ v ∈ l, v < 4) ∧
    (∀ t ∈ (waysF M k way tot).2, ∃ l e t' s, Walk M (way.getLastD 0) l e t' ∧ M e (way.headD 0) = some s ∧ t = tot + t' + s)
  | 0, way, tot, _ => ⟨fun t ht => ⟨[], _, 0, .nil _, by simp [waysF] at ht; omega, by simp, by simp, by simp, by simp⟩, fun t ht => by simp [waysF] at ht⟩
  | k + 1, way, tot, hw => by
    have hf := foldW (M := M) (rec := waysF M k) (way := way) (tot := tot) (List.range 4) ([tot], [])
    refine ⟨fun t ht => ?_, fun t ht => ?_⟩
    · rcases (hf.1 t).mp ht with h | ⟨v, hv, s, hM, hne, hni, ht⟩
      · exact ⟨[], _, 0, .nil _, by simp at h; omega, by simp, by simp, by simp, by simp⟩
      · obtain ⟨l, e, t', w, et, hl, hd, hn, h4⟩ := (ways_sound k (way ++ [v]) (tot + s) (by simp)).1 t ht
        rw [last_app] at w
        have hvl : v ∉ l := fun h => hd v h (by simp)
        refine ⟨v :: l, e, s + t', .cons hM w, by omega, by simp; omega, ?_, List.nodup_cons.mpr ⟨hvl, hn⟩, ?_⟩
        · intro u hu
          rcases List.mem_cons.mp hu with rfl | hu
          · exact hni
          · exact fun h => hd u hu (List.mem_append_left _ h)
        · intro u hu
          rcases List.mem_cons.mp hu with rfl | hu
          · exact List.mem_range.mp hv
          · exact h4 u hu
    · rcases (hf.2 t).mp ht with h | ⟨v, hv, s, hM, ⟨rfl, rfl⟩ | ⟨hne, hni, ht⟩⟩
      · simp at h
      · exact ⟨[], _, 0, s, .nil _, hM, by omega⟩
      · obtain ⟨l, e, t', s', w, he, et⟩ := (ways_sound k (way ++ [v]) (tot + s) (by simp)).2 t ht
        rw [last_app] at w
        rw [head_app hw] at he
        exact ⟨v :: l, e, s + t', s', .cons hM w, he, by omega⟩
/-- all that stands in the ways -/
theorem ways_full {M : Mat} : ∀ (k : Nat) (way : List Nat) (tot : Int) (l : List Nat) (e : Nat) (t : Int), way ≠ [] → Walk M (way.getLastD 0) l e t → l.length < k → (∀ v ∈ l, v ∉ way) → l.Nodup → (∀ v ∈ l, v < 4) →
    tot + t ∈ (waysF M k way tot).1 ∧ ∀ s, way.headD 0 < 4 → M e (way.headD 0) = some s → tot + t + s ∈ (waysF M k way tot).2
  | 0, _, _, _, _, _, _, _, h, _, _, _ => absurd h (Nat.not_lt_zero _)
  | k + 1, way, tot, l, e, t, hw, w, hl, hd, hn, h4 => by
    have hf := foldW (M := M) (rec := waysF M k) (way := way) (tot := tot) (List.range 4) ([tot], [])
    cases w with
    | nil => exact ⟨(hf.1 _).mpr (.inl (by simp)), fun s h hs => (hf.2 _).mpr (.inr ⟨_, List.mem_range.mpr h, s, hs, .inl ⟨rfl, by omega⟩⟩)⟩
    | @cons _ v _ l s t hM r =>
      have hvw : v ∉ way := hd v (List.mem_cons_self ..)
      have hvh : v ≠ way.headD 0 := fun e => hvw (by
        cases way with
        | nil => exact absurd rfl hw
        | cons a r => rw [e]; exact List.mem_cons_self ..)
      have hn' := List.nodup_cons.mp hn
      have ih := ways_full k (way ++ [v]) (tot + s) l e t (by simp) (by rw [last_app]; exact r) (by simp at hl; omega) (fun u hu h => by
        rcases List.mem_append.mp h with h | h
        · exact hd u (List.mem_cons_of_mem _ hu) h
        · exact hn'.1 (List.mem_singleton.mp h ▸ hu)) hn'.2 (fun u hu => h4 u (List.mem_cons_of_mem _ hu))
      rw [head_app hw] at ih
      have hv : v ∈ List.range 4 := List.mem_range.mpr (h4 v (List.mem_cons_self ..))
      refine ⟨(hf.1 _).mpr (.inr ⟨v, hv, s, hM, hvh, hvw, ?_⟩), fun s' h hs => (hf.2 _).mpr (.inr ⟨v, hv, s, hM, .inr ⟨hvh, hvw, ?_⟩⟩)⟩
      · rw [← Int.add_assoc]; exact ih.1
      · rw [← Int.add_assoc]; exact ih.2 s' h hs
end Mine
end
section
namespace Mine
theorem told_feas {M : Mat} {told : Nat → Int} (hmem : ∀ p, p < 4 → told p ∈ (waysF M 4 [p] 0).1) (hmin : ∀ p, p < 4 → ∀ t ∈ (waysF M 4 [p] 0).1, told p ≤ t) (hr : ∀ p, p < 4 → ∀ r ∈ (waysF M 4 [p] 0).2, 0 ≤ r)
    {a b : Nat} {s : Int} (ha : a < 4) (hb : b < 4) (hM : M a b = some s) : told a ≤ told b + s := by
  obtain ⟨l, e, t', w, et, _, hd, hn, h4⟩ := (ways_sound 4 [b] 0 (by simp)).1 _ (hmem b hb)
  have w : Walk M b l e t' := w
  have hbl : b ∉ l := fun h => hd b h (by simp)
  have full := fun (l : List Nat) (e : Nat) (t : Int) (w : Walk M a l e t) (hal : a ∉ l) (hn : l.Nodup) (h4 : ∀ v ∈ l, v < 4) => ways_full (M := M) 4 [a] 0 l e t (by simp) w
    (by
      have := nodup_le 4 (a :: l) (List.nodup_cons.mpr ⟨hal, hn⟩) (fun v hv => by
        rcases List.mem_cons.mp hv with rfl | hv
        · exact ha
        · exact h4 v hv)
      rw [List.length_cons] at this; omega)
    (fun v hv h => hal (List.mem_singleton.mp h ▸ hv)) hn h4
  by_cases hin : a ∈ b :: l
  · rcases w.split hin with rfl | ⟨l1, d, l2, t1, s', t2, rfl, w1, hda, w2, e2⟩
    · have := hr a ha _ ((full [] a 0 (.nil a) (by simp) (by simp) (by simp)).2 s ha hM)
      omega
    · have hab : a ≠ b := fun h => hbl (by rw [← h]; simp)
      have hn1 := List.nodup_append.mp hn
      have hn2 := List.nodup_cons.mp hn1.2.1
      have ha1 : a ∉ l1 := fun h => hn1.2.2 a h a (List.mem_cons_self ..) rfl
      have r1 := hr a ha _ ((full (b :: l1) d (s + t1) (.cons hM w1) (fun h => by
          rcases List.mem_cons.mp h with h | h
          · exact hab h
          · exact ha1 h) (List.nodup_cons.mpr ⟨fun h => hbl (List.mem_append_left _ h), hn1.1⟩) (fun v hv => by
          rcases List.mem_cons.mp hv with rfl | hv
          · exact hb
          · exact h4 v (List.mem_append_left _ hv))).2 s' ha hda)
      have r2 := hmin a ha _ (full l2 e t2 w2 hn2.1 hn2.2 (fun v hv => h4 v (List.mem_append_right _ (List.mem_cons_of_mem _ hv)))).1
      omega
  · have := hmin a ha _ (full (b :: l) e (s + t') (.cons hM w) hin (List.nodup_cons.mpr ⟨hbl, hn⟩) (fun v hv => by
      rcases List.mem_cons.mp hv with rfl | hv
      · exact hb
      · exact h4 v hv)).1
    omega
/-- told is what the rounds come to -/
theorem told_low {M : Mat} {told : Nat → Int} (hmin : ∀ p, p < 4 → ∀ t ∈ (waysF M 4 [p] 0).1, told p ≤ t) {p : Nat} (hp : p < 4) : told p ≤ 0 :=
  hmin p hp 0 (by
    have := (ways_full (M := M) 4 [p] 0 [] p 0 (by simp) (.nil p) (by decide) (by simp) (by simp) (by simp)).1
    simpa using this)
theorem rounds_low {M : Mat} {told : Nat → Int} {y : Nat → Nat → Int} (hmem : ∀ p, p < 4 → told p ∈ (waysF M 4 [p] 0).1) (hy : ∀ j a b s, M a b = some s → y (j + 1) a ≤ y j b + s) (hdown : ∀ j a, y (j + 1) a ≤ y j a) (h0 : ∀ a, y 0 a ≤ 0) {p : Nat} (hp : p < 4) : y 3 p ≤ told p := by
  obtain ⟨l, e, t', w, et, _, hd, hn, h4⟩ := (ways_sound 4 [p] 0 (by simp)).1 _ (hmem p hp)
  have w : Walk M p l e t' := w
  have hpl : p ∉ l := fun h => hd p h (by simp)
  have hl := nodup_le 4 (p :: l) (List.nodup_cons.mpr ⟨hpl, hn⟩) (fun v hv => by
    rcases List.mem_cons.mp hv with rfl | hv
    · exact hp
    · exact h4 v hv)
  have r := w.rounds hy
  have z := h0 e
  have d0 : y 1 p ≤ y 0 p := hdown 0 p
  have d1 : y 2 p ≤ y 1 p := hdown 1 p
  have d2 : y 3 p ≤ y 2 p := hdown 2 p
  have hl' : l.length ≤ 3 := by simpa using hl
  match hh : l.length, hl' with
  | 0, _ => rw [hh] at r; omega
  | 1, _ => rw [hh] at r; omega
  | 2, _ => rw [hh] at r; omega
  | 3, _ => rw [hh] at r; omega
/-- a ring over statements that all hold is not below 0 -/
theorem rings_up {M : Mat} {x : Nat → Int} (hx : ∀ a b s, M a b = some s → x a ≤ x b + s) (p : Nat) : ∀ r ∈ (waysF M 4 [p] 0).2, 0 ≤ r := by
  intro r hr
  obtain ⟨l, e, t', s, w, he, rfl⟩ := (ways_sound 4 [p] 0 (by simp)).2 r hr
  have h1 := w.holds hx
  have h2 := hx _ _ _ he
  have e1 : [p].getLastD 0 = p := rfl
  have e2 : [p].headD 0 = p := rfl
  rw [e1] at h1
  rw [e2] at h2
  omega
end Mine
end
section
namespace Mine
abbrev D4 := Int × Int × Int × Int
structure DOk (d : D4) : Prop where
  o0 : 0 ≤ d.1
  o1 : d.1 < 4
  w0 : 0 ≤ d.2.1
  w1 : d.2.1 < 4
  k : d.2.2.1 = 20 ∨ d.2.2.1 = 29 ∨ d.2.2.1 = 27 ∨ d.2.2.1 = 30 ∨ d.2.2.1 = 21
def Edge (d : D4) (a b : Nat) (s : Int) : Prop :=
  (a = d.1.toNat ∧ b = d.2.1.toNat ∧ ((d.2.2.1 = 20 ∧ s = d.2.2.2 - 1) ∨ ((d.2.2.1 = 29 ∨ d.2.2.1 = 27) ∧ s = d.2.2.2))) ∨
  (a = d.2.1.toNat ∧ b = d.1.toNat ∧ ((d.2.2.1 = 21 ∧ s = -d.2.2.2 - 1) ∨ ((d.2.2.1 = 30 ∨ d.2.2.1 = 27) ∧ s = -d.2.2.2)))
theorem Edge.lt {d : D4} (h : DOk d) {a b : Nat} {s : Int} (e : Edge d a b s) : a < 4 ∧ b < 4 := by
  have := h.o0; have := h.o1; have := h.w0; have := h.w1
  rcases e with ⟨rfl, rfl, _⟩ | ⟨rfl, rfl, _⟩ <;> omega
theorem hF20 (a b : Int) : holdsF 20 a b = true ↔ a < b := decide_eq_true_iff
theorem hF21 (a b : Int) : holdsF 21 a b = true ↔ b < a := decide_eq_true_iff
theorem hF27 (a b : Int) : holdsF 27 a b = true ↔ a = b := decide_eq_true_iff
theorem hF29 (a b : Int) : holdsF 29 a b = true ↔ a ≤ b := decide_eq_true_iff
theorem hF30 (a b : Int) : holdsF 30 a b = true ↔ b ≤ a := decide_eq_true_iff
section
variable {d : D4} {a b : Nat} {s : Int}
theorem edge20 (h : d.2.2.1 = 20) : Edge d a b s ↔ a = d.1.toNat ∧ b = d.2.1.toNat ∧ s = d.2.2.2 - 1 := by
  unfold Edge
  rw [h]
  exact ⟨fun e => e.elim (fun e => ⟨e.1, e.2.1, e.2.2.elim (·.2) fun q => absurd q.1 (by decide)⟩) fun e => e.2.2.elim (fun q => absurd q.1 (by decide)) fun q => absurd q.1 (by decide), fun e => .inl ⟨e.1, e.2.1, .inl ⟨rfl, e.2.2⟩⟩⟩
theorem edge21 (h : d.2.2.1 = 21) : Edge d a b s ↔ a = d.2.1.toNat ∧ b = d.1.toNat ∧ s = -d.2.2.2 - 1 := by
  unfold Edge
  rw [h]
  exact ⟨fun e => e.elim (fun e => e.2.2.elim (fun q => absurd q.1 (by decide)) fun q => absurd q.1 (by decide)) fun e => ⟨e.1, e.2.1, e.2.2.elim (·.2) fun q => absurd q.1 (by decide)⟩, fun e => .inr ⟨e.1, e.2.1, .inl ⟨rfl, e.2.2⟩⟩⟩
theorem edge29 (h : d.2.2.1 = 29) : Edge d a b s ↔ a = d.1.toNat ∧ b = d.2.1.toNat ∧ s = d.2.2.2 := by
  unfold Edge
  rw [h]
  exact ⟨fun e => e.elim (fun e => ⟨e.1, e.2.1, e.2.2.elim (fun q => absurd q.1 (by decide)) (·.2)⟩) fun e => e.2.2.elim (fun q => absurd q.1 (by decide)) fun q => absurd q.1 (by decide), fun e => .inl ⟨e.1, e.2.1, .inr ⟨.inl rfl, e.2.2⟩⟩⟩
theorem edge30 (h : d.2.2.1 = 30) : Edge d a b s ↔ a = d.2.1.toNat ∧ b = d.1.toNat ∧ s = -d.2.2.2 := by
  unfold Edge
  rw [h]
  exact ⟨fun e => e.elim (fun e => e.2.2.elim (fun q => absurd q.1 (by decide)) fun q => absurd q.1 (by decide)) fun e => ⟨e.1, e.2.1, e.2.2.elim (fun q => absurd q.1 (by decide)) (·.2)⟩, fun e => .inr ⟨e.1, e.2.1, .inr ⟨.inl rfl, e.2.2⟩⟩⟩
theorem edge27 (h : d.2.2.1 = 27) : Edge d a b s ↔ (a = d.1.toNat ∧ b = d.2.1.toNat ∧ s = d.2.2.2) ∨ (a = d.2.1.toNat ∧ b = d.1.toNat ∧ s = -d.2.2.2) := by
  unfold Edge
  rw [h]
  exact ⟨fun e => e.elim (fun e => .inl ⟨e.1, e.2.1, e.2.2.elim (fun q => absurd q.1 (by decide)) (·.2)⟩) fun e => .inr ⟨e.1, e.2.1, e.2.2.elim (fun q => absurd q.1 (by decide)) (·.2)⟩, fun e => e.elim (fun e => .inl ⟨e.1, e.2.1, .inr ⟨.inr rfl, e.2.2⟩⟩) fun e => .inr ⟨e.1, e.2.1, .inr ⟨.inr rfl, e.2.2⟩⟩⟩
end
theorem i20 {u v b : Int} : u - v < b ↔ u ≤ v + (b - 1) := by omega
theorem i21 {u v b : Int} : b < u - v ↔ v ≤ u + (-b - 1) := by omega
theorem i29 {u v b : Int} : u - v ≤ b ↔ u ≤ v + b := by omega
theorem i30 {u v b : Int} : b ≤ u - v ↔ v ≤ u + -b := by omega
theorem i27 {u v b : Int} : u - v = b ↔ u ≤ v + b ∧ v ≤ u + -b := by omega
/-- one statement: its edges -/
theorem edges {d : D4} (h : DOk d) (x : List Int) :
    (∃ a b s, (∀ a' b' s', Edge d a' b' s' ↔ a' = a ∧ b' = b ∧ s' = s) ∧ (holdsF d.2.2.1 (x.getD d.1.toNat 0 - x.getD d.2.1.toNat 0) d.2.2.2 = true ↔ x.getD a 0 ≤ x.getD b 0 + s) ∧ mendX x d = if holdsF d.2.2.1 (x.getD d.1.toNat 0 - x.getD d.2.1.toNat 0) d.2.2.2 = true then x else x.set a (x.getD b 0 + s)) ∨
    ∃ a b s, (∀ a' b' s', Edge d a' b' s' ↔ (a' = a ∧ b' = b ∧ s' = s) ∨ (a' = b ∧ b' = a ∧ s' = -s)) ∧ (holdsF d.2.2.1 (x.getD d.1.toNat 0 - x.getD d.2.1.toNat 0) d.2.2.2 = true ↔ x.getD a 0 ≤ x.getD b 0 + s ∧ x.getD b 0 ≤ x.getD a 0 + -s) ∧ mendX x d = if holdsF d.2.2.1 (x.getD d.1.toNat 0 - x.getD d.2.1.toNat 0) d.2.2.2 = true then x else if s < x.getD a 0 - x.getD b 0 then x.set a (x.getD b 0 + s) else x.set b (x.getD a 0 + -s) := by
  rcases h.k with hk | hk | hk | hk | hk
  · refine .inl ⟨_, _, _, fun _ _ _ => edge20 hk, by rw [hk]; exact hF20 _ _ |>.trans i20, ?_⟩
    unfold mendX; dsimp only; rw [hk, if_pos (.inl rfl : (20 : Int) = 20 ∨ (20 : Int) = 21), if_pos (.inl rfl : (20 : Int) = 20 ∨ _), Int.add_sub_assoc]
  · refine .inl ⟨_, _, _, fun _ _ _ => edge29 hk, by rw [hk]; exact hF29 _ _ |>.trans i29, ?_⟩
    unfold mendX; dsimp only; rw [hk, if_neg (by decide : ¬ ((29 : Int) = 20 ∨ (29 : Int) = 21)), Int.sub_zero]
    refine ite_congr rfl (fun _ => rfl) fun q => if_pos (.inr (Int.not_le.mp fun e => q ((hF29 _ _).mpr e)))
  · refine .inr ⟨_, _, _, fun _ _ _ => edge27 hk, by rw [hk]; exact hF27 _ _ |>.trans i27, ?_⟩
    unfold mendX; dsimp only; rw [hk, if_neg (by decide : ¬ ((27 : Int) = 20 ∨ (27 : Int) = 21)), Int.sub_zero, Int.sub_zero]
    exact ite_congr rfl (fun _ => rfl) fun q => ite_congr (propext ⟨fun e => e.elim (fun e => absurd e (by decide)) id, .inr⟩) (fun _ => rfl) fun _ => rfl
  · refine .inl ⟨_, _, _, fun _ _ _ => edge30 hk, by rw [hk]; exact hF30 _ _ |>.trans i30, ?_⟩
    unfold mendX; dsimp only; rw [hk, if_neg (by decide : ¬ ((30 : Int) = 20 ∨ (30 : Int) = 21)), Int.sub_zero, Int.sub_zero]
    refine ite_congr rfl (fun _ => rfl) fun q => if_neg fun e => q ((hF30 _ _).mpr (e.elim (fun e => absurd e (by decide)) Int.le_of_lt))
  · refine .inl ⟨_, _, _, fun _ _ _ => edge21 hk, by rw [hk]; exact hF21 _ _ |>.trans i21, ?_⟩
    unfold mendX; dsimp only; rw [hk, if_pos (.inr rfl : (21 : Int) = 20 ∨ (21 : Int) = 21)]
    refine ite_congr rfl (fun _ => rfl) fun q => (if_neg fun e => q ((hF21 _ _).mpr (e.elim (fun e => absurd e (by decide)) id))).trans (by rw [Int.sub_eq_add_neg, Int.sub_eq_add_neg, Int.sub_eq_add_neg, Int.add_assoc])
theorem holds_iff {d : D4} (h : DOk d) (x : List Int) : holdsF d.2.2.1 (x.getD d.1.toNat 0 - x.getD d.2.1.toNat 0) d.2.2.2 = true ↔ ∀ a b s, Edge d a b s → x.getD a 0 ≤ x.getD b 0 + s := by
  rcases edges h x with ⟨a, b, s, hE, hh, _⟩ | ⟨a, b, s, hE, hh, _⟩
  · exact hh.trans ⟨fun q a' b' s' e => by obtain ⟨rfl, rfl, rfl⟩ := (hE _ _ _).mp e; exact q, fun q => q _ _ _ ((hE _ _ _).mpr ⟨rfl, rfl, rfl⟩)⟩
  · exact hh.trans ⟨fun q a' b' s' e => by
      rcases (hE _ _ _).mp e with ⟨rfl, rfl, rfl⟩ | ⟨rfl, rfl, rfl⟩
      · exact q.1
      · exact q.2, fun q => ⟨q _ _ _ ((hE _ _ _).mpr (.inl ⟨rfl, rfl, rfl⟩)), q _ _ _ ((hE _ _ _).mpr (.inr ⟨rfl, rfl, rfl⟩))⟩⟩
theorem i_lt {u v s : Int} (h : s < u - v) : v + s < u := by omega
theorem i_rev {u v s : Int} (h : ¬ s < u - v) : u ≤ v + s := by omega
theorem mend_one {d : D4} (h : DOk d) (x : List Int) : (mendX x d = x ∧ mendB x d = 0 ∧ ∀ a b s, Edge d a b s → x.getD a 0 ≤ x.getD b 0 + s) ∨
    ∃ a b s, Edge d a b s ∧ x.getD b 0 + s < x.getD a 0 ∧ mendX x d = x.set a (x.getD b 0 + s) ∧ mendB x d = 1 ∧ ∀ a' b' s', Edge d a' b' s' → (a' = a ∧ b' = b ∧ s' = s) ∨ x.getD a' 0 ≤ x.getD b' 0 + s' := by
  by_cases hq : holdsF d.2.2.1 (x.getD d.1.toNat 0 - x.getD d.2.1.toNat 0) d.2.2.2 = true
  · exact .inl ⟨by unfold mendX; dsimp only; rw [if_pos hq], by unfold mendB; rw [if_pos hq], (holds_iff h x).mp hq⟩
  · have eB : mendB x d = 1 := by unfold mendB; rw [if_neg hq]
    refine .inr ?_
    rcases edges h x with ⟨a, b, s, hE, hh, hX⟩ | ⟨a, b, s, hE, hh, hX⟩
    · rw [if_neg hq] at hX
      rw [hh] at hq
      exact ⟨a, b, s, (hE _ _ _).mpr ⟨rfl, rfl, rfl⟩, Int.not_le.mp hq, hX, eB, fun a' b' s' e => .inl ((hE _ _ _).mp e)⟩
    · rw [if_neg hq] at hX
      rw [hh] at hq
      by_cases hs : s < x.getD a 0 - x.getD b 0
      · rw [if_pos hs] at hX
        refine ⟨a, b, s, (hE _ _ _).mpr (.inl ⟨rfl, rfl, rfl⟩), i_lt hs, hX, eB, fun a' b' s' e => ((hE _ _ _).mp e).imp_right ?_⟩
        rintro ⟨rfl, rfl, rfl⟩
        exact i30.mp (Int.le_of_lt hs)
      · rw [if_neg hs] at hX
        have hr := i_rev hs
        refine ⟨b, a, -s, (hE _ _ _).mpr (.inr ⟨rfl, rfl, rfl⟩), Int.not_le.mp fun e => hq ⟨hr, e⟩, hX, eB, fun a' b' s' e => ((hE _ _ _).mp e).symm.imp_right ?_⟩
        rintro ⟨rfl, rfl, rfl⟩
        exact hr
end Mine
end
section
namespace Mine
theorem updM_sound {M : Mat} {i j : Nat} {t : Int} {a b : Nat} {s : Int} (h : updM M i j t a b = some s) : M a b = some s ∨ (a = i ∧ b = j ∧ s = t) := by
  unfold updM at h
  split at h
  · rename_i e
    cases hM : M a b with
    | none => rw [hM] at h; exact .inr ⟨e.1, e.2, by cases h; rfl⟩
    | some x =>
      rw [hM] at h
      dsimp only [leastO] at h
      split at h
      · exact .inr ⟨e.1, e.2, by cases h; rfl⟩
      · exact .inl h
  · exact .inl h
theorem updM_keep {M : Mat} {i j : Nat} {t : Int} {a b : Nat} {s : Int} (h : M a b = some s) : ∃ s', s' ≤ s ∧ updM M i j t a b = some s' := by
  unfold updM
  split
  · rw [h]
    dsimp only [leastO]
    split
    · rename_i q; exact ⟨t, by omega, rfl⟩
    · exact ⟨s, Int.le_refl _, rfl⟩
  · exact ⟨s, Int.le_refl _, h⟩
theorem updM_new (M : Mat) (i j : Nat) (t : Int) : ∃ s', s' ≤ t ∧ updM M i j t i j = some s' := by
  unfold updM
  rw [if_pos ⟨rfl, rfl⟩]
  cases M i j with
  | none => exact ⟨t, Int.le_refl _, rfl⟩
  | some x =>
    dsimp only [leastO]
    split
    · exact ⟨t, Int.le_refl _, rfl⟩
    · rename_i q; exact ⟨x, by omega, rfl⟩
/-- a statement, of a draw -/
def stOf (d : D4) : D4 := (d.1, d.2.1, tokC d.2.2.1, d.2.2.2)
structure KOk (d : D4) : Prop where
  o0 : 0 ≤ d.1
  o1 : d.1 < 4
  w0 : 0 ≤ d.2.1
  w1 : d.2.1 < 4
  k0 : 0 ≤ d.2.2.1
  k1 : d.2.2.1 < 5
theorem kinds {k : Int} (h0 : 0 ≤ k) (h1 : k < 5) : (k = 0 ∧ tokC k = 20) ∨ (k = 1 ∧ tokC k = 29) ∨ (k = 2 ∧ tokC k = 27) ∨ (k = 3 ∧ tokC k = 30) ∨ (k = 4 ∧ tokC k = 21) := by
  have : k = 0 ∨ k = 1 ∨ k = 2 ∨ k = 3 ∨ k = 4 := by omega
  rcases this with rfl | rfl | rfl | rfl | rfl <;> decide
theorem KOk.st {d : D4} (h : KOk d) : DOk (stOf d) := ⟨h.o0, h.o1, h.w0, h.w1, by
  show tokC d.2.2.1 = 20 ∨ tokC d.2.2.1 = 29 ∨ tokC d.2.2.1 = 27 ∨ tokC d.2.2.1 = 30 ∨ tokC d.2.2.1 = 21
  rcases kinds h.k0 h.k1 with h | h | h | h | h <;> simp [h.2]⟩
theorem stepM_sound {d : D4} (h : KOk d) {M : Mat} {a b : Nat} {s : Int} (e : stepM M d a b = some s) : M a b = some s ∨ Edge (stOf d) a b s := by
  unfold stepM at e
  skip
  unfold Edge stOf
  dsimp only
  rcases kinds h.k0 h.k1 with hk | hk | hk | hk | hk <;> rw [hk.1] at e <;> rw [hk.2] <;> simp only [Int.reduceLT, if_true, if_false, Int.reduceEq, reduceIte] at e ⊢
  · rcases updM_sound e with e | ⟨rfl, rfl, rfl⟩
    · exact .inl e
    · exact .inr (.inl ⟨rfl, rfl, by simp⟩)
  · rcases updM_sound e with e | ⟨rfl, rfl, rfl⟩
    · exact .inl e
    · exact .inr (.inl ⟨rfl, rfl, by simp⟩)
  · rcases updM_sound e with e | ⟨rfl, rfl, rfl⟩
    · rcases updM_sound e with e | ⟨rfl, rfl, rfl⟩
      · exact .inl e
      · exact .inr (.inl ⟨rfl, rfl, by simp⟩)
    · exact .inr (.inr ⟨rfl, rfl, by simp⟩)
  · rcases updM_sound e with e | ⟨rfl, rfl, rfl⟩
    · exact .inl e
    · exact .inr (.inr ⟨rfl, rfl, by simp⟩)
  · rcases updM_sound e with e | ⟨rfl, rfl, rfl⟩
    · exact .inl e
    · exact .inr (.inr ⟨rfl, rfl, by simp⟩)
theorem stepM_keep {d : D4} {M : Mat} {a b : Nat} {s : Int} (e : M a b = some s) : ∃ s', s' ≤ s ∧ stepM M d a b = some s' := by
  unfold stepM
  skip
  have h1 : ∃ s', s' ≤ s ∧ (if d.2.2.1 < 3 then updM M d.1.toNat d.2.1.toNat (if d.2.2.1 = 0 then d.2.2.2 - 1 else d.2.2.2) else M) a b = some s' := by
    split
    · exact updM_keep e
    · exact ⟨s, Int.le_refl _, e⟩
  obtain ⟨s1, l1, e1⟩ := h1
  split
  · obtain ⟨s2, l2, e2⟩ := updM_keep (i := d.2.1.toNat) (j := d.1.toNat) (t := if d.2.2.1 = 4 then -d.2.2.2 - 1 else -d.2.2.2) e1
    exact ⟨s2, by omega, e2⟩
  · exact ⟨s1, l1, e1⟩
theorem stepM_new {d : D4} (h : KOk d) {M : Mat} {a b : Nat} {s : Int} (e : Edge (stOf d) a b s) : ∃ s', s' ≤ s ∧ stepM M d a b = some s' := by
  unfold Edge stOf at e
  dsimp only at e
  unfold stepM
  skip
  rcases kinds h.k0 h.k1 with hk | hk | hk | hk | hk <;> rw [hk.1] <;> rw [hk.2] at e <;> simp only [Int.reduceLT, if_true, if_false, Int.reduceEq, reduceIte, false_and, false_or, or_false, true_and, and_false, or_true, true_or, or_self] at e ⊢
  · obtain ⟨rfl, rfl, rfl⟩ := e
    exact updM_new ..
  · obtain ⟨rfl, rfl, rfl⟩ := e
    exact updM_new ..
  · rcases e with ⟨rfl, rfl, rfl⟩ | ⟨rfl, rfl, rfl⟩
    · obtain ⟨s1, l1, e1⟩ := updM_new M d.1.toNat d.2.1.toNat d.2.2.2
      obtain ⟨s2, l2, e2⟩ := updM_keep (i := d.2.1.toNat) (j := d.1.toNat) (t := -d.2.2.2) e1
      exact ⟨s2, by omega, e2⟩
    · exact updM_new ..
  · obtain ⟨rfl, rfl, rfl⟩ := e
    exact updM_new ..
  · obtain ⟨rfl, rfl, rfl⟩ := e
    exact updM_new ..
theorem fold_keep : ∀ (ds : List D4) {M : Mat} {a b : Nat} {s : Int}, M a b = some s → ∃ s', s' ≤ s ∧ ds.foldl stepM M a b = some s'
  | [], _, _, _, s, e => ⟨s, Int.le_refl _, e⟩
  | d :: ds, M, a, b, s, e => by
    obtain ⟨s1, l1, e1⟩ := stepM_keep (d := d) e
    obtain ⟨s2, l2, e2⟩ := fold_keep ds e1
    exact ⟨s2, by omega, e2⟩
theorem fold_sound : ∀ (ds : List D4) (_ : ∀ d ∈ ds, KOk d) {M : Mat} {a b : Nat} {s : Int}, ds.foldl stepM M a b = some s → M a b = some s ∨ ∃ d ∈ ds, Edge (stOf d) a b s
  | [], _, _, _, _, _, e => .inl e
  | d :: ds, h, M, a, b, s, e => by
    rcases fold_sound ds (fun d hd => h d (List.mem_cons_of_mem _ hd)) (M := stepM M d) e with e | ⟨d', hd, e⟩
    · rcases stepM_sound (h d (List.mem_cons_self ..)) e with e | e
      · exact .inl e
      · exact .inr ⟨d, List.mem_cons_self .., e⟩
    · exact .inr ⟨d', List.mem_cons_of_mem _ hd, e⟩
theorem fold_new : ∀ (ds : List D4) (_ : ∀ d ∈ ds, KOk d) {M : Mat} {d : D4} (_ : d ∈ ds) {a b : Nat} {s : Int}, Edge (stOf d) a b s → ∃ s', s' ≤ s ∧ ds.foldl stepM M a b = some s'
  | [], _, _, _, hd, _, _, _, _ => nomatch hd
  | d :: ds, h, M, d', hd, a, b, s, e => by
    rcases List.mem_cons.mp hd with rfl | hd
    · obtain ⟨s1, l1, e1⟩ := stepM_new (h _ (List.mem_cons_self ..)) (M := M) e
      obtain ⟨s2, l2, e2⟩ := fold_keep ds e1
      exact ⟨s2, by omega, e2⟩
    · exact fold_new ds (fun d hd => h d (List.mem_cons_of_mem _ hd)) hd e
end Mine
end
section
namespace Mine
theorem getD_set4 {x : List Int} (hx : x.length = 4) {a : Nat} (ha : a < 4) (v : Int) (p : Nat) : (x.set a v).getD p 0 = if p = a then v else x.getD p 0 := by
  by_cases e : p = a
  · subst e
    rw [if_pos rfl, List.getD_eq_getElem?_getD, List.getElem?_set_self (by omega)]; rfl
  · rw [if_neg e, List.getD_eq_getElem?_getD, List.getElem?_set_ne (Ne.symm e), ← List.getD_eq_getElem?_getD]
theorem mendX_down {d : D4} (h : DOk d) {x : List Int} (hx : x.length = 4) (p : Nat) : (mendX x d).getD p 0 ≤ x.getD p 0 := by
  rcases mend_one h x with ⟨e, _⟩ | ⟨a, b, s, hE, hlt, e, _⟩
  · rw [e]; exact Int.le_refl _
  · rw [e, getD_set4 hx (hE.lt h).1]
    split
    · rename_i q; subst q; omega
    · exact Int.le_refl _
theorem mendX_edge {d : D4} (h : DOk d) {x : List Int} (hx : x.length = 4) {a b : Nat} {s : Int} (hE : Edge d a b s) : (mendX x d).getD a 0 ≤ x.getD b 0 + s := by
  rcases mend_one h x with ⟨e, _, q⟩ | ⟨a', b', s', hE', hlt, e, _, q⟩
  · rw [e]; exact q _ _ _ hE
  · have hd := mendX_down h hx a
    rcases q _ _ _ hE with ⟨rfl, rfl, rfl⟩ | q
    · rw [e, getD_set4 hx (hE.lt h).1, if_pos rfl]; exact Int.le_refl _
    · omega
theorem mendX_up {d : D4} (h : DOk d) {x : List Int} (hx : x.length = 4) {t : Nat → Int} (ht : ∀ a b s, Edge d a b s → t a ≤ t b + s) (hl : ∀ p, p < 4 → t p ≤ x.getD p 0) (p : Nat) (hp : p < 4) : t p ≤ (mendX x d).getD p 0 := by
  rcases mend_one h x with ⟨e, _⟩ | ⟨a, b, s, hE, hlt, e, _⟩
  · rw [e]; exact hl p hp
  · rw [e, getD_set4 hx (hE.lt h).1]
    split
    · rename_i q; subst q
      have := ht _ _ _ hE
      have := hl b (hE.lt h).2
      omega
    · exact hl p hp
theorem mendB_zero {d : D4} (h : DOk d) {x : List Int} (e : mendB x d = 0) : mendX x d = x ∧ ∀ a b s, Edge d a b s → x.getD a 0 ≤ x.getD b 0 + s := by
  rcases mend_one h x with ⟨e1, _, q⟩ | ⟨a, b, s, _, _, _, e1, _⟩
  · exact ⟨e1, q⟩
  · rw [e1] at e; exact absurd e (by decide)
theorem mendB_held {d : D4} (h : DOk d) {x : List Int} (q : ∀ a b s, Edge d a b s → x.getD a 0 ≤ x.getD b 0 + s) : mendX x d = x ∧ mendB x d = 0 := by
  have hh := (holds_iff h x).mpr q
  exact ⟨by unfold mendX; dsimp only; rw [if_pos hh], by unfold mendB; rw [if_pos hh]⟩
theorem mendB_pos (x : List Int) (d : D4) : 0 ≤ mendB x d := by unfold mendB; split <;> decide
abbrev rnd (ss : List D4) (x : List Int) : List Int := (mendAll ss (x, 0)).1
theorem all_fst (ss : List D4) : ∀ (x : List Int) (b : Int), (mendAll ss (x, b)).1 = (mendAll ss (x, 0)).1 ∧ (mendAll ss (x, b)).2 = b + (mendAll ss (x, 0)).2 := by
  induction ss with
  | nil => intro x b; exact ⟨rfl, by show b = b + 0; omega⟩
  | cons d ss ih =>
    intro x b
    have h1 := ih (mendX x d) (b + mendB x d)
    have h2 := ih (mendX x d) (0 + mendB x d)
    refine ⟨h1.1.trans h2.1.symm, ?_⟩
    show (mendAll ss (mendX x d, b + mendB x d)).2 = b + (mendAll ss (mendX x d, 0 + mendB x d)).2
    rw [h1.2, h2.2]; omega
theorem all_cons (d : D4) (ss : List D4) (x : List Int) : rnd (d :: ss) x = rnd ss (mendX x d) ∧ (mendAll (d :: ss) (x, 0)).2 = mendB x d + (mendAll ss (mendX x d, 0)).2 := by
  have h := all_fst ss (mendX x d) (0 + mendB x d)
  exact ⟨h.1, by show (mendAll ss (mendX x d, 0 + mendB x d)).2 = _; rw [h.2]; omega⟩
theorem rnd_down : ∀ (ss : List D4) (_ : ∀ d ∈ ss, DOk d) {x : List Int} (_ : x.length = 4) (p : Nat), (rnd ss x).getD p 0 ≤ x.getD p 0
  | [], _, _, _, _ => Int.le_refl _
  | d :: ss, h, x, hx, p => by
    rw [(all_cons d ss x).1]
    have h1 := rnd_down ss (fun d hd => h d (List.mem_cons_of_mem _ hd)) (x := mendX x d) (by rw [mendX_len, hx]) p
    have h2 := mendX_down (h d (List.mem_cons_self ..)) hx p
    omega
theorem rnd_edge : ∀ (ss : List D4) (_ : ∀ d ∈ ss, DOk d) {x : List Int} (_ : x.length = 4) {d : D4} (_ : d ∈ ss) {a b : Nat} {s : Int}, Edge d a b s → (rnd ss x).getD a 0 ≤ x.getD b 0 + s
  | [], _, _, _, _, hd, _, _, _, _ => nomatch hd
  | d :: ss, h, x, hx, d', hd, a, b, s, hE => by
    rw [(all_cons d ss x).1]
    have hl : (mendX x d).length = 4 := by rw [mendX_len, hx]
    have hs : ∀ d ∈ ss, DOk d := fun d hd => h d (List.mem_cons_of_mem _ hd)
    have h0 := h d (List.mem_cons_self ..)
    rcases List.mem_cons.mp hd with rfl | hd
    · have := rnd_down ss hs hl a
      have := mendX_edge h0 hx hE
      omega
    · have := rnd_edge ss hs hl hd hE
      have := mendX_down h0 hx b
      omega
theorem rnd_up : ∀ (ss : List D4) (_ : ∀ d ∈ ss, DOk d) {x : List Int} (_ : x.length = 4) {t : Nat → Int} (_ : ∀ d ∈ ss, ∀ a b s, Edge d a b s → t a ≤ t b + s) (_ : ∀ p, p < 4 → t p ≤ x.getD p 0) (p : Nat), p < 4 → t p ≤ (rnd ss x).getD p 0
  | [], _, _, _, _, _, hl, p, hp => hl p hp
  | d :: ss, h, x, hx, t, ht, hl, p, hp => by
    rw [(all_cons d ss x).1]
    exact rnd_up ss (fun d hd => h d (List.mem_cons_of_mem _ hd)) (by rw [mendX_len, hx]) (fun d hd => ht d (List.mem_cons_of_mem _ hd)) (mendX_up (h d (List.mem_cons_self ..)) hx (ht d (List.mem_cons_self ..)) hl) p hp
theorem cnt_pos : ∀ (ss : List D4) (x : List Int), 0 ≤ (mendAll ss (x, 0)).2
  | [], _ => Int.le_refl _
  | d :: ss, x => by
    rw [(all_cons d ss x).2]
    have := cnt_pos ss (mendX x d)
    have := mendB_pos x d
    omega
theorem cnt_zero : ∀ (ss : List D4) (_ : ∀ d ∈ ss, DOk d) {x : List Int}, (mendAll ss (x, 0)).2 = 0 → ∀ d ∈ ss, ∀ a b s, Edge d a b s → x.getD a 0 ≤ x.getD b 0 + s
  | [], _, _, _, _, hd, _, _, _, _ => nomatch hd
  | d :: ss, h, x, e, d', hd, a, b, s, hE => by
    rw [(all_cons d ss x).2] at e
    have p1 := cnt_pos ss (mendX x d)
    have p2 := mendB_pos x d
    have z := mendB_zero (h d (List.mem_cons_self ..)) (x := x) (by omega)
    rw [z.1] at e p1
    rcases List.mem_cons.mp hd with rfl | hd
    · exact z.2 _ _ _ hE
    · exact cnt_zero ss (fun d hd => h d (List.mem_cons_of_mem _ hd)) (by omega) d' hd _ _ _ hE
theorem rnd_held : ∀ (ss : List D4) (_ : ∀ d ∈ ss, DOk d) {x : List Int}, (∀ d ∈ ss, ∀ a b s, Edge d a b s → x.getD a 0 ≤ x.getD b 0 + s) → mendAll ss (x, 0) = (x, 0)
  | [], _, _, _ => rfl
  | d :: ss, h, x, q => by
    have z := mendB_held (h d (List.mem_cons_self ..)) (q d (List.mem_cons_self ..))
    show mendAll ss (mendX x d, 0 + mendB x d) = _
    rw [z.1, z.2]
    exact rnd_held ss (fun d hd => h d (List.mem_cons_of_mem _ hd)) (fun d hd => q d (List.mem_cons_of_mem _ hd))
def rnds (ss : List D4) : Nat → List Int
  | 0 => [0, 0, 0, 0]
  | k + 1 => rnd ss (rnds ss k)
theorem rnds_len (ss : List D4) : ∀ k, (rnds ss k).length = 4
  | 0 => rfl
  | k + 1 => (mendAll_len ss _).trans (rnds_len ss k)
theorem st_ok {ds : List D4} (h : ∀ d ∈ ds, KOk d) : ∀ d ∈ ds.map stOf, DOk d := fun d hd => by
  obtain ⟨d', hd', rfl⟩ := List.mem_map.mp hd
  exact (h d' hd').st
/-- where all statements hold, no ring is below nought -/
theorem plain_a {ds : List D4} (h : ∀ d ∈ ds, KOk d) {x : List Int} (e : (mendAll (ds.map stOf) (x, 0)).2 = 0) (p : Nat) : ∀ r ∈ (waysF (stepsAll ds) 4 [p] 0).2, 0 ≤ r := by
  refine rings_up (x := fun a => x.getD a 0) (fun a b s hM => ?_) p
  rcases fold_sound ds h hM with q | ⟨d, hd, hE⟩
  · nomatch q
  · exact cnt_zero _ (st_ok h) e _ (List.mem_map_of_mem hd) _ _ _ hE
theorem M_lt {ds : List D4} (h : ∀ d ∈ ds, KOk d) {a b : Nat} {s : Int} (hM : stepsAll ds a b = some s) : a < 4 ∧ b < 4 := by
  rcases fold_sound ds h hM with q | ⟨d, hd, hE⟩
  · nomatch q
  · exact hE.lt (h d hd).st
/-- where no ring is below nought, the fourth round mends nothing, and the numbers are the told ones -/
theorem plain_b {ds : List D4} (h : ∀ d ∈ ds, KOk d) {told : Nat → Int} (hmem : ∀ p, p < 4 → told p ∈ (waysF (stepsAll ds) 4 [p] 0).1) (hmin : ∀ p, p < 4 → ∀ t ∈ (waysF (stepsAll ds) 4 [p] 0).1, told p ≤ t)
    (hr : ∀ p, p < 4 → ∀ r ∈ (waysF (stepsAll ds) 4 [p] 0).2, 0 ≤ r) : mendAll (ds.map stOf) (rnds (ds.map stOf) 3, 0) = (rnds (ds.map stOf) 3, 0) ∧ rnds (ds.map stOf) 3 = [told 0, told 1, told 2, told 3] := by
  have hs := st_ok h
  have hfe : ∀ d ∈ ds.map stOf, ∀ a b s, Edge d a b s → told a ≤ told b + s := fun d hd a b s hE => by
    obtain ⟨d', hd', rfl⟩ := List.mem_map.mp hd
    obtain ⟨s', hs', hM⟩ := fold_new ds h hd' (M := fun _ _ => none) hE
    have hl := hE.lt (h d' hd').st
    have := told_feas hmem hmin hr hl.1 hl.2 hM
    omega
  have low : ∀ k, ∀ p, p < 4 → told p ≤ (rnds (ds.map stOf) k).getD p 0 := by
    intro k
    induction k with
    | zero =>
      intro p hp
      have := told_low hmin hp
      have e : (rnds (ds.map stOf) 0).getD p 0 = 0 := by
        match p, hp with
        | 0, _ => rfl
        | 1, _ => rfl
        | 2, _ => rfl
        | 3, _ => rfl
      omega
    | succ k ih => exact rnd_up _ hs (rnds_len _ k) hfe ih
  have top : ∀ p, p < 4 → (rnds (ds.map stOf) 3).getD p 0 ≤ told p := fun p hp =>
    rounds_low (y := fun k a => (rnds (ds.map stOf) k).getD a 0) hmem (fun j a b s hM => by
      rcases fold_sound ds h hM with q | ⟨d, hd, hE⟩
      · nomatch q
      · exact rnd_edge _ hs (rnds_len _ j) (List.mem_map_of_mem hd) hE) (fun j a => rnd_down _ hs (rnds_len _ j) a) (fun a => by
      show [(0 : Int), 0, 0, 0].getD a 0 ≤ 0
      match a with
      | 0 => decide
      | 1 => decide
      | 2 => decide
      | 3 => decide
      | n + 4 => exact Int.le_refl _) hp
  have eq : ∀ p, p < 4 → (rnds (ds.map stOf) 3).getD p 0 = told p := fun p hp => Int.le_antisymm (top p hp) (low 3 p hp)
  refine ⟨rnd_held _ hs fun d hd a b s hE => ?_, ?_⟩
  · have hl := hE.lt (hs d hd)
    rw [eq a hl.1, eq b hl.2]
    exact hfe d hd a b s hE
  · have hlen := rnds_len (ds.map stOf) 3
    rw [← eq 0 (by decide), ← eq 1 (by decide), ← eq 2 (by decide), ← eq 3 (by decide)]
    generalize rnds (ds.map stOf) 3 = x at hlen
    match x, hlen with
    | [_, _, _, _], _ => rfl
end Mine
end
section
open PySem PySem.W PyProof.Rows
namespace Mine
set_option maxRecDepth 100000
structure MidX (h₀ : Heap) (L : Addr) (s : Shared) (K : (Str → Option Value) → List (Addr × Obj) → Prop) (f : Flow) (s' : Shared) : Prop where
  flow : f = .next
  state : ∃ h' tk m' nx, s' = { s with heap := h', toks := tk } ∧ Fr h₀ L h' m' ∧ News h₀ L h' nx ∧ K m' nx
theorem MidX.intro {h₀ : Heap} {L : Addr} {s : Shared} {all : List (Addr × Obj)} {K : (Str → Option Value) → List (Addr × Obj) → Prop} {h' : Heap} {tk : Nat} {m' : Str → Option Value} (nx : List (Addr × Obj)) (F : Fr h₀ L h' m') (N : News h₀ L h' all) (hs : ∀ p ∈ nx, p ∈ all) (hK : K m' nx) : MidX h₀ L s K .next { s with heap := h', toks := tk } := ⟨rfl, h', tk, m', nx, rfl, F, fun p hp => N p (hs p hp), hK⟩
theorem cutX {M : Model} {A : Around} {E : Value → Shared → Prop} {s : Shared} {Q : Flow → Shared → Prop} {st : Stmt} {b : List Stmt} {env : Env} {h₀ : Heap} {L : Addr} {m : Str → Option Value} {nx : List (Addr × Obj)} (K : (Str → Option Value) → List (Addr × Obj) → Prop) (_F : Fr h₀ L s.heap m) (_N : News h₀ L s.heap nx)
    (h1 : wpAny M A (exec st env) (MidX h₀ L s K) E s) (h2 : ∀ m' nx, K m' nx → ∀ h' tk, Fr h₀ L h' m' → News h₀ L h' nx → wpAny M A (execs b env) Q E { s with heap := h', toks := tk }) : wpAny M A (execs (st :: b) env) Q E s :=
  wpAny_execs_cons (wpAny_mono h1 (fun f s' q => by
    obtain ⟨rfl, h', tk, m', nx, rfl, F', N', k⟩ := q
    exact h2 m' nx k h' tk F' N') fun _ _ e => e)
def seqB (p : Addr × Obj) : Bool := match p.2.data with
  | .seq .. => true
  | _ => false
theorem DrawAt.mono {a b : List (Addr × Obj)} (h : ∀ p ∈ a, seqB p = true → p ∈ b) {v : Value} {d : D4} (H : DrawAt a v d) : DrawAt b v d := by
  obtain ⟨x, t1, t2, t3, t4, n, e, hm⟩ := H
  exact ⟨x, t1, t2, t3, t4, n, e, h _ hm rfl⟩
theorem DrawsAt.mono {a b : List (Addr × Obj)} (h : ∀ p ∈ a, seqB p = true → p ∈ b) {S : Addr} {ds : List D4} (H : DrawsAt a S ds) : DrawsAt b S ds := by
  obtain ⟨vs, n, hm, hl, hi⟩ := H
  exact ⟨vs, n, h _ hm rfl, hl, fun i v hv => by
    obtain ⟨d, hd, hD⟩ := hi i v hv
    exact ⟨d, hd, hD.mono h⟩⟩
def drawOf (c : Int) : D4 := (oneOf c, twoOf c, kindOf c, boundOf c)
theorem drawOf_fits (c : Int) : Fits (drawOf c) := by
  have h1 := Int.fmod_nonneg_of_pos (c.fdiv 5) (show (0 : Int) < 4 by decide)
  have h2 := Int.fmod_lt_of_pos (c.fdiv 5) (show (0 : Int) < 4 by decide)
  have h3 := Int.fmod_nonneg_of_pos (oneOf c + 1 + (c.fdiv 20).fmod 3) (show (0 : Int) < 4 by decide)
  have h4 := Int.fmod_lt_of_pos (oneOf c + 1 + (c.fdiv 20).fmod 3) (show (0 : Int) < 4 by decide)
  have h5 := Int.fmod_nonneg_of_pos c (show (0 : Int) < 5 by decide)
  have h6 := Int.fmod_lt_of_pos c (show (0 : Int) < 5 by decide)
  have h7 := Int.fmod_nonneg_of_pos (c.fdiv 60) (show (0 : Int) < 41 by decide)
  have h8 := Int.fmod_lt_of_pos (c.fdiv 60) (show (0 : Int) < 41 by decide)
  exact ⟨⟨h1, h2⟩, ⟨h3, h4⟩, ⟨h5, h6⟩, by show -20 ≤ boundOf c ∧ boundOf c ≤ 20; unfold boundOf; omega⟩
theorem Fits.ok {d : D4} (h : Fits d) : KOk d := ⟨h.o.1, h.o.2, h.w.1, h.w.2, h.k.1, h.k.2⟩
theorem join_txt : ∀ ds : List D4, PySem.Txt.join (Str.ofString ",") (ds.map fun d => (⟨(drawC d).toArray⟩ : Str)) = ⟨(txtC ds).toArray⟩
  | [] => rfl
  | [d] => rfl
  | d :: e :: r => by
    have ih := join_txt (e :: r)
    unfold PySem.Txt.join at ih ⊢
    rw [StrLaws.glued_eq_join] at ih ⊢
    show (⟨(drawC d).toArray⟩ : Str) ++ Str.ofString "," ++ Str.join (Str.ofString ",") ((e :: r).map fun d => (⟨(drawC d).toArray⟩ : Str)) = _
    rw [ih, show Str.ofString "," = ⟨[44].toArray⟩ by decide +kernel, str_app, str_app]
    show (⟨(drawC d ++ [44] ++ txtC (e :: r)).toArray⟩ : Str) = ⟨(drawC d ++ 44 :: txtC (e :: r)).toArray⟩
    rw [List.append_assoc]; rfl
end Mine
namespace Mine
theorem fr1 {h₀ h : Heap} {L : Addr} {m : Str → Option Value} {x : Str} {v : Value} (F : Fr h₀ L h m) (e : m x = some v) : ∃ u : Str → Option Value, Fr h₀ L h (fun y => if y = x then some v else u y) := ⟨m, (form1_of e) ▸ F⟩
/-- what a comprehension of statements has made -/
inductive KD (ds : List D4) (base : List (Addr × Obj)) (i : Nat) : List Value → List (Addr × Obj) → Prop
  | mk (ys : List Value) (tups : List (Addr × Obj)) (hyl : ys.length = i) (hts : ∀ p ∈ tups, seqB p = true) (htd : ∀ (j : Nat) (v : Value), ys[j]? = some v → ∃ d, ds[j]? = some d ∧ DrawAt tups v d) : KD ds base i ys (tups ++ base)
theorem KD.snoc {ds : List D4} {base tups : List (Addr × Obj)} {i : Nat} {ys : List Value} {d : D4} {a : Addr} {o : Obj} (hl : ys.length = i) (hs : ∀ p ∈ tups, seqB p = true) (hd : ∀ (j : Nat) (v : Value), ys[j]? = some v → ∃ d, ds[j]? = some d ∧ DrawAt tups v d) (hc : ds[i]? = some d)
    (ho : ∃ t1 t2 t3 t4 n, o = ({ cls := .type "tuple", data := .seq [.int d.1 t1, .int d.2.1 t2, .int d.2.2.1 t3, .int d.2.2.2 t4].toArray n } : Obj)) :
    KD ds base (i + 1) (ys ++ [.ref a]) ((a, o) :: (tups ++ base)) := by
  obtain ⟨t1, t2, t3, t4, n, rfl⟩ := ho
  refine KD.mk (ds := ds) (base := base) (i := i + 1) (ys ++ [.ref a]) ((a, ({ cls := .type "tuple", data := .seq [.int d.1 t1, .int d.2.1 t2, .int d.2.2.1 t3, .int d.2.2.2 t4].toArray n } : Obj)) :: tups) (by simp [hl]) (List.forall_mem_cons.mpr ⟨rfl, hs⟩) (fun j v hv => ?_)
  · by_cases e : j < ys.length
    · rw [List.getElem?_append_left e] at hv
      obtain ⟨c', h1, h2⟩ := hd j v hv
      exact ⟨c', h1, h2.mono fun p hp _ => List.mem_cons_of_mem _ hp⟩
    · have e2 : j = ys.length := by have := (List.getElem?_eq_some_iff.mp hv).1; simp at this; omega
      subst e2
      rw [List.getElem?_append_right (Nat.le_refl _), Nat.sub_self] at hv
      have ev := Option.some.inj hv
      subst ev
      exact ⟨d, hl ▸ hc, a, t1, t2, t3, t4, n, rfl, .head _⟩
end Mine
namespace Mine
inductive K1 (c1 c2 : Addr × Obj) (ds : List D4) : (Str → Option Value) → List (Addr × Obj) → Prop
  | mk (D : Addr) (rest : List (Addr × Obj)) (u : Str → Option Value) (hsq : ∀ p ∈ rest, seqB p = true) (hds : DrawsAt rest D ds) : K1 c1 c2 ds (fun y => if y = Str.ofString "draws" then some (Value.ref D) else u y) (c1 :: c2 :: rest)
theorem K1.mk' {c1 c2 : Addr × Obj} {ds : List D4} {m : Str → Option Value} {D : Addr} {rest : List (Addr × Obj)} (e : m (Str.ofString "draws") = some (.ref D)) (hsq : ∀ p ∈ rest, seqB p = true) (hds : DrawsAt rest D ds) : K1 c1 c2 ds m (c1 :: c2 :: rest) := by
  rw [form1_of e]; exact .mk D rest m hsq hds
def allDraws (xs : List Int) : List D4 := ((xs.take 5).map fun x => drawOf (x.fmod 1000000)) ++ [(0, 1, 0, 0), (1, 2, 1, -4), (3, 2, 4, 2)]
end Mine
namespace Mine
theorem KD.zero (ds : List D4) (base : List (Addr × Obj)) : KD ds base 0 [] base := .mk [] [] rfl (fun p hp => (nomatch hp)) (fun j v h => by simp at h)
end Mine
namespace Mine
theorem rot3 {α : Type} {a b c d : α} {l : List α} : ∀ p ∈ a :: b :: c :: d :: l, p ∈ d :: a :: b :: c :: l := fun p hp => by
  simp only [List.mem_cons] at hp ⊢
  rcases hp with h | h | h | h | h
  · exact .inr (.inl h)
  · exact .inr (.inr (.inl h))
  · exact .inr (.inr (.inr (.inl h)))
  · exact .inl h
  · exact .inr (.inr (.inr (.inr h)))
theorem off3_new {I C D a : Addr} {oI oC oD o : Obj} {nx : List (Addr × Obj)} (l : ∀ p ∈ (I, oI) :: (C, oC) :: (D, oD) :: nx, p.1 < a) (off : LCg.Off3 I C D nx) : LCg.Off3 I C D ((a, o) :: nx) :=
  ⟨⟨Nat.ne_of_gt (l _ (.head _)), Nat.ne_of_gt (l _ (.tail _ (.head _))), Nat.ne_of_gt (l _ (.tail _ (.tail _ (.head _))))⟩, off⟩
end Mine
namespace Mine
theorem K1.of {c1 c2 : Addr × Obj} {xs : List Int} {tups : List (Addr × Obj)} {ys : List Value} {m : Str → Option Value} {D D1 D2 D3 : Addr} {n n1 n2 n3 : Nat}
    (hyl : ys.length = (xs.take 5).length) (hts : ∀ p ∈ tups, seqB p = true) (htd : ∀ (j : Nat) (v : Value), ys[j]? = some v → ∃ d, ((xs.take 5).map fun x => drawOf (x.fmod 1000000))[j]? = some d ∧ DrawAt tups v d)
    (hm : m (Str.ofString "draws") = some (.ref D))
    (a0 a1 a2 a3 b0 b1 b2 b3 e0 e1 e2 e3 : Tok) :
    K1 c1 c2 (allDraws xs) m (c1 :: c2 :: (D, listOf (ys ++ [Value.ref D1, Value.ref D2, Value.ref D3] : List Value).toArray n) :: (D1, { cls := .type "tuple", data := .seq [.int 0 a0, .int 1 a1, .int 0 a2, .int 0 a3].toArray n1 }) :: (D2, { cls := .type "tuple", data := .seq [.int 1 b0, .int 2 b1, .int 1 b2, .int (-4) b3].toArray n2 }) :: (D3, { cls := .type "tuple", data := .seq [.int 3 e0, .int 2 e1, .int 4 e2, .int 2 e3].toArray n3 }) :: tups) := by
  refine .mk' hm (List.forall_mem_cons.mpr ⟨rfl, List.forall_mem_cons.mpr ⟨rfl, List.forall_mem_cons.mpr ⟨rfl, List.forall_mem_cons.mpr ⟨rfl, hts⟩⟩⟩⟩) ⟨ys ++ [Value.ref D1, Value.ref D2, Value.ref D3], n, .head _, by simp [allDraws, hyl], fun i v hv => ?_⟩
  · have hlen : ((xs.take 5).map fun x => drawOf (x.fmod 1000000)).length = ys.length := by rw [List.length_map, hyl]
    unfold allDraws
    by_cases e : i < ys.length
    · rw [List.getElem?_append_left e] at hv
      obtain ⟨c, h1, h2⟩ := htd i v hv
      exact ⟨c, by rw [List.getElem?_append_left (by rw [hlen]; exact e)]; exact h1, h2.mono fun p hp _ => .tail _ (.tail _ (.tail _ (.tail _ hp)))⟩
    · rw [List.getElem?_append_right (by omega)] at hv
      rw [List.getElem?_append_right (by omega), hlen]
      match hk : i - ys.length with
      | 0 => rw [hk] at hv; have := Option.some.inj hv; subst this; exact ⟨_, rfl, D1, a0, a1, a2, a3, n1, rfl, .tail _ (.head _)⟩
      | 1 => rw [hk] at hv; have := Option.some.inj hv; subst this; exact ⟨_, rfl, D2, b0, b1, b2, b3, n2, rfl, .tail _ (.tail _ (.head _))⟩
      | 2 => rw [hk] at hv; have := Option.some.inj hv; subst this; exact ⟨_, rfl, D3, e0, e1, e2, e3, n3, rfl, .tail _ (.tail _ (.tail _ (.head _)))⟩
      | n + 3 => rw [hk] at hv; simp at hv
end Mine
namespace Mine
theorem sub1 {α : Type} {a b c d e f g h i : α} {l : List α} : ∀ p ∈ h :: i :: a :: e :: d :: c :: l, p ∈ a :: b :: c :: d :: e :: f :: (l ++ [g, h, i]) := fun p hp => by
  simp only [List.mem_cons, List.mem_append, List.not_mem_nil, or_false] at hp ⊢
  rcases hp with hp | hp | hp | hp | hp | hp | hp <;> simp [hp]
end Mine
namespace Mine
theorem allDraws_fits (xs : List Int) : ∀ d ∈ allDraws xs, Fits d := fun d hd => by
  unfold allDraws at hd
  rcases List.mem_append.mp hd with hd | hd
  · obtain ⟨x, _, rfl⟩ := List.mem_map.mp hd
    exact drawOf_fits _
  · simp only [List.mem_cons, List.not_mem_nil, or_false] at hd
    rcases hd with rfl | rfl | rfl <;> exact ⟨⟨by decide, by decide⟩, ⟨by decide, by decide⟩, ⟨by decide, by decide⟩, ⟨by decide, by decide⟩⟩
theorem allDraws_len (xs : List Int) : (allDraws xs).length ≤ 8 := by
  unfold allDraws
  simp only [List.length_append, List.length_map, List.length_take, List.length_cons, List.length_nil]
  omega
theorem allDraws_ne (xs : List Int) : allDraws xs ≠ [] := by unfold allDraws; simp
def gTxt (d : D4) : Str := ⟨(drawC d).toArray⟩
theorem strs_step {ds : List D4} {i : Nat} {d : D4} {ys : List Value} {t : Tok} (h : StrsAre ys ((ds.take i).map gTxt)) (hd : ds[i]? = some d) : StrsAre (ys ++ [.str (gTxt d) t]) ((ds.take (i + 1)).map gTxt) := by
  rw [List.take_add_one, hd, List.map_append]
  exact PySem.W.kct_snoc h
inductive K2 (c1 c2 : Addr × Obj) (ds : List D4) : (Str → Option Value) → List (Addr × Obj) → Prop
  | mk (D S : Addr) (rest : List (Addr × Obj)) (u : Str → Option Value) (hsq : ∀ p ∈ rest, seqB p = true) (hds : DrawsAt rest D ds) (hss : DrawsAt rest S (ds.map stOf)) : K2 c1 c2 ds (fun y => if y = Str.ofString "statements" then some (Value.ref S) else if y = Str.ofString "draws" then some (Value.ref D) else u y) (c1 :: c2 :: rest)
end Mine
namespace Mine
theorem st_row {ds : List D4} {i : Nat} {v : Value} {led : List (Addr × Obj)} {rs : List Value} (h : RowsAt led rs ([] ++ ds.map rowI)) (hv : rs[i]? = some v) : ∃ d, ds[i]? = some d ∧ ∃ a us n, v = .ref a ∧ (a, listOf us.toArray n) ∈ led ∧ IntsAre us (rowI d) := by
  have hlt : i < ds.length := by
    have := (List.getElem?_eq_some_iff.mp hv).1
    rw [h.1] at this
    simpa using this
  obtain ⟨a, us, n, h1, h2, h3⟩ := h.2 i (rowI ds[i]) (by rw [List.nil_append, List.getElem?_map, List.getElem?_eq_getElem hlt]; rfl)
  rw [hv] at h1
  exact ⟨_, List.getElem?_eq_getElem hlt, a, us, n, Option.some.inj h1, h2, h3⟩
theorem K2.of {c1 c2 : Addr × Obj} {ds : List D4} {tups rest : List (Addr × Obj)} {ys : List Value} {m : Str → Option Value} {D S : Addr} {n : Nat} (hyl : ys.length = ds.length) (hts : ∀ p ∈ tups, seqB p = true) (htd : ∀ (j : Nat) (v : Value), ys[j]? = some v → ∃ d, (ds.map stOf)[j]? = some d ∧ DrawAt tups v d)
    (hsq : ∀ p ∈ rest, seqB p = true) (hds : DrawsAt rest D ds) (h1 : m (Str.ofString "statements") = some (.ref S)) (h2 : m (Str.ofString "draws") = some (.ref D)) : K2 c1 c2 ds m (c1 :: c2 :: (S, listOf ys.toArray n) :: (tups ++ rest)) := by
  rw [form2_of h1 h2]
  refine .mk D S _ m (fun p hp => ?_) (hds.mono fun p hp _ => .tail _ (List.mem_append_right _ hp)) ⟨ys, n, .head _, by simp [hyl], fun i v hv => ?_⟩
  · rcases List.mem_cons.mp hp with rfl | hp
    · rfl
    · rcases List.mem_append.mp hp with hp | hp
      · exact hts p hp
      · exact hsq p hp
  · obtain ⟨d, hd, hD⟩ := htd i v hv
    exact ⟨d, hd, hD.mono fun p hp _ => .tail _ (List.mem_append_left _ hp)⟩
theorem sub4 {α : Type} {i c d a : α} {nx n' : List α} (m : a ∈ n') (s : ∀ p ∈ i :: c :: d :: nx, p ∈ n') : ∀ p ∈ i :: c :: d :: a :: nx, p ∈ n' := fun p hp => by
  simp only [List.mem_cons] at hp
  rcases hp with rfl | rfl | rfl | rfl | hp
  · exact s _ (.head _)
  · exact s _ (.tail _ (.head _))
  · exact s _ (.tail _ (.tail _ (.head _)))
  · exact m
  · exact s _ (.tail _ (.tail _ (.tail _ hp)))
theorem sub2 {α : Type} {s r t c1 c2 : α} {tups rest led : List α} (h : ∀ p ∈ t :: c1 :: c2 :: rest, p ∈ led) : ∀ p ∈ c1 :: c2 :: s :: (tups ++ rest), p ∈ s :: (tups ++ r :: led) := fun p hp => by
  simp only [List.mem_cons, List.mem_append] at hp ⊢
  rcases hp with rfl | rfl | rfl | hp | hp
  · exact .inr (.inr (.inr (h _ (.tail _ (.head _)))))
  · exact .inr (.inr (.inr (h _ (.tail _ (.tail _ (.head _))))))
  · exact .inl rfl
  · exact .inr (.inl hp)
  · exact .inr (.inr (.inr (h _ (.tail _ (.tail _ (.tail _ hp))))))
end Mine
namespace Mine
inductive K3 (c1 : Addr × Obj) (a2 : Addr) (ds : List D4) (x : List Int) : (Str → Option Value) → List (Addr × Obj) → Prop
  | mk (D S N G : Addr) (us : List Value) (n : Nat) (gs : List Value) (ng : Nat) (o2 : Obj) (rest : List (Addr × Obj)) (u : Str → Option Value) (hd2 : o2.data = .cell (some (.ref G))) (hoffN : ∀ p ∈ c1 :: (a2, o2) :: (G, listOf gs.toArray ng) :: rest, p.1 ≠ N) (hus : IntsAre us x) (hgs : IntsAre gs [0]) (hsq : ∀ p ∈ rest, seqB p = true) (hds : DrawsAt rest D ds) (hss : DrawsAt rest S (ds.map stOf)) :
    K3 c1 a2 ds x (fun y => if y = Str.ofString "numbers" then some (Value.ref N) else if y = Str.ofString "statements" then some (Value.ref S) else if y = Str.ofString "draws" then some (Value.ref D) else u y) ((N, listOf us.toArray n) :: c1 :: (a2, o2) :: (G, listOf gs.toArray ng) :: rest)
end Mine
namespace Mine
theorem cell_off {h : Heap} {a : Addr} {o : Obj} {p : Addr × Obj} {v : Option Value} (hd : o.data = .cell v) (h1 : h.get? a = some o) (h2 : h.get? p.1 = some p.2) (hs : seqB p = true) : p.1 ≠ a := fun e => by
  rw [e, h1] at h2
  have := Option.some.inj h2
  unfold seqB at hs
  rw [← this, hd] at hs
  cases hs
theorem sub3 {α : Type} {t g a c1 c2 : α} {rest : List α} : ∀ p ∈ a :: c1 :: c2 :: g :: rest, p ∈ t :: g :: a :: c1 :: c2 :: rest := fun p hp => by
  simp only [List.mem_cons] at hp ⊢
  rcases hp with h | h | h | h | h <;> simp [h]
theorem K3.of {c1 : Addr × Obj} {a2 : Addr} {ds : List D4} {m : Str → Option Value} {D S N G : Addr} {us gs : List Value} {n ng : Nat} {o2 : Obj} {rest : List (Addr × Obj)} {x : List Int} (hd : o2.data = .cell (some (.ref G))) (e1 : c1.1 ≠ N) (e2 : a2 ≠ N) (e3 : G ≠ N) (e4 : ∀ p ∈ rest, p.1 ≠ N) (hu : IntsAre us x) (hg : IntsAre gs [0]) (hsq : ∀ p ∈ rest, seqB p = true) (hds : DrawsAt rest D ds) (hss : DrawsAt rest S (ds.map stOf))
    (h1 : m (Str.ofString "numbers") = some (.ref N)) (h2 : m (Str.ofString "statements") = some (.ref S)) (h3 : m (Str.ofString "draws") = some (.ref D)) : K3 c1 a2 ds x m ((N, listOf us.toArray n) :: c1 :: (a2, o2) :: (G, listOf gs.toArray ng) :: rest) :=
  (show K3 c1 a2 ds x (form3 _ _ _ _ _ _ m) _ from .mk D S N G us n gs ng o2 rest m hd (List.forall_mem_cons.mpr ⟨e1, List.forall_mem_cons.mpr ⟨e2, List.forall_mem_cons.mpr ⟨e3, e4⟩⟩⟩) hu hg hsq hds hss) |> fun k => (form3_of h1 h2 h3).symm ▸ k
end Mine
namespace Mine
inductive JN (D S N : Addr) (n : Nat) (R : List (Addr × Obj)) (ss : List D4) (i : Nat) : (Str → Option Value) → List (Addr × Obj) → Prop
  | mk (us : List Value) (u : Str → Option Value) (hus : IntsAre us (rnds ss i)) : JN D S N n R ss i (fun y => if y = Str.ofString "numbers" then some (Value.ref N) else if y = Str.ofString "statements" then some (Value.ref S) else if y = Str.ofString "draws" then some (Value.ref D) else u y) ((N, listOf us.toArray n) :: R)
theorem JN.of {D S N : Addr} {n : Nat} {R : List (Addr × Obj)} {ss : List D4} {i : Nat} {m : Str → Option Value} {us : List Value} (hus : IntsAre us (rnds ss i)) (h1 : m (Str.ofString "numbers") = some (.ref N)) (h2 : m (Str.ofString "statements") = some (.ref S)) (h3 : m (Str.ofString "draws") = some (.ref D)) : JN D S N n R ss i m ((N, listOf us.toArray n) :: R) := by
  rw [form3_of h1 h2 h3]; exact .mk us m hus
theorem st_bnd {ds : List D4} (h : ∀ d ∈ ds, Fits d) : ∀ d ∈ ds.map stOf, 0 ≤ d.1 ∧ d.1 < 4 ∧ 0 ≤ d.2.1 ∧ d.2.1 < 4 := fun d hd => by
  obtain ⟨d', hd', rfl⟩ := List.mem_map.mp hd
  exact ⟨(h d' hd').o.1, (h d' hd').o.2, (h d' hd').w.1, (h d' hd').w.2⟩
end Mine
namespace Mine
inductive K5 (D N : Addr) (n : Nat) (R : List (Addr × Obj)) (x : List Int) (b : Bool) : (Str → Option Value) → List (Addr × Obj) → Prop
  | mk (us : List Value) (u : Str → Option Value) (hus : IntsAre us x) : K5 D N n R x b (fun y => if y = Str.ofString "kept" then some (Value.bool b) else if y = Str.ofString "numbers" then some (Value.ref N) else if y = Str.ofString "draws" then some (Value.ref D) else u y) ((N, listOf us.toArray n) :: R)
theorem K5.of {D N : Addr} {n : Nat} {R : List (Addr × Obj)} {x : List Int} {b : Bool} {m : Str → Option Value} {us : List Value} (hus : IntsAre us x) (h1 : m (Str.ofString "kept") = some (.bool b)) (h2 : m (Str.ofString "numbers") = some (.ref N)) (h3 : m (Str.ofString "draws") = some (.ref D)) : K5 D N n R x b m ((N, listOf us.toArray n) :: R) := by
  rw [form3_of h1 h2 h3]; exact .mk us m hus
/-- what stands beside the rings -/
def besides (a1 a2 : Addr) (o1 o2 : Obj) (N : Addr) (us : List Value) (n : Nat) (T : Addr) (Rs : List Addr) (k : Nat) (rows : List (List Value)) : List (Addr × Obj) :=
  (a1, o1) :: (a2, o2) :: (N, listOf us.toArray n) :: (T, listOf (Rs.map Value.ref).toArray k) :: rowsL Rs rows
inductive K6 (a1 a2 : Addr) (o2 : Obj) (N : Addr) (us : List Value) (n : Nat) (G : Addr) (gs : List Value) (ng : Nat) (M : Mat) (b : Bool) : (Str → Option Value) → List (Addr × Obj) → Prop
  | mk (o1 : Obj) (T : Addr) (Rs : List Addr) (k : Nat) (rows : List (List Value)) (u : Str → Option Value) (hd1 : o1.data = .cell (some (.ref T))) (hRl : Rs.length = 4) (hrows : RowsOk rows M) (hoffG : ∀ p ∈ besides a1 a2 o1 o2 N us n T Rs k rows, p.1 ≠ G) :
    K6 a1 a2 o2 N us n G gs ng M b (fun y => if y = Str.ofString "kept" then some (Value.bool b) else if y = Str.ofString "numbers" then some (Value.ref N) else u y) ((G, listOf gs.toArray ng) :: besides a1 a2 o1 o2 N us n T Rs k rows)
theorem K6.of {a1 a2 : Addr} {o2 : Obj} {N : Addr} {us : List Value} {n : Nat} {G : Addr} {gs : List Value} {ng : Nat} {M : Mat} {b : Bool} {m : Str → Option Value} {o1 : Obj} {T : Addr} {Rs : List Addr} {k : Nat} {rows : List (List Value)} (hd1 : o1.data = .cell (some (.ref T))) (hRl : Rs.length = 4) (hrows : RowsOk rows M)
    (g1 : G ≠ a1) (g2 : G ≠ a2) (gN : G ≠ N) (gT : G ≠ T) (gR : ∀ p ∈ rowsL Rs rows, G ≠ p.1) (h1 : m (Str.ofString "kept") = some (.bool b)) (h2 : m (Str.ofString "numbers") = some (.ref N)) : K6 a1 a2 o2 N us n G gs ng M b m ((G, listOf gs.toArray ng) :: besides a1 a2 o1 o2 N us n T Rs k rows) := by
  rw [form2_of h1 h2]
  exact .mk o1 T Rs k rows m hd1 hRl hrows (List.forall_mem_cons.mpr ⟨Ne.symm g1, List.forall_mem_cons.mpr ⟨Ne.symm g2, List.forall_mem_cons.mpr ⟨Ne.symm gN, List.forall_mem_cons.mpr ⟨Ne.symm gT, fun p hp => Ne.symm (gR p hp)⟩⟩⟩⟩)
theorem rowsL_seq {Rs : List Addr} {rows : List (List Value)} : ∀ p ∈ rowsL Rs rows, seqB p = true := by
  induction Rs generalizing rows with
  | nil => intro p hp; cases hp
  | cons R Rs ih =>
    cases rows with
    | nil => intro p hp; cases hp
    | cons u us =>
      intro p hp
      rcases List.mem_cons.mp hp with rfl | hp
      · rfl
      · exact ih p hp
end Mine
namespace Mine
theorem sub6 {α : Type} {g a1 a2 n t : α} {rows rest : List α} : ∀ p ∈ g :: a1 :: a2 :: n :: t :: rows, p ∈ t :: (rows ++ n :: a1 :: a2 :: g :: rest) := fun p hp => by
  simp only [List.mem_cons, List.mem_append] at hp ⊢
  rcases hp with h | h | h | h | h | h <;> simp [h]
end Mine
namespace Mine
def ringsF (M : Mat) : Nat → List Int
  | 0 => [0]
  | i + 1 => ringsF M i ++ (waysF M 4 [i] 0).2
def LeastOf (M : Mat) (j : Nat) (t : Int) : Prop := t ∈ (waysF M 4 [j] 0).1 ∧ ∀ u ∈ (waysF M 4 [j] 0).1, t ≤ u
inductive KW (M : Mat) (G : Addr) (Y : List (Addr × Obj)) (i : Nat) : List Value → List (Addr × Obj) → Prop
  | mk (gs : List Value) (ng : Nat) (told : List Int) (ys : List Value) (hte : told.length = i) (hys : IntsAre ys told) (htd : ∀ (j : Nat) (t : Int), told[j]? = some t → LeastOf M j t) (hgs : IntsAre gs (ringsF M i)) : KW M G Y i ys ((G, listOf gs.toArray ng) :: Y)
theorem ringsF_len (M : Mat) : ∀ i, (ringsF M i).length ≤ 1 + i * cR 4
  | 0 => Nat.le_refl _
  | i + 1 => by
    have h1 := ringsF_len M i
    have h2 := (waysF_len M 4 [i] 0).2
    show (ringsF M i ++ _).length ≤ _
    rw [List.length_append, Nat.succ_mul]; omega
theorem KW.snoc {M : Mat} {G : Addr} {Y : List (Addr × Obj)} {ys gs : List Value} {ng : Nat} {told : List Int} {t : Tok} {x : Int} (h1 : IntsAre ys told) (h2 : ∀ (j : Nat) (t : Int), told[j]? = some t → LeastOf M j t) (h3 : LeastOf M told.length x) (h4 : IntsAre gs (ringsF M told.length ++ (waysF M 4 [told.length] 0).2)) : KW M G Y (told.length + 1) (ys ++ [.int x t]) ((G, listOf gs.toArray ng) :: Y) := by
  refine .mk gs ng (told ++ [x]) _ (by simp) (h1.append (.cons _ _ .nil)) (fun j u hj => ?_) h4
  by_cases e : j < told.length
  · rw [List.getElem?_append_left e] at hj; exact h2 j u hj
  · have e2 : j = told.length := by have := (List.getElem?_eq_some_iff.mp hj).1; simp at this; omega
    subst e2
    rw [List.getElem?_append_right (Nat.le_refl _), Nat.sub_self] at hj
    exact Option.some.inj hj ▸ h3
inductive K7 (a2 : Addr) (o2 : Obj) (N : Addr) (us : List Value) (n : Nat) (G : Addr) (M : Mat) (b : Bool) : (Str → Option Value) → List (Addr × Obj) → Prop
  | mk (U : Addr) (tv : List Value) (nt : Nat) (gs : List Value) (ng : Nat) (told : List Int) (u : Str → Option Value) (htl : told.length = 4) (htv : IntsAre tv told) (htd : ∀ (j : Nat) (t : Int), told[j]? = some t → LeastOf M j t) (hgs : IntsAre gs (ringsF M 4)) :
    K7 a2 o2 N us n G M b (fun y => if y = Str.ofString "told" then some (Value.ref U) else if y = Str.ofString "kept" then some (Value.bool b) else if y = Str.ofString "numbers" then some (Value.ref N) else u y) [(U, listOf tv.toArray nt), (G, listOf gs.toArray ng), (a2, o2), (N, listOf us.toArray n)]
theorem K7.of {a2 : Addr} {o2 : Obj} {N : Addr} {us : List Value} {n : Nat} {G : Addr} {M : Mat} {b : Bool} {m : Str → Option Value} {U : Addr} {tv : List Value} {nt : Nat} {gs : List Value} {ng : Nat} {told : List Int} {i : Nat} (hi : i = 4) (htl : told.length = i) (htv : IntsAre tv told) (htd : ∀ (j : Nat) (t : Int), told[j]? = some t → LeastOf M j t) (hgs : IntsAre gs (ringsF M i))
    (h1 : m (Str.ofString "told") = some (.ref U)) (h2 : m (Str.ofString "kept") = some (.bool b)) (h3 : m (Str.ofString "numbers") = some (.ref N)) : K7 a2 o2 N us n G M b m [(U, listOf tv.toArray nt), (G, listOf gs.toArray ng), (a2, o2), (N, listOf us.toArray n)] := by
  subst hi; rw [form3_of h1 h2 h3]; exact .mk U tv nt gs ng told m htl htv htd hgs
end Mine
namespace Mine
theorem sub7 {α : Type} {s w i c d g : α} {Y : List α} : ∀ p ∈ i :: c :: d :: g :: Y, p ∈ s :: g :: w :: i :: c :: d :: Y := fun p hp => by
  simp only [List.mem_cons] at hp ⊢
  rcases hp with h | h | h | h | h <;> simp [h]
theorem sub8 {α : Type} {w i c d g : α} {Y : List α} : ∀ p ∈ g :: w :: i :: c :: d :: Y, p ∈ w :: i :: c :: d :: g :: Y := fun p hp => by
  simp only [List.mem_cons] at hp ⊢
  rcases hp with h | h | h | h | h | h <;> simp [h]
theorem sub9 {α : Type} {U g a1 a2 n t : α} {Y : List α} : ∀ p ∈ [U, g, a2, n], p ∈ U :: g :: a1 :: a2 :: n :: t :: Y := fun p hp => by
  simp only [List.mem_cons, List.not_mem_nil, or_false] at hp ⊢
  rcases hp with h | h | h | h <;> simp [h]
theorem offG {G W I C D : Addr} {oW oI oC oD : Obj} {Y : List (Addr × Obj)} {oG : Obj} (h1 : @LT.lt Nat _ G W) (off : LCg.Off3 I C D ((G, oG) :: Y)) (h : ∀ p ∈ Y, p.1 ≠ G) : ∀ p ∈ (W, oW) :: (I, oI) :: (C, oC) :: (D, oD) :: Y, p.1 ≠ G := fun p hp => by
  rcases List.mem_cons.mp hp with rfl | hp
  · exact Nat.ne_of_gt h1
  · rcases List.mem_cons.mp hp with rfl | hp
    · exact Ne.symm off.1.1
    · rcases List.mem_cons.mp hp with rfl | hp
      · exact Ne.symm off.1.2.1
      · rcases List.mem_cons.mp hp with rfl | hp
        · exact Ne.symm off.1.2.2
        · exact h p hp
theorem ways_pos (M : Mat) (p : Nat) : 0 < (waysF M 4 [p] 0).1.length :=
  List.length_pos_of_mem (ways_full (M := M) 4 [p] 0 [] p 0 (by simp) (.nil p) (by decide) (by simp) (by simp) (by simp)).1
end Mine
namespace Mine
theorem ringsF_mem {M : Mat} {r : Int} : ∀ {i : Nat}, r ∈ ringsF M i → r = 0 ∨ ∃ p, p < i ∧ r ∈ (waysF M 4 [p] 0).2
  | 0, h => .inl (by simpa [ringsF] using h)
  | i + 1, h => by
    rcases List.mem_append.mp h with h | h
    · rcases ringsF_mem h with h | ⟨p, hp, h⟩
      · exact .inl h
      · exact .inr ⟨p, by omega, h⟩
    · exact .inr ⟨i, by omega, h⟩
theorem ringsF_all {M : Mat} {r : Int} {p : Nat} : ∀ {i : Nat}, p < i → r ∈ (waysF M 4 [p] 0).2 → r ∈ ringsF M i
  | 0, hp, _ => absurd hp (Nat.not_lt_zero _)
  | i + 1, hp, h => by
    by_cases e : p = i
    · subst e; exact List.mem_append_right _ h
    · exact List.mem_append_left _ (ringsF_all (by omega) h)
/-- the law, without the program -/
theorem plain {ds : List D4} (h : ∀ d ∈ ds, Fits d) {told : List Int} (hl : told.length = 4) (ht : ∀ (j : Nat) (t : Int), told[j]? = some t → LeastOf (stepsAll ds) j t) :
    ((∀ x, x ∈ ringsF (stepsAll ds) 4 → (∀ a, a ∈ ringsF (stepsAll ds) 4 → x ≤ a) → x < 0) ∧ decide ((mendAll (ds.map stOf) (rnds (ds.map stOf) 3, 0)).2 = 0) = false) ∨
    ((∀ x, x ∈ ringsF (stepsAll ds) 4 → (∀ a, a ∈ ringsF (stepsAll ds) 4 → x ≤ a) → ¬ x < 0) ∧ decide ((mendAll (ds.map stOf) (rnds (ds.map stOf) 3, 0)).2 = 0) = true ∧ (mendAll (ds.map stOf) (rnds (ds.map stOf) 3, 0)).1 = told) := by
  have hk : ∀ d ∈ ds, KOk d := fun d hd => (h d hd).ok
  by_cases hA : ∃ r ∈ ringsF (stepsAll ds) 4, r < 0
  · obtain ⟨r, hr, h0⟩ := hA
    refine .inl ⟨fun x _ hx => Int.lt_of_le_of_lt (hx r hr) h0, decide_eq_false fun e => ?_⟩
    rcases ringsF_mem hr with rfl | ⟨p, _, hp⟩
    · exact absurd h0 (by decide)
    · have := plain_a hk e p r hp; omega
  · have hB : ∀ r ∈ ringsF (stepsAll ds) 4, 0 ≤ r := fun r hr => Int.not_lt.mp fun h0 => hA ⟨r, hr, h0⟩
    have hT : ∀ p, p < 4 → LeastOf (stepsAll ds) p (told.getD p 0) := fun p hp => ht p _ (by rw [List.getD_eq_getElem?_getD, List.getElem?_eq_getElem (by omega)]; rfl)
    obtain ⟨e1, e2⟩ := plain_b hk (told := fun p => told.getD p 0) (fun p hp => (hT p hp).1) (fun p hp => (hT p hp).2) fun p hp r hr => hB r (ringsF_all hp hr)
    refine .inr ⟨fun x hx _ h0 => absurd (hB x hx) (by omega), by rw [e1]; exact decide_eq_true rfl, by
      rw [e1]
      show rnds (ds.map stOf) 3 = told
      rw [e2]
      match told, hl with
      | [_, _, _, _], _ => rfl⟩
end Mine
namespace Mine
/-- a contract used, its ways told by a word of their own -/
theorem Spec.useK {w : World} {mean : ExcName → Option Value} {mg mb : Str → Option Value} {f : Addr} {vs : List Value} {news : List (Addr × Obj)} {dn : Nat} {post : Value → List (Addr × Obj) → Prop} {G : (Value → List (Addr × Obj) → Prop) → Prop}
    (C : Spec w mean mg mb f vs news dn post) (conv : ∀ K, G K → ∀ v n', post v n' → K v n') {dp un : Nat} {gd : Option (List Code)} {cn : Str} {cs : Scope} {a : Addr} {ccd : Value} {cl : List (Str × Addr)} {outer : List Env} {A₀ : Around} {base h₀ : Heap} {L : Addr} {m : Str → Option Value} {s : Shared} {Q E : Value → Shared → Prop}
    (B : Below A₀ base outer h₀) (F : Fr h₀ L s.heap m) (X : (Mine.hz.heap_216 w.params).In h₀) (N : News h₀ L s.heap news)
    (T : Top Mine.hz.view_396 (looseW Mine.hz.view_396 [Str.ofString "EXACT_TOKEN_TYPES"]) mean mg mb h₀) (hk : cs.kind = .function)
    (hd : dp + dn < recursionLimit) (hu : un + 8 * dn < cLine)
    (ret : G (fun v n' => ∀ (h' : Heap) (tk' : Nat), Fr h₀ L h' m → News h₀ L h' n' → Q v { s with heap := h', toks := tk' })) :
    wpAny (model Mine.pw2 w) (ktrTop dp un gd cn cs L a ccd cl outer) (call (.ref f) vs) Q E s :=
  C.run _ _ _ _ _ _ _ _ _ _ _ _ _ _ _ _ _ B F X N T hk hd hu fun v n' h' tk' F' N' hp => conv _ ret v n' hp h' tk' F' N'
theorem k_draw {news : List (Addr × Obj)} {x y z u : Int} (K : Value → List (Addr × Obj) → Prop) (h : ∀ (a : Addr) (t1 t2 t3 t4 : Tok), (∀ p ∈ news, p.1 < a) → K (.ref a) ((a, tup [.int x t1, .int y t2, .int z t3, .int u t4]) :: news)) (v : Value) (n' : List (Addr × Obj)) :
    (∃ (a : Addr) (t1 t2 t3 t4 : Tok), v = .ref a ∧ (∀ p ∈ news, p.1 < a) ∧ n' = (a, tup [.int x t1, .int y t2, .int z t3, .int u t4]) :: news) → K v n' := by
  rintro ⟨a, t1, t2, t3, t4, rfl, l, rfl⟩
  exact h a t1 t2 t3 t4 l
theorem k_words {news : List (Addr × Obj)} {Fin : List (List Int)} (K : Value → List (Addr × Obj) → Prop) (h : ∀ (R : Addr) (rs : List Value) (n : Nat) (led : List (Addr × Obj)), RowsAt led rs Fin → (∀ p ∈ news, p ∈ led) → K (.ref R) ((R, listOf rs.toArray n) :: led)) (v : Value) (n' : List (Addr × Obj)) :
    (∃ (R : Addr) (rs : List Value) (n : Nat) (led : List (Addr × Obj)), v = .ref R ∧ n' = (R, listOf rs.toArray n) :: led ∧ RowsAt led rs Fin ∧ (∀ p ∈ news, p ∈ led)) → K v n' := by
  rintro ⟨R, rs, n, led, rfl, rfl, h1, h2⟩
  exact h R rs n led h1 h2
theorem k_read {news : List (Addr × Obj)} {x y z u : Int} (K : Value → List (Addr × Obj) → Prop) (h : ∀ (c : Addr) (t1 t2 t3 t4 : Tok) (k : Nat) (n' : List (Addr × Obj)), (∀ p ∈ news, p.1 < c) → (c, ({ cls := .type "tuple", data := .seq [.int x t1, .int y t2, .int z t3, .int u t4].toArray k } : Obj)) ∈ n' → (∀ p ∈ news, p ∈ n') → K (.ref c) n') (v : Value) (n' : List (Addr × Obj)) :
    (∃ (c : Addr) (t1 t2 t3 t4 : Tok) (k : Nat), v = .ref c ∧ (∀ p ∈ news, p.1 < c) ∧ (c, ({ cls := .type "tuple", data := .seq [.int x t1, .int y t2, .int z t3, .int u t4].toArray k } : Obj)) ∈ n' ∧ (∀ p ∈ news, p ∈ n')) → K v n' := by
  rintro ⟨c, t1, t2, t3, t4, k, rfl, l, m, s⟩
  exact h c t1 t2 t3 t4 k n' l m s
theorem k_mended {x : Int} {xs : List Int} {N : Addr} {n : Nat} {rest : List (Addr × Obj)} (K : Value → List (Addr × Obj) → Prop) (h : ∀ (t : Tok) (us' : List Value), IntsAre us' xs → K (.int x t) ((N, listOf us'.toArray n) :: rest)) (v : Value) (n' : List (Addr × Obj)) :
    (∃ t, v = .int x t ∧ ∃ us', IntsAre us' xs ∧ n' = (N, listOf us'.toArray n) :: rest) → K v n' := by
  rintro ⟨t, rfl, us', hu, rfl⟩
  exact h t us' hu
theorem k_steps' {M : Mat} {news : List (Addr × Obj)} (K : Value → List (Addr × Obj) → Prop) (h : ∀ (T : Addr) (Rs : List Addr) (us : List (List Value)) (k : Nat), Rs.length = 4 → RowsOk us M → (∀ p ∈ news, p.1 ≠ T) → (∀ R ∈ Rs, ∀ p ∈ news, p.1 ≠ R) → K (.ref T) ((T, listOf (Rs.map Value.ref).toArray k) :: (rowsL Rs us ++ news))) (v : Value) (n' : List (Addr × Obj)) :
    (∃ (T : Addr) (Rs : List Addr) (us : List (List Value)) (k : Nat), v = .ref T ∧ Rs.length = 4 ∧ Rs.Nodup ∧ RowsOk us M ∧ T ∉ Rs ∧ (∀ p ∈ news, p.1 ≠ T) ∧ (∀ R ∈ Rs, ∀ p ∈ news, p.1 ≠ R) ∧ n' = (T, listOf (Rs.map Value.ref).toArray k) :: (rowsL Rs us ++ news)) → K v n' := by
  rintro ⟨T, Rs, us, k, rfl, h1, _, h2, _, h3, h4, rfl⟩
  exact h T Rs us k h1 h2 h3 h4
theorem k_ways {x y : List Int} {G : Addr} {rest : List (Addr × Obj)} (K : Value → List (Addr × Obj) → Prop) (h : ∀ (S : Addr) (vs : List Value) (ns : Nat) (gs' : List Value) (ng' : Nat), IntsAre vs x → IntsAre gs' y → K (.ref S) ((S, listOf vs.toArray ns) :: (G, listOf gs'.toArray ng') :: rest)) (v : Value) (n' : List (Addr × Obj)) :
    (∃ (S : Addr) (vs : List Value) (ns : Nat) (gs' : List Value) (ng' : Nat), v = .ref S ∧ IntsAre vs x ∧ IntsAre gs' y ∧ S ≠ G ∧ (∀ p ∈ rest, p.1 ≠ S) ∧ n' = (S, listOf vs.toArray ns) :: (G, listOf gs'.toArray ng') :: rest) → K v n' := by
  rintro ⟨S, vs, ns, gs', ng', rfl, h1, h2, _, _, rfl⟩
  exact h S vs ns gs' ng' h1 h2
end Mine
end
section
open PySem PySem.W PyProof.Rows
namespace Mine
set_option maxRecDepth 100000
set_option maxHeartbeats 8000000
section
variable (w : World) (mean : ExcName → Option Value) (mg mb : Str → Option Value)
end

theorem hh : Mine.rw2.Holds := by
  refine Mine.hz ?_
  k_fill
  intro w s₀ s₁ mg mb G y fa o pm cd doc dV kV ho hd hcd hD hmg hg args vals as L hpre hlay hrd hwl hlo
  have KX : (Mine.hz.heap_216 w.params).In s₁.heap := InK.keeps w s₀.heap s₁.heap (PySem.W.X.z_facts (K := Mine.hz.heap_216) (fun _ => rfl) y).2.1 (Laid.keeps L)
  k_behind G ho hd hcd hD hmg hpre hlay hrd hwl hlo cd
  all_goals (try k_fold)
  refine letA (P := fun A => wpAny _ A _ _ _ _) ?_
  intro A9
  rename_i TP _ _ _ _ _ _ _ _ xs _ _ _ _ _ _ _ ax sv _ hL _ _ _ hInts _ hlen _ K0 _ _ F o1 o2 d1 d2 N0 X0
  obtain ⟨u0, F0⟩ := fr1 (x := Str.ofString "script") (v := Value.ref ax) F rfl
  clear F X0 K0
  have K0 : Below callerA s₁.heap [] s₁.heap := below_caller _
  refine cutX (K1 (s₁.heap.objs.size + 1 + 1, o1) (s₁.heap.objs.size + 1, o2) (allDraws xs)) F0 N0 ?_ ?_
  · refine genQ (P := fun QQ => wpAny _ _ (exec _ _) QQ _ _) _ ?_
    intro QQ hQQ
    repeat' (first | ((with_reducible show wpAny _ _ (eval (Expr.ListComp _ _ _ _) _) _ _ _); refine Hold.out ?_) | ((with_reducible show LCg.CompRest _ _ _ _ _ _ _ _ _ _ _ _ _ _ _ _ _ _ _); refine Hold.out ?_) | ((with_reducible show LCg.CompSrc _ _ _ _ _ _ _ _ _ _ _ _ _ _); refine Hold.out ?_) | (k_unfold; (try dsimp only)) | (k_end; kc_close) | walk1 | (dsimp only; walk1) | (leave1; walk_say "STEP leave1"; (try dsimp only)) | fail "no step")
    unfold Hold
    (k_dflt (refine LCg.ListComp_U (F₀ := by k_asm) (by with_unfolding_all rfl) (by decide) (by rfl) (by decide) (by rfl) ?_))
    repeat' (first | ((with_reducible show wpAny _ _ (eval (Expr.ListComp _ _ _ _) _) _ _ _); refine Hold.out ?_) | ((with_reducible show LCg.CompRest _ _ _ _ _ _ _ _ _ _ _ _ _ _ _ _ _ _ _); refine Hold.out ?_) | ((with_reducible show LCg.CompSrc _ _ _ _ _ _ _ _ _ _ _ _ _ _); refine Hold.out ?_) | (k_unfold; (try dsimp only)) | (k_end; kc_close) | walk1 | (dsimp only; walk1) | (leave1; walk_say "STEP leave1"; (try dsimp only)) | fail "no step")
    unfold Hold
    rename_i D' ws h9 F9 N9 hI9 _ _ l9
    have hsz : ws.toArray.size ≤ sizeLine := by rw [List.size_toArray, hI9.length, List.length_take, sizeLine_eq]; omega
    (k_dflt (refine LCg.CompSrc.ledger (k := 0) (by rfl) (by k_asm) (by k_asm) ?_ hsz ?_))
    · exact List.mem_cons_self ..
    intro g'
    refine comp_J (KD ((xs.take 5).map fun x => drawOf (x.fmod 1000000)) _) (KD.zero _ _) ?_ ?_
    · rintro i ys nx ⟨tups, hyl, hts, htd⟩ v I oI C oC D m₂ h tk E' hi hP hC hx F N off ne
      have hv : ws[i]? = some v := by simpa using hP
      obtain ⟨k, t, e, hk⟩ := IntsAre.at hI9 i v hv
      subst e
      clear F9 N9
      repeat' (first | ((with_reducible show wpAny _ _ (call (Value.ref 148) _) _ _ _); k_dflt (refine' Spec.useK (c_draw _ _ _ _ _ _ _) k_draw ?k1 ?k2 ?k3 ?k4 ?k5 ?kK ?kd ?ku ?_; (case k1 => k_asm); (case k2 => k_asm); (case k3 => k_asm); (case k4 => k_asm); (case k5 => k_asm); (case kK => first | exact rfl | assumption); (case kd => ktr_room); (case ku => ktr_units); (intro a9' t1 t2 t3 t4 l9 h9 tk9 F9 N9; (try dsimp only); (try k_sweep); (try k_fold)))) | (k_unfold; (try dsimp only)) | (k_end; kc_close) | walk1 | (dsimp only; walk1) | (leave1; walk_say "STEP leave1"; (try dsimp only)) | fail "no step")
      refine CEnd.intro (_ :: (tups ++ _)) F9 N9 rot3 (off3_new l9 off) (.inr ⟨_, List.mem_cons_of_mem _ (List.mem_append_right _ (List.mem_cons_self ..)), rfl, _, rfl⟩) (KD.snoc (d := drawOf (k.fmod 1000000)) hyl hts htd (by rw [List.getElem?_map, hk]; rfl) ⟨_, _, _, _, _, rfl⟩)
    · rintro ys nx ⟨tups, hyl, hts, htd⟩
      intro T h1 tk1 F1 N1 off1
      repeat' (first | ((with_reducible show wpAny _ _ (binaryOp Operator.Add (Value.ref _) (Value.ref _)) _ _ _); refine Hold.out ?_) | (k_unfold; (try dsimp only)) | (k_end; kc_close) | walk1 | (dsimp only; walk1) | (leave1; walk_say "STEP leave1"; (try dsimp only)) | fail "no step")
      unfold Hold
      rename_i D1 _ l1 D2 _ l2 D3 _ l3 D4 h9 F9 N9 l4
      k_dflt (refine' kmk_add_lit ?qf9 ?qn9 ?qa9 ?qb9 ?qe9 ?_ ?qz9; (case qf9 => k_asm); (case qn9 => k_asm); (case qa9 => exact News.isList (by k_asm) (.tail _ (.tail _ (.tail _ (.tail _ (.head _)))))); (case qb9 => exact News.isList (by k_asm) (.head _)); (case qe9 => exact rfl); (case qz9 => simp only [List.length_append, List.length_cons, List.length_nil, sizeLine_eq]; rw [hyl, List.size_toArray, hI9.length, List.length_take]; omega))
      clear F9 N9
      intro D h9 F9 N9 l9
      repeat' (first | (k_unfold; (try dsimp only)) | (k_end; kc_close) | walk1 | (dsimp only; walk1) | (leave1; walk_say "STEP leave1"; (try dsimp only)) | fail "no step")
      rename Fr _ _ _ _ => F1
      rename News _ _ _ _ => N1
      rw [← hQQ]
      exact MidX.intro _ F1 N1 sub1 (K1.of (by rw [hyl, List.size_toArray, hI9.length]) hts htd rfl _ _ _ _ _ _ _ _ _ _ _ _)
  · rintro m1 nx1 ⟨D, rest, u, hsq, hds⟩ h1 tk1 F1 N1
    clear F0 N0
    have hfit := allDraws_fits xs
    have hdl := allDraws_len xs
    have hdn := allDraws_ne xs
    generalize allDraws xs = ds at hds hfit hdl hdn ⊢
    refine cutX (K2 (s₁.heap.objs.size + 1 + 1, o1) (s₁.heap.objs.size + 1, o2) ds) F1 N1 ?_ ?_
    · refine genQ (P := fun QQ => wpAny _ _ (exec _ _) QQ _ _) _ ?_
      intro QQ hQQ
      repeat' (first | ((with_reducible show wpAny _ _ (exec (Stmt.Assign [Expr.Name _ _] (Expr.ListComp _ _ _ _) _) _) _ _ _); k_dflt (refine LCg.Assign_ListComp_U (F₀ := by k_asm) (by rfl) (by with_unfolding_all rfl) (by with_unfolding_all rfl) (by decide) (by rfl) (by decide) (by rfl) (by rfl) (by rfl) ?_)) | ((with_reducible show wpAny _ _ (eval (Expr.ListComp _ _ _ _) _) _ _ _); refine Hold.out ?_) | ((with_reducible show LCg.CompSrc _ _ _ _ _ _ _ _ _ _ _ _ _ _); refine Hold.out ?_) | (k_unfold; (try dsimp only)) | (k_end; kc_close) | walk1 | (dsimp only; walk1) | (leave1; walk_say "STEP leave1"; (try dsimp only)) | fail "no step")
      unfold Hold
      (k_dflt (refine LCg.ListComp_U (F₀ := by k_asm) (by with_unfolding_all rfl) (by decide) (by rfl) (by decide) (by rfl) ?_))
      repeat' (first | ((with_reducible show wpAny _ _ (eval (Expr.ListComp _ _ _ _) _) _ _ _); refine Hold.out ?_) | ((with_reducible show LCg.CompRest _ _ _ _ _ _ _ _ _ _ _ _ _ _ _ _ _ _ _); refine Hold.out ?_) | ((with_reducible show LCg.CompSrc _ _ _ _ _ _ _ _ _ _ _ _ _ _); refine Hold.out ?_) | (k_unfold; (try dsimp only)) | (k_end; kc_close) | walk1 | (dsimp only; walk1) | (leave1; walk_say "STEP leave1"; (try dsimp only)) | fail "no step")
      unfold Hold
      obtain ⟨vs, nS, hSm, hlenD, hit⟩ := hds
      have hsz : vs.toArray.size ≤ sizeLine := by rw [List.size_toArray, hlenD, sizeLine_eq]; omega
      (k_dflt (refine LCg.CompSrc.ledger (k := nS) (by rfl) (by k_asm) (by k_asm) ?_ hsz ?_))
      · exact .tail _ (.tail _ hSm)
      intro g'
      refine comp_J (fun i ys nx => nx = (s₁.heap.objs.size + 1 + 1, o1) :: (s₁.heap.objs.size + 1, o2) :: rest ∧ StrsAre ys ((ds.take i).map gTxt)) ⟨rfl, .nil⟩ ?_ ?_
      · rintro i ys nx ⟨rfl, hys⟩ v I oI C oC D' m₂ h tk E' hi hP hC hx F N off ne
        have hv : vs[i]? = some v := by simpa using hP
        obtain ⟨d, hd, a, t1, t2, t3, t4, n, rfl, hm⟩ := hit i v hv
        obtain ⟨oo, tw, kd, bd⟩ := d
        have hf := hfit _ (List.mem_of_getElem? hd)
        have hm' : (a, ({ cls := .type "tuple", data := .seq [.int oo t1, .int tw t2, .int kd t3, .int bd t4].toArray n } : Obj)) ∈ (I, oI) :: (C, oC) :: (D', LCg.lst ys) :: (s₁.heap.objs.size + 1 + 1, o1) :: (s₁.heap.objs.size + 1, o2) :: rest := .tail _ (.tail _ (.tail _ (.tail _ (.tail _ hm))))
        repeat' (first | ((with_reducible show wpAny _ _ (call (Value.ref 155) _) _ _ _); k_dflt (refine' Spec.use (c_text _ _ _ _ _ _ _ _ _ _ _ _ _ _ ?h1 ?h2 ?h3 ?h4 _ ?hm) ?k1 ?k2 ?k3 ?k4 ?k5 ?kK ?kd ?ku ?_; (case k1 => k_asm); (case k2 => k_asm); (case k3 => k_asm); (case k4 => k_asm); (case k5 => k_asm); (case h1 => exact hf.o); (case h2 => exact hf.w); (case h3 => exact hf.k); (case h4 => exact hf.b); (case hm => exact hm'); (case kK => first | exact rfl | assumption); (case kd => ktr_room); (case ku => ktr_units); (intro v9 news9 h9 tk9 F9 N9 hp9; (obtain ⟨t9, e9, e9'⟩ := hp9); subst e9; subst e9'; (try dsimp only); (try k_sweep); (try k_fold)))) | (k_unfold; (try dsimp only)) | (k_end; kc_close) | walk1 | (dsimp only; walk1) | (leave1; walk_say "STEP leave1"; (try dsimp only)) | fail "no step")
        rename Fr _ _ _ _ => F9
        rename News _ _ _ _ => N9
        exact CEnd.intro _ F9 N9 (fun p hp => hp) off (.inr ⟨_, .tail _ (.tail _ hSm), rfl, _, rfl⟩) ⟨rfl, strs_step hys hd⟩
      · rintro ys nx ⟨rfl, hys⟩
        rw [List.size_toArray, hlenD, List.take_length] at hys
        intro T h1 tk1 F1 N1 off1
        have hcar : CarriedAll ys (ds.map fun d => PyData.str (gTxt d)) := by
          have := hys.carried
          rw [List.map_map] at this
          exact this
        have hB : ∀ d ∈ ds, (gTxt d).length ≤ 8 := fun d hd => by
          show (drawC d).toArray.size ≤ 8
          rw [List.size_toArray]; exact drawC_len (hfit d hd)
        have hlx := lex_txt w.params ds hdn hfit []
        have htl := txtC_len ds hfit
        have htl' : (txtC ds).length ≤ 1000 := by omega
        repeat' (first | ((with_reducible show wpAny _ _ (call (Value.builtin "str.join") _) _ _ _); refine Hold.out ?_) | (k_unfold; (try dsimp only)) | (k_end; kc_close) | walk1 | (dsimp only; walk1) | (leave1; walk_say "STEP leave1"; (try dsimp only)) | fail "no step")
        unfold Hold
        refine PySem.W.KT.join_B (l := ds) (g := gTxt) 8 (News.isList N1 (.head _)) hcar hB (Nat.le_trans hdl (by decide)) (by decide) ?_
        intro _ _
        rw [show List.map gTxt ds = ds.map fun d => (⟨(drawC d).toArray⟩ : Str) from rfl, join_txt ds]
        repeat' (first | ((with_reducible show wpAny _ _ (call (Value.ref 122) _) _ _ _); k_dflt (refine' Spec.useK (c_words _ _ _ _ _ _ hlx htl' _ _) k_words ?k1 ?k2 ?k3 ?k4 ?k5 ?kK ?kd ?ku ?_; (case k1 => k_asm); (case k2 => k_asm); (case k3 => k_asm); (case k4 => k_asm); (case k5 => k_asm); (case kK => first | exact rfl | assumption); (case kd => ktr_room); (case ku => ktr_units); (intro R rs nR led hra hsub h9 tk9 F9 N9; (try dsimp only); (try k_sweep); (try k_fold)))) | ((with_reducible show LCg.CompSrc _ _ _ _ _ _ _ _ _ _ _ _ _ _); refine Hold.out ?_) | (k_unfold; (try dsimp only)) | (k_end; kc_close) | walk1 | (dsimp only; walk1) | (leave1; walk_say "STEP leave1"; (try dsimp only)) | fail "no step")
        unfold Hold
        have hrl : rs.length = ds.length := by rw [hra.1]; simp
        have hsz' : rs.toArray.size ≤ sizeLine := by rw [List.size_toArray, hrl, sizeLine_eq]; omega
        (k_dflt (refine LCg.CompSrc.ledger (k := nR) (by rfl) (by k_asm) (by k_asm) (.head _) hsz' ?_))
        intro g'
        refine comp_J (KD (ds.map stOf) ((R, listOf rs.toArray nR) :: led)) (KD.zero _ _) ?_ ?_
        · rintro i ys nx ⟨tups, hyl, hts, htd⟩ v I oI C oC D' m₂ h tk E' hi hP hC hx F N off ne
          have hv : rs[i]? = some v := by simpa using hP
          obtain ⟨d, hd, a, us, n, rfl, hm, hI⟩ := st_row hra hv
          obtain ⟨r1, r2, r3, r4, r5, r6⟩ := rowI_read (hfit _ (List.mem_of_getElem? hd))
          have hm' : (a, listOf us.toArray n) ∈ (I, oI) :: (C, oC) :: (D', LCg.lst ys) :: (tups ++ (R, listOf rs.toArray nR) :: led) := .tail _ (.tail _ (.tail _ (List.mem_append_right _ (.tail _ hm))))
          clear F9 N9
          repeat' (first | ((with_reducible show wpAny _ _ (call (Value.ref 127) _) _ _ _); k_dflt (refine' Spec.useK (c_read _ _ _ _ a us n _ hI _ _ _ _ _ r1 r2 r3 r4 r5 _ ?hm) k_read ?k1 ?k2 ?k3 ?k4 ?k5 ?kK ?kd ?ku ?_; (case k1 => k_asm); (case k2 => k_asm); (case k3 => k_asm); (case k4 => k_asm); (case k5 => k_asm); (case hm => exact hm'); (case kK => first | exact rfl | assumption); (case kd => ktr_room); (case ku => ktr_units); (intro c9 t1 t2 t3 t4 k9 n9 l9 m9 s9 h9 tk9 F9 N9; (try dsimp only); (try k_sweep); (try k_fold)))) | (k_unfold; (try dsimp only)) | (k_end; kc_close) | walk1 | (dsimp only; walk1) | (leave1; walk_say "STEP leave1"; (try dsimp only)) | fail "no step")
          exact CEnd.intro (_ :: (tups ++ _)) F9 N9 (sub4 m9 s9) (off3_new l9 off) (.inr ⟨_, .tail _ (List.mem_append_right _ (.head _)), rfl, _, rfl⟩) (KD.snoc (d := stOf d) hyl hts htd (by rw [List.getElem?_map, hd]; rfl) ⟨_, _, _, _, _, by rw [r6]; rfl⟩)
        · rintro ys nx ⟨tups, hyl, hts, htd⟩
          intro S h1 tk1 F1 N1 off1
          rw [← hQQ]
          exact MidX.intro _ F1 N1 (sub2 hsub) (K2.of (by rw [hyl, List.size_toArray, hrl]) hts htd hsq ⟨vs, nS, hSm, hlenD, hit⟩ rfl rfl)
    · clear hds hsq N1 F1
      rintro m1 nx1 ⟨D, S, rest, u, hsq, hds, hss⟩ h1 tk1 F1 N1
      refine cutX (K3 (s₁.heap.objs.size + 1 + 1, o1) (s₁.heap.objs.size + 1) ds [0, 0, 0, 0]) F1 N1 ?_ ?_
      · refine genQ (P := fun QQ => wpAny _ _ (exec _ _) QQ _ _) _ ?_
        intro QQ hQQ
        repeat' (first | ((with_reducible show wpAny _ _ (storeName _ (Str.ofString "rings") _) _ _ _); refine Hold.out ?_) | (k_unfold; (try dsimp only)) | (k_end; kc_close) | walk1 | (dsimp only; walk1) | (leave1; walk_say "STEP leave1"; (try dsimp only)) | fail "no step")
        unfold Hold
        rename_i Nn _ lN G _ lG T _ lT _ _ F9 N9
        have N3 := fun p hp => N9 p (sub3 p hp)
        have hrN := allLt_out lN.2.2
        k_dflt (refine' storeX_C ?qf9 ?qn9 ?qc9 ?qu9 ?qd9 ?_ ?qk9 ?qx9; (case qf9 => exact F9); (case qn9 => exact N3); (case qc9 => exact rfl); (case qu9 => exact .tail (Nat.ne_of_gt lN.2.1) (.tail (Nat.succ_ne_self _) (.head fun p hp => by
          rcases List.mem_cons.mp hp with rfl | hp
          · exact Nat.ne_of_gt lG.2.2.1
          · exact cell_off d2 (N3 (s₁.heap.objs.size + 1, o2) (.tail _ (.tail _ (.head _)))).1 (N3 p (.tail _ (.tail _ (.tail _ (.tail _ hp))))).1 (hsq p hp)))); (case qd9 => exact d2); (case qk9 => exact rfl); (case qx9 => exact rfl))
        clear F9 N9 N3
        intro h9 o9 F9 N9 hd9
        repeat' (first | (k_unfold; (try dsimp only)) | (k_end; kc_close) | walk1 | (dsimp only; walk1) | (leave1; walk_say "STEP leave1"; (try dsimp only)) | fail "no step")
        rename Fr _ _ _ _ => F1
        rename News _ _ _ _ => N1
        rw [← hQQ]
        exact MidX.intro _ F1 N1 (fun p hp => hp) (K3.of hd9 (Nat.ne_of_lt lN.1) (Nat.ne_of_lt lN.2.1) (Nat.ne_of_gt lG.1) (fun p hp => Nat.ne_of_lt (hrN p hp)) (.cons _ _ (.cons _ _ (.cons _ _ (.cons _ _ .nil)))) (.cons _ _ .nil) hsq hds hss rfl rfl rfl)
      · clear hds hss hsq N1 F1
        rintro m1 nx1 ⟨D, S, N, G, us, n, gs, ng, o2', rest, u, hd2, hoffN, hus, hgs, hsq, hds, hss⟩ h1 tk1 F1 N1
        obtain ⟨R, eR⟩ : ∃ R, R = (s₁.heap.objs.size + 1 + 1, o1) :: (s₁.heap.objs.size + 1, o2') :: (G, listOf gs.toArray ng) :: rest := ⟨_, rfl⟩
        rw [← eR] at hoffN N1
        have hSR : DrawsAt R S (ds.map stOf) := hss.mono fun p hp _ => by rw [eR]; exact .tail _ (.tail _ (.tail _ hp))
        have hsb := st_bnd hfit
        refine cutX (JN D S N n R (ds.map stOf) 3) F1 N1 ?_ ?_
        · clear hss hds
          generalize ds.map stOf = ss at *
          refine genQ (P := fun QQ => wpAny _ _ (exec _ _) QQ _ _) _ ?_
          intro QQ hQQ
          (with_unfolding_all refine' For_invVF F1 ?f1 ?f2 ?_)
          case f1 => exact rfl
          case f2 => exact rfl
          repeat' (first | ((with_reducible show wpAny _ _ (pyIter _) _ _ _); refine Hold.out ?_) | (k_unfold; (try dsimp only)) | (k_end; kc_close) | walk1 | (dsimp only; walk1) | (leave1; walk_say "STEP leave1"; (try dsimp only)) | fail "no step")
          unfold Hold
          rename IsRange _ _ _ _ _ _ _ _ => hR
          rename Fr _ _ _ _ => lF'
          rename News _ _ _ _ => lN'
          with_unfolding_all refine' iter_rangeJ (n := 3) (JN D S N n R ss) ?kh hR ?ks ?kn lF' lN' ?_ ?_ ?_
          case kh => exact rfl
          case ks => decide
          case kn => decide
          · exact .mk us u hus
          · rintro i t m₁ nx h tk own hi hoff ⟨us, u, hus⟩ F₁ N₁
            clear lF' lN' hR
            refine genQ (P := fun QQ => wpAny _ _ (execs _ _) QQ _ _) _ ?_
            intro Q2 hQ2
            have hxl := rnds_len ss i
            have hS9 : DrawsAt (R ++ own) S ss := hSR.mono fun p hp _ => List.mem_append_left _ hp
            have hoff9 : ∀ p ∈ R ++ own, p.1 ≠ N := fun p hp => (List.mem_append.mp hp).elim (hoffN p) fun hp => hoff p hp N (.head _)
            repeat' (first | ((with_reducible show wpAny _ _ (call (Value.ref 141) _) _ _ _); k_dflt (refine' Spec.useK (c_mended _ _ _ _ S N us n _ hus hxl _ hsb _ hS9 hoff9) k_mended ?k1 ?k2 ?k3 ?k4 ?k5 ?kK ?kd ?ku ?_; (case k1 => k_asm); (case k2 => k_asm); (case k3 => k_asm); (case k4 => k_asm); (case k5 => k_asm); (case kK => first | exact rfl | assumption); (case kd => ktr_room); (case ku => ktr_units); (intro t9 us9 hu9 h9 tk9 F9 N9; (try dsimp only); (try k_sweep); (try k_fold)))) | (k_unfold; (try dsimp only)) | (k_end; kc_close) | walk1 | (dsimp only; walk1) | (leave1; walk_say "STEP leave1"; (try dsimp only)) | fail "no step")
            rw [← hQ2]
            dsimp only [InvPostN]
            exact InvEndN.mk' ((N, listOf us9.toArray n) :: R) (by k_asm) (by k_asm) (fun p hp => hp) rfl (JN.of hu9 rfl rfl rfl)
          · rintro m₁ nx h tk hJ F₁ N₁
            rw [← hQQ]
            exact MidX.intro _ F₁ N₁ (fun p hp => hp) hJ
        · clear hus N1 F1 us u
          rintro m1 nx1 ⟨us, u, hus⟩ h1 tk1 F1 N1
          refine cutX (K5 D N n R (mendAll (ds.map stOf) (rnds (ds.map stOf) 3, 0)).1 (decide ((mendAll (ds.map stOf) (rnds (ds.map stOf) 3, 0)).2 = 0))) F1 N1 ?_ ?_
          · clear hss hds
            generalize ds.map stOf = ss at *
            refine genQ (P := fun QQ => wpAny _ _ (exec _ _) QQ _ _) _ ?_
            intro QQ hQQ
            have hxl := rnds_len ss 3
            have hS9 := hSR
            have hoff9 := hoffN
            repeat' (first | ((with_reducible show wpAny _ _ (call (Value.ref 141) _) _ _ _); k_dflt (refine' Spec.useK (c_mended _ _ _ _ S N us n _ hus hxl _ hsb _ hS9 hoff9) k_mended ?k1 ?k2 ?k3 ?k4 ?k5 ?kK ?kd ?ku ?_; (case k1 => k_asm); (case k2 => k_asm); (case k3 => k_asm); (case k4 => k_asm); (case k5 => k_asm); (case kK => first | exact rfl | assumption); (case kd => ktr_room); (case ku => ktr_units); (intro t9 us9 hu9 h9 tk9 F9 N9; (try dsimp only); (try k_sweep); (try k_fold)))) | (k_unfold; (try dsimp only)) | (k_end; kc_close) | walk1 | (dsimp only; walk1) | (leave1; walk_say "STEP leave1"; (try dsimp only)) | fail "no step")
            rename Fr _ _ _ _ => F2
            rename News _ _ _ _ => N2
            rw [← hQQ]
            exact MidX.intro _ F2 N2 (fun p hp => hp) (K5.of hu9 rfl rfl rfl)
          · rintro m1 nx1 ⟨us, u, hus⟩ h1 tk1 F1 N1
            have hDR : DrawsAt ((N, listOf us.toArray n) :: R) D ds := hds.mono fun p hp _ => .tail _ (by rw [eR]; exact .tail _ (.tail _ (.tail _ hp)))
            have hkb : ∀ d ∈ ds, 0 ≤ d.1 ∧ d.1 < 4 ∧ 0 ≤ d.2.1 ∧ d.2.1 < 4 := fun d hd => ⟨(hfit d hd).o.1, (hfit d hd).o.2, (hfit d hd).w.1, (hfit d hd).w.2⟩
            refine cutX (K6 (s₁.heap.objs.size + 1 + 1) (s₁.heap.objs.size + 1) o2' N us n G gs ng (stepsAll ds) (decide ((mendAll (ds.map stOf) (rnds (ds.map stOf) 3, 0)).2 = 0))) F1 N1 ?_ ?_
            · refine genQ (P := fun QQ => wpAny _ _ (exec _ _) QQ _ _) _ ?_
              intro QQ hQQ
              generalize decide ((mendAll (ds.map stOf) (rnds (ds.map stOf) 3, 0)).2 = 0) = kb at *
              repeat' (first | ((with_reducible show wpAny _ _ (call (Value.ref 167) _) _ _ _); k_dflt (refine' Spec.useK (c_steps _ _ _ _ D ds hkb _ hDR) k_steps' ?k1 ?k2 ?k3 ?k4 ?k5 ?kK ?kd ?ku ?_; (case k1 => k_asm); (case k2 => k_asm); (case k3 => k_asm); (case k4 => k_asm); (case k5 => k_asm); (case kK => first | exact rfl | assumption); (case kd => ktr_room); (case ku => ktr_units); (intro T Rs rows k hRl hrows hTo hRo h9 tk9 F9 N9; (try dsimp only); (try k_sweep); (try k_fold)))) | ((with_reducible show wpAny _ _ (storeName _ (Str.ofString "steps") _) _ _ _); refine Hold.out ?_) | (k_unfold; (try dsimp only)) | (k_end; kc_close) | walk1 | (dsimp only; walk1) | (leave1; walk_say "STEP leave1"; (try dsimp only)) | fail "no step")
              unfold Hold
              subst eR
              clear hDR hds hss hSR
              have q := fun p hp => (N9 p (sub6 p hp)).1
              have g1 : G ≠ s₁.heap.objs.size + 1 + 1 := cell_off d1 (q _ (.tail _ (.head _))) (q _ (.head _)) rfl
              have g2 : G ≠ s₁.heap.objs.size + 1 := cell_off hd2 (q _ (.tail _ (.tail _ (.head _)))) (q _ (.head _)) rfl
              have gN := hoffN _ (.tail _ (.tail _ (.head _)))
              have gT := hTo _ (.tail _ (.tail _ (.tail _ (.head _))))
              have gR := fun p hp => hRo _ (rowsL_addr (Rs := Rs) (us := rows) p hp) _ (.tail _ (.tail _ (.tail _ (.head _))))
              k_dflt (refine' storeX_C ?qf9 ?qn9 ?qc9 ?qu9 ?qd9 ?_ ?qk9 ?qx9; (case qf9 => exact F9); (case qn9 => exact fun p hp => N9 p (sub6 p hp)); (case qc9 => exact rfl); (case qu9 => exact .tail g1 (.head fun p hp => by
                rcases List.mem_cons.mp hp with rfl | hp
                · exact Nat.ne_of_lt (Nat.lt_succ_self _)
                · refine cell_off d1 (q _ (.tail _ (.head _))) (q p (.tail _ (.tail _ (.tail _ hp)))) ?_
                  rcases List.mem_cons.mp hp with rfl | hp
                  · rfl
                  · rcases List.mem_cons.mp hp with rfl | hp
                    · rfl
                    · exact rowsL_seq p hp)); (case qd9 => exact d1); (case qk9 => exact rfl); (case qx9 => exact rfl))
              clear q N9 F9
              intro h9 o9 F9 N9 hd9
              show QQ .next _
              rw [← hQQ]
              exact MidX.intro _ F9 N9 (fun p hp => hp) (K6.of hd9 hRl hrows g1 g2 gN gT gR rfl rfl)
            · clear hDR hds hss hSR hoffN eR N1 F1
              rintro m1 nx1 ⟨o1', T, Rs, k, rows, u, hd1, hRl, hrows, hoffG⟩ h1 tk1 F1 N1
              obtain ⟨Z, eZ⟩ : ∃ Z, Z = (N, listOf us.toArray n) :: (T, listOf (Rs.map Value.ref).toArray k) :: rowsL Rs rows := ⟨_, rfl⟩
              unfold besides at N1 hoffG
              rw [← eZ] at N1 hoffG
              refine cutX (K7 (s₁.heap.objs.size + 1) o2' N us n G (stepsAll ds) (decide ((mendAll (ds.map stOf) (rnds (ds.map stOf) 3, 0)).2 = 0))) F1 N1 ?_ ?_
              · refine genQ (P := fun QQ => wpAny _ _ (exec _ _) QQ _ _) _ ?_
                intro QQ hQQ
                generalize stepsAll ds = M at *
                generalize decide ((mendAll (ds.map stOf) (rnds (ds.map stOf) 3, 0)).2 = 0) = kb at *
                repeat' (first | ((with_reducible show wpAny _ _ (exec (Stmt.Assign [Expr.Name _ _] (Expr.ListComp _ _ _ _) _) _) _ _ _); k_dflt (refine LCg.Assign_ListComp_U (F₀ := by k_asm) (by rfl) (by with_unfolding_all rfl) (by with_unfolding_all rfl) (by decide) (by rfl) (by decide) (by rfl) (by rfl) (by rfl) ?_)) | ((with_reducible show LCg.CompSrc _ _ _ _ _ _ _ _ _ _ _ _ _ _); refine Hold.out ?_) | (k_unfold; (try dsimp only)) | (k_end; kc_close) | walk1 | (dsimp only; walk1) | (leave1; walk_say "STEP leave1"; (try dsimp only)) | fail "no step")
                unfold Hold
                rename IsRange _ _ _ _ _ _ _ _ => hR
                (k_dflt (refine LCg.CompSrc.range (n := 4) (by rfl) (by k_asm) (by k_asm) hR (by decide) (by decide) (by decide) ?_))
                intro g'
                refine comp_J (KW M G ((s₁.heap.objs.size + 1 + 1, o1') :: (s₁.heap.objs.size + 1, o2') :: Z)) (.mk gs ng [] [] rfl .nil (fun j t h => by simp at h) hgs) ?_ ?_
                · rintro i ys nx ⟨gs', ng', told, ys, hte, hys, htd, hgs'⟩ v I oI C oC D' m₂ h tk E' hi ⟨t, rfl⟩ hC hx F N off ne
                  rw [Int.zero_add] at hx
                  subst hte
                  clear F1 N1 hR
                  repeat' (first | ((with_reducible show wpAny _ _ (call (Value.ref 174) _) _ _ _); refine Hold.out ?_) | (k_unfold; (try dsimp only)) | (k_end; kc_close) | walk1 | (dsimp only; walk1) | (leave1; walk_say "STEP leave1"; (try dsimp only)) | ((with_reducible show wpAny _ _ (eval (Expr.Name _ _) _) _ _ _); refine nameEq (y := Str.ofString "min") (by decide +kernel) ?_; walk1) | fail "no step")
                  unfold Hold
                  rename_i W9 h9 F9 N9 l9
                  have N8 := fun p hp => N9 p (sub8 p hp)
                  have hoffG9 := offG (oW := listOf [Value.int told.length t].toArray 0) (oI := oI) (oC := oC) (oD := LCg.lst ys) l9.2.2.2.1 off hoffG
                  have hlt4 : ∀ a ∈ [told.length], a < 4 := fun a ha => by rw [List.mem_singleton.mp ha]; exact hi
                  have hTZ : (T, listOf (Rs.map Value.ref).toArray k) ∈ (W9, listOf [Value.int told.length t].toArray 0) :: (I, oI) :: (C, oC) :: (D', LCg.lst ys) :: (s₁.heap.objs.size + 1 + 1, o1') :: (s₁.heap.objs.size + 1, o2') :: Z := .tail _ (.tail _ (.tail _ (.tail _ (.tail _ (.tail _ (by rw [eZ]; exact .tail _ (.head _)))))))
                  have hrZ : ∀ (i : Nat) (R : Addr) (u : List Value), Rs[i]? = some R → rows[i]? = some u → (R, listOf u.toArray 0) ∈ (W9, listOf [Value.int told.length t].toArray 0) :: (I, oI) :: (C, oC) :: (D', LCg.lst ys) :: (s₁.heap.objs.size + 1 + 1, o1') :: (s₁.heap.objs.size + 1, o2') :: Z := fun i R u h1 h2 => .tail _ (.tail _ (.tail _ (.tail _ (.tail _ (.tail _ (by rw [eZ]; exact .tail _ (.tail _ (rowsL_mem h1 h2))))))))
                  have hcap : (ringsF M told.length).length + cR 4 ≤ 5000 := by
                    have := ringsF_len M told.length
                    have : told.length * cR 4 ≤ 3 * cR 4 := Nat.mul_le_mul_right _ (by omega)
                    have : cR 4 = 340 := by decide
                    omega
                  have hpos := ways_pos M told.length
                  clear N9
                  repeat' (first | ((with_reducible show wpAny _ _ (call (Value.ref 174) _) _ _ _); k_dflt (refine' Spec.useK (c_ways _ _ _ _ T Rs rows k M hrows hRl 4 [told.length] W9 _ 0 0 _ G gs' ng' _ _ rfl (List.cons_ne_nil _ _) (List.nodup_cons.mpr ⟨List.not_mem_nil, List.nodup_nil⟩) hlt4 (.cons _ _ .nil) hgs' hTZ hrZ (.head _) hoffG9 hcap) k_ways ?k1 ?k2 ?k3 ?k4 ?k5 ?kK ?kd ?ku ?_; (case k1 => k_asm); (case k2 => k_asm); (case k3 => k_asm); (case k4 => exact N8); (case k5 => k_asm); (case kK => first | exact rfl | assumption); (case kd => ktr_room); (case ku => ktr_units); (intro S vs ns gs9 ng9 hvs hgs9 h9 tk9 F9 N9; (try dsimp only); (try k_sweep); (try k_fold)))) | ((with_reducible show wpAny _ _ (call (Value.builtin "min") [Value.ref _]) _ _ _); k_dflt (refine' min_list_N ?mh9 ?mf9 ?mn9 ?ml9 ?mi9 ?mp9 ?_; (case mh9 => exact rfl); (case mf9 => k_asm); (case mn9 => k_asm); (case ml9 => exact News.isList (by k_asm) (by k_mem)); (case mi9 => assumption); (case mp9 => assumption)); intro h9 M9 t9 tk9 F9 N9 hM9 hL9; (try k_sweep)) | (k_unfold; (try dsimp only)) | (k_end; kc_close) | walk1 | (dsimp only; walk1) | (leave1; walk_say "STEP leave1"; (try dsimp only)) | fail "no step")
                  exact CEnd.intro ((G, listOf gs9.toArray ng9) :: _) F9 N9 sub7 off True.intro (KW.snoc hys htd ⟨hM9, hL9⟩ hgs9)
                · rintro ys nx ⟨gs', ng', told, ys, hte, hys, htd, hgs'⟩
                  intro U h1 tk1 F1 N1 off1
                  rw [← hQQ]
                  rw [eZ] at N1
                  exact MidX.intro _ F1 N1 sub9 (K7.of rfl hte hys htd hgs' rfl rfl rfl)
              · clear hrows hd1 hRl hoffG eZ N1 F1
                rintro m1 nx1 ⟨U, tv, nt, gs, ng, told, u, htl, htv, htd, hgs⟩ h1 tk1 F1 N1
                have hmp : 0 < (ringsF (stepsAll ds) 4).length := by simp [ringsF]
                rcases plain hfit htl htd with ⟨hcase, ekb⟩ | ⟨hcase, ekb, ex⟩
                · rw [ekb] at F1
                  repeat' (first | ((with_reducible show wpAny _ _ (call (Value.builtin "min") [Value.ref _]) _ _ _); k_dflt (refine' min_list_N ?mh9 ?mf9 ?mn9 ?ml9 ?mi9 ?mp9 ?_; (case mh9 => exact rfl); (case mf9 => k_asm); (case mn9 => k_asm); (case ml9 => exact News.isList (by k_asm) (by k_mem)); (case mi9 => assumption); (case mp9 => assumption)); intro h9 M9 t9 tk9 F9 N9 hM9 hL9; (have hq' := hcase M9 hM9 hL9); (try k_sweep)) | ((show @ite Prop _ _ _ _); first | refine ite_pos (decide_eq_true hq') ?_ | refine ite_neg (Bool.eq_false_iff.mp (decide_eq_false hq')) ?_ | refine ite_pos hq' ?_ | refine ite_neg hq' ?_) | (k_unfold; (try dsimp only)) | (k_end; kc_close) | walk1 | (dsimp only; walk1) | (leave1; walk_say "STEP leave1"; (try dsimp only)) | ((with_reducible show wpAny _ _ (eval (Expr.Name _ _) _) _ _ _); refine nameEq (y := Str.ofString "min") (by decide +kernel) ?_; walk1) | fail "no step")
                · rw [ekb] at F1
                  rw [ex] at hus
                  repeat' (first | ((with_reducible show wpAny _ _ (call (Value.builtin "min") [Value.ref _]) _ _ _); k_dflt (refine' min_list_N ?mh9 ?mf9 ?mn9 ?ml9 ?mi9 ?mp9 ?_; (case mh9 => exact rfl); (case mf9 => k_asm); (case mn9 => k_asm); (case ml9 => exact News.isList (by k_asm) (by k_mem)); (case mi9 => assumption); (case mp9 => assumption)); intro h9 M9 t9 tk9 F9 N9 hM9 hL9; (have hq' := hcase M9 hM9 hL9); (try k_sweep)) | ((show @ite Prop _ _ _ _); first | refine ite_pos (decide_eq_true hq') ?_ | refine ite_neg (Bool.eq_false_iff.mp (decide_eq_false hq')) ?_ | refine ite_pos hq' ?_ | refine ite_neg hq' ?_) | (k_unfold; (try dsimp only)) | (k_end; kc_close) | walk1 | (dsimp only; walk1) | (leave1; walk_say "STEP leave1"; (try dsimp only)) | ((with_reducible show wpAny _ _ (eval (Expr.Name _ _) _) _ _ _); refine nameEq (y := Str.ofString "min") (by decide +kernel) ?_; walk1) | fail "no step")
end Mine
end
theorem PySem.Challenge.cw_pg0155_01_holds : PySem.Challenge.rw_pg0155_01.Holds := by
  rw [← Mine.rw2_eq]; exact Mine.hh
