import PyProof.Rows.All
import Wide.All
import OpenK.AllK
import Wide.FinOn
import PySem.Challenge.RW_mr0178_01
open PySem PySem.W PyProof.Rows
set_option Elab.async false
set_option rowWalk.seconds 0

-- part MrTop
section
open PySem PySem.W PyProof.Rows
namespace Mine
set_option maxRecDepth 100000
set_option maxHeartbeats 8000000
open_top hd for PySem.Challenge.rw_mr0178_01
end Mine
end

-- part W0
section
open PySem PySem.W PyProof.Rows PySem.Calls
set_option maxRecDepth 100000
namespace Mine

def Grow (h h' : Heap) : Prop := ∀ b o, h.get? b = some o → h'.get? b = some o
theorem Grow.refl (h : Heap) : Grow h h := fun _ _ e => e
theorem Grow.trans {a b c : Heap} (x : Grow a b) (y : Grow b c) : Grow a c := fun p o e => y p o (x p o e)

/-- a goal that the walk leaves alone -/
def Hold (p : Prop) : Prop := p
theorem Hold.mk {p : Prop} (h : Hold p) : p := h
theorem Hold.of {p : Prop} (h : p) : Hold p := h

/-- a call of a def of the text's: the caller's heap as it stands is the ground -/
theorem enter_raw {w : World} {A : Around} {s : Shared} {K : Frag} {R : Result → Shared → Prop} {name qual : Str} {params : Arguments} {body : List Stmt} {scope : Scope} {dV kV doc pm cdv ct oc : Value} {an od : Option Addr}
    {osl : Array (Option Value)} {f : Addr} {args : Args} {binds : List (Str × Value)}
    (X : K.In s.heap) (hlim : s.heap.NoLimit) (ho : K.lookup f = some ⟨oc, od, .func (fnOf name qual params body scope dV kV doc pm an cdv ct), osl⟩) (hcd : codeIn K cdv qual = true) (hroom : A.depth < recursionLimit)
    (hbind : BindsTo s (fnOf name qual params body scope dV kV doc pm an cdv ct) args binds) (hloc : ∀ y ∈ binds, scope.names.lookup y.1 = some .local)
    (h : ∀ L' h₁, Fr s.heap L' h₁ (fun y => binds.reverse.lookup y) →
      wpAny (model PySem.Challenge.rw_mr0178_01.row.prog w) (A.deeper (envOf qual scope L' f cdv)) (execs body (envOf qual scope L' f cdv))
        (fun fl s' => R (.ok (.ret (match fl with | .ret v => v | _ => .none))) s') (fun _ _ => False)
        { s with heap := h₁, toks := s.toks + binds.length })
    (hco : scope.isCoroutine = false) (hgen : scope.isGenerator = false) (hk : scope.kind = .function)
    (hcell : ∀ x ∈ scope.names, x.2 ≠ .cell) : codeAny (model PySem.Challenge.rw_mr0178_01.row.prog w) A (.call (.ref f) args) R s := by
  refine codeAny_call_def (fd := fnOf name qual params body scope dV kV doc pm an cdv ct) (body := body) (binds := binds) hroom (X _ _ ho) rfl hlim (codeRec_of X hcd) rfl hbind hcell hloc (fun h₁ hns hk₁ => ?_) hco hgen hk
  exact wpAny_mono (h s.heap.objs.size h₁ ⟨hns, hk₁, Nat.le_refl _⟩) (fun fl s' hl => hl) fun _ _ y => y.elim

section
variable {prog : Program} {w : World} {A : Around} {E : Value → Shared → Prop} {s : Shared} {env : Env} {h₀ : Heap} {x : Str} {body : List Stmt} {Q : Flow → Shared → Prop}
/-- a loop over a list that stands (of the call's own or elder) and that the turns leave as it is -/
theorem iter_list {l : Addr} {vs : List Value} {m₀ : Str → Option Value} {news : List (Addr × Obj)} (J : Nat → (Str → Option Value) → List (Addr × Obj) → Prop)
    (hh : A.handled = none) (hl : s.heap.IsList l vs.toArray) (hlL : l ≠ env.locals) (hln : ∀ q ∈ news, q.1 ≠ l) (F : Fr h₀ env.locals s.heap m₀) (N : News h₀ env.locals s.heap news) (hj : J 0 m₀ news)
    (turn : ∀ i v m₁ news₁ h tk own, vs[i]? = some v → news₁.map (·.1) = news.map (·.1) → OwnOff own (news.map (·.1)) → J i m₁ news₁ → Fr h₀ env.locals h (fun y => if y = x then some v else m₁ y) → News h₀ env.locals h (news₁ ++ own) →
      wpAny (model prog w) A (execs body env) (InvPostN h₀ env.locals (J (i + 1)) own (news.map (·.1)) { s with heap := h, toks := tk } Q) E { s with heap := h, toks := tk })
    (done : ∀ m₁ news₁ h tk, J vs.length m₁ news₁ → Fr h₀ env.locals h m₁ → News h₀ env.locals h news₁ → Q .next { s with heap := h, toks := tk }) :
    wpAny (model prog w) A (pyIter (.ref l)) (fun it s₂ => LoopAtV prog w A h₀ env x body Q E it s₂) E s := by
  obtain ⟨ol, hol, _⟩ := id hl
  have hlt : l < s.heap.objs.size := Heap.lt_size hol
  refine wpAny_pyIter_list hl ?_
  refine loop_invN (s := { s with heap := s.heap.push _ }) J (Walks.list hh s.heap.objs.size l (Nat.ne_of_lt hlt) vs.toArray) ?_ ?_ ?_ ?_ ⟨⟨_, Heap.get?_push_size _ rfl, rfl, rfl⟩, hl.push _⟩ (F.push _) (fun p hp => ⟨Heap.get?_push_of_some _ (N p hp).1, (N p hp).2⟩) hj ?_ ?_
  · intro hm
    rcases List.mem_cons.mp hm with e | hm
    · exact absurd F.ns.lt (e ▸ Nat.lt_irrefl _)
    · exact hlL (List.mem_singleton.mp hm).symm
  · intro b hb
    rw [List.mem_singleton.mp hb]
    exact next_is_new F
  · intro p hp hI
    exact absurd (Heap.lt_size (N p hp).1) ((List.mem_singleton.mp hI) ▸ Nat.lt_irrefl _)
  · intro p hp hI
    rcases List.mem_cons.mp hI with e | hm
    · exact absurd (Heap.lt_size (N p hp).1) (e ▸ Nat.lt_irrefl _)
    · exact hln p hp (List.mem_singleton.mp hm)
  · intro i v m₁ news₁ h tk own hi hP
    exact turn i v m₁ news₁ h tk own (by simpa using hP)
  · intro m₁ news₁ h tk hJ
    exact done m₁ news₁ h tk (by simpa using hJ)
/-- a loop over a text's signs -/
theorem iter_str {y : Str} {t : Tok} {m₀ : Str → Option Value} {news : List (Addr × Obj)} (J : Nat → (Str → Option Value) → List (Addr × Obj) → Prop)
    (hh : A.handled = none) (F : Fr h₀ env.locals s.heap m₀) (N : News h₀ env.locals s.heap news) (hj : J 0 m₀ news)
    (turn : ∀ i c u m₁ news₁ h tk own, y.cps[i]? = some c → news₁.map (·.1) = news.map (·.1) → OwnOff own (news.map (·.1)) → J i m₁ news₁ → Fr h₀ env.locals h (fun y => if y = x then some (.str ⟨#[c]⟩ u) else m₁ y) → News h₀ env.locals h (news₁ ++ own) →
      wpAny (model prog w) A (execs body env) (InvPostN h₀ env.locals (J (i + 1)) own (news.map (·.1)) { s with heap := h, toks := tk } Q) E { s with heap := h, toks := tk })
    (done : ∀ m₁ news₁ h tk, J y.cps.size m₁ news₁ → Fr h₀ env.locals h m₁ → News h₀ env.locals h news₁ → Q .next { s with heap := h, toks := tk }) :
    wpAny (model prog w) A (pyIter (.str y t)) (fun it s₂ => LoopAtV prog w A h₀ env x body Q E it s₂) E s := by
  refine wpAny_pyIter_str fun o St W hst => ?_
  refine loop_invN (s := { s with heap := s.heap.push o }) J (W A hh) ?_ ?_ ?_ ?_ hst (F.push _) (fun p hp => ⟨Heap.get?_push_of_some _ (N p hp).1, (N p hp).2⟩) hj ?_ ?_
  · intro hm
    exact absurd F.ns.lt ((List.mem_singleton.mp hm) ▸ Nat.lt_irrefl _)
  · intro b hb
    rw [List.mem_singleton.mp hb]
    exact next_is_new F
  · intro p hp hI
    exact absurd (Heap.lt_size (N p hp).1) ((List.mem_singleton.mp hI) ▸ Nat.lt_irrefl _)
  · intro p hp hI
    exact absurd (Heap.lt_size (N p hp).1) ((List.mem_singleton.mp hI) ▸ Nat.lt_irrefl _)
  · rintro i v m₁ news₁ h tk own hi ⟨c, u, hc, rfl⟩
    exact turn i c u m₁ news₁ h tk own hc
  · exact done
end

/-- the table of operators as the head's heap bears it: text, number, the two marks -/
def tabS : List (Str × Int × Tok × Tok) := [
  (Str.ofString "!", 54, 308, 304),
  (Str.ofString "!=", 28, 310, 252),
  (Str.ofString "%", 24, 312, 244),
  (Str.ofString "%=", 40, 314, 276),
  (Str.ofString "&", 19, 316, 234),
  (Str.ofString "&=", 41, 318, 278),
  (Str.ofString "(", 7, 320, 210),
  (Str.ofString ")", 8, 322, 212),
  (Str.ofString "*", 16, 324, 228),
  (Str.ofString "**", 35, 326, 266),
  (Str.ofString "**=", 46, 328, 288),
  (Str.ofString "*=", 38, 330, 272),
  (Str.ofString "+", 14, 332, 224),
  (Str.ofString "+=", 36, 334, 268),
  (Str.ofString ",", 12, 336, 220),
  (Str.ofString "-", 15, 338, 226),
  (Str.ofString "-=", 37, 340, 270),
  (Str.ofString "->", 51, 342, 298),
  (Str.ofString ".", 23, 344, 242),
  (Str.ofString "...", 52, 346, 300),
  (Str.ofString "/", 17, 348, 230),
  (Str.ofString "//", 47, 350, 290),
  (Str.ofString "//=", 48, 352, 292),
  (Str.ofString "/=", 39, 354, 274),
  (Str.ofString ":", 11, 356, 218),
  (Str.ofString ":=", 53, 358, 302),
  (Str.ofString ";", 13, 360, 222),
  (Str.ofString "<", 20, 362, 236),
  (Str.ofString "<<", 33, 364, 262),
  (Str.ofString "<<=", 44, 366, 284),
  (Str.ofString "<=", 29, 368, 254),
  (Str.ofString "=", 22, 370, 240),
  (Str.ofString "==", 27, 372, 250),
  (Str.ofString ">", 21, 374, 238),
  (Str.ofString ">=", 30, 376, 256),
  (Str.ofString ">>", 34, 377, 264),
  (Str.ofString ">>=", 45, 378, 286),
  (Str.ofString "@", 49, 379, 294),
  (Str.ofString "@=", 50, 380, 296),
  (Str.ofString "[", 9, 381, 214),
  (Str.ofString "]", 10, 382, 216),
  (Str.ofString "^", 32, 383, 260),
  (Str.ofString "^=", 43, 384, 282),
  (Str.ofString "{", 25, 385, 246),
  (Str.ofString "|", 18, 386, 232),
  (Str.ofString "|=", 42, 387, 280),
  (Str.ofString "}", 26, 388, 248),
  (Str.ofString "~", 31, 389, 258)]
/-- the same over code points -/
def ops : List (List Nat × Nat) := [
  ([33], 54),
  ([33, 61], 28),
  ([37], 24),
  ([37, 61], 40),
  ([38], 19),
  ([38, 61], 41),
  ([40], 7),
  ([41], 8),
  ([42], 16),
  ([42, 42], 35),
  ([42, 42, 61], 46),
  ([42, 61], 38),
  ([43], 14),
  ([43, 61], 36),
  ([44], 12),
  ([45], 15),
  ([45, 61], 37),
  ([45, 62], 51),
  ([46], 23),
  ([46, 46, 46], 52),
  ([47], 17),
  ([47, 47], 47),
  ([47, 47, 61], 48),
  ([47, 61], 39),
  ([58], 11),
  ([58, 61], 53),
  ([59], 13),
  ([60], 20),
  ([60, 60], 33),
  ([60, 60, 61], 44),
  ([60, 61], 29),
  ([61], 22),
  ([61, 61], 27),
  ([62], 21),
  ([62, 61], 30),
  ([62, 62], 34),
  ([62, 62, 61], 45),
  ([64], 49),
  ([64, 61], 50),
  ([91], 9),
  ([93], 10),
  ([94], 32),
  ([94, 61], 43),
  ([123], 25),
  ([124], 18),
  ([124, 61], 42),
  ([125], 26),
  ([126], 31)]
theorem tabS_ops : tabS.map (fun e => (e.1.cps.toList, e.2.1)) = ops.map (fun e => (e.1, (e.2 : Int))) := by decide +kernel
def tabEntry (P : Params) (e : Str × Int × Tok × Tok) : DictEntry := ⟨PyData.keyHash P e.1, .str e.1 e.2.2.1, .int e.2.1 e.2.2.2⟩
theorem tab_lookup (P : Params) : (Mine.hd.heap_39 P).lookup 29 = some ⟨.type "dict", none, .dict (tabS.map (tabEntry P)).toArray 48, #[]⟩ := by rfl
end Mine
end

-- part W1
section
open PySem PySem.W PyProof.Rows PySem.Calls
set_option maxRecDepth 100000
namespace Mine
theorem find_tab (P : Params) (x : Str) : ∀ l : List (Str × Int × Tok × Tok), (l.map (tabEntry P)).find? (·.key.isStr x) = (l.find? fun e => e.1 == x).map (tabEntry P)
  | [] => rfl
  | e :: r => by
    rw [List.map_cons, List.find?_cons, List.find?_cons, find_tab P x r]
    show (match (e.1 == x) with | true => _ | false => _) = _
    cases e.1 == x <;> rfl
theorem no_ref (P : Params) : ∀ l : List (Str × Int × Tok × Tok), (l.map (tabEntry P)).any (·.refKey) = false
  | [] => rfl
  | e :: r => by rw [List.map_cons, List.any_cons, no_ref P r]; rfl
theorem nsIn_tab (P : Params) (x : Str) : nsIn (Mine.hd.heap_39 P) 29 x = some ((tabS.find? fun e => e.1 == x).map fun e => .int e.2.1 e.2.2.2) := by
  unfold nsIn
  rw [tab_lookup]
  dsimp only
  rw [find_tab, no_ref]
  cases tabS.find? fun e => e.1 == x <;> rfl
theorem str_beq (a b : Str) : (a == b) = (a.cps.toList == b.cps.toList) := by
  rw [Bool.eq_iff_iff, beq_iff_eq, beq_iff_eq]
  constructor
  · rintro rfl; rfl
  · intro h
    obtain ⟨⟨a⟩⟩ := a
    obtain ⟨⟨b⟩⟩ := b
    simp only at h
    rw [h]
theorem find_ops (x : Str) : ∀ (l : List (Str × Int × Tok × Tok)) (o : List (List Nat × Nat)), l.map (fun e => (e.1.cps.toList, e.2.1)) = o.map (fun e => (e.1, (e.2 : Int))) →
    (l.find? fun e => e.1 == x).map (·.2.1) = (o.lookup x.cps.toList).map fun n => (n : Int)
  | [], [], _ => rfl
  | [], _ :: _, h => by simp at h
  | _ :: _, [], h => by simp at h
  | e :: r, q :: o, h => by
    simp only [List.map_cons, List.cons.injEq, Prod.mk.injEq] at h
    obtain ⟨⟨h1, h2⟩, h3⟩ := h
    have ih := find_ops x r o h3
    obtain ⟨qk, qv⟩ := q
    rw [List.find?_cons, List.lookup_cons, str_beq, h1]
    have e2 : (x.cps.toList == qk) = (qk == x.cps.toList) := by
      rw [Bool.eq_iff_iff, beq_iff_eq, beq_iff_eq]; exact eq_comm
    rw [e2]
    cases hq : qk == x.cps.toList
    · exact ih
    · simp [h2]
/-- the number that the table has for a text -/
def num (x : List Nat) : Option Nat := ops.lookup x
theorem look_some {P : Params} {x : Str} {n : Nat} (h : num x.cps.toList = some n) : ∃ t, nsIn (Mine.hd.heap_39 P) 29 x = some (some (.int n t)) := by
  have e := find_ops x tabS ops tabS_ops
  unfold num at h
  rw [h] at e
  rw [nsIn_tab]
  cases q : tabS.find? fun e => e.1 == x with
  | none => rw [q] at e; cases e
  | some v => rw [q] at e; exact ⟨v.2.2.2, by simp at e; simp [e]⟩
theorem look_none {P : Params} {x : Str} (h : num x.cps.toList = none) : nsIn (Mine.hd.heap_39 P) 29 x = some none := by
  have e := find_ops x tabS ops tabS_ops
  unfold num at h
  rw [h] at e
  rw [nsIn_tab]
  cases q : tabS.find? fun e => e.1 == x with
  | none => rfl
  | some v => rw [q] at e; cases e
theorem look_any {P : Params} (x : Str) : ∃ r, nsIn (Mine.hd.heap_39 P) 29 x = some r ∧ r.isSome = (num x.cps.toList).isSome := by
  cases h : num x.cps.toList with
  | none => exact ⟨_, look_none h, rfl⟩
  | some n => obtain ⟨t, e⟩ := look_some (P := P) h; exact ⟨_, e, rfl⟩
theorem keysLit (P : Params) : ∀ l : List (Str × Int × Tok × Tok), KeysLit P (l.map (tabEntry P))
  | [] => trivial
  | e :: r => ⟨⟨e.1, e.2.2.1, rfl, rfl⟩, keysLit P r⟩
section
variable {prog : Program} {w : World} {A : Around} {E : Value → Shared → Prop} {s : Shared} {h₀ : Heap} {L : Addr} {m : Str → Option Value} {x : Str} {t : Tok}
theorem tab_item {value slice : Expr} {n : Nat} {Q : Value → Shared → Prop} (F : Fr h₀ L s.heap m) (X : (Mine.hd.heap_39 w.params).In h₀) (hx : num x.cps.toList = some n) (h : ∀ u, Q (.int n u) { s with toks := s.toks + 1 })
    (hs : subscripted slice false (.ref 29) (.str x t) = operate [.ref 29, .str x t] (getItem (.ref 29) (.str x t)) := by with_unfolding_all rfl) :
    wpAny (model prog w) A (subscriptTail value slice (.ref 29) (.str x t)) Q E s := by
  obtain ⟨u, e⟩ := look_some (P := w.params) hx
  exact topItem_K F X (tab_lookup _) (by exact keysLit _ _) e (h u) hs
theorem tab_in {Q : Value → Shared → Prop} (F : Fr h₀ L s.heap m) (X : (Mine.hd.heap_39 w.params).In h₀) (h : Q (.bool (num x.cps.toList).isSome) { s with toks := s.toks + 1 }) :
    wpAny (model prog w) A (compareOp .In (.str x t) (.ref 29)) Q E s := by
  obtain ⟨r, e, hr⟩ := look_any (P := w.params) x
  exact topIn_K F X (tab_lookup _) (by exact keysLit _ _) e (by decide) (by rw [hr]; exact h)
end
end Mine
end

-- part W2
section
open PySem PySem.W PyProof.Rows PySem.Calls
set_option maxRecDepth 100000
set_option maxHeartbeats 4000000
set_option linter.unusedVariables false
namespace Mine
theorem fix1 {m : Str → Option Value} {a : Str} {v : Value} (h : m a = some v) : m = fun y => if y = a then some v else m y := by
  funext y
  by_cases e : y = a
  · rw [if_pos e, e, h]
  · rw [if_neg e]
theorem strAt {l₀ : List (Str × Tok)} {i : Nat} {v : Value} (h : (strValues l₀)[i]? = some v) : ∃ q, l₀[i]? = some q ∧ v = .str q.1 q.2 := by
  unfold strValues at h
  rw [List.getElem?_map] at h
  cases e : l₀[i]? with
  | none => rw [e] at h; cases h
  | some q => rw [e] at h; cases h; exact ⟨q, rfl, rfl⟩
theorem lookup_mem {α β : Type} [BEq α] [LawfulBEq α] {x : α} {k : β} : ∀ {l : List (α × β)}, l.lookup x = some k → (x, k) ∈ l
  | [], h => by cases h
  | (a, b) :: r, h => by
    rw [List.lookup_cons] at h
    by_cases e : (x == a) = true
    · rw [e] at h
      cases h
      rw [beq_iff_eq.mp e]
      exact List.mem_cons_self
    · rw [Bool.not_eq_true] at e
      rw [e] at h
      exact List.mem_cons_of_mem _ (lookup_mem h)
theorem num_bound {x : List Nat} {k : Nat} (h : num x = some k) : 7 ≤ k ∧ k ≤ 54 := by
  have a : ∀ e ∈ ops, 7 ≤ e.2 ∧ e.2 ≤ 54 := by decide
  exact a _ (lookup_mem h)
def codeS (x : List Nat) : Str := ⟨#[256 + (num x).getD 0]⟩
def pairsOf (xs : List Str) : List Str := xs.flatMap fun x => [x, codeS x.cps.toList]
theorem pairsOf_length : ∀ xs : List Str, (pairsOf xs).length = 2 * xs.length
  | [] => rfl
  | x :: r => by
    show ([x, codeS x.cps.toList] ++ pairsOf r).length = _
    rw [List.length_append, pairsOf_length r]
    simp only [List.length_cons, List.length_nil]
    omega
theorem pairsOf_append (xs ys : List Str) : pairsOf (xs ++ ys) = pairsOf xs ++ pairsOf ys := by
  unfold pairsOf
  rw [List.flatMap_append]
theorem pairs_tells {w : World} {A : Around} {s : Shared} {p : Program} {loose : List Str} {mean : ExcName → Option Value} {mg mb : Str → Option Value} {l : Addr} {l₀ : List (Str × Tok)} {Q E : Value → Shared → Prop}
    (X : (Mine.hd.heap_39 w.params).In s.heap) (T : Top p loose mean mg mb s.heap) (hd : A.depth + 10 < recursionLimit) (hu : A.units + 40 < cLine) (hh : A.handled = none)
    (hl : s.heap.IsList l (strValues l₀).toArray) (hn : ∀ x ∈ l₀.map (·.1), (num x.cps.toList).isSome = true) (hsz : l₀.length ≤ 1000)
    (hQ : ∀ D n h' tk l₁, Grow s.heap h' → h'.get? D = some (W.listOf (strValues l₁).toArray n) → s.heap.get? D = none → l₁.map (·.1) = pairsOf (l₀.map (·.1)) → Q (.ref D) { s with heap := h', toks := tk }) :
    wpAny (model PySem.Challenge.rw_mr0178_01.row.prog w) A (call (.ref 45) [.ref l]) Q E s := by
  w_top off; revert X; k_fill; intro X
  refine wpAny_call ?_
  (k_dflt (refine' enter_raw X T.nolimit ?k6 ?k7 ?k8 ?k9 ?kB ?_ ?c2 ?c3 ?c4 ?c5; (case k6 => k_is); (case k7 => k_is); (case k8 => omega); (case k9 => exact BindsTo.of_eq rfl); (case c5 => decide); (case kB => exact locs rfl); (case c2 => exact rfl); (case c3 => exact rfl); (case c4 => exact rfl); k_whole))
  intro L' h₁ F
  have N : News s.heap L' h₁ [] := News.nil
  (try dsimp only)
  (try k_fold)
  k_steps
  rename_i D _ _ h3 F3 N3
  refine For_invV s.heap (by rfl) (by rfl) ?_
  k_steps
  refine iter_list (news := _) (fun i m nx => m (Str.ofString "pairs") = some (.ref D) ∧ ∃ l₁ n, nx = [(D, W.listOf (strValues l₁).toArray n)] ∧ l₁.map (·.1) = pairsOf ((l₀.take i).map (·.1))) (by exact hh) (hl.at fun o e => F3.keep _ o e) ?_ ?_ F3 N3 ⟨rfl, [], 0, rfl, rfl⟩ ?_ ?_
  · intro e
    obtain ⟨o, ho, _⟩ := hl
    exact absurd (Nat.lt_of_lt_of_le (Heap.lt_size ho) F3.above) (e ▸ Nat.lt_irrefl _)
  · intro q hq e
    obtain ⟨o, ho, _⟩ := hl
    have z := (N3 q hq).2.2
    rw [e, ho] at z
    cases z
  · rintro i v m₁ news₁ h tk₁ own hv hadr hoff ⟨hp, l₁, n, rfl, hl₁⟩ F4 N4
    obtain ⟨q, hq, rfl⟩ := strAt hv
    obtain ⟨k, hk⟩ : ∃ k, num q.1.cps.toList = some k := Option.isSome_iff_exists.mp (hn _ (List.mem_map_of_mem (List.mem_of_getElem? hq)))
    have hkb := num_bound hk
    rw [fix1 hp] at F4
    change Fr s.heap L' h _ at F4
    change News s.heap L' h _ at N4
    simp only [List.cons_append, List.nil_append] at N4
    simp only [List.map_cons, List.map_nil] at hoff
    clear F3 N3
    k_steps
    refine tab_item F4 X hk ?_
    intro u
    (try dsimp only)
    k_steps
    rename_i b h5 F5 N5 lt5
    refine extend_in (own := [(b, _)]) F5 N5 ?_ (OwnOff.ne hoff List.mem_cons_self) ((N5 _ List.mem_cons_self).1) ?_ ?_
    · intro p hp'
      rw [List.mem_singleton.mp hp']
      exact Nat.ne_of_gt lt5.1
    · intro h6 n6 F6 N6
      (try dsimp only)
      k_steps
      refine InvEndN.intro F6 N6 (nx := [(D, W.listOf (strValues l₁ ++ [Value.str q.1 q.2, Value.str ⟨#[(256 + (k : Int)).toNat]⟩ (tk₁ + 1 + 1 + 1)]).toArray n6)]) ⟨rfl, l₁ ++ [(q.1, q.2), (codeS q.1.cps.toList, tk₁ + 1 + 1 + 1)], n6, ?_, ?_⟩ rfl ?_ ?_
      rotate_left 2
      · intro p hp'
        rw [List.mem_singleton.mp hp']
        exact List.mem_append_right _ List.mem_cons_self
      · intro p hp'
        exact List.mem_append_right _ (List.mem_cons_of_mem _ hp')
      · have e : codeS q.1.cps.toList = ⟨#[(256 + (k : Int)).toNat]⟩ := by
          unfold codeS
          rw [hk]
          show (⟨#[256 + k]⟩ : Str) = _
          congr 2
        rw [e]
        simp only [strValues, List.map_append, List.map_cons, List.map_nil]
      · rw [List.map_append, hl₁, List.take_add_one, hq, List.map_append, pairsOf_append]
        rfl
    · have e1 := congrArg List.length hl₁
      have e2 : i < l₀.length := (List.getElem?_eq_some_iff.mp hq).1
      simp only [List.length_map, pairsOf_length, List.length_take] at e1
      rw [sizeLine_eq]
      simp only [strValues, List.length_map, e1]
      show _ + 2 ≤ _
      omega
  · rintro m₁ news₁ h tk₁ ⟨hp, l₁, n, rfl, hl₁⟩ F4 N4
    rw [fix1 hp] at F4
    change Fr s.heap L' h _ at F4
    change News s.heap L' h _ at N4
    clear F3 N3
    dsimp only
    k_steps
    refine hQ D n _ _ l₁ F4.keep (N4 _ List.mem_cons_self).1 (N4 _ List.mem_cons_self).2.2 ?_
    rw [hl₁]
    simp [strValues]
end Mine
end

-- part W3
section
open PySem PySem.W PyProof.Rows PySem.Calls PySem.Builtin PySem.Builtin.Str
set_option maxRecDepth 100000
set_option linter.unusedVariables false
namespace Mine
theorem fr_bind1 {h h' : Heap} {L : Addr} {a : PySem.Str} {v : Value} (F : Fr h L h' (fun y => [(a, v)].reverse.lookup y)) : Fr h L h' (fun y => if y = a then some v else none) := by
  have e : (fun y => [(a, v)].reverse.lookup y) = fun y => if y = a then some v else none := by
    funext y
    show (match y == a with | true => some v | false => none) = _
    by_cases q : y = a
    · rw [if_pos q, beq_iff_eq.mpr q]
    · rw [if_neg q, beq_eq_false_iff_ne.mpr q]
  rw [e] at F
  exact F
theorem fr_bind2 {h h' : Heap} {L : Addr} {a b : PySem.Str} {v u : Value} (F : Fr h L h' (fun y => [(a, v), (b, u)].reverse.lookup y)) : Fr h L h' (fun y => if y = b then some u else if y = a then some v else none) := by
  have e : (fun y => [(a, v), (b, u)].reverse.lookup y) = fun y => if y = b then some u else if y = a then some v else none := by
    funext y
    show (match y == b with | true => some u | false => (match y == a with | true => some v | false => none)) = _
    by_cases q : y = b
    · rw [if_pos q, beq_iff_eq.mpr q]
    · rw [if_neg q, beq_eq_false_iff_ne.mpr q]
      by_cases q : y = a
      · rw [if_pos q, beq_iff_eq.mpr q]
      · rw [if_neg q, beq_eq_false_iff_ne.mpr q]
  rw [e] at F
  exact F
/-- the text of a list of code points -/
def S (l : List Nat) : PySem.Str := ⟨l.toArray⟩
theorem S_cps (l : List Nat) : (S l).cps.toList = l := rfl
theorem S_length (l : List Nat) : (S l).length = l.length := by show l.toArray.size = _; simp
theorem S_of (x : PySem.Str) : x = S x.cps.toList := rfl
theorem S_append (a b : List Nat) : S a ++ S b = S (a ++ b) := by
  show (⟨a.toArray ++ b.toArray⟩ : PySem.Str) = ⟨(a ++ b).toArray⟩
  rw [List.append_toArray]
theorem S_inj {a b : List Nat} (h : S a = S b) : a = b := by
  have := congrArg (fun x : PySem.Str => x.cps.toList) h
  exact this
section
variable {prog : Program} {w : World} {A : Around} {E : Value → Shared → Prop} {s : Shared} {t u : Tok} {Q : Value → Shared → Prop}
theorem s_item0 {value slice : Expr} {l r : List Nat} {c : Nat} (hl : l = c :: r) (hn : l.length ≤ 100000) (h : ∀ t', Q (.str (S [c]) t') { s with toks := s.toks + 1 })
    (hs : subscripted slice false (.str (S l) t) (.int 0 u) = operate [.str (S l) t, .int 0 u] (getItem (.str (S l) t) (.int 0 u)) := by with_unfolding_all rfl)
    (ht : ∀ r, letTemporaryGo value (.str (S l) t) r = pure () := by intro _; with_unfolding_all rfl) :
    wpAny (model prog w) A (subscriptTail value slice (.str (S l) t) (.int 0 u)) Q E s := by
  subst hl
  have e : Txt.item (S (c :: r)) 0 = S [c] := by
    unfold Txt.item Txt.charAt
    have e1 : seqIndex? 0 (S (c :: r)).length = some 0 := by
      rw [S_length]
      unfold seqIndex?
      simp
      try omega
    rw [e1]
    rfl
  refine item_str (fitsSsize_of (N := 9223372036854775808) (by omega) (by omega) (Int.le_refl _)) (by rw [S_length]; simp only [List.length_cons]; omega) (by rw [S_length]; simp only [List.length_cons]; omega) ?_ hs ht
  intro _
  rw [e]
  exact h _
theorem flat_foldl (l : List Nat) : ∀ (n : Nat) (acc : Array Nat), (List.replicate n l.toArray).foldl (· ++ ·) acc = acc ++ ((List.replicate n l).flatten).toArray
  | 0, acc => by simp
  | n + 1, acc => by
    rw [List.replicate_succ, List.foldl_cons, flat_foldl l n, List.replicate_succ, List.flatten_cons, ← List.append_toArray, Array.append_assoc]
theorem mul_S {l : List Nat} {n : Nat} : Txt.mul (S l) n = S (List.replicate n l).flatten := by
  unfold Txt.mul
  by_cases h1 : (n : Int) < 1
  · rw [if_pos h1]
    have : n = 0 := by omega
    subst this
    rfl
  · rw [if_neg h1]
    by_cases h2 : ((n : Int) == 1 || (S l).length == 0) = true
    · rw [if_pos h2]
      rcases Bool.or_eq_true_iff.mp h2 with q | q
      · have : n = 1 := by have := beq_iff_eq.mp q; omega
        subst this
        simp
      · have : l = [] := by
          have := beq_iff_eq.mp q
          rw [S_length] at this
          exact List.eq_nil_of_length_eq_zero this
        subst this
        simp
    · rw [if_neg h2]
      show (⟨(List.replicate (n : Int).toNat l.toArray).foldl (· ++ ·) #[]⟩ : PySem.Str) = _
      rw [flat_foldl]
      simp [S]
theorem s_mul {l : List Nat} {n : Nat} (hl : l.length ≤ 1000) (hn : n ≤ 1000) (h : ∀ t' k, Q (.str (S (List.replicate n l).flatten) t') { s with toks := k }) :
    wpAny (model prog w) A (binaryOp .Mult (.str (S l) t) (.int n u)) Q E s := by
  refine SB.mul ?_ (by rw [mul_S]; exact h)
  refine ⟨by simp; omega, fun h1 _ => ?_, fun h1 _ => ?_⟩
  · rw [S_length]
    have h3 : (1000 : Int) ≤ (2 ^ 63 - 1) / n := by
      rw [Int.le_ediv_iff_mul_le (by omega)]
      omega
    omega
  · rw [S_length]
    have : l.length * (n : Int).toNat ≤ 1000 * 1000 := by
      rw [Int.toNat_natCast]
      exact Nat.mul_le_mul hl hn
    unfold tooLong
    have e := sizeLine_eq
    simp only [decide_eq_false_iff_not]
    omega
theorem s_eq {a b : List Nat} (h : Q (.bool (a == b)) s) : wpAny (model prog w) A (compareOp .Eq (.str (S a) t) (.str (S b) u)) Q E s :=
  PyProof.Rows.eq_str (by rw [str_beq]; exact h)
theorem s_in {c : Nat} {b : List Nat} (h : Q (.bool (decide (c ∈ b))) s) : wpAny (model prog w) A (compareOp .In (.str (S [c]) t) (.str (S b) u)) Q E s := by
  refine PyProof.Rows.in_str ?_
  rw [show (!(occurrences (S b) (S [c]) 0 (S b).length 1).isEmpty) = _ from StrLaws.found_one (S b) c]
  exact h
theorem s_add {a b : List Nat} (hn : a.length + b.length ≤ 1000000) (h : ∀ t' k, Q (.str (S (a ++ b)) t') { s with toks := k }) : wpAny (model prog w) A (binaryOp .Add (.str (S a) t) (.str (S b) u)) Q E s := by
  refine SB.add (by rw [S_append]; exact h) ?_
  rw [S_length, S_length, sizeLine_eq]
  omega
theorem s_len {a : List Nat} (hn : a.length ≤ 1000000) (h : ∀ t', Q (.int a.length t') { s with toks := s.toks + 1 + 1 }) : wpAny (model prog w) A (call (.builtin "len") [.str (S a) t]) Q E s := by
  refine PyProof.Rows.len_str ?_ ?_
  · rw [S_length]; omega
  · rw [S_length]; exact h _
end
end Mine
end

-- part W4
section
open PySem PySem.W PyProof.Rows PySem.Calls
set_option maxRecDepth 100000
set_option maxHeartbeats 4000000
set_option linter.unusedVariables false
namespace Mine
local macro_rules | `(tactic| walk_at "pad 0") => `(tactic| trivial)
local macro_rules | `(tactic| walk_at "pad 1") => `(tactic| trivial)
local macro_rules | `(tactic| walk_at "pad 2") => `(tactic| trivial)
local macro_rules | `(tactic| walk_at "pad 3") => `(tactic| trivial)
local macro_rules | `(tactic| walk_at "pad 4") => `(tactic| trivial)
local macro_rules | `(tactic| walk_at "pad 5") => `(tactic| trivial)
local macro_rules | `(tactic| walk_at "pad 6") => `(tactic| trivial)
local macro_rules | `(tactic| walk_at "pad 7") => `(tactic| trivial)
local macro_rules | `(tactic| walk_at "pad 8") => `(tactic| trivial)
local macro_rules | `(tactic| walk_at "pad 9") => `(tactic| trivial)
local macro_rules | `(tactic| walk_at "pad 10") => `(tactic| trivial)
local macro_rules | `(tactic| walk_at "pad 11") => `(tactic| trivial)
local macro_rules | `(tactic| walk_at "pad 12") => `(tactic| trivial)
local macro_rules | `(tactic| walk_at "pad 13") => `(tactic| trivial)
local macro_rules | `(tactic| walk_at "pad 14") => `(tactic| trivial)
local macro_rules | `(tactic| walk_at "pad 15") => `(tactic| trivial)
local macro_rules | `(tactic| walk_at "pad 16") => `(tactic| trivial)
local macro_rules | `(tactic| walk_at "pad 17") => `(tactic| trivial)
local macro_rules | `(tactic| walk_at "pad 18") => `(tactic| trivial)
local macro_rules | `(tactic| walk_at "pad 19") => `(tactic| trivial)
def sizeOf1 (c : Nat) : Nat := if c = 46 then 3 else if c = 42 ∨ c = 47 ∨ c = 60 ∨ c = 61 ∨ c = 62 then 2 else 1
def code (x : List Nat) : Nat := 256 + (num x).getD 0
/-- what the law's own helper gives for a piece -/
def wr (p : List Nat) : List Nat :=
  if (num p).isSome then [code p] else
    let c := p.headD 0
    List.replicate (p.length / sizeOf1 c) (code (List.replicate (sizeOf1 c) c)) ++ List.replicate (p.length % sizeOf1 c) (code [c])
theorem size_num {c : Nat} (h : (num [c]).isSome = true) : ∃ k, num (List.replicate (sizeOf1 c) c) = some k := by
  have a : ∀ e ∈ ops, (match e.1 with | [c] => (num (List.replicate (sizeOf1 c) c)).isSome | _ => true) = true := by decide
  obtain ⟨k, hk⟩ := Option.isSome_iff_exists.mp h
  exact Option.isSome_iff_exists.mp (a _ (lookup_mem hk))
section
variable {prog : Program} {w : World} {A : Around} {E : Value → Shared → Prop} {s : Shared} {h₀ : Heap} {L : Addr} {m : Str → Option Value} {t u : Tok} {Q : Value → Shared → Prop}
theorem tab_in_yes {x : List Nat} {n : Nat} (F : Fr h₀ L s.heap m) (X : (Mine.hd.heap_39 w.params).In h₀) (hx : num x = some n) (h : Q (.bool true) { s with toks := s.toks + 1 }) :
    wpAny (model prog w) A (compareOp .In (.str (S x) t) (.ref 29)) Q E s := tab_in F X (by rw [S_cps, hx]; exact h)
theorem tab_in_no {x : List Nat} (F : Fr h₀ L s.heap m) (X : (Mine.hd.heap_39 w.params).In h₀) (hx : num x = none) (h : Q (.bool false) { s with toks := s.toks + 1 }) :
    wpAny (model prog w) A (compareOp .In (.str (S x) t) (.ref 29)) Q E s := tab_in F X (by rw [S_cps, hx]; exact h)
theorem tab_itemS {value slice : Expr} {x : List Nat} {n : Nat} (F : Fr h₀ L s.heap m) (X : (Mine.hd.heap_39 w.params).In h₀) (hx : num x = some n) (h : ∀ u, Q (.int n u) { s with toks := s.toks + 1 })
    (hs : subscripted slice false (.ref 29) (.str (S x) t) = operate [.ref 29, .str (S x) t] (getItem (.ref 29) (.str (S x) t)) := by with_unfolding_all rfl) :
    wpAny (model prog w) A (subscriptTail value slice (.ref 29) (.str (S x) t)) Q E s := tab_item F X hx h hs
theorem s_chr {k : Nat} (hk : 7 ≤ k ∧ k ≤ 54) (h : ∀ u, Q (.str (S [256 + k]) u) { s with toks := s.toks + 1 }) : wpAny (model prog w) A (call (.builtin "chr") [.int (256 + (k : Int)) t]) Q E s := by
  refine chr_of_range (by omega) (by omega) ?_
  have e : (256 + (k : Int)).toNat = 256 + k := by omega
  rw [e]
  exact h _
theorem s_eqL {a : List Nat} {y : Str} (h : Q (.bool (a == y.cps.toList)) s) : wpAny (model prog w) A (compareOp .Eq (.str (S a) t) (.str y u)) Q E s := s_eq (b := y.cps.toList) h
theorem s_inL {c : Nat} {y : Str} (h : Q (.bool (decide (c ∈ y.cps.toList))) s) : wpAny (model prog w) A (compareOp .In (.str (S [c]) t) (.str y u)) Q E s := s_in (b := y.cps.toList) h
end
theorem s_mulI {prog : Program} {w : World} {A : Around} {E : Value → Shared → Prop} {s : Shared} {t u : Tok} {Q : Value → Shared → Prop} {l : List Nat} {n : Int} (hl : l.length ≤ 1000) (h0 : 0 ≤ n) (hn : n ≤ 1000) (h : ∀ t' k, Q (.str (S (List.replicate n.toNat l).flatten) t') { s with toks := k }) :
    wpAny (model prog w) A (binaryOp .Mult (.str (S l) t) (.int n u)) Q E s := by
  obtain ⟨k, rfl⟩ := Int.eq_ofNat_of_zero_le h0
  exact s_mul hl (by omega) h
theorem rep_flat (c : Nat) : ∀ n : Nat, (List.replicate n [c]).flatten = List.replicate n c
  | 0 => rfl
  | n + 1 => by rw [List.replicate_succ, List.flatten_cons, rep_flat c n, List.replicate_succ]; rfl
theorem sizeOf1_le (c : Nat) : 1 ≤ sizeOf1 c ∧ sizeOf1 c ≤ 3 := by
  unfold sizeOf1
  split
  · omega
  · split <;> omega
def IsSize (c : Nat) (s : Shared) (v : Value) (s' : Shared) : Prop := ∃ t tk, v = Value.int (sizeOf1 c : Int) t ∧ s' = { s with toks := tk }
theorem fdiv_nat (a b : Nat) : (a : Int).fdiv (b : Int) = ((a / b : Nat) : Int) := by
  rw [Int.fdiv_eq_ediv_of_nonneg _ (by omega)]
  rfl
theorem fmod_nat (a b : Nat) : (a : Int).fmod (b : Int) = ((a % b : Nat) : Int) := by
  rw [Int.fmod_eq_emod_of_nonneg _ (by omega)]
  rfl
theorem IsSize.intro {c : Nat} {s : Shared} {n : Int} {t : Tok} {tk : Nat} (e : n = (sizeOf1 c : Int)) : IsSize c s (.int n t) { s with toks := tk } := ⟨t, tk, by rw [e], rfl⟩
theorem wr_run {y : List Nat} {c n k1 k2 : Nat} (hy : y = c :: List.replicate n c) (hn : num y = none) (h1 : num [c] = some k1) (h2 : num (List.replicate (sizeOf1 c) c) = some k2) :
    wr y = List.replicate (y.length / sizeOf1 c) (256 + k2) ++ List.replicate (y.length % sizeOf1 c) (256 + k1) := by
  have e : y.headD 0 = c := by rw [hy]; rfl
  unfold wr code
  rw [hn, e]
  show (List.replicate _ (256 + (num (List.replicate (sizeOf1 c) c)).getD 0) ++ List.replicate _ (256 + (num [c]).getD 0)) = _
  rw [h1, h2]
  rfl
theorem lit_dot : (Str.ofString ".").cps.toList = [46] := by decide +kernel
theorem lit_five : (Str.ofString "*/<=>").cps.toList = [42, 47, 60, 61, 62] := by decide +kernel
local macro_rules | `(tactic| walk_at "compareOp In str ref") => `(tactic| (k_here; (with_reducible show wpAny _ _ (compareOp CmpOp.In (Value.str _ _) (Value.ref 29)) _ _ _); k_dflt (first
  | (refine' tab_in_yes ?F ?X ?h ?_; (case F => k_asm); (case X => k_asm); (case h => assumption); k_whole)
  | (refine' tab_in_no ?F ?X ?h ?_; (case F => k_asm); (case X => k_asm); (case h => assumption); k_whole))))
local macro_rules | `(tactic| walk_at "subscriptTail Name Name ref str") => `(tactic| (k_here; (with_reducible show wpAny _ _ (subscriptTail _ _ (Value.ref 29) (Value.str _ _)) _ _ _); k_dflt (refine' tab_itemS ?F ?X ?h ?_; (case F => k_asm); (case X => k_asm); (case h => assumption); k_whole); intro u'))
local macro_rules | `(tactic| walk_at "subscriptTail Name BinOp ref str") => `(tactic| (k_here; (with_reducible show wpAny _ _ (subscriptTail _ _ (Value.ref 29) (Value.str _ _)) _ _ _); k_dflt (refine' tab_itemS ?F ?X ?h ?_; (case F => k_asm); (case X => k_asm); (case h => assumption); k_whole); intro u'))
local macro_rules | `(tactic| walk_at "subscriptTail Name Subscript ref str") => `(tactic| (k_here; (with_reducible show wpAny _ _ (subscriptTail _ _ (Value.ref 29) (Value.str _ _)) _ _ _); k_dflt (refine' tab_itemS ?F ?X ?h ?_; (case F => k_asm); (case X => k_asm); (case h => assumption); k_whole); intro u'))
local macro_rules | `(tactic| walk_at "call builtin:len") => `(tactic| ((with_reducible show wpAny _ _ (call (Value.builtin "len") [Value.str (S _) _]) _ _ _); k_dflt (refine' s_len ?F ?_; (case F => omega)); intro u'))
local macro_rules | `(tactic| walk_at "call builtin:chr") => `(tactic| ((with_reducible show wpAny _ _ (call (Value.builtin "chr") [Value.int (256 + Nat.cast _) _]) _ _ _); k_dflt (refine' s_chr ?F ?_; (case F => assumption)); intro u'))
local macro_rules | `(tactic| walk_at "subscriptTail Name Constant str int") => `(tactic| ((with_reducible show wpAny _ _ (subscriptTail _ _ (Value.str (S _) _) (Value.int _ _)) _ _ _); k_dflt (refine' s_item0 ?F ?X ?_; (case F => assumption); (case X => omega); k_whole); intro u'))
local macro_rules | `(tactic| walk_at "compareOp Eq str str") => `(tactic| ((with_reducible show wpAny _ _ (compareOp CmpOp.Eq (Value.str (S _) _) (Value.str _ _)) _ _ _); k_dflt (refine' s_eqL ?_); simp only [lit_dot]))
local macro_rules | `(tactic| walk_at "compareOp In str str") => `(tactic| ((with_reducible show wpAny _ _ (compareOp CmpOp.In (Value.str (S _) _) (Value.str _ _)) _ _ _); k_dflt (refine' s_inL ?_); simp only [lit_five]))
local macro_rules | `(tactic| walk_at "exec Assign") => `(tactic| ((with_reducible show wpAny _ _ (exec (Stmt.Assign [Expr.Name (PySem.Str.ofString "size") _] _ _) _) _ _ _); refine Hold.mk ?_))
theorem written_tells {w : World} {A : Around} {s : Shared} {p : Program} {loose : List Str} {mean : ExcName → Option Value} {mg mb : Str → Option Value} {y : List Nat} {t : Tok} {Q E : Value → Shared → Prop}
    (X : (Mine.hd.heap_39 w.params).In s.heap) (T : Top p loose mean mg mb s.heap) (hd : A.depth + 10 < recursionLimit) (hu : A.units + 40 < cLine) (hh : A.handled = none)
    (hy : (num y).isSome = true ∨ ∃ c n, y = List.replicate (n + 1) c ∧ (num [c]).isSome = true) (hsz : y.length ≤ 1000)
    (hQ : ∀ u h' tk, Grow s.heap h' → Q (.str (S (wr y)) u) { s with heap := h', toks := tk }) :
    wpAny (model PySem.Challenge.rw_mr0178_01.row.prog w) A (call (.ref 52) [.str (S y) t]) Q E s := by
  w_top off; revert X; k_fill; intro X
  refine wpAny_call ?_
  (k_dflt (refine' enter_raw (binds := [(Str.ofString "piece", Value.str (S y) t)]) X T.nolimit ?k6 ?k7 ?k8 ?k9 ?kB ?_ ?c2 ?c3 ?c4 ?c5; (case k6 => k_is); (case k7 => k_is); (case k8 => omega); (case k9 => exact BindsTo.of_eq rfl); (case c5 => decide); (case kB => exact locs rfl); (case c2 => exact rfl); (case c3 => exact rfl); (case c4 => exact rfl); k_whole))
  intro L' h₁ F
  replace F := fr_bind1 F
  have N : News s.heap L' h₁ [] := News.nil
  (try dsimp only)
  (try k_fold)
  cases hn : num y with
  | some k =>
    have hkb := num_bound hn
    k_steps
    have e : wr y = [256 + k] := by unfold wr code; rw [hn]; rfl
    rw [← e]
    exact hQ _ _ _ F.keep
  | none =>
    rcases hy with h | ⟨c, n, hy, h1⟩
    · rw [hn] at h; cases h
    obtain ⟨k1, hk1⟩ := Option.isSome_iff_exists.mp h1
    have hkb1 := num_bound hk1
    obtain ⟨k2, hk2⟩ := size_num h1
    have hkb2 := num_bound hk2
    have hyc : y = c :: List.replicate n c := hy
    k_steps
    refine Hold.of ?_
    refine wpAny_Assign_Name ?_ (by with_unfolding_all rfl)
    have hs1 := sizeOf1_le c
    refine wpAny_mono (Q := IsSize c { s with heap := h₁, toks := tk }) ?_ ?_ (fun _ _ e => e)
    · k_steps
      · refine IsSize.intro ?_
        rename_i a
        have e : c = 46 := by simpa using a
        subst e
        rfl
      · refine IsSize.intro ?_
        rename_i a _ b
        have e : ¬ c = 46 := by simpa using a
        have e2 : c = 42 ∨ c = 47 ∨ c = 60 ∨ c = 61 ∨ c = 62 := by simpa using b
        unfold sizeOf1
        rw [if_neg e, if_pos e2]
        rfl
      · refine IsSize.intro ?_
        rename_i a _ b
        have e : ¬ c = 46 := by simpa using a
        have e2 : ¬ (c = 42 ∨ c = 47 ∨ c = 60 ∨ c = 61 ∨ c = 62) := by simpa using b
        unfold sizeOf1
        rw [if_neg e, if_neg e2]
        rfl
    · rintro v s' ⟨t', tk', rfl, rfl⟩
      dsimp only
      k_steps
      refine s_mul (by simp) (by omega) ?_
      intro t2 k
      rw [rep_flat]
      (try dsimp only)
      k_steps
      rw [fdiv_nat]
      refine s_mul (by simp) (by have := Nat.div_le_self y.length (sizeOf1 c); omega) ?_
      intro t3 k3
      rw [rep_flat]
      (try dsimp only)
      k_steps
      rw [fmod_nat]
      refine s_mul (by simp) (by have := Nat.mod_le y.length (sizeOf1 c); omega) ?_
      intro t4 k4
      rw [rep_flat]
      (try dsimp only)
      refine s_add ?_ ?_
      · rw [List.length_replicate, List.length_replicate]
        have := Nat.div_le_self y.length (sizeOf1 c)
        have := Nat.mod_le y.length (sizeOf1 c)
        omega
      intro t5 k5
      k_steps
      rw [← wr_run hyc hn hk1 hk2]
      exact hQ _ _ _ (Fr.keep (by assumption))
end Mine
end

-- part W5
section
open PySem PySem.W PyProof.Rows PySem.Calls
set_option maxRecDepth 100000
set_option maxHeartbeats 4000000
set_option linter.unusedVariables false
namespace Mine
theorem binds_var {fd : FuncData} {p1 p2 : Pos} {x : Value} {vs : List Value} (hp : fd.params = { posonlyargs := [], args := [{ arg := Str.ofString "text", annotation := none, pos := p1 }], vararg := some { arg := Str.ofString "pairs", annotation := none, pos := p2 }, kwonlyargs := [], kw_defaults := [], kwarg := none, defaults := [] }) (hd : fd.defaults = .none) :
    bindArgs fd ⟨x :: vs, []⟩ = (newTuple vs >>= fun D => pure [(Str.ofString "text", x), (Str.ofString "pairs", D)]) := by
  unfold bindArgs
  rw [hp, hd]
  simp only [Option.isNone_some, Bool.and_false, Bool.false_eq_true, if_false]
  rfl
/-- a call of a def with one parameter and a star: the caller's heap and the tuple are the ground -/
theorem enter_var {w : World} {A : Around} {s : Shared} {K : Frag} {R : Result → Shared → Prop} {name qual : Str} {p1 p2 : Pos} {body : List Stmt} {scope : Scope} {kV doc pm cdv ct oc : Value} {an od : Option Addr}
    {osl : Array (Option Value)} {f : Addr} {x : Value} {vs : List Value}
    (X : K.In s.heap) (hlim : s.heap.NoLimit) (ho : K.lookup f = some ⟨oc, od, .func (fnOf name qual { posonlyargs := [], args := [{ arg := Str.ofString "text", annotation := none, pos := p1 }], vararg := some { arg := Str.ofString "pairs", annotation := none, pos := p2 }, kwonlyargs := [], kw_defaults := [], kwarg := none, defaults := [] } body scope .none kV doc pm an cdv ct), osl⟩) (hcd : codeIn K cdv qual = true) (hroom : A.depth < recursionLimit)
    (hsz : vs.length ≤ sizeLine)
    (hloc : ∀ y ∈ [Str.ofString "text", Str.ofString "pairs"], scope.names.lookup y = some .local)
    (h : ∀ D L' h₁, Fr s.heap L' h₁ (fun y => if y = Str.ofString "pairs" then some (.ref D) else if y = Str.ofString "text" then some x else none) → News s.heap L' h₁ [(D, { cls := .type "tuple", data := .seq vs.toArray })] →
      wpAny (model PySem.Challenge.rw_mr0178_01.row.prog w) (A.deeper (envOf qual scope L' f cdv)) (execs body (envOf qual scope L' f cdv))
        (fun fl s' => R (.ok (.ret (match fl with | .ret v => v | _ => .none))) s') (fun _ _ => False)
        { s with heap := h₁, toks := s.toks + 2 })
    (hco : scope.isCoroutine = false) (hgen : scope.isGenerator = false) (hk : scope.kind = .function)
    (hcell : ∀ x ∈ scope.names, x.2 ≠ .cell) : codeAny (model PySem.Challenge.rw_mr0178_01.row.prog w) A (.call (.ref f) ⟨x :: vs, []⟩) R s := by
  refine codeAny_call_function (fd := fnOf name qual _ body scope .none kV doc pm an cdv ct) (body := body) hroom (X _ _ ho) rfl hco hgen rfl (codeRec_of X hcd) ?_
  rw [binds_var rfl rfl]
  refine wpAny_bind (wpAny_newObj_type (wpAny_pure ?_) (by show vs.toArray.size ≤ sizeLine; rw [List.size_toArray]; exact hsz))
  refine wpAny_newFunctionEnv hcell ?_ (fun h₁ hns hsb => ⟨(hlim.keeps fun b o e => Heap.get?_push_of_some _ e).fresh _ hsb, codeAny_func ?_⟩) hk
  · intro y hy
    rcases List.mem_cons.mp hy with rfl | hy
    · exact hloc _ List.mem_cons_self
    · rw [List.mem_singleton.mp hy]
      exact hloc _ (List.mem_cons_of_mem _ List.mem_cons_self)
  · have gr : Grow s.heap (s.heap.push { cls := .type "tuple", data := .seq vs.toArray }) := fun b o e => Heap.get?_push_of_some _ e
    have up : ∀ b o, (s.heap.push { cls := .type "tuple", data := .seq vs.toArray }).get? b = some o → h₁.get? b = some o := fun b o e => hsb.extBut b o (Nat.ne_of_lt (Heap.lt_size e)) (Heap.get?_push_of_some _ e)
    refine wpAny_mono (h s.heap.objs.size _ h₁ (fr_bind2 ⟨hns, fun b o e => up b o (gr b o e), ?_⟩) ?_) (fun fl s' hl => hl) fun _ _ y => y.elim
    · show s.heap.objs.size ≤ (s.heap.push _).objs.size
      rw [Heap.size_push]
      exact Nat.le_succ _
    · intro p hp
      rw [List.mem_singleton.mp hp]
      refine ⟨up _ _ (Heap.get?_push_size _ rfl), ?_, ?_⟩
      · show s.heap.objs.size ≠ (s.heap.push _).objs.size
        rw [Heap.size_push]
        exact Nat.ne_of_lt (Nat.lt_succ_self _)
      · exact Heap.get?_none_of_le (Nat.le_refl _)
open PySem.Builtin PySem.Builtin.Str in
/-- one step of replace: split and joined -/
def rep (x n c : List Nat) : List Nat := (Txt.join (S c) (Txt.split (S x) (S n))).cps.toList
def replAll (x : List Nat) (ps : List (List Nat × List Nat)) : List Nat := ps.foldl (fun x p => rep x p.1 p.2) x
def flat (ps : List (List Nat × List Nat)) : List Str := ps.flatMap fun p => [S p.1, S p.2]
open PySem.Builtin PySem.Builtin.Str in
theorem split_sum (x y : Str) : ((Txt.split x y).map (·.length)).sum ≤ x.length := by
  have e := StrLaws.join_split x y
  rw [← StrLaws.glued_eq_join] at e
  have e2 := congrArg Str.length e
  rw [size_glued] at e2
  omega
section
variable {prog : Program} {w : World} {A : Around} {E : Value → Shared → Prop} {s : Shared} {t u : Tok} {Q : Value → Shared → Prop}
theorem s_split {x n : List Nat} (hn : 1 ≤ n.length) (hx : x.length ≤ 100000) (h : ∀ D l h' k, Grow s.heap h' → h'.IsList D (strValues l).toArray → l.map (·.1) = Txt.split (S x) (S n) → Q (.ref D) { s with heap := h', toks := k }) :
    wpAny (model prog w) A (call (.builtin "str.split") [.str (S x) t, .str (S n) u]) Q E s := by
  refine SCH.split1 (P := fun h' => Grow s.heap h') (fun h ob g => fun b o e => Heap.get?_push_of_some _ (g b o e)) (Grow.refl _) ?_ (fun D l h' k e g hl => h D l h' k g hl e) ?_ ?_
  · rw [S_length]
    exact beq_eq_false_iff_ne.mpr (by omega)
  · rw [S_length, sizeLine_eq]; omega
  · rw [sizeLine_eq]
    rw [length_partsBetween]
    have := StrLaws.occ_length_le (S x) (S n) 0 (S x).length ((S x).length + 1)
    rw [S_length] at this ⊢
    omega
theorem s_join {x n c : List Nat} {D : Addr} {l : List (Str × Tok)} (hl : s.heap.IsList D (strValues l).toArray) (hs : l.map (·.1) = Txt.split (S x) (S n)) (hx : x.length ≤ 100000) (hc : c.length ≤ 10) (h : ∀ t' k, Q (.str (S (rep x n c)) t') { s with toks := k }) :
    wpAny (model prog w) A (call (.builtin "str.join") [.str (S c) t, .ref D]) Q E s := by
  refine SC.join hl hs (joinOk_of ?_) h
  have e1 := split_sum (S x) (S n)
  have e2 := PyProof.Rows.split_le (S x) (S n)
  rw [S_length] at e1 e2
  rw [S_length]
  have : (Txt.split (S x) (S n)).length * c.length ≤ 100002 * 10 := Nat.mul_le_mul (by omega) hc
  omega
end
theorem tup_true {prog : Program} {w : World} {A : Around} {E : Value → Shared → Prop} {s : Shared} {Q : Bool → Shared → Prop} {D : Addr} {v : Value} {vs : List Value} (ht : IsTup s.heap D (v :: vs).toArray) (hn : vs.length ≤ 100000) (h : Q true { s with toks := s.toks + 1 + 1 }) :
    wpAny (model prog w) A (truthy (.ref D)) Q E s := truthy_tuple ht (by rw [List.size_toArray, List.length_cons]; omega) h
theorem idx0 (n : Nat) : seqIndex? 0 (n + 1) = some 0 := by unfold seqIndex?; simp
theorem idx1 (n : Nat) : seqIndex? 1 (n + 2) = some 1 := by unfold seqIndex?; simp; try omega
def Lower (I : Nat → Shared → Prop) (n : Nat) (s : Shared) : Prop := ∃ m, m < n ∧ I m s
theorem while_low {prog : Program} {w : World} {A : Around} {R : Result → Shared → Prop} {s : Shared} {test : Expr} {body orelse : List Stmt} {env : Env} (I : Nat → Shared → Prop)
    (turn : ∀ n s, I n s →
      wpAny (model prog w) A (isTrue test env (eval test env)) (fun b s₂ =>
        if b then wpAny (model prog w) A (execs body env) (fun f s₃ => match f with
            | .next | .cont => Lower I n s₃
            | .brk => R (.ok .next) s₃
            | .ret v => R (.ok (.ret v)) s₃) (notedBy (model prog w) A env fun e s' => R (.error e) s') s₂
        else wpAny (model prog w) A (execs orelse env) (fun f s₃ => R (.ok f) s₃) (notedBy (model prog w) A env fun e s' => R (.error e) s') s₂)
        (notedBy (model prog w) A env fun e s' => R (.error e) s') s)
    (n : Nat) (h : I n s) : codeAny (model prog w) A (.whileLoop test body orelse env) R s := codeAny_whileLoop I turn n h
/-- what stands at the loop's head in replace -/
def ReplI (s : Shared) (g : Heap) (L' : Addr) (target : List Nat) (n : Nat) (s' : Shared) : Prop :=
  ∃ ps x t l D h' tk m, s' = { s with heap := h', toks := tk } ∧ n = ps.length ∧ Fr g L' h' m ∧ m (Str.ofString "text") = some (.str (S x) t) ∧ m (Str.ofString "pairs") = some (.ref D) ∧
    News g L' h' [(D, { cls := .type "tuple", data := .seq (strValues l).toArray })] ∧ l.map (·.1) = flat ps ∧ replAll x ps = target ∧
    (∀ k, (replAll x (ps.take k)).length ≤ 100000) ∧ (∀ p ∈ ps, 1 ≤ p.1.length ∧ p.1.length ≤ 10 ∧ p.2.length ≤ 10) ∧ ps.length ≤ 1000
theorem flat_length : ∀ ps : List (List Nat × List Nat), (flat ps).length = 2 * ps.length
  | [] => rfl
  | p :: r => by
    show ([S p.1, S p.2] ++ flat r).length = _
    rw [List.length_append, flat_length r]
    simp only [List.length_cons, List.length_nil]
    omega
theorem replace_tells {w : World} {A : Around} {s : Shared} {p : Program} {loose : List Str} {mean : ExcName → Option Value} {mg mb : Str → Option Value} {x : List Nat} {t : Tok} {l : List (Str × Tok)} {ps : List (List Nat × List Nat)} {Q E : Value → Shared → Prop}
    (X : (Mine.hd.heap_39 w.params).In s.heap) (T : Top p loose mean mg mb s.heap) (hd : A.depth + 10 < recursionLimit) (hu : A.units + 40 < cLine) (hh : A.handled = none)
    (hl : l.map (·.1) = flat ps) (hlen : ∀ k, (replAll x (ps.take k)).length ≤ 100000) (hps : ∀ p ∈ ps, 1 ≤ p.1.length ∧ p.1.length ≤ 10 ∧ p.2.length ≤ 10) (hsz : ps.length ≤ 1000)
    (hQ : ∀ u h' tk, Grow s.heap h' → Q (.str (S (replAll x ps)) u) { s with heap := h', toks := tk }) :
    wpAny (model PySem.Challenge.rw_mr0178_01.row.prog w) A (call (.ref 21) (.str (S x) t :: strValues l)) Q E s := by
  w_top off; revert X; k_fill; intro X
  refine wpAny_call ?_
  have hll : (strValues l).length ≤ 2000 := by
    have e := congrArg List.length hl
    rw [flat_length, List.length_map] at e
    simp only [strValues, List.length_map]
    omega
  (k_dflt (refine' enter_var X T.nolimit ?k6 ?k7 ?k8 ?k9 ?kB ?_ ?c2 ?c3 ?c4 ?c5; (case k6 => k_is); (case k7 => k_is); (case k8 => omega); (case k9 => rw [sizeLine_eq]; omega); (case c5 => decide); (case kB => decide); (case c2 => exact rfl); (case c3 => exact rfl); (case c4 => exact rfl); k_whole))
  intro D L' h₁ F N
  (try dsimp only)
  (try k_fold)
  refine wpAny_execs_cons ?_
  refine wpAny_While (while_low (ReplI s s.heap L' (replAll x ps)) ?_ ps.length ⟨ps, x, t, l, D, h₁, _, _, rfl, rfl, F, rfl, rfl, N, hl, rfl, hlen, hps, hsz⟩)
  rintro n s' ⟨ps', x', t', l', D', h', tk', m', rfl, rfl, F', hm1, hm2, N', hl', ht', hlen', hps', hsz'⟩
  rw [fix1 hm1] at F'
  rw [fix1 hm2] at F'
  clear F N
  have ht : IsTup h' D' (strValues l').toArray := ⟨_, (N' _ List.mem_cons_self).1, rfl, _, rfl⟩
  cases ps' with
  | nil =>
    have e : l' = [] := by simpa [flat] using hl'
    subst e
    k_steps
    rw [← show x' = replAll x ps from ht'] at hQ
    exact hQ _ _ _ F'.keep
  | cons pr r =>
    obtain ⟨q1, q2, l2, rfl, e1, e2, hl2⟩ : ∃ q1 q2 l2, l' = q1 :: q2 :: l2 ∧ q1.1 = S pr.1 ∧ q2.1 = S pr.2 ∧ l2.map (·.1) = flat r := by
      match l', hl' with
      | [], h => simp [flat] at h
      | [_], h => simp [flat] at h
      | q1 :: q2 :: l2, h =>
        simp only [flat, List.flatMap_cons, List.map_cons, List.cons_append, List.nil_append, List.cons.injEq] at h
        exact ⟨q1, q2, l2, rfl, h.1, h.2.1, h.2.2⟩
    obtain ⟨q1, u1⟩ := q1
    obtain ⟨q2, u2⟩ := q2
    simp only at e1 e2
    subst e1 e2
    have hp := hps' pr List.mem_cons_self
    have hx0 : x'.length ≤ 100000 := hlen' 0
    have hx1 : (rep x' pr.1 pr.2).length ≤ 100000 := hlen' 1
    change IsTup h' D' (Value.str (S pr.1) u1 :: Value.str (S pr.2) u2 :: strValues l2).toArray at ht
    have hl2' : (strValues l2).length ≤ 2000 := by
      have e := congrArg List.length hl2
      rw [flat_length, List.length_map] at e
      rw [List.length_cons] at hsz'
      simp only [strValues, List.length_map]
      omega
    refine wpAny_isTrue_value ?_ (by intros; rfl)
    k_steps
    refine tup_true ht (by rw [List.length_cons]; omega) ?_
    dsimp only
    k_steps
    refine item_tupleT ht (by decide) (by decide) (idx1 _) rfl ?_
    k_steps
    refine item_tupleT ht (by decide) (by decide) (idx0 _) rfl ?_
    k_steps
    refine s_split hp.1 hx0 ?_
    intro Ds ls h2 k2 gr hls hs
    have F2 := F'.keeps gr
    have N2 := N'.grown gr
    clear F' N'
    (try dsimp only)
    k_steps
    refine s_join hls hs hx0 hp.2.2 ?_
    intro t3 k3
    (try dsimp only)
    k_steps
    rename_i h4 F4 N4
    have ht4 : IsTup h4 D' (Value.str (S pr.1) u1 :: Value.str (S pr.2) u2 :: strValues l2).toArray := ⟨_, (N4 _ List.mem_cons_self).1, rfl, _, rfl⟩
    refine slice_tuple_from (a := 2) F4 N4 ht4 (by decide) ?_ ?_ (hsz := ?_)
    · rw [List.size_toArray, List.length_cons, List.length_cons]; omega
    · intro h5 F5 N5
      dsimp only at N5 ⊢
      clear F4 N4
      k_steps
      rename_i h6 F6 N6
      refine ⟨r.length, Nat.lt_succ_self _, r, rep x' pr.1 pr.2, t3, l2, h4.objs.size + 1, _, _, _, rfl, rfl, F6, rfl, rfl, fun p hp => N6 p ?_, hl2, ht', ?_, ?_, ?_⟩
      · rw [List.mem_singleton.mp hp]
        exact List.mem_cons_self
      · intro k
        exact hlen' (k + 1)
      · intro p hp
        exact hps' p (List.mem_cons_of_mem _ hp)
      · rw [List.length_cons] at hsz'
        omega
    · rw [List.size_toArray, List.length_cons, List.length_cons, sizeLine_eq]; omega
end Mine
end

-- part W6
section
open PySem PySem.W PyProof.Rows PySem.Calls
set_option maxRecDepth 100000
set_option maxHeartbeats 4000000
set_option linter.unusedVariables false
namespace Mine
/-- a value that is true just where b is -/
def IsT (v : Value) (b : Bool) : Prop := v = .bool b ∨ ∃ n t, v = .int n t ∧ b = (n != 0)
theorem truthy_isT {prog : Program} {w : World} {A : Around} {E : Value → Shared → Prop} {s : Shared} {Q : Bool → Shared → Prop} {v : Value} {b : Bool} (hv : IsT v b) (h : Q b s) : wpAny (model prog w) A (truthy v) Q E s := by
  rcases hv with rfl | ⟨n, t, rfl, rfl⟩
  · exact wpAny_truthy_bool h
  · exact truthy_int h
/-- a predicate of the law's: what a call of it tells -/
def PredOk (w : World) (A : Around) (h₀ : Heap) (f : Addr) (x : List Nat) (pr : Nat → Bool) : Prop :=
  ∀ c ∈ x, ∀ (A' : Around) (s' : Shared) (u : Tok) (Q E : Value → Shared → Prop), A'.depth ≤ A.depth + 1 → A'.units ≤ A.units + 3 → A'.handled = none → Grow h₀ s'.heap →
    (∀ v h' tk, IsT v (pr c) → Grow s'.heap h' → Q v { s' with heap := h', toks := tk }) → wpAny (model PySem.Challenge.rw_mr0178_01.row.prog w) A' (call (.ref f) [.str (S [c]) u]) Q E s'
end Mine
end

-- part W7
section
open PySem PySem.W PyProof.Rows PySem.Calls
set_option maxRecDepth 100000
set_option linter.unusedVariables false
namespace Mine
/-- the operators in the table's order -/
def opsL : List (List Nat) := ops.map (·.1)
def kvsS : List (Str × Value) := tabS.map fun e => (e.1, .int e.2.1 e.2.2.2)
theorem kvs_keys : kvsS.map (·.1) = opsL.map S := by
  have e : tabS.map (fun e => e.1.cps.toList) = ops.map (·.1) := by decide +kernel
  have e2 : kvsS.map (·.1) = (tabS.map (fun e => e.1.cps.toList)).map S := by
    unfold kvsS
    rw [List.map_map, List.map_map]
    rfl
  rw [e2, e]
  rfl
theorem pairs_tab (prog : Program) (w : World) : ∀ l : List (Str × Int × Tok × Tok), Pairs (PySem.strKind prog w) (l.map (tabEntry w.params)) (l.map fun e => (e.1, Value.int e.2.1 e.2.2.2))
  | [] => Pairs.nil
  | e :: r => Pairs.cons (strKind_is prog w e.1 _) rfl (pairs_tab prog w r)
theorem map_S_nodup {l : List (List Nat)} (h : l.Nodup) : (l.map S).Nodup := by
  induction l with
  | nil => exact List.nodup_nil
  | cons a r ih =>
    rw [List.nodup_cons] at h
    rw [List.map_cons, List.nodup_cons]
    refine ⟨fun hm => ?_, ih h.2⟩
    obtain ⟨b, hb, e⟩ := List.mem_map.mp hm
    exact h.1 (S_inj e ▸ hb)
theorem tab_dictAt {prog : Program} {w : World} {h : Heap} (X : (Mine.hd.heap_39 w.params).In h) : h.DictAt (PySem.strKind prog w) 29 kvsS 48 := by
  refine ⟨_, _, X _ _ (tab_lookup w.params), ⟨rfl, rfl, rfl⟩, rfl, ?_, ?_, ?_⟩
  · intro e he
    obtain ⟨q, _, rfl⟩ := List.mem_map.mp (List.mem_toArray.mp he)
    exact ⟨q.1, strKind_is prog w q.1 _, rfl⟩
  · exact pairs_tab prog w tabS
  · rw [kvs_keys]
    exact map_S_nodup (by decide)
theorem tab_list {prog : Program} {w : World} {A : Around} {E : Value → Shared → Prop} {s : Shared} {Q : Value → Shared → Prop} {h₀ : Heap} {L : Addr} {m : Str → Option Value} {news : List (Addr × Obj)}
    (hh : A.handled = none) (F : Fr h₀ L s.heap m) (N : News h₀ L s.heap news) (X : (Mine.hd.heap_39 w.params).In h₀)
    (h : ∀ (D : Addr) c h' tk (l : List (Str × Tok)), Fr h₀ L h' m → News h₀ L h' ((D, W.listOf (strValues l).toArray c) :: news) → (∀ q ∈ news, q.1 < D) → l.map (·.1) = opsL.map S → Q (.ref D) { s with heap := h', toks := tk }) :
    wpAny (model prog w) A (call (.type "list") [.ref 29]) Q E s := by
  refine kdl_N (kdl_dict (knd := PySem.strKind prog w) (kvs := kvsS) (ep := 48) (by decide)) hh F N (tab_dictAt (X.keeps F.keep)) (by rw [sizeLine_eq]; decide) ?_
  intro D c h' tk vs F' N' lt hlen hP
  obtain ⟨l, rfl, hl⟩ : ∃ l : List (Str × Tok), vs = strValues l ∧ l.map (·.1) = kvsS.map (·.1) := by
    have key : ∀ (kvs : List (Str × Value)) (vs : List Value), vs.length = kvs.length → (∀ (j : Nat) v, vs[j]? = some v → ∃ k x, kvs[j]? = some (k, x) ∧ (PySem.strKind prog w).is k v = true) → ∃ l : List (Str × Tok), vs = strValues l ∧ l.map (·.1) = kvs.map (·.1) := by
      intro kvs
      induction kvs with
      | nil => intro vs hl _; exact ⟨[], List.eq_nil_of_length_eq_zero hl, rfl⟩
      | cons q r ih =>
        intro vs hl hv
        match vs, hl with
        | v :: vs, hl =>
          obtain ⟨k, x, e, hk⟩ := hv 0 v rfl
          obtain ⟨t, rfl⟩ := Value.isStrOf_shape hk
          obtain ⟨l, e2, e3⟩ := ih vs (by simpa using hl) (fun j v hj => hv (j + 1) v hj)
          have : q = (k, x) := by simpa using e
          exact ⟨(k, t) :: l, by rw [e2]; rfl, by rw [this]; simp [e3]⟩
    exact key kvsS vs hlen hP
  exact h D c h' tk l F' N' lt (hl.trans kvs_keys)
end Mine
end

-- part W8
section
open PySem PySem.W PyProof.Rows PySem.Calls
set_option maxRecDepth 100000
set_option maxHeartbeats 8000000
set_option linter.unusedVariables false
namespace Mine
/-- the piece and the gap that a number draws -/
def pieceOf (x : Int) : List Nat :=
  let name := opsL.getD (x.fmod 48).toNat []
  if 0 < (x.fdiv 48).fmod 7 then List.replicate ((x.fdiv 48).fmod 7).toNat (name.headD 0) else name
def gapOf (x : Int) : Nat :=
  let c := ((x.fdiv 336 + 97).fmod 256).toNat
  if (num [c]).isSome then 97 else c
local macro_rules | `(tactic| walk_at "exec For") => `(tactic| refine Hold.mk ?_)
local macro_rules | `(tactic| walk_at "eval IfExp") => `(tactic| refine Hold.mk ?_)
local macro_rules | `(tactic| walk_at "compareOp In str ref") => `(tactic| (k_here; (with_reducible show wpAny _ _ (compareOp CmpOp.In (Value.str _ _) (Value.ref 29)) _ _ _); k_dflt (refine' tab_in ?F ?X ?_; (case F => k_asm); (case X => k_asm); k_whole)))
/-- an evaluation that gives a text and makes nothing -/
def IsS (l : List Nat) (s : Shared) (v : Value) (s' : Shared) : Prop := ∃ t tk, v = .str (S l) t ∧ s' = { s with toks := tk }
theorem IsS.intro {l : List Nat} {s : Shared} {x : Str} {t : Tok} {tk : Nat} (e : x = S l) : IsS l s (.str x t) { s with toks := tk } := ⟨t, tk, by rw [e], rfl⟩
theorem ops_head {k : Nat} (h : k < 48) : ∃ c r, opsL.getD k [] = c :: r := by
  have a : ∀ e ∈ opsL, e ≠ [] := by decide
  have l : opsL.length = 48 := by decide
  have m : opsL.getD k [] ∈ opsL := by
    rw [List.getD_eq_getElem?_getD, List.getElem?_eq_getElem (by omega)]
    exact List.getElem_mem _
  cases e : opsL.getD k [] with
  | nil => exact absurd e (a _ m)
  | cons c r => exact ⟨c, r, rfl⟩
theorem ops_len {k : Nat} : (opsL.getD k []).length ≤ 3 := by
  have a : ∀ e ∈ opsL, e.length ≤ 3 := by decide
  rw [List.getD_eq_getElem?_getD]
  cases e : opsL[k]? with
  | none => exact Nat.zero_le _
  | some z => exact a z (List.mem_of_getElem? e)
theorem lit_a : Str.ofString "a" = S [97] := by decide +kernel
theorem law_A {w : World} {s : Shared} {p : Program} {loose : List Str} {mean : ExcName → Option Value} {mg mb : Str → Option Value} {Q : Flow → Shared → Prop} {h₀ : Heap} {L : Nat} {fa lscr : Addr} {vs : List Value} {ns : List Int} {o1 o2 o3 o4 o5 : Obj} {d1 d2 d3 d4 d5 : Option Value}
    {name qual : Str} {params : Arguments} {body : List Stmt} {scope : Scope} {dV kV doc pm cdv ct oc : Value} {an od : Option Addr} {osl : Array (Option Value)}
    (ho : (Mine.hd.heap_39 w.params).lookup 57 = some ⟨oc, od, .func (fnOf name qual params body scope dV kV doc pm an cdv ct), osl⟩)
    (X : (Mine.hd.heap_39 w.params).In h₀) (T : Top p loose mean mg mb h₀)
    (hscr : h₀.IsList lscr vs.toArray) (hI : IntsAre vs ns) (hlen : ns.length ≤ 63)
    (F : Fr h₀ L s.heap (fun y => if y = Str.ofString "script" then some (.ref lscr) else none))
    (N : News h₀ L s.heap [(L + 1 + 1 + 1 + 1 + 1, o5), (L + 1 + 1 + 1 + 1, o4), (L + 1 + 1 + 1, o3), (L + 1 + 1, o2), (L + 1, o1), (54, tabObj #[])])
    (hd1 : o1.data = .cell d1) (hd2 : o2.data = .cell d2) (hd3 : o3.data = .cell d3) (hd4 : o4.data = .cell d4) (hd5 : o5.data = .cell d5) (hL : 54 < L)
    (hQ : ∀ h' tk m' (Dn Dp Dg cn np ng : Nat) (ln lp lg : List (Str × Tok)) (op og : Obj), m' (Str.ofString "names") = some (.ref Dn) → m' (Str.ofString "script") = some (.ref lscr) → Fr h₀ L h' m' →
      News h₀ L h' [(Dg, W.listOf (strValues lg).toArray ng), (Dp, W.listOf (strValues lp).toArray np), (Dn, W.listOf (strValues ln).toArray cn), (L + 1 + 1 + 1 + 1 + 1, o5), (L + 1 + 1 + 1 + 1, o4), (L + 1 + 1 + 1, o3), (L + 1 + 1, og), (L + 1, op), (54, tabObj #[])] →
      og.data = .cell (some (.ref Dg)) → op.data = .cell (some (.ref Dp)) → ln.map (·.1) = opsL.map S → lp.map (·.1) = ((ns.take 6 ++ [271, 10, 32]).map pieceOf).map S → lg.map (·.1) = ((ns.take 6 ++ [271, 10, 32]).map gapOf).map (fun c => S [c]) →
      L + 5 < Dn → Dn < Dp → Dp < Dg →
      wpAny (model PySem.Challenge.rw_mr0178_01.row.prog w) (callerA.deeper (envOfC qual scope L fa cdv)) (execs (body.drop 4) (envOfC qual scope L fa cdv)) Q (fun _ _ => False) { s with heap := h', toks := tk }) :
    wpAny (model PySem.Challenge.rw_mr0178_01.row.prog w) (callerA.deeper (envOfC qual scope L fa cdv)) (execs body (envOfC qual scope L fa cdv)) Q (fun _ _ => False) s := by
  w_top off; revert X; k_fill; intro X
  have e := Option.some.inj (ho.symm.trans (rfl : (Mine.hd.heap_39 w.params).lookup 57 = some _))
  cases e
  clear ho
  k_steps
  refine tab_list rfl F N X ?_
  intro Dn cn h1 tk1 ln F1 N1 lt1 hln
  k_lt lt1
  clear F N
  (try dsimp only)
  k_steps
  rename_i _ _ Dp _ ltp _ op hop _ Dg _ ltg h4 og F4 N4 hog
  refine Hold.of ?_
  refine For_invV h₀ (by rfl) (by rfl) ?_
  k_steps
  rename_i D5 ws5 h5 F5 N5 hI5 lt5
  refine iter_list (news := [(Dg, W.listOf #[] 0), (Dp, W.listOf #[] 0), (Dn, W.listOf (strValues ln).toArray cn), (L + 1 + 1 + 1 + 1 + 1, o5), (L + 1 + 1 + 1 + 1, o4), (L + 1 + 1 + 1, o3), (L + 1 + 1, og), (L + 1, op), (54, tabObj #[])])
    (fun i m nx => m (Str.ofString "names") = some (.ref Dn) ∧ m (Str.ofString "script") = some (.ref lscr) ∧
      ∃ lp np lg ng, nx = [(Dg, W.listOf (strValues lg).toArray ng), (Dp, W.listOf (strValues lp).toArray np), (Dn, W.listOf (strValues ln).toArray cn), (L + 1 + 1 + 1 + 1 + 1, o5), (L + 1 + 1 + 1 + 1, o4), (L + 1 + 1 + 1, o3), (L + 1 + 1, og), (L + 1, op), (54, tabObj #[])] ∧
        lp.map (·.1) = (((ns.take 6 ++ [271, 10, 32]).take i).map pieceOf).map S ∧ lg.map (·.1) = (((ns.take 6 ++ [271, 10, 32]).take i).map gapOf).map (fun c => S [c]))
    rfl (News.isList N5 List.mem_cons_self) ?_ ?_ F5 (fun q hq => N5 q ?_) ⟨rfl, rfl, [], 0, [], 0, rfl, rfl, rfl⟩ ?_ ?_
  · show D5 ≠ L
    refine neN ?_
    omega
  · simp only [List.forall_mem_cons, List.not_mem_nil, false_implies, implies_true, and_true]
    refine ⟨?_, ?_, ?_, ?_, ?_, ?_, ?_, ?_, ?_⟩ <;> (refine neN ?_; omega)
  · exact List.mem_cons_of_mem _ (List.mem_cons_of_mem _ (List.mem_cons_of_mem _ hq))
  · rintro i v m₁ news₁ h tk₁ own hv hadr hoff ⟨hm1, hm2, lp, np, lg, ng, rfl, hlp, hlg⟩ F6 N6
    rw [fix1 hm1] at F6
    rw [fix1 hm2] at F6
    change Fr h₀ L h _ at F6
    change News h₀ L h _ at N6
    simp only [List.cons_append, List.nil_append] at N6
    simp only [List.map_cons, List.map_nil] at hoff
    clear F5 N5
    obtain ⟨x, t, hx, rfl⟩ : ∃ x t, (ns.take 6 ++ [271, 10, 32])[i]? = some x ∧ v = .int x t := by
      obtain ⟨x, hx⟩ : ∃ x, (ns.take 6 ++ [271, 10, 32])[i]? = some x := by
        have l1 := (List.getElem?_eq_some_iff.mp hv).1
        have l2 := IntsAre.length hI5
        exact ⟨_, List.getElem?_eq_getElem (by omega)⟩
      obtain ⟨t, ht⟩ := hI5.get i x hx
      rw [hv] at ht
      exact ⟨x, t, hx, Option.some.inj ht⟩
    have hlnl : ln.length = 48 := by
      have := congrArg List.length hln
      rw [List.length_map, List.length_map] at this
      exact this
    have hx0 := Int.fmod_nonneg_of_pos x (show (0 : Int) < 48 by decide)
    have hx1 := Int.fmod_lt_of_pos x (show (0 : Int) < 48 by decide)
    k_steps
    refine item_strs (News.isList N6 (List.mem_cons_of_mem _ (List.mem_cons_of_mem _ List.mem_cons_self))) hx0 (by rw [hlnl]; exact hx1) (by omega) ?_
    intro y ty hy
    obtain rfl : y = S (opsL.getD (x.fmod 48).toNat []) := by
      rw [hln, List.getElem?_map] at hy
      rw [List.getD_eq_getElem?_getD]
      cases e : opsL[(x.fmod 48).toNat]? with
      | none => rw [e] at hy; cases hy
      | some z => rw [e] at hy; cases hy; rfl
    (try dsimp only)
    obtain ⟨c0, r0, hc0⟩ := ops_head (k := (x.fmod 48).toNat) (by omega)
    have hl0 := ops_len (k := (x.fmod 48).toNat)
    have hy0 := Int.fmod_nonneg_of_pos (x.fdiv 48) (show (0 : Int) < 7 by decide)
    have hy1 := Int.fmod_lt_of_pos (x.fdiv 48) (show (0 : Int) < 7 by decide)
    k_steps
    rename_i h7 F7 N7
    refine Hold.of ?_
    refine wpAny_mono (Q := IsS (pieceOf x) { s with heap := h7, toks := tk }) ?_ ?_ (fun _ _ e => e)
    · refine wpAny_IfExp ?_
      k_steps
      · refine s_item0 hc0 (by omega) ?_
        intro t8
        k_steps
        refine s_mulI (by simp) hy0 (by omega) ?_
        intro t9 k9
        refine IsS.intro ?_
        rename_i hpos
        unfold pieceOf
        rw [if_pos hpos, rep_flat, hc0]
        rfl
      · refine IsS.intro ?_
        rename_i hpos
        unfold pieceOf
        rw [if_neg hpos]
    · rintro v8 s8 ⟨t8, tk8, rfl, rfl⟩
      (try dsimp only)
      k_steps
      have hi9 : i < (ns.take 6 ++ [271, 10, 32]).length := (List.getElem?_eq_some_iff.mp hx).1
      have hxl : (ns.take 6 ++ [271, 10, 32]).length ≤ 9 := by
        rw [List.length_append, List.length_take]
        simp only [List.length_cons, List.length_nil]
        omega
      have hlpl : lp.length ≤ 9 := by
        have e := congrArg List.length hlp
        rw [List.length_map, List.length_map, List.length_map, List.length_take] at e
        omega
      have hlgl : lg.length ≤ 9 := by
        have e := congrArg List.length hlg
        rw [List.length_map, List.length_map, List.length_map, List.length_take] at e
        omega
      refine' append_K F7 N7 ?U ?_ ?z
      (case U => k_upd)
      (case z =>
        simp only [strValues, List.size_toArray, List.length_map]
        rw [sizeLine_eq]
        omega)
      intro h8 F8 N8
      clear F7 N7
      dsimp only at N8 ⊢
      k_steps
      refine Hold.of ?_
      refine wpAny_mono (Q := IsS [gapOf x] { s with heap := h8, toks := tk }) ?_ ?_ (fun _ _ e => e)
      · refine wpAny_IfExp ?_
        k_steps
        · refine IsS.intro ?_
          rename_i hin
          unfold gapOf
          rw [if_pos hin]
          exact lit_a
        · refine IsS.intro ?_
          rename_i hin
          unfold gapOf
          rw [if_neg (by rw [Bool.not_eq_true]; exact hin)]
          rfl
      · rintro v9 s9 ⟨t9, tk9, rfl, rfl⟩
        (try dsimp only)
        k_steps
        refine' append_K F8 N8 ?U ?_ ?z
        (case U => k_upd)
        (case z =>
          simp only [strValues, List.size_toArray, List.length_map]
          rw [sizeLine_eq]
          omega)
        intro h9 F9 N9
        clear F8 N8
        dsimp only at N9 ⊢
        k_steps
        refine InvEndN.intro F9 N9 (nx := [(Dg, W.listOf ((strValues lg).toArray.push (Value.str (S [gapOf x]) t9)) (ng + 1)), (Dp, W.listOf ((strValues lp).toArray.push (Value.str (S (pieceOf x)) t8)) (np + 1)), (Dn, W.listOf (strValues ln).toArray cn), (L + 1 + 1 + 1 + 1 + 1, o5), (L + 1 + 1 + 1 + 1, o4), (L + 1 + 1 + 1, o3), (L + 1 + 1, og), (L + 1, op), (54, tabObj #[])])
          ⟨rfl, rfl, lp ++ [(S (pieceOf x), t8)], np + 1, lg ++ [(S [gapOf x], t9)], ng + 1, ?_, ?_, ?_⟩ rfl ?_ ?_
        rotate_left 3
        · k_allIn
        · intro p hp'
          k_ownIn
        · simp [strValues]
        · rw [List.take_add_one, hx]
          simp [hlp]
        · rw [List.take_add_one, hx]
          simp [hlg]
  · rintro m₁ news₁ h tk₁ ⟨hm1, hm2, lp, np, lg, ng, rfl, hlp, hlg⟩ F6 N6
    have hwl : ws5.length = (ns.take 6 ++ [271, 10, 32]).length := by
      have := IntsAre.length hI5
      omega
    rw [hwl, List.take_length] at hlp hlg
    exact hQ h tk₁ m₁ Dn Dp Dg cn np ng ln lp lg op og hm1 hm2 F6 N6 hog hop hln hlp hlg (by omega) (by omega) (by omega)
end Mine
end

-- part W9
section
open PySem PySem.W PyProof.Rows PySem.Calls
set_option maxRecDepth 100000
set_option maxHeartbeats 8000000
set_option linter.unusedVariables false
namespace Mine
/-- what an element of a comprehension leaves -/
def CompPost (P : List Value → Prop) (ys : List Value) (s₀ : Shared) (y : Value) (s' : Shared) : Prop := P (ys ++ [y]) ∧ Keeps s₀ s'
theorem CompPost.intro {P : List Value → Prop} {ys : List Value} {s : Shared} {y : Value} {h' : Heap} {tk : Nat} (hp : P (ys ++ [y])) (g : Grow s.heap h') : CompPost P ys s y { s with heap := h', toks := tk } := ⟨hp, h', tk, rfl, g⟩
theorem comp_ind {prog : Program} {w : World} {A : Around} {h₀ : Heap} {L : Addr} {m : Str → Option Value} {env : Env} {elt : Expr} {x : Str} {scope : Scope} {cl : List (Str × Addr)} {s : Shared} {S : List (Addr × Obj) → Prop} {P : Nat → Value → Prop}
    {Fin : List Value → List (Addr × Obj) → Prop} {news : List (Addr × Obj)} {n : Nat} (Inv : Nat → List Value → Prop) (h0 : Inv 0 []) (hS : S news)
    (turn : ∀ i ys v I oI C oC D m₂ h tk (E' : Value → Shared → Prop), i < n → Inv i ys → P i v → LCg.NsObj oC m₂ → m₂ x = some v → Fr h₀ L h m → News h₀ L h ((I, oI) :: (C, oC) :: (D, LCg.lst ys) :: news) →
      wpAny (model prog w) A (eval elt (compEnvC scope cl C env)) (CompPost (Inv (i + 1)) ys { s with heap := h, toks := tk }) E' { s with heap := h, toks := tk })
    (fin : ∀ ys, Inv n ys → Fin ys news) : LCg.CompRest prog w A h₀ L m env elt x scope cl s S P Fin n 0 [] news := by
  have key : ∀ k i ys, i + k = n → Inv i ys → LCg.CompRest prog w A h₀ L m env elt x scope cl s S P Fin k i ys news := by
    intro k
    induction k with
    | zero =>
      intro i ys e hi
      have : i = n := by omega
      subst this
      exact LCg.CompRest.zero (fin ys hi)
    | succ k ih =>
      intro i ys e hi
      refine LCg.CompRest.succ ?_
      intro v I oI C oC D m₂ h tk E' hP hC hx F N off ne
      refine wpAny_mono (turn i ys v I oI C oC D m₂ h tk E' (by omega) hi hP hC hx F N) ?_ (fun _ _ e => e)
      rintro y s' ⟨hy, h', tk', rfl, hk⟩
      exact ⟨h', tk', news, rfl, F.keeps hk, N.grown hk, off, hS, ih (i + 1) (ys ++ [y]) (by omega) hy⟩
  exact key n 0 [] (by omega) h0
theorem join_nil : ∀ ls : List (List Nat), Str.join (S []) (ls.map S) = S ls.flatten
  | [] => rfl
  | [a] => by simp [Str.join]
  | a :: b :: r => by
    show S a ++ S [] ++ Str.join (S []) ((b :: r).map S) = _
    rw [join_nil (b :: r), S_append, S_append]
    simp
theorem lit_nil : Str.ofString "" = S [] := by decide +kernel
theorem s_join0 {prog : Program} {w : World} {A : Around} {E : Value → Shared → Prop} {s : Shared} {t : Tok} {Q : Value → Shared → Prop} {D : Addr} {l : List (Str × Tok)} {ls : List (List Nat)} (hl : s.heap.IsList D (strValues l).toArray) (hs : l.map (·.1) = ls.map S) (hx : ls.flatten.length ≤ 100000)
    (h : ∀ t' k, Q (.str (S ls.flatten) t') { s with toks := k }) : wpAny (model prog w) A (call (.builtin "str.join") [.str (Str.ofString "") t, .ref D]) Q E s := by
  rw [lit_nil]
  refine SC.join hl hs (joinOk_of ?_) ?_
  · rw [S_length]
    have e : ((ls.map S).map (·.length)).sum = ls.flatten.length := by
      rw [List.map_map, List.length_flatten]
      congr 1
    rw [e]
    simp only [List.length_nil, Nat.mul_zero]
    omega
  · intro t' k
    have e : Txt.join (S []) (ls.map S) = S ls.flatten := by
      unfold Txt.join
      rw [StrLaws.glued_eq_join, join_nil]
    rw [e]
    exact h t' k
theorem piece_ok (x : Int) : (num (pieceOf x)).isSome = true ∨ ∃ c n, pieceOf x = List.replicate (n + 1) c ∧ (num [c]).isSome = true := by
  have a : ∀ e ∈ opsL, (num e).isSome = true ∧ (num [e.headD 0]).isSome = true := by decide
  have hx0 := Int.fmod_nonneg_of_pos x (show (0 : Int) < 48 by decide)
  have hx1 := Int.fmod_lt_of_pos x (show (0 : Int) < 48 by decide)
  have l : opsL.length = 48 := by decide
  have m : opsL.getD (x.fmod 48).toNat [] ∈ opsL := by
    rw [List.getD_eq_getElem?_getD, List.getElem?_eq_getElem (by omega)]
    exact List.getElem_mem _
  unfold pieceOf
  by_cases hc : 0 < (x.fdiv 48).fmod 7
  · right
    refine ⟨(opsL.getD (x.fmod 48).toNat []).headD 0, ((x.fdiv 48).fmod 7).toNat - 1, ?_, (a _ m).2⟩
    rw [if_pos hc]
    congr 1
    omega
  · left
    rw [if_neg hc]
    exact (a _ m).1
theorem piece_len (x : Int) : (pieceOf x).length ≤ 6 := by
  have hy1 := Int.fmod_lt_of_pos (x.fdiv 48) (show (0 : Int) < 7 by decide)
  unfold pieceOf
  by_cases hc : 0 < (x.fdiv 48).fmod 7
  · rw [if_pos hc, List.length_replicate]
    omega
  · rw [if_neg hc]
    have := ops_len (k := (x.fmod 48).toNat)
    omega
theorem range_size (n : Nat) : Builtin.Range.rangeSize 0 n 1 = (n : Int) := by
  unfold Builtin.Range.rangeSize
  rw [if_pos (by decide)]
  by_cases h : (0 : Int) < n
  · rw [if_pos h]
    omega
  · rw [if_neg h]
    omega
theorem range_small {n : Nat} (h : n ≤ 1000000) : Builtin.Range.small 0 n 1 = true := by
  unfold Builtin.Range.small
  rw [range_size]
  simp [Builtin.Range.rangeFitsLong]
  omega
/-- an item of a list of texts, by its place -/
theorem item_S {l : List (Str × Tok)} {xs : List Int} {f : Int → List Nat} {i : Nat} {x : Int} {y : Str} (hl : l.map (·.1) = (xs.map f).map S) (hx : xs[i]? = some x) (hy : (l.map (·.1))[i]? = some y) : y = S (f x) := by
  rw [hl, List.getElem?_map, List.getElem?_map, hx] at hy
  exact (Option.some.inj hy).symm
theorem map_one {xs : List Int} {f : Int → Nat} : (xs.map f).map (fun c => S [c]) = (xs.map fun x => [f x]).map S := by
  rw [List.map_map, List.map_map]
  rfl
theorem flat_le {xs : List Int} (h : xs.length ≤ 9) : ((xs.map fun x => pieceOf x ++ [gapOf x]).flatten).length ≤ 100000 := by
  have key : ∀ xs : List Int, ((xs.map fun x => pieceOf x ++ [gapOf x]).flatten).length ≤ 7 * xs.length := by
    intro xs
    induction xs with
    | nil => exact Nat.le_refl _
    | cons x r ih =>
      have := piece_len x
      simp only [List.map_cons, List.flatten_cons, List.length_append, List.length_cons, List.length_nil] at ih ⊢
      omega
  have := key xs
  omega
end Mine
end

-- part WB
section
open PySem PySem.W PyProof.Rows PySem.Calls
set_option maxRecDepth 100000
set_option maxHeartbeats 8000000
set_option linter.unusedVariables false
namespace Mine
local macro_rules | `(tactic| walk_at "pad 0") => `(tactic| trivial)
local macro_rules | `(tactic| walk_at "pad 1") => `(tactic| trivial)
local macro_rules | `(tactic| walk_at "pad 2") => `(tactic| trivial)
local macro_rules | `(tactic| walk_at "pad 3") => `(tactic| trivial)
local macro_rules | `(tactic| walk_at "pad 4") => `(tactic| trivial)
local macro_rules | `(tactic| walk_at "pad 5") => `(tactic| trivial)
local macro_rules | `(tactic| walk_at "pad 6") => `(tactic| trivial)
local macro_rules | `(tactic| walk_at "pad 7") => `(tactic| trivial)
local macro_rules | `(tactic| walk_at "pad 8") => `(tactic| trivial)
local macro_rules | `(tactic| walk_at "pad 9") => `(tactic| trivial)
local macro_rules | `(tactic| walk_at "pad 10") => `(tactic| trivial)
local macro_rules | `(tactic| walk_at "pad 11") => `(tactic| trivial)
local macro_rules | `(tactic| walk_at "pad 12") => `(tactic| trivial)
local macro_rules | `(tactic| walk_at "pad 13") => `(tactic| trivial)
local macro_rules | `(tactic| walk_at "pad 14") => `(tactic| trivial)
local macro_rules | `(tactic| walk_at "pad 15") => `(tactic| trivial)
local macro_rules | `(tactic| walk_at "pad 16") => `(tactic| trivial)
local macro_rules | `(tactic| walk_at "pad 17") => `(tactic| trivial)
local macro_rules | `(tactic| walk_at "pad 18") => `(tactic| trivial)
local macro_rules | `(tactic| walk_at "pad 19") => `(tactic| trivial)
local macro_rules | `(tactic| walk_at "eval ListComp") => `(tactic| refine Hold.mk ?_)
local macro_rules | `(tactic| walk_at "CompSrc") => `(tactic| refine Hold.mk ?_)
local macro_rules | `(tactic| walk_at "subscriptTail Name Name ref int") => `(tactic| refine Hold.mk ?_)
local macro_rules | `(tactic| walk_at "execs cons") => `(tactic| ((with_reducible show wpAny _ _ (execs (Stmt.Assign [Expr.Name (PySem.Str.ofString "codes") _] _ _ :: _) _) _ _ _); refine Hold.mk ?_))
local macro_rules | `(tactic| walk_at "execs cons Assign cons") => `(tactic| ((with_reducible show wpAny _ _ (execs (Stmt.Assign [Expr.Name (PySem.Str.ofString "codes") _] _ _ :: _) _) _ _ _); refine Hold.mk ?_))
local macro_rules | `(tactic| walk_at "execs cons Assign") => `(tactic| ((with_reducible show wpAny _ _ (execs (Stmt.Assign [Expr.Name (PySem.Str.ofString "codes") _] _ _ :: _) _) _ _ _); refine Hold.mk ?_))
theorem law_B {w : World} {s : Shared} {p : Program} {loose : List Str} {mean : ExcName → Option Value} {mg mb : Str → Option Value} {Q : Flow → Shared → Prop} {h₀ : Heap} {L : Nat} {fa lscr : Addr} {op og o3 o4 o5 : Obj} {m : Str → Option Value} {xs ns : List Int} {Dg Dp Dn ng np cn : Nat} {lg lp ln : List (Str × Tok)} 
    {name qual : Str} {params : Arguments} {body : List Stmt} {scope : Scope} {dV kV doc pm cdv ct oc : Value} {an od : Option Addr} {osl : Array (Option Value)}
    (ho : (Mine.hd.heap_39 w.params).lookup 57 = some ⟨oc, od, .func (fnOf name qual params body scope dV kV doc pm an cdv ct), osl⟩)
    (X : (Mine.hd.heap_39 w.params).In h₀) (T : Top p loose mean mg mb h₀)
    (hm0 : m (Str.ofString "names") = some (.ref Dn)) (hm1 : m (Str.ofString "script") = some (.ref lscr)) (F : Fr h₀ L s.heap m)
    (N : News h₀ L s.heap [(Dg, W.listOf (strValues lg).toArray ng), (Dp, W.listOf (strValues lp).toArray np), (Dn, W.listOf (strValues ln).toArray cn), (L + 1 + 1 + 1 + 1 + 1, o5), (L + 1 + 1 + 1 + 1, o4), (L + 1 + 1 + 1, o3), (L + 1 + 1, og), (L + 1, op), (54, tabObj #[])])
    (hog : og.data = .cell (some (.ref Dg))) (hop : op.data = .cell (some (.ref Dp)))
    (hlp : lp.map (·.1) = (xs.map pieceOf).map S) (hlg : lg.map (·.1) = (xs.map fun x => [gapOf x]).map S) (hxs : xs.length ≤ 9) (lt1 : L + 5 < Dn) (lt2 : Dn < Dp) (lt3 : Dp < Dg) (hL : 54 < L)
    (hQ : ∀ h' tk m' ta, m' (Str.ofString "names") = some (.ref Dn) → m' (Str.ofString "script") = some (.ref lscr) → m' (Str.ofString "apart") = some (.str (S (xs.map fun x => pieceOf x ++ [gapOf x]).flatten) ta) → Fr h₀ L h' m' → News h₀ L h' [(Dg, W.listOf (strValues lg).toArray ng), (Dp, W.listOf (strValues lp).toArray np), (Dn, W.listOf (strValues ln).toArray cn), (L + 1 + 1 + 1 + 1 + 1, o5), (L + 1 + 1 + 1 + 1, o4), (L + 1 + 1 + 1, o3), (L + 1 + 1, og), (L + 1, op), (54, tabObj #[])] → wpAny (model PySem.Challenge.rw_mr0178_01.row.prog w) (callerA.deeper (envOfC qual scope L fa cdv)) (execs (body.drop 5) (envOfC qual scope L fa cdv)) Q (fun _ _ => False) { s with heap := h', toks := tk }) :
    wpAny (model PySem.Challenge.rw_mr0178_01.row.prog w) (callerA.deeper (envOfC qual scope L fa cdv)) (execs (body.drop 4) (envOfC qual scope L fa cdv)) Q (fun _ _ => False) s := by
  w_top off; revert X; k_fill; intro X
  have e := Option.some.inj (ho.symm.trans (rfl : (Mine.hd.heap_39 w.params).lookup 57 = some _))
  cases e
  clear ho
  simp only [List.drop]
  rw [fix1 hm0] at F
  rw [fix1 hm1] at F
  k_steps
  refine Hold.of ?_
  refine LCg.ListComp_U (F₀ := F) (by with_unfolding_all rfl) (by decide) (by rfl) (by decide) (by rfl) ?_
  k_steps
  have hlgl : lg.length = xs.length := by
    have := congrArg List.length hlg
    rw [List.length_map, List.length_map, List.length_map] at this
    exact this
  have hlpl : lp.length = xs.length := by
    have := congrArg List.length hlp
    rw [List.length_map, List.length_map, List.length_map] at this
    exact this
  refine len_strs (News.isList N List.mem_cons_self) (by omega) ?_
  rw [hlgl]
  (try dsimp only)
  k_steps
  rename_i h1 tk1 t1 u1 v1 hr F1 N1 up1
  refine Hold.of (LCg.CompSrc.range rfl F1 N1 hr (range_small (by omega)) (range_size _) (by rw [sizeLine_eq]; omega) ?_)
  intro g
  refine comp_ind (fun i ys => ∃ l, ys = strValues l ∧ l.map (·.1) = ((xs.take i).map fun x => pieceOf x ++ [gapOf x]).map S) ⟨[], rfl, rfl⟩ trivial ?_ ?_
  · rintro i ys v I oI C oC D m2 h tk E' hi ⟨l, rfl, hl⟩ ⟨t2, rfl⟩ hC hx F2 N2
    obtain ⟨x, hxx⟩ : ∃ x, xs[i]? = some x := ⟨_, List.getElem?_eq_getElem hi⟩
    have hpl := piece_len x
    have hti : (0 + (i : Int)).toNat = i := by omega
    k_steps
    refine Hold.of ?_
    refine' item_strs (l := lp) ?hl ?h0 ?hk ?hf ?_
    (case hl => exact News.isList N2 (by k_mem))
    (case h0 => omega)
    (case hk => omega)
    (case hf => omega)
    intro y ty hy
    rw [hti] at hy
    obtain rfl := item_S hlp hxx hy
    k_steps
    refine Hold.of ?_
    refine' item_strs (l := lg) ?hl ?h0 ?hk ?hf ?_
    (case hl => exact News.isList N2 (by k_mem))
    (case h0 => omega)
    (case hk => omega)
    (case hf => omega)
    intro y2 ty2 hy2
    rw [hti] at hy2
    obtain rfl := item_S (f := fun x => [gapOf x]) hlg hxx hy2
    k_steps
    refine s_add (by simp only [List.length_cons, List.length_nil]; omega) ?_
    intro t3 k3
    refine CompPost.intro ⟨l ++ [(S (pieceOf x ++ [gapOf x]), t3)], by simp [strValues], ?_⟩ (Grow.refl _)
    rw [List.take_add_one, hxx]
    simp [hl]
  · rintro ys ⟨l, rfl, hl⟩
    rw [List.take_length] at hl
    k_steps
    rename_i Da ha tka Fa Na oa
    refine s_join0 (News.isList Na (by k_mem)) hl (flat_le hxs) ?_
    intro t3 k3
    clear F1 N1
    (try dsimp only)
    k_steps
    rename_i hb Fb Nb
    refine Hold.of ?_
    exact hQ _ _ _ t3 rfl rfl rfl Fb (fun p hp => Nb p (List.mem_cons_of_mem _ hp))
end Mine
end

-- part WC
section
open PySem PySem.W PyProof.Rows PySem.Calls
set_option maxRecDepth 100000
set_option maxHeartbeats 8000000
set_option linter.unusedVariables false
namespace Mine
local macro_rules | `(tactic| walk_at "eval ListComp") => `(tactic| refine Hold.mk ?_)
local macro_rules | `(tactic| walk_at "CompSrc") => `(tactic| refine Hold.mk ?_)
local macro_rules | `(tactic| walk_at "call ref") => `(tactic| refine Hold.mk ?_)
local macro_rules | `(tactic| walk_at "execs cons") => `(tactic| ((with_reducible show wpAny _ _ (execs (Stmt.Assign [Expr.Name (PySem.Str.ofString "turn") _] _ _ :: _) _) _ _ _); refine Hold.mk ?_))
local macro_rules | `(tactic| walk_at "execs cons Assign cons") => `(tactic| ((with_reducible show wpAny _ _ (execs (Stmt.Assign [Expr.Name (PySem.Str.ofString "turn") _] _ _ :: _) _) _ _ _); refine Hold.mk ?_))
local macro_rules | `(tactic| walk_at "execs cons Assign") => `(tactic| ((with_reducible show wpAny _ _ (execs (Stmt.Assign [Expr.Name (PySem.Str.ofString "turn") _] _ _ :: _) _) _ _ _); refine Hold.mk ?_))
theorem written_here {w : World} {A : Around} {s : Shared} {p : Program} {loose : List Str} {mean : ExcName → Option Value} {mg mb : Str → Option Value} {y : List Nat} {t : Tok} {Q E : Value → Shared → Prop} {h₀ : Heap} {L : Addr} {m : Str → Option Value}
    (F : Fr h₀ L s.heap m) (X : (Mine.hd.heap_39 w.params).In h₀) (T : Top p loose mean mg mb h₀) (hd : A.depth + 10 < recursionLimit) (hu : A.units + 40 < cLine) (hh : A.handled = none)
    (hy : (num y).isSome = true ∨ ∃ c n, y = List.replicate (n + 1) c ∧ (num [c]).isSome = true) (hsz : y.length ≤ 1000)
    (hQ : ∀ u h' tk, Grow s.heap h' → Q (.str (S (wr y)) u) { s with heap := h', toks := tk }) :
    wpAny (model PySem.Challenge.rw_mr0178_01.row.prog w) A (call (.ref 52) [.str (S y) t]) Q E s := written_tells (X.keeps F.keep) (T.keeps F.keep) hd hu hh hy hsz hQ
theorem law_C {w : World} {s : Shared} {p : Program} {loose : List Str} {mean : ExcName → Option Value} {mg mb : Str → Option Value} {Q : Flow → Shared → Prop} {h₀ : Heap} {L : Nat} {fa lscr : Addr} {op og o3 o4 o5 : Obj} {m : Str → Option Value} {xs ns : List Int} {Dg Dp Dn ng np cn : Nat} {lg lp ln : List (Str × Tok)} {ta : Tok} {d3 : Option Value}
    {name qual : Str} {params : Arguments} {body : List Stmt} {scope : Scope} {dV kV doc pm cdv ct oc : Value} {an od : Option Addr} {osl : Array (Option Value)}
    (ho : (Mine.hd.heap_39 w.params).lookup 57 = some ⟨oc, od, .func (fnOf name qual params body scope dV kV doc pm an cdv ct), osl⟩)
    (X : (Mine.hd.heap_39 w.params).In h₀) (T : Top p loose mean mg mb h₀)
    (hm0 : m (Str.ofString "names") = some (.ref Dn)) (hm1 : m (Str.ofString "script") = some (.ref lscr)) (hm2 : m (Str.ofString "apart") = some (.str (S (xs.map fun x => pieceOf x ++ [gapOf x]).flatten) ta)) (F : Fr h₀ L s.heap m)
    (N : News h₀ L s.heap [(Dg, W.listOf (strValues lg).toArray ng), (Dp, W.listOf (strValues lp).toArray np), (Dn, W.listOf (strValues ln).toArray cn), (L + 1 + 1 + 1 + 1 + 1, o5), (L + 1 + 1 + 1 + 1, o4), (L + 1 + 1 + 1, o3), (L + 1 + 1, og), (L + 1, op), (54, tabObj #[])])
    (hog : og.data = .cell (some (.ref Dg))) (hop : op.data = .cell (some (.ref Dp))) (hd3 : o3.data = .cell d3)
    (hlp : lp.map (·.1) = (xs.map pieceOf).map S) (hlg : lg.map (·.1) = (xs.map fun x => [gapOf x]).map S) (hxs : xs.length ≤ 9) (lt1 : L + 5 < Dn) (lt2 : Dn < Dp) (lt3 : Dp < Dg) (hL : 54 < L)
    (hQ : ∀ h' tk m' (Dc nc : Nat) (lc : List (Str × Tok)) (oc' : Obj), m' (Str.ofString "names") = some (.ref Dn) → m' (Str.ofString "script") = some (.ref lscr) → m' (Str.ofString "apart") = some (.str (S (xs.map fun x => pieceOf x ++ [gapOf x]).flatten) ta) → Fr h₀ L h' m' → News h₀ L h' [(Dc, W.listOf (strValues lc).toArray nc), (Dg, W.listOf (strValues lg).toArray ng), (Dp, W.listOf (strValues lp).toArray np), (Dn, W.listOf (strValues ln).toArray cn), (L + 1 + 1 + 1 + 1 + 1, o5), (L + 1 + 1 + 1 + 1, o4), (L + 1 + 1 + 1, oc'), (L + 1 + 1, og), (L + 1, op), (54, tabObj #[])] → oc'.data = .cell (some (.ref Dc)) → lc.map (·.1) = (xs.map fun x => wr (pieceOf x)).map S → Dc ≠ L + 1 + 1 + 1 + 1 → Dc ≠ L + 1 + 1 + 1 + 1 + 1 → Dc ≠ 54 → wpAny (model PySem.Challenge.rw_mr0178_01.row.prog w) (callerA.deeper (envOfC qual scope L fa cdv)) (execs (body.drop 6) (envOfC qual scope L fa cdv)) Q (fun _ _ => False) { s with heap := h', toks := tk }) :
    wpAny (model PySem.Challenge.rw_mr0178_01.row.prog w) (callerA.deeper (envOfC qual scope L fa cdv)) (execs (body.drop 5) (envOfC qual scope L fa cdv)) Q (fun _ _ => False) s := by
  w_top off; revert X; k_fill; intro X
  have e := Option.some.inj (ho.symm.trans (rfl : (Mine.hd.heap_39 w.params).lookup 57 = some _))
  cases e
  clear ho
  simp only [List.drop]
  rw [fix1 hm0] at F
  rw [fix1 hm1] at F
  rw [fix1 hm2] at F
  have hlpl : lp.length = xs.length := by
    have := congrArg List.length hlp
    rw [List.length_map, List.length_map, List.length_map] at this
    exact this
  k_steps
  refine Hold.of ?_
  refine LCg.ListComp_U (F₀ := F) (by with_unfolding_all rfl) (by decide) (by rfl) (by decide) (by rfl) ?_
  k_steps
  refine Hold.of (LCg.CompSrc.ledger (k := np) (its := (strValues lp).toArray) rfl F N (by k_mem) (by simp only [strValues, List.size_toArray, List.length_map]; rw [sizeLine_eq]; omega) ?_)
  intro g
  refine comp_ind (fun i ys => ∃ l, ys = strValues l ∧ l.map (·.1) = ((xs.take i).map fun x => wr (pieceOf x)).map S) ⟨[], rfl, rfl⟩ (.inr ⟨_, by k_mem, rfl, _, rfl⟩) ?_ ?_
  · rintro i ys v I oI C oC D m2 h tk E' hi ⟨l, rfl, hl⟩ hv hC hx F2 N2
    obtain ⟨q, hq, rfl⟩ := strAt (i := i) (by simpa using hv)
    obtain ⟨x, hxx⟩ : ∃ x, xs[i]? = some x := ⟨_, List.getElem?_eq_getElem (by simpa [strValues, hlpl] using hi)⟩
    obtain ⟨q, tq⟩ := q
    obtain rfl : q = S (pieceOf x) := item_S hlp hxx (by rw [List.getElem?_map, hq]; rfl)
    have hpl := piece_len x
    k_steps
    refine Hold.of (written_here F2 X T ?hd ?hu rfl (piece_ok x) (by omega) ?_)
    (case hd => simp only [depth_deeper, depth_caller]; decide)
    (case hu => exact Nat.le_of_ble_eq_true rfl)
    intro t3 h3 k3 gr
    refine CompPost.intro ⟨l ++ [(S (wr (pieceOf x)), t3)], by simp [strValues], ?_⟩ gr
    rw [List.take_add_one, hxx]
    simp [hl]
  · rintro ys ⟨l, rfl, hl⟩
    rw [show (strValues lp).toArray.size = xs.length by simp [strValues, hlpl], List.take_length] at hl
    k_steps
    rename_i D9 h8 tk8 ne9 h9 o9 F9 N9 d9
    refine Hold.of ?_
    exact hQ _ _ _ D9 _ l o9 rfl rfl rfl F9 N9 d9 hl (neN (by omega)) (neN (by omega)) (neN (by omega))
end Mine
end

-- part WD
section
open PySem PySem.W PyProof.Rows PySem.Calls
set_option maxRecDepth 100000
set_option maxHeartbeats 8000000
set_option linter.unusedVariables false
namespace Mine
local macro_rules | `(tactic| walk_at "pad 0") => `(tactic| trivial)
local macro_rules | `(tactic| walk_at "pad 1") => `(tactic| trivial)
local macro_rules | `(tactic| walk_at "pad 2") => `(tactic| trivial)
local macro_rules | `(tactic| walk_at "pad 3") => `(tactic| trivial)
local macro_rules | `(tactic| walk_at "pad 4") => `(tactic| trivial)
local macro_rules | `(tactic| walk_at "pad 5") => `(tactic| trivial)
local macro_rules | `(tactic| walk_at "pad 6") => `(tactic| trivial)
local macro_rules | `(tactic| walk_at "pad 7") => `(tactic| trivial)
local macro_rules | `(tactic| walk_at "pad 8") => `(tactic| trivial)
local macro_rules | `(tactic| walk_at "pad 9") => `(tactic| trivial)
local macro_rules | `(tactic| walk_at "pad 10") => `(tactic| trivial)
local macro_rules | `(tactic| walk_at "pad 11") => `(tactic| trivial)
local macro_rules | `(tactic| walk_at "pad 12") => `(tactic| trivial)
local macro_rules | `(tactic| walk_at "pad 13") => `(tactic| trivial)
local macro_rules | `(tactic| walk_at "pad 14") => `(tactic| trivial)
local macro_rules | `(tactic| walk_at "pad 15") => `(tactic| trivial)
local macro_rules | `(tactic| walk_at "pad 16") => `(tactic| trivial)
local macro_rules | `(tactic| walk_at "pad 17") => `(tactic| trivial)
local macro_rules | `(tactic| walk_at "pad 18") => `(tactic| trivial)
local macro_rules | `(tactic| walk_at "pad 19") => `(tactic| trivial)
local macro_rules | `(tactic| walk_at "execs cons") => `(tactic| ((with_reducible show wpAny _ _ (execs (Stmt.Assign [Expr.Name (PySem.Str.ofString "forth") _] _ _ :: _) _) _ _ _); refine Hold.mk ?_))
local macro_rules | `(tactic| walk_at "execs cons Assign cons") => `(tactic| ((with_reducible show wpAny _ _ (execs (Stmt.Assign [Expr.Name (PySem.Str.ofString "forth") _] _ _ :: _) _) _ _ _); refine Hold.mk ?_))
local macro_rules | `(tactic| walk_at "execs cons Assign") => `(tactic| ((with_reducible show wpAny _ _ (execs (Stmt.Assign [Expr.Name (PySem.Str.ofString "forth") _] _ _ :: _) _) _ _ _); refine Hold.mk ?_))
theorem law_D {w : World} {s : Shared} {p : Program} {loose : List Str} {mean : ExcName → Option Value} {mg mb : Str → Option Value} {Q : Flow → Shared → Prop} {h₀ : Heap} {L : Nat} {fa lscr : Addr} {op og o3 o4 o5 : Obj} {m : Str → Option Value} {xs ns : List Int} {Dc Dg Dp Dn nc ng np cn : Nat} {lc lg lp ln : List (Str × Tok)} {ta : Tok} {d4 : Option Value} {vs : List Value}
    {name qual : Str} {params : Arguments} {body : List Stmt} {scope : Scope} {dV kV doc pm cdv ct oc : Value} {an od : Option Addr} {osl : Array (Option Value)}
    (ho : (Mine.hd.heap_39 w.params).lookup 57 = some ⟨oc, od, .func (fnOf name qual params body scope dV kV doc pm an cdv ct), osl⟩)
    (X : (Mine.hd.heap_39 w.params).In h₀) (T : Top p loose mean mg mb h₀)
    (hm0 : m (Str.ofString "names") = some (.ref Dn)) (hm1 : m (Str.ofString "script") = some (.ref lscr)) (hm2 : m (Str.ofString "apart") = some (.str (S (xs.map fun x => pieceOf x ++ [gapOf x]).flatten) ta)) (F : Fr h₀ L s.heap m)
    (N : News h₀ L s.heap [(Dc, W.listOf (strValues lc).toArray nc), (Dg, W.listOf (strValues lg).toArray ng), (Dp, W.listOf (strValues lp).toArray np), (Dn, W.listOf (strValues ln).toArray cn), (L + 1 + 1 + 1 + 1 + 1, o5), (L + 1 + 1 + 1 + 1, o4), (L + 1 + 1 + 1, o3), (L + 1 + 1, og), (L + 1, op), (54, tabObj #[])])
    (hog : og.data = .cell (some (.ref Dg))) (hop : op.data = .cell (some (.ref Dp))) (hoc : o3.data = .cell (some (.ref Dc))) (hd4 : o4.data = .cell d4)
    (hlp : lp.map (·.1) = (xs.map pieceOf).map S) (hlg : lg.map (·.1) = (xs.map fun x => [gapOf x]).map S) (hxs : xs.length ≤ 9) (lt1 : L + 5 < Dn) (lt2 : Dn < Dp) (lt3 : Dp < Dg) (hL : 54 < L) (hln : ln.map (·.1) = opsL.map S) (hlc : lc.map (·.1) = (xs.map fun x => wr (pieceOf x)).map S) (hDc4 : Dc ≠ L + 1 + 1 + 1 + 1) (hDc5 : Dc ≠ L + 1 + 1 + 1 + 1 + 1) (hDct : Dc ≠ 54) (hscr : h₀.IsList lscr vs.toArray) (hI : IntsAre vs ns) (hlen : ns.length ≤ 63)
    (hQ : ∀ h' tk m' (Dt nt : Nat) (lt : List (Str × Tok)) (oc' : Obj), m' (Str.ofString "names") = some (.ref Dn) → m' (Str.ofString "script") = some (.ref lscr) → m' (Str.ofString "apart") = some (.str (S (xs.map fun x => pieceOf x ++ [gapOf x]).flatten) ta) → Fr h₀ L h' m' → News h₀ L h' [(Dt, W.listOf (strValues lt).toArray nt), (Dc, W.listOf (strValues lc).toArray nc), (Dg, W.listOf (strValues lg).toArray ng), (Dp, W.listOf (strValues lp).toArray np), (Dn, W.listOf (strValues ln).toArray cn), (L + 1 + 1 + 1 + 1 + 1, o5), (L + 1 + 1 + 1 + 1, oc'), (L + 1 + 1 + 1, o3), (L + 1 + 1, og), (L + 1, op), (54, tabObj #[])] → oc'.data = .cell (some (.ref Dt)) → lt.map (·.1) = (opsL.drop ((ns.take 6).sum.fmod 48).toNat ++ opsL.take ((ns.take 6).sum.fmod 48).toNat).map S → Dt ≠ L + 1 + 1 + 1 + 1 + 1 → Dt ≠ 54 → wpAny (model PySem.Challenge.rw_mr0178_01.row.prog w) (callerA.deeper (envOfC qual scope L fa cdv)) (execs (body.drop 8) (envOfC qual scope L fa cdv)) Q (fun _ _ => False) { s with heap := h', toks := tk }) :
    wpAny (model PySem.Challenge.rw_mr0178_01.row.prog w) (callerA.deeper (envOfC qual scope L fa cdv)) (execs (body.drop 6) (envOfC qual scope L fa cdv)) Q (fun _ _ => False) s := by
  w_top off; revert X; k_fill; intro X
  have e := Option.some.inj (ho.symm.trans (rfl : (Mine.hd.heap_39 w.params).lookup 57 = some _))
  cases e
  clear ho
  simp only [List.drop]
  rw [fix1 hm0] at F
  rw [fix1 hm1] at F
  rw [fix1 hm2] at F
  have hr0 := Int.fmod_nonneg_of_pos (ns.take 6).sum (show (0 : Int) < 48 by decide)
  have hr1 := Int.fmod_lt_of_pos (ns.take 6).sum (show (0 : Int) < 48 by decide)
  have hlnl : ln.length = 48 := by
    have := congrArg List.length hln
    rw [List.length_map, List.length_map] at this
    exact this
  k_steps
  rename_i h1 F1 N1
  have hsl : (strValues ln).length = 48 := by simp [strValues, hlnl]
  have hl1 : h1.IsList Dn (strValues ln).toArray := ⟨_, (N1 (Dn, _) (by k_mem)).1, rfl, _, rfl⟩
  refine slice_list (lo := some ((ns.take 6).sum.fmod 48)) (hi := none) F1 N1 hl1 (.int _ _) .none ?_ (hsz := ?_)
  rotate_left
  · rw [List.size_toArray, hsl, sizeLine_eq]; decide
  intro h2 F2 N2
  dsimp only at N2 ⊢
  clear F1 N1
  k_steps
  have hl2 : h2.IsList Dn (strValues ln).toArray := ⟨_, (N2 (Dn, _) (by k_mem)).1, rfl, _, rfl⟩
  refine slice_list (lo := none) (hi := some ((ns.take 6).sum.fmod 48)) F2 N2 hl2 .none (.int _ _) ?_ (hsz := ?_)
  rotate_left
  · rw [List.size_toArray, hsl, sizeLine_eq]; decide
  intro h3 F3 N3
  dsimp only at N3 ⊢
  clear F2 N2
  k_steps
  obtain ⟨r, hr⟩ := Int.eq_ofNat_of_zero_le hr0
  have hA : h3.IsList (h1.objs.size + 1) (strValues (ln.drop r)).toArray := ⟨_, (N3 (h1.objs.size + 1, _) (by k_mem)).1, rfl, 0, by rw [hr, slicePick_from']; simp [strValues, List.map_drop]⟩
  have hB : h3.IsList (h2.objs.size + 1) (strValues (ln.take r)).toArray := ⟨_, (N3 (h2.objs.size + 1, _) (by k_mem)).1, rfl, 0, by rw [hr, slicePick_upto']; simp [strValues, List.map_take]⟩
  have b4 : L + 1 + 1 + 1 + 1 < h3.objs.size := Heap.lt_size (N3 (L + 1 + 1 + 1 + 1, o4) (by k_mem)).1
  have b5 : L + 1 + 1 + 1 + 1 + 1 < h3.objs.size := Heap.lt_size (N3 (L + 1 + 1 + 1 + 1 + 1, o5) (by k_mem)).1
  have b54 : 54 < h3.objs.size := Heap.lt_size (N3 (54, tabObj #[]) (by k_mem)).1
  refine add_lists F3 N3 hA hB ?_ (hsz := ?_)
  rotate_left
  · have e1 : (strValues (ln.drop r)).length ≤ 48 := by simp [strValues, hlnl]
    have e2 : (strValues (ln.take r)).length ≤ 48 := by simp [strValues, hlnl]; omega
    rw [sizeLine_eq]
    omega
  intro h4 F4 N4
  dsimp only at N4 ⊢
  have N5 : News h₀ L h4 [(h3.objs.size, W.listOf (strValues (ln.drop r) ++ strValues (ln.take r)).toArray 0), (Dc, W.listOf (strValues lc).toArray nc), (Dg, W.listOf (strValues lg).toArray ng), (Dp, W.listOf (strValues lp).toArray np), (Dn, W.listOf (strValues ln).toArray cn), (L + 1 + 1 + 1 + 1 + 1, o5), (L + 1 + 1 + 1 + 1, o4), (L + 1 + 1 + 1, o3), (L + 1 + 1, og), (L + 1, op), (54, tabObj #[])] := by
    intro p hp
    rcases List.mem_cons.mp hp with rfl | hp
    · exact N4 _ List.mem_cons_self
    · exact N4 p (List.mem_cons_of_mem _ (List.mem_cons_of_mem _ (List.mem_cons_of_mem _ (List.mem_cons_of_mem _ hp))))
  clear F3 N3 N4
  k_steps
  rename_i h5 o5' F5 N6 d5
  refine Hold.of ?_
  refine hQ _ _ _ h3.objs.size 0 (ln.drop r ++ ln.take r) o5' rfl rfl rfl F5 ?_ d5 ?_ (neN (by omega)) (neN (by omega))
  · rw [show strValues (ln.drop r ++ ln.take r) = strValues (ln.drop r) ++ strValues (ln.take r) by simp [strValues]]
    exact N6
  · rw [List.map_append, List.map_drop, List.map_take, hln, hr]
    simp [List.map_drop, List.map_take]
end Mine
end

-- part WE0
section
open PySem PySem.W PyProof.Rows PySem.Calls
set_option maxRecDepth 100000
set_option maxHeartbeats 8000000
set_option linter.unusedVariables false
namespace Mine
/-- a comprehension of two clauses, the second with a test -/
abbrev comp2 (elt : Expr) (x y : Str) (px py : Pos) (iter1 iter2 c : Expr) (scope : Scope) (pos : Pos) : Expr :=
  .ListComp elt [⟨.Name x px, iter1, [], 0⟩, ⟨.Name y py, iter2, [c], 0⟩] scope pos
section
variable {prog : Program} {w : World} {A : Around} {R : Result → Shared → Prop} {s : Shared} {elt iter1 iter2 c : Expr} {x y : Str} {px py pos : Pos} {scope : Scope} {it acc : Value} {env : Env}
theorem loop_out (I : Nat → Shared → Prop)
    (turn : ∀ n s, I n s → wpAny (model prog w) A (pyNext it) (fun r s₁ => match r with
      | none => R (.ok .next) s₁
      | some v => wpAny (model prog w) A (assign (.Name x px) env v) (fun _ s₂ => wpAny (model prog w) A (eval iter2 env) (fun a s₃ => wpAny (model prog w) A (pyIter a) (fun it2 s₄ =>
          codeAny (model prog w) A (.compStart (comp2 elt x y px py iter1 iter2 c scope pos) 1 it2 acc env) (fun r s₅ => (∃ f, r = .ok f) ∧ Lower I n s₅) s₄) (fun _ _ => False) s₃) (fun _ _ => False) s₂) (fun _ _ => False) s₁) (fun _ _ => False) s)
    (n : Nat) (h : I n s) (hs : ∀ a, foldedSetIterable iter2 env a = pure a := by intro _; rfl) :
    codeAny (model prog w) A (.compLoop (comp2 elt x y px py iter1 iter2 c scope pos) 0 it acc env) R s := by
  refine codeAny_loop rfl I (fun n s hI => ?_) n h
  show wpAny _ A ((compTurn (comp2 elt x y px py iter1 iter2 c scope pos) 0 it acc env).onRaise (fun x => do noteFrame x env; theTreesLotGoes x)) _ _ s
  refine wpAny_noted ?_
  unfold compTurn
  dsimp only
  show wpAny _ A (standAt iter1.pos >>= fun _ => pyNext it >>= _) _ _ s
  refine wpAny_bind (wpAny_standAt (wpAny_bind (wpAny_mono (turn n s hI) (fun r s₁ h₁ => ?_) fun _ _ h' => h'.elim)))
  cases r with
  | none => exact wpAny_pure h₁
  | some v =>
    show wpAny _ A (pure () >>= fun _ => assign (.Name x px) env v >>= _) _ _ s₁
    refine wpAny_bind (wpAny_pure (wpAny_bind (wpAny_mono h₁ (fun _ s₂ h₂ => ?_) fun _ _ h' => h'.elim)))
    show wpAny _ A (eval iter2 env >>= fun a => standAt iter2.pos >>= fun _ => foldedSetIterable iter2 env a >>= fun a => holding [a] (pyIter a) >>= fun it2 => runOwn (.compStart (comp2 elt x y px py iter1 iter2 c scope pos) 1 it2 acc env) env >>= fun _ => again (.compLoop (comp2 elt x y px py iter1 iter2 c scope pos) 0 it acc env)) _ _ s₂
    refine wpAny_bind (wpAny_mono h₂ (fun a s₃ h₃ => ?_) fun _ _ h' => h'.elim)
    refine wpAny_bind (wpAny_standAt (wpAny_bind (wpAny_of_eq (hs a) (wpAny_bind (wpAny_holding (wpAny_mono h₃ (fun it2 s₄ h₄ => ?_) fun _ _ h' => h'.elim))))))
    refine wpAny_bind (wpAny_runOwn (codeAny_mono h₄ fun r s₅ h₅ => ?_))
    obtain ⟨⟨f, rfl⟩, m, hm, hI'⟩ := h₅
    exact wpAny_pure ⟨rfl, m, hm, hI'⟩
theorem loop_in (I : Nat → Shared → Prop)
    (turn : ∀ n s, I n s → wpAny (model prog w) A (pyNext it) (fun r s₁ => match r with
      | none => R (.ok .next) s₁
      | some v => wpAny (model prog w) A (assign (.Name y py) env v) (fun _ s₂ => wpAny (model prog w) A (isTrue c env (eval c env)) (fun ok s₃ =>
          if ok = true then wpAny (model prog w) A (eval elt env) (fun x s₄ => wpAny (model prog w) A (call (.builtin "list.append") [acc, x]) (fun _ s₅ => Lower I n s₅) (fun _ _ => False) s₄) (fun _ _ => False) s₃
          else Lower I n s₃) (fun _ _ => False) s₂) (fun _ _ => False) s₁) (fun _ _ => False) s)
    (n : Nat) (h : I n s) :
    codeAny (model prog w) A (.compLoop (comp2 elt x y px py iter1 iter2 c scope pos) 1 it acc env) R s := by
  refine codeAny_loop rfl I (fun n s hI => ?_) n h
  show wpAny _ A ((compTurn (comp2 elt x y px py iter1 iter2 c scope pos) 1 it acc env).onRaise (fun x => do noteFrame x env; theTreesLotGoes x)) _ _ s
  refine wpAny_noted ?_
  unfold compTurn
  dsimp only
  show wpAny _ A (standAt iter2.pos >>= fun _ => pyNext it >>= _) _ _ s
  refine wpAny_bind (wpAny_standAt (wpAny_bind (wpAny_mono (turn n s hI) (fun r s₁ h₁ => ?_) fun _ _ h' => h'.elim)))
  cases r with
  | none => exact wpAny_pure h₁
  | some v =>
    show wpAny _ A (pure () >>= fun _ => assign (.Name y py) env v >>= fun _ => (forIn [c] true fun c r => if r = true then do let ok ← isTrue c env (eval c env); pure (ForInStep.yield ok) else pure (ForInStep.yield r)) >>= _) _ _ s₁
    refine wpAny_bind (wpAny_pure (wpAny_bind (wpAny_mono h₁ (fun _ s₂ h₂ => ?_) fun _ _ h' => h'.elim)))
    refine wpAny_bind (wpAny_tests_one (wpAny_mono h₂ (fun ok s₃ h₃ => ?_) fun _ _ h' => h'.elim))
    cases ok with
    | false => exact wpAny_pure ⟨rfl, h₃⟩
    | true =>
      exact wpAny_bind (wpAny_bind (wpAny_mono h₃ (fun x s₄ h₄ => wpAny_bind (wpAny_mono h₄ (fun _ s₅ h₅ => wpAny_pure (wpAny_pure ⟨rfl, h₅⟩)) fun _ _ h' => h'.elim)) fun _ _ h' => h'.elim))
theorem start_in (h0 : codeAny (model prog w) A (.compLoop (comp2 elt x y px py iter1 iter2 c scope pos) 1 it acc env) R s)
    (h : wpAny (model prog w) A (pyIter it) (fun it' s' => codeAny (model prog w) A (.compLoop (comp2 elt x y px py iter1 iter2 c scope pos) 1 it' acc env) R s') (fun _ _ => False) s) :
    codeAny (model prog w) A (.compStart (comp2 elt x y px py iter1 iter2 c scope pos) 1 it acc env) R s := by
  refine codeAny_of_tree ?_
  show wpAny _ A ((compStart (comp2 elt x y px py iter1 iter2 c scope pos) 1 it acc env).onRaise (fun x => do noteFrame x env; standAt theWindowsPlace)) _ _ s
  refine wpAny_notedAt ?_
  unfold compStart
  show wpAny _ A (ask >>= _) _ _ s
  refine wpAny_bind (wpAny_askSetting (wpAny_ite ?_))
  split
  · first
      | exact wpAny_bind (wpAny_pure (wpAny_pure (And.intro rfl h0)))
      | exact wpAny_pure (And.intro rfl h0)
  · first
      | exact wpAny_bind (wpAny_rule (wpAny_bind (wpAny_standAt (wpAny_bind (wpAny_mono h (fun it' s' h' => wpAny_pure (And.intro rfl h')) fun _ _ x => x.elim)))))
      | (refine wpAny_bind (wpAny_rule ?_); show wpAny _ A (standAt iter2.pos >>= _) _ _ s; exact wpAny_bind (wpAny_standAt (wpAny_bind (wpAny_mono h (fun it' s' h' => wpAny_pure (And.intro rfl h')) fun _ _ x => x.elim))))
end
end Mine
end

-- part WE1
section
open PySem PySem.W PyProof.Rows PySem.Calls
set_option maxRecDepth 100000
set_option maxHeartbeats 8000000
set_option linter.unusedVariables false
namespace Mine
def C2Src (prog : Program) (w : World) (A : Around) (elt iter2 c : Expr) (x y : Str) (scope : Scope) (env : Env) (cl : List (Str × Addr)) (its2 : Array Value) (ax : Addr) (p : Value → Value → Bool) (Q : Value → Shared → Prop) (v : Value) (s₁ : Shared) : Prop :=
  ∃ (its1 : Array Value) (tt : Addr), v = .ref tt ∧ s₁.heap.IsTuple tt its1 ∧ s₁.heap.IsList ax its2 ∧ its1.size * its2.size + its2.size ≤ sizeLine ∧
      (∀ C s₃ m₃ (E' : Value → Shared → Prop), s₁.heap.get? C = none → s₃.heap.Ns C m₃ → Grow s₁.heap s₃.heap → wpAny (model prog w) A (eval iter2 (compEnvC scope cl C env)) (fun r s₄ => r = .ref ax ∧ Keeps s₃ s₄) E' s₃) ∧
      (∀ C v1 v2 s₃ m₃ (E' : Value → Shared → Prop), s₁.heap.get? C = none → v1 ∈ its1.toList → v2 ∈ its2.toList → s₃.heap.Ns C m₃ → m₃ x = some v1 → m₃ y = some v2 → Grow s₁.heap s₃.heap →
        wpAny (model prog w) A (isTrue c (compEnvC scope cl C env) (eval c (compEnvC scope cl C env))) (fun b s₄ => b = p v1 v2 ∧ Keeps s₃ s₄) E' s₃) ∧
      (∀ C v1 v2 s₃ m₃ (E' : Value → Shared → Prop), s₁.heap.get? C = none → v1 ∈ its1.toList → v2 ∈ its2.toList → s₃.heap.Ns C m₃ → m₃ x = some v1 → m₃ y = some v2 → Grow s₁.heap s₃.heap →
        wpAny (model prog w) A (eval elt (compEnvC scope cl C env)) (fun r s₄ => r = v2 ∧ Keeps s₃ s₄) E' s₃) ∧
      (∀ D h' tk ys, s₁.heap.get? D = none → h'.PlainList D ys → ys.toList = its1.toList.flatMap (fun v1 => its2.toList.filter (p v1)) → Grow s₁.heap h' → Q (.ref D) { s₁ with heap := h', toks := tk })
section
variable {prog : Program} {w : World} {A : Around} {E : Value → Shared → Prop} {s : Shared} {elt iter1 iter2 c : Expr} {x y : Str} {px py pos : Pos} {scope : Scope} {env : Env} {cl : List (Str × Addr)}
/-- the inner loop of a comprehension of two clauses, over a list -/
theorem inner_loop {R : Result → Shared → Prop} {s₁ : Shared} {tt ax I1 D C I2 : Addr} {its2 ys : Array Value} {j : Nat} {v1 : Value} {p : Value → Bool} {h : Heap} {tk : Nat} {m : Str → Option Value}
    (hh : A.handled = none) (hy : scope.names.lookup y = some .local) (hkind : scope.kind = .function) (hxy : x ≠ y)
    (hl : s₁.heap.IsList ax its2) (g : Grow s₁.heap h) (n1 : I1 ≠ C) (n2 : I1 ≠ D) (n3 : I1 ≠ I2) (n4 : C ≠ D) (n5 : C ≠ I2) (n6 : D ≠ I2)
    (f1 : s₁.heap.get? I1 = none) (f2 : s₁.heap.get? C = none) (f3 : s₁.heap.get? D = none) (f4 : s₁.heap.get? I2 = none)
    (hI2 : h.IsListIter I2 ax 0) (hI1 : h.IsTupleIter I1 tt j) (hD : h.PlainList D ys) (hC : h.Ns C m) (hm : m x = some v1) (hsz : ys.size + its2.size ≤ sizeLine)
    (htest : ∀ v2 s₃ m₃ (E' : Value → Shared → Prop), v2 ∈ its2.toList → s₃.heap.Ns C m₃ → m₃ x = some v1 → m₃ y = some v2 → Grow s₁.heap s₃.heap →
      wpAny (model prog w) A (isTrue c (compEnvC scope cl C env) (eval c (compEnvC scope cl C env))) (fun b s₄ => b = p v2 ∧ Keeps s₃ s₄) E' s₃)
    (helt : ∀ v2 s₃ m₃ (E' : Value → Shared → Prop), v2 ∈ its2.toList → s₃.heap.Ns C m₃ → m₃ x = some v1 → m₃ y = some v2 → Grow s₁.heap s₃.heap →
      wpAny (model prog w) A (eval elt (compEnvC scope cl C env)) (fun r s₄ => r = v2 ∧ Keeps s₃ s₄) E' s₃)
    (hR : ∀ h' tk' m' ys', h'.IsTupleIter I1 tt j → h'.PlainList D ys' → ys'.toList = ys.toList ++ its2.toList.filter p → h'.Ns C m' → Grow s₁.heap h' → R (.ok .next) { s₁ with heap := h', toks := tk' }) :
    codeAny (model prog w) A (.compLoop (comp2 elt x y px py iter1 iter2 c scope pos) 1 (.ref I2) (.ref D) (compEnvC scope cl C env)) R { s₁ with heap := h, toks := tk } := by
  have hax : ax ≠ I2 := by
    rintro rfl
    obtain ⟨o, e, _⟩ := hl
    rw [f4] at e
    cases e
  have W := Walks.list (prog := prog) (w := w) hh I2 ax hax its2
  refine loop_in (fun k s' => ∃ h' tk' m' i ys', s' = { s₁ with heap := h', toks := tk' } ∧ h'.IsListIter I2 ax i ∧ i ≤ its2.size ∧ k = its2.size + 1 - i ∧ h'.PlainList D ys' ∧ ys'.toList = ys.toList ++ (its2.toList.take i).filter p ∧ h'.Ns C m' ∧ m' x = some v1 ∧ h'.IsTupleIter I1 tt j ∧ Grow s₁.heap h')
    ?_ (its2.size + 1) ⟨h, tk, m, 0, ys, rfl, hI2, Nat.zero_le _, rfl, hD, by simp, hC, hm, hI1, g⟩
  rintro k s' ⟨h', tk', m', i, ys', rfl, hi2, hi, rfl, hd, hys, hc, hmx, hi1, gr⟩
  have hl' : h'.IsList ax its2 := hl.at fun o e => gr _ _ e
  by_cases hlt : i < its2.size
  · refine W.item i _ _ _ hlt ⟨hi2, hl'⟩ fun v h₂ tk₂ hP hst₂ hk₂ => ?_
    have hk2 : ∀ b o, b ≠ I2 → h'.get? b = some o → h₂.get? b = some o := fun b o hb e => hk₂ b o (by simpa using hb) e
    have hmem : v ∈ its2.toList := by
      rw [Array.mem_toList_iff]
      exact Array.mem_of_getElem? hP
    refine wpAny_assign_Name (wpAny_storeName_local (lookup_relabel_local hy) (hc.at' fun o e => hk2 _ o n5 e) (fun h₃ hn₃ hs₃ => ?_) (by simp [compEnvC, relabel, hkind]))
    have hk3 : ∀ b o, b ≠ C → b ≠ I2 → h'.get? b = some o → h₃.get? b = some o := fun b o hb hb2 e => hs₃.extBut b o hb (hk2 b o hb2 e)
    have g3 : Grow s₁.heap h₃ := fun b o e => hk3 b o (by rintro rfl; rw [f2] at e; cases e) (by rintro rfl; rw [f4] at e; cases e) (gr b o e)
    have mx : (fun z => if z = y then some v else m' z) x = some v1 := by simp [hxy, hmx]
    refine wpAny_mono (htest v _ _ _ hmem hn₃ mx (by simp) g3) (fun b s₄ hb => ?_) fun _ _ e => e
    obtain ⟨rfl, h₄, tk₄, rfl, hk₄⟩ := hb
    have i1' : h₄.IsTupleIter I1 tt j := hi1.at fun o e => hk₄ _ _ (hk3 _ o n1 n3 e)
    have i2' : h₄.IsListIter I2 ax (i + 1) := hst₂.1.at fun o e => hk₄ _ _ (hs₃.extBut _ o n5.symm e)
    have d' : h₄.PlainList D ys' := hd.at fun o e => hk₄ _ _ (hk3 _ o n4.symm n6 e)
    have c' : h₄.Ns C _ := hn₃.keeps hk₄
    have g4 : Grow s₁.heap h₄ := fun b o e => hk₄ b o (g3 b o e)
    have hv : (its2.toList.take (i + 1)).filter p = (its2.toList.take i).filter p ++ (if p v then [v] else []) := by
      rw [List.take_add_one, show its2.toList[i]? = some v by rw [Array.getElem?_toList]; exact hP]
      simp [List.filter_append, List.filter_cons]
    cases hpv : p v with
    | false =>
      simp only [Bool.false_eq_true, if_false]
      refine ⟨its2.size + 1 - (i + 1), by omega, h₄, tk₄, _, i + 1, ys', rfl, i2', hlt, rfl, d', ?_, c', mx, i1', g4⟩
      rw [hv, hpv, hys]
      simp
    | true =>
      simp only [if_true]
      refine wpAny_mono (helt v _ _ _ hmem c' mx (by simp) g4) (fun r s₅ hr => ?_) fun _ _ e => e
      obtain ⟨rfl, h₅, tk₅, rfl, hk₅⟩ := hr
      have hle : ys'.size ≤ sizeLine := by
        have e1 := congrArg List.length hys
        rw [List.length_append, Array.length_toList, Array.length_toList] at e1
        have e2 := List.length_filter_le p (its2.toList.take i)
        have e3 : (its2.toList.take i).length ≤ its2.size := by rw [List.length_take, Array.length_toList]; omega
        omega
      refine wpAny_list_append_plain (hsz := hle) (d'.at fun o e => hk₅ _ _ e) fun h₆ hl₆ hs₆ => ?_
      refine ⟨its2.size + 1 - (i + 1), by omega, h₆, tk₅, _, i + 1, ys'.push r, rfl, i2'.at fun o e => hs₆.extBut _ _ n6.symm (hk₅ _ _ e), hlt, rfl, hl₆, ?_, (c'.keeps hk₅).sameBut hs₆ n4, mx, i1'.at fun o e => hs₆.extBut _ _ n2 (hk₅ _ _ e), fun b o e => hs₆.extBut b o (by rintro rfl; rw [f3] at e; cases e) (hk₅ b o (g4 b o e))⟩
      rw [hv, hpv, Array.toList_push, hys]
      simp
  · have hin : i = its2.size := by omega
    subst hin
    refine W.done _ _ _ ⟨hi2, hl'⟩ fun h₂ tk₂ hk₂ => ?_
    have hk2 : ∀ b o, b ≠ I2 → h'.get? b = some o → h₂.get? b = some o := fun b o hb e => hk₂ b o (by simpa using hb) e
    refine hR h₂ tk₂ m' ys' (hi1.at fun o e => hk2 _ o n3 e) (hd.at fun o e => hk2 _ o n6 e) ?_ (hc.at' fun o e => hk2 _ o n5 e) (fun b o e => hk2 b o (by rintro rfl; rw [f4] at e; cases e) (gr b o e))
    rw [hys, List.take_of_length_le (by simp)]
/-- a comprehension of two clauses: a tuple outside, a list inside, a test; the element is the inner item -/
theorem comp2_eval {Q : Value → Shared → Prop} {its2 : Array Value} {ax : Addr} {p : Value → Value → Bool}
    (hh : A.handled = none) (hclos : closureFor scope env = pure cl) (hcell : ∀ z ∈ scope.names, z.2 ≠ .cell) (hkind : scope.kind = .function) (hnames : ∀ z ∈ scope.names, z.2 = .local → scope.names.lookup z.1 = some .local)
    (hx : scope.names.lookup x = some .local) (hy : scope.names.lookup y = some .local) (hxy : x ≠ y)
    (h : wpAny (model prog w) A (eval iter1 env) (C2Src prog w A elt iter2 c x y scope env cl its2 ax p Q) E s)
    (hs1 : ∀ a, foldedSetIterable iter1 env a = pure a := by intro _; rfl) (hs2 : ∀ env' a, foldedSetIterable iter2 env' a = pure a := by intro _ _; rfl) :
    wpAny (model prog w) A (eval (comp2 elt x y px py iter1 iter2 c scope pos) env) Q E s := by
  rw [eval_ListComp]
  refine wpAny_comprehension_free (use := none) rfl hs1 hclos hkind hnames (wpAny_mono h (fun v s₁ h₁ => ?_) fun _ _ e => e)
  obtain ⟨its1, tt, rfl, ht, hl, hsz, hit2, htest, helt, hQ⟩ := h₁
  refine wpAny_pyIter_tuple ht ?_
  refine wpAny_newObj_type (wpAny_newFunctionEnv hcell (by intro z hz; simp at hz) (fun h₁ hns₁ hsb₁ => ?_) hkind)
  dsimp only at hns₁ hsb₁ ⊢
  generalize hH1 : s₁.heap.push { cls := .type "tuple_iterator", data := .fields #[.ref tt, .int 0 0] } = H1 at hns₁ hsb₁ ⊢
  generalize hH2 : H1.push { cls := .type "list", dict := none, data := .seq ([] : List Value).toArray } = H2 at hns₁ hsb₁ ⊢
  have z1 : H1.objs.size = s₁.heap.objs.size + 1 := by rw [← hH1, Heap.size_push]
  have z2 : H2.objs.size = s₁.heap.objs.size + 2 := by rw [← hH2, Heap.size_push, z1]
  have fresh : ∀ a, s₁.heap.objs.size ≤ a → s₁.heap.get? a = none := fun a ha => Heap.get?_none_of_le ha
  have f1 := fresh _ (Nat.le_refl s₁.heap.objs.size)
  have f3 := fresh H1.objs.size (by omega)
  have f2 := fresh H2.objs.size (by omega)
  have up : Grow s₁.heap h₁ := fun b o e => hsb₁.extBut b o (by have := ltN (Heap.lt_size e); refine neN ?_; omega) (Heap.get?_push_of_some _ (hH2 ▸ Heap.get?_push_of_some _ (hH1 ▸ Heap.get?_push_of_some _ e)))
  have hI1 : h₁.IsTupleIter s₁.heap.objs.size tt 0 := ⟨_, hsb₁.extBut _ _ (by refine neN ?_; omega) (Heap.get?_push_of_some _ (hH2 ▸ Heap.get?_push_of_some _ (hH1 ▸ Heap.get?_push_size _ rfl))), rfl, rfl⟩
  have hD : h₁.PlainList H1.objs.size #[] := ⟨_, hsb₁.extBut _ _ (by refine neN ?_; omega) (Heap.get?_push_of_some _ (hH2 ▸ Heap.get?_push_size _ rfl))⟩
  have htt : tt ≠ s₁.heap.objs.size := by
    obtain ⟨o, e, _⟩ := ht
    exact Nat.ne_of_lt (Heap.lt_size e)
  have W := Walks.tuple (prog := prog) (w := w) hh s₁.heap.objs.size tt htt its1
  have loop : ∀ s₃ : Shared, s₃ = { s₁ with heap := h₁, toks := s₁.toks + ([] : List (Str × Value)).length } →
      codeAny (model prog w) A (.compLoop (comp2 elt x y px py iter1 iter2 c scope pos) 0 (.ref s₁.heap.objs.size) (.ref H1.objs.size) (compEnvC scope cl H2.objs.size env))
        (compPost (model prog w) A E none Q (.ref H1.objs.size) H2.objs.size) s₃ := by
    rintro s₃ rfl
    refine loop_out (fun k s' => ∃ h' tk' m' j ys', s' = { s₁ with heap := h', toks := tk' } ∧ h'.IsTupleIter s₁.heap.objs.size tt j ∧ j ≤ its1.size ∧ k = its1.size + 1 - j ∧ h'.PlainList H1.objs.size ys' ∧
        ys'.toList = (its1.toList.take j).flatMap (fun v1 => its2.toList.filter (p v1)) ∧ h'.Ns H2.objs.size m' ∧ Grow s₁.heap h')
      ?_ (its1.size + 1) ⟨h₁, _, _, 0, #[], rfl, hI1, Nat.zero_le _, rfl, hD, rfl, hns₁, up⟩ (hs2 _)
    rintro k s' ⟨h', tk', m', j, ys', rfl, hi1, hj, rfl, hd, hys, hc, gr⟩
    have ht' : h'.IsTuple tt its1 := ht.at fun o e => gr _ _ e
    by_cases hlt : j < its1.size
    · refine W.item j _ _ _ hlt ⟨hi1, ht'⟩ fun v1 h₂ tk₂ hP hst₂ hk₂ => ?_
      have hk2 : ∀ b o, b ≠ s₁.heap.objs.size → h'.get? b = some o → h₂.get? b = some o := fun b o hb e => hk₂ b o (by simpa using hb) e
      have hmem : v1 ∈ its1.toList := by
        rw [Array.mem_toList_iff]
        exact Array.mem_of_getElem? hP
      refine wpAny_assign_Name (wpAny_storeName_local (lookup_relabel_local hx) (hc.at' fun o e => hk2 _ o (by refine neN ?_; omega) e) (fun h₃ hn₃ hs₃ => ?_) (by simp [compEnvC, relabel, hkind]))
      have hk3 : ∀ b o, b ≠ H2.objs.size → b ≠ s₁.heap.objs.size → h'.get? b = some o → h₃.get? b = some o := fun b o hb hb2 e => hs₃.extBut b o hb (hk2 b o hb2 e)
      have g3 : Grow s₁.heap h₃ := fun b o e => hk3 b o (by have := ltN (Heap.lt_size e); refine neN ?_; omega) (by have := ltN (Heap.lt_size e); refine neN ?_; omega) (gr b o e)
      refine wpAny_mono (hit2 H2.objs.size _ _ _ f2 hn₃ g3) (fun r s₄ hr => ?_) fun _ _ e => e
      obtain ⟨rfl, h₄, tk₄, rfl, hk₄⟩ := hr
      have g4 : Grow s₁.heap h₄ := fun b o e => hk₄ b o (g3 b o e)
      have c4 := hn₃.keeps hk₄
      have hC4 : H2.objs.size < h₄.objs.size := by obtain ⟨o, _, _, e, _⟩ := c4; exact Heap.lt_size e
      refine wpAny_pyIter_list (hl.at fun o e => g4 _ _ e) ?_
      have f4 := fresh h₄.objs.size (by omega)
      have up5 : ∀ b o, h₄.get? b = some o → (h₄.push { cls := .type "list_iterator", data := .fields #[.ref ax, .int 0 0] }).get? b = some o := fun b o e => Heap.get?_push_of_some _ e
      have hszj : ys'.size + its2.size ≤ sizeLine := by
        have e1 := congrArg List.length hys
        rw [Array.length_toList, List.length_flatMap] at e1
        have e2 : ((its1.toList.take j).map fun v1 => (its2.toList.filter (p v1)).length).sum ≤ j * its2.size := by
          have key : ∀ l : List Value, (l.map fun v1 => (its2.toList.filter (p v1)).length).sum ≤ l.length * its2.size := by
            intro l
            induction l with
            | nil => simp
            | cons a r ih =>
              rw [List.map_cons, List.sum_cons, List.length_cons, Nat.succ_mul]
              have h1 := List.length_filter_le (p a) its2.toList
              have h2 : its2.toList.length = its2.size := Array.length_toList
              omega
          have := key (its1.toList.take j)
          rw [List.length_take, Array.length_toList] at this
          exact Nat.le_trans this (Nat.mul_le_mul_right _ (Nat.min_le_left _ _))
        have e3 : j * its2.size ≤ its1.size * its2.size := Nat.mul_le_mul_right _ hj
        omega
      have key : codeAny (model prog w) A (.compLoop (comp2 elt x y px py iter1 iter2 c scope pos) 1 (.ref h₄.objs.size) (.ref H1.objs.size) (compEnvC scope cl H2.objs.size env))
          (fun r s₅ => (∃ f, r = .ok f) ∧ Lower (fun k s' => ∃ h' tk' m' j ys', s' = { s₁ with heap := h', toks := tk' } ∧ h'.IsTupleIter s₁.heap.objs.size tt j ∧ j ≤ its1.size ∧ k = its1.size + 1 - j ∧ h'.PlainList H1.objs.size ys' ∧
            ys'.toList = (its1.toList.take j).flatMap (fun v1 => its2.toList.filter (p v1)) ∧ h'.Ns H2.objs.size m' ∧ Grow s₁.heap h') (its1.size + 1 - j) s₅)
          { s₁ with heap := h₄.push { cls := .type "list_iterator", data := .fields #[.ref ax, .int 0 0] }, toks := tk₄ } := by
        refine inner_loop (tt := tt) (j := j + 1) (v1 := v1) (p := p v1) (ys := ys') (I1 := s₁.heap.objs.size) hh hy hkind hxy hl (fun b o e => up5 b o (g4 b o e)) (neN (by omega)) (neN (by omega)) (neN (by omega)) (neN (by omega)) (neN (by omega)) (neN (by omega)) f1 f2 f3 f4
          ⟨_, Heap.get?_push_size _ rfl, rfl, rfl⟩ (hst₂.1.at fun o e => up5 _ _ (hk₄ _ _ (hs₃.extBut _ o (by refine neN ?_; show s₁.heap.objs.size ≠ H2.objs.size; omega) e))) (hd.at fun o e => up5 _ _ (hk₄ _ _ (hk3 _ o (by refine neN ?_; omega) (by refine neN ?_; omega) e))) (c4.keeps up5) (by simp) hszj
          (fun v2 s₃ m₃ E' a b c d e => htest _ v1 v2 s₃ m₃ E' f2 hmem a b c d e) (fun v2 s₃ m₃ E' a b c d e => helt _ v1 v2 s₃ m₃ E' f2 hmem a b c d e) ?_
        intro h6 tk6 m6 ys6 a1 a2 a3 a4 a5
        refine ⟨⟨_, rfl⟩, its1.size + 1 - (j + 1), by omega, h6, tk6, m6, j + 1, ys6, rfl, a1, hlt, rfl, a2, ?_, a4, a5⟩
        rw [a3, hys, List.take_add_one, show its1.toList[j]? = some v1 by rw [Array.getElem?_toList]; exact hP]
        simp [List.flatMap_append]
      exact start_in key (wpAny_pyIter_listiter ⟨_, Heap.get?_push_size _ rfl, rfl, rfl⟩ key)
    · have hin : j = its1.size := by omega
      subst hin
      refine W.done _ _ _ ⟨hi1, ht'⟩ fun h₂ tk₂ hk₂ => ?_
      have hk2 : ∀ b o, b ≠ s₁.heap.objs.size → h'.get? b = some o → h₂.get? b = some o := fun b o hb e => hk₂ b o (by simpa using hb) e
      refine ⟨m', hc.at' fun o e => hk2 _ o (by refine neN ?_; omega) e, fun h'' hs'' => hQ H1.objs.size h'' tk₂ ys' f3 (hd.at fun o e => hs''.extBut _ _ (by refine neN ?_; omega) (hk2 _ o (by refine neN ?_; omega) e)) ?_ fun b o e => hs''.extBut b o (by have := ltN (Heap.lt_size e); refine neN ?_; omega) (hk2 b o (by have := ltN (Heap.lt_size e); refine neN ?_; omega) (gr b o e))⟩
      rw [hys, List.take_of_length_le (by simp)]
  exact codeAny_compStart_list (loop _ rfl) (W.self 0 _ _ _ ⟨hI1, ht.at fun o e => up _ _ e⟩ (loop _ rfl))
end
end Mine
end

-- part WE
section
open PySem PySem.W PyProof.Rows PySem.Calls
set_option maxRecDepth 100000
set_option maxHeartbeats 8000000
set_option linter.unusedVariables false
namespace Mine
local macro_rules | `(tactic| walk_at "eval ListComp") => `(tactic| refine Hold.mk ?_)
local macro_rules | `(tactic| walk_at "call ref") => `(tactic| refine Hold.mk ?_)
local macro_rules | `(tactic| walk_at "execs cons") => `(tactic| ((with_reducible show wpAny _ _ (execs (Stmt.Assign [Expr.Name (PySem.Str.ofString "written") _] _ _ :: _) _) _ _ _); refine Hold.mk ?_))
local macro_rules | `(tactic| walk_at "execs cons Assign cons") => `(tactic| ((with_reducible show wpAny _ _ (execs (Stmt.Assign [Expr.Name (PySem.Str.ofString "written") _] _ _ :: _) _) _ _ _); refine Hold.mk ?_))
local macro_rules | `(tactic| walk_at "execs cons Assign") => `(tactic| ((with_reducible show wpAny _ _ (execs (Stmt.Assign [Expr.Name (PySem.Str.ofString "written") _] _ _ :: _) _) _ _ _); refine Hold.mk ?_))
theorem newsC {h₀ h h₃ : Heap} {L C : Addr} {oC : Obj} {m : Str → Option Value} {news : List (Addr × Obj)} (F : Fr h₀ L h m) (N : News h₀ L h news) (g : Grow h h₃) (hC : h.get? C = none) (ho : h₃.get? C = some oC) : News h₀ L h₃ ((C, oC) :: news) := by
  intro q hq
  rcases List.mem_cons.mp hq with rfl | hq
  · refine ⟨ho, ?_, ?_⟩
    · rintro rfl
      obtain ⟨o, _, _, e, _⟩ := F.ns
      rw [hC] at e
      cases e
    · cases e : h₀.get? C with
      | none => rfl
      | some o =>
        have := F.keep _ _ e
        rw [hC] at this
        cases this
  · exact ⟨g _ _ (N q hq).1, (N q hq).2⟩
def IsV (v : Value) (s : Shared) (r : Value) (s' : Shared) : Prop := r = v ∧ Keeps s s'
theorem IsV.refl {v : Value} {s : Shared} : IsV v s v s := ⟨rfl, s.heap, s.toks, rfl, fun _ _ e => e⟩
def IsBl (b : Bool) (s : Shared) (r : Bool) (s' : Shared) : Prop := r = b ∧ Keeps s s'
theorem IsBl.intro {b r : Bool} {s : Shared} {tk : Nat} (e : r = b) : IsBl b s r { s with toks := tk } := ⟨e, s.heap, tk, rfl, fun _ _ e => e⟩
/-- the operators of r on, the longer ones ahead -/
def ordOps (r : Nat) : List (List Nat) := [3, 2, 1].flatMap fun k => (opsL.drop r ++ opsL.take r).filter fun o => o.length == k
def selT (l : List (Str × Tok)) : List (Str × Tok) := [3, 2, 1].flatMap fun k => l.filter fun q => q.1.length == k
theorem sel_map {l : List (Str × Tok)} {r : Nat} (h : l.map (·.1) = (opsL.drop r ++ opsL.take r).map S) : (selT l).map (·.1) = (ordOps r).map S := by
  have key : ∀ k : Nat, (l.filter fun q => q.1.length == k).map (·.1) = ((opsL.drop r ++ opsL.take r).filter fun o => o.length == k).map S := by
    intro k
    have e1 : (l.filter fun q => q.1.length == k).map (·.1) = (l.map (·.1)).filter fun x => x.length == k := by rw [List.filter_map]; rfl
    rw [e1, h, List.filter_map]
    refine congrArg (List.map S) (List.filter_congr ?_)
    intro o _
    show ((S o).length == k) = _
    rw [S_length]
  unfold selT ordOps
  simp only [List.flatMap_cons, List.flatMap_nil, List.map_append, List.append_nil, key]
theorem ord_num {r : Nat} {o : List Nat} (h : o ∈ ordOps r) : (num (S o).cps.toList).isSome = true := by
  have a : ∀ e ∈ opsL, (num e).isSome = true := by decide
  unfold ordOps at h
  obtain ⟨k, _, hk⟩ := List.mem_flatMap.mp h
  have := (List.mem_filter.mp hk).1
  rw [S_cps]
  rcases List.mem_append.mp this with h | h
  · exact a o (List.mem_of_mem_drop h)
  · exact a o (List.mem_of_mem_take h)
theorem ord_len (r : Nat) : (ordOps r).length ≤ 144 := by
  have l : opsL.length = 48 := by decide
  have key : ∀ k : Nat, ((opsL.drop r ++ opsL.take r).filter fun o => o.length == k).length ≤ 48 := by
    intro k
    refine Nat.le_trans (List.length_filter_le _ _) ?_
    rw [List.length_append, List.length_drop, List.length_take]
    omega
  unfold ordOps
  simp only [List.flatMap_cons, List.flatMap_nil, List.length_append, List.length_nil]
  have h1 := key 3
  have h2 := key 2
  have h3 := key 1
  omega
def pLen (v1 v2 : Value) : Bool := match v1, v2 with
  | .int k _, .str y _ => (y.length : Int) == k
  | _, _ => false
theorem sel_vals (l : List (Str × Tok)) (a b c : Tok) : (#[Value.int 3 a, Value.int 2 b, Value.int 1 c].toList.flatMap fun v1 => (strValues l).toArray.toList.filter (pLen v1)) = strValues (selT l) := by
  have key : ∀ (k : Nat) (t : Tok), (strValues l).filter (pLen (Value.int k t)) = strValues (l.filter fun q => q.1.length == k) := by
    intro k t
    unfold strValues
    rw [List.filter_map]
    congr 1
    apply List.filter_congr
    intro q _
    show (((q.1.length : Nat) : Int) == ((k : Nat) : Int)) = (q.1.length == k)
    rw [Bool.eq_iff_iff, beq_iff_eq, beq_iff_eq]
    omega
  have k3 := key 3 a
  have k2 := key 2 b
  have k1 := key 1 c
  simp only [List.flatMap_cons, List.flatMap_nil, List.append_nil]
  unfold selT
  simp only [List.flatMap_cons, List.flatMap_nil, List.append_nil]
  show (strValues l).filter (pLen (Value.int ((3 : Nat) : Int) a)) ++ ((strValues l).filter (pLen (Value.int ((2 : Nat) : Int) b)) ++ (strValues l).filter (pLen (Value.int ((1 : Nat) : Int) c))) = _
  rw [k3, k2, k1]
  simp [strValues]
theorem law_E {w : World} {s : Shared} {p : Program} {loose : List Str} {mean : ExcName → Option Value} {mg mb : Str → Option Value} {Q : Flow → Shared → Prop} {h₀ : Heap} {L : Nat} {fa lscr : Addr} {op og o3 o4 o5 : Obj} {m : Str → Option Value} {xs ns : List Int} {Dt Dc Dg Dp Dn nt nc ng np cn : Nat} {lt lc lg lp ln : List (Str × Tok)} {ta : Tok} {r : Nat}
    {name qual : Str} {params : Arguments} {body : List Stmt} {scope : Scope} {dV kV doc pm cdv ct oc : Value} {an od : Option Addr} {osl : Array (Option Value)}
    (ho : (Mine.hd.heap_39 w.params).lookup 57 = some ⟨oc, od, .func (fnOf name qual params body scope dV kV doc pm an cdv ct), osl⟩)
    (X : (Mine.hd.heap_39 w.params).In h₀) (T : Top p loose mean mg mb h₀)
    (hm0 : m (Str.ofString "names") = some (.ref Dn)) (hm1 : m (Str.ofString "script") = some (.ref lscr)) (hm2 : m (Str.ofString "apart") = some (.str (S (xs.map fun x => pieceOf x ++ [gapOf x]).flatten) ta)) (F : Fr h₀ L s.heap m)
    (N : News h₀ L s.heap [(Dt, W.listOf (strValues lt).toArray nt), (Dc, W.listOf (strValues lc).toArray nc), (Dg, W.listOf (strValues lg).toArray ng), (Dp, W.listOf (strValues lp).toArray np), (Dn, W.listOf (strValues ln).toArray cn), (L + 1 + 1 + 1 + 1 + 1, o5), (L + 1 + 1 + 1 + 1, o4), (L + 1 + 1 + 1, o3), (L + 1 + 1, og), (L + 1, op), (54, tabObj #[])])
    (hog : og.data = .cell (some (.ref Dg))) (hop : op.data = .cell (some (.ref Dp))) (hoc : o3.data = .cell (some (.ref Dc))) (hot : o4.data = .cell (some (.ref Dt)))
    (hlp : lp.map (·.1) = (xs.map pieceOf).map S) (hlg : lg.map (·.1) = (xs.map fun x => [gapOf x]).map S) (hxs : xs.length ≤ 9) (lt1 : L + 5 < Dn) (lt2 : Dn < Dp) (lt3 : Dp < Dg) (hL : 54 < L) (hln : ln.map (·.1) = opsL.map S) (hlc : lc.map (·.1) = (xs.map fun x => wr (pieceOf x)).map S) (hlt : lt.map (·.1) = (opsL.drop r ++ opsL.take r).map S) (hDc5 : Dc ≠ L + 1 + 1 + 1 + 1 + 1) (hDct : Dc ≠ 54) (hDt5 : Dt ≠ L + 1 + 1 + 1 + 1 + 1) (hDtt : Dt ≠ 54)
    (hQ : ∀ h' tk m' (Df nf : Nat) (lf : List (Str × Tok)), m' (Str.ofString "names") = some (.ref Dn) → m' (Str.ofString "script") = some (.ref lscr) → m' (Str.ofString "apart") = some (.str (S (xs.map fun x => pieceOf x ++ [gapOf x]).flatten) ta) → m' (Str.ofString "forth") = some (.ref Df) → Fr h₀ L h' m' → News h₀ L h' [(Df, W.listOf (strValues lf).toArray nf), (Dt, W.listOf (strValues lt).toArray nt), (Dc, W.listOf (strValues lc).toArray nc), (Dg, W.listOf (strValues lg).toArray ng), (Dp, W.listOf (strValues lp).toArray np), (Dn, W.listOf (strValues ln).toArray cn), (L + 1 + 1 + 1 + 1 + 1, o5), (L + 1 + 1 + 1 + 1, o4), (L + 1 + 1 + 1, o3), (L + 1 + 1, og), (L + 1, op), (54, tabObj #[])] → lf.map (·.1) = pairsOf ((ordOps r).map S) → Df ≠ L + 1 + 1 + 1 + 1 + 1 → Df ≠ 54 → wpAny (model PySem.Challenge.rw_mr0178_01.row.prog w) (callerA.deeper (envOfC qual scope L fa cdv)) (execs (body.drop 9) (envOfC qual scope L fa cdv)) Q (fun _ _ => False) { s with heap := h', toks := tk }) :
    wpAny (model PySem.Challenge.rw_mr0178_01.row.prog w) (callerA.deeper (envOfC qual scope L fa cdv)) (execs (body.drop 8) (envOfC qual scope L fa cdv)) Q (fun _ _ => False) s := by
  w_top off; revert X; k_fill; intro X
  have e := Option.some.inj (ho.symm.trans (rfl : (Mine.hd.heap_39 w.params).lookup 57 = some _))
  cases e
  clear ho
  simp only [List.drop]
  rw [fix1 hm0] at F
  rw [fix1 hm1] at F
  rw [fix1 hm2] at F
  k_steps
  refine Hold.of ?_
  refine comp2_eval (its2 := (strValues lt).toArray) (ax := Dt) (p := pLen) rfl (by with_unfolding_all rfl) (by decide) (by rfl) (by decide) (by rfl) (by rfl) (by decide) ?_
  k_steps
  rename_i D1 h1 F1 N1 l1
  have hltl : lt.length = 48 := by
    have := congrArg List.length hlt
    rw [List.length_map, List.length_map, List.length_append, List.length_drop, List.length_take, show opsL.length = 48 by decide] at this
    omega
  refine ⟨_, D1, rfl, ⟨_, (N1 _ List.mem_cons_self).1, rfl, _, rfl⟩, ⟨_, (N1 (Dt, _) (by k_mem)).1, rfl, nt, rfl⟩, ?_, ?_, ?_, ?_, ?_⟩
  · have : (strValues lt).toArray.size = 48 := by simp [strValues, hltl]
    rw [this, sizeLine_eq]
    show 3 * 48 + 48 ≤ 16777216
    decide
  · intro C s3 m3 E' hC hns gr
    obtain ⟨oC, hoC, hobj⟩ := LCg.ns_obj hns
    have N3 := newsC F1 N1 gr hC hoC
    have F3 := F1.keeps gr
    clear N1 F1
    refine wpAny_mono (Q := IsV (.ref Dt) s3) ?_ (fun _ _ h => h) (fun _ _ e => e)
    k_steps
    exact IsV.refl
  · intro C v1 v2 s3 m3 E' hC hv1 hv2 hns hmx hmy gr
    obtain ⟨oC, hoC, hobj⟩ := LCg.ns_obj hns
    have N3 := newsC F1 N1 gr hC hoC
    have F3 := F1.keeps gr
    clear N1 F1
    obtain ⟨k, t1, rfl⟩ : ∃ k t, v1 = Value.int k t := by
      simp at hv1
      rcases hv1 with rfl | rfl | rfl <;> exact ⟨_, _, rfl⟩
    obtain ⟨q, hq, rfl⟩ : ∃ q ∈ lt, v2 = Value.str q.1 q.2 := by
      simp [strValues] at hv2
      obtain ⟨a, b, hab, e⟩ := hv2
      exact ⟨(a, b), hab, e.symm⟩
    have hql : q.1.length ≤ 3 := by
      have : q.1 ∈ (opsL.drop r ++ opsL.take r).map S := by rw [← hlt]; exact List.mem_map_of_mem hq
      obtain ⟨o, ho, e⟩ := List.mem_map.mp this
      have a : ∀ e ∈ opsL, e.length ≤ 3 := by decide
      rw [← e, S_length]
      rcases List.mem_append.mp ho with h | h
      · exact a o (List.mem_of_mem_drop h)
      · exact a o (List.mem_of_mem_take h)
    refine wpAny_mono (Q := IsBl (pLen (Value.int k t1) (Value.str q.1 q.2)) s3) ?_ (fun _ _ h => h) (fun _ _ e => e)
    k_steps
    exact IsBl.intro rfl
  · intro C v1 v2 s3 m3 E' hC hv1 hv2 hns hmx hmy gr
    obtain ⟨oC, hoC, hobj⟩ := LCg.ns_obj hns
    have N3 := newsC F1 N1 gr hC hoC
    have F3 := F1.keeps gr
    clear N1 F1
    refine wpAny_mono (Q := IsV v2 s3) ?_ (fun _ _ h => h) (fun _ _ e => e)
    k_steps
    exact IsV.refl
  · intro D h2 tk2 ys hDn hD hys gr
    have hsel : ys.toList = strValues (selT lt) := by
      rw [hys]
      exact sel_vals lt _ _ _
    have hselm := sel_map hlt
    obtain ⟨nn, hD⟩ := hD
    have F2 := F1.keeps gr
    have N2 := N1.grown gr
    clear F1 N1
    (try dsimp only)
    k_steps
    refine Hold.of (pairs_tells (l₀ := selT lt) (X.keeps F2.keep) (T.keeps F2.keep) ?hd ?hu rfl ⟨_, hD, rfl, nn, by rw [← hsel]⟩ ?hn ?hs ?_)
    (case hd => simp only [depth_deeper, depth_caller]; decide)
    (case hu => exact Nat.le_of_ble_eq_true rfl)
    (case hn =>
      rw [hselm]
      intro z hz
      obtain ⟨o, ho, rfl⟩ := List.mem_map.mp hz
      exact ord_num ho)
    (case hs =>
      have e := congrArg List.length hselm
      rw [List.length_map, List.length_map] at e
      have := ord_len r
      omega)
    intro Df nf h3 tk3 lf gr3 hDf hDfn hlf
    have F3 := F2.keeps gr3
    have N3 := N2.grown gr3
    have ne5 : Df ≠ L + 1 + 1 + 1 + 1 + 1 := by
      rintro rfl
      rw [show h2.get? (L + 1 + 1 + 1 + 1 + 1) = some o5 from (N2 (L + 1 + 1 + 1 + 1 + 1, o5) (by k_mem)).1] at hDfn
      cases hDfn
    have ne54 : Df ≠ 54 := by
      rintro rfl
      rw [show h2.get? 54 = some (tabObj #[]) from (N2 (54, tabObj #[]) (by k_mem)).1] at hDfn
      cases hDfn
    have N4 := newsC F2 N2 gr3 hDfn hDf
    clear F2 N2 N3
    (try dsimp only)
    k_steps
    rename_i h5 F5 N5
    rw [hselm] at hlf
    refine Hold.of (hQ _ _ _ Df nf lf rfl rfl rfl rfl F5 ?_ hlf ne5 ne54)
    intro q hq
    rcases List.mem_cons.mp hq with rfl | hq
    · exact N5 _ List.mem_cons_self
    · exact N5 q (List.mem_cons_of_mem _ (List.mem_cons_of_mem _ hq))
end Mine
end

-- part WF
section
open PySem PySem.W PyProof.Rows PySem.Calls
set_option maxRecDepth 100000
set_option maxHeartbeats 8000000
set_option linter.unusedVariables false
namespace Mine
local macro_rules | `(tactic| walk_at "pad 0") => `(tactic| trivial)
local macro_rules | `(tactic| walk_at "pad 1") => `(tactic| trivial)
local macro_rules | `(tactic| walk_at "pad 2") => `(tactic| trivial)
local macro_rules | `(tactic| walk_at "pad 3") => `(tactic| trivial)
local macro_rules | `(tactic| walk_at "pad 4") => `(tactic| trivial)
local macro_rules | `(tactic| walk_at "pad 5") => `(tactic| trivial)
local macro_rules | `(tactic| walk_at "pad 6") => `(tactic| trivial)
local macro_rules | `(tactic| walk_at "pad 7") => `(tactic| trivial)
local macro_rules | `(tactic| walk_at "pad 8") => `(tactic| trivial)
local macro_rules | `(tactic| walk_at "pad 9") => `(tactic| trivial)
local macro_rules | `(tactic| walk_at "pad 10") => `(tactic| trivial)
local macro_rules | `(tactic| walk_at "pad 11") => `(tactic| trivial)
local macro_rules | `(tactic| walk_at "pad 12") => `(tactic| trivial)
local macro_rules | `(tactic| walk_at "pad 13") => `(tactic| trivial)
local macro_rules | `(tactic| walk_at "pad 14") => `(tactic| trivial)
local macro_rules | `(tactic| walk_at "pad 15") => `(tactic| trivial)
local macro_rules | `(tactic| walk_at "pad 16") => `(tactic| trivial)
local macro_rules | `(tactic| walk_at "pad 17") => `(tactic| trivial)
local macro_rules | `(tactic| walk_at "pad 18") => `(tactic| trivial)
local macro_rules | `(tactic| walk_at "pad 19") => `(tactic| trivial)
local macro_rules | `(tactic| walk_at "call ref") => `(tactic| refine Hold.mk ?_)
local macro_rules | `(tactic| walk_at "execs cons If") => `(tactic| refine Hold.mk ?_)
local macro_rules | `(tactic| walk_at "execs cons") => `(tactic| ((with_reducible show wpAny _ _ (execs (Stmt.If _ _ _ _ :: _) _) _ _ _); refine Hold.mk ?_))
theorem law_F {w : World} {s : Shared} {p : Program} {loose : List Str} {mean : ExcName → Option Value} {mg mb : Str → Option Value} {Q : Flow → Shared → Prop} {h₀ : Heap} {L : Nat} {fa lscr : Addr} {op og o3 o4 o5 : Obj} {m : Str → Option Value} {xs ns : List Int} {Df Dt Dc Dg Dp Dn nf nt nc ng np cn : Nat} {lf lt lc lg lp ln : List (Str × Tok)} {ta : Tok} {ps : List (List Nat × List Nat)}
    {name qual : Str} {params : Arguments} {body : List Stmt} {scope : Scope} {dV kV doc pm cdv ct oc : Value} {an od : Option Addr} {osl : Array (Option Value)}
    (ho : (Mine.hd.heap_39 w.params).lookup 57 = some ⟨oc, od, .func (fnOf name qual params body scope dV kV doc pm an cdv ct), osl⟩)
    (X : (Mine.hd.heap_39 w.params).In h₀) (T : Top p loose mean mg mb h₀)
    (hm0 : m (Str.ofString "names") = some (.ref Dn)) (hm1 : m (Str.ofString "script") = some (.ref lscr)) (hm2 : m (Str.ofString "apart") = some (.str (S (xs.map fun x => pieceOf x ++ [gapOf x]).flatten) ta)) (hm3 : m (Str.ofString "forth") = some (.ref Df)) (F : Fr h₀ L s.heap m)
    (N : News h₀ L s.heap [(Df, W.listOf (strValues lf).toArray nf), (Dt, W.listOf (strValues lt).toArray nt), (Dc, W.listOf (strValues lc).toArray nc), (Dg, W.listOf (strValues lg).toArray ng), (Dp, W.listOf (strValues lp).toArray np), (Dn, W.listOf (strValues ln).toArray cn), (L + 1 + 1 + 1 + 1 + 1, o5), (L + 1 + 1 + 1 + 1, o4), (L + 1 + 1 + 1, o3), (L + 1 + 1, og), (L + 1, op), (54, tabObj #[])])
    (hog : og.data = .cell (some (.ref Dg))) (hop : op.data = .cell (some (.ref Dp)))
    (hlp : lp.map (·.1) = (xs.map pieceOf).map S) (hlg : lg.map (·.1) = (xs.map fun x => [gapOf x]).map S) (hxs : xs.length ≤ 9) (lt1 : L + 5 < Dn) (lt2 : Dn < Dp) (lt3 : Dp < Dg) (hL : 54 < L) (hlf : lf.map (·.1) = flat ps) (hlen : ∀ k, (replAll (xs.map fun x => pieceOf x ++ [gapOf x]).flatten (ps.take k)).length ≤ 100000) (hps : ∀ p ∈ ps, 1 ≤ p.1.length ∧ p.1.length ≤ 10 ∧ p.2.length ≤ 10) (hsz : ps.length ≤ 1000)
    (hQ : ∀ h' tk m' tw, m' (Str.ofString "names") = some (.ref Dn) → m' (Str.ofString "script") = some (.ref lscr) → m' (Str.ofString "apart") = some (.str (S (xs.map fun x => pieceOf x ++ [gapOf x]).flatten) ta) → m' (Str.ofString "forth") = some (.ref Df) → m' (Str.ofString "written") = some (.str (S (replAll (xs.map fun x => pieceOf x ++ [gapOf x]).flatten ps)) tw) → Fr h₀ L h' m' → News h₀ L h' [(Df, W.listOf (strValues lf).toArray nf), (Dt, W.listOf (strValues lt).toArray nt), (Dc, W.listOf (strValues lc).toArray nc), (Dg, W.listOf (strValues lg).toArray ng), (Dp, W.listOf (strValues lp).toArray np), (Dn, W.listOf (strValues ln).toArray cn), (L + 1 + 1 + 1 + 1 + 1, o5), (L + 1 + 1 + 1 + 1, o4), (L + 1 + 1 + 1, o3), (L + 1 + 1, og), (L + 1, op), (54, tabObj #[])] → wpAny (model PySem.Challenge.rw_mr0178_01.row.prog w) (callerA.deeper (envOfC qual scope L fa cdv)) (execs (body.drop 10) (envOfC qual scope L fa cdv)) Q (fun _ _ => False) { s with heap := h', toks := tk }) :
    wpAny (model PySem.Challenge.rw_mr0178_01.row.prog w) (callerA.deeper (envOfC qual scope L fa cdv)) (execs (body.drop 9) (envOfC qual scope L fa cdv)) Q (fun _ _ => False) s := by
  w_top off; revert X; k_fill; intro X
  have e := Option.some.inj (ho.symm.trans (rfl : (Mine.hd.heap_39 w.params).lookup 57 = some _))
  cases e
  clear ho
  simp only [List.drop]
  rw [fix1 hm0] at F
  rw [fix1 hm1] at F
  rw [fix1 hm2] at F
  rw [fix1 hm3] at F
  k_steps
  refine star_seq (ws := strValues lf) F N List.mem_cons_self rfl rfl (Or.inl rfl) rfl ?hz ?_
  (case hz =>
    have e := congrArg List.length hlf
    rw [List.length_map, flat_length] at e
    rw [List.size_toArray, strValues, List.length_map, sizeLine_eq]
    omega)
  intro h1 F1 N1
  clear F N
  (try dsimp only)
  k_steps
  rw [List.append_nil]
  refine replace_tells (ps := ps) (X.keeps F1.keep) (T.keeps F1.keep) ?hd ?hu rfl hlf hlen hps hsz ?_
  (case hd => simp only [depth_deeper, depth_caller]; decide)
  (case hu => exact Nat.le_of_ble_eq_true rfl)
  intro u h2 tk2 gr
  have F2 := F1.keeps gr
  have N2 := N1.grown gr
  clear F1 N1
  (try dsimp only)
  k_steps
  rename_i h5 F5 N5
  exact Hold.of (hQ _ _ _ u rfl rfl rfl rfl rfl F5 N5)
end Mine
end

-- part P0
section
open PySem PySem.W PyProof.Rows PySem.Calls
set_option maxRecDepth 100000
set_option linter.unusedVariables false
namespace Mine
/-- c put for n in x, from the left; k signs are still to be passed over -/
def go (n c : List Nat) : Nat → List Nat → List Nat
  | _, [] => []
  | 0, a :: r => if n.isPrefixOf (a :: r) then c ++ go n c (n.length - 1) r else a :: go n c 0 r
  | k + 1, _ :: r => go n c k r
theorem go_skip (n c : List Nat) : ∀ (k : Nat) (x : List Nat), go n c k x = go n c 0 (x.drop k)
  | 0, x => by rw [List.drop_zero]
  | k + 1, [] => by cases k <;> rfl
  | k + 1, a :: r => by
    rw [List.drop_succ_cons, ← go_skip n c k r]
    rfl
def Occ (n x : List Nat) (k : Nat) : Prop := (x.drop k).take n.length = n
theorem prefix_take {n x : List Nat} : n.isPrefixOf x = true ↔ x.take n.length = n := by
  rw [List.isPrefixOf_iff_prefix, List.prefix_iff_eq_take]
  exact ⟨Eq.symm, Eq.symm⟩
theorem go_none {n c : List Nat} : ∀ {x : List Nat}, (∀ k, k < x.length → ¬ Occ n x k) → go n c 0 x = x
  | [], _ => rfl
  | a :: r, h => by
    have h0 : ¬ n.isPrefixOf (a :: r) = true := fun e => h 0 (by simp) (prefix_take.mp e)
    rw [go, if_neg h0, go_none (x := r) fun k hk e => h (k + 1) (by simp; omega) e]
theorem go_to {n c : List Nat} (hn : n ≠ []) : ∀ (d : Nat) (x : List Nat), (∀ k, k < d → ¬ Occ n x k) → Occ n x d → go n c 0 x = x.take d ++ (c ++ go n c 0 (x.drop (d + n.length)))
  | 0, [], _, ho => by
    exfalso
    apply hn
    have : ([] : List Nat) = n := by simpa [Occ] using ho
    exact this.symm
  | 0, a :: r, _, ho => by
    have h0 : n.isPrefixOf (a :: r) = true := prefix_take.mpr ho
    rw [go, if_pos h0, go_skip, List.take_zero, List.nil_append, Nat.zero_add]
    cases n with
    | nil => exact absurd rfl hn
    | cons b n => rfl
  | d + 1, [], _, ho => by
    exfalso
    apply hn
    have : ([] : List Nat) = n := by simpa [Occ] using ho
    exact this.symm
  | d + 1, a :: r, hb, ho => by
    have h0 : ¬ n.isPrefixOf (a :: r) = true := fun e => hb 0 (by omega) (prefix_take.mp e)
    rw [go, if_neg h0, go_to hn d r (fun k hk e => hb (k + 1) (by omega) e) ho, List.take_succ_cons, show d + 1 + n.length = (d + n.length) + 1 by omega, List.drop_succ_cons]
    rfl
open PySem.Builtin PySem.Builtin.Str in
theorem at_occ {x n : List Nat} {k : Nat} : StrLaws.At (S x) (S n) (S x).length k ↔ k + n.length ≤ x.length ∧ Occ n x k := by
  unfold StrLaws.At Occ
  rw [StrLaws.subAt_eq, S_length, S_length, S_cps, S_cps, beq_iff_eq]
theorem occ_at {x n : List Nat} {k : Nat} (hn : n ≠ []) (h : Occ n x k) : k + n.length ≤ x.length := by
  have := congrArg List.length h
  rw [List.length_take, List.length_drop] at this
  have : 1 ≤ n.length := by cases n with | nil => exact absurd rfl hn | cons a b => simp
  omega
open PySem.Builtin PySem.Builtin.Str in
theorem parts_go {x n c : List Nat} (hn : n ≠ []) : ∀ (cuts : List Nat) (a f : Nat), a ≤ x.length → StrLaws.ChainG (S x) (S n) (S x).length a cuts f → (∀ k, f ≤ k → ¬ StrLaws.At (S x) (S n) (S x).length k) →
    (PySem.Str.join (S c) (StrLaws.partsFrom (S x) (S n).length a cuts)).cps.toList = go n c 0 (x.drop a)
  | [], a, f, ha, h, hf => by
    have e : f = a := h
    subst e
    rw [go_none]
    · show (strSub (S x) f (S x).length).cps.toList = _
      rw [StrLaws.strSub_toList, S_cps, S_length, List.take_of_length_le]
      rw [List.length_drop]; exact Nat.le_refl _
    · intro k hk e
      have e2 : Occ n x (f + k) := by
        unfold Occ at e ⊢
        rw [List.drop_drop] at e
        exact e
      exact hf (f + k) (by omega) (at_occ.mpr ⟨occ_at hn e2, e2⟩)
  | d :: r, a, f, ha, h, hf => by
    obtain ⟨had, hd, hno, hr⟩ := h
    have hd' := at_occ.mp hd
    have hsl : (S n).length = n.length := S_length n
    have hr' := parts_go (c := c) hn r (d + (S n).length) f (by omega) hr hf
    obtain ⟨p, q, hpq⟩ := StrLaws.partsFrom_ne (S x) (S n).length (d + (S n).length) r
    have key : (PySem.Str.join (S c) (StrLaws.partsFrom (S x) (S n).length a (d :: r))) = strSub (S x) a d ++ S c ++ PySem.Str.join (S c) (StrLaws.partsFrom (S x) (S n).length (d + (S n).length) r) := by
      show PySem.Str.join (S c) (strSub (S x) a d :: StrLaws.partsFrom (S x) (S n).length (d + (S n).length) r) = _
      rw [hpq]
      rfl
    have capp : ∀ a b : Str, (a ++ b).cps = a.cps ++ b.cps := fun _ _ => rfl
    rw [key, capp, capp, Array.toList_append, Array.toList_append, hr', StrLaws.strSub_toList, S_cps, S_cps, go_to (c := c) hn (d - a) (x.drop a), List.drop_drop, hsl, List.append_assoc]
    · rw [show a + (d - a + n.length) = d + n.length by omega]
    · intro k hk e
      have e2 : Occ n x (a + k) := by
        unfold Occ at e ⊢
        rw [List.drop_drop] at e
        exact e
      exact hno (a + k) (by omega) (by omega) (at_occ.mpr ⟨occ_at hn e2, e2⟩)
    · unfold Occ
      rw [List.drop_drop, show a + (d - a) = d by omega]
      exact hd'.2
open PySem.Builtin PySem.Builtin.Str in
theorem kind_more {x n : List Nat} (h : Builtin.Str.strKind (S x) < Builtin.Str.strKind (S n)) (hs : ∀ a ∈ n, a ∈ x) : False := by
  have hall : ∀ B : Nat, (S x).cps.all (· < B) = true → (S n).cps.all (· < B) = true := by
    intro B hB
    rw [← Array.all_toList] at hB ⊢
    rw [List.all_eq_true] at hB ⊢
    intro a ha
    exact hB a (hs a ha)
  unfold Builtin.Str.strKind at h
  by_cases a1 : (S x).cps.all (· < 256) = true
  · rw [if_pos a1, if_pos (hall _ a1)] at h
    omega
  · rw [if_neg a1] at h
    by_cases a2 : (S x).cps.all (· < 65536) = true
    · rw [if_pos a2, if_pos (hall _ a2)] at h
      split at h <;> omega
    · rw [if_neg a2] at h
      split at h
      · omega
      · split at h <;> omega
open PySem.Builtin PySem.Builtin.Str in
theorem rep_go {x n c : List Nat} (hn : n ≠ []) : rep x n c = go n c 0 x := by
  have hn1 : 1 ≤ (S n).length := by rw [S_length]; cases n with | nil => exact absurd rfl hn | cons a b => simp
  obtain ⟨f, hG, hf⟩ := StrLaws.occ_tight (S x) (S n) hn1
  have none : (∀ k, ¬ Occ n x k) → (Txt.join (S c) [S x]).cps.toList = go n c 0 x := by
    intro h
    rw [go_none fun k _ => h k]
    show (glued (S c) [S x]).cps.toList = x
    rw [StrLaws.glued_eq_join]
    rfl
  unfold rep Txt.split
  split
  · rename_i hc
    rw [Bool.or_eq_true, decide_eq_true_eq, decide_eq_true_eq] at hc
    apply none
    intro k hk
    have hl := occ_at hn hk
    rcases hc with h | h
    · rw [S_length, S_length] at h
      omega
    · refine kind_more h fun a ha => ?_
      have : a ∈ (x.drop k).take n.length := by rw [show (x.drop k).take n.length = n from hk]; exact ha
      exact List.mem_of_mem_drop (List.mem_of_mem_take this)
  · split
    · rename_i hc
      apply none
      intro k hk
      rw [List.isEmpty_iff.mp hc] at hG
      have e : f = 0 := hG
      exact hf k (by omega) (at_occ.mpr ⟨occ_at hn hk, hk⟩)
    · show (glued (S c) _).cps.toList = _
      rw [StrLaws.glued_eq_join, StrLaws.partsBetween_eq, parts_go hn _ 0 f (by omega) hG hf, List.drop_zero]
end Mine
end

-- part P1
section
open PySem PySem.W PyProof.Rows PySem.Calls
set_option maxRecDepth 100000
set_option linter.unusedVariables false
namespace Mine
def goAll (x : List Nat) (ps : List (List Nat × List Nat)) : List Nat := ps.foldl (fun x p => go p.1 p.2 0 x) x
theorem replAll_go : ∀ {ps : List (List Nat × List Nat)} {x : List Nat}, (∀ p ∈ ps, p.1 ≠ []) → replAll x ps = goAll x ps
  | [], x, _ => rfl
  | p :: r, x, h => by
    show replAll (rep x p.1 p.2) r = goAll (go p.1 p.2 0 x) r
    rw [rep_go (h p (by simp)), replAll_go fun q hq => h q (by simp [hq])]
theorem goAll_cons (x : List Nat) (p : List Nat × List Nat) (r : List (List Nat × List Nat)) : goAll x (p :: r) = goAll (go p.1 p.2 0 x) r := rfl
theorem goAll_append (x : List Nat) (p r : List (List Nat × List Nat)) : goAll x (p ++ r) = goAll (goAll x p) r := List.foldl_append
/-- a sign of n that x lacks: n is not in x -/
theorem go_free {n c x : List Nat} {a : Nat} (ha : a ∈ n) (hx : a ∉ x) : go n c 0 x = x := by
  apply go_none
  intro k _ e
  apply hx
  have : a ∈ (x.drop k).take n.length := by rw [show (x.drop k).take n.length = n from e]; exact ha
  exact List.mem_of_mem_drop (List.mem_of_mem_take this)
theorem go_le {n : List Nat} {c : Nat} : ∀ (x : List Nat) (k : Nat), (go n [c] k x).length ≤ x.length
  | [], k => by cases k <;> simp [go]
  | a :: r, 0 => by
    rw [go]
    split
    · have := go_le (n := n) (c := c) r (n.length - 1)
      simp; omega
    · have := go_le (n := n) (c := c) r 0
      simp; omega
  | a :: r, k + 1 => by
    rw [go]
    have := go_le (n := n) (c := c) r k
    simp; omega
theorem go_mem {n c : List Nat} {b : Nat} : ∀ (x : List Nat) (k : Nat), b ∈ go n c k x → b ∈ x ∨ b ∈ c
  | [], k, h => by cases k <;> simp [go] at h
  | a :: r, 0, h => by
    rw [go] at h
    split at h
    · rcases List.mem_append.mp h with h | h
      · exact .inr h
      · rcases go_mem r _ h with h | h
        · exact .inl (by simp [h])
        · exact .inr h
    · rcases List.mem_cons.mp h with h | h
      · exact .inl (by simp [h])
      · rcases go_mem r _ h with h | h
        · exact .inl (by simp [h])
        · exact .inr h
  | a :: r, k + 1, h => by
    rw [go] at h
    rcases go_mem r _ h with h | h
    · exact .inl (by simp [h])
    · exact .inr h
/-- a sign that n lacks parts the text -/
theorem go_gap {n c : List Nat} {g : Nat} {q : List Nat} (hg : g ∉ n) (hn : n ≠ []) : ∀ (p : List Nat) (k : Nat), k ≤ p.length → go n c k (p ++ g :: q) = go n c k p ++ g :: go n c 0 q
  | [], k, hk => by
    have : k = 0 := by simpa using hk
    subst this
    show go n c 0 (g :: q) = [] ++ g :: go n c 0 q
    have h0 : ¬ n.isPrefixOf (g :: q) = true := by
      cases n with
      | nil => exact absurd rfl hn
      | cons b n =>
        intro e
        rw [List.isPrefixOf_cons₂, Bool.and_eq_true, beq_iff_eq] at e
        exact hg (by simp [e.1])
    rw [go, if_neg h0]
    rfl
  | a :: p, 0, _ => by
    show go n c 0 (a :: (p ++ g :: q)) = go n c 0 (a :: p) ++ g :: go n c 0 q
    by_cases h : n.isPrefixOf (a :: p) = true
    · have hl : n.length ≤ p.length + 1 := by
        have := congrArg List.length (prefix_take.mp h)
        rw [List.length_take, List.length_cons] at this
        omega
      have h2 : n.isPrefixOf (a :: (p ++ g :: q)) = true := by
        rw [prefix_take] at h ⊢
        rw [← List.cons_append, List.take_append_of_le_length (by simpa using hl)]
        exact h
      rw [go, if_pos h2, go, if_pos h, go_gap hg hn p (n.length - 1) (by omega), List.append_assoc]
    · have h2 : ¬ n.isPrefixOf (a :: (p ++ g :: q)) = true := by
        intro e
        apply h
        rw [prefix_take] at e ⊢
        rw [← List.cons_append] at e
        by_cases hl : n.length ≤ (a :: p).length
        · rw [List.take_append_of_le_length hl] at e
          exact e
        · exfalso
          apply hg
          rw [← e, List.take_append]
          apply List.mem_append_right
          have : n.length - (a :: p).length = (n.length - (a :: p).length - 1) + 1 := by omega
          rw [this, List.take_succ_cons]
          simp
      rw [go, if_neg h2, go, if_neg h, go_gap hg hn p 0 (by omega), List.cons_append]
  | a :: p, k + 1, hk => by
    show go n c (k + 1) (a :: (p ++ g :: q)) = go n c (k + 1) (a :: p) ++ g :: go n c 0 q
    rw [go, go, go_gap hg hn p k (by simpa using hk)]
theorem go_flat {n c : List Nat} (hn : n ≠ []) {f : Int → List Nat} {g : Int → Nat} : ∀ xs : List Int, (∀ x ∈ xs, g x ∉ n) → go n c 0 (xs.map fun x => f x ++ [g x]).flatten = (xs.map fun x => go n c 0 (f x) ++ [g x]).flatten
  | [], _ => rfl
  | x :: r, h => by
    rw [List.map_cons, List.flatten_cons, List.append_assoc, List.singleton_append, go_gap (h x (by simp)) hn (f x) 0 (by omega), go_flat hn r fun y hy => h y (by simp [hy])]
    simp
theorem goAll_flat {g : Int → Nat} {xs : List Int} : ∀ (ps : List (List Nat × List Nat)) (f : Int → List Nat), (∀ p ∈ ps, p.1 ≠ []) → (∀ p ∈ ps, ∀ x ∈ xs, g x ∉ p.1) → goAll (xs.map fun x => f x ++ [g x]).flatten ps = (xs.map fun x => goAll (f x) ps ++ [g x]).flatten
  | [], f, _, _ => rfl
  | p :: r, f, h1, h2 => by
    rw [goAll_cons, go_flat (h1 p (by simp)) xs (h2 p (by simp)), goAll_flat r (fun x => go p.1 p.2 0 (f x)) (fun q hq => h1 q (by simp [hq])) (fun q hq => h2 q (by simp [hq]))]
    rfl
/-- there and back -/
theorem go_back {n : List Nat} {c : Nat} (hn : n ≠ []) : ∀ (x : List Nat) (k : Nat), c ∉ x → go [c] n 0 (go n [c] k x) = x.drop k
  | [], k, _ => by cases k <;> simp [go]
  | a :: r, 0, h => by
    have hr : c ∉ r := fun e => h (by simp [e])
    have ha : c ≠ a := fun e => h (by simp [e])
    rw [go]
    split
    · rename_i hp
      rw [List.singleton_append, go, if_pos (by simp), List.length_singleton, go_back hn r _ hr]
      have := prefix_take.mp hp
      rw [List.drop_zero]
      cases n with
      | nil => exact absurd rfl hn
      | cons b n =>
        rw [List.length_cons, List.take_succ_cons] at this
        injection this with e1 e2
        rw [List.length_cons, Nat.add_sub_cancel, e1, List.cons_append]
        congr 1
        conv => lhs; lhs; rw [← e2]
        exact List.take_append_drop _ _
    · rw [go, if_neg (by simp [ha]), go_back hn r 0 hr]
      rfl
  | a :: r, k + 1, h => by
    rw [go, go_back hn r k (fun e => h (by simp [e]))]
    rfl
def swapP (p : List Nat × Nat) : List Nat × List Nat := ([p.2], p.1)
def fwd (p : List Nat × Nat) : List Nat × List Nat := (p.1, [p.2])
def both (ps : List (List Nat × Nat)) : List (List Nat × List Nat) := ps.map fwd ++ (ps.map swapP).reverse
theorem both_cons (p : List Nat × Nat) (ps : List (List Nat × Nat)) : both (p :: ps) = fwd p :: (both ps ++ [swapP p]) := by simp [both]
theorem both_back : ∀ (ps : List (List Nat × Nat)) (x : List Nat), (∀ p ∈ ps, p.1 ≠ []) → (ps.map (·.2)).Nodup → (∀ p ∈ ps, p.2 ∉ x) → goAll x (both ps) = x ∧ ∀ k, (goAll x ((both ps).take k)).length ≤ x.length
  | [], x, _, _, _ => ⟨rfl, fun k => by simp [both, goAll]⟩
  | p :: r, x, h1, h2, h3 => by
    rw [List.map_cons, List.nodup_cons] at h2
    have ih := both_back r (go p.1 [p.2] 0 x) (fun q hq => h1 q (by simp [hq])) h2.2 (by
      intro q hq e
      rcases go_mem _ _ e with e | e
      · exact h3 q (by simp [hq]) e
      · apply h2.1
        rw [List.mem_singleton] at e
        rw [← e]
        exact List.mem_map_of_mem hq)
    have hb := go_back (h1 p (by simp)) x 0 (h3 p (by simp))
    rw [List.drop_zero] at hb
    have whole : goAll x (both (p :: r)) = x := by
      rw [both_cons, goAll_cons, goAll_append]
      show goAll (goAll (go p.1 [p.2] 0 x) (both r)) [swapP p] = x
      rw [ih.1]
      exact hb
    refine ⟨whole, fun k => ?_⟩
    have gl := go_le (n := p.1) (c := p.2) x 0
    cases k with
    | zero => exact Nat.le_refl _
    | succ k =>
      by_cases hk : k ≤ (both r).length
      · rw [both_cons, List.take_succ_cons, goAll_cons, List.take_append_of_le_length hk]
        have := ih.2 k
        show (goAll (go p.1 [p.2] 0 x) _).length ≤ _
        omega
      · rw [List.take_of_length_le (by rw [both_cons, List.length_cons, List.length_append, List.length_singleton]; omega), whole]
        exact Nat.le_refl _
theorem goAll_fwd_le : ∀ (ps : List (List Nat × Nat)) (x : List Nat) , (goAll x (ps.map fwd)).length ≤ x.length
  | [], x => Nat.le_refl _
  | p :: r, x => by
    rw [List.map_cons, goAll_cons]
    have := goAll_fwd_le r (go (fwd p).1 (fwd p).2 0 x)
    have h2 := go_le (n := p.1) (c := p.2) x 0
    show (goAll (go p.1 [p.2] 0 x) _).length ≤ _
    exact Nat.le_trans this h2
end Mine
end

-- part P2
section
open PySem PySem.W PyProof.Rows PySem.Calls
set_option maxRecDepth 100000
set_option linter.unusedVariables false
namespace Mine
def singles : List Nat := opsL.filterMap fun o => match o with | [c] => some c | _ => none
def pieces : List (List Nat) := opsL ++ singles.flatMap fun c => (List.range 6).map fun k => List.replicate (k + 1) c
theorem piece_mem (x : Int) : pieceOf x ∈ pieces := by
  have a : ∀ e ∈ opsL, e.headD 0 ∈ singles := by decide +kernel
  have hx0 := Int.fmod_nonneg_of_pos x (show (0 : Int) < 48 by decide)
  have hx1 := Int.fmod_lt_of_pos x (show (0 : Int) < 48 by decide)
  have hy1 := Int.fmod_lt_of_pos (x.fdiv 48) (show (0 : Int) < 7 by decide)
  have l : opsL.length = 48 := by decide
  have m : opsL.getD (x.fmod 48).toNat [] ∈ opsL := by
    rw [List.getD_eq_getElem?_getD, List.getElem?_eq_getElem (by omega)]
    exact List.getElem_mem _
  unfold pieceOf
  by_cases hc : 0 < (x.fdiv 48).fmod 7
  · rw [if_pos hc]
    apply List.mem_append_right
    refine List.mem_flatMap.mpr ⟨_, a _ m, ?_⟩
    refine List.mem_map.mpr ⟨((x.fdiv 48).fmod 7).toNat - 1, List.mem_range.mpr (by omega), ?_⟩
    rw [show ((x.fdiv 48).fmod 7).toNat - 1 + 1 = ((x.fdiv 48).fmod 7).toNat by omega]
  · rw [if_neg hc]
    exact List.mem_append_left _ m
def withCode (o : List Nat) : List Nat × Nat := (o, code o)
def psR (r : Nat) : List (List Nat × Nat) := (ordOps r).map withCode
theorem ord_mem {r : Nat} {o : List Nat} (h : o ∈ ordOps r) : o ∈ opsL := by
  unfold ordOps at h
  obtain ⟨k, _, hk⟩ := List.mem_flatMap.mp h
  rcases List.mem_append.mp (List.mem_filter.mp hk).1 with h | h
  · exact List.mem_of_mem_drop h
  · exact List.mem_of_mem_take h
theorem ops_facts : ∀ o ∈ opsL, o ≠ [] ∧ o.length ≤ 3 ∧ (∀ a ∈ o, a < 256 ∧ (num [a]).isSome = true) := by decide +kernel
theorem code_ge (o : List Nat) : 256 ≤ code o := by unfold code; omega
theorem gap_facts (x : Int) : gapOf x < 256 ∧ num [gapOf x] = none := by
  unfold gapOf
  have h0 := Int.fmod_nonneg_of_pos (x.fdiv 336 + 97) (show (0 : Int) < 256 by decide)
  have h1 := Int.fmod_lt_of_pos (x.fdiv 336 + 97) (show (0 : Int) < 256 by decide)
  dsimp only
  split
  · exact ⟨by decide, by decide⟩
  · rename_i h
    refine ⟨by omega, ?_⟩
    cases e : num [((x.fdiv 336 + 97).fmod 256).toNat] with
    | none => rfl
    | some v => rw [e] at h; exact absurd rfl h
theorem gap_not {x : Int} {o : List Nat} (ho : o ∈ opsL) : gapOf x ∉ o := by
  intro h
  have := ((ops_facts o ho).2.2 _ h).2
  rw [(gap_facts x).2] at this
  cases this
theorem goAll_filter (x0 : List Nat) : ∀ (ps : List (List Nat × Nat)) (x : List Nat), (∀ b ∈ x, b ∈ x0 ∨ 256 ≤ b) → (∀ p ∈ ps, (∀ a ∈ p.1, a < 256) ∧ 256 ≤ p.2) →
    goAll x (ps.map fwd) = goAll x ((ps.filter fun p => p.1.all (x0.contains ·)).map fwd)
  | [], x, _, _ => rfl
  | p :: r, x, hx, hp => by
    have ihp : ∀ q ∈ r, (∀ a ∈ q.1, a < 256) ∧ 256 ≤ q.2 := fun q hq => hp q (by simp [hq])
    by_cases h : (p.1.all (x0.contains ·)) = true
    · rw [List.filter_cons_of_pos (p := fun p : List Nat × Nat => p.1.all (x0.contains ·)) h, List.map_cons, List.map_cons, goAll_cons, goAll_cons]
      refine goAll_filter x0 r _ ?_ ihp
      intro b hb
      rcases go_mem _ _ hb with hb | hb
      · exact hx b hb
      · rw [show (fwd p).2 = [p.2] from rfl, List.mem_singleton] at hb
        right
        rw [hb]
        exact (hp p (by simp)).2
    · rw [List.filter_cons_of_neg (p := fun p : List Nat × Nat => p.1.all (x0.contains ·)) h, List.map_cons, goAll_cons]
      have : go (fwd p).1 (fwd p).2 0 x = x := by
        rw [Bool.not_eq_true, List.all_eq_false] at h
        obtain ⟨a, ha, hn⟩ := h
        refine go_free (a := a) ha ?_
        intro hax
        rcases hx a hax with h | h
        · apply hn
          simpa using h
        · have := (hp p (by simp)).1 a ha
          omega
      rw [this]
      exact goAll_filter x0 r x hx ihp
def relOps (x : List Nat) : List (List Nat) := opsL.filter fun o => o.all (x.contains ·)
def ordRel (fl : List (List Nat)) (r : Nat) : List (List Nat) := [3, 2, 1].flatMap fun k => (fl.drop r ++ fl.take r).filter fun o => o.length == k
theorem rot_filter {α : Type} (l : List α) (q : α → Bool) (r : Nat) : ∃ r', r' ≤ (l.filter q).length ∧ (l.drop r ++ l.take r).filter q = (l.filter q).drop r' ++ (l.filter q).take r' := by
  refine ⟨((l.take r).filter q).length, ?_, ?_⟩
  · conv => rhs; rw [← List.take_append_drop r l, List.filter_append, List.length_append]
    omega
  · have e : l.filter q = (l.take r).filter q ++ (l.drop r).filter q := by rw [← List.filter_append, List.take_append_drop]
    rw [List.filter_append, e, List.drop_left, List.take_left]
theorem ord_filter (x : List Nat) (r : Nat) : ∃ r', r' ≤ (relOps x).length ∧ ((psR r).filter fun p => p.1.all (x.contains ·)) = (ordRel (relOps x) r').map withCode := by
  obtain ⟨r', h1, h2⟩ := rot_filter opsL (fun o => o.all (x.contains ·)) r
  refine ⟨r', h1, ?_⟩
  have key : ((psR r).filter fun p => p.1.all (x.contains ·)) = ((ordOps r).filter fun o => o.all (x.contains ·)).map withCode := by
    unfold psR
    rw [List.filter_map]
    rfl
  rw [key]
  congr 1
  unfold ordOps ordRel relOps
  rw [← h2]
  simp only [List.flatMap_cons, List.flatMap_nil, List.filter_append, List.append_nil, List.filter_filter, Bool.and_comm]
def okPiece (x : List Nat) : Bool := (List.range ((relOps x).length + 1)).all fun r => goAll x (((ordRel (relOps x) r).map withCode).map fwd) == wr x
theorem all_ok : pieces.all okPiece = true := by decide +kernel
theorem piece_law {x : List Nat} (hx : x ∈ pieces) (r : Nat) : goAll x ((psR r).map fwd) = wr x := by
  obtain ⟨r', h1, h2⟩ := ord_filter x r
  rw [goAll_filter x (psR r) x (fun b hb => .inl hb), h2]
  · have := List.all_eq_true.mp all_ok x hx
    unfold okPiece at this
    exact beq_iff_eq.mp (List.all_eq_true.mp this r' (List.mem_range.mpr (by omega)))
  · intro p hp
    obtain ⟨o, ho, rfl⟩ := List.mem_map.mp hp
    exact ⟨fun a ha => ((ops_facts o (ord_mem ho)).2.2 a ha).1, code_ge o⟩
theorem psR_ne {r : Nat} : ∀ p ∈ psR r, p.1 ≠ [] := by
  intro p hp
  obtain ⟨o, ho, rfl⟩ := List.mem_map.mp hp
  exact (ops_facts o (ord_mem ho)).1
/-- the first ask -/
theorem law1 (xs : List Int) (r : Nat) : replAll (xs.map fun x => pieceOf x ++ [gapOf x]).flatten ((psR r).map fwd) = (xs.map fun x => wr (pieceOf x) ++ [gapOf x]).flatten := by
  have ne : ∀ p ∈ (psR r).map fwd, p.1 ≠ [] := by
    intro p hp
    obtain ⟨q, hq, rfl⟩ := List.mem_map.mp hp
    exact psR_ne q hq
  rw [replAll_go ne, goAll_flat _ _ ne]
  · congr 1
    apply List.map_congr_left
    intro x _
    rw [piece_law (piece_mem x) r]
  · intro p hp x _
    obtain ⟨q, hq, rfl⟩ := List.mem_map.mp hp
    obtain ⟨o, ho, rfl⟩ := List.mem_map.mp hq
    exact gap_not (ord_mem ho)
/-- the second -/
def hv (p : List Nat) : List Nat := if p.headD 0 = 61 then List.replicate ((p.length + 1) / 2) 61 else p
theorem all_hv : ∀ p ∈ pieces, go [61, 61] [61] 0 p = hv p := by decide +kernel
theorem law2 (xs : List Int) : replAll (xs.map fun x => pieceOf x ++ [gapOf x]).flatten [([61, 61], [61])] = (xs.map fun x => hv (pieceOf x) ++ [gapOf x]).flatten := by
  rw [replAll_go (by simp), goAll_flat _ _ (by simp)]
  · congr 1
    apply List.map_congr_left
    intro x _
    show go [61, 61] [61] 0 (pieceOf x) ++ _ = _
    rw [all_hv _ (piece_mem x)]
  · intro p hp x _
    rw [List.mem_singleton.mp hp]
    exact gap_not (by decide +kernel : [61, 61] ∈ opsL)
/-- the third -/
def good : List Nat → List (List Nat) → Bool
  | _, [] => true
  | seen, [a] :: r => good (a :: seen) r
  | seen, n :: r => seen.contains (n.headD 0) && good seen r
theorem go_one (a c : Nat) : ∀ x : List Nat, go [a] [c] 0 x = x.map fun b => if b = a then c else b
  | [] => rfl
  | b :: r => by
    rw [go]
    by_cases h : b = a
    · subst h
      rw [if_pos (by simp), List.map_cons, if_pos rfl, ← go_one b c r]
      rfl
    · rw [if_neg (by simp; exact fun e => h e.symm), List.map_cons, if_neg h, go_one a c r]
theorem good_go : ∀ (l : List (List Nat)) (seen x : List Nat), good seen l = true → (∀ o ∈ l, o ≠ [] ∧ ∀ a ∈ o, a < 256) → (∀ a ∈ seen, a < 256 ∧ a ∉ x) → goAll x ((l.map withCode).map fwd) = x.map fun b => if [b] ∈ l then code [b] else b
  | [], seen, x, _, _, _ => by simp [goAll]
  | o :: r, seen, x, hg, ho, hs => by
    have hr : ∀ o ∈ r, o ≠ [] ∧ ∀ a ∈ o, a < 256 := fun q hq => ho q (by simp [hq])
    rw [List.map_cons, List.map_cons, goAll_cons]
    show goAll (go o [code o] 0 x) ((r.map withCode).map fwd) = _
    by_cases h1 : ∃ a, o = [a]
    · obtain ⟨a, rfl⟩ := h1
      have ha : a < 256 := (ho [a] (by simp)).2 a (by simp)
      rw [go_one, good_go r (a :: seen) _ hg hr, List.map_map]
      · apply List.map_congr_left
        intro b _
        show (if [if b = a then code [a] else b] ∈ r then code [if b = a then code [a] else b] else if b = a then code [a] else b) = _
        by_cases e : b = a
        · subst e
          rw [if_pos rfl, if_neg, if_pos (by simp)]
          intro hm
          have := (hr _ hm).2 _ (List.mem_singleton.mpr rfl)
          have := code_ge [b]
          omega
        · rw [if_neg e]
          by_cases hm : [b] ∈ r
          · rw [if_pos hm, if_pos (by simp [hm])]
          · rw [if_neg hm, if_neg (by simp [hm, e])]
      · intro b hb
        have hcode := code_ge [a]
        refine ⟨?_, ?_⟩
        · rcases List.mem_cons.mp hb with rfl | hb
          · exact ha
          · exact (hs b hb).1
        · intro hm
          obtain ⟨z, hz, e⟩ := List.mem_map.mp hm
          rcases List.mem_cons.mp hb with rfl | hb
          · split at e
            · omega
            · contradiction
          · have := hs b hb
            split at e
            · omega
            · exact this.2 (e ▸ hz)
    · have hne := (ho o (by simp)).1
      obtain ⟨a, b, q, rfl⟩ : ∃ a b q, o = a :: b :: q := by
        match o, hne, h1 with
        | [], h, _ => exact absurd rfl h
        | [a], _, h => exact absurd ⟨a, rfl⟩ h
        | a :: b :: q, _, _ => exact ⟨a, b, q, rfl⟩
      have hg' : (seen.contains a && good seen r) = true := hg
      rw [Bool.and_eq_true] at hg'
      have ha : a ∈ seen := by simpa using hg'.1
      rw [go_free (a := a) (by simp) (hs a ha).2, good_go r seen x hg'.2 hr hs]
      apply List.map_congr_left
      intro z _
      by_cases hm : [z] ∈ r
      · rw [if_pos hm, if_pos (by simp [hm])]
      · rw [if_neg hm, if_neg (by simp [hm])]
theorem num_mem {a : Nat} : [a] ∈ opsL ↔ (num [a]).isSome = true := by
  constructor
  · intro h
    have k : ∀ e ∈ opsL, (num e).isSome = true := by decide
    exact k _ h
  · intro h
    obtain ⟨k, hk⟩ := Option.isSome_iff_exists.mp h
    exact List.mem_map.mpr ⟨_, lookup_mem hk, rfl⟩
theorem piece_sign {x : Int} {a : Nat} (h : a ∈ pieceOf x) : (num [a]).isSome = true := by
  have k : ∀ p ∈ pieces, ∀ a ∈ p, (num [a]).isSome = true := by decide +kernel
  exact k _ (piece_mem x) a h
theorem wr_one {a : Nat} (h : (num [a]).isSome = true) : wr [a] = [code [a]] := by
  unfold wr
  rw [if_pos h]
def tabP : List (List Nat × Nat) := opsL.map withCode
theorem law3 (xs : List Int) : replAll ((xs.map pieceOf).flatten ++ xs.map gapOf) (tabP.map fwd) = ((xs.map pieceOf).flatten.map fun c => wr [c]).flatten ++ xs.map gapOf := by
  have ne : ∀ p ∈ tabP.map fwd, p.1 ≠ [] := by
    intro p hp
    obtain ⟨q, hq, rfl⟩ := List.mem_map.mp hp
    obtain ⟨o, ho, rfl⟩ := List.mem_map.mp hq
    exact (ops_facts o ho).1
  rw [replAll_go ne]
  unfold tabP
  rw [good_go opsL [] _ (by decide +kernel) (fun o ho => ⟨(ops_facts o ho).1, fun a ha => ((ops_facts o ho).2.2 a ha).1⟩) (by simp), List.map_append]
  congr 1
  · have : ∀ l : List Nat, (∀ a ∈ l, (num [a]).isSome = true) → (l.map fun b => if [b] ∈ opsL then code [b] else b) = (l.map fun c => wr [c]).flatten := by
      intro l
      induction l with
      | nil => intro _; rfl
      | cons a l ih =>
        intro h
        rw [List.map_cons, List.map_cons, List.flatten_cons, wr_one (h a (by simp)), if_pos (num_mem.mpr (h a (by simp))), ih fun b hb => h b (by simp [hb])]
        rfl
    apply this
    intro a ha
    obtain ⟨p, hp, hap⟩ := List.mem_flatten.mp ha
    obtain ⟨x, _, rfl⟩ := List.mem_map.mp hp
    exact piece_sign hap
  · rw [List.map_map]
    apply List.map_congr_left
    intro x _
    show (if [gapOf x] ∈ opsL then _ else gapOf x) = gapOf x
    rw [if_neg]
    rw [num_mem, (gap_facts x).2]
    decide
end Mine
end

-- part P3
section
open PySem PySem.W PyProof.Rows PySem.Calls
set_option maxRecDepth 100000
set_option linter.unusedVariables false
namespace Mine
theorem flat_fwd (l : List (List Nat)) : pairsOf (l.map S) = flat ((l.map withCode).map fwd) := by
  unfold pairsOf flat
  rw [List.flatMap_map, List.flatMap_map, List.flatMap_map]
  rfl
theorem flat_append (a b : List (List Nat × List Nat)) : flat (a ++ b) = flat a ++ flat b := by
  unfold flat
  rw [List.flatMap_append]
theorem flat_rev : ∀ ps : List (List Nat × Nat), (flat (ps.map fwd)).reverse = flat (ps.map swapP).reverse
  | [] => rfl
  | p :: r => by
    rw [List.map_cons, List.map_cons, List.reverse_cons, flat_append, ← flat_rev r]
    show (S p.1 :: S [p.2] :: flat (r.map fwd)).reverse = _
    rw [List.reverse_cons, List.reverse_cons, List.append_assoc]
    rfl
theorem flat_both {l : List (Str × Tok)} {r : Nat} (h : l.map (·.1) = flat ((psR r).map fwd)) : (l ++ l.reverse).map (·.1) = flat (both (psR r)) := by
  rw [List.map_append, List.map_reverse, h, flat_rev, both, flat_append]
theorem ord_nodup (r : Nat) : (ordOps r).Nodup := by
  have nd : opsL.Nodup := by decide +kernel
  have nd2 : (opsL.drop r ++ opsL.take r).Nodup := by
    have nd' : (opsL.take r ++ opsL.drop r).Nodup := by rw [List.take_append_drop]; exact nd
    obtain ⟨a, b, c⟩ := List.nodup_append.mp nd'
    exact List.nodup_append.mpr ⟨b, a, fun x hx y hy e => c y hy x hx e.symm⟩
  unfold ordOps
  simp only [List.flatMap_cons, List.flatMap_nil, List.append_nil]
  have dis : ∀ a b : Nat, a ≠ b → ∀ x ∈ (opsL.drop r ++ opsL.take r).filter (fun o => o.length == a), ∀ y ∈ (opsL.drop r ++ opsL.take r).filter (fun o => o.length == b), x ≠ y := by
    intro a b hab x hx y hy e
    subst e
    have h1 := beq_iff_eq.mp (List.mem_filter.mp hx).2
    have h2 := beq_iff_eq.mp (List.mem_filter.mp hy).2
    omega
  refine List.nodup_append.mpr ⟨nd2.filter _, List.nodup_append.mpr ⟨nd2.filter _, nd2.filter _, dis 2 1 (by decide)⟩, ?_⟩
  intro x hx y hy
  rcases List.mem_append.mp hy with hy | hy
  · exact dis 3 2 (by decide) x hx y hy
  · exact dis 3 1 (by decide) x hx y hy
theorem code_inj : ∀ a ∈ opsL, ∀ b ∈ opsL, code a = code b → a = b := by decide +kernel
theorem nodup_code : ∀ l : List (List Nat), l.Nodup → (∀ o ∈ l, o ∈ opsL) → ((l.map withCode).map (·.2)).Nodup
  | [], _, _ => List.nodup_nil
  | a :: r, h, hm => by
    rw [List.nodup_cons] at h
    rw [List.map_cons, List.map_cons, List.nodup_cons]
    refine ⟨?_, nodup_code r h.2 fun o ho => hm o (by simp [ho])⟩
    intro e
    obtain ⟨q, hq, e⟩ := List.mem_map.mp e
    obtain ⟨o, ho, rfl⟩ := List.mem_map.mp hq
    have := code_inj o (hm o (by simp [ho])) a (hm a (by simp)) e
    exact h.1 (this ▸ ho)
def textOf (xs : List Int) : List Nat := (xs.map pieceOf).flatten ++ xs.map gapOf
theorem ops_sign {a : Nat} (h : (num [a]).isSome = true) : a < 256 := by
  have k := num_mem.mpr h
  exact ((ops_facts _ k).2.2 a (by simp)).1
theorem text_small {xs : List Int} {a : Nat} (h : a ∈ textOf xs) : a < 256 := by
  rcases List.mem_append.mp h with h | h
  · obtain ⟨p, hp, hap⟩ := List.mem_flatten.mp h
    obtain ⟨x, _, rfl⟩ := List.mem_map.mp hp
    exact ops_sign (piece_sign hap)
  · obtain ⟨x, _, rfl⟩ := List.mem_map.mp h
    exact (gap_facts x).1
theorem both_ne {r : Nat} : ∀ p ∈ both (psR r), p.1 ≠ [] ∧ 1 ≤ p.1.length ∧ p.1.length ≤ 10 ∧ p.2.length ≤ 10 := by
  intro p hp
  rcases List.mem_append.mp hp with hp | hp
  · obtain ⟨q, hq, rfl⟩ := List.mem_map.mp hp
    obtain ⟨o, ho, rfl⟩ := List.mem_map.mp hq
    obtain ⟨h1, h2, _⟩ := ops_facts o (ord_mem ho)
    refine ⟨h1, ?_, ?_, ?_⟩
    · show 1 ≤ o.length
      cases o with
      | nil => exact absurd rfl h1
      | cons a b => simp
    · show o.length ≤ 10
      omega
    · show [code o].length ≤ 10
      simp
  · obtain ⟨q, hq, rfl⟩ := List.mem_map.mp (List.mem_reverse.mp hp)
    obtain ⟨o, ho, rfl⟩ := List.mem_map.mp hq
    obtain ⟨h1, h2, _⟩ := ops_facts o (ord_mem ho)
    refine ⟨by simp [swapP], by simp [swapP], by simp [swapP], ?_⟩
    show o.length ≤ 10
    omega
theorem law4 (xs : List Int) (r : Nat) : replAll (textOf xs) (both (psR r)) = textOf xs ∧ ∀ k, (replAll (textOf xs) ((both (psR r)).take k)).length ≤ (textOf xs).length := by
  have h := both_back (psR r) (textOf xs) psR_ne (nodup_code _ (ord_nodup r) fun o ho => ord_mem ho) (by
    intro p hp e
    obtain ⟨o, ho, rfl⟩ := List.mem_map.mp hp
    have := text_small e
    have h2 := code_ge o
    have e : (withCode o).2 = code o := rfl
    omega)
  refine ⟨?_, fun k => ?_⟩
  · rw [replAll_go fun p hp => (both_ne p hp).1]
    exact h.1
  · rw [replAll_go fun p hp => (both_ne p (List.mem_of_mem_take hp)).1]
    exact h.2 k
theorem fwd_ok {l : List (List Nat)} (hl : ∀ o ∈ l, o ∈ opsL) : ∀ p ∈ (l.map withCode).map fwd, p.1 ≠ [] ∧ 1 ≤ p.1.length ∧ p.1.length ≤ 10 ∧ p.2.length ≤ 10 := by
  intro p hp
  obtain ⟨q, hq, rfl⟩ := List.mem_map.mp hp
  obtain ⟨o, ho, rfl⟩ := List.mem_map.mp hq
  obtain ⟨h1, h2, _⟩ := ops_facts o (hl o ho)
  refine ⟨h1, ?_, ?_, ?_⟩
  · show 1 ≤ o.length
    cases o with
    | nil => exact absurd rfl h1
    | cons a b => simp
  · show o.length ≤ 10
    omega
  · show [code o].length ≤ 10
    simp
theorem fwd_len {l : List (List Nat)} (hl : ∀ o ∈ l, o ∈ opsL) (x : List Nat) (k : Nat) : (replAll x (((l.map withCode).map fwd).take k)).length ≤ x.length := by
  rw [← List.map_take, ← List.map_take, replAll_go fun p hp => (fwd_ok (fun o ho => hl o (List.mem_of_mem_take ho)) p hp).1]
  exact goAll_fwd_le _ _
theorem text_le {xs : List Int} (h : xs.length ≤ 9) : (xs.map pieceOf).flatten.length ≤ 54 ∧ (textOf xs).length ≤ 63 := by
  have key : ∀ xs : List Int, (xs.map pieceOf).flatten.length ≤ 6 * xs.length := by
    intro xs
    induction xs with
    | nil => simp
    | cons a r ih =>
      have := piece_len a
      rw [List.map_cons, List.flatten_cons, List.length_append, List.length_cons]
      omega
  have := key xs
  unfold textOf
  rw [List.length_append, List.length_map]
  omega
theorem filter_parts {f : Int → List Nat} {g : Int → Nat} {pr : Nat → Bool} : ∀ xs : List Int, (∀ x ∈ xs, ∀ a ∈ f x, pr a = true) → (∀ x ∈ xs, pr (g x) = false) →
    (xs.map fun x => f x ++ [g x]).flatten.filter pr = (xs.map f).flatten ∧ (xs.map fun x => f x ++ [g x]).flatten.filter (fun c => !pr c) = xs.map g
  | [], _, _ => ⟨rfl, rfl⟩
  | x :: r, h1, h2 => by
    obtain ⟨i1, i2⟩ := filter_parts r (fun y hy => h1 y (by simp [hy])) (fun y hy => h2 y (by simp [hy]))
    have e1 : (f x).filter pr = f x := List.filter_eq_self.mpr (h1 x (by simp))
    have e2 : (f x).filter (fun c => !pr c) = [] := by
      rw [List.filter_eq_nil_iff]
      intro a ha
      rw [h1 x (by simp) a ha]
      simp
    have e3 := h2 x (by simp)
    rw [List.map_cons, List.flatten_cons, List.filter_append, List.filter_append, List.filter_append, List.filter_append, i1, i2, e1, e2]
    simp [List.filter_cons, e3]
/-- the fifth -/
theorem law5 (xs : List Int) : (xs.map fun x => pieceOf x ++ [gapOf x]).flatten.filter (fun c => (num [c]).isSome) = (xs.map pieceOf).flatten ∧ (xs.map fun x => pieceOf x ++ [gapOf x]).flatten.filter (fun c => !(num [c]).isSome) = xs.map gapOf :=
  filter_parts xs (fun x _ a ha => piece_sign ha) (fun x _ => by rw [(gap_facts x).2]; rfl)
theorem wr_big (p : List Nat) : ∀ a ∈ wr p, 256 ≤ a := by
  intro a ha
  unfold wr at ha
  split at ha
  · rw [List.mem_singleton.mp ha]
    exact code_ge _
  · dsimp only at ha
    rcases List.mem_append.mp ha with ha | ha
    · rw [(List.mem_replicate.mp ha).2]
      exact code_ge _
    · rw [(List.mem_replicate.mp ha).2]
      exact code_ge _
/-- the sixth -/
theorem law6 (xs : List Int) : (xs.map fun x => wr (pieceOf x) ++ [gapOf x]).flatten.filter (fun c => decide (256 ≤ c)) = (xs.map fun x => wr (pieceOf x)).flatten ∧ (xs.map fun x => wr (pieceOf x) ++ [gapOf x]).flatten.filter (fun c => !decide (256 ≤ c)) = xs.map gapOf :=
  filter_parts (f := fun x => wr (pieceOf x)) xs (fun x _ a ha => by simpa using wr_big _ a ha) (fun x _ => by have := (gap_facts x).1; simp; omega)
end Mine
end

-- part WG
section
open PySem PySem.W PyProof.Rows PySem.Calls
set_option maxRecDepth 100000
set_option maxHeartbeats 8000000
set_option linter.unusedVariables false
namespace Mine
local macro_rules | `(tactic| walk_at "eval ListComp") => `(tactic| refine Hold.mk ?_)
local macro_rules | `(tactic| walk_at "CompSrc") => `(tactic| refine Hold.mk ?_)
local macro_rules | `(tactic| walk_at "subscriptTail Name Name ref int") => `(tactic| refine Hold.mk ?_)
local macro_rules | `(tactic| walk_at "compareOp NotEq str str") => `(tactic| refine Hold.mk ?_)
local macro_rules | `(tactic| walk_at "execs cons") => `(tactic| ((with_reducible show wpAny _ _ (execs (Stmt.Assign [Expr.Name (PySem.Str.ofString "halves") _] _ _ :: _) _) _ _ _); refine Hold.mk ?_))
local macro_rules | `(tactic| walk_at "execs cons Assign cons") => `(tactic| ((with_reducible show wpAny _ _ (execs (Stmt.Assign [Expr.Name (PySem.Str.ofString "halves") _] _ _ :: _) _) _ _ _); refine Hold.mk ?_))
local macro_rules | `(tactic| walk_at "execs cons Assign") => `(tactic| ((with_reducible show wpAny _ _ (execs (Stmt.Assign [Expr.Name (PySem.Str.ofString "halves") _] _ _ :: _) _) _ _ _); refine Hold.mk ?_))
theorem s_same {prog : Program} {w : World} {A : Around} {E : Value → Shared → Prop} {s : Shared} {t u : Tok} {Q : Value → Shared → Prop} {x : Str} (h : Q (.bool false) s) : wpAny (model prog w) A (compareOp .NotEq (.str x t) (.str x u)) Q E s := by
  refine PyProof.Rows.ne_str ?_
  rw [show (x != x) = !(x == x) from rfl, str_beq, beq_self_eq_true]
  exact h
theorem wr_len (x : Int) : (wr (pieceOf x)).length ≤ 6 := by
  have h := piece_len x
  unfold wr
  split
  · simp
  · dsimp only
    have hs := sizeOf1_le ((pieceOf x).headD 0)
    rw [List.length_append, List.length_replicate, List.length_replicate]
    have h1 := Nat.div_add_mod (pieceOf x).length (sizeOf1 ((pieceOf x).headD 0))
    have h2 : (pieceOf x).length / sizeOf1 ((pieceOf x).headD 0) ≤ sizeOf1 ((pieceOf x).headD 0) * ((pieceOf x).length / sizeOf1 ((pieceOf x).headD 0)) := Nat.le_mul_of_pos_left _ (by omega)
    omega
theorem flat_le2 {f : Int → List Nat} (hf : ∀ x, (f x).length ≤ 6) {xs : List Int} (h : xs.length ≤ 9) : ((xs.map fun x => f x ++ [gapOf x]).flatten).length ≤ 100000 := by
  have key : ∀ xs : List Int, ((xs.map fun x => f x ++ [gapOf x]).flatten).length ≤ 7 * xs.length := by
    intro xs
    induction xs with
    | nil => simp
    | cons a r ih =>
      have := hf a
      rw [List.map_cons, List.flatten_cons, List.length_append, List.length_append, List.length_cons, List.length_cons, List.length_nil]
      omega
  have := key xs
  omega
theorem law_G {w : World} {s : Shared} {p : Program} {loose : List Str} {mean : ExcName → Option Value} {mg mb : Str → Option Value} {Q : Flow → Shared → Prop} {h₀ : Heap} {L : Nat} {fa lscr : Addr} {op og o3 o4 o5 : Obj} {m : Str → Option Value} {xs ns : List Int} {Df Dt Dc Dg Dp Dn nf nt nc ng np cn : Nat} {lf lt lc lg lp ln : List (Str × Tok)} {ta tw : Tok}
    {name qual : Str} {params : Arguments} {body : List Stmt} {scope : Scope} {dV kV doc pm cdv ct oc : Value} {an od : Option Addr} {osl : Array (Option Value)}
    (ho : (Mine.hd.heap_39 w.params).lookup 57 = some ⟨oc, od, .func (fnOf name qual params body scope dV kV doc pm an cdv ct), osl⟩)
    (X : (Mine.hd.heap_39 w.params).In h₀) (T : Top p loose mean mg mb h₀)
    (hm0 : m (Str.ofString "names") = some (.ref Dn)) (hm1 : m (Str.ofString "script") = some (.ref lscr)) (hm2 : m (Str.ofString "apart") = some (.str (S (xs.map fun x => pieceOf x ++ [gapOf x]).flatten) ta)) (hm3 : m (Str.ofString "forth") = some (.ref Df)) (hm4 : m (Str.ofString "written") = some (.str (S (xs.map fun x => wr (pieceOf x) ++ [gapOf x]).flatten) tw)) (F : Fr h₀ L s.heap m)
    (N : News h₀ L s.heap [(Df, W.listOf (strValues lf).toArray nf), (Dt, W.listOf (strValues lt).toArray nt), (Dc, W.listOf (strValues lc).toArray nc), (Dg, W.listOf (strValues lg).toArray ng), (Dp, W.listOf (strValues lp).toArray np), (Dn, W.listOf (strValues ln).toArray cn), (L + 1 + 1 + 1 + 1 + 1, o5), (L + 1 + 1 + 1 + 1, o4), (L + 1 + 1 + 1, o3), (L + 1 + 1, og), (L + 1, op), (54, tabObj #[])])
    (hog : og.data = .cell (some (.ref Dg))) (hop : op.data = .cell (some (.ref Dp))) (hoc : o3.data = .cell (some (.ref Dc)))
    (hlp : lp.map (·.1) = (xs.map pieceOf).map S) (hlg : lg.map (·.1) = (xs.map fun x => [gapOf x]).map S) (hxs : xs.length ≤ 9) (lt1 : L + 5 < Dn) (lt2 : Dn < Dp) (lt3 : Dp < Dg) (hL : 54 < L) (hlc : lc.map (·.1) = (xs.map fun x => wr (pieceOf x)).map S)
    (hQ : ∀ h' tk m', m' (Str.ofString "names") = some (.ref Dn) → m' (Str.ofString "script") = some (.ref lscr) → m' (Str.ofString "apart") = some (.str (S (xs.map fun x => pieceOf x ++ [gapOf x]).flatten) ta) → m' (Str.ofString "forth") = some (.ref Df) → m' (Str.ofString "written") = some (.str (S (xs.map fun x => wr (pieceOf x) ++ [gapOf x]).flatten) tw) → Fr h₀ L h' m' → News h₀ L h' [(Df, W.listOf (strValues lf).toArray nf), (Dt, W.listOf (strValues lt).toArray nt), (Dc, W.listOf (strValues lc).toArray nc), (Dg, W.listOf (strValues lg).toArray ng), (Dp, W.listOf (strValues lp).toArray np), (Dn, W.listOf (strValues ln).toArray cn), (L + 1 + 1 + 1 + 1 + 1, o5), (L + 1 + 1 + 1 + 1, o4), (L + 1 + 1 + 1, o3), (L + 1 + 1, og), (L + 1, op), (54, tabObj #[])] → wpAny (model PySem.Challenge.rw_mr0178_01.row.prog w) (callerA.deeper (envOfC qual scope L fa cdv)) (execs (body.drop 11) (envOfC qual scope L fa cdv)) Q (fun _ _ => False) { s with heap := h', toks := tk }) :
    wpAny (model PySem.Challenge.rw_mr0178_01.row.prog w) (callerA.deeper (envOfC qual scope L fa cdv)) (execs (body.drop 10) (envOfC qual scope L fa cdv)) Q (fun _ _ => False) s := by
  w_top off; revert X; k_fill; intro X
  have e := Option.some.inj (ho.symm.trans (rfl : (Mine.hd.heap_39 w.params).lookup 57 = some _))
  cases e
  clear ho
  simp only [List.drop]
  rw [fix1 hm0] at F
  rw [fix1 hm1] at F
  rw [fix1 hm2] at F
  rw [fix1 hm3] at F
  rw [fix1 hm4] at F
  k_steps
  refine Hold.of ?_
  refine LCg.ListComp_U (F₀ := F) (by with_unfolding_all rfl) (by decide) (by rfl) (by decide) (by rfl) ?_
  k_steps
  have hlgl : lg.length = xs.length := by
    have := congrArg List.length hlg
    rw [List.length_map, List.length_map, List.length_map] at this
    exact this
  have hlcl : lc.length = xs.length := by
    have := congrArg List.length hlc
    rw [List.length_map, List.length_map, List.length_map] at this
    exact this
  refine len_strs (l := lg) (News.isList (a := Dg) N (by k_mem)) (by omega) ?_
  rw [hlgl]
  (try dsimp only)
  k_steps
  rename_i h1 tk1 t1 u1 v1 hr F1 N1 up1
  refine Hold.of (LCg.CompSrc.range rfl F1 N1 hr (range_small (by omega)) (range_size _) (by rw [sizeLine_eq]; omega) ?_)
  intro g
  refine comp_ind (fun i ys => ∃ l, ys = strValues l ∧ l.map (·.1) = ((xs.take i).map fun x => wr (pieceOf x) ++ [gapOf x]).map S) ⟨[], rfl, rfl⟩ trivial ?_ ?_
  · rintro i ys v I oI C oC D m2 h tk E' hi ⟨l, rfl, hl⟩ ⟨t2, rfl⟩ hC hx F2 N2
    obtain ⟨x, hxx⟩ : ∃ x, xs[i]? = some x := ⟨_, List.getElem?_eq_getElem hi⟩
    have hpl := wr_len x
    have hti : (0 + (i : Int)).toNat = i := by omega
    k_steps
    refine Hold.of ?_
    refine' item_strs (l := lc) ?hl ?h0 ?hk ?hf ?_
    (case hl => exact News.isList N2 (by k_mem))
    (case h0 => omega)
    (case hk => omega)
    (case hf => omega)
    intro y ty hy
    rw [hti] at hy
    obtain rfl := item_S (f := fun x => wr (pieceOf x)) hlc hxx hy
    k_steps
    refine Hold.of ?_
    refine' item_strs (l := lg) ?hl ?h0 ?hk ?hf ?_
    (case hl => exact News.isList N2 (by k_mem))
    (case h0 => omega)
    (case hk => omega)
    (case hf => omega)
    intro y2 ty2 hy2
    rw [hti] at hy2
    obtain rfl := item_S (f := fun x => [gapOf x]) hlg hxx hy2
    k_steps
    refine s_add (by simp only [List.length_cons, List.length_nil]; omega) ?_
    intro t3 k3
    refine CompPost.intro ⟨l ++ [(S (wr (pieceOf x) ++ [gapOf x]), t3)], by simp [strValues], ?_⟩ (Grow.refl _)
    rw [List.take_add_one, hxx]
    simp [hl]
  · rintro ys ⟨l, rfl, hl⟩
    rw [List.take_length] at hl
    k_steps
    rename_i Da ha tka Fa Na oa
    refine s_join0 (News.isList Na (by k_mem)) hl (flat_le2 wr_len hxs) ?_
    intro t3 k3
    clear F1 N1
    (try dsimp only)
    k_steps
    refine Hold.of ?_
    refine s_same ?_
    (try dsimp only)
    k_steps
    exact Hold.of (hQ _ _ _ rfl rfl rfl rfl rfl Fa (fun p hp => Na p (List.mem_cons_of_mem _ hp)))
end Mine
end

-- part WH
section
open PySem PySem.W PyProof.Rows PySem.Calls
set_option maxRecDepth 100000
set_option maxHeartbeats 8000000
set_option linter.unusedVariables false
namespace Mine
local macro_rules | `(tactic| walk_at "pad 0") => `(tactic| trivial)
local macro_rules | `(tactic| walk_at "pad 1") => `(tactic| trivial)
local macro_rules | `(tactic| walk_at "pad 2") => `(tactic| trivial)
local macro_rules | `(tactic| walk_at "pad 3") => `(tactic| trivial)
local macro_rules | `(tactic| walk_at "pad 4") => `(tactic| trivial)
local macro_rules | `(tactic| walk_at "pad 5") => `(tactic| trivial)
local macro_rules | `(tactic| walk_at "pad 6") => `(tactic| trivial)
local macro_rules | `(tactic| walk_at "pad 7") => `(tactic| trivial)
local macro_rules | `(tactic| walk_at "pad 8") => `(tactic| trivial)
local macro_rules | `(tactic| walk_at "pad 9") => `(tactic| trivial)
local macro_rules | `(tactic| walk_at "pad 10") => `(tactic| trivial)
local macro_rules | `(tactic| walk_at "pad 11") => `(tactic| trivial)
local macro_rules | `(tactic| walk_at "pad 12") => `(tactic| trivial)
local macro_rules | `(tactic| walk_at "pad 13") => `(tactic| trivial)
local macro_rules | `(tactic| walk_at "pad 14") => `(tactic| trivial)
local macro_rules | `(tactic| walk_at "pad 15") => `(tactic| trivial)
local macro_rules | `(tactic| walk_at "pad 16") => `(tactic| trivial)
local macro_rules | `(tactic| walk_at "pad 17") => `(tactic| trivial)
local macro_rules | `(tactic| walk_at "pad 18") => `(tactic| trivial)
local macro_rules | `(tactic| walk_at "pad 19") => `(tactic| trivial)
local macro_rules | `(tactic| walk_at "eval ListComp") => `(tactic| refine Hold.mk ?_)
local macro_rules | `(tactic| walk_at "CompSrc") => `(tactic| refine Hold.mk ?_)
local macro_rules | `(tactic| walk_at "eval IfExp") => `(tactic| refine Hold.mk ?_)
local macro_rules | `(tactic| walk_at "execs cons If") => `(tactic| refine Hold.mk ?_)
local macro_rules | `(tactic| walk_at "execs cons") => `(tactic| ((with_reducible show wpAny _ _ (execs (Stmt.If _ _ _ _ :: _) _) _ _ _); refine Hold.mk ?_))
theorem lit_eq : (Str.ofString "=").cps.toList = [61] := by decide +kernel
theorem lit_eqS : Str.ofString "=" = S [61] := by decide +kernel
theorem piece_head (x : Int) : ∃ c r, pieceOf x = c :: r := by
  have a : ∀ p ∈ pieces, p ≠ [] := by decide +kernel
  have := a _ (piece_mem x)
  cases e : pieceOf x with
  | nil => exact absurd e this
  | cons c r => exact ⟨c, r, rfl⟩
theorem law_H {w : World} {s : Shared} {p : Program} {loose : List Str} {mean : ExcName → Option Value} {mg mb : Str → Option Value} {Q : Flow → Shared → Prop} {h₀ : Heap} {L : Nat} {fa lscr : Addr} {op og o3 o4 o5 : Obj} {m : Str → Option Value} {xs ns : List Int} {Df Dt Dc Dg Dp Dn nf nt nc ng np cn : Nat} {lf lt lc lg lp ln : List (Str × Tok)} {ta tw : Tok} {d5 : Option Value}
    {name qual : Str} {params : Arguments} {body : List Stmt} {scope : Scope} {dV kV doc pm cdv ct oc : Value} {an od : Option Addr} {osl : Array (Option Value)}
    (ho : (Mine.hd.heap_39 w.params).lookup 57 = some ⟨oc, od, .func (fnOf name qual params body scope dV kV doc pm an cdv ct), osl⟩)
    (X : (Mine.hd.heap_39 w.params).In h₀) (T : Top p loose mean mg mb h₀)
    (hm0 : m (Str.ofString "names") = some (.ref Dn)) (hm1 : m (Str.ofString "script") = some (.ref lscr)) (hm2 : m (Str.ofString "apart") = some (.str (S (xs.map fun x => pieceOf x ++ [gapOf x]).flatten) ta)) (hm3 : m (Str.ofString "forth") = some (.ref Df)) (hm4 : m (Str.ofString "written") = some (.str (S (xs.map fun x => wr (pieceOf x) ++ [gapOf x]).flatten) tw)) (F : Fr h₀ L s.heap m)
    (N : News h₀ L s.heap [(Df, W.listOf (strValues lf).toArray nf), (Dt, W.listOf (strValues lt).toArray nt), (Dc, W.listOf (strValues lc).toArray nc), (Dg, W.listOf (strValues lg).toArray ng), (Dp, W.listOf (strValues lp).toArray np), (Dn, W.listOf (strValues ln).toArray cn), (L + 1 + 1 + 1 + 1 + 1, o5), (L + 1 + 1 + 1 + 1, o4), (L + 1 + 1 + 1, o3), (L + 1 + 1, og), (L + 1, op), (54, tabObj #[])])
    (hog : og.data = .cell (some (.ref Dg))) (hop : op.data = .cell (some (.ref Dp))) (hd5 : o5.data = .cell d5)
    (hlp : lp.map (·.1) = (xs.map pieceOf).map S) (hlg : lg.map (·.1) = (xs.map fun x => [gapOf x]).map S) (hxs : xs.length ≤ 9) (lt1 : L + 5 < Dn) (lt2 : Dn < Dp) (lt3 : Dp < Dg) (hL : 54 < L) (hDc5 : Dc ≠ L + 1 + 1 + 1 + 1 + 1) (hDt5 : Dt ≠ L + 1 + 1 + 1 + 1 + 1) (hDf5 : Df ≠ L + 1 + 1 + 1 + 1 + 1)
    (hQ : ∀ h' tk m' (Dh nh : Nat) (lh : List (Str × Tok)) (oc' : Obj), m' (Str.ofString "names") = some (.ref Dn) → m' (Str.ofString "script") = some (.ref lscr) → m' (Str.ofString "apart") = some (.str (S (xs.map fun x => pieceOf x ++ [gapOf x]).flatten) ta) → m' (Str.ofString "forth") = some (.ref Df) → m' (Str.ofString "written") = some (.str (S (xs.map fun x => wr (pieceOf x) ++ [gapOf x]).flatten) tw) → Fr h₀ L h' m' → News h₀ L h' [(Dh, W.listOf (strValues lh).toArray nh), (Df, W.listOf (strValues lf).toArray nf), (Dt, W.listOf (strValues lt).toArray nt), (Dc, W.listOf (strValues lc).toArray nc), (Dg, W.listOf (strValues lg).toArray ng), (Dp, W.listOf (strValues lp).toArray np), (Dn, W.listOf (strValues ln).toArray cn), (L + 1 + 1 + 1 + 1 + 1, oc'), (L + 1 + 1 + 1 + 1, o4), (L + 1 + 1 + 1, o3), (L + 1 + 1, og), (L + 1, op), (54, tabObj #[])] → oc'.data = .cell (some (.ref Dh)) → lh.map (·.1) = (xs.map fun x => hv (pieceOf x)).map S → Dh ≠ 54 → wpAny (model PySem.Challenge.rw_mr0178_01.row.prog w) (callerA.deeper (envOfC qual scope L fa cdv)) (execs (body.drop 12) (envOfC qual scope L fa cdv)) Q (fun _ _ => False) { s with heap := h', toks := tk }) :
    wpAny (model PySem.Challenge.rw_mr0178_01.row.prog w) (callerA.deeper (envOfC qual scope L fa cdv)) (execs (body.drop 11) (envOfC qual scope L fa cdv)) Q (fun _ _ => False) s := by
  w_top off; revert X; k_fill; intro X
  have e := Option.some.inj (ho.symm.trans (rfl : (Mine.hd.heap_39 w.params).lookup 57 = some _))
  cases e
  clear ho
  simp only [List.drop]
  rw [fix1 hm0] at F
  rw [fix1 hm1] at F
  rw [fix1 hm2] at F
  rw [fix1 hm3] at F
  rw [fix1 hm4] at F
  have hlpl : lp.length = xs.length := by
    have := congrArg List.length hlp
    rw [List.length_map, List.length_map, List.length_map] at this
    exact this
  k_steps
  refine Hold.of ?_
  refine LCg.ListComp_U (F₀ := F) (by with_unfolding_all rfl) (by decide) (by rfl) (by decide) (by rfl) ?_
  k_steps
  refine Hold.of (LCg.CompSrc.ledger (k := np) (its := (strValues lp).toArray) rfl F N (by k_mem) (by simp only [strValues, List.size_toArray, List.length_map]; rw [sizeLine_eq]; omega) ?_)
  intro g
  refine comp_ind (fun i ys => ∃ l, ys = strValues l ∧ l.map (·.1) = ((xs.take i).map fun x => hv (pieceOf x)).map S) ⟨[], rfl, rfl⟩ (.inr ⟨_, by k_mem, rfl, _, rfl⟩) ?_ ?_
  · rintro i ys v I oI C oC D m2 h tk E' hi ⟨l, rfl, hl⟩ hv0 hC hx F2 N2
    obtain ⟨q, hq, rfl⟩ := strAt (i := i) (by simpa using hv0)
    obtain ⟨x, hxx⟩ : ∃ x, xs[i]? = some x := ⟨_, List.getElem?_eq_getElem (by simpa [strValues, hlpl] using hi)⟩
    obtain ⟨q, tq⟩ := q
    obtain rfl : q = S (pieceOf x) := item_S hlp hxx (by rw [List.getElem?_map, hq]; rfl)
    have hpl := piece_len x
    obtain ⟨c0, r0, hc0⟩ := piece_head x
    k_steps
    refine Hold.of ?_
    refine wpAny_mono (Q := IsS (hv (pieceOf x)) { s with heap := h, toks := tk }) ?_ ?_ (fun _ _ e => e)
    · refine wpAny_IfExp ?_
      k_steps
      refine s_item0 hc0 (by omega) ?_
      intro t8
      k_steps
      · rename_i hb
        have hc : c0 = 61 := by
          rw [str_beq, lit_eq, S_cps] at hb
          simpa using hb
        refine s_len (by omega) ?_
        intro t9
        k_steps
        refine IsS.intro ?_
        rw [lit_eqS, show ((pieceOf x).length : Int) + 1 = (((pieceOf x).length + 1 : Nat) : Int) by omega, show (2 : Int) = ((2 : Nat) : Int) from rfl, fdiv_nat, mul_S, rep_flat]
        unfold hv
        rw [if_pos (by rw [hc0]; exact hc)]
      · rename_i hb
        have hc : c0 ≠ 61 := by
          intro e
          rw [str_beq, lit_eq, S_cps, e] at hb
          cases hb
        refine IsS.intro ?_
        unfold hv
        rw [if_neg (by rw [hc0]; exact hc)]
    · rintro v8 s8 ⟨t8, tk8, rfl, rfl⟩
      refine CompPost.intro ⟨l ++ [(S (hv (pieceOf x)), t8)], by simp [strValues], ?_⟩ (Grow.refl _)
      rw [List.take_add_one, hxx]
      simp [hl]
  · rintro ys ⟨l, rfl, hl⟩
    rw [show (strValues lp).toArray.size = xs.length by simp [strValues, hlpl], List.take_length] at hl
    k_steps
    rename_i D9 h8 tk8 ne9 h9 o9 F9 N9 d9
    refine Hold.of ?_
    exact hQ _ _ _ D9 _ l o9 rfl rfl rfl rfl rfl F9 N9 d9 hl (neN (by omega))
end Mine
end

-- part WI
section
open PySem PySem.W PyProof.Rows PySem.Calls
set_option maxRecDepth 100000
set_option maxHeartbeats 8000000
set_option linter.unusedVariables false
namespace Mine
local macro_rules | `(tactic| walk_at "eval ListComp") => `(tactic| refine Hold.mk ?_)
local macro_rules | `(tactic| walk_at "CompSrc") => `(tactic| refine Hold.mk ?_)
local macro_rules | `(tactic| walk_at "subscriptTail Name Name ref int") => `(tactic| refine Hold.mk ?_)
local macro_rules | `(tactic| walk_at "compareOp NotEq str str") => `(tactic| refine Hold.mk ?_)
local macro_rules | `(tactic| walk_at "call ref") => `(tactic| refine Hold.mk ?_)
local macro_rules | `(tactic| walk_at "execs cons") => `(tactic| ((with_reducible show wpAny _ _ (execs (Stmt.Assign [Expr.Name (PySem.Str.ofString "tight") _] _ _ :: _) _) _ _ _); refine Hold.mk ?_))
local macro_rules | `(tactic| walk_at "execs cons Assign cons") => `(tactic| ((with_reducible show wpAny _ _ (execs (Stmt.Assign [Expr.Name (PySem.Str.ofString "tight") _] _ _ :: _) _) _ _ _); refine Hold.mk ?_))
local macro_rules | `(tactic| walk_at "execs cons Assign") => `(tactic| ((with_reducible show wpAny _ _ (execs (Stmt.Assign [Expr.Name (PySem.Str.ofString "tight") _] _ _ :: _) _) _ _ _); refine Hold.mk ?_))
theorem lit_two : [Str.ofString "==", Str.ofString "="] = flat [([61, 61], [61])] := by decide +kernel
theorem hv_len (x : Int) : (hv (pieceOf x)).length ≤ 6 := by
  have h := piece_len x
  unfold hv
  split
  · rw [List.length_replicate]; omega
  · exact h
theorem law_I {w : World} {s : Shared} {p : Program} {loose : List Str} {mean : ExcName → Option Value} {mg mb : Str → Option Value} {Q : Flow → Shared → Prop} {h₀ : Heap} {L : Nat} {fa lscr : Addr} {op og o3 o4 o5 : Obj} {m : Str → Option Value} {xs ns : List Int} {Dh Df Dt Dc Dg Dp Dn nh nf nt nc ng np cn : Nat} {lh lf lt lc lg lp ln : List (Str × Tok)} {ta tw : Tok}
    {name qual : Str} {params : Arguments} {body : List Stmt} {scope : Scope} {dV kV doc pm cdv ct oc : Value} {an od : Option Addr} {osl : Array (Option Value)}
    (ho : (Mine.hd.heap_39 w.params).lookup 57 = some ⟨oc, od, .func (fnOf name qual params body scope dV kV doc pm an cdv ct), osl⟩)
    (X : (Mine.hd.heap_39 w.params).In h₀) (T : Top p loose mean mg mb h₀)
    (hm0 : m (Str.ofString "names") = some (.ref Dn)) (hm1 : m (Str.ofString "script") = some (.ref lscr)) (hm2 : m (Str.ofString "apart") = some (.str (S (xs.map fun x => pieceOf x ++ [gapOf x]).flatten) ta)) (hm3 : m (Str.ofString "forth") = some (.ref Df)) (hm4 : m (Str.ofString "written") = some (.str (S (xs.map fun x => wr (pieceOf x) ++ [gapOf x]).flatten) tw)) (F : Fr h₀ L s.heap m)
    (N : News h₀ L s.heap [(Dh, W.listOf (strValues lh).toArray nh), (Df, W.listOf (strValues lf).toArray nf), (Dt, W.listOf (strValues lt).toArray nt), (Dc, W.listOf (strValues lc).toArray nc), (Dg, W.listOf (strValues lg).toArray ng), (Dp, W.listOf (strValues lp).toArray np), (Dn, W.listOf (strValues ln).toArray cn), (L + 1 + 1 + 1 + 1 + 1, o5), (L + 1 + 1 + 1 + 1, o4), (L + 1 + 1 + 1, o3), (L + 1 + 1, og), (L + 1, op), (54, tabObj #[])])
    (hog : og.data = .cell (some (.ref Dg))) (hop : op.data = .cell (some (.ref Dp))) (ho5 : o5.data = .cell (some (.ref Dh)))
    (hlp : lp.map (·.1) = (xs.map pieceOf).map S) (hlg : lg.map (·.1) = (xs.map fun x => [gapOf x]).map S) (hxs : xs.length ≤ 9) (lt1 : L + 5 < Dn) (lt2 : Dn < Dp) (lt3 : Dp < Dg) (hL : 54 < L) (hlh : lh.map (·.1) = (xs.map fun x => hv (pieceOf x)).map S)
    (hQ : ∀ h' tk m', m' (Str.ofString "names") = some (.ref Dn) → m' (Str.ofString "script") = some (.ref lscr) → m' (Str.ofString "apart") = some (.str (S (xs.map fun x => pieceOf x ++ [gapOf x]).flatten) ta) → m' (Str.ofString "forth") = some (.ref Df) → m' (Str.ofString "written") = some (.str (S (xs.map fun x => wr (pieceOf x) ++ [gapOf x]).flatten) tw) → Fr h₀ L h' m' → News h₀ L h' [(Dh, W.listOf (strValues lh).toArray nh), (Df, W.listOf (strValues lf).toArray nf), (Dt, W.listOf (strValues lt).toArray nt), (Dc, W.listOf (strValues lc).toArray nc), (Dg, W.listOf (strValues lg).toArray ng), (Dp, W.listOf (strValues lp).toArray np), (Dn, W.listOf (strValues ln).toArray cn), (L + 1 + 1 + 1 + 1 + 1, o5), (L + 1 + 1 + 1 + 1, o4), (L + 1 + 1 + 1, o3), (L + 1 + 1, og), (L + 1, op), (54, tabObj #[])] → wpAny (model PySem.Challenge.rw_mr0178_01.row.prog w) (callerA.deeper (envOfC qual scope L fa cdv)) (execs (body.drop 13) (envOfC qual scope L fa cdv)) Q (fun _ _ => False) { s with heap := h', toks := tk }) :
    wpAny (model PySem.Challenge.rw_mr0178_01.row.prog w) (callerA.deeper (envOfC qual scope L fa cdv)) (execs (body.drop 12) (envOfC qual scope L fa cdv)) Q (fun _ _ => False) s := by
  w_top off; revert X; k_fill; intro X
  have e := Option.some.inj (ho.symm.trans (rfl : (Mine.hd.heap_39 w.params).lookup 57 = some _))
  cases e
  clear ho
  simp only [List.drop]
  rw [fix1 hm0] at F
  rw [fix1 hm1] at F
  rw [fix1 hm2] at F
  rw [fix1 hm3] at F
  rw [fix1 hm4] at F
  have hlgl : lg.length = xs.length := by
    have := congrArg List.length hlg
    rw [List.length_map, List.length_map, List.length_map] at this
    exact this
  have hlhl : lh.length = xs.length := by
    have := congrArg List.length hlh
    rw [List.length_map, List.length_map, List.length_map] at this
    exact this
  k_steps
  refine Hold.of (replace_tells (l := [(Str.ofString "==", _), (Str.ofString "=", _)]) (ps := [([61, 61], [61])]) (X.keeps F.keep) (T.keeps F.keep) ?hd ?hu rfl lit_two ?hlen (by simp) (by simp) ?_)
  (case hd => simp only [depth_deeper, depth_caller]; decide)
  (case hu => exact Nat.le_of_ble_eq_true rfl)
  (case hlen =>
    intro k
    cases k with
    | zero => exact flat_le hxs
    | succ k =>
      rw [List.take_of_length_le (by simp), law2]
      exact flat_le2 hv_len hxs)
  rw [law2]
  intro u h0 tk0 gr0
  have F0 := F.keeps gr0
  have N0 := N.grown gr0
  clear F N
  (try dsimp only)
  k_steps
  refine Hold.of ?_
  refine LCg.ListComp_U (F₀ := F0) (by with_unfolding_all rfl) (by decide) (by rfl) (by decide) (by rfl) ?_
  k_steps
  refine len_strs (l := lg) (News.isList (a := Dg) N0 (by k_mem)) (by omega) ?_
  rw [hlgl]
  (try dsimp only)
  k_steps
  rename_i h1 tk1 t1 u1 v1 hr F1 N1 up1
  refine Hold.of (LCg.CompSrc.range rfl F1 N1 hr (range_small (by omega)) (range_size _) (by rw [sizeLine_eq]; omega) ?_)
  intro g
  refine comp_ind (fun i ys => ∃ l, ys = strValues l ∧ l.map (·.1) = ((xs.take i).map fun x => hv (pieceOf x) ++ [gapOf x]).map S) ⟨[], rfl, rfl⟩ trivial ?_ ?_
  · rintro i ys v I oI C oC D m2 h tk E' hi ⟨l, rfl, hl⟩ ⟨t2, rfl⟩ hC hx F2 N2
    obtain ⟨x, hxx⟩ : ∃ x, xs[i]? = some x := ⟨_, List.getElem?_eq_getElem hi⟩
    have hpl := hv_len x
    have hti : (0 + (i : Int)).toNat = i := by omega
    k_steps
    refine Hold.of ?_
    refine' item_strs (l := lh) ?hl ?h0 ?hk ?hf ?_
    (case hl => exact News.isList N2 (by k_mem))
    (case h0 => omega)
    (case hk => omega)
    (case hf => omega)
    intro y ty hy
    rw [hti] at hy
    obtain rfl := item_S (f := fun x => hv (pieceOf x)) hlh hxx hy
    k_steps
    refine Hold.of ?_
    refine' item_strs (l := lg) ?hl ?h0 ?hk ?hf ?_
    (case hl => exact News.isList N2 (by k_mem))
    (case h0 => omega)
    (case hk => omega)
    (case hf => omega)
    intro y2 ty2 hy2
    rw [hti] at hy2
    obtain rfl := item_S (f := fun x => [gapOf x]) hlg hxx hy2
    k_steps
    refine s_add (by simp only [List.length_cons, List.length_nil]; omega) ?_
    intro t3 k3
    refine CompPost.intro ⟨l ++ [(S (hv (pieceOf x) ++ [gapOf x]), t3)], by simp [strValues], ?_⟩ (Grow.refl _)
    rw [List.take_add_one, hxx]
    simp [hl]
  · rintro ys ⟨l, rfl, hl⟩
    rw [List.take_length] at hl
    k_steps
    rename_i Da ha tka Fa Na oa
    refine s_join0 (News.isList Na (by k_mem)) hl (flat_le2 hv_len hxs) ?_
    intro t3 k3
    clear F1 N1
    (try dsimp only)
    k_steps
    refine Hold.of ?_
    refine s_same ?_
    (try dsimp only)
    k_steps
    exact Hold.of (hQ _ _ _ rfl rfl rfl rfl rfl Fa (fun p hp => Na p (List.mem_cons_of_mem _ hp)))
end Mine
end

-- part WJ
section
open PySem PySem.W PyProof.Rows PySem.Calls
set_option maxRecDepth 100000
set_option maxHeartbeats 8000000
set_option linter.unusedVariables false
namespace Mine
local macro_rules | `(tactic| walk_at "pad 0") => `(tactic| trivial)
local macro_rules | `(tactic| walk_at "pad 1") => `(tactic| trivial)
local macro_rules | `(tactic| walk_at "pad 2") => `(tactic| trivial)
local macro_rules | `(tactic| walk_at "pad 3") => `(tactic| trivial)
local macro_rules | `(tactic| walk_at "pad 4") => `(tactic| trivial)
local macro_rules | `(tactic| walk_at "pad 5") => `(tactic| trivial)
local macro_rules | `(tactic| walk_at "pad 6") => `(tactic| trivial)
local macro_rules | `(tactic| walk_at "pad 7") => `(tactic| trivial)
local macro_rules | `(tactic| walk_at "pad 8") => `(tactic| trivial)
local macro_rules | `(tactic| walk_at "pad 9") => `(tactic| trivial)
local macro_rules | `(tactic| walk_at "pad 10") => `(tactic| trivial)
local macro_rules | `(tactic| walk_at "pad 11") => `(tactic| trivial)
local macro_rules | `(tactic| walk_at "pad 12") => `(tactic| trivial)
local macro_rules | `(tactic| walk_at "pad 13") => `(tactic| trivial)
local macro_rules | `(tactic| walk_at "pad 14") => `(tactic| trivial)
local macro_rules | `(tactic| walk_at "pad 15") => `(tactic| trivial)
local macro_rules | `(tactic| walk_at "pad 16") => `(tactic| trivial)
local macro_rules | `(tactic| walk_at "pad 17") => `(tactic| trivial)
local macro_rules | `(tactic| walk_at "pad 18") => `(tactic| trivial)
local macro_rules | `(tactic| walk_at "pad 19") => `(tactic| trivial)
local macro_rules | `(tactic| walk_at "execs cons If") => `(tactic| refine Hold.mk ?_)
local macro_rules | `(tactic| walk_at "execs cons") => `(tactic| ((with_reducible show wpAny _ _ (execs (Stmt.If _ _ _ _ :: _) _) _ _ _); refine Hold.mk ?_))
local macro_rules | `(tactic| walk_at "call builtin:str.join") => `(tactic| refine Hold.mk ?_)
theorem flat_ones (xs : List Int) : (xs.map fun x => [gapOf x]).flatten = xs.map gapOf := by
  induction xs with
  | nil => rfl
  | cons a r ih => rw [List.map_cons, List.flatten_cons, ih]; rfl
theorem law_J {w : World} {s : Shared} {p : Program} {loose : List Str} {mean : ExcName → Option Value} {mg mb : Str → Option Value} {Q : Flow → Shared → Prop} {h₀ : Heap} {L : Nat} {fa lscr : Addr} {op og o3 o4 o5 : Obj} {m : Str → Option Value} {xs ns : List Int} {Dh Df Dt Dc Dg Dp Dn nh nf nt nc ng np cn : Nat} {lh lf lt lc lg lp ln : List (Str × Tok)} {ta tw : Tok}
    {name qual : Str} {params : Arguments} {body : List Stmt} {scope : Scope} {dV kV doc pm cdv ct oc : Value} {an od : Option Addr} {osl : Array (Option Value)}
    (ho : (Mine.hd.heap_39 w.params).lookup 57 = some ⟨oc, od, .func (fnOf name qual params body scope dV kV doc pm an cdv ct), osl⟩)
    (X : (Mine.hd.heap_39 w.params).In h₀) (T : Top p loose mean mg mb h₀)
    (hm0 : m (Str.ofString "names") = some (.ref Dn)) (hm1 : m (Str.ofString "script") = some (.ref lscr)) (hm2 : m (Str.ofString "apart") = some (.str (S (xs.map fun x => pieceOf x ++ [gapOf x]).flatten) ta)) (hm3 : m (Str.ofString "forth") = some (.ref Df)) (hm4 : m (Str.ofString "written") = some (.str (S (xs.map fun x => wr (pieceOf x) ++ [gapOf x]).flatten) tw)) (F : Fr h₀ L s.heap m)
    (N : News h₀ L s.heap [(Dh, W.listOf (strValues lh).toArray nh), (Df, W.listOf (strValues lf).toArray nf), (Dt, W.listOf (strValues lt).toArray nt), (Dc, W.listOf (strValues lc).toArray nc), (Dg, W.listOf (strValues lg).toArray ng), (Dp, W.listOf (strValues lp).toArray np), (Dn, W.listOf (strValues ln).toArray cn), (L + 1 + 1 + 1 + 1 + 1, o5), (L + 1 + 1 + 1 + 1, o4), (L + 1 + 1 + 1, o3), (L + 1 + 1, og), (L + 1, op), (54, tabObj #[])])
    (hog : og.data = .cell (some (.ref Dg))) (hop : op.data = .cell (some (.ref Dp)))
    (hlp : lp.map (·.1) = (xs.map pieceOf).map S) (hlg : lg.map (·.1) = (xs.map fun x => [gapOf x]).map S) (hxs : xs.length ≤ 9) (lt1 : L + 5 < Dn) (lt2 : Dn < Dp) (lt3 : Dp < Dg) (hL : 54 < L)
    (hQ : ∀ h' tk m' ti tr, m' (Str.ofString "names") = some (.ref Dn) → m' (Str.ofString "script") = some (.ref lscr) → m' (Str.ofString "apart") = some (.str (S (xs.map fun x => pieceOf x ++ [gapOf x]).flatten) ta) → m' (Str.ofString "forth") = some (.ref Df) → m' (Str.ofString "written") = some (.str (S (xs.map fun x => wr (pieceOf x) ++ [gapOf x]).flatten) tw) → m' (Str.ofString "tight") = some (.str (S (xs.map pieceOf).flatten) ti) → m' (Str.ofString "rest") = some (.str (S (xs.map gapOf)) tr) → Fr h₀ L h' m' → News h₀ L h' [(Dh, W.listOf (strValues lh).toArray nh), (Df, W.listOf (strValues lf).toArray nf), (Dt, W.listOf (strValues lt).toArray nt), (Dc, W.listOf (strValues lc).toArray nc), (Dg, W.listOf (strValues lg).toArray ng), (Dp, W.listOf (strValues lp).toArray np), (Dn, W.listOf (strValues ln).toArray cn), (L + 1 + 1 + 1 + 1 + 1, o5), (L + 1 + 1 + 1 + 1, o4), (L + 1 + 1 + 1, o3), (L + 1 + 1, og), (L + 1, op), (54, tabObj #[])] → wpAny (model PySem.Challenge.rw_mr0178_01.row.prog w) (callerA.deeper (envOfC qual scope L fa cdv)) (execs (body.drop 15) (envOfC qual scope L fa cdv)) Q (fun _ _ => False) { s with heap := h', toks := tk }) :
    wpAny (model PySem.Challenge.rw_mr0178_01.row.prog w) (callerA.deeper (envOfC qual scope L fa cdv)) (execs (body.drop 13) (envOfC qual scope L fa cdv)) Q (fun _ _ => False) s := by
  w_top off; revert X; k_fill; intro X
  have e := Option.some.inj (ho.symm.trans (rfl : (Mine.hd.heap_39 w.params).lookup 57 = some _))
  cases e
  clear ho
  simp only [List.drop]
  rw [fix1 hm0] at F
  rw [fix1 hm1] at F
  rw [fix1 hm2] at F
  rw [fix1 hm3] at F
  rw [fix1 hm4] at F
  have ht := text_le hxs
  k_steps
  try refine Hold.of ?_
  refine s_join0 (l := lp) (News.isList (a := Dp) N (by k_mem)) hlp (by omega) ?_
  intro t3 k3
  (try dsimp only)
  k_steps
  rename_i h5 F5 N5
  try refine Hold.of ?_
  refine s_join0 (l := lg) (News.isList (a := Dg) N5 (by k_mem)) hlg (by rw [flat_ones, List.length_map]; omega) ?_
  rw [flat_ones]
  intro t4 k4
  (try dsimp only)
  k_steps
  rename_i h6 F6 N6
  exact Hold.of (hQ _ _ _ t3 t4 rfl rfl rfl rfl rfl rfl rfl F6 N6)
end Mine
end

-- part WK0
section
open PySem PySem.W PyProof.Rows PySem.Calls
set_option maxRecDepth 100000
set_option linter.unusedVariables false
namespace Mine
section
variable {prog : Program} {w : World} {A : Around} {E : Value → Shared → Prop} {s : Shared} {h₀ : Heap} {L : Addr} {m : Str → Option Value} {env : Env}
/-- where a comprehension's source is a text -/
def StrSrc (prog : Program) (w : World) (A : Around) (h₀ : Heap) (L : Addr) (m : Str → Option Value) (env : Env) (elt : Expr) (x : Str) (scope : Scope) (cl : List (Str × Addr)) (Fin : Shared → List Value → List (Addr × Obj) → Prop) (xv : Value) (s₁ : Shared) : Prop :=
  ∃ y t news, xv = .str y t ∧ A.handled = none ∧ Fr h₀ L s₁.heap m ∧ News h₀ L s₁.heap news ∧ y.cps.size ≤ sizeLine ∧
    ∀ s₂ : Shared, (∃ h, s₂ = { s₁ with heap := h }) → LCg.CompRest prog w A h₀ L m env elt x scope cl s₂ (fun _ => True) (SignAt y) (Fin s₂) y.cps.size 0 [] news
theorem StrSrc.intro {elt : Expr} {x : Str} {scope : Scope} {cl : List (Str × Addr)} {Fin : Shared → List Value → List (Addr × Obj) → Prop} {y : Str} {t : Tok} {news : List (Addr × Obj)} {s₁ : Shared}
    (hh : A.handled = none) (F : Fr h₀ L s₁.heap m) (N : News h₀ L s₁.heap news) (hsz : y.cps.size ≤ sizeLine)
    (h : ∀ g, LCg.CompRest prog w A h₀ L m env elt x scope cl { s₁ with heap := g } (fun _ => True) (SignAt y) (Fin { s₁ with heap := g }) y.cps.size 0 [] news) :
    StrSrc prog w A h₀ L m env elt x scope cl Fin (.str y t) s₁ := ⟨y, t, news, rfl, hh, F, N, hsz, fun _ ⟨g, e⟩ => e ▸ h g⟩
theorem comp_str {elt iter : Expr} {x : Str} {px : Pos} {scope : Scope} {cl : List (Str × Addr)} {pos : Pos} {Q : Value → Shared → Prop} (F₀ : Fr h₀ L s.heap m)
    (hclos : closureFor scope env = pure cl) (hcell : ∀ y ∈ scope.names, y.2 ≠ .cell) (hkind : scope.kind = .function)
    (hnames : ∀ y ∈ scope.names, y.2 = .local → scope.names.lookup y.1 = some .local) (hx : scope.names.lookup x = some .local)
    (h : wpAny (model prog w) A (eval iter env) (StrSrc prog w A h₀ L m env elt x scope cl (fun s₂ => LCg.FinE h₀ L m s₂ Q)) E s)
    (hs : ∀ x, foldedSetIterable iter env x = pure x := by intro _; rfl) :
    wpAny (model prog w) A (eval (.ListComp elt [⟨.Name x px, iter, [], 0⟩] scope pos) env) Q E s := by
  rw [eval_ListComp]
  refine wpAny_comprehension_free (use := none) rfl hs hclos hkind hnames (wpAny_mono h (fun xv s₁ h₁ => ?_) fun _ _ e => e)
  obtain ⟨y, t, news, rfl, hh, F, N, hsz, R⟩ := h₁
  cases ha : y.cps.all (· < 128)
  · refine wpAny_pyIter_wide ha ?_
    refine LCg.block_U (S := fun _ => True) (Walks.strWide hh _ y t) hsz (fun i h st => by obtain ⟨o, e, _⟩ := st; exact ⟨o, e⟩)
      (fun i h h' o nw st e e' _ _ _ => by obtain ⟨o', q, r⟩ := st; rw [e] at q; cases q; exact ⟨o, e', r⟩)
      hcell hkind hx ⟨_, Heap.get?_push_size _ rfl, rfl, rfl⟩ (fun b hb => ?_)
      (F.keeps fun _ _ e => Heap.get?_push_of_some _ e) (N.grown fun _ _ e => Heap.get?_push_of_some _ e) (Nat.ne_of_lt F.ns.lt) (next_is_new F) (fun p hp => Nat.ne_of_lt (Heap.lt_size (N p hp).1)) trivial (R _ ⟨_, rfl⟩) ?_
    · rw [List.mem_singleton.mp hb]
      show s₁.heap.objs.size < (s₁.heap.push _).objs.size
      rw [Heap.size_push]; exact Nat.lt_succ_self _
    · intro D C h tk m' ys news' F' N' o1 hn hC₀ hD₀ hCL hDL hCD offC fin
      refine ⟨m', hn, fun h'' hs'' => fin D h'' tk (F'.change hs'' hCL hC₀) (fun p hp => ?_) o1⟩
      refine ⟨hs''.extBut _ _ ?_ (N' p hp).1, (N' p hp).2⟩
      rcases List.mem_cons.mp hp with rfl | hp
      · exact Ne.symm hCD
      · exact offC p hp
  · refine wpAny_pyIter_ascii ha ?_
    refine LCg.block_U (S := fun _ => True) (Walks.strAscii hh _ y t) hsz (fun i h st => by obtain ⟨o, e, _⟩ := st; exact ⟨o, e⟩)
      (fun i h h' o nw st e e' _ _ _ => by obtain ⟨o', q, r⟩ := st; rw [e] at q; cases q; exact ⟨o, e', r⟩)
      hcell hkind hx ⟨_, Heap.get?_push_size _ rfl, rfl, rfl⟩ (fun b hb => ?_)
      (F.keeps fun _ _ e => Heap.get?_push_of_some _ e) (N.grown fun _ _ e => Heap.get?_push_of_some _ e) (Nat.ne_of_lt F.ns.lt) (next_is_new F) (fun p hp => Nat.ne_of_lt (Heap.lt_size (N p hp).1)) trivial (R _ ⟨_, rfl⟩) ?_
    · rw [List.mem_singleton.mp hb]
      show s₁.heap.objs.size < (s₁.heap.push _).objs.size
      rw [Heap.size_push]; exact Nat.lt_succ_self _
    · intro D C h tk m' ys news' F' N' o1 hn hC₀ hD₀ hCL hDL hCD offC fin
      refine ⟨m', hn, fun h'' hs'' => fin D h'' tk (F'.change hs'' hCL hC₀) (fun p hp => ?_) o1⟩
      refine ⟨hs''.extBut _ _ ?_ (N' p hp).1, (N' p hp).2⟩
      rcases List.mem_cons.mp hp with rfl | hp
      · exact Ne.symm hCD
      · exact offC p hp
end
end Mine
end

-- part WK
section
open PySem PySem.W PyProof.Rows PySem.Calls
set_option maxRecDepth 100000
set_option maxHeartbeats 8000000
set_option linter.unusedVariables false
namespace Mine
local macro_rules | `(tactic| walk_at "eval ListComp") => `(tactic| refine Hold.mk ?_)
local macro_rules | `(tactic| walk_at "call ref") => `(tactic| refine Hold.mk ?_)
local macro_rules | `(tactic| walk_at "compareOp NotEq str str") => `(tactic| refine Hold.mk ?_)
local macro_rules | `(tactic| walk_at "binaryOp Add str str") => `(tactic| refine Hold.mk ?_)
local macro_rules | `(tactic| walk_at "call builtin:str.join") => `(tactic| refine Hold.mk ?_)
local macro_rules | `(tactic| walk_at "execs cons If") => `(tactic| ((with_reducible show wpAny _ _ (execs (Stmt.If (Expr.Compare (Expr.Call _ [_, Expr.Starred (Expr.BinOp _ _ _ _) _] _ _) _ _ _) _ _ _ :: _) _) _ _ _); refine Hold.mk ?_))
local macro_rules | `(tactic| walk_at "execs cons") => `(tactic| ((with_reducible show wpAny _ _ (execs (Stmt.If (Expr.Compare (Expr.Call _ [_, Expr.Starred (Expr.BinOp _ _ _ _) _] _ _) _ _ _) _ _ _ :: _) _) _ _ _); refine Hold.mk ?_))
theorem wr_ones : ∀ l : List Nat, (∀ a ∈ l, (num [a]).isSome = true) → (l.map fun c => wr [c]).flatten = l.map fun c => code [c]
  | [], _ => rfl
  | a :: l, h => by
    rw [List.map_cons, List.flatten_cons, wr_one (h a (by simp)), wr_ones l fun b hb => h b (by simp [hb])]
    rfl
theorem law_K {w : World} {s : Shared} {p : Program} {loose : List Str} {mean : ExcName → Option Value} {mg mb : Str → Option Value} {Q : Flow → Shared → Prop} {h₀ : Heap} {L : Nat} {fa lscr : Addr} {op og o3 o4 o5 : Obj} {m : Str → Option Value} {xs ns : List Int} {Dh Df Dt Dc Dg Dp Dn nh nf nt nc ng np cn : Nat} {lh lf lt lc lg lp ln : List (Str × Tok)} {ta tw ti tr : Tok}
    {name qual : Str} {params : Arguments} {body : List Stmt} {scope : Scope} {dV kV doc pm cdv ct oc : Value} {an od : Option Addr} {osl : Array (Option Value)}
    (ho : (Mine.hd.heap_39 w.params).lookup 57 = some ⟨oc, od, .func (fnOf name qual params body scope dV kV doc pm an cdv ct), osl⟩)
    (X : (Mine.hd.heap_39 w.params).In h₀) (T : Top p loose mean mg mb h₀)
    (hm0 : m (Str.ofString "names") = some (.ref Dn)) (hm1 : m (Str.ofString "script") = some (.ref lscr)) (hm2 : m (Str.ofString "apart") = some (.str (S (xs.map fun x => pieceOf x ++ [gapOf x]).flatten) ta)) (hm3 : m (Str.ofString "forth") = some (.ref Df)) (hm4 : m (Str.ofString "written") = some (.str (S (xs.map fun x => wr (pieceOf x) ++ [gapOf x]).flatten) tw)) (hm5 : m (Str.ofString "tight") = some (.str (S (xs.map pieceOf).flatten) ti)) (hm6 : m (Str.ofString "rest") = some (.str (S (xs.map gapOf)) tr)) (F : Fr h₀ L s.heap m)
    (N : News h₀ L s.heap [(Dh, W.listOf (strValues lh).toArray nh), (Df, W.listOf (strValues lf).toArray nf), (Dt, W.listOf (strValues lt).toArray nt), (Dc, W.listOf (strValues lc).toArray nc), (Dg, W.listOf (strValues lg).toArray ng), (Dp, W.listOf (strValues lp).toArray np), (Dn, W.listOf (strValues ln).toArray cn), (L + 1 + 1 + 1 + 1 + 1, o5), (L + 1 + 1 + 1 + 1, o4), (L + 1 + 1 + 1, o3), (L + 1 + 1, og), (L + 1, op), (54, tabObj #[])])
    (hog : og.data = .cell (some (.ref Dg))) (hop : op.data = .cell (some (.ref Dp)))
    (hlp : lp.map (·.1) = (xs.map pieceOf).map S) (hlg : lg.map (·.1) = (xs.map fun x => [gapOf x]).map S) (hxs : xs.length ≤ 9) (lt1 : L + 5 < Dn) (lt2 : Dn < Dp) (lt3 : Dp < Dg) (hL : 54 < L) (hln : ln.map (·.1) = opsL.map S)
    (hQ : ∀ h' tk m', m' (Str.ofString "names") = some (.ref Dn) → m' (Str.ofString "script") = some (.ref lscr) → m' (Str.ofString "apart") = some (.str (S (xs.map fun x => pieceOf x ++ [gapOf x]).flatten) ta) → m' (Str.ofString "forth") = some (.ref Df) → m' (Str.ofString "written") = some (.str (S (xs.map fun x => wr (pieceOf x) ++ [gapOf x]).flatten) tw) → m' (Str.ofString "tight") = some (.str (S (xs.map pieceOf).flatten) ti) → m' (Str.ofString "rest") = some (.str (S (xs.map gapOf)) tr) → Fr h₀ L h' m' → News h₀ L h' [(Dh, W.listOf (strValues lh).toArray nh), (Df, W.listOf (strValues lf).toArray nf), (Dt, W.listOf (strValues lt).toArray nt), (Dc, W.listOf (strValues lc).toArray nc), (Dg, W.listOf (strValues lg).toArray ng), (Dp, W.listOf (strValues lp).toArray np), (Dn, W.listOf (strValues ln).toArray cn), (L + 1 + 1 + 1 + 1 + 1, o5), (L + 1 + 1 + 1 + 1, o4), (L + 1 + 1 + 1, o3), (L + 1 + 1, og), (L + 1, op), (54, tabObj #[])] → wpAny (model PySem.Challenge.rw_mr0178_01.row.prog w) (callerA.deeper (envOfC qual scope L fa cdv)) (execs (body.drop 16) (envOfC qual scope L fa cdv)) Q (fun _ _ => False) { s with heap := h', toks := tk }) :
    wpAny (model PySem.Challenge.rw_mr0178_01.row.prog w) (callerA.deeper (envOfC qual scope L fa cdv)) (execs (body.drop 15) (envOfC qual scope L fa cdv)) Q (fun _ _ => False) s := by
  w_top off; revert X; k_fill; intro X
  have e := Option.some.inj (ho.symm.trans (rfl : (Mine.hd.heap_39 w.params).lookup 57 = some _))
  cases e
  clear ho
  simp only [List.drop]
  rw [fix1 hm0] at F
  rw [fix1 hm1] at F
  rw [fix1 hm2] at F
  rw [fix1 hm3] at F
  rw [fix1 hm4] at F
  rw [fix1 hm5] at F
  rw [fix1 hm6] at F
  have ht := text_le hxs
  have htl : (xs.map gapOf).length ≤ 9 := by rw [List.length_map]; exact hxs
  k_steps
  refine Hold.of (s_add (by omega) ?_)
  intro t1 k1
  (try dsimp only)
  k_steps
  refine Hold.of (pairs_tells (l₀ := ln) (X.keeps F.keep) (T.keeps F.keep) ?hd ?hu rfl (News.isList N (by k_mem)) ?hn ?hs ?_)
  (case hd => simp only [depth_deeper, depth_caller]; decide)
  (case hu => exact Nat.le_of_ble_eq_true rfl)
  (case hn =>
    rw [hln]
    intro z hz
    obtain ⟨o, ho, rfl⟩ := List.mem_map.mp hz
    have a : ∀ e ∈ opsL, (num e).isSome = true := by decide
    exact a o ho)
  (case hs =>
    have e := congrArg List.length hln
    rw [List.length_map, List.length_map, show opsL.length = 48 by decide] at e
    omega)
  intro Dq nq h3 tk3 lq gr3 hDq hDqn hlq
  rw [hln, flat_fwd] at hlq
  have F3 := F.keeps gr3
  have N3 := newsC F N gr3 hDqn hDq
  clear F N
  (try dsimp only)
  k_steps
  refine star_seq (ws := strValues lq) F3 N3 List.mem_cons_self rfl rfl (Or.inl rfl) rfl ?hz ?_
  (case hz =>
    have e := congrArg List.length hlq
    rw [List.length_map, flat_length, List.length_map, List.length_map, show opsL.length = 48 by decide] at e
    rw [List.size_toArray, strValues, List.length_map, sizeLine_eq]
    omega)
  intro h1 F1 N1
  clear F3 N3
  (try dsimp only)
  k_steps
  rw [List.append_nil]
  refine Hold.of (replace_tells (ps := tabP.map fwd) (X.keeps F1.keep) (T.keeps F1.keep) ?hd ?hu rfl hlq ?hlen ?hps ?hsz ?_)
  (case hd => simp only [depth_deeper, depth_caller]; decide)
  (case hu => exact Nat.le_of_ble_eq_true rfl)
  (case hlen =>
    intro k
    refine Nat.le_trans (fwd_len (l := opsL) (fun o ho => ho) _ k) ?_
    have := ht.2
    unfold textOf at this
    omega)
  (case hps => exact fun p hp => (fwd_ok (l := opsL) (fun o ho => ho) p hp).2)
  (case hsz =>
    rw [List.length_map]
    show (opsL.map withCode).length ≤ 1000
    rw [List.length_map]
    decide)
  rw [law3]
  intro u h2 tk2 gr
  have F2 := F1.keeps gr
  have N2 := N1.grown gr
  clear F1 N1
  (try dsimp only)
  k_steps
  refine Hold.of ?_
  refine comp_str (F₀ := F2) (by with_unfolding_all rfl) (by decide) (by rfl) (by decide) (by rfl) ?_
  k_steps
  refine StrSrc.intro rfl F2 N2 ?_ ?_
  · rw [sizeLine_eq]
    show (S (xs.map pieceOf).flatten).length ≤ _
    rw [S_length]
    omega
  intro g
  refine comp_ind (fun i ys => ∃ l, ys = strValues l ∧ l.map (·.1) = (((xs.map pieceOf).flatten.take i).map fun c => wr [c]).map S) ⟨[], rfl, rfl⟩ trivial ?_ ?_
  · rintro i ys v I oI C oC D m2 h tk E' hi ⟨l, rfl, hl⟩ ⟨c, t2, hc, rfl⟩ hC hx F4 N4
    have hc' : (xs.map pieceOf).flatten[i]? = some c := by
      have : (S (xs.map pieceOf).flatten).cps[i]? = (xs.map pieceOf).flatten[i]? := by simp [S]
      rw [← this]
      exact hc
    have hnum : (num [c]).isSome = true := by
      obtain ⟨p, hp, hap⟩ := List.mem_flatten.mp (List.mem_of_getElem? hc')
      obtain ⟨x, _, rfl⟩ := List.mem_map.mp hp
      exact piece_sign hap
    k_steps
    refine Hold.of (written_here (y := [c]) F4 X T ?hd ?hu rfl (.inl hnum) (by simp) ?_)
    (case hd => simp only [depth_deeper, depth_caller]; decide)
    (case hu => exact Nat.le_of_ble_eq_true rfl)
    intro t3 h3 k3 gr
    refine CompPost.intro ⟨l ++ [(S (wr [c]), t3)], by simp [strValues], ?_⟩ gr
    rw [List.take_add_one, hc']
    simp [hl]
  · rintro ys ⟨l, rfl, hl⟩
    rw [List.take_of_length_le (by show _ ≤ (S (xs.map pieceOf).flatten).length; rw [S_length]; exact Nat.le_refl _)] at hl
    have hwl : ((xs.map pieceOf).flatten.map fun c => wr [c]).flatten.length ≤ 54 := by
      rw [wr_ones]
      · rw [List.length_map]; omega
      · intro a ha
        obtain ⟨p, hp, hap⟩ := List.mem_flatten.mp ha
        obtain ⟨x, _, rfl⟩ := List.mem_map.mp hp
        exact piece_sign hap
    k_steps
    rename_i Da ha tka Fa Na oa
    refine Hold.of (s_join0 (News.isList Na (by k_mem)) hl (by omega) ?_)
    intro t3 k3
    (try dsimp only)
    k_steps
    refine Hold.of (s_add (by omega) ?_)
    intro t4 k4
    (try dsimp only)
    k_steps
    refine Hold.of ?_
    refine s_same ?_
    (try dsimp only)
    k_steps
    refine Hold.of (hQ _ _ _ rfl rfl rfl rfl rfl rfl rfl Fa (fun p hp => Na p (List.mem_cons_of_mem _ (List.mem_cons_of_mem _ hp))))
end Mine
end

-- part WL
section
open PySem PySem.W PyProof.Rows PySem.Calls
set_option maxRecDepth 100000
set_option maxHeartbeats 8000000
set_option linter.unusedVariables false
namespace Mine
local macro_rules | `(tactic| walk_at "pad 0") => `(tactic| trivial)
local macro_rules | `(tactic| walk_at "pad 1") => `(tactic| trivial)
local macro_rules | `(tactic| walk_at "pad 2") => `(tactic| trivial)
local macro_rules | `(tactic| walk_at "pad 3") => `(tactic| trivial)
local macro_rules | `(tactic| walk_at "pad 4") => `(tactic| trivial)
local macro_rules | `(tactic| walk_at "pad 5") => `(tactic| trivial)
local macro_rules | `(tactic| walk_at "pad 6") => `(tactic| trivial)
local macro_rules | `(tactic| walk_at "pad 7") => `(tactic| trivial)
local macro_rules | `(tactic| walk_at "pad 8") => `(tactic| trivial)
local macro_rules | `(tactic| walk_at "pad 9") => `(tactic| trivial)
local macro_rules | `(tactic| walk_at "pad 10") => `(tactic| trivial)
local macro_rules | `(tactic| walk_at "pad 11") => `(tactic| trivial)
local macro_rules | `(tactic| walk_at "pad 12") => `(tactic| trivial)
local macro_rules | `(tactic| walk_at "pad 13") => `(tactic| trivial)
local macro_rules | `(tactic| walk_at "pad 14") => `(tactic| trivial)
local macro_rules | `(tactic| walk_at "pad 15") => `(tactic| trivial)
local macro_rules | `(tactic| walk_at "pad 16") => `(tactic| trivial)
local macro_rules | `(tactic| walk_at "pad 17") => `(tactic| trivial)
local macro_rules | `(tactic| walk_at "pad 18") => `(tactic| trivial)
local macro_rules | `(tactic| walk_at "pad 19") => `(tactic| trivial)
local macro_rules | `(tactic| walk_at "call ref") => `(tactic| refine Hold.mk ?_)
local macro_rules | `(tactic| walk_at "compareOp NotEq str str") => `(tactic| refine Hold.mk ?_)
local macro_rules | `(tactic| walk_at "binaryOp Add str str") => `(tactic| refine Hold.mk ?_)
local macro_rules | `(tactic| walk_at "binaryOp Add ref ref") => `(tactic| refine Hold.mk ?_)
local macro_rules | `(tactic| walk_at "execs cons If") => `(tactic| ((with_reducible show wpAny _ _ (execs (Stmt.If (Expr.Compare (Expr.Call _ [_, Expr.Lambda _ _ _ _] _ _) _ _ _) _ _ _ :: _) _) _ _ _); refine Hold.mk ?_))
local macro_rules | `(tactic| walk_at "execs cons") => `(tactic| ((with_reducible show wpAny _ _ (execs (Stmt.If (Expr.Compare (Expr.Call _ [_, Expr.Lambda _ _ _ _] _ _) _ _ _) _ _ _ :: _) _) _ _ _); refine Hold.mk ?_))
theorem law_L {w : World} {s : Shared} {p : Program} {loose : List Str} {mean : ExcName → Option Value} {mg mb : Str → Option Value} {Q : Flow → Shared → Prop} {h₀ : Heap} {L : Nat} {fa lscr : Addr} {op og o3 o4 o5 : Obj} {m : Str → Option Value} {xs ns : List Int} {Dh Df Dt Dc Dg Dp Dn nh nf nt nc ng np cn : Nat} {lh lf lt lc lg lp ln : List (Str × Tok)} {ta tw ti tr : Tok} {r : Nat}
    {name qual : Str} {params : Arguments} {body : List Stmt} {scope : Scope} {dV kV doc pm cdv ct oc : Value} {an od : Option Addr} {osl : Array (Option Value)}
    (ho : (Mine.hd.heap_39 w.params).lookup 57 = some ⟨oc, od, .func (fnOf name qual params body scope dV kV doc pm an cdv ct), osl⟩)
    (X : (Mine.hd.heap_39 w.params).In h₀) (T : Top p loose mean mg mb h₀)
    (hm0 : m (Str.ofString "names") = some (.ref Dn)) (hm1 : m (Str.ofString "script") = some (.ref lscr)) (hm2 : m (Str.ofString "apart") = some (.str (S (xs.map fun x => pieceOf x ++ [gapOf x]).flatten) ta)) (hm3 : m (Str.ofString "forth") = some (.ref Df)) (hm4 : m (Str.ofString "written") = some (.str (S (xs.map fun x => wr (pieceOf x) ++ [gapOf x]).flatten) tw)) (hm5 : m (Str.ofString "tight") = some (.str (S (xs.map pieceOf).flatten) ti)) (hm6 : m (Str.ofString "rest") = some (.str (S (xs.map gapOf)) tr)) (F : Fr h₀ L s.heap m)
    (N : News h₀ L s.heap [(Dh, W.listOf (strValues lh).toArray nh), (Df, W.listOf (strValues lf).toArray nf), (Dt, W.listOf (strValues lt).toArray nt), (Dc, W.listOf (strValues lc).toArray nc), (Dg, W.listOf (strValues lg).toArray ng), (Dp, W.listOf (strValues lp).toArray np), (Dn, W.listOf (strValues ln).toArray cn), (L + 1 + 1 + 1 + 1 + 1, o5), (L + 1 + 1 + 1 + 1, o4), (L + 1 + 1 + 1, o3), (L + 1 + 1, og), (L + 1, op), (54, tabObj #[])])
    (hog : og.data = .cell (some (.ref Dg))) (hop : op.data = .cell (some (.ref Dp)))
    (hlp : lp.map (·.1) = (xs.map pieceOf).map S) (hlg : lg.map (·.1) = (xs.map fun x => [gapOf x]).map S) (hxs : xs.length ≤ 9) (lt1 : L + 5 < Dn) (lt2 : Dn < Dp) (lt3 : Dp < Dg) (hL : 54 < L) (hlf : lf.map (·.1) = flat ((psR r).map fwd))
    (hQ : ∀ h' tk m', m' (Str.ofString "names") = some (.ref Dn) → m' (Str.ofString "script") = some (.ref lscr) → m' (Str.ofString "apart") = some (.str (S (xs.map fun x => pieceOf x ++ [gapOf x]).flatten) ta) → m' (Str.ofString "forth") = some (.ref Df) → m' (Str.ofString "written") = some (.str (S (xs.map fun x => wr (pieceOf x) ++ [gapOf x]).flatten) tw) → m' (Str.ofString "tight") = some (.str (S (xs.map pieceOf).flatten) ti) → m' (Str.ofString "rest") = some (.str (S (xs.map gapOf)) tr) → Fr h₀ L h' m' → News h₀ L h' [(Dh, W.listOf (strValues lh).toArray nh), (Df, W.listOf (strValues lf).toArray nf), (Dt, W.listOf (strValues lt).toArray nt), (Dc, W.listOf (strValues lc).toArray nc), (Dg, W.listOf (strValues lg).toArray ng), (Dp, W.listOf (strValues lp).toArray np), (Dn, W.listOf (strValues ln).toArray cn), (L + 1 + 1 + 1 + 1 + 1, o5), (L + 1 + 1 + 1 + 1, o4), (L + 1 + 1 + 1, o3), (L + 1 + 1, og), (L + 1, op), (54, tabObj #[])] → wpAny (model PySem.Challenge.rw_mr0178_01.row.prog w) (callerA.deeper (envOfC qual scope L fa cdv)) (execs (body.drop 17) (envOfC qual scope L fa cdv)) Q (fun _ _ => False) { s with heap := h', toks := tk }) :
    wpAny (model PySem.Challenge.rw_mr0178_01.row.prog w) (callerA.deeper (envOfC qual scope L fa cdv)) (execs (body.drop 16) (envOfC qual scope L fa cdv)) Q (fun _ _ => False) s := by
  w_top off; revert X; k_fill; intro X
  have e := Option.some.inj (ho.symm.trans (rfl : (Mine.hd.heap_39 w.params).lookup 57 = some _))
  cases e
  clear ho
  simp only [List.drop]
  rw [fix1 hm0] at F
  rw [fix1 hm1] at F
  rw [fix1 hm2] at F
  rw [fix1 hm3] at F
  rw [fix1 hm4] at F
  rw [fix1 hm5] at F
  rw [fix1 hm6] at F
  have ht := text_le hxs
  have htl : (xs.map gapOf).length ≤ 9 := by rw [List.length_map]; exact hxs
  have hpl : (psR r).length ≤ 144 := by
    unfold psR
    rw [List.length_map]
    exact ord_len r
  have hlfl : lf.length ≤ 288 := by
    have e := congrArg List.length hlf
    rw [List.length_map, flat_length, List.length_map] at e
    omega
  k_steps
  refine Hold.of (s_add (by omega) ?_)
  intro t1 k1
  (try dsimp only)
  k_steps
  refine krv_lit (zs := strValues lf.reverse) F N (News.isList (a := Df) (items := (strValues lf).toArray) N (by k_mem)) (.int _ _) (by simp [strValues]) ?_ (by with_unfolding_all rfl) (by intro _; with_unfolding_all rfl) ?hz
  (case hz => rw [List.size_toArray, strValues, List.length_map, sizeLine_eq]; omega)
  intro Dr hr Fr1 Nr ltr
  clear F N
  (try dsimp only)
  k_steps
  refine Hold.of (add_lists Fr1 Nr (News.isList (a := Df) (items := (strValues lf).toArray) Nr (by k_mem)) (News.isList (a := Dr) (items := (strValues lf.reverse).toArray) Nr (by k_mem)) ?_ (hsz := ?_))
  rotate_left
  · rw [sizeLine_eq]
    simp [strValues]
    omega
  intro h4 F4 N4
  dsimp only at N4 ⊢
  have e4 : (strValues lf) ++ (strValues lf.reverse) = strValues (lf ++ lf.reverse) := by simp [strValues]
  rw [e4] at N4
  clear Fr1 Nr
  k_steps
  have hlb := flat_both hlf
  refine star_seq (ws := strValues (lf ++ lf.reverse)) F4 N4 List.mem_cons_self rfl rfl (Or.inl rfl) rfl ?hz ?_
  (case hz =>
    rw [List.size_toArray, strValues, List.length_map, List.length_append, List.length_reverse, sizeLine_eq]
    omega)
  intro h1 F1 N1
  clear F4 N4
  (try dsimp only)
  k_steps
  rw [List.append_nil]
  refine Hold.of (replace_tells (ps := both (psR r)) (X.keeps F1.keep) (T.keeps F1.keep) ?hd ?hu rfl hlb ?hlen ?hps ?hsz ?_)
  (case hd => simp only [depth_deeper, depth_caller]; decide)
  (case hu => exact Nat.le_of_ble_eq_true rfl)
  (case hlen =>
    intro k
    refine Nat.le_trans ((law4 xs r).2 k) ?_
    omega)
  (case hps => exact fun p hp => (both_ne p hp).2)
  (case hsz =>
    unfold both
    rw [List.length_append, List.length_reverse, List.length_map, List.length_map]
    omega)
  rw [show replAll ((xs.map pieceOf).flatten ++ xs.map gapOf) (both (psR r)) = (xs.map pieceOf).flatten ++ xs.map gapOf from (law4 xs r).1]
  intro u h2 tk2 gr
  have F2 := F1.keeps gr
  have N2 := N1.grown gr
  clear F1 N1
  (try dsimp only)
  k_steps
  refine Hold.of (s_add (by omega) ?_)
  intro t4 k4
  (try dsimp only)
  k_steps
  refine Hold.of ?_
  refine s_same ?_
  (try dsimp only)
  k_steps
  refine Hold.of (hQ _ _ _ rfl rfl rfl rfl rfl rfl rfl F2 (fun p hp => N2 p (List.mem_cons_of_mem _ (List.mem_cons_of_mem _ hp))))
end Mine
end

-- part WM0
section
open PySem PySem.W PyProof.Rows PySem.Calls
set_option maxRecDepth 100000
set_option linter.unusedVariables false
namespace Mine
theorem enter_lam {prog : Program} {w : World} {A : Around} {s : Shared} {R : Result → Shared → Prop} {name qual : Str} {params : Arguments} {body : Expr} {scope : Scope} {pm ctv : Value} {c' : Addr} {f : Addr} {args : Args} {binds : List (Str × Value)}
    (hlim : s.heap.NoLimit) (ho : s.heap.get? f = some (kla_obj name qual params body scope [] pm c' ctv)) (hcd : s.heap.CodeRec (.ref c') qual) (hroom : A.depth < recursionLimit)
    (hbind : bindArgs (kla_fn name qual params body scope [] pm (.ref c') ctv) args = pure binds) (hloc : ∀ y ∈ binds, scope.names.lookup y.1 = some .local)
    (h : ∀ L' h₁, Fr s.heap L' h₁ (fun y => binds.reverse.lookup y) →
      wpAny (model prog w) (A.deeper (envOf qual scope L' f (.ref c'))) (eval body (envOf qual scope L' f (.ref c')))
        (fun v s' => R (.ok (.ret v)) s') (fun _ _ => False)
        { s with heap := h₁, toks := s.toks + binds.length })
    (hco : scope.isCoroutine = false) (hgen : scope.isGenerator = false) (hk : scope.kind = .function)
    (hcell : ∀ x ∈ scope.names, x.2 ≠ .cell) : codeAny (model prog w) A (.call (.ref f) args) R s := by
  refine kla_callFunE hroom ho rfl hco hgen rfl hcd ?_
  rw [hbind]
  refine wpAny_pure (wpAny_newFunctionEnv hcell hloc (fun h₁ hns hsb => ⟨hlim.fresh _ hsb, ?_⟩) hk)
  have hk₁ : ∀ b o, s.heap.get? b = some o → h₁.get? b = some o := fun b o e => hsb.extBut b o (Nat.ne_of_lt (Heap.lt_size e)) (Heap.get?_push_of_some _ e)
  exact kla_codeExpr (wpAny_mono (h s.heap.objs.size h₁ ⟨hns, hk₁, Nat.le_refl _⟩) (fun v s' hl => hl) fun _ _ y => y.elim)
theorem str_ext {a b : Str} (h : a.cps.toList = b.cps.toList) : a = b := by
  cases a; cases b
  congr 1
  exact Array.toList_inj.mp h
theorem valueAt_find (y : Str) : valueAt kvsS y = (tabS.find? fun e => e.1 == y).map fun e => Value.int e.2.1 e.2.2.2 := by
  unfold valueAt kvsS
  rw [List.find?_map, Option.map_map]
  have : ((fun kv : Str × Value => decide (kv.1 = y)) ∘ fun e : Str × Int × Tok × Tok => (e.1, Value.int e.2.1 e.2.2.2)) = fun e => e.1 == y := by
    funext e
    show decide (e.1 = y) = (e.1 == y)
    rw [Bool.eq_iff_iff, decide_eq_true_eq, str_beq, beq_iff_eq]
    exact ⟨fun e => by rw [e], str_ext⟩
  rw [this]
  rfl
theorem tab_dictOf {prog : Program} {w : World} {h : Heap} (X : (Mine.hd.heap_39 w.params).In h) : h.DictOf (PySem.strKind prog w) 29 kvsS := by
  obtain ⟨o, es, a, b, c, d⟩ := tab_dictAt (prog := prog) X
  exact ⟨o, es, 48, a, b, c, d⟩
theorem tab_get {prog : Program} {w : World} {A : Around} {E : Value → Shared → Prop} {s : Shared} {t u : Tok} {Q : Value → Shared → Prop} {x : List Nat} {h₀ : Heap} {L : Addr} {m : Str → Option Value} (F : Fr h₀ L s.heap m) (X : (Mine.hd.heap_39 w.params).In h₀)
    (h : ∀ v, IsT v (num x).isSome → Q v { s with toks := s.toks + 1 }) : wpAny (model prog w) A (call (.builtin "dict.get") [.ref 29, .str (S x) t, .int 0 u]) Q E s := by
  have hD := tab_dictOf (prog := prog) (X.keeps F.keep)
  refine call_meetsIn PySem.F.slot_dict_get hD.typeIs PySem.F.entry_dict_get (PySem.F.args_dict_get_3 _ _ _) (meets_dict_get_default (PySem.strKind prog w) 29 (k := S x) (strKind_is _ _ _ _) rfl (.int 0 u)) ⟨_, hD.mapOf, ?_⟩
  apply h
  have e := find_ops (S x) tabS ops tabS_ops
  rw [S_cps] at e
  rw [valueAt_find]
  cases q : tabS.find? fun e => e.1 == S x with
  | none =>
    rw [q] at e
    have hn : num x = none := by
      unfold num
      cases hl : ops.lookup x with
      | none => rfl
      | some n => rw [hl] at e; cases e
    rw [hn]
    exact .inr ⟨0, u, rfl, rfl⟩
  | some v =>
    rw [q] at e
    obtain ⟨n, hn, hv⟩ : ∃ n, num x = some n ∧ v.2.1 = (n : Int) := by
      unfold num
      cases hl : ops.lookup x with
      | none => rw [hl] at e; cases e
      | some n => rw [hl] at e; exact ⟨n, rfl, by simpa using e⟩
    rw [hn]
    have hb := num_bound hn
    refine .inr ⟨v.2.1, v.2.2.2, rfl, ?_⟩
    rw [hv]
    show true = ((n : Int) != 0)
    symm
    rw [bne_iff_ne]
    omega
end Mine
end

-- part WM1
section
open PySem PySem.W PyProof.Rows PySem.Calls
set_option maxRecDepth 100000
set_option linter.unusedVariables false
namespace Mine
def strsD (cs : List Nat) : PyData := .list (cs.map fun c => .str (S [c]))
def pairD (a b : List Nat) : PyData := .tuple [strsD a, strsD b]
theorem reads_all (h : Heap) : ∀ l : List (Str × Tok), ReadsAll h (strValues l) (l.map fun q => .str q.1) []
  | [] => .nil
  | q :: r => ReadsAll.cons (as := []) (.str q.1 q.2) (reads_all h r)
theorem reads_strs {h : Heap} {D : Addr} {l : List (Str × Tok)} {cs : List Nat} (hl : h.IsList D (strValues l).toArray) (e : l.map (·.1) = cs.map (fun c => S [c])) : Reads h (.ref D) (strsD cs) [D] := by
  obtain ⟨o, ho, hc, n, hd⟩ := hl
  refine .list (as := []) ho hc hd ?_
  have := reads_all h l
  have e2 : (cs.map fun c => PyData.str (S [c])) = l.map fun q => PyData.str q.1 := by
    have := congrArg (List.map PyData.str) e
    rw [List.map_map, List.map_map] at this
    exact this.symm
  rw [e2]
  exact this
theorem reads_pair {h : Heap} {D D1 D2 : Addr} {a b : List Nat} (ht : IsTup h D #[.ref D1, .ref D2]) (h1 : Reads h (.ref D1) (strsD a) [D1]) (h2 : Reads h (.ref D2) (strsD b) [D2]) : Reads h (.ref D) (pairD a b) [D1, D2] := by
  obtain ⟨o, ho, hc, n, hd⟩ := ht
  exact .tuple (as := [D1] ++ ([D2] ++ [])) ho hc hd (.cons h1 (.cons h2 .nil))
theorem lay_strs : ∀ cs : List Nat, (∀ c ∈ cs, c < 0x110000) → PyData.canLayAll0 (cs.map fun c => .str (S [c])) = true
  | [], _ => rfl
  | c :: r, h => by
    rw [List.map_cons, PyData.canLayAll0, lay_strs r fun d hd => h d (by simp [hd]), Bool.and_true]
    show PyData.strOk (S [c]) = true
    unfold PyData.strOk
    have := h c (by simp)
    simp [S, this]
theorem depth_strs : ∀ cs : List Nat, PyData.depthAll (cs.map fun c => .str (S [c])) = 0
  | [] => rfl
  | c :: r => by
    rw [List.map_cons, PyData.depthAll, depth_strs r]
    rfl
theorem shaped_pair {a b : List Nat} (ha : ∀ c ∈ a, c < 0x110000) (hb : ∀ c ∈ b, c < 0x110000) : SeqAt.shaped (pairD a b) = true := by
  unfold SeqAt.shaped pairD strsD
  rw [Bool.and_eq_true]
  constructor
  · show PyData.canLayAll0 [_, _] = true
    rw [PyData.canLayAll0, PyData.canLayAll0, PyData.canLayAll0, PyData.canLay0, PyData.canLay0, lay_strs a ha, lay_strs b hb]
    rfl
  · rw [decide_eq_true_eq, PyData.depth, PyData.depthAll, PyData.depthAll, PyData.depthAll, PyData.depth, PyData.depth, depth_strs, depth_strs]
    decide
section
variable {prog : Program} {w : World} {A : Around} {E : Value → Shared → Prop} {s : Shared} {Q : Value → Shared → Prop}
theorem pair_ne {D D' D1 D2 D1' D2' : Addr} {a b : List Nat} {l1 l2 l1' l2' : List (Str × Tok)} (ht : IsTup s.heap D #[.ref D1, .ref D2]) (ht' : IsTup s.heap D' #[.ref D1', .ref D2'])
    (h1 : s.heap.IsList D1 (strValues l1).toArray) (h2 : s.heap.IsList D2 (strValues l2).toArray) (h1' : s.heap.IsList D1' (strValues l1').toArray) (h2' : s.heap.IsList D2' (strValues l2').toArray)
    (e1 : l1.map (·.1) = a.map (fun c => S [c])) (e2 : l2.map (·.1) = b.map (fun c => S [c])) (e1' : l1'.map (·.1) = a.map (fun c => S [c])) (e2' : l2'.map (·.1) = b.map (fun c => S [c]))
    (ha : ∀ c ∈ a, c < 0x110000) (hb : ∀ c ∈ b, c < 0x110000) (hu : A.units + 64 < cLine) (h : Q (.bool false) s) : wpAny (model prog w) A (compareOp .NotEq (.ref D) (.ref D')) Q E s := by
  refine ne_dataH (reads_pair ht (reads_strs h1 e1) (reads_strs h2 e2)) (reads_pair ht' (reads_strs h1' e1') (reads_strs h2' e2')) (shaped_pair ha hb) (shaped_pair ha hb) hu ?_
  rw [PySem.SeqAt.eqv_refl _ (SeqAt.canLay_of_shaped (shaped_pair ha hb))]
  exact h
theorem pair_eq {D D' D1 D2 D1' D2' : Addr} {a b : List Nat} {l1 l2 l1' l2' : List (Str × Tok)} (ht : IsTup s.heap D #[.ref D1, .ref D2]) (ht' : IsTup s.heap D' #[.ref D1', .ref D2'])
    (h1 : s.heap.IsList D1 (strValues l1).toArray) (h2 : s.heap.IsList D2 (strValues l2).toArray) (h1' : s.heap.IsList D1' (strValues l1').toArray) (h2' : s.heap.IsList D2' (strValues l2').toArray)
    (e1 : l1.map (·.1) = a.map (fun c => S [c])) (e2 : l2.map (·.1) = b.map (fun c => S [c])) (e1' : l1'.map (·.1) = a.map (fun c => S [c])) (e2' : l2'.map (·.1) = b.map (fun c => S [c]))
    (ha : ∀ c ∈ a, c < 0x110000) (hb : ∀ c ∈ b, c < 0x110000) (hu : A.units + 64 < cLine) (h : Q (.bool true) s) : wpAny (model prog w) A (compareOp .Eq (.ref D) (.ref D')) Q E s := by
  refine eq_dataH (reads_pair ht (reads_strs h1 e1) (reads_strs h2 e2)) (reads_pair ht' (reads_strs h1' e1') (reads_strs h2' e2')) (shaped_pair ha hb) (shaped_pair ha hb) hu ?_
  rw [PySem.SeqAt.eqv_refl _ (SeqAt.canLay_of_shaped (shaped_pair ha hb))]
  exact h
theorem list_S {x : List Nat} {t : Tok} (hh : A.handled = none) (hx : x.length ≤ 100000)
    (h : ∀ D n h' tk l, Grow s.heap h' → s.heap.get? D = none → h'.get? D = some (W.listOf (strValues l).toArray n) → l.map (·.1) = x.map (fun c => S [c]) → Q (.ref D) { s with heap := h', toks := tk }) :
    wpAny (model prog w) A (call (.type "list") [.str (S x) t]) Q E s := by
  refine call_list_str hh (S x) t ?_ (by rw [sizeLine_eq]; show (S x).length ≤ _; rw [S_length]; omega)
  intro h' tk acc c gr hD hI
  obtain ⟨l, hl, e⟩ : ∃ l : List (Str × Tok), acc.toList = strValues l ∧ l.map (·.1) = x.map (fun c => S [c]) := by
    have key : ∀ (x : List Nat) (vs : List Value), vs.length = x.length → (∀ (j : Nat) v, vs[j]? = some v → ∃ c u, x[j]? = some c ∧ v = .str (S [c]) u) → ∃ l : List (Str × Tok), vs = strValues l ∧ l.map (·.1) = x.map (fun c => S [c]) := by
      intro x
      induction x with
      | nil => intro vs hl _; exact ⟨[], List.eq_nil_of_length_eq_zero hl, rfl⟩
      | cons q r ih =>
        intro vs hl hv
        match vs, hl with
        | v :: vs, hl =>
          obtain ⟨c, u, e, rfl⟩ := hv 0 v rfl
          obtain ⟨l, e2, e3⟩ := ih vs (by simpa using hl) (fun j v hj => hv (j + 1) v hj)
          have : q = c := by simpa using e
          exact ⟨(S [c], u) :: l, by rw [e2]; rfl, by rw [this]; simp [e3]⟩
    refine key x acc.toList ?_ ?_
    · have := hI.1
      have e2 : (S x).cps.size = x.length := S_length x
      rw [Array.length_toList]
      omega
    · intro j v hj
      obtain ⟨c, u, hc, e⟩ := hI.2 j v (by simpa using hj)
      refine ⟨c, u, ?_, e⟩
      have : (S x).cps[j]? = x[j]? := by simp [S]
      rw [← this]
      exact hc
  refine h _ c h' tk l gr ?_ ?_ e
  · exact Heap.get?_none_of_le (Nat.le_refl _)
  · rw [hD, ← hl]
end
end Mine
end

-- part WM2
section
open PySem PySem.W PyProof.Rows PySem.Calls
set_option maxRecDepth 100000
set_option maxHeartbeats 4000000
set_option linter.unusedVariables false
namespace Mine
theorem newsAdd {h₀ h h₃ : Heap} {L C : Addr} {oC : Obj} {m : Str → Option Value} {news : List (Addr × Obj)} (F : Fr h₀ L h m) (hC : h.get? C = none) (N : News h₀ L h₃ news) (ho : h₃.get? C = some oC) : News h₀ L h₃ ((C, oC) :: news) := by
  intro q hq
  rcases List.mem_cons.mp hq with rfl | hq
  · refine ⟨ho, ?_, ?_⟩
    · rintro rfl
      obtain ⟨o, _, _, e, _⟩ := F.ns
      rw [hC] at e
      cases e
    · cases e : h₀.get? C with
      | none => rfl
      | some o =>
        have := F.keep _ _ e
        rw [hC] at this
        cases this
  · exact N q hq
theorem split_tells {w : World} {A : Around} {s : Shared} {p : Program} {loose : List Str} {mean : ExcName → Option Value} {mg mb : Str → Option Value} {x : List Nat} {t : Tok} {f : Addr} {fo : Obj} {fd : FuncData} {pr : Nat → Bool} {Q E : Value → Shared → Prop}
    (X : (Mine.hd.heap_39 w.params).In s.heap) (T : Top p loose mean mg mb s.heap) (hd : A.depth + 10 < recursionLimit) (hu : A.units + 40 < cLine) (hh : A.handled = none)
    (hf : s.heap.get? f = some fo) (hfd : fo.data = .func fd) (hp : PredOk w A s.heap f x pr) (hx : x.length ≤ 100000)
    (hQ : ∀ (D1 D2 D n1 n2 : Nat) h' tk l1 l2, Grow s.heap h' → s.heap.get? D1 = none → s.heap.get? D2 = none → s.heap.get? D = none → h'.get? D1 = some (W.listOf (strValues l1).toArray n1) → h'.get? D2 = some (W.listOf (strValues l2).toArray n2) → h'.get? D = some { cls := .type "tuple", data := .seq #[.ref D1, .ref D2] } → l1.map (·.1) = (x.filter pr).map (fun c => S [c]) → l2.map (·.1) = (x.filter (fun c => !pr c)).map (fun c => S [c]) →
      Q (.ref D) { s with heap := h', toks := tk }) :
    wpAny (model PySem.Challenge.rw_mr0178_01.row.prog w) A (call (.ref 28) [.str (S x) t, .ref f]) Q E s := by
  w_top off; revert X; k_fill; intro X
  refine wpAny_call ?_
  (k_dflt (refine' enter_raw (binds := [(Str.ofString "s", Value.str (S x) t), (Str.ofString "predicate", Value.ref f)]) X T.nolimit ?k6 ?k7 ?k8 ?k9 ?kB ?_ ?c2 ?c3 ?c4 ?c5; (case k6 => k_is); (case k7 => k_is); (case k8 => omega); (case k9 => exact BindsTo.of_eq rfl); (case c5 => decide); (case kB => exact locs rfl); (case c2 => exact rfl); (case c3 => exact rfl); (case c4 => exact rfl); k_whole))
  intro L' h₁ F
  replace F := fr_bind2 F
  have N : News s.heap L' h₁ [] := News.nil
  (try dsimp only)
  (try k_fold)
  k_steps
  rename_i D1 _ _ _ D2 _ lt h3 F3 N3
  refine For_invV s.heap (by rfl) (by rfl) ?_
  k_steps
  refine iter_str (fun i m nx => m (Str.ofString "predicate") = some (.ref f) ∧ m (Str.ofString "yes") = some (.ref D1) ∧ m (Str.ofString "no") = some (.ref D2) ∧
    ∃ l1 n1 l2 n2, nx = [(D2, W.listOf (strValues l2).toArray n2), (D1, W.listOf (strValues l1).toArray n1)] ∧ l1.map (·.1) = ((x.take i).filter pr).map (fun c => S [c]) ∧ l2.map (·.1) = ((x.take i).filter (fun c => !pr c)).map (fun c => S [c]))
    (by exact hh) F3 N3 ⟨rfl, rfl, rfl, [], 0, [], 0, rfl, rfl, rfl⟩ ?_ ?_
  · rintro i c u m₁ news₁ h tk₁ own hv hadr hoff ⟨hm1, hm2, hm3, l1, n1, l2, n2, rfl, hl1, hl2⟩ F4 N4
    rw [fix1 hm1] at F4
    rw [fix1 hm2] at F4
    rw [fix1 hm3] at F4
    change Fr s.heap L' h _ at F4
    change News s.heap L' h _ at N4
    simp only [List.cons_append, List.nil_append] at N4
    simp only [List.map_cons, List.map_nil] at hoff
    clear F3 N3
    have hxi : x[i]? = some c := by simpa [S] using hv
    have hc : c ∈ x := List.mem_of_getElem? hxi
    k_steps
    refine hp c hc _ _ u _ _ (Nat.le_refl _) (Nat.le_refl _) hh F4.keep ?_
    intro v h5 tk5 hvt gr
    have F5 := F4.keeps gr
    have N5 := N4.grown gr
    clear F4 N4
    (try dsimp only)
    refine truthy_isT hvt ?_
    cases hpc : pr c
    · (try dsimp only)
      k_steps
      refine' append_K F5 N5 ?U ?_ ?z
      (case U => k_upd)
      (case z =>
        have e := congrArg List.length hl2
        have e2 := List.length_filter_le (fun c => !pr c) (x.take i)
        have e3 : (x.take i).length ≤ x.length := by rw [List.length_take]; omega
        rw [List.length_map, List.length_map] at e
        simp only [strValues, List.size_toArray, List.length_map]
        rw [sizeLine_eq]
        omega)
      intro h6 F6 N6
      clear F5 N5
      dsimp only at N6 ⊢
      k_steps
      refine InvEndN.intro F6 N6 (nx := [(D2, W.listOf ((strValues l2).toArray.push (Value.str (S [c]) u)) (n2 + 1)), (D1, W.listOf (strValues l1).toArray n1)]) ⟨rfl, rfl, rfl, l1, n1, l2 ++ [(S [c], u)], n2 + 1, ?_, ?_, ?_⟩ rfl ?_ ?_
      rotate_left 3
      · intro p hp'
        rcases List.mem_cons.mp hp' with rfl | hp'
        · exact List.mem_cons_self
        · rw [List.mem_singleton.mp hp']
          exact List.mem_cons_of_mem _ List.mem_cons_self
      · intro p hp'
        exact List.mem_cons_of_mem _ (List.mem_cons_of_mem _ hp')
      · simp [strValues, S]
      · rw [List.take_add_one, hxi]
        simp [hpc, hl1]
      · rw [List.take_add_one, hxi]
        simp [hpc, hl2]
    · (try dsimp only)
      k_steps
      refine' append_K F5 N5 ?U ?_ ?z
      (case U => k_upd)
      (case z =>
        have e := congrArg List.length hl1
        have e2 := List.length_filter_le pr (x.take i)
        have e3 : (x.take i).length ≤ x.length := by rw [List.length_take]; omega
        rw [List.length_map, List.length_map] at e
        simp only [strValues, List.size_toArray, List.length_map]
        rw [sizeLine_eq]
        omega)
      intro h6 F6 N6
      clear F5 N5
      dsimp only at N6 ⊢
      k_steps
      refine InvEndN.intro F6 N6 (nx := [(D2, W.listOf (strValues l2).toArray n2), (D1, W.listOf ((strValues l1).toArray.push (Value.str (S [c]) u)) (n1 + 1))]) ⟨rfl, rfl, rfl, l1 ++ [(S [c], u)], n1 + 1, l2, n2, ?_, ?_, ?_⟩ rfl ?_ ?_
      rotate_left 3
      · intro p hp'
        rcases List.mem_cons.mp hp' with rfl | hp'
        · exact List.mem_cons_self
        · rw [List.mem_singleton.mp hp']
          exact List.mem_cons_of_mem _ List.mem_cons_self
      · intro p hp'
        exact List.mem_cons_of_mem _ (List.mem_cons_of_mem _ hp')
      · simp [strValues, S]
      · rw [List.take_add_one, hxi]
        simp [hpc, hl1]
      · rw [List.take_add_one, hxi]
        simp [hpc, hl2]
  · rintro m₁ news₁ h tk₁ ⟨hm1, hm2, hm3, l1, n1, l2, n2, rfl, hl1, hl2⟩ F4 N4
    rw [fix1 hm1] at F4
    rw [fix1 hm2] at F4
    rw [fix1 hm3] at F4
    change Fr s.heap L' h _ at F4
    change News s.heap L' h _ at N4
    clear F3 N3
    dsimp only
    k_steps
    rename_i D h5 F5 N5 lt5
    have e0 := N5 _ List.mem_cons_self
    have e1 := N5 _ (List.mem_cons_of_mem _ (List.mem_cons_of_mem _ List.mem_cons_self))
    have e2 := N5 _ (List.mem_cons_of_mem _ List.mem_cons_self)
    refine hQ D1 D2 D n1 n2 _ _ l1 l2 F5.keep e1.2.2 e2.2.2 e0.2.2 e1.1 e2.1 e0.1 ?_ ?_
    · rw [hl1, List.take_of_length_le (by simp [S])]
    · rw [hl2, List.take_of_length_le (by simp [S])]
end Mine
end

-- part WM3
section
open PySem PySem.W PyProof.Rows PySem.Calls
set_option maxRecDepth 100000
set_option maxHeartbeats 4000000
set_option linter.unusedVariables false
namespace Mine
theorem news_tl {h₀ h : Heap} {L : Addr} {p : Addr × Obj} {r : List (Addr × Obj)} (N : News h₀ L h (p :: r)) : News h₀ L h r := fun q hq => N q (List.mem_cons_of_mem _ hq)
theorem non_tells {w : World} {A : Around} {s : Shared} {p : Program} {loose : List Str} {mean : ExcName → Option Value} {mg mb : Str → Option Value} {n : Nat} {t : Tok} {Q E : Value → Shared → Prop}
    (X : (Mine.hd.heap_39 w.params).In s.heap) (T : Top p loose mean mg mb s.heap) (hd : A.depth + 5 < recursionLimit) (hu : A.units + 20 < cLine) (hh : A.handled = none)
    (hQ : ∀ h' tk, Grow s.heap h' → Q (.bool (decide (256 ≤ n))) { s with heap := h', toks := tk }) :
    wpAny (model PySem.Challenge.rw_mr0178_01.row.prog w) A (call (.ref 38) [.int (n : Int) t]) Q E s := by
  w_top off; revert X; k_fill; intro X
  refine wpAny_call ?_
  (k_dflt (refine' enter_raw (binds := [(Str.ofString "x", Value.int (n : Int) t)]) X T.nolimit ?k6 ?k7 ?k8 ?k9 ?kB ?_ ?c2 ?c3 ?c4 ?c5; (case k6 => k_is); (case k7 => k_is); (case k8 => omega); (case k9 => exact BindsTo.of_eq rfl); (case c5 => decide); (case kB => exact locs rfl); (case c2 => exact rfl); (case c3 => exact rfl); (case c4 => exact rfl); k_whole))
  intro L' h₁ F
  replace F := fr_bind1 F
  have N : News s.heap L' h₁ [] := News.nil
  (try dsimp only)
  (try k_fold)
  k_steps
  dsimp only
  have e : decide ((256 : Int) ≤ (n : Int)) = decide (256 ≤ n) := by
    rw [Bool.eq_iff_iff, decide_eq_true_eq, decide_eq_true_eq]
    omega
  rw [e]
  exact hQ _ _ F.keep
end Mine
end

-- part WM
section
open PySem PySem.W PyProof.Rows PySem.Calls
set_option maxRecDepth 100000
set_option maxHeartbeats 8000000
set_option linter.unusedVariables false
namespace Mine
local macro_rules | `(tactic| walk_at "call ref") => `(tactic| refine Hold.mk ?_)
local macro_rules | `(tactic| walk_at "call builtin:dict.get") => `(tactic| refine Hold.mk ?_)
local macro_rules | `(tactic| walk_at "call type:list") => `(tactic| refine Hold.mk ?_)
local macro_rules | `(tactic| walk_at "compareOp Eq ref ref") => `(tactic| refine Hold.mk ?_)
local macro_rules | `(tactic| walk_at "compareOp NotEq ref ref") => `(tactic| refine Hold.mk ?_)
theorem code_le (o : List Nat) : code o ≤ 310 := by
  unfold code
  cases h : num o with
  | none => decide
  | some k =>
    have := num_bound h
    show 256 + k ≤ 310
    omega
theorem wr_small (p : List Nat) : ∀ a ∈ wr p, a ≤ 310 := by
  intro a ha
  unfold wr at ha
  split at ha
  · rw [List.mem_singleton.mp ha]
    exact code_le _
  · dsimp only at ha
    rcases List.mem_append.mp ha with ha | ha
    · rw [(List.mem_replicate.mp ha).2]
      exact code_le _
    · rw [(List.mem_replicate.mp ha).2]
      exact code_le _
theorem law_M {w : World} {s : Shared} {p : Program} {loose : List Str} {mean : ExcName → Option Value} {mg mb : Str → Option Value} {Q : Flow → Shared → Prop} {h₀ : Heap} {L : Nat} {fa lscr : Addr} {op og o3 o4 o5 : Obj} {m : Str → Option Value} {xs ns : List Int} {Dh Df Dt Dc Dg Dp Dn nh nf nt nc ng np cn : Nat} {lh lf lt lc lg lp ln : List (Str × Tok)} {ta tw ti tr : Tok}
    {name qual : Str} {params : Arguments} {body : List Stmt} {scope : Scope} {dV kV doc pm cdv ct oc : Value} {an od : Option Addr} {osl : Array (Option Value)}
    (ho : (Mine.hd.heap_39 w.params).lookup 57 = some ⟨oc, od, .func (fnOf name qual params body scope dV kV doc pm an cdv ct), osl⟩)
    (X : (Mine.hd.heap_39 w.params).In h₀) (T : Top p loose mean mg mb h₀)
    (hm0 : m (Str.ofString "names") = some (.ref Dn)) (hm1 : m (Str.ofString "script") = some (.ref lscr)) (hm2 : m (Str.ofString "apart") = some (.str (S (xs.map fun x => pieceOf x ++ [gapOf x]).flatten) ta)) (hm3 : m (Str.ofString "forth") = some (.ref Df)) (hm4 : m (Str.ofString "written") = some (.str (S (xs.map fun x => wr (pieceOf x) ++ [gapOf x]).flatten) tw)) (hm5 : m (Str.ofString "tight") = some (.str (S (xs.map pieceOf).flatten) ti)) (hm6 : m (Str.ofString "rest") = some (.str (S (xs.map gapOf)) tr)) (F : Fr h₀ L s.heap m)
    (N : News h₀ L s.heap [(Dh, W.listOf (strValues lh).toArray nh), (Df, W.listOf (strValues lf).toArray nf), (Dt, W.listOf (strValues lt).toArray nt), (Dc, W.listOf (strValues lc).toArray nc), (Dg, W.listOf (strValues lg).toArray ng), (Dp, W.listOf (strValues lp).toArray np), (Dn, W.listOf (strValues ln).toArray cn), (L + 1 + 1 + 1 + 1 + 1, o5), (L + 1 + 1 + 1 + 1, o4), (L + 1 + 1 + 1, o3), (L + 1 + 1, og), (L + 1, op), (54, tabObj #[])])
    (hog : og.data = .cell (some (.ref Dg))) (hop : op.data = .cell (some (.ref Dp))) (hoc : o3.data = .cell (some (.ref Dc)))
    (hlp : lp.map (·.1) = (xs.map pieceOf).map S) (hlg : lg.map (·.1) = (xs.map fun x => [gapOf x]).map S) (hxs : xs.length ≤ 9) (lt1 : L + 5 < Dn) (lt2 : Dn < Dp) (lt3 : Dp < Dg) (hL : 54 < L) (C : CodeHd h₀ 56 54) (hDht : Dh ≠ 54) (hDft : Df ≠ 54) (hDtt : Dt ≠ 54) (hDct : Dc ≠ 54) (hlc : lc.map (·.1) = (xs.map fun x => wr (pieceOf x)).map S)
    (hQ : ∀ h' tk m', Fr h₀ L h' m' → GrownAt 54 h' → Q (.ret (.bool true)) { s with heap := h', toks := tk }) :
    wpAny (model PySem.Challenge.rw_mr0178_01.row.prog w) (callerA.deeper (envOfC qual scope L fa cdv)) (execs (body.drop 17) (envOfC qual scope L fa cdv)) Q (fun _ _ => False) s := by
  w_top off; revert X; k_fill; intro X
  have e := Option.some.inj (ho.symm.trans (rfl : (Mine.hd.heap_39 w.params).lookup 57 = some _))
  cases e
  clear ho
  simp only [List.drop]
  rw [fix1 hm0] at F
  rw [fix1 hm1] at F
  rw [fix1 hm2] at F
  rw [fix1 hm3] at F
  rw [fix1 hm4] at F
  rw [fix1 hm5] at F
  rw [fix1 hm6] at F
  have ht := text_le hxs
  k_steps
  rename_i f1 c1 oc1 vs1 t1 ct1 h1 tk1 F1 N1 d1 d2 l1 l2
  clear F N
  refine Hold.of (split_tells (pr := fun c => (num [c]).isSome) (X.keeps F1.keep) (T.keeps F1.keep) ?hd ?hu rfl (N1 _ List.mem_cons_self).1 rfl ?hp ?hx ?_)
  (case hd => simp only [depth_deeper, depth_caller]; decide)
  (case hu => exact Nat.le_of_ble_eq_true rfl)
  (case hx => exact flat_le hxs)
  (case hp =>
    intro c hc A' s' u Q' E' hd' hu' hh' gr' hQ'
    have X' := X.keeps (fun b o e => gr' b o (F1.keep b o e))
    have T' := T.keeps (fun b o e => gr' b o (F1.keep b o e))
    have hd2 : A'.depth + 10 < recursionLimit := by
      simp only [depth_deeper, depth_caller] at hd'
      have : recursionLimit = 1000 := rfl
      omega
    have ho := gr' _ _ (N1 _ List.mem_cons_self).1
    have hc1 := gr' _ _ (N1 (c1, oc1) (by k_mem)).1
    clear N1 F1 hQ
    refine wpAny_call ?_
    (k_dflt (refine' enter_lam (binds := [(Str.ofString "one", Value.str (S [c]) u)]) T'.nolimit ho ?k7 ?k8 ?k9 ?kB ?_ ?c2 ?c3 ?c4 ?c5; (case k7 => exact ⟨_, _, _, _, rfl, hc1, d1, d2⟩); (case k8 => omega); (case k9 => exact rfl); (case c5 => decide); (case kB => exact locs rfl); (case c2 => exact rfl); (case c3 => exact rfl); (case c4 => exact rfl); k_whole))
    intro L' h₁ F
    replace F := fr_bind1 F
    have N : News s'.heap L' h₁ [] := News.nil
    clear X T
    (try dsimp only)
    (try k_fold)
    k_steps
    refine Hold.of (tab_get F X' ?_)
    intro v hv
    exact hQ' v _ _ hv F.keep)
  intro D1 D2 D2t n1 n2 h2 tk2 la lb gr2 nD1 nD2 nD2t gD1 gD2 gD2t ela elb
  rw [(law5 xs).1] at ela
  rw [(law5 xs).2] at elb
  have F2 := F1.keeps gr2
  have N2 := newsAdd F1 nD2t (newsAdd F1 nD1 (newsAdd F1 nD2 (N1.grown gr2) gD2) gD1) gD2t
  have gg := F2
  clear F1 N1 nD1 nD2 nD2t gD1 gD2 gD2t
  (try dsimp only)
  k_steps
  refine Hold.of (list_S rfl (by omega) ?_)
  intro Dl nl h3 tk3 ll gr3 hDln hDl ell
  have F3 := F2.keeps gr3
  have N3 := newsC F2 N2 gr3 hDln hDl
  clear F2 N2 hDln hDl gg
  (try dsimp only)
  k_steps
  rename_i Dx h4 F4 N4 lt4
  refine Hold.of (pair_ne (D1 := D1) (D2 := D2) (D1' := Dl) (D2' := Dg) (l1 := la) (l2 := lb) (l1' := ll) (l2' := lg) (a := (xs.map pieceOf).flatten) (b := xs.map gapOf) ⟨_, (N4 (D2t, _) (by k_mem)).1, rfl, _, rfl⟩ ⟨_, (N4 (Dx, _) (by k_mem)).1, rfl, _, rfl⟩
    (News.isList (a := D1) N4 (by k_mem)) (News.isList (a := D2) N4 (by k_mem)) (News.isList (a := Dl) N4 (by k_mem)) (News.isList (a := Dg) N4 (by k_mem)) ela elb ell (hlg.trans map_one.symm) ?h1 ?h2 ?hu ?_)
  (case h1 => exact fun c hc => Nat.lt_trans (text_small (xs := xs) (List.mem_append_left _ hc)) (by decide))
  (case h2 => exact fun c hc => Nat.lt_trans (text_small (xs := xs) (List.mem_append_right _ hc)) (by decide))
  (case hu => exact Nat.le_of_ble_eq_true rfl)
  have N5 := news_tl (news_tl (news_tl (news_tl (news_tl (news_tl (news_tl N4))))))
  clear N4 lt4 l1 l2 d1 d2
  (try dsimp only)
  k_steps
  clear ela elb ell
  rename_i f2 c2 oc2 vs2 t2 ct2 h5 tk5 F5 N6 d1 d2 l1 l2
  clear F4 N5
  refine Hold.of (split_tells (pr := fun c => decide (256 ≤ c)) (X.keeps F5.keep) (T.keeps F5.keep) ?hd ?hu rfl (N6 _ List.mem_cons_self).1 rfl ?hp ?hx ?_)
  (case hd => simp only [depth_deeper, depth_caller]; decide)
  (case hu => exact Nat.le_of_ble_eq_true rfl)
  (case hx => exact flat_le2 wr_len hxs)
  (case hp =>
    intro c hc A' s' u Q' E' hd' hu' hh' gr' hQ'
    have X' := X.keeps (fun b o e => gr' b o (F5.keep b o e))
    have T' := T.keeps (fun b o e => gr' b o (F5.keep b o e))
    have hd2 : A'.depth + 10 < recursionLimit := by
      simp only [depth_deeper, depth_caller] at hd'
      have : recursionLimit = 1000 := rfl
      omega
    have hu2 : A'.units + 40 < cLine := Nat.lt_of_le_of_lt (Nat.add_le_add_right hu' 40) (Nat.le_of_ble_eq_true rfl)
    have ho := gr' _ _ (N6 _ List.mem_cons_self).1
    have hc1 := gr' _ _ (N6 (c2, oc2) (by k_mem)).1
    clear N6 F5 hQ
    refine wpAny_call ?_
    (k_dflt (refine' enter_lam (binds := [(Str.ofString "one", Value.str (S [c]) u)]) T'.nolimit ho ?k7 ?k8 ?k9 ?kB ?_ ?c2 ?c3 ?c4 ?c5; (case k7 => exact ⟨_, _, _, _, rfl, hc1, d1, d2⟩); (case k8 => omega); (case k9 => exact rfl); (case c5 => decide); (case kB => exact locs rfl); (case c2 => exact rfl); (case c3 => exact rfl); (case c4 => exact rfl); k_whole))
    intro L' h₁ F
    replace F := fr_bind1 F
    have N : News s'.heap L' h₁ [] := News.nil
    clear X T
    (try dsimp only)
    (try k_fold)
    k_steps
    refine Hold.of ?_
    refine non_tells (n := c) (X'.keeps F.keep) (T'.keeps F.keep) (by simp only [depth_deeper]; omega) ?_ ?_ ?_
    · simp only [units_deeper]; omega
    · exact hh'
    · intro h7 tk7 gr7
      exact hQ' _ _ _ (.inl rfl) (fun b o e => gr7 b o (F.keep b o e)))
  intro E1 E2 E2t n3 n4 h6 tk6 lc1 ld gr6 nD1 nD2 nD2t gD1 gD2 gD2t ela elb
  rw [(law6 xs).1] at ela
  rw [(law6 xs).2] at elb
  have F6 := F5.keeps gr6
  have N7 := newsAdd F5 nD2t (newsAdd F5 nD1 (newsAdd F5 nD2 (N6.grown gr6) gD2) gD1) gD2t
  clear F5 N6 nD1 nD2 nD2t gD1 gD2 gD2t
  (try dsimp only)
  k_steps
  have hwl : (xs.map fun x => wr (pieceOf x)).flatten.length ≤ 100000 := by
    have key : ∀ xs : List Int, (xs.map fun x => wr (pieceOf x)).flatten.length ≤ 6 * xs.length := by
      intro xs
      induction xs with
      | nil => simp
      | cons a r ih =>
        have := wr_len a
        rw [List.map_cons, List.flatten_cons, List.length_append, List.length_cons]
        omega
    have := key xs
    omega
  refine s_join0 (l := lc) (News.isList (a := Dc) N7 (by k_mem)) hlc hwl ?_
  intro tj kj
  (try dsimp only)
  k_steps
  refine Hold.of (list_S rfl hwl ?_)
  intro Dl2 nl2 h8 tk8 ll2 gr8 hDln hDl ell
  have F8 := F6.keeps gr8
  have N8 := newsC F6 N7 gr8 hDln hDl
  clear F6 N7 hDln hDl
  (try dsimp only)
  k_steps
  rename_i Dy h9 F9 N9 lt9
  refine Hold.of (pair_eq (D1 := E1) (D2 := E2) (D1' := Dl2) (D2' := Dg) (l1 := lc1) (l2 := ld) (l1' := ll2) (l2' := lg) (a := (xs.map fun x => wr (pieceOf x)).flatten) (b := xs.map gapOf) ⟨_, (N9 (E2t, _) (by k_mem)).1, rfl, _, rfl⟩ ⟨_, (N9 (Dy, _) (by k_mem)).1, rfl, _, rfl⟩
    (News.isList (a := E1) N9 (by k_mem)) (News.isList (a := E2) N9 (by k_mem)) (News.isList (a := Dl2) N9 (by k_mem)) (News.isList (a := Dg) N9 (by k_mem)) ela elb ell (hlg.trans map_one.symm) ?h1 ?h2 ?hu ?_)
  (case h1 =>
    intro c hc
    obtain ⟨p, hp, hcp⟩ := List.mem_flatten.mp hc
    obtain ⟨x, _, rfl⟩ := List.mem_map.mp hp
    exact Nat.lt_of_le_of_lt (wr_small _ c hcp) (by decide))
  (case h2 => exact fun c hc => Nat.lt_trans (text_small (xs := xs) (List.mem_append_right _ hc)) (by decide))
  (case hu => exact Nat.le_of_ble_eq_true rfl)
  (try dsimp only)
  k_steps
  exact hQ _ _ _ F9 (GrownAt.of N9 (by k_mem))
end Mine
end

-- part WZ
section
open PySem PySem.W PyProof.Rows PySem.Calls
set_option maxRecDepth 100000
set_option maxHeartbeats 8000000
set_option linter.unusedVariables false
namespace Mine
theorem law_all {w : World} {s : Shared} {p : Program} {loose : List Str} {mean : ExcName → Option Value} {mg mb : Str → Option Value} {Q : Flow → Shared → Prop} {h₀ : Heap} {L : Nat} {fa lscr : Addr} {vs : List Value} {ns : List Int} {o1 o2 o3 o4 o5 : Obj} {d1 d2 d3 d4 d5 : Option Value}
    {name qual : Str} {params : Arguments} {body : List Stmt} {scope : Scope} {dV kV doc pm cdv ct oc : Value} {an od : Option Addr} {osl : Array (Option Value)}
    (ho : (Mine.hd.heap_39 w.params).lookup 57 = some ⟨oc, od, .func (fnOf name qual params body scope dV kV doc pm an cdv ct), osl⟩)
    (X : (Mine.hd.heap_39 w.params).In h₀) (T : Top p loose mean mg mb h₀) (C : CodeHd h₀ 56 54)
    (hscr : h₀.IsList lscr vs.toArray) (hI : IntsAre vs ns) (hlen : ns.length ≤ 63)
    (F : Fr h₀ L s.heap (fun y => if y = Str.ofString "script" then some (.ref lscr) else none))
    (N : News h₀ L s.heap [(L + 1 + 1 + 1 + 1 + 1, o5), (L + 1 + 1 + 1 + 1, o4), (L + 1 + 1 + 1, o3), (L + 1 + 1, o2), (L + 1, o1), (54, tabObj #[])])
    (hd1 : o1.data = .cell d1) (hd2 : o2.data = .cell d2) (hd3 : o3.data = .cell d3) (hd4 : o4.data = .cell d4) (hd5 : o5.data = .cell d5) (hL : 54 < L)
    (hQ : ∀ h' tk m', Fr h₀ L h' m' → GrownAt 54 h' → Q (.ret (.bool true)) { s with heap := h', toks := tk }) :
    wpAny (model PySem.Challenge.rw_mr0178_01.row.prog w) (callerA.deeper (envOfC qual scope L fa cdv)) (execs body (envOfC qual scope L fa cdv)) Q (fun _ _ => False) s := by
  refine law_A ho X T hscr hI hlen F N hd1 hd2 hd3 hd4 hd5 hL ?_
  intro h1 tk1 m1 Dn Dp Dg cn np ng ln lp lg op og a0 a1 F1 N1 hog hop hln hlp hlg lt1 lt2 lt3
  rw [map_one] at hlg
  have hxs : (ns.take 6 ++ [271, 10, 32]).length ≤ 9 := by
    rw [List.length_append, List.length_take]
    simp only [List.length_cons, List.length_nil]
    omega
  revert hlp hlg hxs
  generalize ns.take 6 ++ [271, 10, 32] = xs
  intro hlp hlg hxs
  refine law_B (ns := ns) ho X T a0 a1 F1 N1 hog hop hlp hlg hxs lt1 lt2 lt3 hL ?_
  clear F1 N1 a0 a1
  intro h2 tk2 m2 ta a0 a1 a2 F1 N1
  refine law_C (ns := ns) ho X T a0 a1 a2 F1 N1 hog hop hd3 hlp hlg hxs lt1 lt2 lt3 hL ?_
  clear F1 N1 a0 a1 a2
  intro h3 tk3 m3 Dc nc lc o3' a0 a1 a2 F1 N1 hoc hlc hDc4 hDc5 hDct
  refine law_D (ns := ns) ho X T a0 a1 a2 F1 N1 hog hop hoc hd4 hlp hlg hxs lt1 lt2 lt3 hL hln hlc hDc4 hDc5 hDct hscr hI hlen ?_
  clear F1 N1 a0 a1 a2
  intro h4 tk4 m4 Dt nt lt o4' a0 a1 a2 F1 N1 hot hlt hDt5 hDtt
  revert hlt
  generalize ((ns.take 6).sum.fmod 48).toNat = r
  intro hlt
  refine law_E (ns := ns) ho X T a0 a1 a2 F1 N1 hog hop hoc hot hlp hlg hxs lt1 lt2 lt3 hL hln hlc hlt hDc5 hDct hDt5 hDtt ?_
  clear F1 N1 a0 a1 a2
  intro h5 tk5 m5 Df nf lf a0 a1 a2 a3 F1 N1 hlf hDf5 hDft
  rw [flat_fwd] at hlf
  change lf.map (·.1) = flat ((psR r).map fwd) at hlf
  have hpl : (psR r).length ≤ 144 := by
    unfold psR
    rw [List.length_map]
    exact ord_len r
  refine law_F (ns := ns) (ps := (psR r).map fwd) ho X T a0 a1 a2 a3 F1 N1 hog hop hlp hlg hxs lt1 lt2 lt3 hL hlf ?_ ?_ ?_ ?_
  · intro k
    exact Nat.le_trans (fwd_len (l := ordOps r) (fun o ho => ord_mem ho) _ k) (flat_le hxs)
  · exact fun p hp => (fwd_ok (l := ordOps r) (fun o ho => ord_mem ho) p hp).2
  · rw [List.length_map]; omega
  clear F1 N1 a0 a1 a2 a3
  rw [law1]
  intro h6 tk6 m6 tw a0 a1 a2 a3 a4 F1 N1
  refine law_G (ns := ns) ho X T a0 a1 a2 a3 a4 F1 N1 hog hop hoc hlp hlg hxs lt1 lt2 lt3 hL hlc ?_
  clear F1 N1 a0 a1 a2 a3 a4
  intro h7 tk7 m7 a0 a1 a2 a3 a4 F1 N1
  refine law_H (ns := ns) ho X T a0 a1 a2 a3 a4 F1 N1 hog hop hd5 hlp hlg hxs lt1 lt2 lt3 hL hDc5 hDt5 hDf5 ?_
  clear F1 N1 a0 a1 a2 a3 a4
  intro h8 tk8 m8 Dh nh lh o5' a0 a1 a2 a3 a4 F1 N1 hoh hlh hDht
  refine law_I (ns := ns) ho X T a0 a1 a2 a3 a4 F1 N1 hog hop hoh hlp hlg hxs lt1 lt2 lt3 hL hlh ?_
  clear F1 N1 a0 a1 a2 a3 a4
  intro h9 tk9 m9 a0 a1 a2 a3 a4 F1 N1
  refine law_J (ns := ns) ho X T a0 a1 a2 a3 a4 F1 N1 hog hop hlp hlg hxs lt1 lt2 lt3 hL ?_
  clear F1 N1 a0 a1 a2 a3 a4
  intro h10 tk10 m10 ti tr a0 a1 a2 a3 a4 a5 a6 F1 N1
  refine law_K (ns := ns) ho X T a0 a1 a2 a3 a4 a5 a6 F1 N1 hog hop hlp hlg hxs lt1 lt2 lt3 hL hln ?_
  clear F1 N1 a0 a1 a2 a3 a4 a5 a6
  intro h11 tk11 m11 a0 a1 a2 a3 a4 a5 a6 F1 N1
  refine law_L (ns := ns) (r := r) ho X T a0 a1 a2 a3 a4 a5 a6 F1 N1 hog hop hlp hlg hxs lt1 lt2 lt3 hL hlf ?_
  clear F1 N1 a0 a1 a2 a3 a4 a5 a6
  intro h12 tk12 m12 a0 a1 a2 a3 a4 a5 a6 F1 N1
  refine law_M (ns := ns) ho X T a0 a1 a2 a3 a4 a5 a6 F1 N1 hog hop hoc hlp hlg hxs lt1 lt2 lt3 hL C hDht hDft hDtt hDct hlc ?_
  intro h13 tk13 m13 F13 N13
  exact hQ _ _ _ F13 N13
end Mine
end

set_option maxRecDepth 100000 in
set_option maxHeartbeats 8000000 in
theorem PySem.Challenge.cw_mr0178_01_holds : PySem.Challenge.rw_mr0178_01.Holds := by
  refine Mine.hd ?_
  k_go0
  (all_goals try k_fold)
  rename_i o5 o4 o3 o2 o1 e5 e4 e3 e2 e1 X0 X T K F N l0
  rename IntsAre _ _ => hI
  rename ¬ _ < _ => hc
  change Fr _ _ _ (fun y => if y = Str.ofString "script" then some (Value.ref _) else none) at F
  refine wpAny_mono (E := fun _ _ => False) ?_ (fun _ _ h => h) (fun _ _ e => e.elim)
  refine Mine.law_all rfl X T codeHd lifted hI (by omega) F N e1 e2 e3 e4 e5 l0 ?_
  intro h' tk' m' F' G'
  refine ⟨?_, G', True.intro⟩
  clear F N e1 e2 e3 e4 e5 X0
  dsimp only
  rename _ = #[] => hg
  refine goodW_bool F' hg (fun cls => ?_) ?_
  · rfl
  · wrow_post
