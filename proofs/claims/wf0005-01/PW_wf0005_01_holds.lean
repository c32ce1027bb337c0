import PyProof.Rows.All
import Wide.All
import OpenK.AllK
import Wide.FinOn
import PySem.Challenge.RW_wf0005_01
open PySem PySem.W PyProof.Rows
set_option Elab.async false
set_option maxRecDepth 100000
set_option pp.deepTerms false
set_option pp.maxSteps 3000
namespace Mine
set_option maxRecDepth 100000 in
set_option maxHeartbeats 8000000 in
open_top wfhd for PySem.Challenge.rw_wf0005_01
end Mine
namespace Mine
/-- a place where the walker rests -/
def Stop (P : Prop) : Prop := P
theorem Stop.intro {P : Prop} (h : Stop P) : P := h
theorem Stop.out {P : Prop} (h : P) : Stop P := h
theorem frCast {h₀ h : Heap} {L : Addr} {m m' : Str → Option Value} (F : Fr h₀ L h m) (e : ∀ y, m' y = m y) : Fr h₀ L h m' := (funext e : m' = m) ▸ F
theorem strApp (a b : List Nat) : ((⟨a.toArray⟩ : Str) ++ (⟨b.toArray⟩ : Str)) = (⟨(a ++ b).toArray⟩ : Str) := by
  apply Str.ext'
  rw [Str.cps_append]
  simp
theorem strJoin_cps : ∀ l : List Str, (Str.join (Str.ofString "") l).cps.toList = l.flatMap fun x => x.cps.toList
  | [] => rfl
  | [x] => by simp [Str.join]
  | x :: y :: r => by
    have ih := strJoin_cps (y :: r)
    show (x ++ Str.ofString "" ++ Str.join (Str.ofString "") (y :: r)).cps.toList = _
    rw [Str.cps_append, Str.cps_append, Array.toList_append, Array.toList_append, ih, show (Str.ofString "").cps = #[] from by decide +kernel]
    simp
theorem join_cps (l : List Str) : (Txt.join (Str.ofString "") l).cps.toList = l.flatMap fun x => x.cps.toList := by
  rw [eq_of_beq (join_plain_closes (Str.ofString "") l), strJoin_cps]
def Sealed (P : Prop) : Prop := P
theorem look1 (y a : Str) (v : Value) : (if y = a then some v else none) = List.lookup y [(a, v)] := by
  rw [List.lookup_cons]
  by_cases h : y = a
  · simp [h]
  · have : (y == a) = false := by simpa using h
    simp [h, this]
theorem look2 (y a b : Str) (v u : Value) : (if y = b then some u else if y = a then some v else none) = List.lookup y [(b, u), (a, v)] := by
  rw [List.lookup_cons]
  by_cases h : y = b
  · simp [h]
  · have : (y == b) = false := by simpa using h
    simp only [if_neg h, this]
    exact look1 y a v

def WPost {σ : Type} (h₀ : Heap) (L : Addr) (s : Shared) (mk : σ → Str → Option Value) (news : List (Addr × Obj)) (P : σ → Prop) (μ : σ → Nat) (Q : Flow → Shared → Prop) (c : σ) (f : Flow) (s₃ : Shared) : Prop :=
  match f with
  | .next | .cont => ∃ c' h' tk, s₃ = { s with heap := h', toks := tk } ∧ Fr h₀ L h' (mk c') ∧ News h₀ L h' news ∧ P c' ∧ μ c' < μ c
  | .brk => Q .next s₃
  | .ret v => Q (.ret v) s₃
theorem wpost_next {σ : Type} {h₀ h' : Heap} {L : Addr} {s : Shared} {mk : σ → Str → Option Value} {m' : Str → Option Value} {news news' : List (Addr × Obj)} {P : σ → Prop} {μ : σ → Nat} {Q : Flow → Shared → Prop} {c : σ} {tk : Nat} (c' : σ)
    (F : Fr h₀ L h' m') (N : News h₀ L h' news') (em : ∀ y, mk c' y = m' y) (hn : ∀ p ∈ news, p ∈ news') (hP : P c') (hm : μ c' < μ c) : WPost h₀ L s mk news P μ Q c .next { s with heap := h', toks := tk } :=
  ⟨c', h', tk, rfl, frCast F em, fun p hp => N p (hn p hp), hP, hm⟩
section
variable {prog : Program} {w : World} {A : Around} {E : Value → Shared → Prop} {Q : Flow → Shared → Prop} {s : Shared} {env : Env} {h₀ : Heap} {L : Addr}
theorem while_mk {σ : Type} {test : Expr} {body : List Stmt} {pos : Pos} {m : Str → Option Value} {news : List (Addr × Obj)} (mk : σ → Str → Option Value) (P : σ → Prop) (μ : σ → Nat) (c₀ : σ)
    (F : Fr h₀ L s.heap m) (N : News h₀ L s.heap news) (hm : mk c₀ = m) (hP : P c₀)
    (turn : ∀ c h tk, P c → Fr h₀ L h (mk c) → News h₀ L h news →
      wpAny (model prog w) A (isTrue test env (eval test env)) (fun b s₂ =>
        if b = true then wpAny (model prog w) A (execs body env) (WPost h₀ L s mk news P μ Q c) E s₂ else Q .next s₂) E { s with heap := h, toks := tk })
    (hE : PassesOwn (model prog w) A env E := by passes_own) :
    wpAny (model prog w) A (exec (.While test body [] pos) env) Q E s := by
  subst hm
  refine While_inv2 (fun n m nx => ∃ c : σ, nx = news ∧ μ c = n ∧ m = mk c ∧ P c) F N ⟨c₀, rfl, rfl, rfl, hP⟩ ?_ hE
  rintro n m₁ nx h tk F₁ N₁ ⟨c, rfl, rfl, rfl, hp⟩
  refine wpAny_mono (turn c h tk hp F₁ N₁) (fun b s₂ p => ?_) fun _ _ x => x
  cases b with
  | false => simpa using p
  | true =>
    simp only [if_true] at p ⊢
    refine wpAny_mono p (fun f s₃ q => ?_) fun _ _ x => x
    cases f with
    | ret v => exact q
    | brk => exact q
    | next =>
      obtain ⟨c', h', tk', rfl, F', N', hp9, hm9⟩ := q
      exact ⟨h', tk', mk c', _, μ c', rfl, F', N', hm9, c', rfl, rfl, rfl, hp9⟩
    | cont =>
      obtain ⟨c', h', tk', rfl, F', N', hp9, hm9⟩ := q
      exact ⟨h', tk', mk c', _, μ c', rfl, F', N', hm9, c', rfl, rfl, rfl, hp9⟩
end

theorem paired_signs {G : Nat → Value → Prop} : ∀ (cs : List Nat) (vs ys : List Value), vs.length = cs.length → (∀ (j : Nat) (v : Value), vs[j]? = some v → ∃ (c : Nat) (u : Tok), cs[j]? = some c ∧ v = Value.str ⟨#[c]⟩ u) →
    Paired (fun v r => ∃ (c : Nat) (u : Tok), v = Value.str ⟨#[c]⟩ u ∧ G c r) vs ys → Paired G cs ys
  | [], [], _, _, _, h => by cases h; exact .nil
  | [], _ :: _, _, hl, _, _ => by cases hl
  | _ :: _, [], _, hl, _, _ => by cases hl
  | c :: cs, v :: vs, _, hl, hg, h => by
    cases h with
    | cons hF ht =>
      obtain ⟨c', u, e1, e2⟩ := hg 0 v rfl
      simp only [List.getElem?_cons_zero, Option.some.injEq] at e1
      subst e1
      obtain ⟨c'', u', e3, hG⟩ := hF
      rw [e2] at e3
      injection e3 with e3 _
      injection e3 with e3
      have : c = c'' := by simpa using e3
      subst this
      exact .cons hG (paired_signs cs vs _ (by simpa using hl) (fun j x hx => by simpa using hg (j + 1) x (by simpa using hx)) ht)
theorem paired_strs {α : Type} {f : α → Str} : ∀ {cs : List α} {ys : List Value}, Paired (fun c r => ∃ t, r = Value.str (f c) t) cs ys → ∃ l, ys = strValues l ∧ l.map (·.1) = cs.map f
  | _, _, .nil => ⟨[], rfl, rfl⟩
  | _, _, .cons (a := c) h ht => by
    obtain ⟨t, rfl⟩ := h
    obtain ⟨l, rfl, e⟩ := paired_strs ht
    exact ⟨(f c, t) :: l, rfl, by simp [e]⟩
section
variable {prog : Program} {w : World} {A : Around} {E : Value → Shared → Prop} {s : Shared} {h₀ : Heap} {L : Addr} {m : Str → Option Value} {news : List (Addr × Obj)} {env : Env}
theorem comp_str {elt iter : Expr} {x : Str} {px : Pos} {scope : Scope} {pos : Pos} {Q : Value → Shared → Prop} (G : Nat → Value → Prop)
    (hh : A.handled = none) (hfree : ∀ y ∈ scope.names, y.2 ≠ .free) (hcell : ∀ y ∈ scope.names, y.2 ≠ .cell) (hkind : scope.kind = .function)
    (hnames : ∀ y ∈ scope.names, y.2 = .local → scope.names.lookup y.1 = some .local) (hx : scope.names.lookup x = some .local)
    (h : wpAny (model prog w) A (eval iter env) (fun xv s₁ => ∃ y t, xv = .str y t ∧ y.length ≤ sizeLine ∧ Fr h₀ L s₁.heap m ∧ News h₀ L s₁.heap news ∧
      (∀ C c u s₂ m₂ E', c ∈ y.cps.toList → Fr h₀ L s₂.heap m → News h₀ L s₂.heap news → s₂.heap.Ns (compEnv scope C env).locals m₂ → m₂ x = some (.str ⟨#[c]⟩ u) → s₁.toks ≤ s₂.toks →
        wpAny (model prog w) A (eval elt (compEnv scope C env)) (fun r s₃ => G c r ∧ Keeps s₂ s₃) E' s₂) ∧
      (∀ D (ys : List Value) h' tk, Fr h₀ L h' m → News h₀ L h' news → h₀.get? D = none → h'.IsList D ys.toArray → NewPlain h' news D ys.toArray → Paired G y.cps.toList ys → Q (.ref D) { s₁ with heap := h', toks := tk })) E s)
    (hs : ∀ x, foldedSetIterable iter env x = pure x) :
    wpAny (model prog w) A (eval (.ListComp elt [⟨.Name x px, iter, [], 0⟩] scope pos) env) Q E s := by
  refine wpAny_ListComp_walk (fun _ => true) (fun v r => ∃ c u, v = .str ⟨#[c]⟩ u ∧ G c r) hfree hcell hkind hnames hx
    (wpAny_mono h (fun xv s₁ h₁ => ?_) fun _ _ e => e) hs
  obtain ⟨y, t, rfl, hsz, F, N, helt, hQ⟩ := h₁
  refine wpAny_pyIter_str fun o St W hst => ?_
  have up : ∀ (h' : Heap), (∀ b o', b ∉ [s₁.heap.objs.size] → (s₁.heap.push o).get? b = some o' → h'.get? b = some o') → ∀ b o', s₁.heap.get? b = some o' → h'.get? b = some o' :=
    fun h' hk b o' e => hk b o' (old_not_new e) (Heap.get?_push_of_some _ e)
  refine ⟨s₁.heap.objs.size, [s₁.heap.objs.size], [s₁.heap.objs.size], y.cps.size, SignAt y, St, rfl, W A hh, hsz, hst, ?_, ⟨?_, ?_⟩, ?_⟩
  · intro b hb
    show b < (s₁.heap.push o).objs.size
    rw [Heap.size_push, List.mem_singleton.mp hb]
    exact Nat.lt_succ_self _
  · intro C i v s₃ m₃ E' hP hn hm _ _
    exact wpAny_pure ⟨rfl, s₃.heap, s₃.toks, rfl, fun _ _ e => e⟩
  · intro C i v s₃ m₃ E' hP _ hn hm hk htk
    obtain ⟨c, u, hc, rfl⟩ := hP
    exact wpAny_mono (helt C c u s₃ m₃ E' (List.mem_of_getElem? (by simpa using hc)) (F.keeps (up _ hk)) (N.grown (up _ hk)) hn hm htk) (fun r s₄ h₄ => ⟨⟨c, u, rfl, h₄.1⟩, h₄.2⟩) fun _ _ e => e
  · intro D h' tk ys vs hnew hlD hplD hlen hP hF hk
    rw [List.filter_eq_self.mpr (fun _ _ => rfl)] at hF
    refine hQ D ys.toList h' tk (F.keeps (up h' hk)) (N.grown (up h' hk)) ?_ (by rw [Array.toArray_toList]; exact hlD) ⟨by rw [Array.toArray_toList]; exact hplD, fun p hp e => by rw [← e, Heap.get?_push_of_some _ (N p hp).1] at hnew; cases hnew⟩
      (paired_signs _ _ _ (by rw [hlen]; simp) (fun j v hv => by obtain ⟨c, u, hc, e⟩ := hP j v hv; exact ⟨c, u, by simpa using hc, e⟩) hF)
    cases e : h₀.get? D with
    | none => rfl
    | some o' => rw [Heap.get?_push_of_some _ (F.keep _ _ e)] at hnew; cases hnew
end
end Mine
namespace Mine
local macro_rules | `(tactic| walk_at "eval ListComp") => `(tactic| (k_here; with_reducible refine Stop.intro ?_))
local macro_rules | `(tactic| walk_at "execs cons") => `(tactic| (k_here; (with_reducible refine wpAny_execs_cons ?_); (try dsimp only)))
def esc1 (c : Nat) : List Nat := if c = 34 ∨ c = 92 then [92, c] else [c]
def dbl : List Nat → List Nat := StrLaws.dbl 34
def esc (l : List Nat) : List Nat := l.flatMap esc1
def layS (v : Str) (k : Int) : Str := ⟨(if k = 0 then dbl v.cps.toList else esc v.cps.toList).toArray⟩
theorem join_esc (v : Str) (k : Int) (hk : k ≠ 0) : Txt.join (Str.ofString "") (v.cps.toList.map fun c => (⟨(esc1 c).toArray⟩ : Str)) = layS v k := by
  apply Str.ext'
  apply Array.ext'
  rw [join_cps]
  unfold layS
  rw [if_neg hk]
  simp [List.flatMap_map, esc]
theorem in_marks (c : Nat) : (Builtin.Str.occurrences (Str.ofString "\"\\") ⟨#[c]⟩ 0 (Str.ofString "\"\\").length 1).isEmpty = !decide (c = 34 ∨ c = 92) := by
  have h := StrLaws.found_one (Str.ofString "\"\\") c
  rw [show (Str.ofString "\"\\").cps = #[34, 92] from by decide +kernel] at h
  rw [← Bool.not_not (List.isEmpty _), h]
  simp
theorem esc_weight : ∀ l : List Nat, ((l.map fun c => (⟨(esc1 c).toArray⟩ : Str)).map (·.length)).sum ≤ 2 * l.length
  | [] => by simp
  | c :: r => by
    have := esc_weight r
    have h1 : (⟨(esc1 c).toArray⟩ : Str).length ≤ 2 := by
      unfold esc1
      split <;> simp [Str.length]
    simp only [List.map_cons, List.sum_cons, List.length_cons]
    omega
set_option maxHeartbeats 8000000 in
theorem c_lay (w : World) (loose : List Str) (mean : ExcName → Option Value) (mg mb : Str → Option Value) (news : List (Addr × Obj)) (v : Str) (t : Tok) (k : Int) (t2 : Tok) :
    CbClaim PySem.Challenge.rw_wf0005_01.row.prog w (wfhd.heap_39 w.params) wfhd.view_39 loose mean mg mb 79 news [] (v.length ≤ 300000) [.str v t, .int k t2] (fun t => .str (layS v k) t) := by
  k_fill
  dsimp only [CbClaim, CbLists, CbRet]
  intros; rename_i hv _ _ hret
  refine wpAny_call ?_
  k_dflt cell_enter
  k_steps
  · have e : Txt.replace v (Str.ofString "\"") (Str.ofString "\"\"") = layS v k := by
      unfold layS
      rw [if_pos (by assumption)]
      have := StrLaws.replace_double v 34
      apply Str.ext'
      apply Array.ext'
      rw [show Str.ofString "\"" = (⟨#[34]⟩ : Str) from by decide +kernel, show Str.ofString "\"\"" = (⟨#[34, 34]⟩ : Str) from by decide +kernel, this]
      rfl
    rw [e]
    apply hret <;> assumption
  · refine Stop.out ?_
    rename Fr _ _ _ _ => F
    rename News _ _ _ _ => N
    (with_unfolding_all refine' comp_str (fun c r => Sealed (∃ t, r = Value.str ⟨(esc1 c).toArray⟩ t)) rfl ?c1 ?c2 rfl ?c3 rfl ?h ?hs)
    case c1 => decide
    case c2 => decide
    case c3 => decide
    case hs => intro _; rfl
    case h =>
      (with_unfolding_all refine' ld F (v := Value.str v t) rfl ?_ rfl rfl (by decide))
      refine ⟨v, t, rfl, by rw [sizeLine_eq]; omega, F, N, ?elt, ?fin⟩
      case elt =>
        clear F N
        intro C c u s₂ m₂ E' hc F N hn hm htk
        k_steps
        all_goals first | exact ⟨_, _, rfl, fun _ _ e => e⟩ | skip
        · rename List.isEmpty _ = true => hE
          rw [in_marks] at hE
          have e : esc1 c = [c] := by
            unfold esc1
            rw [if_neg (by simpa using hE)]
          rw [e]
          exact ⟨u, rfl⟩
        · rename List.isEmpty _ = false => hE
          rw [in_marks] at hE
          have e : esc1 c = [92] ++ [c] := by
            unfold esc1
            rw [if_pos (by cases hd : decide (c = 34 ∨ c = 92) with | true => exact of_decide_eq_true hd | false => rw [hd] at hE; cases hE)]
            rfl
          rw [e, ← strApp]
          exact ⟨_, rfl⟩
      case fin =>
        clear F N
        intro D ys h' tk F N hD hl hpl hp
        obtain ⟨l, rfl, el⟩ := paired_strs (f := fun c => ⟨(esc1 c).toArray⟩) hp
        dsimp only
        k_steps
        refine SC.join hl el (joinOk_of_weight ?_ (by decide +kernel)) ?_
        · have := esc_weight v.cps.toList
          have e : v.cps.toList.length = v.length := by simp [Str.length]
          rw [List.length_map]
          omega
        · intro t' k'
          rw [join_esc v k (by assumption)]
          k_steps
          apply hret <;> first | assumption | exact cb_drop (by assumption) (fun p hp => List.mem_cons_of_mem _ hp)
end Mine
namespace Mine
def numF (v : Int) : Int :=
  let n := Int.fdiv v 32
  let n := if Int.fmod (Int.fdiv v 16) 2 = 1 then 64 * n + 28 else n
  if Int.fmod (Int.fdiv v 8) 2 = 1 then 64 * n + 34 else n
set_option maxHeartbeats 8000000 in
theorem c_number (w : World) (loose : List Str) (mean : ExcName → Option Value) (mg mb : Str → Option Value) (news : List (Addr × Obj)) (v : Int) (t : Tok) :
    CbClaim PySem.Challenge.rw_wf0005_01.row.prog w (wfhd.heap_39 w.params) wfhd.view_39 loose mean mg mb 67 news [] True [.int v t] (fun t => .int (numF v) t) := by
  k_fill
  dsimp only [CbClaim, CbLists, CbRet]
  intros; rename_i hret
  refine wpAny_call ?_
  k_dflt cell_enter
  k_steps
  all_goals (
    have hret' := fun t h' tk' F N => hret t h' tk' F N
    dsimp only [numF] at hret'
    simp only [*, if_true, if_false, ne_eq, not_true_eq_false, not_false_eq_true, if_pos, if_neg] at hret'
    apply hret' <;> assumption)
end Mine
namespace Mine
def hi (n : Nat) : List Nat := if h : n = 0 then [] else hi (n / 64) ++ [64 + n % 64]
termination_by n
decreasing_by omega
def sg (n : Nat) : List Nat := hi (n / 64) ++ [n % 64]
theorem hi_len : ∀ (k n : Nat), n < 64 ^ k → (hi n).length ≤ k
  | 0, n, h => by
    have : n = 0 := by simpa using h
    subst this
    rw [hi.eq_1, dif_pos rfl]
    simp
  | k + 1, n, h => by
    by_cases h0 : n = 0
    · rw [hi.eq_1, dif_pos h0]; simp
    · rw [hi.eq_1, dif_neg h0, List.length_append]
      have : n / 64 < 64 ^ k := by
        rw [Nat.pow_succ] at h
        exact Nat.div_lt_of_lt_mul (by omega)
      have := hi_len k _ this
      simp only [List.length_cons, List.length_nil]
      omega
theorem sg_len {n : Nat} (h : n < 2 ^ 40) : (sg n).length ≤ 8 := by
  unfold sg
  have := hi_len 7 (n / 64) (by omega)
  simp only [List.length_append, List.length_cons, List.length_nil]
  omega
def sgS (v : Int) : Str := ⟨(sg v.toNat).toArray⟩
local macro_rules | `(tactic| walk_at "exec While Compare cons nil") => `(tactic| (k_here; with_reducible refine Stop.intro ?_))
local macro_rules | `(tactic| walk_at "exec While") => `(tactic| (k_here; with_reducible refine Stop.intro ?_))
set_option maxHeartbeats 8000000 in
theorem c_signs (w : World) (loose : List Str) (mean : ExcName → Option Value) (mg mb : Str → Option Value) (news : List (Addr × Obj)) (v : Int) (t : Tok) :
    CbClaim PySem.Challenge.rw_wf0005_01.row.prog w (wfhd.heap_39 w.params) wfhd.view_39 loose mean mg mb 74 news [] (0 ≤ v ∧ v < 2^40) [.int v t] (fun t => .str (sgS v) t) := by
  k_fill
  dsimp only [CbClaim, CbLists, CbRet]
  intros; rename_i hv _ _ hret
  refine wpAny_call ?_
  k_dflt cell_enter
  k_steps
  refine Stop.out ?_
  rename Fr _ _ _ _ => F
  rename News _ _ _ _ => N
  (with_unfolding_all refine' while_mk (fun (c : Nat × List Nat × Tok × Tok) y => if y = Str.ofString "signs" then some (.str ⟨c.2.1.toArray⟩ c.2.2.1) else if y = Str.ofString "number" then some (.int (c.1 : Int) c.2.2.2) else none) (fun c => hi (c.1 / 64) ++ c.2.1 = sg v.toNat) (fun c => c.1) (v.toNat, [v.toNat % 64], _, t) F N ?hm ?hP ?turn ?hE)
  case hm =>
    funext y
    by_cases h1 : y = Str.ofString "signs"
    · rw [if_pos h1, if_pos h1, show [v.toNat % 64].toArray = #[(v.fmod 64).toNat] from by rw [Int.fmod_eq_emod_of_nonneg _ (by decide)]; simp; omega]
    · rw [if_neg h1, if_neg h1]
      have e : ((v.toNat : Nat) : Int) = v := by omega
      dsimp only
      rw [e]
      with_unfolding_all exact look1 y _ _
  case hP => 
    dsimp only
    rfl
  case hE => passes_own
  case turn =>
    clear F N
    rintro ⟨n, l, t1, t2⟩ h tk hc1 F N
    dsimp only at F hc1 ⊢
    have hc3 : l.length ≤ 8 := by
      have := sg_len (n := v.toNat) (by omega)
      rw [← hc1, List.length_append] at this
      omega
    k_steps
    · rename Fr _ _ _ _ => F9
      rename News _ _ _ _ => N9
      rename 64 ≤ (n : Int) => h64
      have e1 : ((n : Int).fdiv 64) = ((n / 64 : Nat) : Int) := by rw [Int.fdiv_eq_ediv_of_nonneg _ (by decide)]; omega
      have e2 : (64 + ((n : Int).fdiv 64).fmod 64).toNat = 64 + n / 64 % 64 := by rw [e1, Int.fmod_eq_emod_of_nonneg _ (by decide)]; omega
      (with_unfolding_all refine' wpost_next (n / 64, (64 + n / 64 % 64) :: l, _, _) F9 N9 ?em (fun _ h => h) ?hP ?hm)
      case em =>
        intro y
        dsimp only
        by_cases h1 : y = Str.ofString "signs"
        · rw [if_pos h1, if_pos h1, e2]
          exact congrArg (fun x => some (Value.str x _)) (strApp [_] l).symm
        · rw [if_neg h1, if_neg h1]
          by_cases h2 : y = Str.ofString "number"
          · rw [if_pos h2, if_pos h2, e1]
          · rw [if_neg h2, if_neg h2, if_neg h1, if_neg h2]
      case hP =>
        rw [← hc1, hi.eq_1 (n / 64), dif_neg (by omega), List.append_assoc]
        rfl
      case hm => dsimp only; omega
    · rename ¬ 64 ≤ (n : Int) => h64
      have e0 : n / 64 = 0 := by omega
      rw [e0, hi.eq_1, dif_pos rfl, List.nil_append] at hc1
      rw [hc1]
      apply hret <;> assumption
end Mine
namespace Mine
local macro_rules | `(tactic| walk_at "exec While Compare cons nil") => `(tactic| (k_here; with_reducible refine Stop.intro ?_))
local macro_rules | `(tactic| walk_at "exec While") => `(tactic| (k_here; with_reducible refine Stop.intro ?_))
local macro_rules | `(tactic| walk_at "execs cons") => `(tactic| (k_here; (with_reducible refine wpAny_execs_cons ?_); (try dsimp only)))
def rd0 : List Nat → List Nat
  | [] => []
  | [c] => if c = 34 then [] else [c]
  | c :: d :: r => if c = 34 then (if d = 34 then 34 :: rd0 r else []) else c :: rd0 (d :: r)
theorem rd0_ne {c : Nat} (h : c ≠ 34) (l : List Nat) : rd0 (c :: l) = c :: rd0 l := by
  cases l with
  | nil => simp [rd0, h]
  | cons d r => simp [rd0, h]
theorem item_of {r : Str} {i : Nat} (h : i < r.length) : ∃ c, Txt.item r (i : Int) = ⟨#[c]⟩ ∧ r.cps.toList.drop i = c :: r.cps.toList.drop (i + 1) := by
  have hl : i < r.cps.toList.length := by simpa [Str.length] using h
  refine ⟨r.cps.toList[i], item_meets (by omega) ?_, List.drop_eq_getElem_cons hl⟩
  have : ((i : Int)).toNat = i := by omega
  rw [this]
  simp at hl
  simp [hl]
theorem one_eq {c : Nat} : ((⟨#[c]⟩ : Str) == Str.ofString "\"") = decide (c = 34) := by
  rw [show Str.ofString "\"" = (⟨#[34]⟩ : Str) from by decide +kernel, Bool.eq_iff_iff]
  simp
theorem one_ne {c : Nat} : ((⟨#[c]⟩ : Str) != Str.ofString "\"") = !decide (c = 34) := by
  rw [bne, one_eq]
set_option maxHeartbeats 8000000 in
theorem c_parse (w : World) (loose : List Str) (mean : ExcName → Option Value) (mg mb : Str → Option Value) (news : List (Addr × Obj)) (r : Str) (t : Tok) (x : List Nat) :
    CbClaim PySem.Challenge.rw_wf0005_01.row.prog w (wfhd.heap_39 w.params) wfhd.view_39 loose mean mg mb 46 news [] (r.cps.toList = [50, 53, 55, 32, 34] ++ x ∧ r.length ≤ 400000) [.str r t] (fun t => .str ⟨(rd0 x).toArray⟩ t) := by
  k_fill
  dsimp only [CbClaim, CbLists, CbRet]
  intros; rename_i hv _ _ hret
  obtain ⟨hr, hlen⟩ := hv
  have e1 : Txt.slice r none (some 3) = Str.ofString "257" := by
    have hl : r.cps.toList.length = 5 + x.length := by rw [hr]; simp; omega
    show StrLaws.sliceText r none (some 3) = _
    rw [StrLaws.sliceText_to ⟨by omega, by omega⟩, hr]
    exact (by decide +kernel : (⟨[50, 53, 55].toArray⟩ : Str) = Str.ofString "257")
  have e2 : Txt.slice r (some 3) (some 5) = Str.ofString " \"" := by
    have hl : r.cps.toList.length = 5 + x.length := by rw [hr]; simp; omega
    show StrLaws.sliceText r (some 3) (some 5) = _
    rw [StrLaws.sliceText_plain ⟨by omega, by omega, by omega⟩, hr]
    exact (by decide +kernel : (⟨[32, 34].toArray⟩ : Str) = Str.ofString " \"")
  refine wpAny_call ?_
  k_dflt cell_enter
  k_steps
  · exfalso
    rename (Txt.slice r none (some 3) != _) = true => hE
    rw [e1] at hE
    revert hE
    decide +kernel
  · exfalso
    rename (Txt.slice r (some 3) (some 5) != _) = true => hE
    rw [e2] at hE
    revert hE
    decide +kernel
  refine Stop.out ?_
  rename Fr _ _ _ _ => F
  rename News _ _ _ _ => N
  (with_unfolding_all refine' while_mk (fun (c : Nat × List Nat × Option Value × Tok × Tok) y => if y = Str.ofString "c" then c.2.2.1 else if y = Str.ofString "n" then some (.int (r.length : Int) _) else if y = Str.ofString "i" then some (.int (c.1 : Int) c.2.2.2.1) else if y = Str.ofString "dirname" then some (.str ⟨c.2.1.toArray⟩ c.2.2.2.2) else if y = Str.ofString "resp" then some (.str r t) else none) (fun c => 5 ≤ c.1 ∧ c.1 ≤ r.length ∧ c.2.1 ++ rd0 (r.cps.toList.drop c.1) = rd0 x ∧ c.2.1.length ≤ c.1) (fun c => r.length - c.1) (5, [], none, _, _) F N ?hm ?hP ?turn ?hE)
  case hm =>
    funext y
    dsimp only
    by_cases h1 : y = Str.ofString "n"
    · subst h1
      rw [if_neg (by decide +kernel), if_pos rfl, if_pos rfl]
    rw [if_neg h1, if_neg h1]
    by_cases h2 : y = Str.ofString "i"
    · subst h2
      rw [if_neg (by decide +kernel), if_pos rfl, if_pos rfl]
      rfl
    rw [if_neg h2, if_neg h2]
    by_cases h3 : y = Str.ofString "dirname"
    · subst h3
      rw [if_neg (by decide +kernel), if_pos rfl, if_pos rfl]
      rw [show Str.ofString "" = (⟨[].toArray⟩ : Str) from by decide +kernel]
    rw [if_neg h3, if_neg h3]
    by_cases h4 : y = Str.ofString "c"
    · subst h4
      rw [if_pos rfl]
      with_unfolding_all rfl
    rw [if_neg h4]
    with_unfolding_all exact look1 y _ _
  case hP =>
    dsimp only
    have hl : r.length = 5 + x.length := by
      show r.cps.size = _
      rw [← Array.length_toList, hr]
      simp; omega
    refine ⟨by omega, by omega, ?_, by simp⟩
    rw [hr]
    rfl
  case hE => passes_own
  case turn =>
    clear F N
    rintro ⟨i, acc, cv, t1, t2⟩ h tk ⟨hi5, hin, hacc, hal⟩ F N
    dsimp only at F hi5 hin hacc hal ⊢
    have hii : ∀ (hin' : (i : Int) < r.length), ∃ c, Txt.item r (i : Int) = ⟨#[c]⟩ ∧ r.cps.toList.drop i = c :: r.cps.toList.drop (i + 1) := fun h => item_of (by omega)
    have hii2 : ∀ (hin' : ¬ (r.length : Int) ≤ (i : Int) + 1), ∃ c, Txt.item r ((i : Int) + 1) = ⟨#[c]⟩ ∧ r.cps.toList.drop (i + 1) = c :: r.cps.toList.drop (i + 2) := fun h => item_of (i := i + 1) (by omega)
    k_steps
    · obtain ⟨c, e3, e4⟩ := hii (by assumption)
      rename (Txt.item r (i : Int) == _) = true => hq
      rename (r.length : Int) ≤ (i : Int) + 1 => hl
      rw [e3, one_eq, decide_eq_true_eq] at hq
      have e5 : r.cps.toList.drop (i + 1) = [] := List.drop_eq_nil_of_le (by simp [Str.length] at hl ⊢; omega)
      rw [e4, e5, hq] at hacc
      have e6 : acc = rd0 x := by rw [← hacc]; simp [rd0]
      dsimp only [WPost]
      k_steps
      rw [e6]
      apply hret <;> assumption
    · obtain ⟨c, e3, e4⟩ := hii (by assumption)
      obtain ⟨d, e7, e8⟩ := hii2 (by assumption)
      rename (Txt.item r (i : Int) == _) = true => hq
      rename (Txt.item r ((i : Int) + 1) != _) = true => hq2
      rw [e3, one_eq, decide_eq_true_eq] at hq
      rw [e7, one_ne, Bool.not_eq_true', decide_eq_false_iff_not] at hq2
      rw [e4, e8, hq] at hacc
      have e6 : acc = rd0 x := by rw [← hacc]; simp [rd0, hq2]
      dsimp only [WPost]
      k_steps
      rw [e6]
      apply hret <;> assumption
    · obtain ⟨c, e3, e4⟩ := hii (by assumption)
      obtain ⟨d, e7, e8⟩ := hii2 (by assumption)
      rename (Txt.item r (i : Int) == _) = true => hq
      rename (Txt.item r ((i : Int) + 1) != _) = false => hq2
      rename (i : Int) < _ => hlt
      rename ¬ (r.length : Int) ≤ (i : Int) + 1 => hlt2
      rename Fr _ _ _ _ => F9
      rename News _ _ _ _ => N9
      rw [e3, one_eq, decide_eq_true_eq] at hq
      rw [e7, one_ne, Bool.not_eq_false', decide_eq_true_eq] at hq2
      rw [e4, e8, hq, hq2] at hacc
      rw [e3, hq] at F9
      (with_unfolding_all refine' wpost_next (i + 2, acc ++ [34], _, _, _) F9 N9 ?em (fun _ h => h) ?hP ?hm)
      case em =>
        intro y
        dsimp only
        by_cases h1 : y = Str.ofString "dirname"
        · subst h1
          rw [if_neg (by decide +kernel), if_neg (by decide +kernel), if_neg (by decide +kernel), if_pos rfl, if_pos rfl]
          exact congrArg (fun x => some (Value.str x _)) (strApp acc [_]).symm
        rw [if_neg h1, if_neg h1]
        by_cases h2 : y = Str.ofString "i"
        · subst h2
          rw [if_neg (by decide +kernel), if_neg (by decide +kernel), if_pos rfl, if_pos rfl]
          rfl
        rw [if_neg h2, if_neg h2, if_neg h2]
        by_cases h3 : y = Str.ofString "c"
        · rw [if_pos h3, if_pos h3]
        rw [if_neg h3, if_neg h3, if_neg h3, if_neg h2, if_neg h1]
      case hP =>
        refine ⟨?_, ?_, ?_, ?_⟩ <;> dsimp only
        · omega
        · omega
        · rw [← hacc]; simp [rd0]
        · simp; omega
      case hm => dsimp only; omega
    · obtain ⟨c, e3, e4⟩ := hii (by assumption)
      rename (Txt.item r (i : Int) == _) = false => hq
      rename (i : Int) < _ => hlt
      rename Fr _ _ _ _ => F9
      rename News _ _ _ _ => N9
      rw [e3, one_eq, decide_eq_false_iff_not] at hq
      rw [e4, rd0_ne hq] at hacc
      rw [e3] at F9
      (with_unfolding_all refine' wpost_next (i + 1, acc ++ [c], _, _, _) F9 N9 ?em (fun _ h => h) ?hP ?hm)
      case em =>
        intro y
        dsimp only
        by_cases h1 : y = Str.ofString "dirname"
        · subst h1
          rw [if_neg (by decide +kernel), if_neg (by decide +kernel), if_neg (by decide +kernel), if_pos rfl, if_pos rfl]
          exact congrArg (fun x => some (Value.str x _)) (strApp acc [_]).symm
        rw [if_neg h1, if_neg h1]
        by_cases h2 : y = Str.ofString "i"
        · subst h2
          rw [if_neg (by decide +kernel), if_neg (by decide +kernel), if_pos rfl, if_pos rfl]
          rfl
        rw [if_neg h2, if_neg h2]
        by_cases h3 : y = Str.ofString "c"
        · rw [if_pos h3, if_pos h3]
        rw [if_neg h3, if_neg h3, if_neg h3, if_neg h2, if_neg h1]
      case hP =>
        refine ⟨?_, ?_, ?_, ?_⟩ <;> dsimp only
        · omega
        · omega
        · rw [← hacc]; simp
        · simp; omega
      case hm => dsimp only; omega
    · rename ¬ (i : Int) < _ => hlt
      have e5 : r.cps.toList.drop i = [] := List.drop_eq_nil_of_le (by simp [Str.length] at hlt ⊢; omega)
      rw [e5] at hacc
      have e6 : acc = rd0 x := by rw [← hacc]; simp [rd0]
      rw [e6]
      apply hret <;> assumption
end Mine
namespace Mine
section
variable {prog : Program} {w : World} {A : Around} {R : GenEnd} {Y : Protocol} {n : Nat} {s₀ : Shared} {c : Code} {fs : List Frame} {s : Shared} {env : Env}
  {K : Flow → Sem Fin} {H : Value → Sem Fin} {gd : Bool → Bool} {lv : List Value → List Value}

theorem seg_stmt {st : Stmt} (h : wpAny (model prog w) (A.over c fs) (exec st env) (fun f s' => Seg (model prog w) A R Y n s₀ c (K f) fs s') (fun x s' => Seg (model prog w) A R Y n s₀ c (H x) fs s') s) :
    Seg (model prog w) A R Y n s₀ c ((exec st env).wrap K H gd lv) fs s := seg_wrap h

theorem seg_If {test : Expr} {body orelse : List Stmt} {pos : Pos}
    (h : wpAny (model prog w) (A.over c fs) (isTrue test env (eval test env)) (fun b s' =>
        if b = true then Seg (model prog w) A R Y n s₀ c ((execs body env).wrap K H gd lv) fs s' else Seg (model prog w) A R Y n s₀ c ((execs orelse env).wrap K H gd lv) fs s')
      (fun x s' => Seg (model prog w) A R Y n s₀ c (H x) fs s') s) :
    Seg (model prog w) A R Y n s₀ c ((exec (.If test body orelse pos) env).wrap K H gd lv) fs s := by
  rw [exec_If]
  show Seg _ A R Y n s₀ c (.at pos fun _ => (isTrue test env (eval test env) >>= fun b => if b = true then execs body env else execs orelse env).wrap K H gd lv) fs s
  refine seg_at ?_
  rw [Sem.bind_eq_wrap', Sem.wrap_wrap]
  refine seg_wrap (wpAny_mono h (fun b s' hb => ?_) fun _ _ x => x)
  cases b with
  | true => simpa using hb
  | false => simpa using hb

theorem seg_For {target iter : Expr} {body orelse : List Stmt} {pos : Pos}
    (h : wpAny (model prog w) (A.over c fs) (eval iter env) (fun x s₁ => wpAny (model prog w) (A.over c fs) (pyIter x) (fun it s₂ =>
        ∀ kap : Result → Sem Fin, (∀ f, kap (.ok f) = K f) → ∀ p l, Seg (model prog w) A R Y n s₀ (.forLoop target it body orelse env) ((model prog w).den (.forLoop target it body orelse env)) (.ret kap none (gd false) l c p [] :: fs) s₂)
        (fun x s' => Seg (model prog w) A R Y n s₀ c (H x) fs s') s₁) (fun x s' => Seg (model prog w) A R Y n s₀ c (H x) fs s') s)
    (hs : ∀ x, foldedSetIterable iter env x = pure x := by intro _; rfl) :
    Seg (model prog w) A R Y n s₀ c ((exec (.For target iter body orelse pos) env).wrap K H gd lv) fs s := by
  rw [exec_For]
  show Seg _ A R Y n s₀ c (.at pos fun _ => (eval iter env >>= fun x => foldedSetIterable iter env x >>= fun x => standAt iter.pos >>= fun _ => holding [x] (pyIter x) >>= fun it => runOwn (.forLoop target it body orelse env) env).wrap K H gd lv) fs s
  refine seg_at ?_
  rw [Sem.bind_eq_wrap', Sem.wrap_wrap]
  refine seg_wrap (wpAny_mono h (fun x s₁ h₁ => ?_) fun _ _ x => x)
  rw [hs x]
  show Seg _ A R Y n s₀ c (.at iter.pos fun _ => (holding [x] (pyIter x) >>= fun it => runOwn (.forLoop target it body orelse env) env).wrap K H _ _) fs s₁
  refine seg_at ?_
  rw [Sem.bind_eq_wrap', Sem.wrap_wrap]
  refine seg_wrap (wpAny_holding (wpAny_mono h₁ (fun it s₂ h₂ => ?_) fun _ _ x => x))
  refine seg_call fun p => ?_
  exact h₂ _ (fun _ => rfl) p _

theorem seg_forLoop {target : Expr} {it : Value} {body orelse : List Stmt}
    (h : wpAny (model prog w) (A.over (.forLoop target it body orelse env) fs) (pyNext it) (fun r s' => match r with
      | none => Seg (model prog w) A R Y n s₀ (.block orelse env) ((model prog w).den (.block orelse env)) fs s'
      | some v => wpAny (model prog w) (A.over (.forLoop target it body orelse env) fs) (letOwnedTupleGo target it v) (fun _ s₂ =>
          wpAny (model prog w) (A.over (.forLoop target it body orelse env) fs) (assign target env v) (fun _ s₃ =>
            ∀ H' : Value → Sem Fin, Seg (model prog w) A R Y n s₀ (.forLoop target it body orelse env) ((execs body env).wrap (fun f => match f with
              | .next | .cont => .pure (.again (.forLoop target it body orelse env))
              | .brk => .pure (.done .next)
              | .ret v => .pure (.done (.ret v))) H' id id) fs s₃) (fun _ _ => False) s₂) (fun _ _ => False) s') (fun _ _ => False) s) :
    Seg (model prog w) A R Y n s₀ (.forLoop target it body orelse env) ((model prog w).den (.forLoop target it body orelse env)) fs s := by
  show Seg _ A R Y n s₀ _ ((forTurn target it body orelse env).onRaise (fun x => do noteFrame x env; theTreesLotGoes x)) fs s
  unfold forTurn
  rw [Sem.onRaise_eq_wrap]
  show Seg _ A R Y n s₀ _ (.at target.pos fun _ => Sem.wrap _ _ _ _ ((pyNext it).onRaise (fun _ => standAt { target.pos with line := 0 }) >>= _)) fs s
  refine seg_at ?_
  rw [Sem.bind_eq_wrap', Sem.wrap_wrap]
  refine seg_wrap (wpAny_onRaise (wpAny_mono h (fun r s' hr => ?_) fun _ _ x => x.elim))
  cases r with
  | none => exact seg_again rfl hr
  | some v =>
    show Seg _ A R Y n s₀ _ (Sem.wrap _ _ _ _ (letOwnedTupleGo target it v >>= _)) fs s'
    rw [Sem.bind_eq_wrap', Sem.wrap_wrap]
    refine seg_wrap (wpAny_mono hr (fun _ s₂ h₂ => ?_) fun _ _ x => x.elim)
    show Seg _ A R Y n s₀ _ (Sem.wrap _ _ _ _ (assign target env v >>= _)) fs s₂
    rw [Sem.bind_eq_wrap', Sem.wrap_wrap]
    refine seg_wrap (wpAny_mono h₂ (fun _ s₃ h₃ => ?_) fun _ _ x => x.elim)
    show Seg _ A R Y n s₀ _ (Sem.wrap _ _ _ _ (execs body env >>= _)) fs s₃
    rw [Sem.bind_eq_wrap', Sem.wrap_wrap]
    rw [Sem.wrap_congr (execs body env) _ _ (K' := fun f => match f with
              | .next | .cont => .pure (.again (.forLoop target it body orelse env))
              | .brk => .pure (.done .next)
              | .ret v => .pure (.done (.ret v))) (fun f => by cases f <;> rfl) (fun _ => rfl)]
    exact h₃ _

theorem seg_block0 {k : Result → Sem Fin} {g : Bool} {l : List Value} {c₁ : Code} {p₁ : Pos} {kp : List Value}
    (h : Seg (model prog w) A R Y n s₀ c₁ (k (.ok .next)) fs s) :
    Seg (model prog w) A R Y n s₀ (.block [] env) ((model prog w).den (.block [] env)) (.ret k none g l c₁ p₁ kp :: fs) s := by
  show Seg _ A R Y n s₀ _ (leafOf (.ok .next)) (.ret k none g l c₁ p₁ kp :: fs) s
  exact seg_leaf (.ok .next) h
end
end Mine
namespace Mine
theorem ltSz {h : Heap} {b : Nat} {o : Obj} (e : h.get? b = some o) : b < h.objs.size := Heap.lt_size e
/-- what a resumed generator leaves alone: all below top, and the consumer's own C, D, a -/
def Since (H0 : Heap) (C D a : Addr) (s₀ s' : Shared) : Prop :=
  (∃ h tk, s' = { s₀ with heap := h, toks := tk }) ∧ (∀ b o, H0.get? b = some o → s'.heap.get? b = some o) ∧ ∀ b o, (b = C ∨ b = D ∨ b = a) → s₀.heap.get? b = some o → s'.heap.get? b = some o
def KeepBut (C D : Nat) (h h' : Heap) : Prop := ((∃ o, h'.get? C = some o) ∧ ∃ o, h'.get? D = some o) ∧ ∀ b o, b ≠ C → b ≠ D → h.get? b = some o → h'.get? b = some o
theorem KeepBut.refl {C D : Nat} {h : Heap} (hC : ∃ o, h.get? C = some o) (hD : ∃ o, h.get? D = some o) : KeepBut C D h h := ⟨⟨hC, hD⟩, fun _ _ _ _ e => e⟩
theorem nsThere {C : Nat} {h : Heap} {m : Str → Option Value} (hn : h.Ns C m) : ∃ o, h.get? C = some o := let ⟨o, _, _, ho, _⟩ := hn; ⟨o, ho⟩
theorem plThere {D : Nat} {h : Heap} {items : Array Value} (hn : h.PlainList D items) : ∃ o, h.get? D = some o := let ⟨_, ho⟩ := hn; ⟨_, ho⟩
def Rg (H0 : Heap) (C D a : Addr) : GenEnd := fun n s₀ r s' => r = .ok (.ret .none) ∧ n = 0 ∧ Since H0 C D a s₀ s'
def Yg (us : List (List Nat)) (H0 : Heap) (C D a : Addr) : Protocol := fun n s₀ v s' kap =>
  ∃ T p u tp tu, v = .ref T ∧ T ≠ C ∧ T ≠ D ∧ s'.heap.IsTuple T #[.int p tp, .str ⟨u.toArray⟩ tu] ∧ us[us.length - 1 - n]? = some u ∧ Since H0 C D a s₀ s' ∧
    ∀ s'' : Shared, KeepBut C D s'.heap s''.heap → kap (.send .none) s''
section
variable {prog : Program} {w : World} {A : Around} {E : Value → Shared → Prop} {s : Shared}
theorem letGo_gen {elts : List Expr} {k : Nat} {pos : Pos} {a T g : Addr} {Q : Unit → Shared → Prop} (hg : s.heap.IsGen a g) (h : Q () s) :
    wpAny (model prog w) A (letOwnedTupleGo (.Tuple elts k pos) (.ref a) (.ref T)) Q E s := by
  obtain ⟨o, nm, qn, ho, hc, hd, _⟩ := hg
  unfold letOwnedTupleGo
  refine wpAny_bind (wpAny_load ho ?_)
  rw [hc, hd]
  dsimp only
  rw [if_neg (by simp)]
  exact wpAny_pure h

theorem assign_two {env : Env} {x1 x2 : Str} {p1 p2 pos : Pos} {k : Nat} {T : Addr} {v1 v2 : Value} {C : Addr} {m : Str → Option Value} {Q : Unit → Shared → Prop} (hh : A.handled = none) (hC : env.locals = C)
    (hx1 : env.kindOf x1 = some .local) (hx2 : env.kindOf x2 = some .local) (hp : (env.scope.kind == .class || (env.scope.kind == .module && env.locals != env.globals)) = false)
    (ht : s.heap.IsTuple T #[v1, v2]) (hn : s.heap.Ns C m)
    (h : ∀ h' tk, h'.Ns C (fun y => if y = x2 then some v2 else if y = x1 then some v1 else m y) → (∀ b o, b ≠ C → s.heap.get? b = some o → h'.get? b = some o) → Q () { s with heap := h', toks := tk }) :
    wpAny (model prog w) A (assign (.Tuple [.Name x1 p1, .Name x2 p2] k pos) env (.ref T)) Q E s := by
  subst hC
  have hlt := hn.lt
  refine wpAny_assign_Tuple hh ht rfl rfl fun h₁ hs₁ => ?_
  have up1 : ∀ b o, s.heap.get? b = some o → h₁.get? b = some o := fun b o e => hs₁ b o (Nat.ne_of_lt (Heap.lt_size e)) e
  show wpAny _ _ (holding [v2] (assign (.Name x1 p1) env v1) >>= fun _ => holding [] (assign (.Name x2 p2) env v2) >>= fun _ => pure ()) _ _ _
  refine wpAny_bind (wpAny_holding (wpAny_assign_Name (wpAny_storeName_local hx1 (hn.at' fun o e => up1 _ o e) (fun h₂ hn₂ hs₂ => ?_) hp)))
  refine wpAny_bind (wpAny_holding (wpAny_assign_Name (wpAny_storeName_local hx2 hn₂ (fun h₃ hn₃ hs₃ => ?_) hp)))
  exact wpAny_pure (h h₃ _ hn₃ fun b o hb e => hs₃.extBut b o hb (hs₂.extBut b o hb (up1 b o e)))

theorem nsKeep {C : Addr} {h h' : Heap} {m : Str → Option Value} (hn : h.Ns C m) (e : ∀ o, h.get? C = some o → h'.get? C = some o) : h'.Ns C m := hn.at' e
theorem noLimitKeep {h h' : Heap} (hl : h.NoLimit) (e : ∀ o, h.get? cStatics = some o → h'.get? cStatics = some o) : h'.NoLimit := let ⟨mc, hns, hnn⟩ := hl; ⟨mc, hns.at' e, hnn⟩
theorem isGenKeep {h h' : Heap} {a g : Addr} (hg : h.IsGen a g) (e : ∀ o, h.get? a = some o → h'.get? a = some o) : h'.IsGen a g := let ⟨o, nm, qn, ho, r⟩ := hg; ⟨o, nm, qn, e _ ho, r⟩

theorem comp_gen {elt iter : Expr} {x1 x2 : Str} {p1 p2 pt : Pos} {k : Nat} {scope : Scope} {pos : Pos} {env : Env} {Q : Value → Shared → Prop} (us : List (List Nat)) (G : List Nat → Value → Prop)
    (hh : A.handled = none) (hroom : A.depth < recursionLimit)
    (hfree : ∀ y ∈ scope.names, y.2 ≠ .free) (hcell : ∀ y ∈ scope.names, y.2 ≠ .cell) (hkind : scope.kind = .function)
    (hnames : ∀ y ∈ scope.names, y.2 = .local → scope.names.lookup y.1 = some .local) (hx1 : scope.names.lookup x1 = some .local) (hx2 : scope.names.lookup x2 = some .local)
    (h : wpAny (model prog w) A (eval iter env) (fun v s₁ => ∃ a g gst H0, v = .ref a ∧ H0.objs.size ≤ s₁.heap.objs.size ∧ (∀ b o, H0.get? b = some o → s₁.heap.get? b = some o) ∧ s₁.heap.IsGen a g ∧ s₁.gens[g]? = some gst ∧ H0.NoLimit ∧ us.length ≤ sizeLine ∧
      (∀ C D (s₂ : Shared), s₁.heap.objs.size ≤ D → s₁.heap.objs.size ≤ C → (∃ o, s₂.heap.get? C = some o) → (∃ o, s₂.heap.get? D = some o) → (∀ b o, s₁.heap.get? b = some o → s₂.heap.get? b = some o) →
        gst.Goes (model prog w) A.in1 (Rg H0 C D a) (Yg us H0 C D a) us.length (.send .none) s₂) ∧
      (∀ C u t s₃ m₃ E', u ∈ us → (∀ b o, H0.get? b = some o → s₃.heap.get? b = some o) → s₃.heap.Ns (compEnv scope C env).locals m₃ → m₃ x2 = some (.str ⟨u.toArray⟩ t) →
        wpAny (model prog w) A (eval elt (compEnv scope C env)) (fun r s₄ => G u r ∧ Keeps s₃ s₄) E' s₃) ∧
      (∀ D (ys : List Value) h' tk gs', GenOnlyQ g s₁.gens gs' → (∀ b o, H0.get? b = some o → h'.get? b = some o) → s₁.heap.objs.size ≤ D → h'.PlainList D ys.toArray → Paired G us ys →
        Q (.ref D) { s₁ with heap := h', toks := tk, gens := gs' })) E s)
    (hs : ∀ x, foldedSetIterable iter env x = pure x) :
    wpAny (model prog w) A (eval (.ListComp elt [⟨.Tuple [.Name x1 p1, .Name x2 p2] k pt, iter, [], 0⟩] scope pos) env) Q E s := by
  refine wpAny_ListComp hfree hkind hnames (wpAny_mono h (fun v s₁ h₁ => ?_) fun _ _ e => e) hs
  obtain ⟨a, g, gst, H0, rfl, htop, hst, hgen, hgs, hl, hsz, hseg, helt, hfin⟩ := h₁
  refine wpAny_pyIter_gen hgen ?_
  refine wpAny_newObj_type (wpAny_newFunctionEnv hcell (by intro y hy; simp at hy) (fun h₁ hns₁ hsb₁ => ?_) hkind)
  dsimp only at hns₁ hsb₁ ⊢
  generalize hH2 : s₁.heap.push { cls := .type "list", dict := none, data := .seq ([] : List Value).toArray } = H2 at hns₁ hsb₁ ⊢
  have hC : H2.objs.size = s₁.heap.objs.size + 1 := by rw [← hH2, Heap.size_push]
  generalize hCC : H2.objs.size = C at hns₁ hsb₁ hC ⊢
  generalize hDD : s₁.heap.objs.size = D at hC htop hseg hfin ⊢
  have hC1 : D + 1 ≤ C := Nat.le_of_eq hC.symm
  have hC2 : C ≤ D + 1 := Nat.le_of_eq hC
  have hD1 : s₁.heap.objs.size ≤ D := Nat.le_of_eq hDD
  have hD2 : D ≤ s₁.heap.objs.size := Nat.le_of_eq hDD.symm
  have hDC : D ≠ C := Nat.ne_of_lt (by omega)
  have old : ∀ b o, s₁.heap.get? b = some o → h₁.get? b = some o := fun b o e => hsb₁.extBut b o (Nat.ne_of_lt (by have := ltSz e; omega)) (Heap.get?_push_of_some _ (hH2 ▸ Heap.get?_push_of_some _ e))
  have hacc : h₁.PlainList D #[] := ⟨_, hsb₁.extBut _ _ hDC (Heap.get?_push_of_some _ (hH2 ▸ hDD ▸ Heap.get?_push_size _ rfl))⟩
  have haD : @LT.lt Nat instLTNat a D := by obtain ⟨o, _, _, ho, _⟩ := hgen; have := ltSz ho; omega
  have hsz₁ : C + 1 ≤ h₁.objs.size := Nat.le_of_eq (by rw [hsb₁.1, Heap.size_push, hCC])
  have bC : ∀ (b : Nat) o, H0.get? b = some o → b ≠ C := fun b o hb => Nat.ne_of_lt (by have := ltSz hb; omega)
  have bD : ∀ (b : Nat) o, H0.get? b = some o → b ≠ D := fun b o hb => Nat.ne_of_lt (by have := ltSz hb; omega)
  have aC : a ≠ C := Nat.ne_of_lt (by omega)
  have aD : a ≠ D := Nat.ne_of_lt (by omega)
  have loop : ∀ s₃ : Shared, s₃ = { s₁ with heap := h₁, toks := s₁.toks + ([] : List (Str × Value)).length } →
      codeAny (model prog w) A (.compLoop (.ListComp elt [⟨.Tuple [.Name x1 p1, .Name x2 p2] k pt, iter, [], 0⟩] scope pos) 0 (.ref a) (.ref D) (compEnv scope C env))
        (fun r s' => ∃ m, s'.heap.Ns C m ∧ ∀ h', Heap.SameBut C s'.heap h' → match r with | .ok _ => Q (.ref D) { s' with heap := h' } | .error x => wpAny (model prog w) A (passOn "comprehension.variables-let-go" x (compEnv scope C env)) Q E { s' with heap := h' }) s₃ := by
    rintro s₃ rfl
    refine codeAny_loop rfl (fun kk s => ∃ hp tk gs' j ys m gst, s = { s₁ with heap := hp, toks := tk, gens := gs' } ∧ j ≤ us.length ∧ kk = us.length + 1 - j ∧ hp.IsGen a g ∧ gs'[g]? = some gst ∧ GenOnly g s₁.gens gs' ∧
        (∀ s'' : Shared, KeepBut C D hp s''.heap → gst.Goes (model prog w) A.in1 (Rg H0 C D a) (Yg us H0 C D a) (us.length - j) (.send .none) s'') ∧
        hp.PlainList D ys ∧ Paired G (us.take j) ys.toList ∧ hp.Ns C m ∧ (∀ b o, H0.get? b = some o → hp.get? b = some o)) ?_ (us.length + 1)
      ⟨h₁, _, s₁.gens, 0, #[], _, gst, rfl, Nat.zero_le _, rfl, isGenKeep hgen fun o e => old _ o e, hgs, ⟨rfl, fun _ _ => rfl⟩,
        fun s'' hk => ?_, hacc, .nil, hns₁, fun b o e => old b o (hst b o e)⟩
    · rintro kk s ⟨hp, tk, gs', j, ys, m, gst, rfl, hj, rfl, hgen', hgs', hgo, hgoes, hpl, hF, hn, hkeep⟩
      show wpAny _ _ ((compTurn (.ListComp elt [⟨.Tuple [.Name x1 p1, .Name x2 p2] k pt, iter, [], 0⟩] scope pos) 0 (.ref a) (.ref D) (compEnv scope C env)).onRaise (fun x => do noteFrame x (compEnv scope C env); theTreesLotGoes x)) _ _ _
      refine wpAny_noted ?_
      rw [compTurn_list1]
      refine wpAny_bind (wpAny_standAt (wpAny_bind ?_))
      refine wpAny_pyNext_gen (P := fun n s₀ s' => n = 0 ∧ Since H0 C D a s₀ s') (Y := Yg us H0 C D a) (n := us.length - j) hh (hl.keeps hkeep) hroom hgen' hgs' (hgoes _ (KeepBut.refl (nsThere hn) (plThere hpl))) (fun v s₂ gs'' hY => ?_) (fun s₂ hP h'' hk'' => ?_)
      · obtain ⟨T, p, u, tp, tu, rfl, hTC, hTD, hT, hu, ⟨⟨h₂, tk₂, rfl⟩, hold, hsince⟩, hkap⟩ := hY
        generalize hn' : us.length - j = n at hkap hu
        cases n with
        | zero => exact (hkap _ (KeepBut.refl (nsThere (nsKeep hn fun o e => hsince C o (.inl rfl) e)) (plThere (hpl.at fun o e => hsince D o (.inr (.inl rfl)) e)))).elim
        | succ n =>
          have hju : us[j]? = some u := by
            have : us.length - 1 - (n + 1 - 1) = j := by omega
            rw [this] at hu
            exact hu
          have hs2 : ∀ b o, (b = C ∨ b = D ∨ b = a) → hp.get? b = some o → h₂.get? b = some o := hsince
          have hold : ∀ b o, H0.get? b = some o → h₂.get? b = some o := hold
          have hgen₂ : h₂.IsGen a g := isGenKeep hgen' fun o e => hs2 a o (.inr (.inr rfl)) e
          refine wpAny_bind (letGo_gen (g := g) hgen₂ ?_)
          refine wpAny_bind (assign_two (C := C) hh rfl hx1 hx2 (by simp [compEnv, hkind]) hT (nsKeep hn fun o e => hs2 C o (.inl rfl) e) fun h₃ tk₃ hn₃ hk₃ => ?_)
          refine wpAny_bind (wpAny_bind (wpAny_mono (helt C u tu _ _ _ (List.mem_of_getElem? hju) (fun b o e => hk₃ b o (bC b o e) (hold b o e)) hn₃ (by simp)) (fun r s₄ h₄ => ?_) fun _ _ e => e))
          obtain ⟨hG, h₄, tk₄, rfl, hk₄⟩ := h₄
          have hplD : h₄.PlainList D ys := hpl.at fun o e => hk₄ _ o (hk₃ D o hDC (hs2 D o (.inr (.inl rfl)) e))
          have hys : ys.size ≤ sizeLine := by
            have e1 := hF.length
            have e4 : ys.toList.length = ys.size := by simp
            rw [List.length_take] at e1
            omega
          refine wpAny_bind (wpAny_list_append_plain (hsz := hys) hplD fun h₅ hl₅ hs₅ => ?_)
          refine wpAny_pure (wpAny_pure ⟨rfl, us.length + 1 - (j + 1), by omega, h₅, tk₄, _, j + 1, ys.push r, _, gs'', rfl, by omega, rfl, ?_, ?_, ?_, ?_, hl₅, ?_, nsKeep (hn₃.keeps hk₄) (fun o e => hs₅.extBut C o (Ne.symm hDC) e), ?_⟩)
          · exact isGenKeep hgen₂ fun o e => hs₅.extBut a o aD (hk₄ _ o (hk₃ a o aC e))
          · exact setGen_self (s := { s₁ with heap := hp, toks := tk, gens := gs' }.setGen g .running) (gs := .running) (setGen_self hgs')
          · exact (hgo.trans (GenOnly.setGen { s₁ with heap := hp, toks := tk, gens := gs' } g .running)).trans (GenOnly.setGen ({ s₁ with heap := hp, toks := tk, gens := gs' }.setGen g .running) g gs'')
          · intro s'' hk''
            have e : us.length - (j + 1) = n := by omega
            rw [e]
            exact hkap s'' ⟨hk''.1, fun b o hbC hbD eb => hk''.2 b o hbC hbD (hs₅.extBut b o hbD (hk₄ b o (hk₃ b o hbC eb)))⟩
          · have e : us.take (j + 1) = us.take j ++ [u] := by rw [List.take_add_one, hju]; rfl
            rw [e, Array.toList_push]
            exact Paired.snoc hF hG
          · exact fun b o e => hs₅.extBut b o (bD b o e) (hk₄ _ o (hk₃ b o (bC b o e) (hold b o e)))
      · obtain ⟨h0, ⟨⟨h₂, tk₂, rfl⟩, hold, hsince⟩⟩ := hP
        have hjN : j = us.length := by omega
        subst hjN
        rw [List.take_length] at hF
        have hs2 : ∀ b o, (b = C ∨ b = D ∨ b = a) → hp.get? b = some o → h''.get? b = some o := fun b o hb e => hk'' b o (hsince b o hb e)
        have hold2 : ∀ b o, H0.get? b = some o → h''.get? b = some o := fun b o e => hk'' b o (hold b o e)
        refine wpAny_pure ⟨m, nsKeep hn fun o e => hs2 C o (.inl rfl) e, fun h₃ hs₃ => ?_⟩
        refine hfin D ys.toList h₃ _ _ ?_ (fun b o e => hs₃.extBut b o (bC b o e) (hold2 b o e)) (Nat.le_refl _) ?_ hF
        · exact .inr ⟨(hgo.trans (GenOnly.setGen { s₁ with heap := hp, toks := tk, gens := gs' } g .running)).trans (GenOnly.setGen ({ s₁ with heap := hp, toks := tk, gens := gs' }.setGen g .running) g .finished),
            fun x hx => by
              have e := setGen_self (s := { s₁ with heap := hp, toks := tk, gens := gs' }.setGen g .running) (gs := .running) (x := .finished) (setGen_self hgs')
              have hx' : ((({ s₁ with heap := hp, toks := tk, gens := gs' } : Shared).setGen g .running).setGen g .finished).gens[g]? = some x := hx
              rw [e] at hx'
              cases hx'
              rfl⟩
        · rw [Array.toArray_toList]
          exact (hpl.at fun o e => hs2 D o (.inr (.inl rfl)) e).at fun o e => hs₃.extBut D o hDC e
    · rw [Nat.sub_zero]
      exact hseg C D s'' (Nat.le_refl _) (by omega) hk.1.1 hk.1.2 fun b o e => hk.2 b o (Nat.ne_of_lt (by have := ltSz e; omega)) (Nat.ne_of_lt (by have := ltSz e; omega)) (old b o e)
  exact codeAny_compStart_list (loop _ rfl) (wpAny_pyIter_gen (isGenKeep hgen fun o e => old _ o e) (loop _ rfl))
end
end Mine
namespace Mine
def units : Bool → List Nat → List (List Nat)
  | false, [] => []
  | true, [] => [[92]]
  | true, c :: r => [92, c] :: units false r
  | false, c :: r => if c = 92 then units true r else [c] :: units false r
theorem units_len : ∀ (l : List Nat) (b : Bool), (units b l).length ≤ l.length + 1
  | [], false => by simp [units]
  | [], true => by simp [units]
  | c :: r, true => by
    have := units_len r false
    simp only [units, List.length_cons]
    omega
  | c :: r, false => by
    have h1 := units_len r true
    have h2 := units_len r false
    unfold units
    split <;> simp only [List.length_cons] <;> omega
theorem units_ne : ∀ (l : List Nat) (b : Bool) (u : List Nat), u ∈ units b l → ∃ a c, u = a ++ [c] ∧ a.length ≤ 1
  | [], false, u, h => by simp [units] at h
  | [], true, u, h => by
    simp only [units, List.mem_singleton] at h
    exact ⟨[], 92, h, by simp⟩
  | c :: r, true, u, h => by
    simp only [units, List.mem_cons] at h
    rcases h with h | h
    · exact ⟨[92], c, h, by simp⟩
    · exact units_ne r false u h
  | c :: r, false, u, h => by
    unfold units at h
    split at h
    · exact units_ne r true u h
    · rcases List.mem_cons.mp h with h | h
      · exact ⟨[], c, h, by simp⟩
      · exact units_ne r false u h
theorem item_last (a : List Nat) (c : Nat) : Txt.item (⟨(a ++ [c]).toArray⟩ : Str) (-1) = ⟨#[(a ++ [c]).getLastD 0]⟩ := by
  have hl : ((⟨(a ++ [c]).toArray⟩ : Str).length : Int) = a.length + 1 := by simp [Str.length]
  have := eq_of_beq (item_closes_neg (x := ⟨(a ++ [c]).toArray⟩) (i := -1) (j := (a.length : Int)) (by omega) (by omega) (by omega))
  rw [this]
  simp
def tailR : List Nat := [34, 32, 105, 115, 32, 114, 101, 97, 100]
def rd1 (l : List Nat) : List Nat := (units false l).map fun u => u.getLastD 0
def readS (v : Str) (k : Int) : Str := ⟨(if k = 0 then rd0 (v.cps.toList ++ tailR) else rd1 v.cps.toList).toArray⟩
local macro_rules | `(tactic| walk_at "eval ListComp") => `(tactic| (k_here; with_reducible refine Stop.intro ?_))
local macro_rules | `(tactic| walk_at "call ref") => `(tactic| (k_here; with_reducible refine Stop.intro ?_))
local macro_rules | `(tactic| walk_at "call type:enumerate") => `(tactic| (k_here; with_reducible refine Stop.intro ?_))
local macro_rules | `(tactic| walk_at "execs cons") => `(tactic| (k_here; (with_reducible refine wpAny_execs_cons ?_); (try dsimp only)))
theorem newsMk {h₀ h : Heap} {news : List (Addr × Obj)} (x : ∀ p ∈ news, h.get? p.1 = some p.2 ∧ @LT.lt Nat instLTNat h₀.objs.size p.1) : News h₀ h₀.objs.size h news := by
  intro p hp
  refine ⟨(x p hp).1, Nat.ne_of_gt (x p hp).2, ?_⟩
  cases e : h₀.get? p.1 with
  | none => rfl
  | some o => exact absurd (ltSz e) (by have := (x p hp).2; omega)
theorem seg_ind {M : Model} {A : Around} {R : GenEnd} {Y : Protocol} {c : Code} {fs : List Frame} (P : List Nat → Bool → Nat → Shared → Shared → Prop)
    (turn : ∀ l b n s₀ s, P l b n s₀ s → (∀ l' b' n' s₀' s', l'.length < l.length → P l' b' n' s₀' s' → Seg M A R Y n' s₀' c (M.den c) fs s') → Seg M A R Y n s₀ c (M.den c) fs s) :
    ∀ (k : Nat) (l : List Nat) (b : Bool) (n : Nat) (s₀ s : Shared), l.length < k → P l b n s₀ s → Seg M A R Y n s₀ c (M.den c) fs s
  | 0, _, _, _, _, _, h, _ => absurd h (Nat.not_lt_zero _)
  | k + 1, l, b, n, s₀, s, h, hp => turn l b n s₀ s hp fun l' b' n' s₀' s' hl hp' => seg_ind P turn k l' b' n' s₀' s' (by omega) hp'
theorem enumWalk {prog : Program} {w : World} {A : Around} (hh : A.handled = none) (e it : Addr) (hne : e ≠ it) (v : Str) (t : Tok) :
    ∃ Mid, WalksT prog w A e [e, it] [e, it] v.cps.size (fun i vals => ∃ t x, (∃ c u, v.cps[i]? = some c ∧ x = .str ⟨#[c]⟩ u) ∧ vals = #[.int i t, x])
      (fun i h => (∃ old, IsEnum h e it i old) ∧ h.IsStrIter it (strIterType v) v t i) Mid := by
  have D : Draws prog w A.in1 it [it] v.cps.size (fun i x => ∃ c u, v.cps[i]? = some c ∧ x = .str ⟨#[c]⟩ u) (fun i h => h.IsStrIter it (strIterType v) v t i) := by
    unfold strIterType
    split
    · exact Draws.strAscii (A := A.in1) hh it v t
    · exact Draws.strWide (A := A.in1) hh it v t
  exact ⟨_, WalksT.enumerateD D e hne (by simpa using hne) (by simp)⟩
theorem enumUse {prog : Program} {w : World} {A : Around} {α : Type} {mm : Sem α} {Q : α → Shared → Prop} {E : Value → Shared → Prop} {s : Shared} (e it : Addr) (v : Str) (t : Tok) (hne : e ≠ it) (hh : A.handled = none)
    (h : ∀ Mid, WalksT prog w A e [e, it] [e, it] v.cps.size (fun i vals => ∃ t x, (∃ c u, v.cps[i]? = some c ∧ x = .str ⟨#[c]⟩ u) ∧ vals = #[.int i t, x])
      (fun i h => (∃ old, IsEnum h e it i old) ∧ h.IsStrIter it (strIterType v) v t i) Mid → wpAny (model prog w) A mm Q E s) : wpAny (model prog w) A mm Q E s :=
  let ⟨Mid, W⟩ := enumWalk hh e it hne v t
  h Mid W
theorem notPair {x e i : Nat} (h : x < i) (he : i + 1 = e) : (x : Addr) ∉ ([e, i] : List Addr) := fun hm => by
  rcases List.mem_cons.mp hm with h1 | h1
  · have : x = e := h1
    omega
  · have : x = i := List.mem_singleton.mp h1
    omega
theorem dropGet {α : Type} {us : List α} {n : Nat} {u : α} {r : List α} (h : us.drop (us.length - (n + 1)) = u :: r) : us[us.length - 1 - n]? = some u := by
  have e : us.length - 1 - n = us.length - (n + 1) := by omega
  rw [e, ← List.head?_drop, h]
  rfl
theorem dropNext {α : Type} {us : List α} {n : Nat} {u : α} {r : List α} (h : us.drop (us.length - (n + 1)) = u :: r) (hn : n + 1 ≤ us.length) : us.drop (us.length - n) = r := by
  have e : us.length - n = us.length - (n + 1) + 1 := by omega
  rw [e, ← List.tail_drop, h]
  rfl
theorem mapA {e p c : Str} {B B' P P' X : Value} {m0 : Str → Option Value} (hpc : p ≠ c) (y : Str) :
    (if y = e then some B else if y = p then some P else if y = c then some X else m0 y) = (if y = e then some B else if y = c then some X else if y = p then some P else if y = e then some B' else if y = p then some P' else m0 y) := by
  by_cases h1 : y = e
  · simp [h1]
  · by_cases h2 : y = p
    · subst h2
      simp [h1, hpc]
    · by_cases h3 : y = c
      · subst h3
        simp [h1, h2]
      · simp [h1, h2, h3]
theorem mapB {e p c : Str} {B P P' X : Value} {m0 : Str → Option Value} (hpc : p ≠ c) (hec : e ≠ c) (hep : e ≠ p) (y : Str) :
    (if y = e then some B else if y = p then some P else if y = c then some X else m0 y) = (if y = c then some X else if y = p then some P else if y = e then some B else if y = p then some P' else m0 y) := by
  by_cases h1 : y = e
  · subst h1
    simp [hec, hep]
  · by_cases h2 : y = p
    · subst h2
      simp [h1, hpc]
    · by_cases h3 : y = c
      · subst h3
        simp [h1, h2]
      · simp [h1, h2, h3]
abbrev CbRetG (h₀ : Heap) (L : Addr) (m : Str → Option Value) (news : List (Addr × Obj)) (s : Shared) (Q : Value → Shared → Prop) (R : Tok → Value) : Prop :=
  ∀ (t : Tok) (h' : Heap) (tk' : Nat) (gs' : Array GenState), Fr h₀ L h' m → News h₀ L h' news → (AllBare s.gens → AllBare gs') → Q (R t) { s with heap := h', toks := tk', gens := gs' }
abbrev CbClaimG (prog : Program) (w : World) (K : Frag) (p : Program) (loose : List Str) (mean : ExcName → Option Value) (mg mb : Str → Option Value) (f : Addr) (news : List (Addr × Obj)) (pre : Prop) (vs : List Value) (R : Tok → Value) : Prop :=
  ∀ (dp un : Nat) (gd : Option (List Code)) (cn : Str) (cs : Scope) (a : Addr) (ccd : Value) (cl : List (Str × Addr)) (outer : List Env) (A₀ : Around) (base h₀ : Heap) (L : Addr) (m : Str → Option Value) (s : Shared) (Q E : Value → Shared → Prop),
    Below A₀ base outer h₀ → Fr h₀ L s.heap m → K.In h₀ → News h₀ L s.heap news → Top p loose mean mg mb h₀ → cs.kind = .function →
    pre → dp + 4 < recursionLimit → un + 20 < cLine → CbRetG h₀ L m news s Q R →
      wpAny (model prog w) (ktrTop dp un gd cn cs L a ccd cl outer) (call (.ref f) vs) Q E s
set_option maxHeartbeats 8000000 in
theorem c_read (w : World) (loose : List Str) (mean : ExcName → Option Value) (mg mb : Str → Option Value) (news : List (Addr × Obj)) (v : Str) (t : Tok) (k : Int) (t2 : Tok) :
    CbClaimG PySem.Challenge.rw_wf0005_01.row.prog w (wfhd.heap_39 w.params) wfhd.view_39 loose mean mg mb 84 news (v.length ≤ 300000) [.str v t, .int k t2] (fun t => .str (readS v k) t) := by
  k_fill
  dsimp only [CbClaimG, CbRetG]
  intros; rename_i hv _ _ hret
  refine wpAny_call ?_
  k_dflt cell_enter
  k_steps
  · refine Stop.out ?_
    (with_unfolding_all refine' (c_parse w loose mean mg mb news _ _ (v.cps.toList ++ tailR)) _ _ _ _ _ _ _ _ _ _ _ _ _ _ _ _ _ ?B ?F ?X ?N ?T ?k ?pre ?d ?u ?R)
    case B => k_asm
    case F => k_asm
    case X => k_asm
    case N => k_asm
    case T => k_asm
    case k => rfl
    case pre =>
      refine ⟨?_, ?_⟩
      · rw [Str.cps_append, Str.cps_append, Array.toList_append, Array.toList_append, show (Str.ofString "257 \"").cps = #[50, 53, 55, 32, 34] from by decide +kernel, show (Str.ofString "\" is read").cps = #[34, 32, 105, 115, 32, 114, 101, 97, 100] from by decide +kernel, List.append_assoc]
        rfl
      · rw [Str.length_append, Str.length_append, show (Str.ofString "257 \"").length = 5 from by decide +kernel, show (Str.ofString "\" is read").length = 9 from by decide +kernel]
        omega
    case d => ktr_room
    case u => ktr_units
    case R =>
      intro t9 h9 tk9 F9 N9
      dsimp only
      k_steps
      have e : (⟨(rd0 (v.cps.toList ++ tailR)).toArray⟩ : Str) = readS v k := by
        unfold readS
        rw [if_pos (by assumption)]
      rw [e]
      apply hret <;> first | assumption | exact id
  · refine Stop.out ?_
    rename Fr _ _ _ _ => F
    rename News _ _ _ _ => N
    rename Frag.In _ _ => X
    rename Top _ _ _ _ _ _ => T
    (with_unfolding_all refine' comp_gen (units false v.cps.toList) (fun u r => Sealed (∃ t, r = Value.str ⟨[u.getLastD 0].toArray⟩ t)) rfl ?room ?c1 ?c2 rfl ?c3 rfl rfl ?h ?hs)
    case room => ktr_room
    case c1 => decide
    case c2 => decide
    case c3 => decide
    case hs => intro _; rfl
    case h =>
      k_steps
      refine Stop.out ?_
      rename Heap => H0
      have XH := X.keeps F.keep
      have TH := T.keeps F.keep
      have hlim := TH.nolimit
      refine wpAny_call (codeAny_call_generator ?room (XH _ _ (by k_is)) rfl rfl rfl rfl (codeRec_of XH (by k_is)) ?_)
      case room => ktr_room
      refine wpAny_of_eq (a := [(Str.ofString "addr", Value.str v t)]) (by with_unfolding_all rfl) ?_
      refine wpAny_newFunctionEnv (by decide) ?hl (fun h₁ hns hsb => ?_) rfl
      case hl => exact locs rfl
      have FG := (⟨hns, fun b o e => hsb.extBut b o (Nat.ne_of_lt (Heap.lt_size e)) (Heap.get?_push_of_some _ e), Nat.le_refl _⟩ : Fr _ _ h₁ _)
      refine ⟨hlim.fresh _ hsb, ?_⟩
      dsimp only
      have hsz1 : h₁.objs.size = H0.objs.size + 1 := by
        rw [hsb.1, Heap.size_push]
      refine ⟨_, _, _, H0, rfl, ?htop, ?hst, ⟨_, _, _, Heap.get?_push_size _ rfl, rfl, rfl, rfl⟩, Array.getElem?_push_size .., ?hl, ?hsz, ?hseg, ?helt, ?hfin⟩
      case hst => exact fun b o e => Heap.get?_push_of_some _ (FG.keep b o e)
      case htop =>
        show H0.objs.size ≤ (Heap.push _ _).objs.size
        rw [Heap.size_push, hsz1]; exact Nat.le_of_lt (by omega)
      case hl => exact hlim
      case hsz =>
        have := units_len v.cps.toList false
        have e : v.cps.toList.length = v.length := by simp [Str.length]
        rw [sizeLine_eq]
        omega
      case hseg =>
        intro C D s₂ hD hC hCs hDs hk
        obtain ⟨oC, hoC⟩ := hCs
        obtain ⟨oD, hoD⟩ := hDs
        refine ⟨rfl, seg_func ?_⟩
        have hk0 : ∀ b o, h₁.get? b = some o → s₂.heap.get? b = some o := fun b o e => hk b o (Heap.get?_push_of_some _ e)
        have F2 := FG.keeps hk0
        obtain ⟨oa, hoa⟩ : ∃ o, s₂.heap.get? h₁.objs.size = some o := ⟨_, hk _ _ (Heap.get?_push_size _ rfl)⟩
        have hA1 : H0.objs.size + 1 ≤ h₁.objs.size := Nat.le_of_eq hsz1.symm
        rw [Heap.size_push] at hC hD
        have N2 : News H0 H0.objs.size s₂.heap [(C, oC), (D, oD), (h₁.objs.size, oa)] := by
          refine newsMk (fun p hp => ?_)
          simp only [List.mem_cons, List.not_mem_nil, or_false] at hp
          rcases hp with rfl | rfl | rfl
          · exact ⟨hoC, by omega⟩
          · exact ⟨hoD, by omega⟩
          · exact ⟨hoa, by omega⟩
        have hCz : C < s₂.heap.objs.size := ltSz hoC
        have hDz : D < s₂.heap.objs.size := ltSz hoD
        have hAz : h₁.objs.size < s₂.heap.objs.size := ltSz hoa
        have hns2 := F2.ns.lt
        generalize h₁.objs.size = a at *
        clear F N X T FG hk hk0 hns hsb
        refine seg_execs_cons (seg_stmt ?_)
        k_steps
        refine seg_execs_cons (seg_stmt ?_)
        k_steps
        refine seg_execs_cons (seg_For ?_)
        k_steps
        rename Heap => hq
        refine Stop.out (call_enumerate_str fun h' he hit hz hold => ?_)
        refine wpAny_pyIter_enum he ?_
        intro kap hkap p l
        rename Fr _ _ _ _ => F1
        rename News _ _ _ _ => N1
        have zC : C < hq.objs.size := ltSz (N1 (C, oC) (by simp)).1
        have zD : D < hq.objs.size := ltSz (N1 (D, oD) (by simp)).1
        have zA : a < hq.objs.size := ltSz (N1 (a, oa) (by simp)).1
        have zG : H0.objs.size < hq.objs.size := F1.ns.lt
        have hsC := hold _ _ (N1 (C, oC) (by simp)).1
        have hsD := hold _ _ (N1 (D, oD) (by simp)).1
        have hsA := hold _ _ (N1 (a, oa) (by simp)).1
        dsimp only at hsC hsD hsA
        replace F1 := F1.keeps hold
        clear N1 N2 F2 hold hz hCz hDz hAz hns2
        generalize hq.objs.size = itA at *
        generalize heA : itA + 1 = eA at *
        have heI : eA ≠ itA := Nat.ne_of_gt (by omega)
        have hzs : v.cps.size = v.cps.toList.length := by simp
        refine seg_ind (fun l b n s₀ s => ∃ (i : Nat) (hp : Heap) (tk : Nat) (m0 : Str → Option Value) (p : Int) (tp : Nat), s = { s₀ with heap := hp, toks := tk } ∧ v.cps.toList.drop i = l ∧ i ≤ v.cps.size ∧ n = (units b l).length ∧ (units false v.cps.toList).drop ((units false v.cps.toList).length - n) = units b l ∧ n ≤ (units false v.cps.toList).length ∧
          Fr H0 H0.objs.size hp (fun y => if y = Str.ofString "escape" then some (Value.bool b) else if y = Str.ofString "pos" then some (Value.int p tp) else m0 y) ∧ (∃ old, IsEnum hp eA itA i old) ∧ hp.IsStrIter itA (strIterType v) v t i ∧
          ((∃ o, hp.get? C = some o) ∧ (∃ o, hp.get? D = some o) ∧ (∃ o, hp.get? a = some o)) ∧ ∀ b o, (b = C ∨ b = D ∨ b = a) → s₀.heap.get? b = some o → hp.get? b = some o) ?turn (v.cps.toList.length + 1) v.cps.toList false _ _ _ (by omega) ?base
        case base =>
          refine ⟨0, h', _, _, 0, _, rfl, rfl, by omega, rfl, by rw [Nat.sub_self]; rfl, Nat.le_refl _, F1, ⟨_, he⟩, hit, ⟨⟨_, hsC⟩, ⟨_, hsD⟩, ⟨_, hsA⟩⟩, ?_⟩
          rintro b o (rfl | rfl | rfl) e
          · rw [hoC] at e; cases e; exact hsC
          · rw [hoD] at e; cases e; exact hsD
          · rw [hoa] at e; cases e; exact hsA
        case turn =>
          clear he hit hsC hsD hsA F1 hoC hoD hoa oC oD oa
          rintro l b n s₀ s ⟨i, hp, tk, m0, p, tp, rfl, hl, hi, hn, hdrop, hnle, F1, hen, hst, ⟨⟨oC, hoC⟩, ⟨oD, hoD⟩, ⟨oa, hoa⟩⟩, hsince⟩ ih
          refine seg_forLoop ?_
          refine enumUse eA itA v t heI rfl fun Mid W => ?_
          cases l with
          | nil =>
            have hie : i = v.cps.size := by
              have := congrArg List.length hl
              rw [List.length_drop] at this
              simp only [List.length_nil] at this
              omega
            subst hie
            refine W.done _ _ _ ⟨hen, hst⟩ fun h₁ tk₁ hk₁ => ?_
            dsimp only
            refine seg_block0 ?_
            rw [hkap]
            dsimp only
            have kC : h₁.get? C = some oC := hk₁ C oC (notPair zC heA) hoC
            have kD : h₁.get? D = some oD := hk₁ D oD (notPair zD heA) hoD
            have kA : h₁.get? a = some oa := hk₁ a oa (notPair zA heA) hoa
            have F2 : Fr H0 H0.objs.size h₁ (fun y => if y = Str.ofString "escape" then some (Value.bool b) else if y = Str.ofString "pos" then some (Value.int p tp) else m0 y) :=
              ⟨F1.ns.at' fun o e => hk₁ _ o (notPair zG heA) e, fun b o e => hk₁ b o (notPair (Nat.lt_trans (ltSz e) zG) heA) (F1.keep b o e), F1.above⟩
            have N2 : News H0 H0.objs.size h₁ [(C, oC), (D, oD), (a, oa)] := by
              refine newsMk (fun p hp => ?_)
              simp only [List.mem_cons, List.not_mem_nil, or_false] at hp
              rcases hp with rfl | rfl | rfl
              · exact ⟨kC, by omega⟩
              · exact ⟨kD, by omega⟩
              · exact ⟨kA, by omega⟩
            have hsince2 : ∀ b o, (b = C ∨ b = D ∨ b = a) → s₀.heap.get? b = some o → h₁.get? b = some o := by
              rintro b o hb e
              have := hsince b o hb e
              rcases hb with rfl | rfl | rfl
              · rw [hoC] at this; cases this; exact kC
              · rw [hoD] at this; cases this; exact kD
              · rw [hoa] at this; cases this; exact kA
            clear F1 hst hen hsince hoC hoD hoa hk₁
            cases b with
            | false =>
              refine seg_execs_cons (seg_If ?_)
              k_steps
              refine seg_execs_nil ?_
              dsimp only
              refine seg_execs_nil ?_
              dsimp only
              exact seg_end (.ok (.ret .none)) ⟨rfl, hn, ⟨_, _, rfl⟩, F2.keep, hsince2⟩
            | true =>
              refine seg_execs_cons (seg_If ?_)
              k_steps
              obtain rfl : n = 0 + 1 := hn
              refine seg_execs_cons (seg_Expr_Yield rfl rfl rfl ?_)
              k_steps
              rename Fr _ _ _ _ => F3
              rename News _ _ _ _ => N3
              rename_i l1 kp hkp
              refine ⟨_, _, [92], _, _, rfl, Nat.ne_of_gt l1.1, Nat.ne_of_gt l1.2.1, ⟨_, (N3 _ (List.mem_cons_self ..)).1, rfl, _, rfl⟩, dropGet hdrop, ⟨⟨_, _, rfl⟩, F3.keep, ?_⟩, fun s'' hk'' => hkp .none s'' ?_⟩
              · rintro b o hb e
                have := hsince2 b o hb e
                rcases hb with rfl | rfl | rfl
                · rw [kC] at this; cases this; exact (N3 (b, oC) (by simp)).1
                · rw [kD] at this; cases this; exact (N3 (b, oD) (by simp)).1
                · rw [kA] at this; cases this; exact (N3 (b, oa) (by simp)).1
              · have F4k : ∀ b o, H0.get? b = some o → s''.heap.get? b = some o := fun b o e => hk''.2 b o (Nat.ne_of_lt (by have := ltSz e; omega)) (Nat.ne_of_lt (by have := ltSz e; omega)) (F3.keep b o e)
                refine seg_execs_nil ?_
                dsimp only
                refine seg_execs_nil ?_
                dsimp only
                exact seg_end (.ok (.ret .none)) ⟨rfl, rfl, ⟨_, _, rfl⟩, F4k, fun _ _ _ e => e⟩
          | cons c r =>
            have hlt : i < v.cps.size := by
              have := congrArg List.length hl
              rw [List.length_drop] at this
              simp only [List.length_cons] at this
              omega
            have hci : v.cps[i]? = some c := by
              rw [← Array.getElem?_toList, ← List.head?_drop, hl]
              rfl
            have hl1 : v.cps.toList.drop (i + 1) = r := by
              rw [← List.tail_drop, hl]
              rfl
            refine W.item i _ _ _ hlt ⟨hen, hst⟩ fun T vals h₁ tk₁ hP hT0 hTup hMid hk₁ => ?_
            obtain ⟨tt, x, ⟨c', u, hc', rfl⟩, rfl⟩ := hP
            rw [hci] at hc'
            cases hc'
            dsimp only
            refine W.go _ _ _ i T _ _ _ hMid fun h₂ hst₂ hk₂ => ?_
            have kk2 : ∀ (x : Nat) o, x < itA → hp.get? x = some o → h₂.get? x = some o := fun x o hx e => hk₂ x o (notPair hx heA) (hk₁ x o (notPair hx heA) e)
            refine assign_two (C := H0.objs.size) rfl rfl rfl rfl rfl (let ⟨o, ho, q⟩ := hTup; ⟨o, hk₂ _ _ (W.apart i T h₁ hMid) ho, q⟩) (F1.ns.at' fun o e => kk2 _ o zG e) fun h₃ tk₃ hn₃ hk₃ => ?_
            intro H'
            have kk3 : ∀ (x : Nat) o, x < itA → x ≠ H0.objs.size → hp.get? x = some o → h₃.get? x = some o := fun x o hx hne e => hk₃ x o hne (kk2 x o hx e)
            have kC := kk3 C oC zC (Nat.ne_of_gt (by omega)) hoC
            have kD := kk3 D oD zD (Nat.ne_of_gt (by omega)) hoD
            have kA := kk3 a oa zA (Nat.ne_of_gt (by omega)) hoa
            have F2 : Fr H0 H0.objs.size h₃ _ := ⟨hn₃, fun b o e => kk3 b o (Nat.lt_trans (ltSz e) zG) (Nat.ne_of_lt (ltSz e)) (F1.keep b o e), F1.above⟩
            obtain ⟨⟨old, heI2⟩, hit2⟩ := hst₂
            obtain ⟨oe, kE, hoe⟩ : ∃ oe, h₃.get? eA = some oe ∧ ∀ h' : Heap, h'.get? eA = some oe → ∃ old, IsEnum h' eA itA ((i + 1 : Nat) : Int) old := ⟨_, hk₃ _ _ (Nat.ne_of_gt (by omega)) heI2, fun h' e => ⟨old, e⟩⟩
            obtain ⟨oi, kI, hoi⟩ : ∃ oi, h₃.get? itA = some oi ∧ ∀ h' : Heap, h'.get? itA = some oi → h'.IsStrIter itA (strIterType v) v t (i + 1) :=
              (let ⟨o, ho, q⟩ := hit2; ⟨o, hk₃ _ _ (Nat.ne_of_gt zG) ho, fun h' e => ⟨o, e, q⟩⟩)
            have N2 : News H0 H0.objs.size h₃ [(C, oC), (D, oD), (a, oa), (eA, oe), (itA, oi)] := by
              refine newsMk (fun p hp => ?_)
              simp only [List.mem_cons, List.not_mem_nil, or_false] at hp
              rcases hp with rfl | rfl | rfl | rfl | rfl
              · exact ⟨kC, by omega⟩
              · exact ⟨kD, by omega⟩
              · exact ⟨kA, by omega⟩
              · exact ⟨kE, by omega⟩
              · exact ⟨kI, by omega⟩
            have hsince2 : ∀ b o, (b = C ∨ b = D ∨ b = a) → s₀.heap.get? b = some o → h₃.get? b = some o := by
              rintro b o hb e
              have := hsince b o hb e
              rcases hb with rfl | rfl | rfl
              · rw [hoC] at this; cases this; exact kC
              · rw [hoD] at this; cases this; exact kD
              · rw [hoa] at this; cases this; exact kA
            clear F1 hst hen hsince hoC hoD hoa hk₁ hk₂ hk₃ kk2 kk3 heI2 hit2 hMid hTup hn₃
            cases b with
            | true =>
              obtain ⟨n, rfl⟩ : ∃ q, n = q + 1 := ⟨(units false r).length, by rw [hn]; rfl⟩
              refine seg_execs_cons (seg_If ?_)
              k_steps
              refine seg_execs_cons (seg_Expr_Yield rfl rfl rfl ?_)
              k_steps
              rename Fr _ _ _ _ => F3
              rename News _ _ _ _ => N3
              rename_i l1 kp hkp
              have eS : (Str.ofString "\\" ++ (⟨#[c]⟩ : Str)) = ⟨[92, c].toArray⟩ := strApp [92] [c]
              rw [eS] at N3
              rename Heap => h4
              have hsince3 : ∀ b o, (b = C ∨ b = D ∨ b = a) → s₀.heap.get? b = some o → h4.get? b = some o := by
                rintro b o hb e
                have := hsince2 b o hb e
                rcases hb with rfl | rfl | rfl
                · rw [kC] at this; cases this; exact (N3 (b, oC) (by simp)).1
                · rw [kD] at this; cases this; exact (N3 (b, oD) (by simp)).1
                · rw [kA] at this; cases this; exact (N3 (b, oa) (by simp)).1
              refine ⟨_, _, [92, c], _, _, rfl, Nat.ne_of_gt l1.1, Nat.ne_of_gt l1.2.1, ⟨_, (N3 _ (List.mem_cons_self ..)).1, rfl, _, rfl⟩, dropGet hdrop, ⟨⟨_, _, rfl⟩, F3.keep, hsince3⟩, fun s'' hk'' => hkp .none s'' ?_⟩
              have hdrop2 := dropNext hdrop hnle
              have kk4 : ∀ (x : Nat) o, x ≠ C → x ≠ D → h4.get? x = some o → s''.heap.get? x = some o := hk''.2
              have F4 : Fr H0 H0.objs.size s''.heap _ := ⟨F3.ns.at' fun o e => kk4 _ o (Nat.ne_of_lt (by omega)) (Nat.ne_of_lt (by omega)) e, fun b o e => kk4 b o (Nat.ne_of_lt (by have := ltSz e; omega)) (Nat.ne_of_lt (by have := ltSz e; omega)) (F3.keep b o e), F3.above⟩
              obtain ⟨⟨oC4, kC4⟩, oD4, kD4⟩ := hk''.1
              have kA4 := kk4 a oa (Nat.ne_of_lt (by omega)) (Nat.ne_of_lt (by omega)) (N3 (a, oa) (by simp)).1
              have kE4 := kk4 eA oe (Nat.ne_of_gt (by omega)) (Nat.ne_of_gt (by omega)) (N3 (eA, oe) (by simp)).1
              have kI4 := kk4 itA oi (Nat.ne_of_gt (by omega)) (Nat.ne_of_gt (by omega)) (N3 (itA, oi) (by simp)).1
              have N4 : News H0 H0.objs.size s''.heap [(C, oC4), (D, oD4), (a, oa), (eA, oe), (itA, oi)] := by
                refine newsMk (fun p hp => ?_)
                simp only [List.mem_cons, List.not_mem_nil, or_false] at hp
                rcases hp with rfl | rfl | rfl | rfl | rfl
                · exact ⟨kC4, by omega⟩
                · exact ⟨kD4, by omega⟩
                · exact ⟨kA4, by omega⟩
                · exact ⟨kE4, by omega⟩
                · exact ⟨kI4, by omega⟩
              clear F3 N3 hsince3 hsince2 hk'' kk4
              dsimp only
              refine seg_execs_cons (seg_stmt ?_)
              k_steps
              rename Fr _ _ _ _ => F5
              rename News _ _ _ _ => N5
              refine seg_again rfl (ih r false n s'' _ (by simp) ⟨i + 1, _, _, fun y => if y = Str.ofString "ch" then some (.str ⟨#[c]⟩ u) else m0 y, _, _, rfl, hl1, by omega, ?_, hdrop2, by omega, frCast F5 (mapA (by decide)), hoe _ (N5 (eA, oe) (by simp)).1, hoi _ (N5 (itA, oi) (by simp)).1, ⟨⟨_, (N5 (C, oC4) (by simp)).1⟩, ⟨_, (N5 (D, oD4) (by simp)).1⟩, ⟨_, (N5 (a, oa) (by simp)).1⟩⟩, ?_⟩)
              · have : n + 1 = (units false r).length + 1 := hn
                omega
              · rintro b o (rfl | rfl | rfl) e
                · rw [kC4] at e; cases e; exact (N5 (b, oC4) (by simp)).1
                · rw [kD4] at e; cases e; exact (N5 (b, oD4) (by simp)).1
                · rw [kA4] at e; cases e; exact (N5 (b, oa) (by simp)).1
            | false =>
              refine seg_execs_cons (seg_If ?_)
              k_steps
              refine seg_execs_cons (seg_If ?_)
              k_steps
              · rename_i hcc
                have e := eq_of_beq hcc
                rw [show Str.ofString "\\" = ⟨#[92]⟩ from by decide +kernel] at e
                injection e with e
                have e : c = 92 := by simpa using e
                subst e
                have eU : units false (92 :: r) = units true r := by simp [units]
                rw [eU] at hn hdrop
                refine seg_execs_cons (seg_stmt ?_)
                k_steps
                rename Fr _ _ _ _ => F5
                rename News _ _ _ _ => N5
                refine seg_again rfl (ih r true n s₀ _ (by simp) ⟨i + 1, _, _, fun y => if y = Str.ofString "ch" then some (.str ⟨#[92]⟩ u) else m0 y, _, _, rfl, hl1, by omega, hn, hdrop, hnle, frCast F5 (mapA (by decide)), hoe _ (N5 (eA, oe) (by simp)).1, hoi _ (N5 (itA, oi) (by simp)).1, ⟨⟨_, (N5 (C, oC) (by simp)).1⟩, ⟨_, (N5 (D, oD) (by simp)).1⟩, ⟨_, (N5 (a, oa) (by simp)).1⟩⟩, ?_⟩)
                rintro b o hb e
                have := hsince2 b o hb e
                rcases hb with rfl | rfl | rfl
                · rw [kC] at this; cases this; exact (N5 (b, oC) (by simp)).1
                · rw [kD] at this; cases this; exact (N5 (b, oD) (by simp)).1
                · rw [kA] at this; cases this; exact (N5 (b, oa) (by simp)).1
              · rename_i hcc
                have e : c ≠ 92 := by
                  rintro rfl
                  rw [show Str.ofString "\\" = ⟨#[92]⟩ from by decide +kernel] at hcc
                  simp at hcc
                have eU : units false (c :: r) = [c] :: units false r := by simp [units, e]
                rw [eU] at hn hdrop
                obtain ⟨n, rfl⟩ : ∃ q, n = q + 1 := ⟨(units false r).length, by rw [hn]; rfl⟩
                refine seg_execs_cons (seg_Expr_Yield rfl rfl rfl ?_)
                k_steps
                rename Fr _ _ _ _ => F3
                rename News _ _ _ _ => N3
                rename_i l1 kp hkp
                rename Heap => h4
                have hsince3 : ∀ b o, (b = C ∨ b = D ∨ b = a) → s₀.heap.get? b = some o → h4.get? b = some o := by
                  rintro b o hb e
                  have := hsince2 b o hb e
                  rcases hb with rfl | rfl | rfl
                  · rw [kC] at this; cases this; exact (N3 (b, oC) (by simp)).1
                  · rw [kD] at this; cases this; exact (N3 (b, oD) (by simp)).1
                  · rw [kA] at this; cases this; exact (N3 (b, oa) (by simp)).1
                refine ⟨_, _, [c], _, _, rfl, Nat.ne_of_gt l1.1, Nat.ne_of_gt l1.2.1, ⟨_, (N3 _ (List.mem_cons_self ..)).1, rfl, _, rfl⟩, dropGet hdrop, ⟨⟨_, _, rfl⟩, F3.keep, hsince3⟩, fun s'' hk'' => hkp .none s'' ?_⟩
                have hdrop2 := dropNext hdrop hnle
                have kk4 : ∀ (x : Nat) o, x ≠ C → x ≠ D → h4.get? x = some o → s''.heap.get? x = some o := hk''.2
                have F4 : Fr H0 H0.objs.size s''.heap _ := ⟨F3.ns.at' fun o e => kk4 _ o (Nat.ne_of_lt (by omega)) (Nat.ne_of_lt (by omega)) e, fun b o e => kk4 b o (Nat.ne_of_lt (by have := ltSz e; omega)) (Nat.ne_of_lt (by have := ltSz e; omega)) (F3.keep b o e), F3.above⟩
                obtain ⟨⟨oC4, kC4⟩, oD4, kD4⟩ := hk''.1
                have kA4 := kk4 a oa (Nat.ne_of_lt (by omega)) (Nat.ne_of_lt (by omega)) (N3 (a, oa) (by simp)).1
                have kE4 := kk4 eA oe (Nat.ne_of_gt (by omega)) (Nat.ne_of_gt (by omega)) (N3 (eA, oe) (by simp)).1
                have kI4 := kk4 itA oi (Nat.ne_of_gt (by omega)) (Nat.ne_of_gt (by omega)) (N3 (itA, oi) (by simp)).1
                refine seg_execs_nil ?_
                dsimp only
                refine seg_execs_nil ?_
                dsimp only
                refine seg_again rfl (ih r false n s'' s'' (by simp) ⟨i + 1, _, _, fun y => if y = Str.ofString "ch" then some (.str ⟨#[c]⟩ u) else m0 y, _, _, rfl, hl1, by omega, ?_, hdrop2, by omega, frCast F4 (mapB (by decide) (by decide) (by decide)), hoe _ kE4, hoi _ kI4, ⟨⟨_, kC4⟩, ⟨_, kD4⟩, ⟨_, kA4⟩⟩, fun _ _ _ e => e⟩)
                have : n + 1 = (units false r).length + 1 := hn
                omega
      case helt =>
        intro C u t3 s3 m3 E' hu hk hn hm
        obtain ⟨a, c, rfl, hal⟩ := units_ne _ _ _ hu
        have hul : (⟨(a ++ [c]).toArray⟩ : Str).length = a.length + 1 := by simp [Str.length]
        k_steps
        all_goals first | exact ⟨_, _, rfl, fun _ _ e => e⟩ | skip
        rw [item_last]
        exact ⟨_, rfl⟩
      case hfin =>
        intro D ys h' tk gs' hgo hk hD hpl hp
        have hk0 := hk
        have F2 := F.keeps hk0
        have N2 := N.grown hk0
        clear F N FG
        obtain ⟨l, rfl, el⟩ := paired_strs (f := fun u : List Nat => (⟨#[u.getLastD 0]⟩ : Str)) hp
        have hgs2 : AllBare _ → AllBare gs' := fun hb => AllBare.moved (AllBare.push hb rfl) hgo
        clear hgo
        k_steps
        refine SC.join hpl.isList el (joinOk_of_weight ?_ (by decide +kernel)) ?_
        · have := units_len v.cps.toList false
          have e : v.cps.toList.length = v.length := by simp [Str.length]
          have e2 : (((units false v.cps.toList).map fun u : List Nat => (⟨#[u.getLastD 0]⟩ : Str)).map (·.length)).sum ≤ (units false v.cps.toList).length := by
            generalize units false v.cps.toList = us
            induction us with
            | nil => simp
            | cons u r ih => simp only [List.map_cons, List.sum_cons, List.length_cons]; have : (⟨#[u.getLastD 0]⟩ : Str).length = 1 := rfl; omega
          rw [List.length_map]
          omega
        · intro t' k'
          have e : Txt.join (Str.ofString "") ((units false v.cps.toList).map fun u : List Nat => (⟨#[u.getLastD 0]⟩ : Str)) = readS v k := by
            apply Str.ext'
            apply Array.ext'
            rw [join_cps]
            unfold readS rd1
            rw [if_neg (by assumption)]
            generalize units false v.cps.toList = us
            induction us with
            | nil => simp
            | cons u r ih => simpa using ih
          rw [e]
          k_steps
          apply hret <;> assumption
end Mine
namespace Mine
def vals (l : List (Int × Tok)) : List Value := l.map fun p => Value.int p.1 p.2
def FPost {σ : Type} (h₀ : Heap) (L : Addr) (s : Shared) (mk : σ → Str → Option Value) (nw : σ → List (Addr × Obj)) (P : Nat → σ → Prop) (GP : Array GenState → Prop) (it : Addr × Obj) (i : Nat) (Q : Flow → Shared → Prop) (f : Flow) (s₃ : Shared) : Prop :=
  match f with
  | .next | .cont => ∃ c' h' tk gs, s₃ = { s with heap := h', toks := tk, gens := gs } ∧ Fr h₀ L h' (mk c') ∧ News h₀ L h' (nw c') ∧ h'.get? it.1 = some it.2 ∧ P (i + 1) c' ∧ GP gs
  | .brk => Q .next s₃
  | .ret v => Q (.ret v) s₃
theorem fpost_next {σ : Type} {h₀ h' : Heap} {L : Addr} {s : Shared} {mk : σ → Str → Option Value} {m' : Str → Option Value} {nw : σ → List (Addr × Obj)} {news' : List (Addr × Obj)} {P : Nat → σ → Prop} {GP : Array GenState → Prop} {it : Addr × Obj} {i : Nat} {Q : Flow → Shared → Prop} {tk : Nat} {gs : Array GenState} (c' : σ)
    (F : Fr h₀ L h' m') (N : News h₀ L h' news') (em : ∀ y, mk c' y = m' y) (hn : ∀ p ∈ nw c', p ∈ news') (hi : it ∈ news') (hP : P (i + 1) c') (hG : GP gs) : FPost h₀ L s mk nw P GP it i Q .next { s with heap := h', toks := tk, gens := gs } :=
  ⟨c', h', tk, gs, rfl, frCast F em, fun p hp => N p (hn p hp), (N _ hi).1, hP, hG⟩
section
variable {prog : Program} {w : World} {A : Around} {E : Value → Shared → Prop} {Q : Flow → Shared → Prop} {s : Shared} {env : Env} {h₀ : Heap} {L : Addr}
theorem for_mk {σ : Type} {x : Str} {px pos : Pos} {iter : Expr} {body : List Stmt} (items : List Value) (mk : σ → Str → Option Value) (nw : σ → List (Addr × Obj)) (P : Nat → σ → Prop) (GP : Array GenState → Prop) (c₀ : σ)
    (hx : env.kindOf x = some .local) (hp : (env.scope.kind == .class || (env.scope.kind == .module && env.locals != env.globals)) = false) (hL : env.locals = L) (hh : A.handled = none)
    (h : wpAny (model prog w) A (eval iter env) (fun xv s₁ => ∃ l n, xv = .ref l ∧ Fr h₀ L s₁.heap (mk c₀) ∧ News h₀ L s₁.heap (nw c₀) ∧ (∀ c, (l, listOf items.toArray n) ∈ nw c) ∧ P 0 c₀ ∧ GP s₁.gens ∧
      (∀ it oi i v c h tk gs, items[i]? = some v → P i c → GP gs → h₀.objs.size < it → Fr h₀ L h (fun y => if y = x then some v else mk c y) → News h₀ L h ((it, oi) :: nw c) → (∀ p ∈ nw c₀, p.1 < it) →
        wpAny (model prog w) A (execs body env) (FPost h₀ L s₁ mk nw P GP (it, oi) i Q) E { s₁ with heap := h, toks := tk, gens := gs }) ∧
      (∀ c h tk gs, P items.length c → GP gs → Fr h₀ L h (mk c) → News h₀ L h (nw c) → Q .next { s₁ with heap := h, toks := tk, gens := gs })) E s)
    (hsame : ∀ c, (nw c).map (·.1) = (nw c₀).map (·.1))
    (hs : ∀ x, foldedSetIterable iter env x = pure x := by intro _; rfl)
    (hE : PassesOwn (model prog w) A env E := by passes_own) :
    wpAny (model prog w) A (exec (.For (.Name x px) iter body [] pos) env) Q E s := by
  refine wpAny_For (wpAny_mono h (fun xv s₁ h₁ => ?_) fun _ _ e => e) hs
  obtain ⟨l, n, rfl, F, N, hl, hP, hG, turn, done⟩ := h₁
  have hl0 := N.isList (hl c₀)
  refine wpAny_pyIter_list hl0 ?_
  have hit0 : (s₁.heap.push { cls := .type "list_iterator", data := .fields #[.ref l, .int 0 0] }).IsListIter s₁.heap.objs.size l 0 := ⟨_, Heap.get?_push_size _ rfl, rfl, rfl⟩
  have F0 : Fr h₀ L (s₁.heap.push { cls := .type "list_iterator", data := .fields #[.ref l, .int 0 0] }) (mk c₀) := F.push _
  have N0 : News h₀ L (s₁.heap.push { cls := .type "list_iterator", data := .fields #[.ref l, .int 0 0] }) (nw c₀) := fun p hp => ⟨Heap.get?_push_of_some _ (N p hp).1, (N p hp).2⟩
  have hap0 : ∀ p ∈ nw c₀, p.1 < s₁.heap.objs.size := fun p hp => Heap.lt_size (N p hp).1
  have hLI : L < s₁.heap.objs.size := F.ns.lt
  have hab := F.above
  generalize hI : s₁.heap.objs.size = I at hit0 F0 N0 hap0 hLI ⊢
  have hI0 : h₀.objs.size < I := Nat.lt_of_le_of_lt hab hLI
  have hnone : h₀.get? I = none := by
    cases e : h₀.get? I with
    | none => rfl
    | some o => exact absurd (Heap.lt_size e) (Nat.lt_asymm hI0)
  have apart : ∀ c, ∀ p ∈ nw c, p.1 < I := fun c p hp => by
    have : p.1 ∈ (nw c₀).map (·.1) := (hsame c) ▸ List.mem_map.mpr ⟨p, hp, rfl⟩
    obtain ⟨q, hq, e⟩ := List.mem_map.mp this
    exact e ▸ hap0 q hq
  refine codeAny_forLoop (fun k s' => ∃ i c h tk gs, s' = { s₁ with heap := h, toks := tk, gens := gs } ∧ i ≤ items.length ∧ k = items.length + 1 - i ∧ Fr h₀ L h (mk c) ∧ News h₀ L h (nw c) ∧ h.IsListIter I l i ∧ P i c ∧ GP gs) ?_ (items.length + 1)
    ⟨0, c₀, _, _, _, rfl, Nat.zero_le _, rfl, F0, N0, hit0, hP, hG⟩
  rintro k s' ⟨i, c, h, tk, gs, rfl, hi, rfl, F1, N1, hit, hP1, hG1⟩
  refine wpAny_passesOwn hE ?_
  have hl1 := N1.isList (hl c)
  by_cases hlt : i < items.length
  · refine wpAny_pyNext_list_item hit hl1 (x := items[i]) (by simp [hlt]) fun h2 hit2 hs2 => ?_
    dsimp only
    have F2 : Fr h₀ L h2 (mk c) := ⟨F1.ns.at' fun o e => hs2.extBut _ o (Nat.ne_of_lt hLI) e, fun b o e => hs2.extBut b o (Nat.ne_of_lt (Nat.lt_trans (Heap.lt_size e) hI0)) (F1.keep b o e), F1.above⟩
    have N2 : News h₀ L h2 (nw c) := fun p hp => ⟨hs2.extBut _ _ (Nat.ne_of_lt (apart c p hp)) (N1 p hp).1, (N1 p hp).2⟩
    obtain ⟨oi, hoi, hoc, hod⟩ := hit2
    have hn2 := F2.ns
    rw [← hL] at hn2
    refine wpAny_assign_Name (wpAny_storeName_local hx hn2 (fun h3 hn3 hs3 => ?_) hp)
    rw [hL] at hn3 hs3
    have hLI' : L ≠ I := Nat.ne_of_lt hLI
    have F3 := F2.set hn3 hs3
    have hoi3 : h3.get? I = some oi := hs3.extBut _ _ (Ne.symm hLI') hoi
    have N3 : News h₀ L h3 ((I, oi) :: nw c) := fun p hp => by
      rcases List.mem_cons.mp hp with rfl | hp
      · exact ⟨hoi3, Ne.symm hLI', hnone⟩
      · exact ⟨hs3.extBut _ _ (N2 p hp).2.1 (N2 p hp).1, (N2 p hp).2⟩
    refine wpAny_passesOwn hE ?_
    refine wpAny_mono (turn I oi i items[i] c h3 _ gs (by simp [hlt]) hP1 hG1 hI0 F3 N3 (fun p hp => hap0 p hp)) (fun f s₃ q => ?_) fun _ _ e => e
    have fin : (∃ c' h' tk gs, s₃ = { s₁ with heap := h', toks := tk, gens := gs } ∧ Fr h₀ L h' (mk c') ∧ News h₀ L h' (nw c') ∧ h'.get? I = some oi ∧ P (i + 1) c' ∧ GP gs) → ∃ m, m < items.length + 1 - i ∧ ∃ i' c h tk gs, s₃ = { s₁ with heap := h, toks := tk, gens := gs } ∧ i' ≤ items.length ∧ m = items.length + 1 - i' ∧ Fr h₀ L h (mk c) ∧ News h₀ L h (nw c) ∧ h.IsListIter I l i' ∧ P i' c ∧ GP gs := by
      rintro ⟨c', h', tk', gs', rfl, F', N', hi', hP', hG'⟩
      exact ⟨items.length + 1 - (i + 1), by omega, i + 1, c', h', tk', gs', rfl, by omega, rfl, F', N', ⟨oi, hi', hoc, hod⟩, hP', hG'⟩
    cases f with
    | next => exact fin q
    | cont => exact fin q
    | brk => exact q
    | ret v => exact q
  · have hie : i = items.length := by omega
    subst hie
    refine wpAny_pyNext_list_end hh hit hl1 (by simp) fun h2 hs2 => ?_
    dsimp only
    refine wpAny_execs_nil ?_
    refine done c h2 tk gs hP1 hG1 ⟨F1.ns.at' fun o e => hs2 _ o (Nat.ne_of_lt hLI) e, fun b o e => hs2 b o (Nat.ne_of_lt (Nat.lt_trans (Heap.lt_size e) hI0)) (F1.keep b o e), F1.above⟩ fun p hp => ⟨hs2 _ _ (Nat.ne_of_lt (apart c p hp)) (N1 p hp).1, (N1 p hp).2⟩
theorem my_popAt {D : Addr} {m : Str → Option Value} {news news' : List (Addr × Obj)} {n : Nat} {us : List Value} {i : Int} {u : Tok} {y : Value} {R : Value → Shared → Prop} (F : Fr h₀ L s.heap m) (N : News h₀ L s.heap news) (h0 : 0 ≤ i) (hy : us[i.toNat]? = some y)
    (U : Upd D (listOf us.toArray n) (listOf (us.eraseIdx i.toNat).toArray (n + 1)) news news') (hz : us.length ≤ sizeLine)
    (h : ∀ h', Fr h₀ L h' m → News h₀ L h' news' → R y { s with heap := h' }) : wpAny (model prog w) A (call (.builtin "list.pop") [.ref D, .int i u]) R E s := by
  obtain ⟨pre, post, rfl, rfl, a, b⟩ := U.split
  have z := N (D, listOf us.toArray n) (List.mem_append.mpr (.inr (.head _)))
  have hlt : i.toNat < us.length := by
    cases Nat.lt_or_ge i.toNat us.length with
    | inl h => exact h
    | inr h => rw [List.getElem?_eq_none h] at hy; cases hy
  have hz' : us.toArray.size ≤ sizeLine := by simpa using hz
  have hzl := sizeLine_eq
  refine call_meets PySem.F.slot_list_pop ⟨_, z.1, rfl⟩ PySem.F.entry_list_pop (PySem.F.args_list_pop_2 _ _) (PySem.MeetsSeq.list_pop_at D _ n i u i.toNat y ?_ ?_ (by simpa using hy) hz') ⟨z.1, h _ (F.change (Heap.SameBut.update ..) z.2.1 z.2.2) (kl_turn _ N a b ?_ ?_)⟩
  · exact fitsIndex_of h0 (by omega)
  · have e1 : ¬ i < 0 := by omega
    have e2 : i < (us.toArray.size : Int) := by simp only [List.size_toArray]; omega
    simp [seqIndex?, e1, h0]
    omega
  · have : us.toArray.eraseIdxIfInBounds i.toNat = (us.eraseIdx i.toNat).toArray := by simp [hlt]
    exact this
  · simp only [List.size_toArray, List.length_eraseIdx, if_pos hlt]
    omega
end
end Mine
namespace Mine
def inOrd : List Int → List Int → Bool
  | _, [] => true
  | rl, k :: r => if k = 0 ∧ rl.head? = some 1 then false else inOrd (rl.erase k) r
theorem frTail {h₀ h : Heap} {L : Addr} {x z : Str} {v u : Value} {m0 : Str → Option Value} (F : Fr h₀ L h (fun y => if y = x then some v else m0 y)) (e : m0 z = some u) : ∃ m1 : Str → Option Value, Fr h₀ L h (fun y => if y = x then some v else m1 y) ∧ m1 z = some u := ⟨m0, F, e⟩
theorem vals_erase (l : List (Int × Tok)) (j : Nat) : (vals l).eraseIdx j = vals (l.eraseIdx j) := by
  unfold vals
  induction l generalizing j with
  | nil => rfl
  | cons a r ih =>
    cases j with
    | zero => rfl
    | succ j => simp [ih j]
theorem vals_get (l : List (Int × Tok)) (j : Nat) (h : j < l.length) : (vals l)[j]? = some (.int l[j].1 l[j].2) := by
  unfold vals
  simp [h]
theorem last_erase (l : List Int) (j : Nat) (kd : Int) (h : l[j]? = some kd) (hj : ∀ j', j < j' → l[j']? ≠ some kd) : (l.eraseIdx j).reverse = l.reverse.erase kd := by
  have hlt : j < l.length := by
    cases Nat.lt_or_ge j l.length with
    | inl h => exact h
    | inr hh => rw [List.getElem?_eq_none hh] at h; cases h
  have e1 : l = l.take j ++ kd :: l.drop (j + 1) := by
    have hg : l[j] = kd := by simpa [hlt] using h
    rw [← hg, List.getElem_cons_drop, List.take_append_drop]
  have hnot : kd ∉ (l.drop (j + 1)).reverse := by
    intro hm
    obtain ⟨q, hq⟩ := List.mem_iff_getElem?.mp (List.mem_reverse.mp hm)
    rw [List.getElem?_drop] at hq
    exact hj _ (by omega) hq
  have e2 : l.eraseIdx j = l.take j ++ l.drop (j + 1) := List.eraseIdx_eq_take_drop_succ l j
  rw [e2]
  conv => rhs; rw [e1]
  rw [List.reverse_append, List.reverse_append, List.reverse_cons, List.append_assoc, List.erase_append_right _ hnot]
  simp
theorem map_erase (l : List (Int × Tok)) (j : Nat) : (l.eraseIdx j).map (fun p => p.1) = (l.map fun p => p.1).eraseIdx j := by
  induction l generalizing j with
  | nil => rfl
  | cons a r ih =>
    cases j with
    | zero => rfl
    | succ j => simp [ih j]
theorem frInt {h₀ h : Heap} {L : Addr} {x : Str} {v : Int} {t : Tok} {r : Str → Option Value} (F : Fr h₀ L h (fun y => if y = x then some (.int v t) else r y)) : ∃ t', Fr h₀ L h (fun y => if y = x then some (.int v t') else r y) := ⟨t, F⟩
structure OrdSt where
  l : List (Int × Tok)
  n : Nat
  m : Str → Option Value
def OrdP (ks os : List (Int × Tok)) (i : Nat) (c : OrdSt) : Prop :=
  ((os.drop i).map fun p => p.1).Perm (c.l.map fun p => p.1) ∧ c.l.length ≤ 1000 ∧ inOrd (ks.map fun p => p.1).reverse (os.map fun p => p.1) = inOrd (c.l.map fun p => p.1).reverse ((os.drop i).map fun p => p.1)
local macro_rules | `(tactic| walk_at "subscriptTail") => `(tactic| (k_here; with_reducible refine Stop.intro ?_))
local macro_rules | `(tactic| walk_at "call builtin:len") => `(tactic| (k_here; with_reducible refine Stop.intro ?_))
local macro_rules | `(tactic| walk_at "call builtin:list.pop") => `(tactic| (k_here; with_reducible refine Stop.intro ?_))
local macro_rules | `(tactic| walk_at "exec While") => `(tactic| (k_here; with_reducible refine Stop.intro ?_))
local macro_rules | `(tactic| walk_at "call type:list") => `(tactic| (k_here; with_reducible refine Stop.intro ?_))
local macro_rules | `(tactic| walk_at "exec For") => `(tactic| (k_here; with_reducible refine Stop.intro ?_))
set_option maxHeartbeats 8000000 in
theorem c_inorder (w : World) (loose : List Str) (mean : ExcName → Option Value) (mg mb : Str → Option Value) (news : List (Addr × Obj)) (ka oa : Addr) (nk no : Nat) (ks os : List (Int × Tok)) :
    CbClaim PySem.Challenge.rw_wf0005_01.row.prog w (wfhd.heap_39 w.params) wfhd.view_39 loose mean mg mb 91 news [] ((ka, listOf (vals ks).toArray nk) ∈ news ∧ (oa, listOf (vals os).toArray no) ∈ news ∧ (os.map fun p => p.1).Perm (ks.map fun p => p.1) ∧ ks.length ≤ 1000) [.ref ka, .ref oa] (fun _ => .bool (inOrd (ks.map fun p => p.1).reverse (os.map fun p => p.1))) := by
  k_fill
  dsimp only [CbClaim, CbLists, CbRet]
  intros; rename_i hv _ _ hret
  refine wpAny_call ?_
  k_dflt cell_enter
  k_steps
  refine Stop.out ?_
  obtain ⟨hka, hoa, hperm, hkl⟩ := hv
  rename Fr _ _ _ _ => F
  rename News _ _ _ _ => N
  refine list_copyK F N (N.isList hka) (fun D cc h' F' N' l1 => ?_) (by simp [vals]; rw [sizeLine_eq]; omega)
  k_steps
  refine Stop.out ?_
  rename Fr _ _ _ _ => F2
  rename News _ _ _ _ => N2
  rename Shared => sh
  obtain ⟨m0, F2, hm0⟩ := frTail (z := Str.ofString "order") (u := .ref oa) F2 (by with_unfolding_all rfl)
  try clear F' N'
  (with_unfolding_all refine' for_mk (vals os) (fun c : OrdSt => fun y => if y = Str.ofString "left" then some (Value.ref D) else c.m y) (fun c => (D, listOf (vals c.l).toArray c.n) :: news) (fun i c => OrdP ks os i c) (fun gs => gs = sh.gens) ⟨ks, cc, m0⟩ rfl rfl rfl rfl ?h ?same ?hs ?hE)
  case same => intro c; rfl
  case hs => intro _; rfl
  case hE => passes_own
  case h =>
    refine ld F2 (v := .ref oa) (by rw [if_neg (by decide)]; exact hm0) ?_
    refine ⟨oa, no, rfl, F2, N2, fun c => List.mem_cons_of_mem _ hoa, ⟨by simpa using hperm, hkl, by simp⟩, rfl, ?turn, ?done⟩
    case done =>
      rintro c h tk gs hP rfl F3 N3
      have e : inOrd (ks.map fun p => p.1).reverse (os.map fun p => p.1) = true := by
        rw [hP.2.2, show (vals os).length = os.length from by simp [vals], List.drop_length]
        rfl
      simp only [e] at hret
      k_steps
      apply hret <;> first | assumption | exact cb_drop (by assumption) (fun p hp => List.mem_cons_of_mem _ hp)
    case turn =>
      rintro it oi i v c h tk gs hi hP rfl hit F3 N3 hap
      obtain ⟨⟨kd, kt⟩, hos, rfl⟩ : ∃ p : Int × Tok, os[i]? = some p ∧ v = Value.int p.1 p.2 := by
        unfold vals at hi
        rw [List.getElem?_map] at hi
        cases e : os[i]? with
        | none => rw [e] at hi; cases hi
        | some p => rw [e] at hi; exact ⟨p, rfl, (Option.some.inj hi).symm⟩
      obtain ⟨hp1, hp2, hp3⟩ := hP
      dsimp only at N3 F3 ⊢
      clear F2 N2 hi
      have hil : i < os.length := by
        cases Nat.lt_or_ge i os.length with
        | inl h => exact h
        | inr hh => rw [List.getElem?_eq_none hh] at hos; cases hos
      have hdr : (os.drop i).map (fun p => p.1) = kd :: (os.drop (i + 1)).map (fun p => p.1) := by
        rw [List.drop_eq_getElem_cons hil]
        have : os[i] = (kd, kt) := by simpa [hil] using hos
        rw [this]
        rfl
      rw [hdr] at hp1 hp3
      have hkm : kd ∈ c.l.map (fun p => p.1) := hp1.subset (List.mem_cons_self ..)
      have hne : c.l ≠ [] := by
        rintro e
        rw [e] at hkm
        cases hkm
      obtain ⟨lp, ⟨z, zt⟩, hlz⟩ : ∃ lp q, c.l = lp ++ [q] := ⟨c.l.dropLast, c.l.getLast hne, (List.dropLast_concat_getLast hne).symm⟩
      have hhead : ((c.l.map fun p => p.1).reverse).head? = some z := by rw [hlz]; simp
      rw [show inOrd (c.l.map fun p => p.1).reverse (kd :: (os.drop (i + 1)).map fun p => p.1) = if kd = 0 ∧ z = 1 then false else inOrd ((c.l.map fun p => p.1).reverse.erase kd) ((os.drop (i + 1)).map fun p => p.1) from by
        conv => lhs; unfold inOrd
        rw [hhead]
        simp only [Option.some.injEq]] at hp3
      have hDit : D ≠ it := Nat.ne_of_lt (hap (D, _) (List.mem_cons_self ..))
      k_steps
      · refine Stop.out ?_
        have hl := N3.isList (List.mem_cons_of_mem _ (List.mem_cons_self ..))
        refine subscriptTail_builtin hl.typeIs slot_list_getitem.lookup (wpAny_getItem_list_neg (x := .int z zt) hl (by decide) ?_ (by decide) ?_ ?_) (by with_unfolding_all rfl) (by intro _; with_unfolding_all rfl)
        · rw [hlz]; simp [vals]; omega
        · rw [hlz]
          simp only [vals, List.map_append, List.map_cons, List.map_nil, List.size_toArray, List.length_append, List.length_map, List.length_cons, List.length_nil]
          rw [show ((-1 : Int) + ((lp.length + (0 + 1) : Nat) : Int)).toNat = lp.length from by omega]
          simp
        · k_steps
          · have e := hp3.trans (if_pos ⟨by assumption, by assumption⟩)
            simp only [e] at hret
            dsimp only [FPost]
            k_steps
            apply hret <;> first | assumption | exact cb_drop (by assumption) (fun p hp => List.mem_cons_of_mem _ (List.mem_cons_of_mem _ hp))
          · have hq := hp3.trans (if_neg (by rintro ⟨_, _⟩; contradiction))
            refine Stop.out ?_
            refine Calls.call_len_list (N3.isList (List.mem_cons_of_mem _ (List.mem_cons_self ..))) (by simp [vals]; omega) ?_
            k_steps
            refine Stop.out ?_
            rename Fr _ _ _ _ => F4
            rename News _ _ _ _ => N4
            have esz : (((vals c.l).toArray.size : Int) - 1) = ((lp.length : Nat) : Int) := by
              rw [hlz]
              simp [vals]
            rw [esz] at F4
            (with_unfolding_all refine' while_mk (fun q : Nat × Tok => fun y => if y = Str.ofString "k" then some (Value.int q.1 q.2) else if y = Str.ofString "kind" then some (Value.int kd kt) else if y = Str.ofString "left" then some (Value.ref D) else c.m y) (fun q => q.1 < c.l.length ∧ ∀ j', q.1 < j' → (c.l.map fun p => p.1)[j']? ≠ some kd) (fun q => q.1) (lp.length, _) F4 N4 ?hmA ?hPA ?turnA ?hEA)
            case hEA => passes_own
            case hmA => rfl
            case hPA =>
              refine ⟨by rw [hlz]; simp, fun j' hj' => ?_⟩
              dsimp only at hj'
              rw [List.getElem?_eq_none (by rw [hlz]; simp; omega)]
              simp
            case turnA =>
              clear F4 N4 F3 N3
              rintro ⟨j, t⟩ h3 tk3 ⟨hj1, hj2⟩ F5 N5
              dsimp only at hj1 hj2 F5 N5
              have hl5 := N5.isList (List.mem_cons_of_mem _ (List.mem_cons_self ..))
              k_steps
              refine Stop.out ?_
              refine subscriptTail_builtin hl5.typeIs slot_list_getitem.lookup (wpAny_getItem_list (x := .int c.l[j].1 c.l[j].2) hl5 (by omega) (by omega) ?hxA ?_) (by with_unfolding_all rfl) (by intro _; with_unfolding_all rfl)
              case hxA =>
                rw [Int.toNat_natCast]
                simpa using vals_get c.l j hj1
              have hgj : (c.l.map fun p => p.1)[j]? = some c.l[j].1 := by simp [hj1]
              generalize c.l[j].1 = z5 at hgj ⊢
              generalize c.l[j].2 = zt5
              k_steps
              · rename Fr _ _ _ _ => F6
                rename News _ _ _ _ => N6
                obtain ⟨t6, F6⟩ := frInt F6
                have hj0 : 0 < j := by
                  obtain ⟨q, hqm⟩ := List.mem_iff_getElem?.mp hkm
                  have h1 : ¬ j < q := fun hh => hj2 q hh hqm
                  have h2 : q ≠ j := by
                    rintro rfl
                    rw [hgj] at hqm
                    cases hqm
                    contradiction
                  omega
                refine wpost_next (j - 1, t6) F6 N6 ?em1A (fun _ h => h) ?hP1A ?hm1A
                case em1A =>
                  intro y
                  have e1 : ((j - 1 : Nat) : Int) = (j : Int) - 1 := by omega
                  dsimp only
                  rw [e1]
                  by_cases hy : y = Str.ofString "k"
                  · rw [if_pos hy, if_pos hy]
                  · rw [if_neg hy, if_neg hy, if_neg hy]
                case hP1A =>
                  refine ⟨by dsimp only; omega, fun j' hj' => ?_⟩
                  dsimp only at hj'
                  by_cases e : j' = j
                  · subst e
                    rw [hgj]
                    intro hh
                    cases hh
                    contradiction
                  · exact hj2 j' (by omega)
                case hm1A => dsimp only; omega
              · rename z5 = kd => ez
                subst ez
                refine Stop.out ?_
                refine my_popAt (us := vals c.l) (i := (j : Int)) F5 N5 (by omega) (by rw [Int.toNat_natCast]; exact vals_get c.l j hj1) (.tail (Ne.symm hDit) (.head fun p hp => Nat.ne_of_lt (l1 p hp))) (by simp [vals]; rw [sizeLine_eq]; omega) fun h7 F7 N7 => ?_
                rw [Int.toNat_natCast, vals_erase] at N7
                k_steps
                refine fpost_next ⟨c.l.eraseIdx j, c.n + 1, fun y => if y = Str.ofString "k" then some (.int j t) else if y = Str.ofString "kind" then some (.int z5 kt) else c.m y⟩ F7 N7 ?em2A (fun p hp => List.mem_cons_of_mem _ hp) (List.mem_cons_self ..) ?hP2A rfl
                case em2A =>
                  intro y
                  dsimp only
                  by_cases h1 : y = Str.ofString "left"
                  · subst h1
                    rw [if_pos rfl, if_neg (by decide), if_neg (by decide), if_pos rfl]
                  · rw [if_neg h1, if_neg h1]
                case hP2A =>
                  have em : (c.l.eraseIdx j).map (fun p => p.1) = (c.l.map fun p => p.1).eraseIdx j := map_erase c.l j
                  have er := last_erase _ j z5 hgj hj2
                  refine ⟨?_, ?_, ?_⟩
                  · dsimp only
                    rw [em]
                    have p1 := (List.cons_perm_iff_perm_erase.mp (hp1.trans (List.reverse_perm _).symm)).2
                    rw [← er] at p1
                    exact p1.trans (List.reverse_perm _)
                  · dsimp only
                    exact Nat.le_trans (List.length_eraseIdx_le ..) hp2
                  · dsimp only
                    rw [hq, em, er]
      · have hq := hp3.trans (if_neg (by rintro ⟨_, _⟩; contradiction))
        refine Stop.out ?_
        refine Calls.call_len_list (N3.isList (List.mem_cons_of_mem _ (List.mem_cons_self ..))) (by simp [vals]; omega) ?_
        k_steps
        refine Stop.out ?_
        rename Fr _ _ _ _ => F4
        rename News _ _ _ _ => N4
        have esz : (((vals c.l).toArray.size : Int) - 1) = ((lp.length : Nat) : Int) := by
          rw [hlz]
          simp [vals]
        rw [esz] at F4
        (with_unfolding_all refine' while_mk (fun q : Nat × Tok => fun y => if y = Str.ofString "k" then some (Value.int q.1 q.2) else if y = Str.ofString "kind" then some (Value.int kd kt) else if y = Str.ofString "left" then some (Value.ref D) else c.m y) (fun q => q.1 < c.l.length ∧ ∀ j', q.1 < j' → (c.l.map fun p => p.1)[j']? ≠ some kd) (fun q => q.1) (lp.length, _) F4 N4 ?hmB ?hPB ?turnB ?hEB)
        case hEB => passes_own
        case hmB => rfl
        case hPB =>
          refine ⟨by rw [hlz]; simp, fun j' hj' => ?_⟩
          dsimp only at hj'
          rw [List.getElem?_eq_none (by rw [hlz]; simp; omega)]
          simp
        case turnB =>
          clear F4 N4 F3 N3
          rintro ⟨j, t⟩ h3 tk3 ⟨hj1, hj2⟩ F5 N5
          dsimp only at hj1 hj2 F5 N5
          have hl5 := N5.isList (List.mem_cons_of_mem _ (List.mem_cons_self ..))
          k_steps
          refine Stop.out ?_
          refine subscriptTail_builtin hl5.typeIs slot_list_getitem.lookup (wpAny_getItem_list (x := .int c.l[j].1 c.l[j].2) hl5 (by omega) (by omega) ?hxB ?_) (by with_unfolding_all rfl) (by intro _; with_unfolding_all rfl)
          case hxB =>
            rw [Int.toNat_natCast]
            simpa using vals_get c.l j hj1
          have hgj : (c.l.map fun p => p.1)[j]? = some c.l[j].1 := by simp [hj1]
          generalize c.l[j].1 = z5 at hgj ⊢
          generalize c.l[j].2 = zt5
          k_steps
          · rename Fr _ _ _ _ => F6
            rename News _ _ _ _ => N6
            obtain ⟨t6, F6⟩ := frInt F6
            have hj0 : 0 < j := by
              obtain ⟨q, hqm⟩ := List.mem_iff_getElem?.mp hkm
              have h1 : ¬ j < q := fun hh => hj2 q hh hqm
              have h2 : q ≠ j := by
                rintro rfl
                rw [hgj] at hqm
                cases hqm
                contradiction
              omega
            refine wpost_next (j - 1, t6) F6 N6 ?em1B (fun _ h => h) ?hP1B ?hm1B
            case em1B =>
              intro y
              have e1 : ((j - 1 : Nat) : Int) = (j : Int) - 1 := by omega
              dsimp only
              rw [e1]
              by_cases hy : y = Str.ofString "k"
              · rw [if_pos hy, if_pos hy]
              · rw [if_neg hy, if_neg hy, if_neg hy]
            case hP1B =>
              refine ⟨by dsimp only; omega, fun j' hj' => ?_⟩
              dsimp only at hj'
              by_cases e : j' = j
              · subst e
                rw [hgj]
                intro hh
                cases hh
                contradiction
              · exact hj2 j' (by omega)
            case hm1B => dsimp only; omega
          · rename z5 = kd => ez
            subst ez
            refine Stop.out ?_
            refine my_popAt (us := vals c.l) (i := (j : Int)) F5 N5 (by omega) (by rw [Int.toNat_natCast]; exact vals_get c.l j hj1) (.tail (Ne.symm hDit) (.head fun p hp => Nat.ne_of_lt (l1 p hp))) (by simp [vals]; rw [sizeLine_eq]; omega) fun h7 F7 N7 => ?_
            rw [Int.toNat_natCast, vals_erase] at N7
            k_steps
            refine fpost_next ⟨c.l.eraseIdx j, c.n + 1, fun y => if y = Str.ofString "k" then some (.int j t) else if y = Str.ofString "kind" then some (.int z5 kt) else c.m y⟩ F7 N7 ?em2B (fun p hp => List.mem_cons_of_mem _ hp) (List.mem_cons_self ..) ?hP2B rfl
            case em2B =>
              intro y
              dsimp only
              by_cases h1 : y = Str.ofString "left"
              · subst h1
                rw [if_pos rfl, if_neg (by decide), if_neg (by decide), if_pos rfl]
              · rw [if_neg h1, if_neg h1]
            case hP2B =>
              have em : (c.l.eraseIdx j).map (fun p => p.1) = (c.l.map fun p => p.1).eraseIdx j := map_erase c.l j
              have er := last_erase _ j z5 hgj hj2
              refine ⟨?_, ?_, ?_⟩
              · dsimp only
                rw [em]
                have p1 := (List.cons_perm_iff_perm_erase.mp (hp1.trans (List.reverse_perm _).symm)).2
                rw [← er] at p1
                exact p1.trans (List.reverse_perm _)
              · dsimp only
                exact Nat.le_trans (List.length_eraseIdx_le ..) hp2
              · dsimp only
                rw [hq, em, er]
end Mine
open PySem PySem.W PyProof.Rows PySem.Calls
namespace Mine
def LIter (o : Obj) (l : Addr) (i : Nat) : Prop := o.cls = .type "list_iterator" ∧ o.data = .fields #[.ref l, .int i 0]
section
variable {prog : Program} {w : World} {A : Around} {E : Value → Shared → Prop} {s : Shared} {h₀ : Heap} {L l it : Addr} {m : Str → Option Value} {news : List (Addr × Obj)} {g : Obj → List (Addr × Obj)} {io : Obj} {items : Array Value} {n i : Nat} {x : Value}
theorem kn_iter {Q : Value → Shared → Prop} (F : Fr h₀ L s.heap m) (N : News h₀ L s.heap news) (hl : (l, listOf items n) ∈ news)
    (h : ∀ (I : Addr) h' oI, Fr h₀ L h' m → News h₀ L h' ((I, oI) :: news) → (∀ p ∈ news, p.1 < I) → LIter oI l 0 → Q (.ref I) { s with heap := h' }) :
    wpAny (model prog w) A (call (.builtin "iter") [.ref l]) Q E s := by
  refine call_function_entry (by decide +kernel) (by decide +kernel) kdk_entry_iter (kdk_args_iter _) ?_
  unfold Builtin.«iter»
  refine wpAny_bind (m := someArgs "iter" 1 2 _) (wpAny_of_eq (a := [Value.ref l]) (by first | rfl | kernel_rfl!) ?_)
  show wpAny _ _ (pyIter (.ref l) >>= _) _ _ _
  refine wpAny_bind (wpAny_pyIter_list (N.isList hl) ?_)
  exact wpAny_pure ⟨_, rfl, h _ _ _ (F.push _) (News.push F N _ rfl) (fun q hq => Heap.lt_size (N q hq).1) ⟨rfl, rfl⟩⟩
theorem kn_next {Q : Value → Shared → Prop} (F : Fr h₀ L s.heap m) (N : News h₀ L s.heap news) (U : UpdF it io news g) (hi : LIter io l i) (hl : (l, listOf items n) ∈ news) (hx : items[i]? = some x)
    (h : ∀ h' o', Fr h₀ L h' m → News h₀ L h' (g o') → LIter o' l (i + 1) → Q x { s with heap := h' }) :
    wpAny (model prog w) A (call (.builtin "next") [.ref it]) Q E s := by
  obtain ⟨pre, post, hl', hg, a, b⟩ := U.split
  have hmem : (it, io) ∈ news := by rw [hl']; exact List.mem_append_right _ (.head _)
  have hm := N (it, io) hmem
  have hit : s.heap.IsListIter it l i := ⟨io, hm.1, hi.1, hi.2⟩
  have hL := N.isList hl
  refine call_function_entry (by decide +kernel) (by decide +kernel) kdk_entry_next (kdk_args_next _) ?_
  unfold Builtin.«next»
  refine wpAny_bind (m := someArgs "next" 1 2 _) (wpAny_of_eq (a := [Value.ref it]) (by first | rfl | kernel_rfl!) ?_)
  dsimp only
  refine wpAny_bind (wpAny_specialOf (name := Str.ofString "__next__") hit.typeIs slot_listiter_next.lookup ?_)
  refine wpAny_ite_split (fun hab => absurd hab (by decide)) (fun _ => ?_)
  refine wpAny_bind ?_
  obtain ⟨o, ho, hc, hd⟩ := id hit
  obtain ⟨ol, hol, _, nl, hdl⟩ := id hL
  refine wpAny_callSpecial?_slot (name := Str.ofString "__next__") hit.typeIs slot_listiter_next
    (wpAny_call_entry slot_listiter_next hit.typeIs entry_listiter_next ?_ (args_listiter_next _))
  show wpAny _ _ (field (.ref it) 0 >>= _) _ _ s
  refine wpAny_bind (wpAny_field ho hd (x := .ref l) rfl ?_)
  show wpAny _ _ (if (Value.ref l == Value.none) = true then _ else _) _ _ s
  rw [if_neg (show ¬ ((Value.ref l == Value.none) = true) from Bool.false_ne_true)]
  show wpAny _ _ (field (.ref it) 1 >>= _) _ _ s
  refine wpAny_bind (wpAny_field ho hd (x := .int i 0) rfl ?_)
  show wpAny _ _ (seqItems? (.ref l) >>= _) _ _ s
  refine wpAny_bind (wpAny_seqItems hol hdl ?_)
  simp only [Int.toNat_natCast, hx]
  have hn := Heap.get?_update_self (Obj.mapFields (·.setIfInBounds 1 (rawInt ((i : Int) + 1)))) ho (Obj.isFreed_of_fields (Obj.data_mapFields hd _))
  refine wpAny_bind (wpAny_setField ho hd (by simp) (wpAny_pure ⟨x, rfl, wpAny_pure ⟨x, rfl, ?_⟩⟩))
  refine h _ _ (F.change (Heap.SameBut.update ..) hm.2.1 hm.2.2) (hg _ ▸ (show News h₀ L s.heap (pre ++ (it, io) :: post) from hl' ▸ N).setIn a b (Heap.SameBut.update ..) hn) ⟨(Obj.cls_mapFields ..).trans hc, by
    rw [Obj.data_mapFields hd]; simp [rawInt]⟩
theorem kn_end {Q : Value → Shared → Prop} (hh : A.handled = none) (F : Fr h₀ L s.heap m) (N : News h₀ L s.heap news) (U : UpdF it io news g) (hi : LIter io l i) (hl : (l, listOf items n) ∈ news) (hx : items[i]? = none)
    (h : ∀ h₁ h' o' e, Fr h₀ L h₁ m → News h₀ L h₁ (g o') → Heap.NewExc h₁ h' e "StopIteration" → E (.ref e) { s with heap := h' }) :
    wpAny (model prog w) A (call (.builtin "next") [.ref it]) Q E s := by
  obtain ⟨pre, post, hl', hg, a, b⟩ := U.split
  have hmem : (it, io) ∈ news := by rw [hl']; exact List.mem_append_right _ (.head _)
  have hm := N (it, io) hmem
  have hit : s.heap.IsListIter it l i := ⟨io, hm.1, hi.1, hi.2⟩
  have hL := N.isList hl
  refine call_function_entry (by decide +kernel) (by decide +kernel) kdk_entry_next (kdk_args_next _) ?_
  unfold Builtin.«next»
  refine wpAny_bind (m := someArgs "next" 1 2 _) (wpAny_of_eq (a := [Value.ref it]) (by first | rfl | kernel_rfl!) ?_)
  dsimp only
  refine wpAny_bind (wpAny_specialOf (name := Str.ofString "__next__") hit.typeIs slot_listiter_next.lookup ?_)
  refine wpAny_ite_split (fun hab => absurd hab (by decide)) (fun _ => ?_)
  refine wpAny_bind ?_
  obtain ⟨o, ho, hc, hd⟩ := id hit
  obtain ⟨ol, hol, _, nl, hdl⟩ := id hL
  refine wpAny_callSpecial?_slot (name := Str.ofString "__next__") hit.typeIs slot_listiter_next
    (wpAny_call_entry slot_listiter_next hit.typeIs entry_listiter_next ?_ (args_listiter_next _))
  show wpAny _ _ (field (.ref it) 0 >>= _) _ _ s
  refine wpAny_bind (wpAny_field ho hd (x := .ref l) rfl ?_)
  show wpAny _ _ (if (Value.ref l == Value.none) = true then _ else _) _ _ s
  rw [if_neg (show ¬ ((Value.ref l == Value.none) = true) from Bool.false_ne_true)]
  show wpAny _ _ (field (.ref it) 1 >>= _) _ _ s
  refine wpAny_bind (wpAny_field ho hd (x := .int i 0) rfl ?_)
  show wpAny _ _ (seqItems? (.ref l) >>= _) _ _ s
  refine wpAny_bind (wpAny_seqItems hol hdl ?_)
  simp only [Int.toNat_natCast, hx]
  have hn := Heap.get?_update_self (Obj.mapFields (·.setIfInBounds 0 Value.none)) ho (Obj.isFreed_of_fields (Obj.data_mapFields hd _))
  refine wpAny_bind (wpAny_rule (wpAny_bind (wpAny_setField ho hd (by simp) ?_)))
  show wpAny _ _ (newExc (.type "StopIteration") [] >>= _) _ _ _
  refine wpAny_bind ?_
  simp only [newExc, newTuple]
  refine wpAny_bind (wpAny_newObj_type ?_ (by size_fits))
  refine wpAny_bind (m := firstArgMember _ _) (wpAny_of_eq (a := Value.none) (by first | rfl | (simp only [firstArgMember]; rfl)) ?_)
  refine wpAny_newObj_type ?_ (by size_fits)
  simp only [raiseNew]
  refine wpAny_bind (wpAny_handled ?_)
  first | rw [show A.in1.in1.handled = none from hh] | rw [show A.in1.handled = none from hh] | rw [hh]
  refine wpAny_bind (wpAny_pure (wpAny_throw ?_))
  refine h _ _ _ _ (F.change (Heap.SameBut.update ..) hm.2.1 hm.2.2) (hg _ ▸ (show News h₀ L s.heap (pre ++ (it, io) :: post) from hl' ▸ N).setIn a b (Heap.SameBut.update ..) hn)
    ⟨fun b o hb => Heap.get?_push_of_some _ (Heap.get?_push_of_some _ hb), Heap.get?_none_of_le (by simp), _, .ref _, Heap.get?_push_size _ rfl, rfl, rfl⟩
end
def WPost2 {σ : Type} (h₀ : Heap) (L : Addr) (s : Shared) (mk : σ → Str → Option Value) (nw : σ → List (Addr × Obj)) (P : σ → Prop) (μ : σ → Nat) (Q : Flow → Shared → Prop) (c : σ) (f : Flow) (s₃ : Shared) : Prop :=
  match f with
  | .next | .cont => ∃ c' h' tk, s₃ = { s with heap := h', toks := tk } ∧ Fr h₀ L h' (mk c') ∧ News h₀ L h' (nw c') ∧ P c' ∧ μ c' < μ c
  | .brk => Q .next s₃
  | .ret v => Q (.ret v) s₃
theorem wpost2_next {σ : Type} {h₀ h' : Heap} {L : Addr} {s : Shared} {mk : σ → Str → Option Value} {m' : Str → Option Value} {nw : σ → List (Addr × Obj)} {news' : List (Addr × Obj)} {P : σ → Prop} {μ : σ → Nat} {Q : Flow → Shared → Prop} {c : σ} {tk : Nat} (c' : σ)
    (F : Fr h₀ L h' m') (N : News h₀ L h' news') (em : ∀ y, mk c' y = m' y) (hn : ∀ p ∈ nw c', p ∈ news') (hP : P c') (hm : μ c' < μ c) : WPost2 h₀ L s mk nw P μ Q c .next { s with heap := h', toks := tk } :=
  ⟨c', h', tk, rfl, frCast F em, fun p hp => N p (hn p hp), hP, hm⟩
section
variable {prog : Program} {w : World} {A : Around} {E : Value → Shared → Prop} {Q : Flow → Shared → Prop} {s : Shared} {env : Env} {h₀ : Heap} {L : Addr}
theorem while_mk2 {σ : Type} {test : Expr} {body : List Stmt} {pos : Pos} {m : Str → Option Value} {news : List (Addr × Obj)} (mk : σ → Str → Option Value) (nw : σ → List (Addr × Obj)) (P : σ → Prop) (μ : σ → Nat) (c₀ : σ)
    (F : Fr h₀ L s.heap m) (N : News h₀ L s.heap news) (hm : mk c₀ = m) (hn : nw c₀ = news) (hP : P c₀)
    (turn : ∀ c h tk, P c → Fr h₀ L h (mk c) → News h₀ L h (nw c) →
      wpAny (model prog w) A (isTrue test env (eval test env)) (fun b s₂ =>
        if b = true then wpAny (model prog w) A (execs body env) (WPost2 h₀ L s mk nw P μ Q c) E s₂ else Q .next s₂) E { s with heap := h, toks := tk })
    (hE : PassesOwn (model prog w) A env E := by passes_own) :
    wpAny (model prog w) A (exec (.While test body [] pos) env) Q E s := by
  subst hm
  subst hn
  refine While_inv2 (fun n m nx => ∃ c : σ, nx = nw c ∧ μ c = n ∧ m = mk c ∧ P c) F N ⟨c₀, rfl, rfl, rfl, hP⟩ ?_ hE
  rintro n m₁ nx h tk F₁ N₁ ⟨c, rfl, rfl, rfl, hp⟩
  refine wpAny_mono (turn c h tk hp F₁ N₁) (fun b s₂ p => ?_) fun _ _ x => x
  cases b with
  | false => simpa using p
  | true =>
    simp only [if_true] at p ⊢
    refine wpAny_mono p (fun f s₃ q => ?_) fun _ _ x => x
    cases f with
    | ret v => exact q
    | brk => exact q
    | next =>
      obtain ⟨c', h', tk', rfl, F', N', hp9, hm9⟩ := q
      exact ⟨h', tk', mk c', _, μ c', rfl, F', N', hm9, c', rfl, rfl, rfl, hp9⟩
    | cont =>
      obtain ⟨c', h', tk', rfl, F', N', hp9, hm9⟩ := q
      exact ⟨h', tk', mk c', _, μ c', rfl, F', N', hm9, c', rfl, rfl, rfl, hp9⟩
end
end Mine
namespace Mine
def vloop : Nat → Nat → List Nat → Option (Nat × List Nat)
  | val, b, [] => if b / 64 % 2 = 1 then none else some (val, [])
  | val, b, c :: r => if b / 64 % 2 = 1 then vloop (val * 64 + c % 64) c r else some (val, c :: r)
def varint : List Nat → Option (Nat × List Nat)
  | [] => none
  | b :: r => vloop (b % 64) b r
abbrev VarClaim (prog : Program) (w : World) (K : Frag) (p : Program) (loose : List Str) (mean : ExcName → Option Value) (mg mb : Str → Option Value) (f : Addr) (news : List (Addr × Obj)) (it l : Addr) (io : Obj) (cs : List (Nat × Tok)) (n i : Nat) : Prop :=
  ∀ (dp un : Nat) (gd : Option (List Code)) (cn : Str) (sc : Scope) (a : Addr) (ccd : Value) (cl : List (Str × Addr)) (outer : List Env) (A₀ : Around) (base h₀ : Heap) (L : Addr) (m : Str → Option Value) (s : Shared) (Q E : Value → Shared → Prop),
    Below A₀ base outer h₀ → Fr h₀ L s.heap m → K.In h₀ → News h₀ L s.heap ((it, io) :: news) → Top p loose mean mg mb h₀ → sc.kind = .function →
    LIter io l i → (l, listOf (vals (cs.map fun c => ((c.1 : Int), c.2))).toArray n) ∈ news → (∀ p ∈ news, p.1 ≠ it) → dp + 1 < recursionLimit → un + 8 < cLine → cs.length ≤ 1000000 →
    (∀ v r t h' tk' io', varint ((cs.drop i).map fun c => c.1) = some (v, r) → Fr h₀ L h' m → News h₀ L h' ((it, io') :: news) → LIter io' l (cs.length - r.length) → Q (.int (v : Int) t) { s with heap := h', toks := tk' }) →
    (∀ G e h' tk' io', varint ((cs.drop i).map fun c => c.1) = none → Fr h₀ L G m → RaisedSN base G (envX cn sc L a ccd cl :: outer) e (.type "StopIteration") ((it, io') :: news) h' → G.UpToSlots h' → E (.ref e) { s with heap := h', toks := tk' }) →
      wpAny (model prog w) (ktrTop dp un gd cn sc L a ccd cl outer) (call (.ref f) [.ref it]) Q E s
structure VarSt where
  j : Nat
  v : Nat
  b : Nat
  tv : Tok
  tb : Tok
  io : Obj
def VarP (l : Addr) (cs : List (Nat × Tok)) (i : Nat) (q : VarSt) : Prop :=
  LIter q.io l q.j ∧ i < q.j ∧ q.j ≤ cs.length ∧ q.v < 2 ^ (6 * (q.j - i)) ∧ varint ((cs.drop i).map fun c => c.1) = vloop q.v q.b ((cs.drop q.j).map fun c => c.1)
theorem frTwo {h₀ h : Heap} {L : Addr} {x y z : Str} {v u o : Value} {m0 : Str → Option Value} (F : Fr h₀ L h (fun k => if k = x then some v else if k = y then some u else m0 k)) (e : m0 z = some o) : ∃ m1 : Str → Option Value, Fr h₀ L h (fun k => if k = x then some v else if k = y then some u else if k = z then some o else m1 k) :=
  ⟨m0, frCast F fun k => by
    by_cases h1 : k = x
    · simp [h1]
    · by_cases h2 : k = y
      · simp [h2]
      · by_cases h3 : k = z
        · subst h3; simp [h1, h2, e]
        · simp [h1, h2, h3]⟩
theorem frInt2 {h₀ h : Heap} {L : Addr} {x : Str} {v : Int} {t : Tok} {r : Str → Option Value} (F : Fr h₀ L h (fun y => if y = x then some (.int v t) else r y)) : ∃ t', Fr h₀ L h (fun y => if y = x then some (.int v t') else r y) := ⟨t, F⟩
theorem and63 (b : Nat) : Builtin.bitAnd (b : Int) 63 = ((b % 64 : Nat) : Int) := by
  rw [bitAnd_m6]
  omega
theorem and64 (b : Nat) : Builtin.bitAnd (b : Int) 64 = if b / 64 % 2 = 1 then 64 else 0 := by
  rw [bitAnd_pp (by omega) (by decide), Int.toNat_natCast]
  have h6 : b.testBit 6 = decide (b / 64 % 2 = 1) := Nat.testBit_eq_decide_div_mod_eq
  have h1 : b &&& (64 : Int).toNat = if b / 64 % 2 = 1 then 64 else 0 := by
    show b &&& 2 ^ 6 = _
    apply Nat.eq_of_testBit_eq
    intro i
    rw [Nat.testBit_and, Nat.testBit_two_pow]
    by_cases h : b / 64 % 2 = 1
    · rw [if_pos h, show (64 : Nat) = 2 ^ 6 from rfl, Nat.testBit_two_pow]
      by_cases e : 6 = i
      · subst e
        simp [h6, h]
      · simp [e]
    · rw [if_neg h, Nat.zero_testBit]
      by_cases e : 6 = i
      · subst e
        simp [h6, h]
      · simp [e]
  rw [h1]
  split <;> rfl
theorem or64 (v b : Nat) : Builtin.bitOr ((v : Int) * 2 ^ 6) ((b % 64 : Nat) : Int) = ((v * 64 + b % 64 : Nat) : Int) := by
  have e : (v : Int) * 2 ^ 6 = ((v * 64 : Nat) : Int) := by omega
  rw [e, bitOr_and, bitAnd_pp (by omega) (by omega), Int.toNat_natCast, Int.toNat_natCast]
  have h1 : (v * 64) &&& (b % 64) = 0 := by
    apply Nat.eq_of_testBit_eq
    intro i
    rw [Nat.testBit_and, Nat.zero_testBit]
    by_cases hi : i < 6
    · have : (v * 64).testBit i = false := by
        rw [show v * 64 = v <<< 6 from by rw [Nat.shiftLeft_eq]]
        simp [Nat.testBit_shiftLeft]
        omega
      simp [this]
    · have : (b % 64).testBit i = false := by
        apply Nat.testBit_lt_two_pow
        have : 2 ^ 6 ≤ 2 ^ i := Nat.pow_le_pow_right (by decide) (by omega)
        omega
      simp [this]
  rw [h1]
  omega
local macro_rules | `(tactic| walk_at "inplaceOp LShift int int") => `(tactic| (k_here; with_reducible refine Stop.intro ?_))
local macro_rules | `(tactic| walk_at "call builtin:next") => `(tactic| (k_here; with_reducible refine Stop.intro ?_))
local macro_rules | `(tactic| walk_at "exec While") => `(tactic| (k_here; with_reducible refine Stop.intro ?_))
set_option maxHeartbeats 8000000 in
theorem c_varint (w : World) (loose : List Str) (mean : ExcName → Option Value) (mg mb : Str → Option Value) (news : List (Addr × Obj)) (it l : Addr) (io : Obj) (cs : List (Nat × Tok)) (n i : Nat) :
    VarClaim PySem.Challenge.rw_wf0005_01.row.prog w (wfhd.heap_39 w.params) wfhd.view_39 loose mean mg mb 53 news it l io cs n i := by
  k_fill
  dsimp only [VarClaim]
  intros
  rename_i hio hl hap hdp hun hcs hok hbad
  refine wpAny_call ?_
  k_dflt cell_enter
  k_steps
  refine Stop.out ?_
  rename Fr _ _ _ _ => F
  rename News _ _ _ _ => N
  cases hd : cs.drop i with
  | nil =>
    have hx : (vals (cs.map fun c => ((c.1 : Int), c.2))).toArray[i]? = none := by
      have := congrArg List.length hd
      rw [List.length_drop] at this
      simp only [List.length_nil] at this
      simp only [List.getElem?_toArray]
      exact List.getElem?_eq_none (by simp [vals]; omega)
    refine kn_end rfl F N (.head hap) hio (List.mem_cons_of_mem _ hl) hx fun h₁ h₂ o' e F1 N1 hne => ?_
    rename Below _ _ _ _ => B
    show wpAny _ _ (leaving _ _) _ _ _
    exact leave_newS B hne F1 N1 fun h' R _ U => hbad _ _ _ _ _ (by rw [hd]; rfl) (by assumption) R U
  | cons c r =>
    have hlt : i < cs.length := by
      have := congrArg List.length hd
      rw [List.length_drop] at this
      simp only [List.length_cons] at this
      omega
    have hci : cs[i]? = some c := by
      rw [← List.head?_drop, hd]
      rfl
    have hd1 : cs.drop (i + 1) = r := by
      rw [← List.tail_drop, hd]
      rfl
    have hx : (vals (cs.map fun c => ((c.1 : Int), c.2))).toArray[i]? = some (.int (c.1 : Int) c.2) := by
      simp only [List.getElem?_toArray]
      unfold vals
      rw [List.getElem?_map, List.getElem?_map, hci]
      rfl
    refine kn_next F N (.head hap) hio (List.mem_cons_of_mem _ hl) hx fun h₁ o' F1 N1 ho1 => ?_
    clear F N
    k_steps
    refine Stop.out ?_
    rename Fr _ _ _ _ => F2
    rename News _ _ _ _ => N2
    rw [and63] at F2
    obtain ⟨m0, F2⟩ := frTwo (z := Str.ofString "iterator") (o := .ref it) F2 (by with_unfolding_all rfl)
    (with_unfolding_all refine' while_mk2 (fun q : VarSt => fun k => if k = Str.ofString "val" then some (Value.int (q.v : Int) q.tv) else if k = Str.ofString "b" then some (Value.int (q.b : Int) q.tb) else if k = Str.ofString "iterator" then some (Value.ref it) else m0 k) (fun q => (it, q.io) :: news) (VarP l cs i) (fun q => cs.length - q.j) ⟨i + 1, c.1 % 64, c.1, _, c.2, o'⟩ F2 N2 ?hm rfl ?hP ?turn ?hE)
    case hm => rfl
    case hE => passes_own
    case hP =>
      refine ⟨ho1, by dsimp only; omega, by dsimp only; omega, ?_, ?_⟩
      · dsimp only
        rw [show i + 1 - i = 1 from by omega]
        omega
      · rw [hd, ← hd1]
        rfl
    case turn =>
      clear F2 N2
      rintro ⟨j, v, b, tv, tb, io2⟩ h3 tk3 ⟨hq1, hq2, hq3, hq4, hq5⟩ F5 N5
      dsimp only at hq1 hq2 hq3 hq4 hq5 F5 N5
      k_steps
      · rename Builtin.bitAnd _ _ ≠ 0 => hb
        have hb1 : b / 64 % 2 = 1 := by
          rw [and64] at hb
          by_cases h : b / 64 % 2 = 1
          · exact h
          · rw [if_neg h] at hb
            exact absurd rfl hb
        have hbits : Builtin.Int.intBits (v : Int) ≤ 6 * (j - i) := intBits_le (by simpa using hq4)
        refine Stop.out (ilshift_int (by decide) (by omega) ?_)
        k_steps
        refine Stop.out ?_
        rename Fr _ _ _ _ => F6
        rename News _ _ _ _ => N6
        cases hdj : cs.drop j with
        | nil =>
          have hxj : (vals (cs.map fun c => ((c.1 : Int), c.2))).toArray[j]? = none := by
            have := congrArg List.length hdj
            rw [List.length_drop] at this
            simp only [List.length_nil] at this
            simp only [List.getElem?_toArray]
            exact List.getElem?_eq_none (by simp [vals]; omega)
          refine kn_end rfl F6 N6 (.head hap) hq1 (List.mem_cons_of_mem _ hl) hxj fun h₁ h₂ o' e F1 N1 hne => ?_
          rename Below _ _ _ _ => B
          show wpAny _ _ (leaving _ _) _ _ _
          exact leave_newS B hne F1 N1 fun h' R _ U => hbad _ _ _ _ _ (by rw [hq5, hdj]; simp [vloop, hb1]) (by assumption) R U
        | cons c2 r2 =>
          have hltj : j < cs.length := by
            have := congrArg List.length hdj
            rw [List.length_drop] at this
            simp only [List.length_cons] at this
            omega
          have hcj : cs[j]? = some c2 := by
            rw [← List.head?_drop, hdj]
            rfl
          have hdj1 : cs.drop (j + 1) = r2 := by
            rw [← List.tail_drop, hdj]
            rfl
          have hxj : (vals (cs.map fun c => ((c.1 : Int), c.2))).toArray[j]? = some (.int (c2.1 : Int) c2.2) := by
            simp only [List.getElem?_toArray]
            unfold vals
            rw [List.getElem?_map, List.getElem?_map, hcj]
            rfl
          refine kn_next F6 N6 (.head hap) hq1 (List.mem_cons_of_mem _ hl) hxj fun h₁ o2 F1 N1 ho2 => ?_
          k_steps
          rename Fr _ _ _ _ => F7
          rename News _ _ _ _ => N7
          rw [and63, show Int.toNat 6 = 6 from rfl, or64] at F7
          obtain ⟨t7, F7⟩ := frInt2 F7
          refine wpost2_next ⟨j + 1, v * 64 + c2.1 % 64, c2.1, t7, c2.2, o2⟩ F7 N7 ?em7 (fun _ h => h) ?hP7 ?hm7
          case em7 =>
            intro y
            dsimp only
            by_cases h1 : y = Str.ofString "val"
            · rw [if_pos h1, if_pos h1]
            · by_cases h2 : y = Str.ofString "b"
              · rw [if_neg h1, if_neg h1, if_pos h2, if_pos h2]
              · rw [if_neg h1, if_neg h1, if_neg h1, if_neg h1, if_neg h2, if_neg h2, if_neg h2]
          case hP7 =>
            refine ⟨ho2, by dsimp only; omega, by dsimp only; omega, ?_, ?_⟩
            · dsimp only
              rw [show 6 * (j + 1 - i) = 6 * (j - i) + 6 from by omega, Nat.pow_add]
              generalize 2 ^ (6 * (j - i)) = X at hq4 ⊢
              omega
            · dsimp only
              rw [hq5, hdj, hdj1]
              simp [vloop, hb1]
          case hm7 => dsimp only; omega
      · rename Builtin.bitAnd _ _ = 0 => hb
        have hb1 : b / 64 % 2 ≠ 1 := by
          rw [and64] at hb
          intro h
          rw [if_pos h] at hb
          cases hb
        refine hok v ((cs.drop j).map fun c => c.1) _ _ _ io2 ?_ (by assumption) (by assumption) ?_
        · rw [hq5]
          cases (cs.drop j).map fun c => c.1 <;> simp [vloop, hb1]
        · rw [List.length_map, List.length_drop, show cs.length - (cs.length - j) = j from by omega]
          exact hq1
end Mine
namespace Mine
def nums : Nat → List Nat → List Nat
  | 0, _ => []
  | f + 1, l => match varint l with | none => [] | some (v, r) => v :: nums f r
theorem paired_codes : ∀ {cs : List Nat} {ys : List Value}, Paired (fun (c : Nat) r => Sealed (∃ t, r = Value.int (c : Int) t)) cs ys → ∃ l : List (Nat × Tok), l.map (fun c => c.1) = cs ∧ ys = vals (l.map fun c => ((c.1 : Int), c.2))
  | _, _, .nil => ⟨[], rfl, rfl⟩
  | _, _, .cons (a := c) h ht => by
    obtain ⟨t, rfl⟩ := h
    obtain ⟨l, h1, h2⟩ := paired_codes ht
    exact ⟨(c, t) :: l, by simp [h1], by simp [vals, h2]⟩
theorem vloop_suf : ∀ (l : List Nat) (v b v' : Nat) (r : List Nat), vloop v b l = some (v', r) → ∃ p, l = p ++ r
  | [], v, b, v', r, h => by
    unfold vloop at h
    split at h
    · cases h
    · cases h
      exact ⟨[], rfl⟩
  | c :: l, v, b, v', r, h => by
    unfold vloop at h
    split at h
    · obtain ⟨p, hp⟩ := vloop_suf l _ _ _ _ h
      exact ⟨c :: p, by rw [hp]; rfl⟩
    · cases h
      exact ⟨[], rfl⟩
theorem varint_suf {l r : List Nat} {v : Nat} (h : varint l = some (v, r)) : ∃ b p, l = b :: (p ++ r) := by
  cases l with
  | nil => cases h
  | cons b l =>
    obtain ⟨p, hp⟩ := vloop_suf l _ _ _ _ h
    exact ⟨b, p, by rw [hp]⟩
theorem nums_fuel : ∀ (f f' : Nat) (l : List Nat), l.length ≤ f → l.length ≤ f' → nums f l = nums f' l
  | 0, 0, _, _, _ => rfl
  | 0, f' + 1, l, h, _ => by
    have : l = [] := by cases l with | nil => rfl | cons a b => simp at h
    subst this
    rfl
  | f + 1, 0, l, _, h => by
    have : l = [] := by cases l with | nil => rfl | cons a b => simp at h
    subst this
    rfl
  | f + 1, f' + 1, l, h, h' => by
    unfold nums
    cases hv : varint l with
    | none => rfl
    | some x =>
      obtain ⟨v, r⟩ := x
      obtain ⟨b, p, e⟩ := varint_suf hv
      have el := congrArg List.length e
      simp only [List.length_cons, List.length_append] at el
      dsimp only
      rw [nums_fuel f f' r (by omega) (by omega)]
def numsOf (l : List Nat) : List Nat := nums l.length l
theorem numsOf_none {l : List Nat} (h : varint l = none) : numsOf l = [] := by
  unfold numsOf
  cases l with
  | nil => rfl
  | cons a b => simp [nums, h]
theorem numsOf_some {l r : List Nat} {v : Nat} (h : varint l = some (v, r)) : numsOf l = v :: numsOf r := by
  obtain ⟨b, p, e⟩ := varint_suf h
  have el := congrArg List.length e
  simp only [List.length_cons, List.length_append] at el
  unfold numsOf
  rw [el]
  show (match varint l with | none => [] | some (v, r) => v :: nums _ r) = _
  rw [h]
  dsimp only
  rw [nums_fuel _ r.length r (by omega) (Nat.le_refl _)]
theorem frTold {h₀ h : Heap} {L I D T : Addr} {x y : Str} {u : Value} {m0 : Str → Option Value} {news rest : List (Addr × Obj)} {o : Obj} (F : Fr h₀ L h (fun k => if k = x then some (.ref T) else if k = y then some u else m0 k))
    (N : News h₀ L h ((T, o) :: rest)) (l : I < T ∧ D < T ∧ AllLt T news) : ∃ (T : Addr) (m1 : Str → Option Value), Fr h₀ L h (fun k => if k = x then some (.ref T) else if k = y then some u else m1 k) ∧ News h₀ L h ((T, o) :: rest) ∧ (I < T ∧ D < T ∧ AllLt T news) := ⟨T, m0, F, N, l⟩
theorem allLt_out {d : Nat} : ∀ {l : List (Addr × Obj)}, AllLt d l → ∀ p ∈ l, @LT.lt Nat instLTNat p.1 d
  | [], _, _, h => nomatch h
  | q :: r, h, p, hp => by
    rcases List.mem_cons.mp hp with rfl | hp
    · exact h.1
    · exact allLt_out h.2 p hp
structure NumSt where
  lt : List (Int × Tok)
  n : Nat
  j : Nat
  io : Obj
def NumP (D : Addr) (cs : List (Nat × Tok)) (q : NumSt) : Prop :=
  LIter q.io D q.j ∧ q.j ≤ cs.length ∧ q.lt.length ≤ q.j ∧ (numsOf (cs.map fun c => c.1)).map (fun k : Nat => (k : Int)) = (q.lt.map fun p => p.1) ++ (numsOf ((cs.drop q.j).map fun c => c.1)).map (fun k : Nat => (k : Int))
theorem vals_push (l : List (Int × Tok)) (k : Int) (t : Tok) : (vals l).toArray.push (.int k t) = (vals (l ++ [(k, t)])).toArray := by
  simp [vals]
abbrev NumClaim (prog : Program) (w : World) (K : Frag) (p : Program) (loose : List Str) (mean : ExcName → Option Value) (mg mb : Str → Option Value) (f : Addr) (news : List (Addr × Obj)) (x : Str) (t : Tok) : Prop :=
  ∀ (dp un : Nat) (gd : Option (List Code)) (cn : Str) (sc : Scope) (a : Addr) (ccd : Value) (A₀ : Around) (base h₀ : Heap) (L : Addr) (m : Str → Option Value) (s : Shared) (Q E : Value → Shared → Prop),
    Below A₀ base [] h₀ → Fr h₀ L s.heap m → K.In h₀ → News h₀ L s.heap news → Top p loose mean mg mb h₀ → K.In base → Top p loose mean mg mb base → sc.kind = .function → x.length ≤ 100000 → dp + 4 < recursionLimit → un + 20 < cLine →
    (∀ D c (lt : List (Int × Tok)) h' tk', lt.map (fun p => p.1) = (numsOf x.cps.toList).map (fun k : Nat => (k : Int)) → Fr h₀ L h' m → News h₀ L h' ((D, listOf (vals lt).toArray c) :: news) → Q (.ref D) { s with heap := h', toks := tk' }) →
      wpAny (model prog w) (ktrTop dp un gd cn sc L a ccd [] []) (call (.ref f) [.str x t]) Q E s
local macro_rules | `(tactic| walk_at "eval ListComp") => `(tactic| (k_here; with_reducible refine Stop.intro ?_))
local macro_rules | `(tactic| walk_at "call builtin:iter") => `(tactic| (k_here; with_reducible refine Stop.intro ?_))
local macro_rules | `(tactic| walk_at "exec Try") => `(tactic| (k_here; with_reducible refine Stop.intro ?_))
local macro_rules | `(tactic| walk_at "exec While") => `(tactic| (k_here; with_reducible refine Stop.intro ?_))
local macro_rules | `(tactic| walk_at "call builtin:list.append") => `(tactic| (k_here; with_reducible refine Stop.intro ?_))
local macro_rules | `(tactic| walk_at "call ref") => `(tactic| (k_here; with_reducible refine Stop.intro ?_))
theorem nameB_comp {M : Model} {A : Around} {E : Value → Shared → Prop} {s : Shared} {K : Frag} {h₀ : Heap} {L a C : Addr} {m mg mb : Str → Option Value} {cn : Str} {cs scope : Scope} {ccd : Value} {p : Program} {loose : List Str} {mean : ExcName → Option Value}
    {x : Str} {pos : Pos} {v : Value} {Q : Value → Shared → Prop} (F : Fr h₀ L s.heap m) (X : K.In h₀) (T : Top p loose mean mg mb h₀) (e : nsIn K mainGlobals x = some none) (hv : bootBuiltins x = some v) (hn : x ≠ "__name__") (h : Q v s)
    (hk : scope.kind = .function := by rfl) (hx : (compEnv scope C (envOf cn cs L a ccd)).kindOf x = some .globalImplicit := by rfl) (hd : (x == ("__debug__" : Str)) = false := by decide) :
    wpAny M A (eval (.Name x pos) (compEnv scope C (envOf cn cs L a ccd))) Q E s :=
  have P : TopRead p loose mg mb h₀ := topRead_of T
  Calls.Name_function_global hk hx (Calls.loadGlobal_builtin (env := compEnv scope C (envOf cn cs L a ccd)) (P.g.keeps F.keep) (mg_none_of X P.g e) (P.b.keeps F.keep) ((P.builtins x hn).trans hv) h) hd
local macro_rules | `(tactic| walk_at "eval Name") => `(tactic| (k_here; (with_reducible show wpAny _ _ (eval (Expr.Name (PySem.Str.ofString "ord") _) _) _ _ _); with_reducible refine Stop.intro ?_))
set_option maxHeartbeats 8000000 in
theorem c_numbers (w : World) (loose : List Str) (mean : ExcName → Option Value) (mg mb : Str → Option Value) (news : List (Addr × Obj)) (x : Str) (t : Tok) :
    NumClaim PySem.Challenge.rw_wf0005_01.row.prog w (wfhd.heap_39 w.params) wfhd.view_39 loose mean mg mb 96 news x t := by
  k_fill
  dsimp only [NumClaim]
  intros
  rename_i hXB hTB hk hlen hdp hun hret
  refine wpAny_call ?_
  k_dflt (refine' code_defS0 ?k1 ?k2 ?k3 ?k4 ?k5 ?kA ?k6 ?k7 ?k8 ?k9 ?kB ?_ ?cK ?c2 ?c3 ?c4 ?c5; (case kA => exact rfl); (case k2 => k_asm); (case k1 => k_asm); (case k3 => assumption); (case k4 => k_asm); (case k5 => assumption); (case k6 => k_is); (case k7 => k_is); (case k8 => ktr_room); (case k9 => first | exact binds_K (by k_in) rfl (by k_is) rfl rfl rfl | exact BindsTo.of_eq rfl); (case kB => exact locs rfl); (case cK => exact hk); (case c2 => exact rfl); (case c3 => exact rfl); (case c4 => exact rfl); (case c5 => decide); k_whole; intro g' L' h' FG' F' N' B' X' T' D'; (try dsimp only); (try k_lift B'); (try k_fold))
  k_steps
  refine Stop.out ?_
  rename Fr _ _ _ _ => F
  rename News _ _ _ _ => N
  have eX : x.cps.toList.length = x.length := by simp [Str.length]
  (with_unfolding_all refine' comp_str (fun c r => Sealed (∃ t, r = Value.int (c : Int) t)) rfl ?c1 ?c2 rfl ?c3 rfl ?h ?hs)
  case c1 => decide
  case c2 => decide
  case c3 => decide
  case hs => intro _; rfl
  case h =>
    (with_unfolding_all refine' ld F (v := Value.str x t) rfl ?_ rfl rfl (by decide))
    refine ⟨x, t, rfl, by rw [sizeLine_eq]; omega, F, N, ?elt, ?fin⟩
    case elt =>
      clear F N hXB hTB
      intro C c u s₂ m₂ E' hc F N hn hm htk
      k_steps
      refine Stop.out ?_
      refine nameB_comp F X' T' (by k_is) PyProof.Rows.boot_ord (by decide) ?_
      k_steps
      · exact ⟨_, rfl⟩
      · exact ⟨_, _, rfl, fun _ _ e => e⟩
    case fin =>
      clear F N
      intro D ys h' tk F N hD hl hpl hp
      obtain ⟨cs, hcs, hys⟩ := paired_codes hp
      obtain ⟨⟨nD, hDg⟩, hDn⟩ := id hpl
      have N2 : News _ _ h' ((D, listOf ys.toArray nD) :: news) := fun p hp => by
        rcases List.mem_cons.mp hp with rfl | hp
        · exact ⟨hDg, hpl.ne_locals F, hD⟩
        · exact N p hp
      clear N
      rw [hys] at N2
      dsimp only
      k_steps
      refine Stop.out ?_
      rename Fr _ _ _ _ => F3
      rename News _ _ _ _ => N3
      refine kn_iter F3 N3 (List.mem_cons_self ..) fun I h4 oI F4 N4 l4 hoI => ?_
      k_steps
      refine Stop.out ?_
      refine wpAny_Try_except ?_
      k_steps
      refine Stop.out ?_
      rename Fr _ _ _ _ => F5
      rename News _ _ _ _ => N5
      rename (I < _ ∧ _ ∧ _) => l5
      obtain ⟨T, m0, F5, N5, l5⟩ := frTold F5 N5 l5
      (with_unfolding_all refine' while_mk2 (fun _ : NumSt => fun k => if k = Str.ofString "told" then some (Value.ref T) else if k = Str.ofString "octets" then some (Value.ref I) else m0 k) (fun q => (T, listOf (vals q.lt).toArray q.n) :: (I, q.io) :: (D, listOf (vals (cs.map fun c => ((c.1 : Int), c.2))).toArray nD) :: news) (NumP D cs) (fun q => cs.length - q.j) ⟨[], 0, 0, oI⟩ F5 N5 ?hm rfl ?hP ?turn ?hE)
      case hm => rfl
      case hE => passes_own
      case hP => exact ⟨hoI, Nat.zero_le _, Nat.le_refl _, by simp⟩
      case turn =>
        clear F5 N5
        rintro ⟨lt, n6, j, io6⟩ h6 tk6 ⟨hq1, hq2, hq3, hq4⟩ F6 N6
        dsimp only at hq1 hq2 hq3 hq4 F6 N6
        k_steps
        refine Stop.out ?_
        have hlc : cs.length = x.length := by
          rw [← eX, ← hcs, List.length_map]
        have hallT : ∀ p ∈ news, p.1 < T := fun p hp => allLt_out l5.2.2 p hp
        have hID : D < I := l4 (D, _) (List.mem_cons_self ..)
        (with_unfolding_all refine' (c_varint w loose mean mg mb ((T, listOf (vals lt).toArray n6) :: (D, listOf (vals (cs.map fun c => ((c.1 : Int), c.2))).toArray nD) :: news) I D io6 cs nD j) _ _ _ _ _ _ _ _ _ _ _ _ _ _ _ _ _ ?B ?F ?X ?N ?Tt ?k hq1 ?mem ?hap ?d ?u ?len ?ok ?bad)
        case B => exact B'
        case F => exact F6
        case X => exact X'
        case N =>
          refine N6.perm (fun p hp => ?_)
          simp only [List.mem_cons] at hp ⊢
          rcases hp with h | h | h | h
          · exact .inr (.inl h)
          · exact .inl h
          · exact .inr (.inr (.inl h))
          · exact .inr (.inr (.inr h))
        case Tt => exact T'
        case k => rfl
        case mem => exact List.mem_cons_of_mem _ (List.mem_cons_self ..)
        case hap =>
          intro p hp
          rcases List.mem_cons.mp hp with rfl | hp
          · exact Nat.ne_of_gt l5.1
          · exact Nat.ne_of_lt (l4 p hp)
        case d => ktr_room
        case u => ktr_units
        case len => omega
        case ok =>
          intro v r t7 h7 tk7 io7 hv F7 N7 hio7
          clear F6 N6
          dsimp only
          k_steps
          refine Stop.out ?_
          refine append_K F7 N7 (.tail (Nat.ne_of_lt l5.1) (.head fun p hp => ?_)) (fun h8 F8 N8 => ?_) (by simp [vals]; rw [sizeLine_eq]; omega)
          · rcases List.mem_cons.mp hp with rfl | hp
            · exact Nat.ne_of_lt l5.2.1
            · exact Nat.ne_of_lt (hallT p hp)
          obtain ⟨b0, p0, e0⟩ := varint_suf hv
          have el := congrArg List.length e0
          simp only [List.length_map, List.length_drop, List.length_cons, List.length_append] at el
          have er : (cs.drop (cs.length - r.length)).map (fun c => c.1) = r := by
            have h1 : cs.drop (cs.length - r.length) = (cs.drop j).drop (p0.length + 1) := by
              rw [List.drop_drop]
              congr 1
              omega
            rw [h1, List.map_drop, e0]
            simp
          rw [vals_push] at N8
          k_steps
          refine wpost2_next ⟨lt ++ [((v : Int), t7)], n6 + 1, cs.length - r.length, io7⟩ F8 N8 (fun _ => rfl) (fun p hp => ?_) ⟨hio7, by dsimp only; omega, by simp; omega, ?_⟩ (by dsimp only; omega)
          · simp only [List.mem_cons] at hp ⊢
            rcases hp with h | h | h | h
            · exact .inr (.inl h)
            · exact .inl h
            · exact .inr (.inr (.inl h))
            · exact .inr (.inr (.inr h))
          · dsimp only
            rw [hq4, er, numsOf_some hv]
            simp
        case bad =>
          intro G e h7 tk7 io7 hv F7 R7 U7
          clear F6 N6
          dsimp only
          refine caught_SN0 (T' := "StopIteration") R7 F7 B' U7 hXB hTB D' KtsTurn.refl ?ex ?boot (by decide) owsi_raise.isExc ?nt ?sub ?_
          case ex => k_is
          case boot => decide +kernel
          case nt => rw [isSubtype_type]; kernel_rfl
          case sub => rw [isSubtype_type]; kernel_rfl
          intro h8 g8 T8 F8 N8 B8 X8 P8 D8
          clear B' X' T' D'
          k_steps
          refine hret T n6 lt _ _ ?_ (by assumption) (cb_drop (by assumption) fun p hp => ?_)
          · rw [numsOf_none hv, hcs] at hq4
            rw [hq4]
            simp
          · rcases List.mem_cons.mp hp with rfl | hp
            · exact List.mem_cons_of_mem _ (List.mem_cons_self ..)
            · exact List.mem_cons_of_mem _ (List.mem_cons_of_mem _ (List.mem_cons_of_mem _ hp))
end Mine
namespace Mine
theorem vals_length (us : List (Int × Tok)) : (vals us).length = us.length := by simp [vals]
theorem paired_vals {G : Int × Tok → Value → Prop} : ∀ {us : List (Int × Tok)} {ys : List Value}, Paired (fun v r => ∃ p : Int × Tok, v = Value.int p.1 p.2 ∧ G p r) (vals us) ys → Paired G us ys
  | [], _, h => by cases h; exact .nil
  | (k, t) :: us, _, h => by
    cases h with
    | cons hF ht =>
      obtain ⟨⟨k', t'⟩, e, hG⟩ := hF
      have e : Value.int k t = Value.int k' t' := e
      cases e
      exact .cons hG (paired_vals ht)
theorem paired_ints {α : Type} {f : α → Int} : ∀ {cs : List α} {ys : List Value}, Paired (fun c r => Sealed (∃ t, r = Value.int (f c) t)) cs ys → ∃ l : List (Int × Tok), l.map (fun p => p.1) = cs.map f ∧ ys = vals l
  | _, _, .nil => ⟨[], rfl, rfl⟩
  | _, _, .cons (a := c) h ht => by
    obtain ⟨t, rfl⟩ := h
    obtain ⟨l, h1, h2⟩ := paired_ints ht
    exact ⟨(f c, t) :: l, by simp [h1], by simp [vals, h2]⟩
theorem ints_vals : ∀ {vs : List Value} {ns : List Int}, IntsAre vs ns → ∃ us : List (Int × Tok), vs = vals us ∧ us.map (fun p => p.1) = ns
  | _, _, .nil => ⟨[], rfl, rfl⟩
  | _, _, .cons n t h => by
    obtain ⟨us, h1, h2⟩ := ints_vals h
    exact ⟨(n, t) :: us, by simp [vals, h1], by simp [h2]⟩
section
variable {prog : Program} {w : World} {A : Around} {E : Value → Shared → Prop} {s : Shared} {h₀ : Heap} {L : Addr} {m : Str → Option Value} {news : List (Addr × Obj)} {env : Env}
theorem comp_ints {elt iter : Expr} {x : Str} {px : Pos} {scope : Scope} {pos : Pos} {Q : Value → Shared → Prop} (G : Int × Tok → Value → Prop)
    (hh : A.handled = none) (hfree : ∀ y ∈ scope.names, y.2 ≠ .free) (hcell : ∀ y ∈ scope.names, y.2 ≠ .cell) (hkind : scope.kind = .function)
    (hnames : ∀ y ∈ scope.names, y.2 = .local → scope.names.lookup y.1 = some .local) (hx : scope.names.lookup x = some .local)
    (h : wpAny (model prog w) A (eval iter env) (fun xv s₁ => Sealed (∃ l us, xv = .ref l ∧ s₁.heap.IsList l (vals us).toArray ∧ us.length ≤ sizeLine ∧ Fr h₀ L s₁.heap m ∧ News h₀ L s₁.heap news ∧
      (∀ C p s₂ m₂ E', p ∈ us → Fr h₀ L s₂.heap m → News h₀ L s₂.heap news → s₂.heap.Ns (compEnv scope C env).locals m₂ → m₂ x = some (.int p.1 p.2) → s₁.toks ≤ s₂.toks →
        wpAny (model prog w) A (eval elt (compEnv scope C env)) (fun r s₃ => G p r ∧ Keeps s₂ s₃) E' s₂) ∧
      (∀ D (ys : List Value) n h' tk, Fr h₀ L h' m → News h₀ L h' ((D, listOf ys.toArray n) :: news) → (∀ p ∈ news, p.1 ≠ D) → Paired G us ys → Q (.ref D) { s₁ with heap := h', toks := tk }))) E s)
    (hs : ∀ x, foldedSetIterable iter env x = pure x) :
    wpAny (model prog w) A (eval (.ListComp elt [⟨.Name x px, iter, [], 0⟩] scope pos) env) Q E s := by
  refine wpAny_ListComp_walk (fun _ => true) (fun v r => ∃ p : Int × Tok, v = .int p.1 p.2 ∧ G p r) hfree hcell hkind hnames hx
    (wpAny_mono h (fun xv s₁ h₁ => ?_) fun _ _ e => e) hs
  obtain ⟨l, us, rfl, hl, hsz, F, N, helt, hQ⟩ := h₁
  have hlt : l < s₁.heap.objs.size := by obtain ⟨ol, hol, _⟩ := id hl; exact Heap.lt_size hol
  refine wpAny_pyIter_list hl ?_
  have W := Walks.list (prog := prog) (w := w) (A := A) hh s₁.heap.objs.size l (Nat.ne_of_lt hlt) (vals us).toArray
  have up : ∀ (h' : Heap), (∀ b o', b ∉ [s₁.heap.objs.size] → (s₁.heap.push { cls := .type "list_iterator", data := .fields #[.ref l, .int 0 0] }).get? b = some o' → h'.get? b = some o') → ∀ b o', s₁.heap.get? b = some o' → h'.get? b = some o' :=
    fun h' hk b o' e => hk b o' (old_not_new e) (Heap.get?_push_of_some _ e)
  refine ⟨_, _, _, _, _, _, rfl, W, by simp [vals]; exact hsz, ⟨⟨_, Heap.get?_push_size _ rfl, rfl, rfl⟩, hl.at fun o e => Heap.get?_push_of_some _ e⟩, ?_, ⟨?_, ?_⟩, ?_⟩
  · intro b hb
    show b < (s₁.heap.push _).objs.size
    rw [Heap.size_push]
    rcases List.mem_cons.mp hb with rfl | hb
    · exact Nat.lt_succ_self _
    · rw [List.mem_singleton.mp hb]; exact Nat.lt_succ_of_lt hlt
  · intro C i v s₃ m₃ E' hP hn hm _ _
    exact wpAny_pure ⟨rfl, s₃.heap, s₃.toks, rfl, fun _ _ e => e⟩
  · intro C i v s₃ m₃ E' hP _ hn hm hk htk
    have hP' : (vals us)[i]? = some v := by simpa using hP
    unfold vals at hP'
    rw [List.getElem?_map] at hP'
    cases hp : us[i]? with
    | none => rw [hp] at hP'; cases hP'
    | some p =>
      rw [hp] at hP'
      cases hP'
      exact wpAny_mono (helt C p s₃ m₃ E' (List.mem_of_getElem? hp) (F.keeps (up _ hk)) (N.grown (up _ hk)) hn hm htk) (fun r s₄ h₄ => ⟨⟨p, rfl, h₄.1⟩, h₄.2⟩) fun _ _ e => e
  · intro D h' tk ys vs hnew hlD hplD hlen hP hF hk
    rw [List.filter_eq_self.mpr (fun _ _ => rfl)] at hF
    have hvs : vs = vals us := by
      apply List.ext_getElem?
      intro j
      by_cases hj : j < vs.length
      · obtain ⟨v, hv⟩ : ∃ v, vs[j]? = some v := ⟨vs[j], by simp [hj]⟩
        have := hP j v hv
        rw [hv]
        simpa using this.symm
      · rw [List.getElem?_eq_none (by omega), List.getElem?_eq_none (by simp at hlen; omega)]
    subst hvs
    obtain ⟨n, hD⟩ := id hplD
    have hDn : ∀ b o, s₁.heap.get? b = some o → b ≠ D := fun b o e => by
      rintro rfl
      rw [Heap.get?_push_of_some _ e] at hnew
      cases hnew
    have F' := F.keeps (up h' hk)
    refine hQ D ys.toList n h' tk F' (fun p hp => ?_) (fun p hp => hDn _ _ (N p hp).1) (paired_vals hF)
    rcases List.mem_cons.mp hp with rfl | hp
    · refine ⟨by rw [Array.toArray_toList]; exact hD, ?_, ?_⟩
      · obtain ⟨oL, _, _, hoL, _⟩ := F.ns
        exact (hDn L oL hoL).symm
      · cases e : h₀.get? D with
        | none => rfl
        | some o => exact absurd rfl (hDn D o (F.keep D o e))
    · exact N.grown (up h' hk) p hp
theorem comp_intsA {elt iter : Expr} {x y : Str} {px py : Pos} {scope : Scope} {pos spos : Pos} {Q : Flow → Shared → Prop} (G : Int × Tok → Value → Prop)
    (hsw : swapsWith (.ListComp elt [⟨.Name x px, iter, [], 0⟩] scope pos) (some (.Name y py)) spos.line env = pure true)
    (hh : A.handled = none) (hfree : ∀ y ∈ scope.names, y.2 ≠ .free) (hcell : ∀ y ∈ scope.names, y.2 ≠ .cell) (hkind : scope.kind = .function)
    (hnames : ∀ y ∈ scope.names, y.2 = .local → scope.names.lookup y.1 = some .local) (hx : scope.names.lookup x = some .local)
    (hy : env.kindOf y = some .local) (hp : (env.scope.kind == .class || (env.scope.kind == .module && env.locals != env.globals)) = false) (hL : env.locals = L)
    (h : wpAny (model prog w) A (eval iter env) (fun xv s₁ => Sealed (∃ l us, xv = .ref l ∧ s₁.heap.IsList l (vals us).toArray ∧ us.length ≤ sizeLine ∧ Fr h₀ L s₁.heap m ∧ News h₀ L s₁.heap news ∧
      (∀ C p s₂ m₂ E', p ∈ us → Fr h₀ L s₂.heap m → News h₀ L s₂.heap news → s₂.heap.Ns (compEnv scope C env).locals m₂ → m₂ x = some (.int p.1 p.2) → s₁.toks ≤ s₂.toks →
        wpAny (model prog w) A (eval elt (compEnv scope C env)) (fun r s₃ => G p r ∧ Keeps s₂ s₃) E' s₂) ∧
      (∀ D (ys : List Value) n h' tk, Fr h₀ L h' (fun z => if z = y then some (.ref D) else m z) → News h₀ L h' ((D, listOf ys.toArray n) :: news) → (∀ p ∈ news, p.1 ≠ D) → Paired G us ys → Q .next { s₁ with heap := h', toks := tk }))) E s)
    (hs : ∀ x, foldedSetIterable iter env x = pure x) :
    wpAny (model prog w) A (exec (.Assign [.Name y py] (.ListComp elt [⟨.Name x px, iter, [], 0⟩] scope pos) spos) env) Q E s := by
  subst hL
  refine wpAny_Assign_ListComp_walk (fun _ => true) (fun v r => ∃ p : Int × Tok, v = .int p.1 p.2 ∧ G p r) hsw hfree hcell hkind hnames hx hy hp
    (wpAny_mono h (fun xv s₁ h₁ => ?_) fun _ _ e => e) hs
  obtain ⟨l, us, rfl, hl, hsz, F, N, helt, hQ⟩ := h₁
  have hlt : l < s₁.heap.objs.size := by obtain ⟨ol, hol, _⟩ := id hl; exact Heap.lt_size hol
  refine wpAny_pyIter_list hl ?_
  have W := Walks.list (prog := prog) (w := w) (A := A) hh s₁.heap.objs.size l (Nat.ne_of_lt hlt) (vals us).toArray
  have up : ∀ (h' : Heap), (∀ b o', b ∉ [s₁.heap.objs.size] → (s₁.heap.push { cls := .type "list_iterator", data := .fields #[.ref l, .int 0 0] }).get? b = some o' → h'.get? b = some o') → ∀ b o', s₁.heap.get? b = some o' → h'.get? b = some o' :=
    fun h' hk b o' e => hk b o' (old_not_new e) (Heap.get?_push_of_some _ e)
  refine ⟨_, _, _, _, _, _, m, rfl, W, by simp [vals]; exact hsz, ⟨⟨_, Heap.get?_push_size _ rfl, rfl, rfl⟩, hl.at fun o e => Heap.get?_push_of_some _ e⟩, ?_, ?_, ?_, ⟨?_, ?_⟩, ?_⟩
  · intro b hb
    show b < (s₁.heap.push _).objs.size
    rw [Heap.size_push]
    rcases List.mem_cons.mp hb with rfl | hb
    · exact Nat.lt_succ_self _
    · rw [List.mem_singleton.mp hb]; exact Nat.lt_succ_of_lt hlt
  · intro hm
    have := F.ns.lt
    rw [List.mem_singleton.mp hm] at this
    exact Nat.lt_irrefl _ this
  · exact F.ns.at' fun o e => Heap.get?_push_of_some _ e
  · intro C i v s₃ m₃ E' hP hn hm _ _
    exact wpAny_pure ⟨rfl, s₃.heap, s₃.toks, rfl, fun _ _ e => e⟩
  · intro C i v s₃ m₃ E' hP _ hn hm hk htk
    have hP' : (vals us)[i]? = some v := by simpa using hP
    unfold vals at hP'
    rw [List.getElem?_map] at hP'
    cases hp : us[i]? with
    | none => rw [hp] at hP'; cases hP'
    | some p =>
      rw [hp] at hP'
      cases hP'
      exact wpAny_mono (helt C p s₃ m₃ E' (List.mem_of_getElem? hp) (F.keeps (up _ hk)) (N.grown (up _ hk)) hn hm htk) (fun r s₄ h₄ => ⟨⟨p, rfl, h₄.1⟩, h₄.2⟩) fun _ _ e => e
  · intro D h' tk ys vs hnew hlD hplD hlen hP hF hns hk
    rw [List.filter_eq_self.mpr (fun _ _ => rfl)] at hF
    have hvs : vs = vals us := by
      apply List.ext_getElem?
      intro j
      by_cases hj : j < vs.length
      · obtain ⟨v, hv⟩ : ∃ v, vs[j]? = some v := ⟨vs[j], by simp [hj]⟩
        have := hP j v hv
        rw [hv]
        simpa using this.symm
      · rw [List.getElem?_eq_none (by omega), List.getElem?_eq_none (by simp at hlen; omega)]
    subst hvs
    obtain ⟨n, hD⟩ := id hplD
    have hDn : ∀ b o, s₁.heap.get? b = some o → b ≠ D := fun b o e => by
      rintro rfl
      rw [Heap.get?_push_of_some _ e] at hnew
      cases hnew
    have up2 : ∀ b o', b ≠ env.locals → s₁.heap.get? b = some o' → h'.get? b = some o' := fun b o' hb e => hk b o' hb (old_not_new e) (Heap.get?_push_of_some _ e)
    have hLn : ∀ b o, h₀.get? b = some o → b ≠ env.locals := fun b o e => Nat.ne_of_lt (Nat.lt_of_lt_of_le (Heap.lt_size e) F.above)
    refine hQ D ys.toList n h' tk ⟨hns, fun b o e => up2 b o (hLn b o e) (F.keep b o e), F.above⟩ (fun p hp => ?_) (fun p hp => hDn _ _ (N p hp).1) (paired_vals hF)
    rcases List.mem_cons.mp hp with rfl | hp
    · refine ⟨by rw [Array.toArray_toList]; exact hD, ?_, ?_⟩
      · obtain ⟨oL, _, _, hoL, _⟩ := F.ns
        exact (hDn _ oL hoL).symm
      · cases e : h₀.get? D with
        | none => rfl
        | some o => exact absurd rfl (hDn D o (F.keep D o e))
    · exact ⟨up2 _ _ (N p hp).2.1 (N p hp).1, (N p hp).2⟩
end
end Mine
namespace Mine
abbrev CbClaimE (prog : Program) (w : World) (K : Frag) (p : Program) (loose : List Str) (mean : ExcName → Option Value) (mg mb : Str → Option Value) (f : Addr) (news : List (Addr × Obj)) (pre : Prop) (vs : List Value) (R : Tok → Value) : Prop :=
  ∀ (dp un : Nat) (gd : Option (List Code)) (cn : Str) (cs : Scope) (a : Addr) (ccd : Value) (cl : List (Str × Addr)) (outer : List Env) (A₀ : Around) (base h₀ : Heap) (L : Addr) (m : Str → Option Value) (s : Shared) (Q E : Value → Shared → Prop),
    Below A₀ base outer h₀ → Fr h₀ L s.heap m → K.In h₀ → News h₀ L s.heap news → Top p loose mean mg mb h₀ → cs.kind = .function →
    pre → dp + 1 < recursionLimit → un + 8 < cLine → (∀ (t : Tok) (h' : Heap) (tk' : Nat), InElt s.heap h' → Q (R t) { s with heap := h', toks := tk' }) →
      wpAny (model prog w) (ktrTop dp un gd cn cs L a ccd cl outer) (call (.ref f) vs) Q E s
set_option maxHeartbeats 8000000 in
theorem c_numberE (w : World) (loose : List Str) (mean : ExcName → Option Value) (mg mb : Str → Option Value) (news : List (Addr × Obj)) (v : Int) (t : Tok) :
    CbClaimE PySem.Challenge.rw_wf0005_01.row.prog w (wfhd.heap_39 w.params) wfhd.view_39 loose mean mg mb 67 news True [.int v t] (fun t => .int (numF v) t) := by
  k_fill
  dsimp only [CbClaimE]
  intros; rename_i hfn _ _ _ hret
  rename Shared => s0
  have cE := InElt.start s0.heap
  refine wpAny_call ?_
  k_dflt (refine' code_defG ?k1 ?k2 ?k3 ?k4 ?k5 ?kA ?kF ?kK ?k6 ?k7 ?k8 ?k9 ?kB ?_ ?c2 ?c3 ?c4 ?c5; (case kA => exact rfl); (case kF => exact rfl); (case kK => exact hfn); (case k1 => k_asm); (case k2 => k_asm); (case k3 => k_asm); (case k4 => k_asm); (case k5 => k_asm); (case k6 => k_is); (case k7 => k_is); (case k8 => ktr_room); (case k9 => first | exact BindsTo.of_eq rfl | exact binds_K (by k_in) rfl (by k_is) rfl rfl rfl); (case c5 => decide); (case kB => exact locs rfl); (case c2 => exact rfl); (case c3 => exact rfl); (case c4 => exact rfl); k_whole; intro g' L' h' FG' F' N' B' X' T' kG'; (try dsimp only); (try k_lift B'); (try k_fold))
  k_steps
  all_goals (
    have hret' := fun t h' tk' F => hret t h' tk' F
    dsimp only [numF] at hret'
    simp only [*, if_true, if_false, ne_eq, not_true_eq_false, not_false_eq_true, if_pos, if_neg] at hret'
    apply hret' <;> assumption)
end Mine
namespace Mine
local macro_rules | `(tactic| walk_at "exec While Compare cons nil") => `(tactic| (k_here; with_reducible refine Stop.intro ?_))
local macro_rules | `(tactic| walk_at "exec While") => `(tactic| (k_here; with_reducible refine Stop.intro ?_))
set_option maxHeartbeats 8000000 in
theorem c_signsE (w : World) (loose : List Str) (mean : ExcName → Option Value) (mg mb : Str → Option Value) (news : List (Addr × Obj)) (v : Int) (t : Tok) :
    CbClaimE PySem.Challenge.rw_wf0005_01.row.prog w (wfhd.heap_39 w.params) wfhd.view_39 loose mean mg mb 74 news (0 ≤ v ∧ v < 2^40) [.int v t] (fun t => .str (sgS v) t) := by
  k_fill
  dsimp only [CbClaimE]
  intros; rename_i hfn hv _ _ hret
  rename Shared => s0
  have cE := InElt.start s0.heap
  refine wpAny_call ?_
  k_dflt (refine' code_defG ?k1 ?k2 ?k3 ?k4 ?k5 ?kA ?kF ?kK ?k6 ?k7 ?k8 ?k9 ?kB ?_ ?c2 ?c3 ?c4 ?c5; (case kA => exact rfl); (case kF => exact rfl); (case kK => exact hfn); (case k1 => k_asm); (case k2 => k_asm); (case k3 => k_asm); (case k4 => k_asm); (case k5 => k_asm); (case k6 => k_is); (case k7 => k_is); (case k8 => ktr_room); (case k9 => first | exact BindsTo.of_eq rfl | exact binds_K (by k_in) rfl (by k_is) rfl rfl rfl); (case c5 => decide); (case kB => exact locs rfl); (case c2 => exact rfl); (case c3 => exact rfl); (case c4 => exact rfl); k_whole; intro g' L' h' FG' F' N' B' X' T' kG'; (try dsimp only); (try k_lift B'); (try k_fold))
  k_steps
  refine Stop.out ?_
  rename Fr _ _ _ _ => F
  rename News _ _ _ _ => N
  (with_unfolding_all refine' while_mk (fun (c : Nat × List Nat × Tok × Tok) y => if y = Str.ofString "signs" then some (.str ⟨c.2.1.toArray⟩ c.2.2.1) else if y = Str.ofString "number" then some (.int (c.1 : Int) c.2.2.2) else none) (fun c => hi (c.1 / 64) ++ c.2.1 = sg v.toNat) (fun c => c.1) (v.toNat, [v.toNat % 64], _, t) F N ?hm ?hP ?turn ?hE)
  case hm =>
    funext y
    by_cases h1 : y = Str.ofString "signs"
    · rw [if_pos h1, if_pos h1, show [v.toNat % 64].toArray = #[(v.fmod 64).toNat] from by rw [Int.fmod_eq_emod_of_nonneg _ (by decide)]; simp; omega]
    · rw [if_neg h1, if_neg h1]
      have e : ((v.toNat : Nat) : Int) = v := by omega
      dsimp only
      rw [e]
      with_unfolding_all exact look1 y _ _
  case hP => 
    dsimp only
    rfl
  case hE => passes_own
  case turn =>
    clear F N
    rintro ⟨n, l, t1, t2⟩ h tk hc1 F N
    dsimp only at F hc1 ⊢
    have hc3 : l.length ≤ 8 := by
      have := sg_len (n := v.toNat) (by omega)
      rw [← hc1, List.length_append] at this
      omega
    k_steps
    · rename Fr _ _ _ _ => F9
      rename News _ _ _ _ => N9
      rename 64 ≤ (n : Int) => h64
      have e1 : ((n : Int).fdiv 64) = ((n / 64 : Nat) : Int) := by rw [Int.fdiv_eq_ediv_of_nonneg _ (by decide)]; omega
      have e2 : (64 + ((n : Int).fdiv 64).fmod 64).toNat = 64 + n / 64 % 64 := by rw [e1, Int.fmod_eq_emod_of_nonneg _ (by decide)]; omega
      (with_unfolding_all refine' wpost_next (n / 64, (64 + n / 64 % 64) :: l, _, _) F9 N9 ?em (fun _ h => h) ?hP ?hm)
      case em =>
        intro y
        dsimp only
        by_cases h1 : y = Str.ofString "signs"
        · rw [if_pos h1, if_pos h1, e2]
          exact congrArg (fun x => some (Value.str x _)) (strApp [_] l).symm
        · rw [if_neg h1, if_neg h1]
          by_cases h2 : y = Str.ofString "number"
          · rw [if_pos h2, if_pos h2, e1]
          · rw [if_neg h2, if_neg h2, if_neg h1, if_neg h2]
      case hP =>
        rw [← hc1, hi.eq_1 (n / 64), dif_neg (by omega), List.append_assoc]
        rfl
      case hm => dsimp only; omega
    · rename ¬ 64 ≤ (n : Int) => h64
      have e0 : n / 64 = 0 := by omega
      rw [e0, hi.eq_1, dif_pos rfl, List.nil_append] at hc1
      rw [hc1]
      apply hret <;> assumption
end Mine
namespace Mine
set_option maxHeartbeats 8000000 in
theorem elt_x (w : World) (A : Around) (env : Env) (C : Addr) (p1 p2 p3 : Pos) (a : Int) (t : Tok) {loose : List Str} {mean : ExcName → Option Value} {mg mb : Str → Option Value} {h₀ : Heap} {L : Addr} {m m₂ : Str → Option Value} {s₂ : Shared} {E : Value → Shared → Prop}
    (X : (wfhd.heap_39 w.params).In h₀) (T : Top wfhd.view_39 loose mean mg mb h₀) (F : Fr h₀ L s₂.heap m)
    (hn : s₂.heap.Ns (compEnv { kind := .function, names := [(".0", .local), ("x", .local)], isGenerator := false, isCoroutine := false } C env).locals m₂) (hm : m₂ "x" = some (.int a t)) :
    wpAny (model PySem.Challenge.rw_wf0005_01.row.prog w) A (eval (.BinOp (.Name "x" p1) .Mod (.Constant (.int 262144) 0 p2) p3) (compEnv { kind := .function, names := [(".0", .local), ("x", .local)], isGenerator := false, isCoroutine := false } C env))
      (fun r s₃ => Sealed (∃ t, r = Value.int (a % 262144) t) ∧ Keeps s₂ s₃) E s₂ := by
  revert X
  k_fill
  intro X
  have N : News h₀ L s₂.heap [] := News.nil
  k_steps
  · exact ⟨_, by rw [Int.fmod_eq_emod_of_nonneg _ (by decide)]⟩
  · exact ⟨_, _, rfl, fun _ _ e => e⟩
set_option maxHeartbeats 8000000 in
theorem elt_v (w : World) (A : Around) (env : Env) (C : Addr) (p1 p2 p3 : Pos) (a : Int) (t : Tok) {loose : List Str} {mean : ExcName → Option Value} {mg mb : Str → Option Value} {h₀ : Heap} {L : Addr} {m m₂ : Str → Option Value} {s₂ : Shared} {E : Value → Shared → Prop}
    (X : (wfhd.heap_39 w.params).In h₀) (T : Top wfhd.view_39 loose mean mg mb h₀) (F : Fr h₀ L s₂.heap m)
    (hn : s₂.heap.Ns (compEnv { kind := .function, names := [(".0", .local), ("v", .local)], isGenerator := false, isCoroutine := false } C env).locals m₂) (hm : m₂ "v" = some (.int a t)) :
    wpAny (model PySem.Challenge.rw_wf0005_01.row.prog w) A (eval (.BinOp (.Name "v" p1) .Mod (.Constant (.int 2) 0 p2) p3) (compEnv { kind := .function, names := [(".0", .local), ("v", .local)], isGenerator := false, isCoroutine := false } C env))
      (fun r s₃ => Sealed (∃ t, r = Value.int (a % 2) t) ∧ Keeps s₂ s₃) E s₂ := by
  revert X
  k_fill
  intro X
  have N : News h₀ L s₂.heap [] := News.nil
  k_steps
  · exact ⟨_, by rw [Int.fmod_eq_emod_of_nonneg _ (by decide)]⟩
  · exact ⟨_, _, rfl, fun _ _ e => e⟩
local macro_rules | `(tactic| walk_at "call ref") => `(tactic| (k_here; with_reducible refine Stop.intro ?_))
set_option maxHeartbeats 8000000 in
theorem elt_num (w : World) (dp un : Nat) (gd : Option (List Code)) (cn : Str) (sc : Scope) (L fa : Addr) (ccd : Value) (A₀ : Around) (base : Heap) (C : Addr) (p1 p2 p3 : Pos) (a : Int) (t : Tok) {loose : List Str} {mean : ExcName → Option Value} {mg mb : Str → Option Value} {h₀ : Heap} {m m₂ : Str → Option Value} {s₂ : Shared} {E : Value → Shared → Prop}
    (B : Below A₀ base [] h₀) (X : (wfhd.heap_39 w.params).In h₀) (T : Top wfhd.view_39 loose mean mg mb h₀) (F : Fr h₀ L s₂.heap m) (hk : sc.kind = .function) (hd : dp + 4 < recursionLimit) (hu : un + 20 < cLine)
    (hn : s₂.heap.Ns (compEnv { kind := .function, names := [(".0", .local), ("v", .local), ("_law_number", .globalImplicit)], isGenerator := false, isCoroutine := false } C (envOf cn sc L fa ccd)).locals m₂) (hm : m₂ "v" = some (.int a t)) :
    wpAny (model PySem.Challenge.rw_wf0005_01.row.prog w) (ktrTop dp un gd cn sc L fa ccd [] []) (eval (.Call (.Name "_law_number" p1) [.Name "v" p2] [] p3) (compEnv { kind := .function, names := [(".0", .local), ("v", .local), ("_law_number", .globalImplicit)], isGenerator := false, isCoroutine := false } C (envOf cn sc L fa ccd)))
      (fun r s₃ => Sealed (∃ t, r = Value.int (numF a) t) ∧ Keeps s₂ s₃) E s₂ := by
  revert X
  k_fill
  intro X
  have N : News h₀ L s₂.heap [] := News.nil
  k_steps
  refine Stop.out ?_
  rename Fr _ _ _ _ => F
  rename News _ _ _ _ => N
  (with_unfolding_all refine' c_numberE w loose mean mg mb [] a t dp un gd cn sc fa ccd [] [] A₀ base h₀ L m _ _ _ B F X N T hk trivial ?d ?u ?R)
  case d => omega
  case u => omega
  case R =>
    intro t9 h9 tk9 K9
    exact ⟨⟨_, rfl⟩, _, _, rfl, K9⟩
set_option maxHeartbeats 8000000 in
theorem elt_sig (w : World) (dp un : Nat) (gd : Option (List Code)) (cn : Str) (sc : Scope) (L fa : Addr) (ccd : Value) (A₀ : Around) (base : Heap) (C : Addr) (p1 p2 p3 : Pos) (a : Int) (t : Tok) {loose : List Str} {mean : ExcName → Option Value} {mg mb : Str → Option Value} {h₀ : Heap} {m m₂ : Str → Option Value} {s₂ : Shared} {E : Value → Shared → Prop}
    (B : Below A₀ base [] h₀) (X : (wfhd.heap_39 w.params).In h₀) (T : Top wfhd.view_39 loose mean mg mb h₀) (F : Fr h₀ L s₂.heap m) (hk : sc.kind = .function) (hd : dp + 4 < recursionLimit) (hu : un + 20 < cLine) (ha : 0 ≤ a ∧ a < 2 ^ 40)
    (hn : s₂.heap.Ns (compEnv { kind := .function, names := [(".0", .local), ("number", .local), ("_law_signs", .globalImplicit)], isGenerator := false, isCoroutine := false } C (envOf cn sc L fa ccd)).locals m₂) (hm : m₂ "number" = some (.int a t)) :
    wpAny (model PySem.Challenge.rw_wf0005_01.row.prog w) (ktrTop dp un gd cn sc L fa ccd [] []) (eval (.Call (.Name "_law_signs" p1) [.Name "number" p2] [] p3) (compEnv { kind := .function, names := [(".0", .local), ("number", .local), ("_law_signs", .globalImplicit)], isGenerator := false, isCoroutine := false } C (envOf cn sc L fa ccd)))
      (fun r s₃ => Sealed (∃ t, r = Value.str (sgS a) t) ∧ Keeps s₂ s₃) E s₂ := by
  revert X
  k_fill
  intro X
  have N : News h₀ L s₂.heap [] := News.nil
  k_steps
  refine Stop.out ?_
  rename Fr _ _ _ _ => F
  rename News _ _ _ _ => N
  (with_unfolding_all refine' c_signsE w loose mean mg mb [] a t dp un gd cn sc fa ccd [] [] A₀ base h₀ L m _ _ _ B F X N T hk ha ?d ?u ?R)
  case d => omega
  case u => omega
  case R =>
    intro t9 h9 tk9 K9
    exact ⟨⟨_, rfl⟩, _, _, rfl, K9⟩
end Mine
namespace Mine
/-! the plain law: no program in sight -/
def layL (k : Int) (l : List Nat) : List Nat := if k = 0 then dbl l else esc l
def rdL (k : Int) (l : List Nat) : List Nat := if k = 0 then rd0 (l ++ tailR) else rd1 l
/-- the layers, the top one first -/
def lays : List Int → List Nat → List Nat
  | [], w => w
  | k :: r, w => layL k (lays r w)
theorem dbl_cons (c : Nat) (r : List Nat) : dbl (c :: r) = if c = 34 then c :: c :: dbl r else c :: dbl r := rfl
theorem esc_cons (c : Nat) (r : List Nat) : esc (c :: r) = esc1 c ++ esc r := rfl
theorem esc_app (a b : List Nat) : esc (a ++ b) = esc a ++ esc b := by simp [esc]
theorem dbl_app (a b : List Nat) : dbl (a ++ b) = dbl a ++ dbl b := StrLaws.dbl_append 34 a b
/-- a text without a mark, and then a mark that no mark follows -/
theorem rd0_free : ∀ (l : List Nat), (∀ c ∈ l, c ≠ 34) → ∀ r, rd0 (l ++ r) = l ++ rd0 r
  | [], _, r => rfl
  | c :: l, h, r => by
    rw [List.cons_append, rd0_ne (h c (List.mem_cons_self ..)), rd0_free l (fun d hd => h d (List.mem_cons_of_mem _ hd))]
    rfl
theorem rd0_tail : rd0 tailR = [] := by decide
theorem rd0_dbl : ∀ l : List Nat, rd0 (dbl l ++ tailR) = l
  | [] => rd0_tail
  | c :: l => by
    rw [dbl_cons]
    by_cases h : c = 34
    · rw [if_pos h, h]
      show rd0 (34 :: 34 :: (dbl l ++ tailR)) = 34 :: l
      rw [rd0, if_pos rfl, if_pos rfl, rd0_dbl l]
    · rw [if_neg h, List.cons_append, rd0_ne h, rd0_dbl l]
def lastL (us : List (List Nat)) : List Nat := us.map fun u => u.getLastD 0
/-- doubled marks go through: a reading of backslashes upon doublings upon backslashes -/
def dblN : Nat → List Nat → List Nat
  | 0, l => l
  | n + 1, l => dbl (dblN n l)
theorem dblN_nil : ∀ n, dblN n [] = []
  | 0 => rfl
  | n + 1 => by rw [dblN, dblN_nil n]; rfl
theorem dblN_app : ∀ (n : Nat) (a b : List Nat), dblN n (a ++ b) = dblN n a ++ dblN n b
  | 0, _, _ => rfl
  | n + 1, a, b => by rw [dblN, dblN_app n, dbl_app]; rfl
theorem dblN_ne : ∀ (n : Nat) {c : Nat}, c ≠ 34 → dblN n [c] = [c]
  | 0, _, _ => rfl
  | n + 1, c, h => by rw [dblN, dblN_ne n h, dbl_cons, if_neg h]; rfl
theorem dbl_rep : ∀ k : Nat, dbl (List.replicate k 34) = List.replicate (2 * k) 34
  | 0 => rfl
  | k + 1 => by
    rw [List.replicate_succ, dbl_cons, if_pos rfl, dbl_rep k, show 2 * (k + 1) = 2 * k + 1 + 1 by omega, List.replicate_succ, List.replicate_succ]
theorem dblN_mark : ∀ n : Nat, ∃ k, dblN n [34] = 34 :: List.replicate k 34
  | 0 => ⟨0, rfl⟩
  | n + 1 => by
    obtain ⟨k, e⟩ := dblN_mark n
    refine ⟨2 * k + 1, ?_⟩
    rw [dblN, e, dbl_cons, if_pos rfl, dbl_rep]
    rfl
theorem units_ne92 {c : Nat} (h : c ≠ 92) (r : List Nat) : units false (c :: r) = [c] :: units false r := by
  rw [units, if_neg h]
theorem rd1_ne {c : Nat} (h : c ≠ 92) (r : List Nat) : rd1 (c :: r) = c :: rd1 r := by
  unfold rd1
  rw [units_ne92 h]
  rfl
theorem rd1_esc (c : Nat) (r : List Nat) : rd1 (92 :: c :: r) = c :: rd1 r := by
  unfold rd1
  rw [units, if_pos rfl, units]
  rfl
theorem rd1_reps : ∀ (k : Nat) (r : List Nat), rd1 (List.replicate k 34 ++ r) = List.replicate k 34 ++ rd1 r
  | 0, r => rfl
  | k + 1, r => by rw [List.replicate_succ, List.cons_append, rd1_ne (by decide), rd1_reps k r]; rfl
theorem rd1_unit (n : Nat) (c : Nat) (r : List Nat) : rd1 (dblN n (esc1 c) ++ r) = dblN n [c] ++ rd1 r := by
  unfold esc1
  by_cases h : c = 34 ∨ c = 92
  · rw [if_pos h, show [92, c] = [92] ++ [c] from rfl, dblN_app, dblN_ne n (by decide), List.append_assoc]
    rcases h with h | h
    · subst h
      obtain ⟨k, e⟩ := dblN_mark n
      rw [e]
      show rd1 (92 :: 34 :: (List.replicate k 34 ++ r)) = _
      rw [rd1_esc, rd1_reps]
      rfl
    · subst h
      rw [dblN_ne n (by decide)]
      exact rd1_esc 92 r
  · rw [if_neg h, dblN_ne n (fun e => h (.inl e))]
    exact rd1_ne (fun e => h (.inr e)) r
theorem rd1_dblN_esc (n : Nat) : ∀ (l r : List Nat), rd1 (dblN n (esc l) ++ r) = dblN n l ++ rd1 r
  | [], r => by rw [show esc [] = [] from rfl, dblN_nil]; rfl
  | c :: l, r => by
    rw [esc_cons, dblN_app, List.append_assoc, rd1_unit, rd1_dblN_esc n l r, ← List.append_assoc, ← dblN_app]
    rfl
theorem rd1_nil : rd1 [] = [] := rfl
/-- a reading of backslashes takes the topmost such layer off -/
theorem rd1_lays : ∀ (n : Nat) (rl : List Int) (w : List Nat), rl.head? ≠ some 0 → (1 : Int) ∈ rl → (∀ k ∈ rl, k = 0 ∨ k = 1) → rd1 (dblN n (lays rl w)) = dblN n (lays (rl.erase 1) w)
  | n, [], w, _, h, _ => by cases h
  | n, k :: rl, w, h0, h1, hk => by
    have : k = 1 := by
      rcases hk k (List.mem_cons_self ..) with h | h
      · subst h; exact absurd rfl h0
      · exact h
    subst this
    rw [List.erase_cons_head, lays, layL, if_neg (by decide)]
    have := rd1_dblN_esc n (lays rl w) []
    simpa [rd1_nil] using this
theorem rd1_any : ∀ (rl : List Int) (n : Nat) (w : List Nat), (1 : Int) ∈ rl → (∀ k ∈ rl, k = 0 ∨ k = 1) → rd1 (dblN n (lays rl w)) = dblN n (lays (rl.erase 1) w)
  | [], _, _, h, _ => by cases h
  | k :: rl, n, w, h1, hk => by
    rcases hk k (List.mem_cons_self ..) with h | h
    · subst h
      rw [List.erase_cons_tail (by decide)]
      have h1' : (1 : Int) ∈ rl := by
        rcases List.mem_cons.mp h1 with h | h
        · cases h
        · exact h
      have e : ∀ r : List Int, dblN n (lays ((0 : Int) :: r) w) = dblN (n + 1) (lays r w) := by
        intro r
        rw [lays, layL, if_pos rfl]
        clear h1 hk h1'
        generalize lays r w = x
        clear r
        induction n with
        | zero => rfl
        | succ n ih => rw [dblN, ih]; rfl
      rw [e, e]
      exact rd1_any rl (n + 1) w h1' (fun d hd => hk d (List.mem_cons_of_mem _ hd))
    · subst h
      exact rd1_lays n _ w (by simp) h1 hk
/-- in order: the text comes back whole -/
theorem in_order : ∀ (os rl : List Int) (w : List Nat), os.Perm rl → (∀ k ∈ rl, k = 0 ∨ k = 1) → inOrd rl os = true → os.foldl (fun l k => rdL k l) (lays rl w) = w
  | [], rl, w, hp, _, _ => by
    obtain rfl : rl = [] := hp.nil_eq.symm
    rfl
  | k :: os, rl, w, hp, hk, h => by
    have hm : k ∈ rl := hp.mem_iff.mp (List.mem_cons_self ..)
    have hp' : os.Perm (rl.erase k) := by
      have := hp.erase k
      rwa [List.erase_cons_head] at this
    have hk' : ∀ d ∈ rl.erase k, d = 0 ∨ d = 1 := fun d hd => hk d (List.mem_of_mem_erase hd)
    rw [inOrd] at h
    split at h
    · cases h
    rename_i hb
    rw [List.foldl_cons]
    have e : rdL k (lays rl w) = lays (rl.erase k) w := by
      rcases hk k hm with h0 | h0
      · subst h0
        cases rl with
        | nil => cases hm
        | cons d r =>
          have : d = 0 := by
            rcases hk d (List.mem_cons_self ..) with h | h
            · exact h
            · subst h; exact absurd ⟨rfl, rfl⟩ hb
          subst this
          rw [List.erase_cons_head, lays, layL, if_pos rfl, rdL, if_pos rfl, rd0_dbl]
      · subst h0
        rw [rdL, if_neg (by decide)]
        exact rd1_any rl 0 w hm hk
    rw [e]
    exact in_order os (rl.erase k) w hp' hk' h
/-! out of order -/
def upto (l : List Nat) : List Nat := l.takeWhile fun c => decide (c ≠ 34)
theorem upto_cons (c : Nat) (l : List Nat) : upto (c :: l) = if c = 34 then [] else c :: upto l := by
  unfold upto
  rw [List.takeWhile_cons]
  by_cases h : c = 34 <;> simp [h]
theorem upto_free : ∀ (l : List Nat), ∀ c ∈ upto l, c ≠ 34
  | [], c, h => by cases h
  | d :: l, c, h => by
    rw [upto_cons] at h
    split at h
    · cases h
    · rename_i hd
      rcases List.mem_cons.mp h with h | h
      · subst h; exact hd
      · exact upto_free l c h
def escN : Nat → List Nat → List Nat
  | 0, l => l
  | n + 1, l => esc (escN n l)
theorem esc_free {l : List Nat} (h : ∀ c ∈ l, c ≠ 34) : ∀ c ∈ esc l, c ≠ 34 := by
  intro c hc
  obtain ⟨d, hd, hc⟩ := List.mem_flatMap.mp hc
  have := h d hd
  unfold esc1 at hc
  split at hc
  · rename_i h'
    rcases h' with h' | h'
    · exact absurd h' this
    · subst h'
      simp only [List.mem_cons, List.not_mem_nil, or_false] at hc
      rcases hc with h | h <;> (subst h; decide)
  · simp only [List.mem_cons, List.not_mem_nil, or_false] at hc
    subst hc
    exact this
theorem escN_free : ∀ (n : Nat) {l : List Nat}, (∀ c ∈ l, c ≠ 34) → ∀ c ∈ escN n l, c ≠ 34
  | 0, _, h => h
  | n + 1, _, h => esc_free (escN_free n h)
/-- a text whose first mark is followed by something that is no mark at its very end -/
def Fine (l : List Nat) : Prop := 34 ∈ l ∧ ∃ a, l = a ++ [5]
theorem fine_dbl {l : List Nat} (h : Fine l) : Fine (dbl l) := by
  obtain ⟨h1, a, rfl⟩ := h
  refine ⟨?_, dbl a, by rw [dbl_app]; rfl⟩
  generalize a ++ [5] = l at h1
  clear a
  induction l with
  | nil => cases h1
  | cons c l ih =>
    rw [dbl_cons]
    split
    · rename_i h; subst h; exact List.mem_cons_self ..
    · rename_i h
      rcases List.mem_cons.mp h1 with e | e
      · exact absurd e.symm h
      · exact List.mem_cons_of_mem _ (ih e)
theorem fine_esc {l : List Nat} (h : Fine l) : Fine (esc l) := by
  obtain ⟨h1, a, rfl⟩ := h
  refine ⟨?_, esc a, by rw [esc_app]; rfl⟩
  exact List.mem_flatMap.mpr ⟨34, h1, by decide⟩
theorem fine_lays {w : List Nat} (h : Fine w) : ∀ rl : List Int, Fine (lays rl w)
  | [] => h
  | k :: rl => by
    rw [lays, layL]
    split
    · exact fine_dbl (fine_lays h rl)
    · exact fine_esc (fine_lays h rl)
theorem upto_dbl : ∀ l : List Nat, upto (dbl l) = upto l
  | [] => rfl
  | c :: l => by
    rw [dbl_cons]
    by_cases h : c = 34
    · rw [if_pos h, upto_cons, if_pos h, upto_cons, if_pos h]
    · rw [if_neg h, upto_cons, upto_cons, if_neg h, if_neg h, upto_dbl l]
theorem upto_esc : ∀ l : List Nat, 34 ∈ l → upto (esc l) = esc (upto l) ++ [92]
  | [], h => by cases h
  | c :: l, h => by
    rw [esc_cons, upto_cons]
    by_cases h1 : c = 34
    · subst h1
      rfl
    · have h2 : 34 ∈ l := by
        rcases List.mem_cons.mp h with h | h
        · exact absurd h.symm h1
        · exact h
      rw [if_neg h1, esc_cons]
      unfold esc1
      by_cases h3 : c = 92
      · subst h3
        rw [if_pos (.inr rfl)]
        show upto (92 :: 92 :: esc l) = 92 :: 92 :: esc (upto l) ++ [92]
        rw [upto_cons, if_neg (by decide), upto_cons, if_neg (by decide), upto_esc l h2]
        rfl
      · rw [if_neg (by rintro (h | h); exact h1 h; exact h3 h)]
        show upto (c :: esc l) = c :: esc (upto l) ++ [92]
        rw [upto_cons, if_neg h1, upto_esc l h2]
        rfl
/-- the false reading of a doubling upon backslashes -/
theorem rd0_esc_ne : ∀ (l : List Nat) (r : List Nat), rd0 (esc l ++ 5 :: r) = if 34 ∈ l then esc (upto l) ++ [92] else esc l ++ 5 :: rd0 r
  | [], r => by
    rw [if_neg (by simp)]
    exact rd0_ne (by decide) r
  | c :: l, r => by
    rw [esc_cons, List.append_assoc]
    by_cases h1 : c = 34
    · subst h1
      rw [if_pos (List.mem_cons_self ..), upto_cons, if_pos rfl]
      show rd0 (92 :: 34 :: (esc l ++ 5 :: r)) = [92]
      rw [rd0_ne (by decide)]
      congr 1
      cases l with
      | nil => rfl
      | cons d l =>
        rw [esc_cons]
        unfold esc1
        split
        · rfl
        · rename_i h
          show rd0 (34 :: d :: _) = []
          rw [rd0, if_pos rfl, if_neg (fun e => h (.inl e))]
    · have ih := rd0_esc_ne l r
      have e : rd0 (esc1 c ++ (esc l ++ 5 :: r)) = esc1 c ++ rd0 (esc l ++ 5 :: r) := by
        refine rd0_free _ ?_ _
        unfold esc1
        split
        · rename_i h
          intro d hd
          rcases h with h | h
          · exact absurd h h1
          · subst h
            simp only [List.mem_cons, List.not_mem_nil, or_false] at hd
            rcases hd with h | h <;> (subst h; decide)
        · intro d hd
          simp only [List.mem_cons, List.not_mem_nil, or_false] at hd
          subst hd
          exact h1
      rw [e, ih, upto_cons, if_neg h1]
      have hm : (34 ∈ c :: l) = (34 ∈ l) := by
        simp only [List.mem_cons, eq_iff_iff, or_iff_right_iff_imp]
        intro h; exact absurd h.symm h1
      simp only [hm]
      split
      · rw [esc_cons, List.append_assoc]
      · rw [List.append_assoc]
theorem rd0_bad {l : List Nat} (h : Fine l) : rd0 (esc l ++ tailR) = esc (upto l) ++ [92] := by
  obtain ⟨h1, a, rfl⟩ := h
  have ha : 34 ∈ a := by
    rcases List.mem_append.mp h1 with h | h
    · exact h
    · exact absurd h (by decide)
  have hu : ∀ (a : List Nat), 34 ∈ a → upto (a ++ [5]) = upto a := by
    intro a
    induction a with
    | nil => intro h; cases h
    | cons c a ih =>
      intro h
      rw [List.cons_append, upto_cons, upto_cons]
      by_cases hc : c = 34
      · rw [if_pos hc, if_pos hc]
      · rw [if_neg hc, if_neg hc, ih (by rcases List.mem_cons.mp h with h | h; exact absurd h.symm hc; exact h)]
  rw [esc_app, List.append_assoc]
  show rd0 (esc a ++ 5 :: tailR) = _
  rw [rd0_esc_ne, if_pos ha, hu a ha]
def ones (l : List Int) : Nat := l.count 1
theorem ones_cons1 (l : List Int) : ones (1 :: l) = ones l + 1 := by simp [ones]
theorem ones_cons0 (l : List Int) : ones (0 :: l) = ones l := by simp [ones]
theorem esc_rep : ∀ k : Nat, esc (List.replicate k 92) = List.replicate (2 * k) 92
  | 0 => rfl
  | k + 1 => by
    rw [List.replicate_succ, esc_cons, esc_rep k, show 2 * (k + 1) = 2 * k + 1 + 1 by omega, List.replicate_succ, List.replicate_succ]
    rfl
theorem upto_lays {w : List Nat} (h : Fine w) : ∀ rl : List Int, (∀ k ∈ rl, k = 0 ∨ k = 1) → upto (lays rl w) = escN (ones rl) (upto w) ++ List.replicate (2 ^ ones rl - 1) 92
  | [], _ => by simp [lays, ones, escN]
  | k :: rl, hk => by
    have ih := upto_lays h rl (fun d hd => hk d (List.mem_cons_of_mem _ hd))
    rcases hk k (List.mem_cons_self ..) with h0 | h0
    · subst h0
      rw [lays, layL, if_pos rfl, upto_dbl, ih, ones_cons0]
    · subst h0
      rw [lays, layL, if_neg (by decide), upto_esc _ (fine_lays h rl).1, ih, ones_cons1, esc_app, esc_rep, List.append_assoc, escN]
      congr 1
      rw [show [92] = List.replicate 1 92 from rfl, List.replicate_append_replicate]
      congr 1
      have := Nat.one_le_two_pow (n := ones rl)
      rw [Nat.pow_succ]
      omega
theorem rd1_reps92 : ∀ (m : Nat), rd1 (List.replicate m 92) = List.replicate ((m + 1) / 2) 92
  | 0 => rfl
  | 1 => rfl
  | m + 2 => by
    rw [List.replicate_succ, List.replicate_succ, rd1_esc, rd1_reps92 m, show (m + 2 + 1) / 2 = (m + 1) / 2 + 1 by omega, List.replicate_succ]
theorem rd1_esc_app (l r : List Nat) : rd1 (esc l ++ r) = l ++ rd1 r := rd1_dblN_esc 0 l r
/-- behind the false reading -/
theorem behind_bad {u : List Nat} (hu : ∀ c ∈ u, c ≠ 34) : ∀ (os : List Int) (m : Nat), (∀ k ∈ os, k = 0 ∨ k = 1) → 1 ≤ m → 2 ^ ones os - 1 ≤ m → m ≤ 2 ^ ones os →
    os.foldl (fun l k => rdL k l) (escN (ones os) u ++ List.replicate m 92) = u ++ [92]
  | [], m, _, h1, _, h3 => by
    have : m = 1 := by
      simp only [ones, List.count_nil, Nat.pow_zero] at h3
      omega
    subst this
    rfl
  | k :: os, m, hk, h1, h2, h3 => by
    rw [List.foldl_cons]
    have hk' : ∀ d ∈ os, d = 0 ∨ d = 1 := fun d hd => hk d (List.mem_cons_of_mem _ hd)
    rcases hk k (List.mem_cons_self ..) with h0 | h0
    · subst h0
      rw [ones_cons0] at h2 h3 ⊢
      have e : rdL 0 (escN (ones os) u ++ List.replicate m 92) = escN (ones os) u ++ List.replicate m 92 := by
        rw [rdL, if_pos rfl, rd0_free, rd0_tail, List.append_nil]
        intro c hc
        rcases List.mem_append.mp hc with h | h
        · exact escN_free _ hu c h
        · rw [(List.mem_replicate.mp h).2]; decide
      rw [e]
      exact behind_bad hu os m hk' h1 h2 h3
    · subst h0
      rw [ones_cons1] at h2 h3 ⊢
      rw [rdL, if_neg (by decide), escN, rd1_esc_app, rd1_reps92]
      rw [Nat.pow_succ] at h2 h3
      refine behind_bad hu os ((m + 1) / 2) hk' ?_ ?_ ?_ <;> omega
theorem out_of_order {w : List Nat} (hw : Fine w) : ∀ (os rl : List Int), os.Perm rl → (∀ k ∈ rl, k = 0 ∨ k = 1) → inOrd rl os = false → os.foldl (fun l k => rdL k l) (lays rl w) = upto w ++ [92]
  | [], rl, hp, _, h => by
    rw [inOrd] at h
    cases h
  | k :: os, rl, hp, hk, h => by
    have hm : k ∈ rl := hp.mem_iff.mp (List.mem_cons_self ..)
    have hp' : os.Perm (rl.erase k) := by
      have := hp.erase k
      rwa [List.erase_cons_head] at this
    have hk' : ∀ d ∈ rl.erase k, d = 0 ∨ d = 1 := fun d hd => hk d (List.mem_of_mem_erase hd)
    rw [inOrd] at h
    rw [List.foldl_cons]
    by_cases hb : k = 0 ∧ rl.head? = some 1
    · obtain ⟨rfl, hb⟩ := hb
      cases rl with
      | nil => cases hm
      | cons d r =>
        obtain rfl : d = 1 := by simpa using hb
        rw [lays, layL, if_neg (by decide), rdL, if_pos rfl, rd0_bad (fine_lays hw r), upto_lays hw r (fun d hd => hk d (List.mem_cons_of_mem _ hd))]
        have hc : ones os = ones r + 1 := by
          have := hp.count_eq (1 : Int)
          have e1 : ((0 : Int) :: os).count 1 = ones os := ones_cons0 os
          have e2 : ((1 : Int) :: r).count 1 = ones r + 1 := ones_cons1 r
          omega
        have e : esc (escN (ones r) (upto w) ++ List.replicate (2 ^ ones r - 1) 92) ++ [92] = escN (ones os) (upto w) ++ List.replicate (2 ^ ones os - 1) 92 := by
          rw [hc, esc_app, esc_rep, List.append_assoc, escN, show [92] = List.replicate 1 92 from rfl, List.replicate_append_replicate]
          congr 2
          have := Nat.one_le_two_pow (n := ones r)
          rw [Nat.pow_succ]
          omega
        rw [e]
        have h2 : 2 ≤ 2 ^ ones os := by
          rw [hc, Nat.pow_succ]
          have := Nat.one_le_two_pow (n := ones r)
          omega
        exact behind_bad (upto_free w) os _ (fun d hd => hk d (hp.mem_iff.mp (List.mem_cons_of_mem _ hd))) (by omega) (Nat.le_refl _) (by omega)
    · rw [if_neg hb] at h
      have e : rdL k (lays rl w) = lays (rl.erase k) w := by
        rcases hk k hm with h0 | h0
        · subst h0
          cases rl with
          | nil => cases hm
          | cons d r =>
            have : d = 0 := by
              rcases hk d (List.mem_cons_self ..) with h | h
              · exact h
              · subst h; exact absurd ⟨rfl, rfl⟩ hb
            subst this
            rw [List.erase_cons_head, lays, layL, if_pos rfl, rdL, if_pos rfl, rd0_dbl]
        · subst h0
          rw [rdL, if_neg (by decide)]
          exact rd1_any rl 0 w hm hk
      rw [e]
      exact out_of_order hw os (rl.erase k) hp' hk' h
/-! the row's text -/
theorem varint_hi (k : Nat) (hk : k ≠ 0) (t : List Nat) : varint (hi k ++ t) = vloop k (64 + k % 64) t := by
  induction k using Nat.strongRecOn generalizing t with
  | ind k ih =>
    rw [hi.eq_1, dif_neg hk, List.append_assoc]
    by_cases h : k / 64 = 0
    · rw [h, hi.eq_1, dif_pos rfl]
      show vloop ((64 + k % 64) % 64) (64 + k % 64) t = _
      congr 1
      omega
    · rw [ih (k / 64) (by omega) h]
      show vloop (k / 64) (64 + k / 64 % 64) ((64 + k % 64) :: t) = _
      rw [vloop, if_pos (by omega)]
      congr 1
      omega
theorem vloop_end (v b : Nat) (r : List Nat) (h : b < 64) : vloop v b r = some (v, r) := by
  cases r with
  | nil => rw [vloop, if_neg (by omega)]
  | cons c r => rw [vloop, if_neg (by omega)]
theorem varint_sg (n : Nat) (r : List Nat) : varint (sg n ++ r) = some (n, r) := by
  unfold sg
  rw [List.append_assoc]
  by_cases h : n / 64 = 0
  · rw [h, hi.eq_1, dif_pos rfl]
    show vloop (n % 64 % 64) (n % 64) r = _
    rw [vloop_end _ _ _ (by omega)]
    congr 2
    omega
  · rw [varint_hi _ h]
    show vloop (n / 64) (64 + n / 64 % 64) (n % 64 :: r) = _
    rw [vloop, if_pos (by omega), vloop_end _ _ _ (by omega)]
    congr 2
    omega
theorem varint_cut (k : Nat) : varint (hi k ++ [92]) = none := by
  by_cases h : k = 0
  · subst h
    rw [hi.eq_1, dif_pos rfl]
    decide
  · rw [varint_hi _ h, vloop, if_pos (by omega), vloop, if_pos (by decide)]
def flat (row : List Nat) : List Nat := row.flatMap sg
theorem flat_cons (n : Nat) (row : List Nat) : flat (n :: row) = sg n ++ flat row := rfl
theorem nums_flat : ∀ row : List Nat, numsOf (flat row) = row
  | [] => numsOf_none rfl
  | n :: row => by rw [flat_cons, numsOf_some (varint_sg n (flat row)), nums_flat row]
theorem hi_free (k : Nat) : ∀ c ∈ hi k, c ≠ 34 := by
  induction k using Nat.strongRecOn with
  | ind k ih =>
    intro c hc
    rw [hi.eq_1] at hc
    split at hc
    · cases hc
    · rcases List.mem_append.mp hc with h | h
      · exact ih (k / 64) (by omega) c h
      · simp only [List.mem_cons, List.not_mem_nil, or_false] at h
        omega
theorem upto_app : ∀ (l : List Nat), (∀ c ∈ l, c ≠ 34) → ∀ r, upto (l ++ r) = l ++ upto r
  | [], _, r => rfl
  | c :: l, h, r => by
    rw [List.cons_append, upto_cons, if_neg (h c (List.mem_cons_self ..)), upto_app l (fun d hd => h d (List.mem_cons_of_mem _ hd))]
    rfl
def aheadN (row : List Nat) : List Nat := row.takeWhile fun n => decide (n % 64 ≠ 34)
theorem nums_ahead : ∀ row : List Nat, (∃ n ∈ row, n % 64 = 34) → numsOf (upto (flat row) ++ [92]) = aheadN row
  | [], h => by obtain ⟨n, h, _⟩ := h; cases h
  | n :: row, h => by
    rw [flat_cons, aheadN, List.takeWhile_cons]
    unfold sg
    rw [List.append_assoc, upto_app _ (hi_free _)]
    by_cases h1 : n % 64 = 34
    · rw [h1]
      show numsOf (hi (n / 64) ++ upto (34 :: flat row) ++ [92]) = []
      rw [upto_cons, if_pos rfl, List.append_nil, numsOf_none (varint_cut _)]
    · have h2 : ∃ n ∈ row, n % 64 = 34 := by
        obtain ⟨k, hk, e⟩ := h
        rcases List.mem_cons.mp hk with h | h
        · subst h; exact absurd e h1
        · exact ⟨k, h, e⟩
      have e : hi (n / 64) ++ upto ([n % 64] ++ flat row) ++ [92] = sg n ++ (upto (flat row) ++ [92]) := by
        show hi (n / 64) ++ upto (n % 64 :: flat row) ++ [92] = _
        rw [upto_cons, if_neg h1]
        unfold sg
        simp
      rw [e, numsOf_some (varint_sg n _), nums_ahead row h2]
      simp [h1, aheadN]
theorem fine_flat (l : List Nat) : Fine (flat (l ++ [1826, 5])) := by
  have e : flat (l ++ [1826, 5]) = flat l ++ (sg 1826 ++ sg 5) := by simp [flat]
  rw [e, show sg 1826 ++ sg 5 = [92, 34] ++ [5] from by decide +kernel]
  exact ⟨by simp, flat l ++ [92, 34], by simp⟩
theorem take_upto : ∀ (l : List Nat) (k : Nat), k < l.length → l.getD k 0 = 34 → (∀ v, v < k → l.getD v 0 ≠ 34) → l.take k = upto l
  | [], k, h, _, _ => absurd h (Nat.not_lt_zero _)
  | c :: l, 0, _, h, _ => by
    have : c = 34 := by simpa using h
    rw [upto_cons, if_pos this]
    rfl
  | c :: l, k + 1, h1, h2, h3 => by
    have : c ≠ 34 := by simpa using h3 0 (Nat.succ_pos _)
    rw [upto_cons, if_neg this, List.take_succ_cons, take_upto l k (by simpa using h1) (by simpa using h2) (fun v hv => by simpa using h3 (v + 1) (Nat.succ_lt_succ hv))]
theorem mem_getD : ∀ (l : List Nat) (c : Nat), c ∈ l → ∃ v, v < l.length ∧ l.getD v 0 = c
  | [], _, h => by cases h
  | d :: l, c, h => by
    rcases List.mem_cons.mp h with h | h
    · subst h; exact ⟨0, by simp, by simp⟩
    · obtain ⟨v, h1, h2⟩ := mem_getD l c h
      exact ⟨v + 1, by simpa using h1, by simpa using h2⟩
theorem cps_getD (l : List Nat) (v : Nat) : (Str.cps ⟨l.toArray⟩).getD v 0 = l.getD v 0 := by
  simp
theorem cut_upto (l : List Nat) (h : 34 ∈ l) : Txt.slice ⟨l.toArray⟩ none (some (Txt.find ⟨l.toArray⟩ (Str.ofString "\""))) = ⟨(upto l).toArray⟩ := by
  have hl : (⟨l.toArray⟩ : Str).length = l.length := by simp [Str.length]
  rw [show Str.ofString "\"" = (⟨#[34]⟩ : Str) from by decide +kernel, find_is_find3]
  rcases StrLaws.find3_spec ⟨l.toArray⟩ 34 0 with ⟨_, h2⟩ | ⟨k, h1, h2, h3, h4, h5⟩
  · exfalso
    obtain ⟨v, h3, h4⟩ := mem_getD l 34 h
    refine h2 v ?_ (by rw [hl]; exact h3) (by rw [cps_getD]; exact h4)
    simp [PySem.fromIndex]
  · rw [h1]
    rw [hl] at h3
    show StrLaws.sliceText _ none (some (k : Int)) = _
    rw [StrLaws.sliceText_to ⟨by omega, by simp; omega⟩]
    simp only [List.drop_zero]
    rw [show ((k : Int) - 0).toNat = k by omega, take_upto l k h3 (by rw [← cps_getD]; exact h4) (fun v hv => by rw [← cps_getD]; exact h5 v (by simp [PySem.fromIndex]) hv)]
theorem cut_mark (l : List Nat) (h : 34 ∈ l) : Txt.slice ⟨l.toArray⟩ none (some (Txt.find ⟨l.toArray⟩ (Str.ofString "\""))) ++ Str.ofString "\\" = ⟨(upto l ++ [92]).toArray⟩ := by
  rw [cut_upto l h, show Str.ofString "\\" = (⟨[92].toArray⟩ : Str) from by decide +kernel, strApp]
end Mine
namespace Mine
local macro_rules | `(tactic| walk_at "exec Assign cons ListComp") => `(tactic| (k_here; with_reducible refine Stop.intro ?_))
local macro_rules | `(tactic| walk_at "call builtin:len") => `(tactic| (k_here; with_reducible refine Stop.intro ?_))
local macro_rules | `(tactic| walk_at "call builtin:list.pop") => `(tactic| (k_here; with_reducible refine Stop.intro ?_))
local macro_rules | `(tactic| walk_at "call builtin:list.append") => `(tactic| (k_here; with_reducible refine Stop.intro ?_))
local macro_rules | `(tactic| walk_at "exec For") => `(tactic| (k_here; with_reducible refine Stop.intro ?_))
local macro_rules | `(tactic| walk_at "call ref") => `(tactic| (k_here; with_reducible refine Stop.intro ?_))
local macro_rules | `(tactic| walk_at "eval ListComp") => `(tactic| (k_here; with_reducible refine Stop.intro ?_))
theorem frOne {h₀ h : Heap} {L : Addr} {x : Str} {v : Value} {m0 : Str → Option Value} (F : Fr h₀ L h m0) (e : m0 x = some v) : ∃ m1 : Str → Option Value, Fr h₀ L h (fun y => if y = x then some v else m1 y) :=
  ⟨m0, frCast F fun y => by
    by_cases h : y = x
    · subst h; simp [e]
    · simp [h]⟩
def drawnOf (ns : List Int) : List Int := ((ns.take 5 ++ [3202, 57377, 90, 11, 176]).take 5).map (· % 262144)
theorem drawnOf_length (ns : List Int) : (drawnOf ns).length = 5 := by
  unfold drawnOf
  simp only [List.length_map, List.length_take, List.length_append, List.length_cons, List.length_nil]
  omega
theorem five_le : 5 ≤ sizeLine := by rw [sizeLine_eq]; decide
theorem take5_len {us : List (Int × Tok)} {l : List Int} (h : us.map (fun p => p.1) = l.take 5) : us.length ≤ 5 := by
  have := congrArg List.length h
  rw [List.length_map, List.length_take] at this
  omega
theorem frOneL {h₀ h : Heap} {L : Addr} {x : Str} {l : Addr} {m0 : Str → Option Value} {us : List (Int × Tok)} (F : Fr h₀ L h m0) (hL : h₀.IsList l (vals us).toArray) (e : m0 x = some (.ref l)) : ∃ (l : Addr) (m1 : Str → Option Value), Fr h₀ L h (fun y => if y = x then some (.ref l) else m1 y) ∧ h₀.IsList l (vals us).toArray :=
  ⟨l, m0, frCast F fun y => by
    by_cases h : y = x
    · subst h; simp [e]
    · simp [h], hL⟩
def IterPost (h₀ : Heap) (L : Addr) (m : Str → Option Value) (s : Shared) (l1 : List Int) (xv : Value) (s' : Shared) : Prop :=
  ∃ (l : Addr) (us : List (Int × Tok)) (h' : Heap) (tk : Nat), xv = .ref l ∧ s' = { s with heap := h', toks := tk } ∧ h'.IsList l (vals us).toArray ∧ us.map (fun p => p.1) = l1 ∧ Fr h₀ L h' m
theorem iterPost_of {h₀ h' : Heap} {L D : Addr} {m : Str → Option Value} {s : Shared} {l1 l1' : List Int} {ws : List Value} {n tk : Nat} {rest : List (Addr × Obj)} (hI : IntsAre ws l1') (e : l1' = l1) (F : Fr h₀ L h' m) (N : News h₀ L h' ((D, listOf ws.toArray n) :: rest)) :
    IterPost h₀ L m s l1 (.ref D) { s with heap := h', toks := tk } := by
  obtain ⟨us, rfl, hus⟩ := ints_vals hI
  exact ⟨D, us, h', tk, rfl, rfl, N.isList (List.mem_cons_self ..), hus.trans e, F⟩
def P1 (s₁ : Shared) (ns : List Int) (f : Flow) (s' : Shared) : Prop := f = Flow.next ∧ ∃ (D : Addr) (n : Nat) (dr : List (Int × Tok)) (h' : Heap) (tk : Nat) (m1 : Str → Option Value), s' = { s₁ with heap := h', toks := tk } ∧ dr.map (fun p => p.1) = drawnOf ns ∧ Fr s₁.heap s₁.heap.objs.size h' (fun y => if y = Str.ofString "drawn" then some (Value.ref D) else m1 y) ∧ News s₁.heap s₁.heap.objs.size h' [(D, listOf (vals dr).toArray n)]
def P2 (s₁ : Shared) (dl : List Int) (D : Addr) (oD : Obj) (f : Flow) (s' : Shared) : Prop := f = Flow.next ∧ ∃ (K : Addr) (n : Nat) (ks : List (Int × Tok)) (h' : Heap) (tk : Nat) (m1 : Str → Option Value), s' = { s₁ with heap := h', toks := tk } ∧ ks.map (fun p => p.1) = dl.map (· % 2) ∧ K ≠ D ∧ Fr s₁.heap s₁.heap.objs.size h' (fun y => if y = Str.ofString "kinds" then some (Value.ref K) else if y = Str.ofString "drawn" then some (Value.ref D) else m1 y) ∧ News s₁.heap s₁.heap.objs.size h' [(K, listOf (vals ks).toArray n), (D, oD)]
theorem vals_ints : ∀ us : List (Int × Tok), IntsAre (vals us) (us.map fun p => p.1)
  | [] => .nil
  | (k, t) :: us => .cons k t (vals_ints us)
def P3 (s₁ : Shared) (ks : List (Int × Tok)) (K D : Addr) (oK oD : Obj) (f : Flow) (s' : Shared) : Prop := f = Flow.next ∧ ∃ (W : Addr) (n : Nat) (wl : List (Int × Tok)) (h' : Heap) (tk : Nat) (m1 : Str → Option Value), s' = { s₁ with heap := h', toks := tk } ∧ wl.map (fun p => p.1) = (ks.map fun p => p.1).reverse ∧ W ≠ K ∧ W ≠ D ∧
  Fr s₁.heap s₁.heap.objs.size h' (fun y => if y = Str.ofString "waiting" then some (Value.ref W) else if y = Str.ofString "kinds" then some (Value.ref K) else if y = Str.ofString "drawn" then some (Value.ref D) else m1 y) ∧ News s₁.heap s₁.heap.objs.size h' [(W, listOf (vals wl).toArray n), (K, oK), (D, oD)]
theorem p3_of {s₁ : Shared} {ks : List (Int × Tok)} {K D W : Addr} {oK oD : Obj} {ws : List Value} {n tk : Nat} {h' : Heap} {m1 : Str → Option Value} (hI : IntsAre ws (ks.map fun p => p.1).reverse) (l1 : @LT.lt Nat instLTNat K W ∧ @LT.lt Nat instLTNat D W)
    (F : Fr s₁.heap s₁.heap.objs.size h' (fun y => if y = Str.ofString "waiting" then some (Value.ref W) else if y = Str.ofString "kinds" then some (Value.ref K) else if y = Str.ofString "drawn" then some (Value.ref D) else m1 y))
    (N : News s₁.heap s₁.heap.objs.size h' [(W, listOf ws.toArray n), (K, oK), (D, oD)]) : P3 s₁ ks K D oK oD .next { s₁ with heap := h', toks := tk } := by
  obtain ⟨wl, rfl, hwl⟩ := ints_vals hI
  exact ⟨rfl, W, n, wl, h', tk, m1, rfl, hwl, Nat.ne_of_gt l1.1, Nat.ne_of_gt l1.2, F, N⟩
def P4 (s₁ : Shared) (nw : List (Addr × Obj)) (W K D : Addr) (f : Flow) (s' : Shared) : Prop := f = Flow.next ∧ ∃ (O : Addr) (h' : Heap) (tk : Nat) (m1 : Str → Option Value), s' = { s₁ with heap := h', toks := tk } ∧ O ≠ W ∧ O ≠ K ∧ O ≠ D ∧
  Fr s₁.heap s₁.heap.objs.size h' (fun y => if y = Str.ofString "order" then some (Value.ref O) else if y = Str.ofString "waiting" then some (Value.ref W) else if y = Str.ofString "kinds" then some (Value.ref K) else if y = Str.ofString "drawn" then some (Value.ref D) else m1 y) ∧ News s₁.heap s₁.heap.objs.size h' ((O, listOf #[] 0) :: nw)
theorem p4_of {s₁ : Shared} {nw : List (Addr × Obj)} {K D W O : Addr} {tk : Nat} {h' : Heap} {m1 : Str → Option Value} (l1 : @LT.lt Nat instLTNat W O ∧ @LT.lt Nat instLTNat K O ∧ @LT.lt Nat instLTNat D O)
    (F : Fr s₁.heap s₁.heap.objs.size h' (fun y => if y = Str.ofString "order" then some (Value.ref O) else if y = Str.ofString "waiting" then some (Value.ref W) else if y = Str.ofString "kinds" then some (Value.ref K) else if y = Str.ofString "drawn" then some (Value.ref D) else m1 y))
    (N : News s₁.heap s₁.heap.objs.size h' ((O, listOf #[] 0) :: nw)) : P4 s₁ nw W K D .next { s₁ with heap := h', toks := tk } :=
  ⟨rfl, O, h', tk, m1, rfl, Nat.ne_of_gt l1.1, Nat.ne_of_gt l1.2.1, Nat.ne_of_gt l1.2.2, F, N⟩
structure WaitSt where
  wl : List (Int × Tok)
  nW : Nat
  ol : List (Int × Tok)
  nO : Nat
  m : Str → Option Value
def WaitP (ks : List (Int × Tok)) (i : Nat) (c : WaitSt) : Prop :=
  c.ol.length = i ∧ (c.ol.map (fun p => p.1) ++ c.wl.map (fun p => p.1)).Perm (ks.map fun p => p.1) ∧ c.wl.length + i = 5
theorem vals_at {us : List (Int × Tok)} {i : Nat} {v : Value} (h : (vals us)[i]? = some v) : ∃ p, us[i]? = some p ∧ v = Value.int p.1 p.2 := by
  unfold vals at h
  rw [List.getElem?_map] at h
  cases e : us[i]? with
  | none => rw [e] at h; cases h
  | some p => rw [e] at h; exact ⟨p, rfl, (Option.some.inj h).symm⟩
theorem vals_at_lt {us : List (Int × Tok)} {i : Nat} {v : Value} (h : (vals us)[i]? = some v) : i < us.length := by
  cases Nat.lt_or_ge i us.length with
  | inl h => exact h
  | inr hh => rw [List.getElem?_eq_none (by rw [vals_length]; exact hh)] at h; cases h
theorem erase_perm : ∀ (l : List Int) (i : Nat) (h : i < l.length), (l[i] :: l.eraseIdx i).Perm l
  | [], _, h => absurd h (Nat.not_lt_zero _)
  | a :: l, 0, _ => List.Perm.refl _
  | a :: l, i + 1, h => by
    have hi : i < l.length := by simpa using h
    have ih := erase_perm l i hi
    show (l[i] :: a :: l.eraseIdx i).Perm (a :: l)
    exact (List.Perm.swap _ _ _).trans (ih.cons a)
theorem mapV {o w k d v : Str} {O W K D V : Value} {m : Str → Option Value} (h1 : o ≠ v) (h2 : w ≠ v) (h3 : k ≠ v) (h4 : d ≠ v) (y : Str) :
    (if y = o then some O else if y = w then some W else if y = k then some K else if y = d then some D else if y = v then some V else m y) = (if y = v then some V else if y = o then some O else if y = w then some W else if y = k then some K else if y = d then some D else m y) := by
  by_cases e : y = v
  · subst e
    simp [h1.symm, h2.symm, h3.symm, h4.symm]
  · rw [if_neg e, if_neg e]
def rowOf (ns : List Int) : List Int := (drawnOf ns).map numF ++ [1826, 5]
def P6 (s₁ : Shared) (ns : List Int) (nw : List (Addr × Obj)) (O K : Addr) (f : Flow) (s' : Shared) : Prop := f = Flow.next ∧ ∃ (R : Addr) (n : Nat) (rl : List (Int × Tok)) (h' : Heap) (tk : Nat) (m1 : Str → Option Value), s' = { s₁ with heap := h', toks := tk } ∧ rl.map (fun p => p.1) = rowOf ns ∧ R ≠ O ∧ R ≠ K ∧
  Fr s₁.heap s₁.heap.objs.size h' (fun y => if y = Str.ofString "row" then some (Value.ref R) else if y = Str.ofString "order" then some (Value.ref O) else if y = Str.ofString "kinds" then some (Value.ref K) else m1 y) ∧ News s₁.heap s₁.heap.objs.size h' ((R, listOf (vals rl).toArray n) :: nw)
theorem pick02 {α : Type} (a b c d : α) : ∀ p ∈ [a, c], p ∈ [a, b, c, d] := fun p hp => by
  simp only [List.mem_cons, List.not_mem_nil, or_false] at hp ⊢
  rcases hp with h | h
  · exact .inl h
  · exact .inr (.inr (.inl h))
theorem rowMap {r o w k d : Str} {R O W K D : Value} {m : Str → Option Value} (h : w ≠ k) (y : Str) :
    (if y = r then some R else if y = o then some O else if y = k then some K else if y = w then some W else if y = d then some D else m y) = (if y = r then some R else if y = o then some O else if y = w then some W else if y = k then some K else if y = d then some D else m y) := by
  by_cases e : y = w
  · subst e
    simp [h]
  · by_cases e2 : y = k
    · subst e2
      simp [e]
    · simp [e, e2]
theorem p6_of {s₁ : Shared} {ns : List Int} {O W K D R : Addr} {oO oK : Obj} {us : List Value} {n tk : Nat} {h' : Heap} {m1 : Str → Option Value} {rest : List (Addr × Obj)} {ri : List Int} {X1 X2 : Addr} (hI : IntsAre us ri) (hri : ri = rowOf ns)
    (F : Fr s₁.heap s₁.heap.objs.size h' (fun y => if y = Str.ofString "row" then some (Value.ref R) else if y = Str.ofString "order" then some (Value.ref O) else if y = Str.ofString "waiting" then some (Value.ref W) else if y = Str.ofString "kinds" then some (Value.ref K) else if y = Str.ofString "drawn" then some (Value.ref D) else m1 y))
    (N : News s₁.heap s₁.heap.objs.size h' rest) (hn : ∀ p ∈ [(R, listOf us.toArray n), (O, oO), (K, oK)], p ∈ rest) (hl : @LT.lt Nat instLTNat X1 R ∧ @LT.lt Nat instLTNat X2 R ∧ @LT.lt Nat instLTNat O R ∧ @LT.lt Nat instLTNat K R) : P6 s₁ ns [(O, oO), (K, oK)] O K .next { s₁ with heap := h', toks := tk } := by
  subst hri
  obtain ⟨rl, rfl, hrl⟩ := ints_vals hI
  exact ⟨rfl, R, n, rl, h', tk, _, rfl, hrl, Nat.ne_of_gt hl.2.2.1, Nat.ne_of_gt hl.2.2.2, frCast F (rowMap (show Str.ofString "waiting" ≠ Str.ofString "kinds" by decide)), fun p hp => N p (hn p hp)⟩
theorem pick3 {α : Type} (a b c d e : α) : ∀ p ∈ [a, d, e], p ∈ [a, b, c, d, e] := fun p hp => by
  simp only [List.mem_cons, List.not_mem_nil, or_false] at hp ⊢
  rcases hp with h | h | h
  · exact .inl h
  · exact .inr (.inr (.inr (.inl h)))
  · exact .inr (.inr (.inr (.inr h)))
theorem drawn_ok (ns : List Int) : ∀ v ∈ drawnOf ns, 0 ≤ v ∧ v < 262144 := by
  intro v hv
  unfold drawnOf at hv
  obtain ⟨x, _, rfl⟩ := List.mem_map.mp hv
  exact ⟨Int.emod_nonneg _ (by decide), Int.emod_lt_of_pos _ (by decide)⟩
theorem numF_ok {v : Int} (h : 0 ≤ v ∧ v < 262144) : 0 ≤ numF v ∧ numF v < 2 ^ 40 := by
  unfold numF
  rw [Int.fdiv_eq_ediv_of_nonneg _ (by decide)]
  dsimp only
  split <;> split <;> omega
theorem row_ok (ns : List Int) : ∀ v ∈ rowOf ns, 0 ≤ v ∧ v < 2 ^ 40 := by
  intro v hv
  rcases List.mem_append.mp hv with h | h
  · obtain ⟨x, hx, rfl⟩ := List.mem_map.mp h
    exact numF_ok (drawn_ok ns x hx)
  · simp only [List.mem_cons, List.not_mem_nil, or_false] at h
    rcases h with rfl | rfl <;> decide
def rowN (ns : List Int) : List Nat := (rowOf ns).map Int.toNat
def wholeL (ns : List Int) : List Nat := flat (rowN ns)
theorem rowN_cast (ns : List Int) : (rowN ns).map (fun k : Nat => (k : Int)) = rowOf ns := by
  unfold rowN
  rw [List.map_map]
  have := row_ok ns
  generalize rowOf ns = l at this
  induction l with
  | nil => rfl
  | cons a l ih =>
    rw [List.map_cons, ih fun v hv => this v (List.mem_cons_of_mem _ hv)]
    have := (this a (List.mem_cons_self ..)).1
    congr 1
    exact Int.toNat_of_nonneg this
theorem rowN_tail (ns : List Int) : rowN ns = ((drawnOf ns).map numF).map Int.toNat ++ [1826, 5] := by
  unfold rowN rowOf
  rw [List.map_append]
  rfl
theorem fine_whole (ns : List Int) : Fine (wholeL ns) := by
  unfold wholeL
  rw [rowN_tail]
  exact fine_flat _
theorem flat_len : ∀ l : List Nat, (∀ n ∈ l, n < 2 ^ 40) → (flat l).length ≤ 8 * l.length
  | [], _ => Nat.le_refl _
  | n :: l, h => by
    rw [flat_cons, List.length_append, List.length_cons]
    have := sg_len (h n (List.mem_cons_self ..))
    have := flat_len l fun d hd => h d (List.mem_cons_of_mem _ hd)
    omega
theorem rowN_ok (ns : List Int) : ∀ n ∈ rowN ns, n < 2 ^ 40 := by
  intro n hn
  obtain ⟨v, hv, rfl⟩ := List.mem_map.mp hn
  have := row_ok ns v hv
  omega
theorem whole_len (ns : List Int) : (wholeL ns).length ≤ 56 := by
  have := flat_len _ (rowN_ok ns)
  have e : (rowN ns).length = 7 := by
    rw [rowN_tail, List.length_append, List.length_map, List.length_map, drawnOf_length]
    rfl
  rw [e] at this
  exact this
theorem join_whole {ns : List Int} {rl : List (Int × Tok)} (h : rl.map (fun p => p.1) = rowOf ns) : Txt.join (Str.ofString "") (rl.map fun p => sgS p.1) = ⟨(wholeL ns).toArray⟩ := by
  apply Str.ext'
  apply Array.ext'
  rw [join_cps]
  unfold wholeL rowN flat
  rw [← h]
  simp [List.flatMap_map, sgS]
theorem weight_whole {ns : List Int} {rl : List (Int × Tok)} (h : rl.map (fun p => p.1) = rowOf ns) : ((rl.map fun p => sgS p.1).map (·.length)).sum + (rl.map fun p => sgS p.1).length ≤ 1048576 := by
  have hl : rl.length = 7 := by
    have := congrArg List.length h
    rw [List.length_map] at this
    rw [this, rowOf, List.length_append, List.length_map, drawnOf_length]
    rfl
  have ho : ∀ p ∈ rl, (sgS p.1).length ≤ 8 := by
    intro p hp
    have := row_ok ns p.1 (h ▸ List.mem_map.mpr ⟨p, hp, rfl⟩)
    have := sg_len (n := p.1.toNat) (by omega)
    simpa [sgS, Str.length] using this
  have : ∀ l : List (Int × Tok), (∀ p ∈ l, (sgS p.1).length ≤ 8) → ((l.map fun p => sgS p.1).map (·.length)).sum ≤ 8 * l.length := by
    intro l
    induction l with
    | nil => intro _; exact Nat.le_refl _
    | cons a l ih =>
      intro h
      have h1 := h a (List.mem_cons_self ..)
      have h2 := ih fun p hp => h p (List.mem_cons_of_mem _ hp)
      simp only [List.map_cons, List.sum_cons, List.length_cons]
      omega
  have := this rl ho
  rw [List.length_map]
  omega
def P8 (s₁ : Shared) (ns : List Int) (nw : List (Addr × Obj)) (R O K : Addr) (f : Flow) (s' : Shared) : Prop := f = Flow.next ∧ ∃ (t : Tok) (h' : Heap) (tk : Nat) (m1 : Str → Option Value), s' = { s₁ with heap := h', toks := tk } ∧
  Fr s₁.heap s₁.heap.objs.size h' (fun y => if y = Str.ofString "whole" then some (Value.str ⟨(wholeL ns).toArray⟩ t) else if y = Str.ofString "row" then some (Value.ref R) else if y = Str.ofString "order" then some (Value.ref O) else if y = Str.ofString "kinds" then some (Value.ref K) else m1 y) ∧ News s₁.heap s₁.heap.objs.size h' nw
theorem p8_of {s₁ : Shared} {ns : List Int} {nw nw' : List (Addr × Obj)} {R O K : Addr} {t : Tok} {h' : Heap} {tk : Nat} {m1 : Str → Option Value}
    (F : Fr s₁.heap s₁.heap.objs.size h' (fun y => if y = Str.ofString "whole" then some (Value.str ⟨(wholeL ns).toArray⟩ t) else if y = Str.ofString "row" then some (Value.ref R) else if y = Str.ofString "order" then some (Value.ref O) else if y = Str.ofString "kinds" then some (Value.ref K) else m1 y))
    (N : News s₁.heap s₁.heap.objs.size h' nw') (hn : ∀ p ∈ nw, p ∈ nw') : P8 s₁ ns nw R O K .next { s₁ with heap := h', toks := tk } :=
  ⟨rfl, t, h', tk, m1, rfl, F, fun p hp => N p (hn p hp)⟩
def P9 (s₁ : Shared) (ns : List Int) (nw : List (Addr × Obj)) (R O K : Addr) (f : Flow) (s' : Shared) : Prop := f = Flow.next ∧ ∃ (t t2 : Tok) (h' : Heap) (tk : Nat) (m1 : Str → Option Value), s' = { s₁ with heap := h', toks := tk } ∧
  Fr s₁.heap s₁.heap.objs.size h' (fun y => if y = Str.ofString "text" then some (Value.str ⟨(wholeL ns).toArray⟩ t2) else if y = Str.ofString "whole" then some (Value.str ⟨(wholeL ns).toArray⟩ t) else if y = Str.ofString "row" then some (Value.ref R) else if y = Str.ofString "order" then some (Value.ref O) else if y = Str.ofString "kinds" then some (Value.ref K) else m1 y) ∧ News s₁.heap s₁.heap.objs.size h' nw
theorem p9_of {s₁ : Shared} {ns : List Int} {nw nw' : List (Addr × Obj)} {R O K : Addr} {t t2 : Tok} {h' : Heap} {tk : Nat} {m1 : Str → Option Value}
    (F : Fr s₁.heap s₁.heap.objs.size h' (fun y => if y = Str.ofString "text" then some (Value.str ⟨(wholeL ns).toArray⟩ t2) else if y = Str.ofString "whole" then some (Value.str ⟨(wholeL ns).toArray⟩ t) else if y = Str.ofString "row" then some (Value.ref R) else if y = Str.ofString "order" then some (Value.ref O) else if y = Str.ofString "kinds" then some (Value.ref K) else m1 y))
    (N : News s₁.heap s₁.heap.objs.size h' nw') (hn : ∀ p ∈ nw, p ∈ nw') : P9 s₁ ns nw R O K .next { s₁ with heap := h', toks := tk } :=
  ⟨rfl, t, t2, h', tk, m1, rfl, F, fun p hp => N p (hn p hp)⟩
theorem dbl_len : ∀ l : List Nat, (dbl l).length ≤ 2 * l.length
  | [] => Nat.le_refl _
  | c :: l => by
    have := dbl_len l
    rw [dbl_cons]
    split <;> simp only [List.length_cons] <;> omega
theorem esc_len : ∀ l : List Nat, (esc l).length ≤ 2 * l.length
  | [] => Nat.le_refl _
  | c :: l => by
    have := esc_len l
    have h : (esc1 c).length ≤ 2 := by unfold esc1; split <;> simp
    rw [esc_cons, List.length_append, List.length_cons]
    omega
theorem layL_len (k : Int) (l : List Nat) : (layL k l).length ≤ 2 * l.length := by
  unfold layL
  split
  · exact dbl_len l
  · exact esc_len l
theorem rd0_len : ∀ l : List Nat, (rd0 l).length ≤ l.length
  | [] => Nat.le_refl _
  | [c] => by
    rw [rd0]
    split <;> simp
  | c :: d :: r => by
    have h1 := rd0_len r
    have h2 := rd0_len (d :: r)
    rw [rd0]
    split
    · split <;> simp only [List.length_cons, List.length_nil] at * <;> omega
    · simp only [List.length_cons] at *
      omega
theorem rdL_len (k : Int) (l : List Nat) : (rdL k l).length ≤ l.length + 9 := by
  unfold rdL
  split
  · have := rd0_len (l ++ tailR)
    rw [List.length_append] at this
    exact this
  · unfold rd1
    rw [List.length_map]
    have := units_len l false
    omega
structure TextSt where
  l : List Nat
  t : Tok
  m : Str → Option Value
def LaidP (w : List Nat) (ks : List (Int × Tok)) (i : Nat) (c : TextSt) : Prop :=
  c.l = lays ((ks.take i).map fun p => p.1).reverse w ∧ c.l.length ≤ 56 * 2 ^ i
theorem laid_next {w : List Nat} {ks : List (Int × Tok)} {i : Nat} {c : TextSt} {p : Int × Tok} (h : LaidP w ks i c) (hp : ks[i]? = some p) (t : Tok) (m : Str → Option Value) : LaidP w ks (i + 1) ⟨layL p.1 c.l, t, m⟩ := by
  obtain ⟨h1, h2⟩ := h
  refine ⟨?_, ?_⟩
  · dsimp only
    rw [List.take_add_one, hp, List.map_append, List.reverse_append, h1]
    rfl
  · dsimp only
    have := layL_len p.1 c.l
    rw [Nat.pow_succ]
    omega
def ReadP (x : List Nat) (os : List (Int × Tok)) (i : Nat) (c : TextSt) : Prop :=
  c.l = ((os.take i).map fun p => p.1).foldl (fun l k => rdL k l) x ∧ c.l.length ≤ 1792 + 9 * i
theorem read_next {x : List Nat} {os : List (Int × Tok)} {i : Nat} {c : TextSt} {p : Int × Tok} (h : ReadP x os i c) (hp : os[i]? = some p) (t : Tok) (m : Str → Option Value) : ReadP x os (i + 1) ⟨rdL p.1 c.l, t, m⟩ := by
  obtain ⟨h1, h2⟩ := h
  refine ⟨?_, ?_⟩
  · dsimp only
    rw [List.take_add_one, hp, List.map_append, List.foldl_append, ← h1]
    rfl
  · dsimp only
    have := rdL_len p.1 c.l
    omega
theorem textMap {x a b c d e : Str} {T T' A B C D V : Value} {m : Str → Option Value} (h0 : x ≠ a) (h1 : b ≠ x) (h2 : c ≠ x) (h3 : d ≠ x) (h4 : e ≠ x) (y : Str) :
    (if y = a then some T' else if y = b then some A else if y = c then some B else if y = d then some C else if y = e then some D else if y = x then some V else m y) = (if y = a then some T' else if y = x then some V else if y = a then some T else if y = b then some A else if y = c then some B else if y = d then some C else if y = e then some D else m y) := by
  by_cases ha : y = a
  · rw [if_pos ha, if_pos ha]
  rw [if_neg ha, if_neg ha]
  by_cases hx : y = x
  · subst hx
    simp [h1.symm, h2.symm, h3.symm, h4.symm]
  · rw [if_neg hx, if_neg hx, if_neg ha]
def P11 (s₁ : Shared) (ns : List Int) (io : Bool) (lt : List Nat) (gs : Array GenState) (nw : List (Addr × Obj)) (R : Addr) (f : Flow) (s' : Shared) : Prop :=
  ∃ (t t2 : Tok) (h' : Heap) (tk : Nat) (m1 : Str → Option Value), s' = { s₁ with heap := h', toks := tk, gens := gs } ∧ f = (if io = true then Flow.ret (Value.bool true) else Flow.next) ∧
  Fr s₁.heap s₁.heap.objs.size h' (fun y => if y = Str.ofString "text" then some (Value.str ⟨lt.toArray⟩ t2) else if y = Str.ofString "whole" then some (Value.str ⟨(wholeL ns).toArray⟩ t) else if y = Str.ofString "row" then some (Value.ref R) else m1 y) ∧ News s₁.heap s₁.heap.objs.size h' nw
theorem p11_of {s₁ : Shared} {ns : List Int} {io : Bool} {lt : List Nat} {gs : Array GenState} {nw nw' : List (Addr × Obj)} {R : Addr} {t t2 : Tok} {h' : Heap} {tk : Nat} {m1 : Str → Option Value} {f : Flow}
    (F : Fr s₁.heap s₁.heap.objs.size h' (fun y => if y = Str.ofString "text" then some (Value.str ⟨lt.toArray⟩ t2) else if y = Str.ofString "whole" then some (Value.str ⟨(wholeL ns).toArray⟩ t) else if y = Str.ofString "row" then some (Value.ref R) else m1 y))
    (N : News s₁.heap s₁.heap.objs.size h' nw') (hn : ∀ p ∈ nw, p ∈ nw') (hf : f = (if io = true then Flow.ret (Value.bool true) else Flow.next)) : P11 s₁ ns io lt gs nw R f { s₁ with heap := h', toks := tk, gens := gs } :=
  ⟨t, t2, h', tk, m1, rfl, hf, F, fun p hp => N p (hn p hp)⟩
def P12 (s₁ : Shared) (ns : List Int) (lt : List Nat) (gs : Array GenState) (nw : List (Addr × Obj)) (R : Addr) (f : Flow) (s' : Shared) : Prop :=
  f = Flow.next ∧ ∃ (A : Addr) (t t2 : Tok) (h' : Heap) (tk : Nat) (m1 : Str → Option Value), s' = { s₁ with heap := h', toks := tk, gens := gs } ∧ A ≠ R ∧
  Fr s₁.heap s₁.heap.objs.size h' (fun y => if y = Str.ofString "ahead" then some (Value.ref A) else if y = Str.ofString "text" then some (Value.str ⟨lt.toArray⟩ t2) else if y = Str.ofString "whole" then some (Value.str ⟨(wholeL ns).toArray⟩ t) else if y = Str.ofString "row" then some (Value.ref R) else m1 y) ∧ News s₁.heap s₁.heap.objs.size h' ((A, listOf #[] 0) :: nw)
theorem p12_of {s₁ : Shared} {ns : List Int} {lt : List Nat} {gs : Array GenState} {nw : List (Addr × Obj)} {R A : Addr} {t t2 : Tok} {h' : Heap} {tk : Nat} {m1 : Str → Option Value}
    (F : Fr s₁.heap s₁.heap.objs.size h' (fun y => if y = Str.ofString "ahead" then some (Value.ref A) else if y = Str.ofString "text" then some (Value.str ⟨lt.toArray⟩ t2) else if y = Str.ofString "whole" then some (Value.str ⟨(wholeL ns).toArray⟩ t) else if y = Str.ofString "row" then some (Value.ref R) else m1 y))
    (N : News s₁.heap s₁.heap.objs.size h' ((A, listOf #[] 0) :: nw)) (hl : @LT.lt Nat instLTNat R A) : P12 s₁ ns lt gs nw R .next { s₁ with heap := h', toks := tk, gens := gs } :=
  ⟨rfl, A, t, t2, h', tk, m1, rfl, Nat.ne_of_gt hl, F, N⟩
def aheadI (l : List Int) : List Int := l.takeWhile fun n => decide (n % 64 ≠ 34)
structure AhSt where
  al : List (Int × Tok)
  nA : Nat
  m : Str → Option Value
def AhP (rl : List (Int × Tok)) (i : Nat) (c : AhSt) : Prop :=
  c.al.map (fun p => p.1) = (rl.take i).map (fun p => p.1) ∧ ∀ p ∈ rl.take i, p.1 % 64 ≠ 34
theorem takeWhile_take {α : Type} (f : α → Bool) : ∀ (l : List α) (i : Nat), (∀ a ∈ l.take i, f a = true) → (∀ a, l[i]? = some a → f a = false) → l.takeWhile f = l.take i
  | [], i, _, _ => by simp
  | a :: l, 0, _, h => by
    have := h a rfl
    simp [this]
  | a :: l, i + 1, h1, h2 => by
    rw [List.takeWhile_cons, h1 a (by simp), List.take_succ_cons]
    simp only [if_true]
    rw [takeWhile_take f l i (fun b hb => h1 b (by simp [hb])) (fun b hb => h2 b (by simpa using hb))]
theorem ah_next {rl : List (Int × Tok)} {i : Nat} {c : AhSt} {p : Int × Tok} (h : AhP rl i c) (hp : rl[i]? = some p) (hn : p.1 % 64 ≠ 34) (n : Nat) (m : Str → Option Value) : AhP rl (i + 1) ⟨c.al ++ [p], n, m⟩ := by
  obtain ⟨h1, h2⟩ := h
  refine ⟨?_, ?_⟩
  · dsimp only
    rw [List.take_add_one, hp, List.map_append, List.map_append, h1]
    rfl
  · intro q hq
    rw [List.take_add_one, hp] at hq
    rcases List.mem_append.mp hq with h | h
    · exact h2 q h
    · have : q = p := by simpa using h
      subst this
      exact hn
theorem ah_brk {rl : List (Int × Tok)} {i : Nat} {c : AhSt} {p : Int × Tok} (h : AhP rl i c) (hp : rl[i]? = some p) (hn : p.1 % 64 = 34) : c.al.map (fun p => p.1) = aheadI (rl.map fun p => p.1) := by
  obtain ⟨h1, h2⟩ := h
  unfold aheadI
  rw [takeWhile_take _ _ i, h1, List.map_take]
  · intro a ha
    rw [← List.map_take] at ha
    obtain ⟨q, hq, rfl⟩ := List.mem_map.mp ha
    exact decide_eq_true (h2 q hq)
  · intro a ha
    rw [List.getElem?_map, hp] at ha
    have : p.1 = a := by simpa using ha
    subst this
    exact decide_eq_false (by omega)
theorem ah_end {rl : List (Int × Tok)} {c : AhSt} (h : AhP rl rl.length c) : c.al.map (fun p => p.1) = aheadI (rl.map fun p => p.1) := by
  obtain ⟨h1, h2⟩ := h
  unfold aheadI
  rw [takeWhile_take _ _ rl.length, h1, List.map_take]
  · intro a ha
    rw [← List.map_take] at ha
    obtain ⟨q, hq, rfl⟩ := List.mem_map.mp ha
    exact decide_eq_true (h2 q hq)
  · intro a ha
    rw [List.getElem?_map, List.getElem?_eq_none (Nat.le_refl _)] at ha
    cases ha
theorem aheadI_cast : ∀ l : List Nat, (aheadN l).map (fun k : Nat => (k : Int)) = aheadI (l.map fun k : Nat => (k : Int))
  | [] => rfl
  | n :: l => by
    have ih := aheadI_cast l
    unfold aheadN aheadI at ih ⊢
    rw [List.map_cons, List.takeWhile_cons, List.takeWhile_cons]
    have : decide (((n : Nat) : Int) % 64 ≠ 34) = decide (n % 64 ≠ 34) := by
      by_cases h : n % 64 = 34
      · rw [decide_eq_false (by omega), decide_eq_false (by omega)]
      · rw [decide_eq_true (by omega), decide_eq_true (by omega)]
    rw [this]
    split
    · rw [List.map_cons, ih]
    · rfl
theorem nums_cut (ns : List Int) : (numsOf (upto (wholeL ns) ++ [92])).map (fun k : Nat => (k : Int)) = aheadI (rowOf ns) := by
  unfold wholeL
  rw [nums_ahead, aheadI_cast, rowN_cast]
  refine ⟨1826, ?_, by decide⟩
  rw [rowN_tail]
  simp
def P13 (s₁ : Shared) (ns : List Int) (lt : List Nat) (gs : Array GenState) (A : Addr) (f : Flow) (s' : Shared) : Prop :=
  f = Flow.next ∧ ∃ (al : List (Int × Tok)) (nA : Nat) (t t2 : Tok) (h' : Heap) (tk : Nat) (m1 : Str → Option Value), s' = { s₁ with heap := h', toks := tk, gens := gs } ∧ al.map (fun p => p.1) = aheadI (rowOf ns) ∧
  Fr s₁.heap s₁.heap.objs.size h' (fun y => if y = Str.ofString "ahead" then some (Value.ref A) else if y = Str.ofString "text" then some (Value.str ⟨lt.toArray⟩ t2) else if y = Str.ofString "whole" then some (Value.str ⟨(wholeL ns).toArray⟩ t) else m1 y) ∧ News s₁.heap s₁.heap.objs.size h' [(A, listOf (vals al).toArray nA)]
theorem numMap {x b c d e : Str} {A B C D V : Value} {m : Str → Option Value} (h1 : b ≠ x) (h2 : c ≠ x) (h3 : d ≠ x) (h4 : e ≠ x) (y : Str) :
    (if y = b then some A else if y = c then some B else if y = d then some C else if y = e then some D else if y = x then some V else m y) = (if y = x then some V else if y = b then some A else if y = c then some B else if y = d then some C else if y = e then some D else m y) := by
  by_cases hx : y = x
  · subst hx
    simp [h1.symm, h2.symm, h3.symm, h4.symm]
  · rw [if_neg hx, if_neg hx]
def P14 (s₁ : Shared) (gs : Array GenState) (f : Flow) (s' : Shared) : Prop :=
  f = Flow.ret (Value.bool true) ∧ ∃ (h' : Heap) (tk : Nat) (m1 : Str → Option Value), s' = { s₁ with heap := h', toks := tk, gens := gs } ∧ Fr s₁.heap s₁.heap.objs.size h' m1
theorem good_end {L : Addr} {m : Str → Option Value} {mean : ExcName → Option Value} {cl : Str → Option Addr} {ns : List Int} {s₁ : Shared} {h' : Heap} {tk : Nat} {gs : Array GenState} (F : Fr s₁.heap L h' m) (hG : AllBare gs) :
    GoodWG PySem.Challenge.rw_wf0005_01.row.claim cl mean [ofPy (PyData.list (List.map PyData.int ns))] s₁ (.ok (.ret (.bool true))) { s₁ with heap := h', toks := tk, gens := gs } :=
  ⟨.inl ⟨.bool true, .bool true, [], rfl, fun _ => by with_unfolding_all rfl, .bool true, by with_unfolding_all rfl, fun _ => ⟨.nil, fun _ h => nomatch h⟩⟩, .of_keep F.keep, rfl, hG⟩
set_option maxHeartbeats 8000000 in
theorem lawWalk : PySem.Challenge.rw_wf0005_01.Holds := by
  refine wfhd ?_
  k_fill
  intro w s₀ s₁ mg mb G Y fa o pm cd doc dV kV ho hd hcd hD hmg hg args vals as hpre hlay hrd hwl hlo
  have KX := kIn_of Y
  have X := (Ground.X G).1
  have V := (Ground.X G).2
  try w_nolog (first | (have GL := glob_more (Ground.glob G (by first | k_qdec | decide +kernel) (by first | k_qdec | decide +kernel)) V) | (have GL := glob_more (Ground.glob G (by decide +kernel)) V))
  refine Ground.open G ?_
  intro T B D TE TW
  try (refine guard_noD D (by decide +kernel) ?_; clear D)
  obtain ⟨_, _, M⟩ := bmod_of_top T
  have TA := at_of_top T
  try (obtain ⟨_, _, he, B0⟩ := based_of_top T rfl hmg ho hd; have he' : cd = _ := he; subst he'; clear he)
  clear hmg
  wrow_args hpre hlay hrd hwl hlo
  first | refine callC_kw (enter_call ?_) | refine enter_call ?_ | refine callC_kw (enter_callW ?_) | refine enter_callW ?_ | w_how
  w_top on
  have K0 := below_caller (Top.heap T)
  w_call any ho hd hcd hD T F
  clear hd TA
  k_drop
  (try k_fold)
  dsimp only
  clear G Y X V GL B TE TW M hD hcd ho
  rename IntsAre _ _ => hI
  rename Heap.IsList _ _ _ => hL
  rename ¬ _ < _ => hlen
  rename List Int => ns
  rename News _ _ _ _ => N
  obtain ⟨us0, rfl, hus0⟩ := ints_vals hI
  obtain ⟨sl, m0, F, hL⟩ := frOneL (x := Str.ofString "script") F hL (by with_unfolding_all rfl)
  have hlen' : ns.length ≤ 63 := by omega


  refine wpAny_execs_cons ?_
  refine wpAny_mono (Q := P1 s₁ ns) ?S1 (fun f s' hp => ?_) (fun _ _ e => e)
  case S1 =>
    k_steps
    refine Stop.out ?_
    (with_unfolding_all refine' comp_intsA (h₀ := s₁.heap) (m := fun y => if y = Str.ofString "script" then some (.ref sl) else m0 y) (news := []) (fun p r => Sealed (∃ t, r = Value.int (p.1 % 262144) t)) ?hsw rfl ?c1 ?c2 rfl ?c3 rfl rfl rfl rfl ?h ?hs)
    case hsw => with_unfolding_all rfl
    case c1 => decide
    case c2 => decide
    case c3 => decide
    case hs => intro _; with_unfolding_all rfl
    case h =>
      refine wpAny_mono (Q := IterPost s₁.heap s₁.heap.objs.size (fun y => if y = Str.ofString "script" then some (.ref sl) else m0 y) s₁ (List.take 5 (List.take 5 ns ++ [3202, 57377, 90, 11, 176]))) ?ev (fun xv s' hp => ?_) (fun _ _ e => e)
      case ev =>
        k_steps
        exact iterPost_of (by assumption) (by first | rfl | rw [List.map_id']) (by assumption) (by assumption)
      obtain ⟨l, us1, h2, tk2, rfl, rfl, hl1, hus1, F1⟩ := hp
      refine ⟨l, us1, rfl, hl1, Nat.le_trans (take5_len hus1) five_le, F1, News.nil, ?elt1, ?fin1⟩
      case elt1 =>
        intro C p s₂ m₂ E' hp F N hn hm htk
        exact elt_x w _ _ _ _ _ _ _ _ KX T F hn hm
      case fin1 =>
        intro D ys nD h' tk F1 N1 hDn hp
        obtain ⟨dr, hdr, rfl⟩ := paired_ints hp
        refine ⟨rfl, D, nD, dr, h', tk, _, rfl, ?_, F1, N1⟩
        rw [hdr]
        unfold drawnOf
        rw [← hus1, List.map_map]
        rfl
  clear F N
  obtain ⟨rfl, D, nD, dr, h1, tk1, m1, rfl, hdr, F, N⟩ := hp
  dsimp only
  clear hI hL hus0
  have hdl : dr.length = 5 := by
    have := congrArg List.length hdr
    rw [List.length_map, drawnOf_length] at this
    exact this
  refine wpAny_execs_cons ?_
  refine wpAny_mono (Q := P2 s₁ (drawnOf ns) D (listOf (vals dr).toArray nD)) ?S2 (fun f s' hp => ?_) (fun _ _ e => e)
  case S2 =>
    k_steps
    refine Stop.out ?_
    (with_unfolding_all refine' comp_intsA (h₀ := s₁.heap) (m := fun y => if y = Str.ofString "drawn" then some (Value.ref D) else m1 y) (news := [(D, listOf (vals dr).toArray nD)]) (fun p r => Sealed (∃ t, r = Value.int (p.1 % 2) t)) ?hsw2 rfl ?c12 ?c22 rfl ?c32 rfl rfl rfl rfl ?h2 ?hs2)
    case hsw2 => with_unfolding_all rfl
    case c12 => decide
    case c22 => decide
    case c32 => decide
    case hs2 => intro _; with_unfolding_all rfl
    case h2 =>
      (with_unfolding_all refine' ld F (v := Value.ref D) rfl ?_ rfl rfl (by decide))
      refine ⟨D, dr, rfl, N.isList (List.mem_cons_self ..), by rw [hdl]; exact five_le, F, N, ?elt2, ?fin2⟩
      case elt2 =>
        intro C p s₂ m₂ E' hp F N hn hm htk
        exact elt_v w _ _ _ _ _ _ _ _ KX T F hn hm
      case fin2 =>
        intro K ys nK h' tk F1 N1 hDn hp
        obtain ⟨ks, hks, rfl⟩ := paired_ints hp
        refine ⟨rfl, K, nK, ks, h', tk, _, rfl, ?_, fun e => hDn _ (List.mem_cons_self ..) e.symm, F1, N1⟩
        rw [hks, ← hdr, List.map_map]
        rfl
  clear F N
  obtain ⟨rfl, K, nK, ks, h2, tk2, m2, rfl, hks, hKD, F, N⟩ := hp
  dsimp only
  have hkl : ks.length = 5 := by
    have := congrArg List.length hks
    rw [List.length_map, List.length_map, drawnOf_length] at this
    exact this
  refine wpAny_execs_cons ?_
  refine wpAny_mono (Q := P3 s₁ ks K D (listOf (vals ks).toArray nK) (listOf (vals dr).toArray nD)) ?S3 (fun f s' hp => ?_) (fun _ _ e => e)
  case S3 =>
    have hIk := vals_ints ks
    k_steps
    exact p3_of (by assumption) (by assumption) (by assumption) (by assumption)
  clear F N
  obtain ⟨rfl, W, nW, wl, h3, tk3, m3, rfl, hwl, hWK, hWD, F, N⟩ := hp
  dsimp only
  refine wpAny_execs_cons ?_
  refine wpAny_mono (Q := P4 s₁ [(W, listOf (vals wl).toArray nW), (K, listOf (vals ks).toArray nK), (D, listOf (vals dr).toArray nD)] W K D) ?S4 (fun f s' hp => ?_) (fun _ _ e => e)
  case S4 =>
    k_steps
    exact p4_of (by assumption) (by assumption) (by assumption)
  clear F N
  obtain ⟨rfl, O, h4, tk4, m4, rfl, hOW, hOK, hOD, F, N⟩ := hp
  dsimp only
  refine wpAny_execs_cons ?_
  (with_unfolding_all refine' for_mk (σ := WaitSt) (h₀ := s₁.heap) (L := s₁.heap.objs.size) (vals dr) (fun c => fun y => if y = Str.ofString "order" then some (Value.ref O) else if y = Str.ofString "waiting" then some (Value.ref W) else if y = Str.ofString "kinds" then some (Value.ref K) else if y = Str.ofString "drawn" then some (Value.ref D) else c.m y) (fun c => [(O, listOf (vals c.ol).toArray c.nO), (W, listOf (vals c.wl).toArray c.nW), (K, listOf (vals ks).toArray nK), (D, listOf (vals dr).toArray nD)]) (WaitP ks) (fun gs => gs = s₁.gens) ⟨wl, nW, [], 0, m4⟩ ?hx5 ?hp5 ?hL5 ?hh5 ?h5 ?same5 ?hs5 ?hE5)
  case hx5 => with_unfolding_all rfl
  case hp5 => with_unfolding_all rfl
  case hL5 => with_unfolding_all rfl
  case hh5 => with_unfolding_all rfl
  case same5 => intro c; rfl
  case hs5 => intro _; with_unfolding_all rfl
  case hE5 => passes_own
  case h5 =>
    (with_unfolding_all refine' ld F (v := Value.ref D) rfl ?_ rfl rfl (by decide))
    refine ⟨D, nD, rfl, F, N, fun c => by simp, ⟨by simp, by rw [hwl]; exact List.reverse_perm _, by have := congrArg List.length hwl; simpa [hkl] using this⟩, rfl, ?turn5, ?done5⟩
    case turn5 =>
      rintro it oi i v c h tk gs hi hP rfl hit F3 N3 hap
      clear F N
      obtain ⟨p, hpi, rfl⟩ := vals_at hi
      obtain ⟨hc1, hc2, hc3⟩ := hP
      have hi5 : i < 5 := by
        have := vals_at_lt hi
        omega
      dsimp only at F3 N3 ⊢
      k_steps
      refine Stop.out ?_
      refine Calls.call_len_list (N3.isList (List.mem_cons_of_mem _ (List.mem_cons_of_mem _ (List.mem_cons_self ..)))) (by simp [vals]; omega) ?_
      have hsz : (vals c.wl).toArray.size = c.wl.length := by simp [vals]
      rw [hsz]
      have hwp : 0 < c.wl.length := by omega
      k_steps
      refine Stop.out ?_
      rename Fr _ _ _ _ => F4
      rename News _ _ _ _ => N4
      have hj0 : 0 ≤ (p.1.fdiv 2).fmod (c.wl.length : Int) := Int.fmod_nonneg_of_pos _ (by omega)
      have hj1 : (p.1.fdiv 2).fmod (c.wl.length : Int) < c.wl.length := Int.fmod_lt_of_pos _ (by omega)
      generalize (p.1.fdiv 2).fmod (c.wl.length : Int) = j at hj0 hj1 ⊢
      have hjl : j.toNat < c.wl.length := by omega
      have hWi : W ≠ it := Nat.ne_of_lt (hap (W, _) (List.mem_cons_of_mem _ (List.mem_cons_self ..)))
      have hOi : O ≠ it := Nat.ne_of_lt (hap (O, _) (List.mem_cons_self ..))
      refine my_popAt (us := vals c.wl) (i := j) F4 N4 hj0 (vals_get c.wl j.toNat hjl) (.tail hWi.symm (.tail hOW (.head fun q hq => ?_))) (by rw [vals_length, sizeLine_eq]; omega) fun h7 F7 N7 => ?_
      · simp only [List.mem_cons, List.not_mem_nil, or_false] at hq
        rcases hq with rfl | rfl
        · exact hWK.symm
        · exact hWD.symm
      rw [vals_erase] at N7
      k_steps
      refine Stop.out ?_
      refine append_K F7 N7 (.tail hOi.symm (.head fun q hq => ?_)) (fun h8 F8 N8 => ?_) (by rw [List.size_toArray, vals_length, sizeLine_eq]; omega)
      · simp only [List.mem_cons, List.not_mem_nil, or_false] at hq
        rcases hq with rfl | rfl | rfl
        · exact hOW.symm
        · exact hOK.symm
        · exact hOD.symm
      rw [vals_push] at N8
      k_steps
      refine fpost_next (⟨c.wl.eraseIdx j.toNat, c.nW + 1, c.ol ++ [(c.wl[j.toNat].1, c.wl[j.toNat].2)], c.nO + 1, fun y => if y = Str.ofString "v" then some (Value.int p.1 p.2) else c.m y⟩ : WaitSt) F8 N8 (mapV (by decide) (by decide) (by decide) (by decide)) (fun q hq => List.mem_cons_of_mem _ hq) (List.mem_cons_self ..) ⟨by simp [hc1], ?_, ?_⟩ rfl
      · refine List.Perm.trans ?_ hc2
        dsimp only
        rw [List.map_append, map_erase, List.append_assoc]
        refine List.Perm.append_left _ ?_
        have hg : (c.wl.map fun p => p.1)[j.toNat]'(by simpa using hjl) = c.wl[j.toNat].1 := by simp
        have := erase_perm (c.wl.map fun p => p.1) j.toNat (by simpa using hjl)
        rw [hg] at this
        exact this
      · dsimp only
        rw [List.length_eraseIdx, if_pos hjl]
        omega
    case done5 =>
      rintro c h5 tk5 gs hP rfl F5 N5
      clear F N
      dsimp only
      rw [vals_length, hdl] at hP
      obtain ⟨wl5, nW5, ol, nO, m5⟩ := c
      obtain ⟨hol, hperm, hwl5⟩ := hP
      dsimp only at hol hperm hwl5 F5 N5
      obtain rfl : wl5 = [] := by cases wl5 with | nil => rfl | cons a b => simp at hwl5
      simp only [List.map_nil, List.append_nil] at hperm
      refine wpAny_execs_cons ?_
      refine wpAny_mono (Q := P6 s₁ ns [(O, listOf (vals ol).toArray nO), (K, listOf (vals ks).toArray nK)] O K) ?S6 (fun f s' hp => ?_) (fun _ _ e => e)
      case S6 =>
        k_steps
        refine Stop.out ?_
        (with_unfolding_all refine' comp_ints (h₀ := s₁.heap) (L := s₁.heap.objs.size) (m := fun y => if y = Str.ofString "order" then some (Value.ref O) else if y = Str.ofString "waiting" then some (Value.ref W) else if y = Str.ofString "kinds" then some (Value.ref K) else if y = Str.ofString "drawn" then some (Value.ref D) else m5 y) (news := [(O, listOf (vals ol).toArray nO), (K, listOf (vals ks).toArray nK)]) (fun p r => Sealed (∃ t, r = Value.int (numF p.1) t)) ?hh6 ?c16 ?c26 ?k6 ?c36 ?x6 ?h6 ?hs6)
        case hh6 => with_unfolding_all rfl
        case c16 => decide
        case c26 => decide
        case k6 => with_unfolding_all rfl
        case c36 => decide
        case x6 => with_unfolding_all rfl
        case hs6 => intro _; with_unfolding_all rfl
        case h6 =>
          (with_unfolding_all refine' ld F5 (v := Value.ref D) rfl ?_ rfl rfl (by decide))
          refine ⟨D, dr, rfl, N5.isList (List.mem_cons_of_mem _ (List.mem_cons_of_mem _ (List.mem_cons_of_mem _ (List.mem_cons_self ..)))), by rw [hdl]; exact five_le, F5, N5.perm (pick02 _ _ _ _), ?elt6, ?fin6⟩
          case elt6 =>
            intro C p s₂ m₂ E' hp F N hn hm htk
            (with_unfolding_all refine' elt_num w _ _ _ _ _ _ _ _ callerA _ C _ _ _ p.1 p.2 K0 KX T F rfl ?d6 ?u6 hn hm)
            case d6 => ktr_room
            case u6 => ktr_units
          case fin6 =>
            intro R ys nR h' tk F6 N6 hDn hp
            obtain ⟨rl, hrl, rfl⟩ := paired_ints hp
            have hIr := vals_ints rl
            clear F5 N5
            dsimp only
            have hrl5 : rl.length = 5 := by
              have := congrArg List.length hrl
              rw [List.length_map, List.length_map] at this
              omega
            have hrow : rl.map (fun p => p.1) ++ [1826, 5] = rowOf ns := by
              rw [hrl, rowOf, ← hdr, List.map_map]
              rfl
            k_steps
            exact p6_of (by assumption) hrow (by assumption) (by assumption) (pick3 _ _ _ _ _) (by assumption)
      clear F5 N5
      obtain ⟨rfl, R, nR, rl, h6, tk6, m6, rfl, hrl, hRO, hRK, F, N⟩ := hp
      dsimp only
      refine wpAny_execs_cons ?_
      refine wpAny_mono (Q := P8 s₁ ns [(R, listOf (vals rl).toArray nR), (O, listOf (vals ol).toArray nO), (K, listOf (vals ks).toArray nK)] R O K) ?S7 (fun f s' hp => ?_) (fun _ _ e => e)
      case S7 =>
        k_steps
        refine Stop.out ?_
        (with_unfolding_all refine' comp_ints (h₀ := s₁.heap) (L := s₁.heap.objs.size) (m := fun y => if y = Str.ofString "row" then some (Value.ref R) else if y = Str.ofString "order" then some (Value.ref O) else if y = Str.ofString "kinds" then some (Value.ref K) else m6 y) (news := [(R, listOf (vals rl).toArray nR), (O, listOf (vals ol).toArray nO), (K, listOf (vals ks).toArray nK)]) (fun p r => Sealed (∃ t, r = Value.str (sgS p.1) t)) ?hh7 ?c17 ?c27 ?k7 ?c37 ?x7 ?h7 ?hs7)
        case hh7 => with_unfolding_all rfl
        case c17 => decide
        case c27 => decide
        case k7 => with_unfolding_all rfl
        case c37 => decide
        case x7 => with_unfolding_all rfl
        case hs7 => intro _; with_unfolding_all rfl
        case h7 =>
          (with_unfolding_all refine' ld F (v := Value.ref R) rfl ?_ rfl rfl (by decide))
          refine ⟨R, rl, rfl, N.isList (List.mem_cons_self ..), ?len7, F, N, ?elt7, ?fin7⟩
          case len7 =>
            have := congrArg List.length hrl
            rw [List.length_map, rowOf, List.length_append, List.length_map, drawnOf_length] at this
            rw [this, sizeLine_eq]
            decide
          case elt7 =>
            intro C p s₂ m₂ E' hp F N hn hm htk
            (with_unfolding_all refine' elt_sig w _ _ _ _ _ _ _ _ callerA _ C _ _ _ p.1 p.2 K0 KX T F rfl ?d7 ?u7 (row_ok ns p.1 (hrl ▸ List.mem_map.mpr ⟨p, hp, rfl⟩)) hn hm)
            case d7 => ktr_room
            case u7 => ktr_units
          case fin7 =>
            clear F N
            intro G ys nG h' tk F N hDn hp
            obtain ⟨l, rfl, el⟩ := paired_strs (f := fun p : Int × Tok => sgS p.1) hp
            have hlG := N.isList (List.mem_cons_self ..)
            dsimp only
            k_steps
            refine SC.join hlG el (joinOk_of_weight (weight_whole hrl) (by decide +kernel)) ?_
            intro t' k'
            rw [join_whole hrl]
            k_steps
            exact p8_of (by assumption) (by assumption) (fun p hp => List.mem_cons_of_mem _ hp)
      clear F N
      obtain ⟨rfl, tW, h7, tk7, m7, rfl, F, N⟩ := hp
      dsimp only
      refine wpAny_execs_cons ?_
      refine wpAny_mono (Q := P9 s₁ ns [(R, listOf (vals rl).toArray nR), (O, listOf (vals ol).toArray nO), (K, listOf (vals ks).toArray nK)] R O K) ?S8 (fun f s' hp => ?_) (fun _ _ e => e)
      case S8 =>
        k_steps
        exact p9_of (by assumption) (by assumption) (fun p hp => hp)
      clear F N
      obtain ⟨rfl, tW, tT, h8, tk8, m8, rfl, F, N⟩ := hp
      dsimp only
      refine wpAny_execs_cons ?_
      (with_unfolding_all refine' for_mk (σ := TextSt) (h₀ := s₁.heap) (L := s₁.heap.objs.size) (vals ks) (fun c => fun y => if y = Str.ofString "text" then some (Value.str ⟨c.l.toArray⟩ c.t) else if y = Str.ofString "whole" then some (Value.str ⟨(wholeL ns).toArray⟩ tW) else if y = Str.ofString "row" then some (Value.ref R) else if y = Str.ofString "order" then some (Value.ref O) else if y = Str.ofString "kinds" then some (Value.ref K) else c.m y) (fun c => [(R, listOf (vals rl).toArray nR), (O, listOf (vals ol).toArray nO), (K, listOf (vals ks).toArray nK)]) (LaidP (wholeL ns) ks) (fun gs => gs = s₁.gens) ⟨wholeL ns, tT, m8⟩ ?hx9 ?hp9 ?hL9 ?hh9 ?h9 ?same9 ?hs9 ?hE9)
      case hx9 => with_unfolding_all rfl
      case hp9 => with_unfolding_all rfl
      case hL9 => with_unfolding_all rfl
      case hh9 => with_unfolding_all rfl
      case same9 => intro c; rfl
      case hs9 => intro _; with_unfolding_all rfl
      case hE9 => passes_own
      case h9 =>
        (with_unfolding_all refine' ld F (v := Value.ref K) rfl ?_ rfl rfl (by decide))
        refine ⟨K, nK, rfl, F, N, fun c => by simp, ⟨rfl, whole_len ns⟩, rfl, ?turn9, ?done9⟩
        case turn9 =>
          rintro it oi i v c h tk gs hi hP rfl hit F3 N3 hap
          clear F N
          obtain ⟨p, hpi, rfl⟩ := vals_at hi
          have hi5 : i < 5 := by
            have := vals_at_lt hi
            omega
          have hcl : c.l.length ≤ 56 * 2 ^ i := hP.2
          have hci : 2 ^ i ≤ 2 ^ 5 := Nat.pow_le_pow_right (by decide) (Nat.le_of_lt hi5)
          dsimp only at F3 N3 ⊢
          k_steps
          refine Stop.out ?_
          (with_unfolding_all refine' (c_lay w _ _ mg mb _ _ _ _ _) _ _ _ _ _ _ _ _ _ _ _ _ _ _ _ _ _ ?B ?F ?X ?N ?T ?kf ?pre ?d ?u ?R)
          case B => exact K0
          case F => exact F3
          case X => exact KX
          case N => exact N3
          case T => exact T
          case kf => rfl
          case pre => simp only [Str.length, List.size_toArray]; omega
          case d => ktr_room
          case u => ktr_units
          case R =>
            intro t9 h9 tk9 F9 N9
            clear F3 N3
            k_steps
            exact fpost_next (⟨layL p.1 c.l, t9, fun y => if y = Str.ofString "kind" then some (Value.int p.1 p.2) else c.m y⟩ : TextSt) (by assumption) (by assumption) (textMap (by decide) (by decide) (by decide) (by decide) (by decide)) (fun q hq => List.mem_cons_of_mem _ hq) (List.mem_cons_self ..) (laid_next hP hpi _ _) rfl
        case done9 =>
          rintro c h9 tk9 gs hP rfl F9 N9
          clear F N
          rw [vals_length] at hP
          obtain ⟨lx, tX, m9⟩ := c
          obtain ⟨hlx, hlen9⟩ := hP
          rw [List.take_length] at hlx
          rw [hkl] at hlen9
          dsimp only at hlx hlen9 F9 N9 ⊢
          refine wpAny_execs_cons ?_
          (with_unfolding_all refine' for_mk (σ := TextSt) (h₀ := s₁.heap) (L := s₁.heap.objs.size) (vals ol) (fun c => fun y => if y = Str.ofString "text" then some (Value.str ⟨c.l.toArray⟩ c.t) else if y = Str.ofString "whole" then some (Value.str ⟨(wholeL ns).toArray⟩ tW) else if y = Str.ofString "row" then some (Value.ref R) else if y = Str.ofString "order" then some (Value.ref O) else if y = Str.ofString "kinds" then some (Value.ref K) else c.m y) (fun c => [(R, listOf (vals rl).toArray nR), (O, listOf (vals ol).toArray nO), (K, listOf (vals ks).toArray nK)]) (ReadP lx ol) AllBare ⟨lx, tX, m9⟩ ?hx10 ?hp10 ?hL10 ?hh10 ?h10 ?same10 ?hs10 ?hE10)
          case hx10 => with_unfolding_all rfl
          case hp10 => with_unfolding_all rfl
          case hL10 => with_unfolding_all rfl
          case hh10 => with_unfolding_all rfl
          case same10 => intro c; rfl
          case hs10 => intro _; with_unfolding_all rfl
          case hE10 => passes_own
          case h10 =>
            (with_unfolding_all refine' ld F9 (v := Value.ref O) rfl ?_ rfl rfl (by decide))
            refine ⟨O, nO, rfl, F9, N9, fun c => by simp, ⟨rfl, hlen9⟩, .of_eq hg, ?turn10, ?done10⟩
            case turn10 =>
              rintro it oi i v c h tk gs hi hP hG hit F3 N3 hap
              clear F9 N9
              obtain ⟨p, hpi, rfl⟩ := vals_at hi
              have hi5 : i < 5 := by
                have := vals_at_lt hi
                omega
              have hcl : c.l.length ≤ 1792 + 9 * i := hP.2
              dsimp only at F3 N3 ⊢
              k_steps
              refine Stop.out ?_
              (with_unfolding_all refine' (c_read w _ _ mg mb _ _ _ _ _) _ _ _ _ _ _ _ _ _ _ _ _ _ _ _ _ _ ?B ?F ?X ?N ?T ?kf ?pre ?d ?u ?R)
              case B => exact K0
              case F => exact F3
              case X => exact KX
              case N => exact N3
              case T => exact T
              case kf => rfl
              case pre => simp only [Str.length, List.size_toArray]; omega
              case d => ktr_room
              case u => ktr_units
              case R =>
                intro t9 h9 tk9 gs9 F9 N9 hG9
                clear F3 N3
                k_steps
                exact fpost_next (⟨rdL p.1 c.l, t9, fun y => if y = Str.ofString "kind" then some (Value.int p.1 p.2) else c.m y⟩ : TextSt) (by assumption) (by assumption) (textMap (by decide) (by decide) (by decide) (by decide) (by decide)) (fun q hq => List.mem_cons_of_mem _ hq) (List.mem_cons_self ..) (read_next hP hpi _ _) (hG9 hG)
            case done10 =>
              rintro c h10 tk10 gs hP hG F10 N10
              clear F9 N9
              rw [vals_length] at hP
              obtain ⟨lt, tT, m10⟩ := c
              obtain ⟨hlt, hlen10⟩ := hP
              rw [List.take_length] at hlt
              rw [hol] at hlen10
              dsimp only at hlt hlen10 F10 N10 ⊢
              have hkk : ∀ k ∈ (ks.map fun p => p.1).reverse, k = 0 ∨ k = 1 := by
                intro k hk
                rw [List.mem_reverse, hks] at hk
                obtain ⟨x, _, rfl⟩ := List.mem_map.mp hk
                omega
              have hpm : (ol.map fun p => p.1).Perm (ks.map fun p => p.1).reverse := hperm.trans (List.reverse_perm _).symm
              have hin : inOrd (ks.map fun p => p.1).reverse (ol.map fun p => p.1) = true → lt = wholeL ns := fun e => by rw [hlt, hlx]; exact in_order _ _ _ hpm hkk e
              have hout : inOrd (ks.map fun p => p.1).reverse (ol.map fun p => p.1) = false → lt = upto (wholeL ns) ++ [92] := fun e => by rw [hlt, hlx]; exact out_of_order (fine_whole ns) _ _ hpm hkk e
              clear hlt hlx hlen9 hpm hkk
              have hlt5 : lt.length ≤ 2000 := by omega
              refine wpAny_execs_cons ?_
              refine wpAny_mono (Q := P11 s₁ ns (inOrd (ks.map fun p => p.1).reverse (ol.map fun p => p.1)) lt gs [(R, listOf (vals rl).toArray nR)] R) ?S11 (fun f s' hp => ?_) (fun _ _ e => e)
              case S11 =>
                k_steps
                refine Stop.out ?_
                (with_unfolding_all refine' (c_inorder w _ _ mg mb _ K O nK nO ks ol) _ _ _ _ _ _ _ _ _ _ _ _ _ _ _ _ _ ?B ?F ?X ?N ?T ?kf ?pre ?d ?u ?R)
                case B => exact K0
                case F => exact F10
                case X => exact KX
                case N => exact N10
                case T => exact T
                case kf => rfl
                case pre => exact ⟨by simp, by simp, hperm, by omega⟩
                case d => ktr_room
                case u => ktr_units
                case R =>
                  intro t11 h11 tk11 F11 N11
                  clear F10 N10
                  dsimp only
                  revert hin hout
                  generalize inOrd (ks.map fun p => p.1).reverse (ol.map fun p => p.1) = io
                  intro hin hout
                  cases io with
                  | true =>
                    obtain rfl := hin rfl
                    clear hin hout
                    k_steps
                    · refine Stop.out ?_
                      (with_unfolding_all refine' (c_numbers w _ _ mg mb _ _ _) _ _ _ _ _ _ _ _ _ _ _ _ _ _ _ ?B ?F ?X ?N ?T ?X2 ?T2 ?kf ?pre ?d ?u ?R)
                      case B => exact K0
                      case F => exact F11
                      case X => exact KX
                      case N => exact N11
                      case T => exact T
                      case X2 => exact KX
                      case T2 => exact T
                      case kf => rfl
                      case pre => simp only [Str.length, List.size_toArray]; omega
                      case d => ktr_room
                      case u => ktr_units
                      case R =>
                        intro G nG lg h12 tk12 hlg F12 N12
                        clear F11 N11
                        have hIg : IntsAre (vals lg) (rowOf ns) := by
                          have := vals_ints lg
                          rwa [hlg, show (Str.cps ⟨(wholeL ns).toArray⟩).toList = wholeL ns from rfl, wholeL, nums_flat, rowN_cast] at this
                        have hIr : IntsAre (vals rl) (rowOf ns) := hrl ▸ vals_ints rl
                        k_steps
                        exact p11_of (by assumption) (by assumption) (fun q hq => by simp at hq ⊢; simp [hq]) (by simp)
                    · rename (_ == _) = false => hE
                      simp at hE
                  | false =>
                    obtain rfl := hout rfl
                    clear hin hout
                    k_steps
                    exact p11_of (by assumption) (by assumption) (fun q hq => by simp at hq ⊢; simp [hq]) rfl
              clear F10 N10
              revert hin hout hp
              generalize inOrd (ks.map fun p => p.1).reverse (ol.map fun p => p.1) = io
              rintro hin hout ⟨tW, tT, h11, tk11, m11, rfl, hf, F, N⟩
              cases io with
              | true =>
                obtain rfl : f = .ret (.bool true) := by simpa using hf
                dsimp only
                k_steps
                exact good_end F hG
              | false =>
                obtain rfl : f = .next := by simpa using hf
                obtain rfl := hout rfl
                clear hin hout hf
                dsimp only
                refine wpAny_execs_cons ?_
                refine wpAny_mono (Q := P12 s₁ ns (upto (wholeL ns) ++ [92]) gs [(R, listOf (vals rl).toArray nR)] R) ?S12 (fun f s' hp => ?_) (fun _ _ e => e)
                case S12 =>
                  k_steps
                  exact p12_of (by assumption) (by assumption) (by assumption)
                clear F N
                obtain ⟨rfl, A, tW, tT, h12, tk12, m12, rfl, hAR, F, N⟩ := hp
                dsimp only
                refine wpAny_execs_cons ?_
                refine wpAny_mono (Q := P13 s₁ ns (upto (wholeL ns) ++ [92]) gs A) ?S13 (fun f s' hp => ?_) (fun _ _ e => e)
                case S13 =>
                  (with_unfolding_all refine' for_mk (σ := AhSt) (h₀ := s₁.heap) (L := s₁.heap.objs.size) (vals rl) (fun c => fun y => if y = Str.ofString "ahead" then some (Value.ref A) else if y = Str.ofString "text" then some (Value.str ⟨(upto (wholeL ns) ++ [92]).toArray⟩ tT) else if y = Str.ofString "whole" then some (Value.str ⟨(wholeL ns).toArray⟩ tW) else if y = Str.ofString "row" then some (Value.ref R) else c.m y) (fun c => [(A, listOf (vals c.al).toArray c.nA), (R, listOf (vals rl).toArray nR)]) (AhP rl) (fun g => g = gs) ⟨[], 0, m12⟩ ?hx13 ?hp13 ?hL13 ?hh13 ?h13 ?same13 ?hs13 ?hE13)
                  case hx13 => with_unfolding_all rfl
                  case hp13 => with_unfolding_all rfl
                  case hL13 => with_unfolding_all rfl
                  case hh13 => with_unfolding_all rfl
                  case same13 => intro c; rfl
                  case hs13 => intro _; with_unfolding_all rfl
                  case hE13 => passes_own
                  case h13 =>
                    (with_unfolding_all refine' ld F (v := Value.ref R) rfl ?_ rfl rfl (by decide))
                    refine ⟨R, nR, rfl, F, N, fun c => by simp, ⟨by simp, by simp⟩, rfl, ?turn13, ?done13⟩
                    case turn13 =>
                      rintro it oi i v c h tk gs' hi hP rfl hit F3 N3 hap
                      clear F N
                      obtain ⟨p, hpi, rfl⟩ := vals_at hi
                      have hcl : c.al.length ≤ 7 := by
                        have h1 := congrArg List.length hP.1
                        have h2 := congrArg List.length hrl
                        rw [List.length_map, List.length_map, List.length_take] at h1
                        rw [List.length_map, rowOf, List.length_append, List.length_map, drawnOf_length] at h2
                        simp at h2
                        omega
                      dsimp only at F3 N3 ⊢
                      k_steps
                      · rename Int.fmod _ _ = _ => hE
                        rw [Int.fmod_eq_emod_of_nonneg _ (by decide)] at hE
                        exact ⟨rfl, c.al, c.nA, tW, tT, h, _, _, rfl, by rw [← hrl]; exact ah_brk hP hpi hE, frCast F3 (numMap (m := c.m) (x := Str.ofString "number") (b := Str.ofString "ahead") (c := Str.ofString "text") (d := Str.ofString "whole") (e := Str.ofString "row") (by decide) (by decide) (by decide) (by decide)), fun q hq => N3 q (by simp at hq ⊢; simp [hq])⟩
                      · rename Int.fmod _ _ ≠ _ => hE
                        rw [Int.fmod_eq_emod_of_nonneg _ (by decide)] at hE
                        refine Stop.out ?_
                        have hAi : A ≠ it := Nat.ne_of_lt (hap (A, _) (List.mem_cons_self ..))
                        refine append_K F3 N3 (.tail hAi.symm (.head fun q hq => ?_)) (fun h8 F8 N8 => ?_) (by rw [List.size_toArray, vals_length, sizeLine_eq]; omega)
                        · simp only [List.mem_cons, List.not_mem_nil, or_false] at hq
                          subst hq
                          exact hAR.symm
                        rw [vals_push] at N8
                        k_steps
                        exact fpost_next (⟨c.al ++ [p], c.nA + 1, fun y => if y = Str.ofString "number" then some (Value.int p.1 p.2) else c.m y⟩ : AhSt) (by assumption) (by assumption) (numMap (by decide) (by decide) (by decide) (by decide)) (fun q hq => List.mem_cons_of_mem _ hq) (List.mem_cons_self ..) (ah_next hP hpi hE _ _) rfl
                    case done13 =>
                      rintro c h13 tk13 gs' hP rfl F13 N13
                      rw [vals_length] at hP
                      exact ⟨rfl, c.al, c.nA, tW, tT, h13, tk13, _, rfl, by rw [← hrl]; exact ah_end hP, F13, fun q hq => N13 q (by simp at hq ⊢; simp [hq])⟩
                clear F N
                obtain ⟨rfl, al, nA, tW, tT, h13, tk13, m13, rfl, hal, F, N⟩ := hp
                dsimp only
                refine wpAny_execs_cons ?_
                refine wpAny_mono (Q := P14 s₁ gs) ?S14 (fun f s' hp => ?_) (fun _ _ e => e)
                case S14 =>
                  have hWs : (⟨(wholeL ns).toArray⟩ : Str).length ≤ 56 := by
                    have := whole_len ns
                    simpa [Str.length] using this
                  have hcut := cut_mark (wholeL ns) (fine_whole ns).1
                  k_steps
                  · refine Stop.out ?_
                    rename Fr _ _ _ _ => F9
                    rename News _ _ _ _ => N9
                    (with_unfolding_all refine' (c_numbers w _ _ mg mb _ _ _) _ _ _ _ _ _ _ _ _ _ _ _ _ _ _ ?B ?F ?X ?N ?T ?X2 ?T2 ?kf ?pre ?d ?u ?R)
                    case B => exact K0
                    case F => exact F9
                    case X => exact KX
                    case N => exact N9
                    case T => exact T
                    case X2 => exact KX
                    case T2 => exact T
                    case kf => rfl
                    case pre => simp only [Str.length, List.size_toArray]; omega
                    case d => ktr_room
                    case u => ktr_units
                    case R =>
                      intro G nG lg h14 tk14 hlg F14 N14
                      have hIg : IntsAre (vals lg) (aheadI (rowOf ns)) := by
                        have := vals_ints lg
                        rw [hlg] at this
                        rw [← nums_cut]
                        exact this
                      have hIa : IntsAre (vals al) (aheadI (rowOf ns)) := hal ▸ vals_ints al
                      k_steps
                      exact ⟨rfl, _, _, _, rfl, by assumption⟩
                  · exfalso
                    rename (_ == _) = false => hE
                    rw [hcut] at hE
                    simp at hE
                clear F N
                obtain ⟨rfl, h14, tk14, m14, rfl, F⟩ := hp
                dsimp only
                k_steps
                exact good_end F hG
end Mine

theorem PySem.Challenge.cw_wf0005_01_holds : PySem.Challenge.rw_wf0005_01.Holds := by
  exact Mine.lawWalk
