import PyProof.Rows.All
import Wide.All
import OpenK.AllK
import Wide.FinOn
import PySem.Challenge.RW_rs0043_01
open PySem PySem.W PyProof.Rows
set_option Elab.async false
set_option maxRecDepth 100000
set_option maxHeartbeats 8000000
set_option rowWalk.seconds 0
set_option linter.unusedVariables false
set_option linter.unusedSimpArgs false
namespace Mine
open_top hd for PySem.Challenge.rw_rs0043_01
end Mine
section -- P1
set_option linter.unusedVariables false
namespace Mine
/-- A row that never falls. -/
def Up (ns : List Int) : Prop := ∀ i j : Nat, i ≤ j → j < ns.length → ns.getD i 0 ≤ ns.getD j 0
/-- The stretch from lo up to (not with) hi. -/
def cut (ns : List Int) (lo hi : Nat) : List Int := (ns.drop lo).take (hi - lo)
theorem mem_cut {ns : List Int} {lo hi : Nat} {y : Int} (h : y ∈ cut ns lo hi) : ∃ i, lo ≤ i ∧ i < hi ∧ i < ns.length ∧ ns.getD i 0 = y := by
  unfold cut at h
  obtain ⟨k, hk, e⟩ := List.mem_iff_getElem.mp h
  simp only [List.length_take, List.length_drop] at hk
  refine ⟨lo + k, by omega, by omega, by omega, ?_⟩
  rw [List.getElem_take, List.getElem_drop] at e
  rw [List.getD_eq_getElem?_getD, List.getElem?_eq_getElem (by omega)]
  simpa using e
theorem cut_mem {ns : List Int} {lo hi i : Nat} (h1 : lo ≤ i) (h2 : i < hi) (h3 : i < ns.length) : ns.getD i 0 ∈ cut ns lo hi := by
  unfold cut
  rw [List.mem_iff_getElem]
  refine ⟨i - lo, by simp only [List.length_take, List.length_drop]; omega, ?_⟩
  rw [List.getElem_take, List.getElem_drop, List.getD_eq_getElem?_getD, List.getElem?_eq_getElem h3]
  simp only [Option.getD_some]
  congr 1
  omega
theorem cut_append {ns : List Int} {lo a hi : Nat} (h1 : lo ≤ a) (h2 : a ≤ hi) : cut ns lo hi = cut ns lo a ++ cut ns a hi := by
  unfold cut
  have e : hi - lo = (a - lo) + (hi - a) := by omega
  rw [e, List.take_add, List.drop_drop]
  congr 3
  omega
theorem length_cut {ns : List Int} {lo hi : Nat} (h2 : hi ≤ ns.length) : (cut ns lo hi).length = hi - lo := by
  unfold cut
  simp only [List.length_take, List.length_drop]
  omega
theorem count_cut {ns : List Int} {p : Int → Bool} {lo a hi : Nat} (h1 : lo ≤ a) (h2 : a ≤ hi) (h3 : hi ≤ ns.length) (yes : ∀ i, lo ≤ i → i < a → p (ns.getD i 0) = true) (no : ∀ i, a ≤ i → i < hi → p (ns.getD i 0) = false) :
    (cut ns lo hi).countP p = a - lo := by
  rw [cut_append h1 h2, List.countP_append]
  have e1 : (cut ns lo a).countP p = (cut ns lo a).length := List.countP_eq_length.mpr fun y hy => by
    obtain ⟨i, q1, q2, q3, rfl⟩ := mem_cut hy
    exact yes i q1 q2
  have e2 : (cut ns a hi).countP p = 0 := List.countP_eq_zero.mpr fun y hy => by
    obtain ⟨i, q1, q2, q3, rfl⟩ := mem_cut hy
    rw [no i q1 q2]
    exact Bool.false_ne_true
  rw [e1, e2, length_cut (by omega)]
  omega

/-- What stands between two turns of a search: all that lies ahead of a is told yes by p, all that lies from b on is told no. -/
def Parted (ns : List Int) (p : Int → Bool) (lo hi a b : Int) : Prop := (∀ i : Nat, lo ≤ i → (i : Int) < a → p (ns.getD i 0) = true) ∧ (∀ i : Nat, b ≤ i → (i : Int) < hi → p (ns.getD i 0) = false)
/-- p is yes first, then no. -/
def Falls (ns : List Int) (p : Int → Bool) : Prop := ∀ i j : Nat, i ≤ j → j < ns.length → p (ns.getD j 0) = true → p (ns.getD i 0) = true
theorem parted_start {ns p lo hi} : Parted ns p lo hi lo hi := ⟨fun i h1 h2 => by omega, fun i h1 h2 => by omega⟩
theorem parted_yes {ns : List Int} {p : Int → Bool} {lo hi a b : Int} (f : Falls ns p) (h0 : 0 ≤ lo) (h1 : lo ≤ a) (h2 : b ≤ hi) (h3 : hi ≤ ns.length) (q : Parted ns p lo hi a b) (h : a < b) (e : p (ns.getD ((a + b).fdiv 2).toNat 0) = true) :
    Parted ns p lo hi ((a + b).fdiv 2 + 1) b := by
  have hd : (a + b).fdiv 2 = (a + b) / 2 := Int.fdiv_eq_ediv_of_nonneg _ (by omega)
  rw [hd] at e ⊢
  exact ⟨fun i g1 g2 => f i _ (by omega) (by omega) e, q.2⟩
theorem parted_no {ns : List Int} {p : Int → Bool} {lo hi a b : Int} (f : Falls ns p) (h0 : 0 ≤ lo) (h1 : lo ≤ a) (h2 : b ≤ hi) (h3 : hi ≤ ns.length) (q : Parted ns p lo hi a b) (h : a < b) (e : p (ns.getD ((a + b).fdiv 2).toNat 0) = false) :
    Parted ns p lo hi a ((a + b).fdiv 2) := by
  have hd : (a + b).fdiv 2 = (a + b) / 2 := Int.fdiv_eq_ediv_of_nonneg _ (by omega)
  rw [hd] at e ⊢
  refine ⟨q.1, fun i g1 g2 => ?_⟩
  cases e' : p (ns.getD i 0) with
  | false => rfl
  | true => rw [f _ i (by omega) (by omega) e'] at e; cases e
/-- How many of the stretch p tells yes. -/
def cnt (ns : List Int) (p : Int → Bool) (lo hi : Int) : Int := ((cut ns lo.toNat hi.toNat).countP p : Int)
theorem cnt_nonneg (ns : List Int) (p : Int → Bool) (lo hi : Int) : 0 ≤ cnt ns p lo hi := Int.natCast_nonneg _
theorem cnt_le (ns : List Int) (p : Int → Bool) (lo hi : Int) : cnt ns p lo hi ≤ ns.length := by
  have h1 : (cut ns lo.toNat hi.toNat).countP p ≤ (cut ns lo.toNat hi.toNat).length := List.countP_le_length
  have h2 : (cut ns lo.toNat hi.toNat).length ≤ ns.length := by
    unfold cut
    simp only [List.length_take, List.length_drop]
    omega
  unfold cnt
  omega
theorem parted_end {ns : List Int} {p : Int → Bool} {lo hi a b : Int} (h0 : 0 ≤ lo) (h1 : lo ≤ a) (h2 : b ≤ hi) (h3 : hi ≤ ns.length) (q : Parted ns p lo hi a b) (hab : a ≤ b) (h : ¬ a < b) : a = lo + cnt ns p lo hi := by
  obtain rfl : a = b := by omega
  have e := count_cut (ns := ns) (p := p) (lo := lo.toNat) (a := a.toNat) (hi := hi.toNat) (by omega) (by omega) (by omega) (fun i g1 g2 => q.1 i (by omega) (by omega)) (fun i g1 g2 => q.2 i (by omega) (by omega))
  unfold cnt
  rw [e]
  omega
theorem mid_facts {a b : Int} (h0 : 0 ≤ a) (h : a < b) : a ≤ (a + b).fdiv 2 ∧ (a + b).fdiv 2 < b := by
  have hd : (a + b).fdiv 2 = (a + b) / 2 := Int.fdiv_eq_ediv_of_nonneg _ (by omega)
  omega
def ltB (x y : Int) : Bool := decide (y < x)
def leB (x y : Int) : Bool := decide (y ≤ x)
theorem falls_lt {ns : List Int} (u : Up ns) (x : Int) : Falls ns (ltB x) := fun i j h1 h2 e => by
  have := u i j h1 h2
  simp only [ltB, decide_eq_true_eq] at e ⊢
  omega
theorem falls_le {ns : List Int} (u : Up ns) (x : Int) : Falls ns (leB x) := fun i j h1 h2 e => by
  have := u i j h1 h2
  simp only [leB, decide_eq_true_eq] at e ⊢
  omega
end Mine

end -- P1
section -- C0
local macro_rules | `(tactic| walk_at "mine blank") => `(tactic| skip)
theorem Mine.fresh_C0 : True := by
  w_top off
  k_with_none
  exact True.intro
open PySem PySem.W PyProof.Rows
namespace Mine
local macro_rules | `(tactic| walk_at "callWith ref") => `(tactic| (k_here; k_dflt (refine' callWith_K ?k1 ?k2 ?_; (case k1 => k_asm); (case k2 => k_is); k_whole)))

/-- What a call of a def of the text does that changes nothing that is told. -/
def Tell (w : World) (mean : ExcName → Option Value) (mg mb : Str → Option Value) (k : Nat) (f : Addr) (vs : List Value) (news : List (Addr × Obj)) (R : Tok → Value) : Prop :=
  ∀ (dp un : Nat) (gd : Option (List Code)) (cn : Str) (cs : Scope) (a : Addr) (ccd : Value) (cl : List (Str × Addr)) (outer : List Env) (A₀ : PySem.Around) (base h₀ : Heap) (L : Addr) (m : Str → Option Value) (s : Shared) (Q E : Value → Shared → Prop) (p : Program) (loose : List Str),
    Below A₀ base outer h₀ → Fr h₀ L s.heap m → (hd.heap_39 w.params).In h₀ → News h₀ L s.heap news → Top p loose mean mg mb h₀ → cs.kind = .function →
    dp + k < recursionLimit → un + 8 * k < cLine →
    (∀ t h' tk', Fr h₀ L h' m → News h₀ L h' news → Q (R t) { s with heap := h', toks := tk' }) →
    wpAny (model PySem.Challenge.rw_rs0043_01.row.prog w) (ktrTop dp un gd cn cs L a ccd cl outer) (call (.ref f) vs) Q E s

theorem Tell.use {w mean mg mb k f vs news R} {dp un : Nat} {gd : Option (List Code)} {cn : Str} {cs : Scope} {a : Addr} {ccd : Value} {cl : List (Str × Addr)} {outer : List Env} {A₀ : PySem.Around} {base h₀ : Heap} {L : Addr} {m : Str → Option Value} {s : Shared} {Q E : Value → Shared → Prop} {p : Program} {loose : List Str}
    (C : Tell w mean mg mb k f vs news R) (B : Below A₀ base outer h₀) (F : Fr h₀ L s.heap m) (X : (hd.heap_39 w.params).In h₀) (N : News h₀ L s.heap news) (T : Top p loose mean mg mb h₀) (hk : cs.kind = .function)
    (hd : dp + k < recursionLimit) (hu : un + 8 * k < cLine)
    (ret : ∀ t h' tk', Fr h₀ L h' m → News h₀ L h' news → Q (R t) { s with heap := h', toks := tk' }) :
    wpAny (model PySem.Challenge.rw_rs0043_01.row.prog w) (ktrTop dp un gd cn cs L a ccd cl outer) (call (.ref f) vs) Q E s := C _ _ _ _ _ _ _ _ _ _ _ _ _ _ _ _ _ _ _ B F X N T hk hd hu ret

theorem high_bit {w mean mg mb news} (x : Int) (t : Tok) :
    Tell w mean mg mb 1 21 [.int x t] news (fun t => .int (((Builtin.Int.intBits x : Nat) : Int) - 1) t) := by
  unfold Tell
  k_fill
  intro dp un gd cn cs a ccd cl outer A₀ base h₀ L m s Q E p loose B F X N T hk hdp hu hret
  refine wpAny_call ?_
  k_dflt cell_enter
  k_steps
  all_goals exact hret _ _ _ (by k_asm) (by k_asm)
section
local macro_rules | `(tactic| walk_at "call ref") => `(tactic| (k_dflt (refine' Tell.use (high_bit _ _) ?k1 ?k2 ?k3 ?k4 ?k5 ?k6 ?k7 ?k8 ?_; (case k1 => k_asm); (case k2 => k_asm); (case k3 => k_asm); (case k4 => k_asm); (case k5 => k_asm); (case k6 => first | exact rfl | assumption); (case k7 => ktr_room); (case k8 => ktr_units); k_whole); intro t' h' tk' F' N'; (try dsimp only); (try k_fold)))
theorem parting {w mean mg mb news} (x y z : Int) (t u v : Tok) (hx0 : 0 ≤ x) (hx : x < 128) (hy0 : 0 ≤ y) (hy : y < 128) (hz : z = 1 ∨ z = -1) :
    Tell w mean mg mb 2 55 [.int x t, .int y u, .int z v] news (fun t => .int (((Builtin.Int.intBits (z * (Builtin.bitXor x y)) : Nat) : Int) - 1) t) := by
  unfold Tell
  k_fill
  intro dp un gd cn cs a ccd cl outer A₀ base h₀ L m s Q E p loose B F X N T hk hdp hu hret
  refine wpAny_call ?_
  k_dflt cell_enter
  k_steps
  all_goals exact hret _ _ _ (by k_asm) (by k_asm)
end
end Mine

end -- C0
section -- R0
open PySem PySem.W PyProof.Rows
namespace Mine
theorem len_mine {prog : Program} {w : World} {A : PySem.Around} {E : Value → Shared → Prop} {s : Shared} {h₀ : Heap} {L l : Addr} {news : List (Addr × Obj)} {vs : List Value} {n : Nat} {ns : List Int} {Q : Value → Shared → Prop}
    (N : News h₀ L s.heap news) (hm : (l, W.listOf vs.toArray n) ∈ news) (hI : IntsAre vs ns) (hb : ns.length ≤ 100) (h : ∀ t tk, Q (.int ns.length t) { s with toks := tk }) :
    wpAny (model prog w) A (call (.builtin "len") [.ref l]) Q E s := by
  have e : vs.toArray.size = ns.length := by rw [List.size_toArray]; exact hI.length
  refine len_list (News.isList N hm) (by rw [e]; omega) ?_
  rw [e]
  exact h _ _
end Mine

end -- R0
section -- R1
open PySem PySem.W PyProof.Rows PySem.Calls
namespace Mine
/-- An element's end: an int, and all told things as they were. -/
def ElEnd (h₀ : Heap) (L : Addr) (m : Str → Option Value) (s₀ : Shared) (all : List (Addr × Obj)) (r : Int) (y : Value) (s' : Shared) : Prop :=
  ∃ h' tk t, s' = { s₀ with heap := h', toks := tk } ∧ Fr h₀ L h' m ∧ News h₀ L h' all ∧ y = .int r t
/-- A test's end: the answer is p's; then the element, if it is yes. -/
def TsEnd (h₀ : Heap) (L : Addr) (m : Str → Option Value) (s₀ : Shared) (all : List (Addr × Obj)) (p : Bool) (go : Shared → Prop) (b : Bool) (s' : Shared) : Prop :=
  b = p ∧ ∃ h' tk, s' = { s₀ with heap := h', toks := tk } ∧ Fr h₀ L h' m ∧ News h₀ L h' all ∧ (p = true → go s')
theorem ElEnd.intro {h₀ : Heap} {L : Addr} {m : Str → Option Value} {s₀ : Shared} {all : List (Addr × Obj)} {r r' : Int} {h' : Heap} {tk : Nat} {t : Tok} (F : Fr h₀ L h' m) (N : News h₀ L h' all) (e : r' = r) :
    ElEnd h₀ L m s₀ all r (.int r' t) { s₀ with heap := h', toks := tk } := ⟨h', tk, t, rfl, F, N, by rw [e]⟩
theorem TsEnd.intro {h₀ : Heap} {L : Addr} {m : Str → Option Value} {s₀ : Shared} {all : List (Addr × Obj)} {p b : Bool} {go : Shared → Prop} {h' : Heap} {tk : Nat} (F : Fr h₀ L h' m) (N : News h₀ L h' all) (e : b = p) (g : go { s₀ with heap := h', toks := tk }) :
    TsEnd h₀ L m s₀ all p go b { s₀ with heap := h', toks := tk } := ⟨e, h', tk, rfl, F, N, fun _ => g⟩
section
variable {prog : Program} {w : World} {A : PySem.Around} {h₀ : Heap} {L : Addr} {m : Str → Option Value} {env : Env} {elt ct : PySem.Expr} {x : Str} {scope : Scope} {cl : List (Str × Addr)} {s : Shared} {S : List (Addr × Obj) → Prop} {P : Nat → Value → Prop}
  {Fin : List Value → List (Addr × Obj) → Prop} {news : List (Addr × Obj)}
theorem rest_map {n : Nat} {ks : List Int} (g : Int → Int) (hks : ks.length = n) (hP : ∀ i v, i < n → P i v → ∃ k t, ks[i]? = some k ∧ v = .int k t) (hS : S news)
    (turn : ∀ k t I oI C oC D m₂ ys h tk (E' : Value → Shared → Prop), k ∈ ks → LCg.NsObj oC m₂ → m₂ x = some (.int k t) → Fr h₀ L h m → News h₀ L h ((I, oI) :: (C, oC) :: (D, LCg.lst ys) :: news) →
      wpAny (model prog w) A (eval elt (compEnvC scope cl C env)) (ElEnd h₀ L m { s with heap := h, toks := tk } ((I, oI) :: (C, oC) :: (D, LCg.lst ys) :: news) (g k)) E' { s with heap := h, toks := tk })
    (fin : ∀ ys, IntsAre ys (ks.map g) → Fin ys news) : LCg.CompRest prog w A h₀ L m env elt x scope cl s S P Fin n 0 [] news :=
  kcf_rest g hks hP (fun k t I oI C oC D m₂ ys h tk E' hk hC hx F N off _ _ => wpAny_mono (turn k t I oI C oC D m₂ ys h tk E' hk hC hx F N) (fun y s₂ hq => by
    obtain ⟨h', tk', t', e, F', N', hy'⟩ := hq
    exact ⟨h', tk', news, e, F', N', off, hS, rfl, t', hy'⟩) fun _ _ e => e) fin

theorem rest_test {n : Nat} {ks : List Int} (p : Int → Bool) (g : Int → Int) (hks : ks.length = n) (hP : ∀ i v, i < n → P i v → ∃ k t, ks[i]? = some k ∧ v = .int k t) (hS : S news)
    (turn : ∀ k t I oI C oC D m₂ ys h tk (E' : Value → Shared → Prop), k ∈ ks → LCg.NsObj oC m₂ → m₂ x = some (.int k t) → Fr h₀ L h m → News h₀ L h ((I, oI) :: (C, oC) :: (D, LCg.lst ys) :: news) →
      wpAny (model prog w) A (isTrue ct (compEnvC scope cl C env) (eval ct (compEnvC scope cl C env)))
        (TsEnd h₀ L m { s with heap := h, toks := tk } ((I, oI) :: (C, oC) :: (D, LCg.lst ys) :: news) (p k) (fun s' => wpAny (model prog w) A (eval elt (compEnvC scope cl C env)) (ElEnd h₀ L m { s with heap := h, toks := tk } ((I, oI) :: (C, oC) :: (D, LCg.lst ys) :: news) (g k)) E' s'))
        E' { s with heap := h, toks := tk })
    (fin : ∀ ys, IntsAre ys ((ks.filter p).map g) → Fin ys news) : LCt.CompRestT prog w A h₀ L m env ct elt x scope cl s S P Fin n 0 [] news := by
  have key : ∀ (j i : Nat) (ys : List Value), i + j = n → IntsAre ys (((ks.take i).filter p).map g) → LCt.CompRestT prog w A h₀ L m env ct elt x scope cl s S P Fin j i ys news := by
    intro j
    induction j with
    | zero =>
      intro i ys hi hy
      have e : i = ks.length := by omega
      subst e
      rw [List.take_length] at hy
      exact LCt.CompRestT.zero (fin ys hy)
    | succ j ih =>
      intro i ys hi hy
      refine LCt.CompRestT.succ ?_
      intro v I oI C oC D m₂ h tk E' hv hC hx F N off ne
      obtain ⟨k, t, hk, hv'⟩ := hP i v (by omega) hv
      rw [hv'] at hx
      refine wpAny_mono (turn k t I oI C oC D m₂ ys h tk E' (List.mem_of_getElem? hk) hC hx F N) (fun b s₂ hq => ?_) fun _ _ e => e
      obtain ⟨hb, h', tk', e, F', N', go⟩ := hq
      subst hb
      cases hb : p k with
      | false =>
        simp only [Bool.false_eq_true, if_false]
        refine ⟨h', tk', news, e, F', N', off, hS, ?_⟩
        refine ih (i + 1) _ (by omega) ?_
        rw [List.take_add_one, hk]
        simpa [List.filter_append, hb] using hy
      | true =>
        simp only [if_true]
        refine wpAny_mono (go hb) (fun y s₃ hq => ?_) fun _ _ e => e
        obtain ⟨h'', tk'', t', e, F'', N'', hy'⟩ := hq
        refine ⟨h'', tk'', news, e, F'', N'', off, hS, ?_⟩
        rw [hy']
        refine ih (i + 1) _ (by omega) ?_
        rw [List.take_add_one, hk]
        simpa [List.filter_append, hb] using IntsAre.append hy (.cons (g k) t' .nil)
  exact key n 0 [] (by omega) (by simp only [List.take_zero, List.filter_nil, List.map_nil]; exact .nil)
end
section
variable {prog : Program} {w : World} {A : PySem.Around} {h₀ : Heap} {L : Addr} {m : Str → Option Value} {env : Env} {elt ct iter : PySem.Expr} {x : Str} {px pos : Pos} {scope : Scope} {cl : List (Str × Addr)} {s s₁ : Shared} {Q : Value → Shared → Prop} {E : Value → Shared → Prop} {news : List (Addr × Obj)}
/-- The source of a comprehension without a test, as the walk comes to it. -/
def Src (prog : Program) (w : World) (A : PySem.Around) (h₀ : Heap) (L : Addr) (m : Str → Option Value) (env : Env) (elt : PySem.Expr) (x : Str) (scope : Scope) (cl : List (Str × Addr)) (Q : Value → Shared → Prop) (xv : Value) (s₁ : Shared) : Prop :=
  LCg.CompSrc prog w A h₀ L m env elt x scope cl (fun s₂ => LCg.FinE h₀ L m s₂ Q) xv s₁
/-- The source of a comprehension with one test, as the walk comes to it. -/
def SrcT (prog : Program) (w : World) (A : PySem.Around) (h₀ : Heap) (L : Addr) (m : Str → Option Value) (env : Env) (ct elt : PySem.Expr) (x : Str) (scope : Scope) (cl : List (Str × Addr)) (Q : Value → Shared → Prop) (xv : Value) (s₁ : Shared) : Prop :=
  LCt.CompSrcT prog w A h₀ L m env ct elt x scope cl (fun s₂ => LCg.FinE h₀ L m s₂ Q) xv s₁
theorem comp_U (F₀ : Fr h₀ L s.heap m) (hclos : closureFor scope env = pure cl) (hcell : ∀ y ∈ scope.names, y.2 ≠ .cell) (hkind : scope.kind = .function)
    (hnames : ∀ y ∈ scope.names, y.2 = .local → scope.names.lookup y.1 = some .local) (hx : scope.names.lookup x = some .local)
    (h : wpAny (model prog w) A (eval iter env) (Src prog w A h₀ L m env elt x scope cl Q) E s) (hs : ∀ x, foldedSetIterable iter env x = pure x := by intro _; rfl) :
    wpAny (model prog w) A (eval (.ListComp elt [⟨.Name x px, iter, [], 0⟩] scope pos) env) Q E s := LCg.ListComp_U F₀ hclos hcell hkind hnames hx h hs
theorem comp_T (F₀ : Fr h₀ L s.heap m) (hclos : closureFor scope env = pure cl) (hcell : ∀ y ∈ scope.names, y.2 ≠ .cell) (hkind : scope.kind = .function)
    (hnames : ∀ y ∈ scope.names, y.2 = .local → scope.names.lookup y.1 = some .local) (hx : scope.names.lookup x = some .local)
    (h : wpAny (model prog w) A (eval iter env) (SrcT prog w A h₀ L m env ct elt x scope cl Q) E s) (hs : ∀ x, foldedSetIterable iter env x = pure x := by intro _; rfl) :
    wpAny (model prog w) A (eval (.ListComp elt [⟨.Name x px, iter, [ct], 0⟩] scope pos) env) Q E s := LCt.ListComp_T F₀ hclos hcell hkind hnames hx h hs

/-- What a comprehension hands on: a new list of ints. -/
def NewInts (h₀ : Heap) (L : Addr) (m : Str → Option Value) (s₁ : Shared) (news : List (Addr × Obj)) (r : List Int) (Q : Value → Shared → Prop) : Prop :=
  ∀ ys D h tk, IntsAre ys r → Fr h₀ L h m → News h₀ L h ((D, W.listOf ys.toArray ys.length) :: news) → LCg.Off1 D news → Q (.ref D) { s₁ with heap := h, toks := tk }
theorem src_list {ax : Addr} {vs : List Value} {ns : List Int} {k : Nat} (g : Int → Int) (hh : A.handled = none) (F : Fr h₀ L s₁.heap m) (N : News h₀ L s₁.heap news) (hm : (ax, W.listOf vs.toArray k) ∈ news) (hI : IntsAre vs ns) (hsz : ns.length ≤ 100)
    (turn : ∀ k t I oI C oC D m₂ ys h tk (E' : Value → Shared → Prop), k ∈ ns → LCg.NsObj oC m₂ → m₂ x = some (.int k t) → Fr h₀ L h m → News h₀ L h ((I, oI) :: (C, oC) :: (D, LCg.lst ys) :: news) →
      wpAny (model prog w) A (eval elt (compEnvC scope cl C env)) (ElEnd h₀ L m { s₁ with heap := h, toks := tk } ((I, oI) :: (C, oC) :: (D, LCg.lst ys) :: news) (g k)) E' { s₁ with heap := h, toks := tk })
    (fin : NewInts h₀ L m s₁ news (ns.map g) Q) : Src prog w A h₀ L m env elt x scope cl Q (.ref ax) s₁ := by
  have hl := hI.length
  refine LCg.CompSrc.ledger hh F N hm (by rw [List.size_toArray, sizeLine_eq]; omega) fun g' => ?_
  refine rest_map (ks := ns) g (by rw [List.size_toArray]; exact hl.symm) (fun i v _ hv => ?_) (.inr ⟨_, hm, rfl, _, rfl⟩) turn fun ys hy D h tk F' N' o => fin ys D h tk hy F' N' o
  obtain ⟨k, t, e, hk⟩ := IntsAre.at hI i v (by simpa using hv)
  exact ⟨k, t, hk, e⟩
theorem src_listT {ax : Addr} {vs : List Value} {ns : List Int} {k : Nat} (p : Int → Bool) (g : Int → Int) (hh : A.handled = none) (F : Fr h₀ L s₁.heap m) (N : News h₀ L s₁.heap news) (hm : (ax, W.listOf vs.toArray k) ∈ news) (hI : IntsAre vs ns) (hsz : ns.length ≤ 100)
    (turn : ∀ k t I oI C oC D m₂ ys h tk (E' : Value → Shared → Prop), k ∈ ns → LCg.NsObj oC m₂ → m₂ x = some (.int k t) → Fr h₀ L h m → News h₀ L h ((I, oI) :: (C, oC) :: (D, LCg.lst ys) :: news) →
      wpAny (model prog w) A (isTrue ct (compEnvC scope cl C env) (eval ct (compEnvC scope cl C env)))
        (TsEnd h₀ L m { s₁ with heap := h, toks := tk } ((I, oI) :: (C, oC) :: (D, LCg.lst ys) :: news) (p k) (fun s' => wpAny (model prog w) A (eval elt (compEnvC scope cl C env)) (ElEnd h₀ L m { s₁ with heap := h, toks := tk } ((I, oI) :: (C, oC) :: (D, LCg.lst ys) :: news) (g k)) E' s'))
        E' { s₁ with heap := h, toks := tk })
    (fin : NewInts h₀ L m s₁ news ((ns.filter p).map g) Q) : SrcT prog w A h₀ L m env ct elt x scope cl Q (.ref ax) s₁ := by
  have hl := hI.length
  refine LCt.CompSrcT.ledger hh F N hm (by rw [List.size_toArray, sizeLine_eq]; omega) fun g' => ?_
  refine rest_test (ks := ns) p g (by rw [List.size_toArray]; exact hl.symm) (fun i v _ hv => ?_) (.inr ⟨_, hm, rfl, _, rfl⟩) turn fun ys hy D h tk F' N' o => fin ys D h tk hy F' N' o
  obtain ⟨k, t, e, hk⟩ := IntsAre.at hI i v (by simpa using hv)
  exact ⟨k, t, hk, e⟩
theorem src_range {r : Addr} {a b : Int} {t u v : Tok} {n : Nat} (g : Int → Int) (hh : A.handled = none) (F : Fr h₀ L s₁.heap m) (N : News h₀ L s₁.heap news) (hr : IsRange s₁.heap r a b 1 t u v) (hsm : Builtin.Range.small a b 1 = true) (hn : Builtin.Range.rangeSize a b 1 = ((n : Nat) : Int)) (hsz : n ≤ 100)
    (turn : ∀ k t I oI C oC D m₂ ys h tk (E' : Value → Shared → Prop), k ∈ rangeKs a n → LCg.NsObj oC m₂ → m₂ x = some (.int k t) → Fr h₀ L h m → News h₀ L h ((I, oI) :: (C, oC) :: (D, LCg.lst ys) :: news) →
      wpAny (model prog w) A (eval elt (compEnvC scope cl C env)) (ElEnd h₀ L m { s₁ with heap := h, toks := tk } ((I, oI) :: (C, oC) :: (D, LCg.lst ys) :: news) (g k)) E' { s₁ with heap := h, toks := tk })
    (fin : NewInts h₀ L m s₁ news ((rangeKs a n).map g) Q) : Src prog w A h₀ L m env elt x scope cl Q (.ref r) s₁ := by
  refine LCg.CompSrc.range hh F N hr hsm hn (by rw [sizeLine_eq]; omega) fun g' => ?_
  refine rest_map (ks := rangeKs a n) g (rangeKs_length a n) (fun i v hi hv => ?_) trivial turn fun ys hy D h tk F' N' o => fin ys D h tk hy F' N' o
  obtain ⟨t, e⟩ := hv
  exact ⟨a + (i : Int), t, by simp [rangeKs, hi], e⟩
end
end Mine

end -- R1
section -- R2
open PySem PySem.W PyProof.Rows PySem.Calls
namespace Mine
section
variable {M : Model} {A : PySem.Around} {E : Value → Shared → Prop} {s : Shared}
theorem newEnv_one {scope : Scope} {n : Str} {rest : List (Str × NameKind)} (hn : scope.names = (n, .cell) :: rest) (hr : ∀ x ∈ rest, x.2 ≠ .cell) (hk : scope.kind = .function)
    {globals builtins : Addr} {closure : List (Str × Addr)} {v code : Value} {qual : Str} {func : Option Addr} {Q : Env → Shared → Prop}
    (hQ : ∀ h', h'.Ns s.heap.objs.size (fun _ => none) → h'.IsCell (s.heap.objs.size + 1) (some v) → (∀ b o, s.heap.get? b = some o → h'.get? b = some o) →
      Q (newEnv scope s.heap.objs.size globals ((n, s.heap.objs.size + 1) :: closure) qual func code none builtins) { s with heap := h' }) :
    wpAny M A (newFunctionEnv scope globals closure [(n, v)] qual func code none builtins) Q E s := by
  simp only [newFunctionEnv, Option.isSome_none, Bool.false_eq_true, if_false]
  refine wpAny_bind (wpAny_alloc ?_)
  rw [hn, List.forIn_cons]
  simp only [beq_self_eq_true, if_true]
  refine wpAny_bind (wpAny_bind ?_)
  refine wpAny_bind (wpAny_alloc (wpAny_pure ?_))
  dsimp only
  rw [forIn_yield_id _ (fun x hx c => by
    obtain ⟨name, kind⟩ := x
    have : (kind == NameKind.cell) = false := by simpa using hr _ hx
    simp only [this, Bool.false_eq_true, if_false])]
  refine wpAny_pure (wpAny_bind ?_)
  rw [List.forIn_cons]
  have hsz : (s.heap.push { cls := Value.type "frame", data := Data.dict #[] }).objs.size = s.heap.objs.size + 1 := Heap.size_push ..
  rw [hsz]
  refine wpAny_bind (wpAny_bind (wpAny_storeName_cell (c := s.heap.objs.size + 1) (v₀ := none) hk ?_ ?_ ?_ fun h' hc hs => wpAny_pure ?_))
  · show scope.names.lookup n = some .cell
    rw [hn]
    simp
  · simp
  · refine ⟨{ cls := .type "cell", data := .cell none }, ?_, rfl⟩
    have := Heap.get?_push_size (s.heap.push { cls := Value.type "frame", data := Data.dict #[] }) (o := { cls := .type "cell", data := .cell none }) rfl
    rw [hsz] at this
    exact this
  · dsimp only
    rw [List.forIn_nil]
    refine wpAny_pure (wpAny_pure (hQ h' ?_ hc fun b o e => ?_))
    · refine Heap.Ns.sameBut ?_ hs (Nat.ne_of_lt (Nat.lt_succ_self _))
      exact (Heap.Ns.new ..).push _
    · exact hs.extBut b o (Nat.ne_of_lt (Nat.lt_succ_of_lt (Heap.lt_size e))) (Heap.get?_push_of_some _ (Heap.get?_push_of_some _ e))
end
section
variable {prog : Program} {w : World} {A A₀ : PySem.Around} {s : Shared} {K : Frag} {L : Addr} {h₀ base : Heap} {m mg mb : Str → Option Value} {news : List (Addr × Obj)} {p : Program} {loose : List Str} {mean : ExcName → Option Value}
/-- A call of a lambda of one argument that its own comprehensions keep. -/
theorem lam_code {env : Env} {outer : List Env} {R : Result → Shared → Prop} {name qual n : Str} {params : Arguments} {body : PySem.Expr} {scope : Scope} {cl : List (Str × Addr)} {rest : List (Str × NameKind)} {pm ctv v : Value} {c' : Addr} {f : Addr} {args : Args}
    (B : Below A₀ base outer h₀) (F : Fr h₀ L s.heap m) (X₀ : K.In h₀) (N : News h₀ L s.heap news) (T : Top p loose mean mg mb h₀) (hA : A.frames = some (env :: outer)) (hf : env.frame = some L) (hke : env.scope.kind = .function)
    (ho : (f, kla_obj name qual params body scope cl pm c' ctv) ∈ news) (hcd : s.heap.CodeRec (.ref c') qual) (hroom : A.depth < recursionLimit)
    (hbind : bindArgs (kla_fn name qual params body scope cl pm (.ref c') ctv) args = pure [(n, v)]) (hn : scope.names = (n, .cell) :: rest) (hr : ∀ x ∈ rest, x.2 ≠ .cell)
    (h : ∀ g L' h₁ oc, Fr h₀ L g m → Fr g L' h₁ (fun _ => none) → News g L' h₁ ((L' + 1, oc) :: news) → oc.data = .cell (some v) → Below A base (env :: outer) g → K.In g → Top p loose mean mg mb g → (∀ p ∈ news, p.1 < L') →
      wpAny (model prog w) (A.deeper (envX qual scope L' f (.ref c') ((n, L' + 1) :: cl))) (eval body (envX qual scope L' f (.ref c') ((n, L' + 1) :: cl)))
        (fun v s' => LeaveK h₀ L m g R v s')
        (fun e s' => wpAny (model prog w) (A.deeper (envX qual scope L' f (.ref c') ((n, L' + 1) :: cl))) (leaving (envX qual scope L' f (.ref c') ((n, L' + 1) :: cl)) e) (fun _ s'' => R (.error e) s'') (fun e' s'' => R (.error e') s'') s')
        { s with heap := h₁ })
    (hco : scope.isCoroutine = false) (hgen : scope.isGenerator = false) (hk : scope.kind = .function) : codeAny (model prog w) A (.call (.ref f) args) R s := by
  obtain ⟨FG, BG, st, lv⟩ := groundX (R := R) B F N hA hf hke
  refine kla_callFunE hroom (N _ ho).1 rfl hco hgen rfl hcd ?_
  rw [hbind]
  refine wpAny_pure (newEnv_one hn hr hk fun h₁ hns hc hk₁ => ⟨((T.nolimit).keeps F.keep).keeps hk₁, ?_⟩)
  show codeAny _ _ (.expr body (envX qual scope s.heap.objs.size f (.ref c') ((n, s.heap.objs.size + 1) :: cl))) _ _
  obtain ⟨oc, hoc, hod⟩ := hc
  refine kla_codeExpr (wpAny_mono (h _ s.heap.objs.size h₁ oc FG ⟨hns, fun b o e => hk₁ b o (of_hideAll _ e), Nat.le_of_eq (hideAll_size _ _)⟩
    (fun p hp => ?_) hod BG (X₀.keeps st) (T.keeps st) (fun p hp => Heap.lt_size (N p hp).1)) (fun v s' hl => lv _ _ hl) fun _ _ y => y)
  rcases List.mem_cons.mp hp with rfl | hp
  · refine ⟨hoc, Nat.ne_of_gt (Nat.lt_succ_self _), ?_⟩
    cases q : (hideAll s.heap (news.map (·.1))).get? (s.heap.objs.size + 1) with
    | none => rfl
    | some o => exact absurd (Heap.lt_size (of_hideAll _ q)) (Nat.not_lt.mpr (Nat.le_succ _))
  · exact ⟨hk₁ _ _ (N p hp).1, Nat.ne_of_lt (Heap.lt_size (N p hp).1), hideAll_none _ (List.mem_map_of_mem hp)⟩
end
end Mine

end -- R2
section -- R3
open PySem PySem.W PyProof.Rows PySem.Calls
namespace Mine
/-- The table of the inner code objects of _law_fewest_cut: empty, or with the lambda's code. -/
def TabIn : Option (Addr × Obj) → List (Addr × Obj)
  | none => [(64, tabObj #[])]
  | some (c, oc) => [(64, tabObj (#[] ++ #[rawInt 60, rawInt 49, .ref c])), (c, oc)]
def TabOk (qual : Str) : Option (Addr × Obj) → Prop
  | none => True
  | some (_, oc) => ∃ vs t, oc.data = .fields vs ∧ vs[1]? = some (.str qual t)
def TabOff (tb : Option (Addr × Obj)) (rest : List (Addr × Obj)) : Prop := ∀ q ∈ rest, ∀ p ∈ TabIn tb, p.1 ≠ q.1
theorem updF_app {d : Addr} {o : Obj} {r : List (Addr × Obj)} {g : Obj → List (Addr × Obj)} (U : UpdF d o r g) : ∀ {pre : List (Addr × Obj)}, (∀ p ∈ pre, p.1 ≠ d) → UpdF d o (pre ++ r) (fun o' => pre ++ g o')
  | [], _ => U
  | _ :: _, h => .tail (h _ (.head _)) (updF_app U fun p hp => h p (.tail _ hp))
section
variable {M : Model} {A : PySem.Around} {E : Value → Shared → Prop} {s : Shared} {h₀ : Heap} {L a : Addr} {m mg mb : Str → Option Value} {cn : Str} {cs : Scope} {cl : List (Str × Addr)} {pre rest : List (Addr × Obj)} {tb : Option (Addr × Obj)}
  {p : Program} {loose : List Str} {mean : ExcName → Option Value} {qual : Str} {params : Arguments} {body : PySem.Expr} {scope : Scope} {pos : Pos} {clos : List (Str × Addr)}
/-- The lambda is made, whether its code stands in the table already or not. -/
theorem lam_make {Q : Value → Shared → Prop} (F : Fr h₀ L s.heap m) (N : News h₀ L s.heap (pre ++ (TabIn tb ++ rest))) (T : Top p loose mean mg mb h₀) (C : CodeHd h₀ 68 64) (ok : TabOk ((envX cn cs L a (.ref 68) cl).qual ++ "<lambda>") tb)
    (hpre : ∀ q ∈ pre, q.1 ≠ 64) (off : TabOff tb rest) (hdef : defaultsOf params (envX cn cs L a (.ref 68) cl) = ([], [])) (hcl : closureFor scope (envX cn cs L a (.ref 68) cl) = pure clos) (h1 : pos.line = 60) (h2 : pos.col = 49)
    (h : ∀ f ob c' oc vs t ctv h' tk, ob = kla_obj "<lambda>" ((envX cn cs L a (.ref 68) cl).qual ++ "<lambda>") params body scope clos ((mg "__name__").getD .none) c' ctv → Fr h₀ L h' m →
      News h₀ L h' ((f, ob) :: (pre ++ (TabIn (some (c', oc)) ++ rest))) → oc.data = .fields vs → vs[1]? = some (.str ((envX cn cs L a (.ref 68) cl).qual ++ "<lambda>") t) → TabOff (some (c', oc)) rest → (∀ q ∈ rest, q.1 ≠ f) → Q (.ref f) { s with heap := h', toks := tk }) :
    wpAny M A (eval (.Lambda params body scope pos) (envX cn cs L a (.ref 68) cl)) Q E s := by
  refine kla_eval hdef ?_
  cases tb with
  | none =>
    have hr : ∀ q ∈ rest, q.1 ≠ 64 := fun q hq e => off q hq _ (.head _) e.symm
    refine kla_nest F N T C rfl (updF_app (.head hr) hpre) trivial rfl hcl fun f c' oc vs t ctv h' tk F' N' d1 d2 l1 l2 => ?_
    have lr : ∀ q ∈ rest, q.1 < c' := fun q hq => l1 q (List.mem_append_right _ (.tail _ hq))
    refine h f _ c' oc vs t ctv h' tk rfl F' (fun q hq => N' q ?_) d1 d2 (fun q hq x hx => ?_) fun q hq e => ?_
    · rw [h1, h2]
      rcases List.mem_cons.mp hq with rfl | hq
      · exact .head _
      · refine .tail _ ?_
        rcases List.mem_append.mp hq with hq | hq
        · exact .tail _ (List.mem_append_left _ hq)
        · rcases List.mem_append.mp hq with hq | hq
          · rcases List.mem_cons.mp hq with rfl | hq
            · exact .tail _ (List.mem_append_right _ (.head _))
            · rw [List.mem_singleton.mp hq]; exact .head _
          · exact .tail _ (List.mem_append_right _ (.tail _ hq))
    · rcases List.mem_cons.mp hx with rfl | hx
      · exact (hr q hq).symm
      · rw [List.mem_singleton.mp hx]; exact Nat.ne_of_gt (lr q hq)
    · exact absurd (lr q hq) (by rw [e]; exact Nat.not_lt.mpr (Nat.le_of_lt l2))
  | some y =>
    obtain ⟨c', oc⟩ := y
    obtain ⟨vs, t, d1, d2⟩ := ok
    refine kla_hit (c' := c') F N T C rfl (List.mem_append_right _ (.head _)) (by simp [TriplesOk, rawInt]) (by simp [codeAmong, rawInt, h1, h2]) hcl fun f ctv h' tk F' N' l1 => ?_
    exact h f _ c' oc vs t ctv h' tk rfl F' N' d1 d2 off fun q hq => Nat.ne_of_lt (l1 q (List.mem_append_right _ (List.mem_append_right _ hq)))
end
end Mine

end -- R3
section -- C1
local macro_rules | `(tactic| walk_at "mine blank") => `(tactic| skip)
local macro_rules | `(tactic| walk_at "mine blank") => `(tactic| skip)
local macro_rules | `(tactic| walk_at "mine blank") => `(tactic| skip)
local macro_rules | `(tactic| walk_at "mine blank") => `(tactic| skip)
theorem Mine.fresh_C1 : True := by
  w_top off
  k_with_none
  exact True.intro
open PySem PySem.W PyProof.Rows
namespace Mine
local macro_rules | `(tactic| walk_at "mine enter") => `(tactic| (refine wpAny_call ?_; (refine' code_def ?k1 ?k2 ?k3 ?k4 ?k5 ?kA ?kF ?kK ?k6 ?k7 ?k8 ?k9 ?kB ?_ ?c2 ?c3 ?c4 ?c5; (case kA => exact rfl); (case kF => exact rfl); (case kK => first | exact rfl | assumption); (case k1 => k_asm); (case k2 => k_asm); (case k3 => k_asm); (case k4 => k_asm); (case k5 => k_asm); (case k6 => k_is); (case k7 => k_is); (case k8 => ktr_room); (case k9 => first | exact BindsTo.of_eq rfl | (refine' kp_binds ?kx ?ke; (case kx => k_in); (case ke => exact fun _ => rfl))); (case c5 => decide); (case kB => exact locs rfl); (case c2 => exact rfl); (case c3 => exact rfl); (case c4 => exact rfl); k_whole; intro g' L' h' FG' F' N' B' X' T'; (try dsimp only); (try k_fold))))
theorem bl_start {ns x lo hi} (h : lo ≤ hi) : lo ≤ lo ∧ lo ≤ hi ∧ hi ≤ hi ∧ Parted ns (ltB x) lo hi lo hi := ⟨Int.le_refl _, h, Int.le_refl _, parted_start⟩
theorem bl_yes {ns : List Int} {x lo hi a b : Int} (f : Up ns) (h0 : 0 ≤ lo) (h1 : lo ≤ a) (h2 : b ≤ hi) (h3 : hi ≤ ns.length) (q : Parted ns (ltB x) lo hi a b) (h : a < b) (e : ns.getD ((a + b).fdiv 2).toNat 0 < x) :
    lo ≤ (a + b).fdiv 2 + 1 ∧ (a + b).fdiv 2 + 1 ≤ b ∧ b ≤ hi ∧ Parted ns (ltB x) lo hi ((a + b).fdiv 2 + 1) b := by
  have := mid_facts (by omega) h
  exact ⟨by omega, by omega, h2, parted_yes (falls_lt f x) h0 h1 h2 h3 q h (by simpa only [ltB, decide_eq_true_eq] using e)⟩
theorem bl_no {ns : List Int} {x lo hi a b : Int} (f : Up ns) (h0 : 0 ≤ lo) (h1 : lo ≤ a) (h2 : b ≤ hi) (h3 : hi ≤ ns.length) (q : Parted ns (ltB x) lo hi a b) (h : a < b) (e : ¬ ns.getD ((a + b).fdiv 2).toNat 0 < x) :
    lo ≤ a ∧ a ≤ (a + b).fdiv 2 ∧ (a + b).fdiv 2 ≤ hi ∧ Parted ns (ltB x) lo hi a ((a + b).fdiv 2) := by
  have := mid_facts (by omega) h
  exact ⟨by omega, by omega, by omega, parted_no (falls_lt f x) h0 h1 h2 h3 q h (by simpa only [ltB, decide_eq_false_iff_not] using e)⟩
theorem bl_m1 {lo a b : Int} (h0 : 0 ≤ lo) (h1 : lo ≤ a) (h : a < b) : (b - ((a + b).fdiv 2 + 1)).toNat < (b - a).toNat := by
  have := mid_facts (by omega) h
  omega
theorem bl_m2 {lo a b : Int} (h0 : 0 ≤ lo) (h1 : lo ≤ a) (h : a < b) : ((a + b).fdiv 2 - a).toNat < (b - a).toNat := by
  have := mid_facts (by omega) h
  omega
theorem bl {w mean mg mb news} (l : Addr) (vs : List Value) (n : Nat) (ns : List Int) (x lo hi : Int) (t u v : Tok) (hm : (l, W.listOf vs.toArray n) ∈ news) (hI : IntsAre vs ns) (h0 : 0 ≤ lo) (h1 : lo ≤ hi) (h2 : hi ≤ ns.length) (h3 : ns.length ≤ 100) (hs : Up ns) :
    Tell w mean mg mb 1 48 [.ref l, .int x t, .int lo u, .int hi v] news (fun t => .int (lo + cnt ns (ltB x) lo hi) t) := by
  unfold Tell
  k_fill
  intro dp un gd cn cs a ccd cl outer A₀ base h₀ L m s Q E p loose B F X N T hk hdp hu hret
  k_with_none
  k_with "exec While Compare cons nil" => k_while (fun _ a b => lo ≤ a ∧ a ≤ b ∧ b ≤ hi ∧ Parted ns (ltB x) lo hi a b) (fun _ a b => (b - a).toNat) "lo" "hi"
  k_with "state" => first | exact bl_start (by assumption) | exact bl_yes hs h0 (by assumption) (by assumption) h2 (by assumption) (by assumption) (by assumption) | exact bl_no hs h0 (by assumption) (by assumption) h2 (by assumption) (by assumption) (by assumption)
  k_with "measure" => first | exact bl_m1 h0 (by assumption) (by assumption) | exact bl_m2 h0 (by assumption) (by assumption)
  k_dflt (walk_at "mine enter")
  k_steps
  exact cb_retI hret (parted_end h0 (by assumption) (by assumption) h2 (by assumption) (by assumption) (by assumption)) (by k_asm) (by k_asm)
end Mine

end -- C1
section -- C2
local macro_rules | `(tactic| walk_at "mine blank") => `(tactic| skip)
theorem Mine.fresh_C2 : True := by
  w_top off
  k_with_none
  exact True.intro
open PySem PySem.W PyProof.Rows
namespace Mine
local macro_rules | `(tactic| walk_at "mine enter") => `(tactic| (refine wpAny_call ?_; (refine' code_def ?k1 ?k2 ?k3 ?k4 ?k5 ?kA ?kF ?kK ?k6 ?k7 ?k8 ?k9 ?kB ?_ ?c2 ?c3 ?c4 ?c5; (case kA => exact rfl); (case kF => exact rfl); (case kK => first | exact rfl | assumption); (case k1 => k_asm); (case k2 => k_asm); (case k3 => k_asm); (case k4 => k_asm); (case k5 => k_asm); (case k6 => k_is); (case k7 => k_is); (case k8 => ktr_room); (case k9 => first | exact BindsTo.of_eq rfl | (refine' kp_binds ?kx ?ke; (case kx => k_in); (case ke => exact fun _ => rfl))); (case c5 => decide); (case kB => exact locs rfl); (case c2 => exact rfl); (case c3 => exact rfl); (case c4 => exact rfl); k_whole; intro g' L' h' FG' F' N' B' X' T'; (try dsimp only); (try k_fold))))
local macro_rules | `(tactic| walk_at "call builtin:len") => `(tactic| (k_here; (with_reducible show wpAny _ _ (call (Value.builtin "len") [Value.ref _]) _ _ _); (k_dflt (refine' len_mine ?k1 ?k2 ?k3 ?k4 ?_; (case k1 => k_asm); (case k2 => k_mem); (case k3 => assumption); (case k4 => omega); k_whole)); intro t' tk'; (try dsimp only)))
theorem br_start {ns x lo hi} (h : lo ≤ hi) : lo ≤ lo ∧ lo ≤ hi ∧ hi ≤ hi ∧ Parted ns (leB x) lo hi lo hi := ⟨Int.le_refl _, h, Int.le_refl _, parted_start⟩
theorem br_yes {ns : List Int} {x lo hi a b : Int} (f : Up ns) (h0 : 0 ≤ lo) (h1 : lo ≤ a) (h2 : b ≤ hi) (h3 : hi ≤ ns.length) (q : Parted ns (leB x) lo hi a b) (h : a < b) (e : ¬ x < ns.getD ((a + b).fdiv 2).toNat 0) :
    lo ≤ (a + b).fdiv 2 + 1 ∧ (a + b).fdiv 2 + 1 ≤ b ∧ b ≤ hi ∧ Parted ns (leB x) lo hi ((a + b).fdiv 2 + 1) b := by
  have := mid_facts (by omega) h
  exact ⟨by omega, by omega, h2, parted_yes (falls_le f x) h0 h1 h2 h3 q h (by simp only [leB, decide_eq_true_eq]; omega)⟩
theorem br_no {ns : List Int} {x lo hi a b : Int} (f : Up ns) (h0 : 0 ≤ lo) (h1 : lo ≤ a) (h2 : b ≤ hi) (h3 : hi ≤ ns.length) (q : Parted ns (leB x) lo hi a b) (h : a < b) (e : x < ns.getD ((a + b).fdiv 2).toNat 0) :
    lo ≤ a ∧ a ≤ (a + b).fdiv 2 ∧ (a + b).fdiv 2 ≤ hi ∧ Parted ns (leB x) lo hi a ((a + b).fdiv 2) := by
  have := mid_facts (by omega) h
  exact ⟨by omega, by omega, by omega, parted_no (falls_le f x) h0 h1 h2 h3 q h (by simp only [leB, decide_eq_false_iff_not]; omega)⟩
theorem br {w mean mg mb news} (l : Addr) (vs : List Value) (n : Nat) (ns : List Int) (x lo hi : Int) (t u v : Tok) (hm : (l, W.listOf vs.toArray n) ∈ news) (hI : IntsAre vs ns) (h0 : 0 ≤ lo) (h1 : lo ≤ hi) (h2 : hi ≤ ns.length) (h3 : ns.length ≤ 100) (hs : Up ns) :
    Tell w mean mg mb 1 39 [.ref l, .int x t, .int lo u, .int hi v] news (fun t => .int (lo + cnt ns (leB x) lo hi) t) := by
  unfold Tell
  k_fill
  intro dp un gd cn cs a ccd cl outer A₀ base h₀ L m s Q E p loose B F X N T hk hdp hu hret
  k_with_none
  k_with "exec While Compare cons nil" => k_while (fun _ a b => lo ≤ a ∧ a ≤ b ∧ b ≤ hi ∧ Parted ns (leB x) lo hi a b) (fun _ a b => (b - a).toNat) "lo" "hi"
  k_with "state" => first | exact br_start (by assumption) | exact br_yes hs h0 (by assumption) (by assumption) h2 (by assumption) (by assumption) (by assumption) | exact br_no hs h0 (by assumption) (by assumption) h2 (by assumption) (by assumption) (by assumption)
  k_with "measure" => first | exact bl_m1 h0 (by assumption) (by assumption) | exact bl_m2 h0 (by assumption) (by assumption)
  k_dflt (walk_at "mine enter")
  k_steps
  exact cb_retI hret (parted_end h0 (by assumption) (by assumption) h2 (by assumption) (by assumption) (by assumption)) (by k_asm) (by k_asm)
theorem brN {w mean mg mb news} (l : Addr) (vs : List Value) (n : Nat) (ns : List Int) (x : Int) (t u : Tok) (hm : (l, W.listOf vs.toArray n) ∈ news) (hI : IntsAre vs ns) (h3 : ns.length ≤ 100) (hs : Up ns) :
    Tell w mean mg mb 1 39 [.ref l, .int x t, .int 0 u, .none] news (fun t => .int (0 + cnt ns (leB x) 0 ns.length) t) := by
  have h0 : (0 : Int) ≤ 0 := Int.le_refl _
  have h1 : (0 : Int) ≤ (ns.length : Int) := by omega
  have h2 : (ns.length : Int) ≤ ns.length := Int.le_refl _
  unfold Tell
  k_fill
  intro dp un gd cn cs a ccd cl outer A₀ base h₀ L m s Q E p loose B F X N T hk hdp hu hret
  k_with_none
  k_with "exec While Compare cons nil" => k_while (fun _ a b => 0 ≤ a ∧ a ≤ b ∧ b ≤ (ns.length : Int) ∧ Parted ns (leB x) 0 ns.length a b) (fun _ a b => (b - a).toNat) "lo" "hi"
  k_with "state" => first | exact br_start (by assumption) | exact br_yes hs h0 (by assumption) (by assumption) h2 (by assumption) (by assumption) (by assumption) | exact br_no hs h0 (by assumption) (by assumption) h2 (by assumption) (by assumption) (by assumption)
  k_with "measure" => first | exact bl_m1 h0 (by assumption) (by assumption) | exact bl_m2 h0 (by assumption) (by assumption)
  k_dflt (walk_at "mine enter")
  k_steps
  exact cb_retI hret (parted_end h0 (by assumption) (by assumption) h2 (by assumption) (by assumption) (by assumption)) (by k_asm) (by k_asm)
end Mine

end -- C2
section -- C3
local macro_rules | `(tactic| walk_at "mine blank") => `(tactic| skip)
local macro_rules | `(tactic| walk_at "mine blank") => `(tactic| skip)
local macro_rules | `(tactic| walk_at "mine blank") => `(tactic| skip)
local macro_rules | `(tactic| walk_at "mine blank") => `(tactic| skip)
theorem Mine.fresh_C3 : True := by
  w_top off
  k_with_none
  exact True.intro
open PySem PySem.W PyProof.Rows
namespace Mine
local macro_rules | `(tactic| walk_at "callWith ref") => `(tactic| (k_here; k_dflt (refine' callWith_K ?k1 ?k2 ?_; (case k1 => k_asm); (case k2 => k_is); k_whole)))
local macro_rules | `(tactic| walk_at "mine enter") => `(tactic| (refine wpAny_call ?_; (refine' code_def ?k1 ?k2 ?k3 ?k4 ?k5 ?kA ?kF ?kK ?k6 ?k7 ?k8 ?k9 ?kB ?_ ?c2 ?c3 ?c4 ?c5; (case kA => exact rfl); (case kF => exact rfl); (case kK => first | exact rfl | assumption); (case k1 => k_asm); (case k2 => k_asm); (case k3 => k_asm); (case k4 => k_asm); (case k5 => k_asm); (case k6 => k_is); (case k7 => k_is); (case k8 => ktr_room); (case k9 => first | exact BindsTo.of_eq rfl | (refine' kp_binds ?kx ?ke; (case kx => k_in); (case ke => exact fun _ => rfl))); (case c5 => decide); (case kB => exact locs rfl); (case c2 => exact rfl); (case c3 => exact rfl); (case c4 => exact rfl); k_whole; intro g' L' h' FG' F' N' B' X' T'; (try dsimp only); (try k_fold))))
local macro_rules | `(tactic| walk_at "call builtin:len") => `(tactic| (k_here; (with_reducible show wpAny _ _ (call (Value.builtin "len") [Value.ref _]) _ _ _); (k_dflt (refine' len_mine ?k1 ?k2 ?k3 ?k4 ?_; (case k1 => k_asm); (case k2 => k_mem); (case k3 => assumption); (case k4 => omega); k_whole)); intro t' tk'; (try dsimp only)))
/-- As Tell, of a call that turns what is told. -/
def TellU (w : World) (mean : ExcName → Option Value) (mg mb : Str → Option Value) (k : Nat) (f : Addr) (vs : List Value) (news news' : List (Addr × Obj)) (R : Tok → Value) : Prop :=
  ∀ (dp un : Nat) (gd : Option (List Code)) (cn : Str) (cs : Scope) (a : Addr) (ccd : Value) (cl : List (Str × Addr)) (outer : List Env) (A₀ : PySem.Around) (base h₀ : Heap) (L : Addr) (m : Str → Option Value) (s : Shared) (Q E : Value → Shared → Prop) (p : Program) (loose : List Str),
    Below A₀ base outer h₀ → Fr h₀ L s.heap m → (hd.heap_39 w.params).In h₀ → News h₀ L s.heap news → Top p loose mean mg mb h₀ → cs.kind = .function →
    dp + k < recursionLimit → un + 8 * k < cLine →
    (∀ t h' tk', Fr h₀ L h' m → News h₀ L h' news' → Q (R t) { s with heap := h', toks := tk' }) →
    wpAny (model PySem.Challenge.rw_rs0043_01.row.prog w) (ktrTop dp un gd cn cs L a ccd cl outer) (call (.ref f) vs) Q E s
theorem TellU.use {w mean mg mb k f vs news news' R} {dp un : Nat} {gd : Option (List Code)} {cn : Str} {cs : Scope} {a : Addr} {ccd : Value} {cl : List (Str × Addr)} {outer : List Env} {A₀ : PySem.Around} {base h₀ : Heap} {L : Addr} {m : Str → Option Value} {s : Shared} {Q E : Value → Shared → Prop} {p : Program} {loose : List Str}
    (C : TellU w mean mg mb k f vs news news' R) (B : Below A₀ base outer h₀) (F : Fr h₀ L s.heap m) (X : (hd.heap_39 w.params).In h₀) (N : News h₀ L s.heap news) (T : Top p loose mean mg mb h₀) (hk : cs.kind = .function)
    (hd : dp + k < recursionLimit) (hu : un + 8 * k < cLine)
    (ret : ∀ t h' tk', Fr h₀ L h' m → News h₀ L h' news' → Q (R t) { s with heap := h', toks := tk' }) :
    wpAny (model PySem.Challenge.rw_rs0043_01.row.prog w) (ktrTop dp un gd cn cs L a ccd cl outer) (call (.ref f) vs) Q E s := C _ _ _ _ _ _ _ _ _ _ _ _ _ _ _ _ _ _ _ B F X N T hk hd hu ret
theorem fits_small {x : Int} (h0 : 0 ≤ x) (h1 : x ≤ 1000) : Builtin.List.listFitsIndex x = true := by
  unfold Builtin.List.listFitsIndex
  simp only [Bool.and_eq_true, decide_eq_true_eq]
  constructor <;> omega
section
local macro_rules | `(tactic| walk_at "call ref") => `(tactic| (k_dflt (refine' Tell.use (brN _ _ _ _ _ _ _ ?e1 ?e2 ?e3 ?e4) ?k1 ?k2 ?k3 ?k4 ?k5 ?k6 ?k7 ?k8 ?_; (case k1 => k_asm); (case k2 => k_asm); (case k3 => k_asm); (case k4 => k_asm); (case k5 => k_asm); (case k6 => first | exact rfl | assumption); (case k7 => ktr_room); (case k8 => ktr_units); (case e1 => first | assumption | k_mem); (case e2 => assumption); (case e3 => omega); (case e4 => assumption); k_whole); intro t' h' tk' F' N'; (try dsimp only); (try k_fold)))
theorem insort {w mean mg mb news news'} (l : Addr) (vs : List Value) (n : Nat) (ns : List Int) (x : Int) (t : Tok) (hI : IntsAre vs ns) (h3 : ns.length ≤ 100) (hs : Up ns)
    (U : Upd l (W.listOf vs.toArray n) (W.listOf (kl_ins vs (0 + cnt ns (leB x) 0 ns.length) (.int x t)).toArray (n + 1)) news news') :
    TellU w mean mg mb 2 30 [.ref l, .int x t] news news' (fun _ => .none) := by
  have hm : (l, W.listOf vs.toArray n) ∈ news := by
    obtain ⟨p, q, e, -⟩ := U.split
    rw [e]
    exact List.mem_append_right _ (.head _)
  unfold TellU
  k_fill
  intro dp un gd cn cs a ccd cl outer A₀ base h₀ L m s Q E p loose B F X N T hk hdp hu hret
  k_with_none
  k_dflt (walk_at "mine enter")
  k_steps
  refine kl_insert (l := kl_ins vs (0 + cnt ns (leB x) 0 ns.length) (.int x t)) (by k_asm) (by k_asm) (fits_small (by have := cnt_nonneg ns (leB x) 0 ns.length; omega) (by have := cnt_le ns (leB x) 0 ns.length; omega)) rfl U (by rw [hI.length]; rw [sizeLine_eq]; omega) ?_
  intro h' F' N'
  k_steps
  exact hret 0 _ _ (by k_asm) (by k_asm)
end
end Mine

end -- C3
section -- C4
local macro_rules | `(tactic| walk_at "mine blank") => `(tactic| skip)
theorem Mine.fresh_C4 : True := by
  w_top off
  k_with_none
  exact True.intro
open PySem PySem.W PyProof.Rows
namespace Mine
local macro_rules | `(tactic| walk_at "mine enter") => `(tactic| (refine wpAny_call ?_; (refine' code_def ?k1 ?k2 ?k3 ?k4 ?k5 ?kA ?kF ?kK ?k6 ?k7 ?k8 ?k9 ?kB ?_ ?c2 ?c3 ?c4 ?c5; (case kA => exact rfl); (case kF => exact rfl); (case kK => first | exact rfl | assumption); (case k1 => k_asm); (case k2 => k_asm); (case k3 => k_asm); (case k4 => k_asm); (case k5 => k_asm); (case k6 => k_is); (case k7 => k_is); (case k8 => ktr_room); (case k9 => first | exact BindsTo.of_eq rfl | (refine' kp_binds ?kx ?ke; (case kx => k_in); (case ke => exact fun _ => rfl))); (case c5 => decide); (case kB => exact locs rfl); (case c2 => exact rfl); (case c3 => exact rfl); (case c4 => exact rfl); k_whole; intro g' L' h' FG' F' N' B' X' T'; (try dsimp only); (try k_fold))))
local macro_rules | `(tactic| walk_at "call builtin:len") => `(tactic| (k_here; (with_reducible show wpAny _ _ (call (Value.builtin "len") [Value.ref _]) _ _ _); (k_dflt (refine' len_mine ?k1 ?k2 ?k3 ?k4 ?_; (case k1 => k_asm); (case k2 => k_mem); (case k3 => assumption); (case k4 => omega); k_whole)); intro t' tk'; (try dsimp only)))
/-- The sketch: the figures at the places, the first the highest. -/
def sketch (number : Int) (ps : List Int) : Int := ps.foldl (fun told p => 2 * told + (number.fdiv (2 ^ p.toNat)).fmod 2) 0
theorem sketch_append (x : Int) (ps : List Int) (p : Int) : sketch x (ps ++ [p]) = 2 * sketch x ps + (x.fdiv (2 ^ p.toNat)).fmod 2 := by
  unfold sketch
  rw [List.foldl_append]
  rfl
theorem fmod2 (x : Int) : 0 ≤ x.fmod 2 ∧ x.fmod 2 ≤ 1 := by
  rw [Int.fmod_eq_emod_of_nonneg _ (by decide)]
  omega
theorem sketch_ {w mean mg mb news} (l : Addr) (vs : List Value) (n : Nat) (ns : List Int) (x : Int) (t : Tok) (hm : (l, W.listOf vs.toArray n) ∈ news) (hI : IntsAre vs ns) (hr : ∀ p ∈ ns, 0 ≤ p ∧ p ≤ 6) :
    Tell w mean mg mb 1 62 [.int x t, .ref l] news (fun t => .int (sketch x ns) t) := by
  unfold Tell
  k_fill
  intro dp un gd cn cs a ccd cl outer A₀ base h₀ L m s Q E p loose B F X N T hk hdp hu hret
  k_with_none
  k_with "pyIter ref" => k_state (fun pre told => told = sketch x pre ∧ 0 ≤ told ∧ told < 2 ^ pre.length) "told"
  k_dflt (walk_at "mine enter")
  k_steps
  refine kst_listL (σ := Int × Tok) (fun _ => news) (fun c => [(Str.ofString "told", .int c.1 c.2)]) (fun _ => True) [] (fun pre c => c.1 = sketch x pre ∧ 0 ≤ c.1) (0, _) rfl (fun _ => hm) hI (by k_asm) (by k_asm) trivial (by kst_all) ⟨rfl, Int.le_refl _⟩ ?turn ?done
  case turn =>
    intro c pre post i ti u h tk own e hi hoff _ hP F' N'
    have hb := hr i hi
    simp only [kstB, List.contains_nil, Bool.false_eq_true, if_false] at F'
    k_steps
    refine kst_end (_, _) (by k_asm) (by k_asm) (fun p hp => List.mem_append_left _ hp) (fun p hp => List.mem_append_right _ hp) rfl trivial (by kst_all) (by kst_same) ⟨?_, ?_⟩
    · show _ = sketch x (pre ++ [i])
      rw [sketch_append, ← hP.1]
    · have := fmod2 (x.fdiv (2 ^ i.toNat))
      show 0 ≤ 2 * c.1 + _
      omega
  case done =>
    intro c u h tk _ hP F' N'
    k_steps
    exact cb_retI hret hP.1 (by k_asm) (by k_asm)
end Mine

end -- C4
section -- C5
local macro_rules | `(tactic| walk_at "mine blank") => `(tactic| skip)
local macro_rules | `(tactic| walk_at "mine blank") => `(tactic| skip)
local macro_rules | `(tactic| walk_at "mine blank") => `(tactic| skip)
local macro_rules | `(tactic| walk_at "mine blank") => `(tactic| skip)
theorem Mine.fresh_C5 : True := by
  w_top off
  k_with_none
  exact True.intro
open PySem PySem.W PyProof.Rows
namespace Mine
local macro_rules | `(tactic| walk_at "callWith ref") => `(tactic| (k_here; k_dflt (refine' callWith_K ?k1 ?k2 ?_; (case k1 => k_asm); (case k2 => k_is); k_whole)))
local macro_rules | `(tactic| walk_at "mine enter") => `(tactic| (refine wpAny_call ?_; (refine' code_def ?k1 ?k2 ?k3 ?k4 ?k5 ?kA ?kF ?kK ?k6 ?k7 ?k8 ?k9 ?kB ?_ ?c2 ?c3 ?c4 ?c5; (case kA => exact rfl); (case kF => exact rfl); (case kK => first | exact rfl | assumption); (case k1 => k_asm); (case k2 => k_asm); (case k3 => k_asm); (case k4 => k_asm); (case k5 => k_asm); (case k6 => k_is); (case k7 => k_is); (case k8 => ktr_room); (case k9 => first | exact BindsTo.of_eq rfl | (refine' kp_binds ?kx ?ke; (case kx => k_in); (case ke => exact fun _ => rfl))); (case c5 => decide); (case kB => exact locs rfl); (case c2 => exact rfl); (case c3 => exact rfl); (case c4 => exact rfl); k_whole; intro g' L' h' FG' F' N' B' X' T'; (try dsimp only); (try k_fold))))
local macro_rules | `(tactic| walk_at "call builtin:len") => `(tactic| (k_here; (with_reducible show wpAny _ _ (call (Value.builtin "len") [Value.ref _]) _ _ _); (k_dflt (refine' len_mine ?k1 ?k2 ?k3 ?k4 ?_; (case k1 => k_asm); (case k2 => k_mem); (case k3 => assumption); (case k4 => omega); k_whole)); intro t' tk'; (try dsimp only)))
local macro_rules | `(tactic| walk_at "call ref") => `(tactic| (k_dflt (refine' Tell.use (bl _ _ _ _ _ _ _ _ _ _ ?e1 ?e2 ?e3 ?e4 ?e5 ?e6 ?e7) ?k1 ?k2 ?k3 ?k4 ?k5 ?k6 ?k7 ?k8 ?_; (case k1 => k_asm); (case k2 => k_asm); (case k3 => k_asm); (case k4 => k_asm); (case k5 => k_asm); (case k6 => first | exact rfl | assumption); (case k7 => ktr_room); (case k8 => ktr_units); (case e1 => first | assumption | k_mem); (case e2 => assumption); (case e3 => omega); (case e4 => omega); (case e5 => omega); (case e6 => omega); (case e7 => assumption); k_whole); intro t' h' tk' F' N'; (try dsimp only); (try k_fold)))
local macro_rules | `(tactic| walk_at "call ref") => `(tactic| (k_dflt (refine' Tell.use (br _ _ _ _ _ _ _ _ _ _ ?e1 ?e2 ?e3 ?e4 ?e5 ?e6 ?e7) ?k1 ?k2 ?k3 ?k4 ?k5 ?k6 ?k7 ?k8 ?_; (case k1 => k_asm); (case k2 => k_asm); (case k3 => k_asm); (case k4 => k_asm); (case k5 => k_asm); (case k6 => first | exact rfl | assumption); (case k7 => ktr_room); (case k8 => ktr_units); (case e1 => first | assumption | k_mem); (case e2 => assumption); (case e3 => omega); (case e4 => omega); (case e5 => omega); (case e6 => omega); (case e7 => assumption); k_whole); intro t' h' tk' F' N'; (try dsimp only); (try k_fold)))
local macro_rules | `(tactic| walk_at "call ref") => `(tactic| (k_dflt (refine' Tell.use (sketch_ _ _ _ _ _ _ ?e1 ?e2 ?e3) ?k1 ?k2 ?k3 ?k4 ?k5 ?k6 ?k7 ?k8 ?_; (case k1 => k_asm); (case k2 => k_asm); (case k3 => k_asm); (case k4 => k_asm); (case k5 => k_asm); (case k6 => first | exact rfl | assumption); (case k7 => ktr_room); (case k8 => ktr_units); (case e1 => first | assumption | k_mem); (case e2 => assumption); (case e3 => assumption); k_whole); intro t' h' tk' F' N'; (try dsimp only); (try k_fold)))
/-- Where the sought one belongs, told by the sketch of the edge of its stretch. -/
def edge (sk ps : List Int) (q f lo hi : Int) : Int :=
  if (q.fdiv (2 ^ f.toNat)).fmod 2 = 1 then lo + cnt sk (leB (sketch (q.fdiv (2 ^ f.toNat) * 2 ^ f.toNat - 1) ps)) lo hi
  else lo + cnt sk (ltB (sketch ((q.fdiv (2 ^ f.toNat) + 1) * 2 ^ f.toNat) ps)) lo hi
theorem edge_ {w mean mg mb news} (l l2 : Addr) (vs vs2 : List Value) (n n2 : Nat) (sk ps : List Int) (q f lo hi : Int) (t u v t2 : Tok) (hm : (l, W.listOf vs.toArray n) ∈ news) (hm2 : (l2, W.listOf vs2.toArray n2) ∈ news) (hI : IntsAre vs sk) (hI2 : IntsAre vs2 ps)
    (h0 : 0 ≤ lo) (h1 : lo ≤ hi) (h2 : hi ≤ sk.length) (h3 : sk.length ≤ 100) (hs : Up sk) (hr : ∀ p ∈ ps, 0 ≤ p ∧ p ≤ 6) (hq0 : 0 ≤ q) (hq : q < 128) (hf0 : 0 ≤ f) (hf : f ≤ 6) :
    Tell w mean mg mb 2 76 [.ref l, .ref l2, .int q t, .int f u, .int lo v, .int hi t2] news (fun t => .int (edge sk ps q f lo hi) t) := by
  unfold Tell
  k_fill
  intro dp un gd cn cs a ccd cl outer A₀ base h₀ L m s Q E p loose B F X N T hk hdp hu hret
  k_with_none
  k_dflt (walk_at "mine enter")
  k_steps
  · exact cb_retI hret (by unfold edge; rw [if_pos (by assumption)]) (by k_asm) (by k_asm)
  · exact cb_retI hret (by unfold edge; rw [if_neg (by assumption)]) (by k_asm) (by k_asm)
end Mine

end -- C5
section -- C6
local macro_rules | `(tactic| walk_at "mine blank") => `(tactic| skip)
local macro_rules | `(tactic| walk_at "mine blank") => `(tactic| skip)
local macro_rules | `(tactic| walk_at "mine blank") => `(tactic| skip)
local macro_rules | `(tactic| walk_at "mine blank") => `(tactic| skip)
local macro_rules | `(tactic| walk_at "mine blank") => `(tactic| skip)
local macro_rules | `(tactic| walk_at "mine blank") => `(tactic| skip)
local macro_rules | `(tactic| walk_at "mine blank") => `(tactic| skip)
local macro_rules | `(tactic| walk_at "mine blank") => `(tactic| skip)
local macro_rules | `(tactic| walk_at "mine blank") => `(tactic| skip)
local macro_rules | `(tactic| walk_at "mine blank") => `(tactic| skip)
local macro_rules | `(tactic| walk_at "mine blank") => `(tactic| skip)
theorem Mine.fresh_C6 : True := by
  w_top off
  k_with_none
  exact True.intro
open PySem PySem.W PyProof.Rows
namespace Mine
local macro_rules | `(tactic| walk_at "mine enter") => `(tactic| (refine wpAny_call ?_; (refine' code_def ?k1 ?k2 ?k3 ?k4 ?k5 ?kA ?kF ?kK ?k6 ?k7 ?k8 ?k9 ?kB ?_ ?c2 ?c3 ?c4 ?c5; (case kA => exact rfl); (case kF => exact rfl); (case kK => first | exact rfl | assumption); (case k1 => k_asm); (case k2 => k_asm); (case k3 => k_asm); (case k4 => k_asm); (case k5 => k_asm); (case k6 => k_is); (case k7 => k_is); (case k8 => ktr_room); (case k9 => first | exact BindsTo.of_eq rfl | (refine' kp_binds ?kx ?ke; (case kx => k_in); (case ke => exact fun _ => rfl))); (case c5 => decide); (case kB => exact locs rfl); (case c2 => exact rfl); (case c3 => exact rfl); (case c4 => exact rfl); k_whole; intro g' L' h' FG' F' N' B' X' T'; (try dsimp only); (try k_fold))))
local macro_rules | `(tactic| walk_at "mine enterC") => `(tactic| (refine wpAny_call ?_; (refine' code_defC ?k1 ?k2 ?k3 ?k4 ?k5 ?kA ?kF ?kK ?k6 ?k7 ?k8 ?k9 ?kB ?kD ?_ ?c2 ?c3 ?c4; (case kA => exact rfl); (case kF => exact rfl); (case kK => first | exact rfl | assumption); (case k1 => k_asm); (case k2 => k_asm); (case k3 => k_asm); (case k4 => k_asm); (case k5 => k_asm); (case k6 => k_is); (case k7 => k_is); (case k8 => ktr_room); (case k9 => first | exact BindsTo.of_eq rfl | (refine' kp_binds ?kx ?ke; (case kx => k_in); (case ke => exact fun _ => rfl))); (case kB => exact rfl); (case kD => decide +kernel); (case c2 => exact rfl); (case c3 => exact rfl); (case c4 => exact rfl); k_whole; intro g' L' h' tk' cells' FG' F' N' Y' B' X' T' l1; k_cells Y'; (try simp only [List.cons_append, List.nil_append] at N'); (try dsimp only); (try k_fold))))
local macro_rules | `(tactic| walk_at "call builtin:len") => `(tactic| (k_here; (with_reducible show wpAny _ _ (call (Value.builtin "len") [Value.ref _]) _ _ _); (k_dflt (refine' len_mine ?k1 ?k2 ?k3 ?k4 ?_; (case k1 => k_asm); (case k2 => k_mem); (case k3 => assumption); (case k4 => omega); k_whole)); intro t' tk'; (try dsimp only)))
local macro_rules | `(tactic| walk_at "eval ListComp") => `(tactic| (k_here; (with_reducible show wpAny _ _ (eval (PySem.Expr.ListComp _ [PySem.Comprehension.mk _ _ [] _] _ _) _) _ _ _); k_dflt (refine comp_U (F₀ := by k_asm) (by with_unfolding_all rfl) (by decide) (by rfl) (by decide) (by rfl) ?_)))
local macro_rules | `(tactic| walk_at "eval ListComp") => `(tactic| (k_here; (with_reducible show wpAny _ _ (eval (PySem.Expr.ListComp _ [PySem.Comprehension.mk _ _ [_] _] _ _) _) _ _ _); k_dflt (refine comp_T (F₀ := by k_asm) (by with_unfolding_all rfl) (by decide) (by rfl) (by decide) (by rfl) ?_)))
/-- As Tell, of a call that hands back a new list of ints. -/
def TellL (w : World) (mean : ExcName → Option Value) (mg mb : Str → Option Value) (k : Nat) (f : Addr) (vs : List Value) (news : List (Addr × Obj)) (R : List Int) : Prop :=
  ∀ (dp un : Nat) (gd : Option (List Code)) (cn : Str) (cs : Scope) (a : Addr) (ccd : Value) (cl : List (Str × Addr)) (outer : List Env) (A₀ : PySem.Around) (base h₀ : Heap) (L : Addr) (m : Str → Option Value) (s : Shared) (Q E : Value → Shared → Prop) (p : Program) (loose : List Str),
    Below A₀ base outer h₀ → Fr h₀ L s.heap m → (hd.heap_39 w.params).In h₀ → News h₀ L s.heap news → Top p loose mean mg mb h₀ → cs.kind = .function →
    dp + k < recursionLimit → un + 8 * k < cLine →
    (∀ D ws h' tk', IntsAre ws R → Fr h₀ L h' m → News h₀ L h' ((D, W.listOf ws.toArray 0) :: news) → (∀ p ∈ news, p.1 < D) → Q (.ref D) { s with heap := h', toks := tk' }) →
    wpAny (model PySem.Challenge.rw_rs0043_01.row.prog w) (ktrTop dp un gd cn cs L a ccd cl outer) (call (.ref f) vs) Q E s
theorem TellL.use {w mean mg mb k f vs news R} {dp un : Nat} {gd : Option (List Code)} {cn : Str} {cs : Scope} {a : Addr} {ccd : Value} {cl : List (Str × Addr)} {outer : List Env} {A₀ : PySem.Around} {base h₀ : Heap} {L : Addr} {m : Str → Option Value} {s : Shared} {Q E : Value → Shared → Prop} {p : Program} {loose : List Str}
    (C : TellL w mean mg mb k f vs news R) (B : Below A₀ base outer h₀) (F : Fr h₀ L s.heap m) (X : (hd.heap_39 w.params).In h₀) (N : News h₀ L s.heap news) (T : Top p loose mean mg mb h₀) (hk : cs.kind = .function)
    (hd : dp + k < recursionLimit) (hu : un + 8 * k < cLine)
    (ret : ∀ D ws h' tk', IntsAre ws R → Fr h₀ L h' m → News h₀ L h' ((D, W.listOf ws.toArray 0) :: news) → (∀ p ∈ news, p.1 < D) → Q (.ref D) { s with heap := h', toks := tk' }) :
    wpAny (model PySem.Challenge.rw_rs0043_01.row.prog w) (ktrTop dp un gd cn cs L a ccd cl outer) (call (.ref f) vs) Q E s := C _ _ _ _ _ _ _ _ _ _ _ _ _ _ _ _ _ _ _ B F X N T hk hd hu ret
theorem allLt_mem {d : Nat} : ∀ {l : List (Addr × Obj)}, AllLt d l → ∀ p ∈ l, p.1 < d
  | [], _, _, h => nomatch h
  | _ :: _, x, p, h => by
    rcases List.mem_cons.mp h with rfl | h
    · exact x.1
    · exact allLt_mem x.2 p h
theorem drop3 {h₀ h : Heap} {L : Addr} {a b c d : Addr × Obj} {r : List (Addr × Obj)} (N : News h₀ L h (a :: b :: c :: d :: r)) : News h₀ L h (a :: r) := fun p hp => by
  rcases List.mem_cons.mp hp with rfl | hp
  · exact N _ (.head _)
  · exact N _ (.tail _ (.tail _ (.tail _ (.tail _ hp))))
theorem counted {w mean mg mb news} (l : Addr) (vs : List Value) (n : Nat) (ns : List Int) (x lo : Int) (t u : Tok) (hm : (l, W.listOf vs.toArray n) ∈ news) (hI : IntsAre vs ns) (h3 : ns.length ≤ 100) :
    TellL w mean mg mb 2 81 [.ref l, .int x t, .int lo u] news [lo + ((ns.filter (ltB x)).length : Int), lo + ((ns.filter (leB x)).length : Int)] := by
  unfold TellL
  k_fill
  intro dp un gd cn cs a ccd cl outer A₀ base h₀ L m s Q E p loose B F X N T hk hdp hu hret
  k_with_none
  k_dflt (walk_at "mine enterC")
  k_steps
  refine src_listT (ltB x) id rfl (by k_asm) (by k_asm) (by first | exact hm | exact List.mem_cons_of_mem _ hm) hI h3 ?_ ?_
  · intro k tt I oI C oC D m₂ ys h tk E' hk hC hx F'' N''
    k_steps
    refine TsEnd.intro (by k_asm) (by k_asm) rfl ?_
    k_steps
    exact ElEnd.intro (by k_asm) (by k_asm) rfl
  intro ys D h tk hy F'' N'' off
  rw [List.map_id] at hy
  have hb := List.length_filter_le (ltB x) ns
  k_steps
  refine src_listT (leB x) id rfl (by k_asm) (by k_asm) (by first | exact hm | exact List.mem_cons_of_mem _ hm | exact List.mem_cons_of_mem _ (List.mem_cons_of_mem _ hm)) hI h3 ?_ ?_
  · intro k tt I oI C oC D m₂ ys h tk E' hk hC hx F'' N''
    k_steps
    refine TsEnd.intro (by k_asm) (by k_asm) rfl ?_
    k_steps
    exact ElEnd.intro (by k_asm) (by k_asm) rfl
  intro ys2 D2 h2 tk2 hy2 F2 N2 off2
  rw [List.map_id] at hy2
  have hb2 := List.length_filter_le (leB x) ns
  k_steps
  rename (_ ∧ _ ∧ _ ∧ AllLt _ _) => l1
  exact hret _ [_, _] _ _ (.cons _ _ (.cons _ _ .nil)) (by k_asm) (drop3 (by assumption)) (allLt_mem l1.2.2.2)
end Mine

end -- C6
section -- C7
local macro_rules | `(tactic| walk_at "mine blank") => `(tactic| skip)
local macro_rules | `(tactic| walk_at "mine blank") => `(tactic| skip)
local macro_rules | `(tactic| walk_at "mine blank") => `(tactic| skip)
local macro_rules | `(tactic| walk_at "mine blank") => `(tactic| skip)
local macro_rules | `(tactic| walk_at "mine blank") => `(tactic| skip)
local macro_rules | `(tactic| walk_at "mine blank") => `(tactic| skip)
local macro_rules | `(tactic| walk_at "mine blank") => `(tactic| skip)
local macro_rules | `(tactic| walk_at "mine blank") => `(tactic| skip)
local macro_rules | `(tactic| walk_at "mine blank") => `(tactic| skip)
local macro_rules | `(tactic| walk_at "mine blank") => `(tactic| skip)
local macro_rules | `(tactic| walk_at "mine blank") => `(tactic| skip)
local macro_rules | `(tactic| walk_at "mine blank") => `(tactic| skip)
local macro_rules | `(tactic| walk_at "mine blank") => `(tactic| skip)
local macro_rules | `(tactic| walk_at "mine blank") => `(tactic| skip)
local macro_rules | `(tactic| walk_at "mine blank") => `(tactic| skip)
local macro_rules | `(tactic| walk_at "mine blank") => `(tactic| skip)
local macro_rules | `(tactic| walk_at "mine blank") => `(tactic| skip)
theorem Mine.fresh_C7 : True := by
  w_top off
  k_with_none
  exact True.intro
open PySem PySem.W PyProof.Rows
namespace Mine
local macro_rules | `(tactic| walk_at "callWith ref") => `(tactic| (k_here; k_dflt (refine' callWith_K ?k1 ?k2 ?_; (case k1 => k_asm); (case k2 => k_is); k_whole)))
local macro_rules | `(tactic| walk_at "mine enter") => `(tactic| (refine wpAny_call ?_; (refine' code_def ?k1 ?k2 ?k3 ?k4 ?k5 ?kA ?kF ?kK ?k6 ?k7 ?k8 ?k9 ?kB ?_ ?c2 ?c3 ?c4 ?c5; (case kA => exact rfl); (case kF => exact rfl); (case kK => first | exact rfl | assumption); (case k1 => k_asm); (case k2 => k_asm); (case k3 => k_asm); (case k4 => k_asm); (case k5 => k_asm); (case k6 => k_is); (case k7 => k_is); (case k8 => ktr_room); (case k9 => first | exact BindsTo.of_eq rfl | (refine' kp_binds ?kx ?ke; (case kx => k_in); (case ke => exact fun _ => rfl))); (case c5 => decide); (case kB => exact locs rfl); (case c2 => exact rfl); (case c3 => exact rfl); (case c4 => exact rfl); k_whole; intro g' L' h' FG' F' N' B' X' T'; (try dsimp only); (try k_fold))))
local macro_rules | `(tactic| walk_at "mine enterC") => `(tactic| (refine wpAny_call ?_; (refine' code_defC ?k1 ?k2 ?k3 ?k4 ?k5 ?kA ?kF ?kK ?k6 ?k7 ?k8 ?k9 ?kB ?kD ?_ ?c2 ?c3 ?c4; (case kA => exact rfl); (case kF => exact rfl); (case kK => first | exact rfl | assumption); (case k1 => k_asm); (case k2 => k_asm); (case k3 => k_asm); (case k4 => k_asm); (case k5 => k_asm); (case k6 => k_is); (case k7 => k_is); (case k8 => ktr_room); (case k9 => first | exact BindsTo.of_eq rfl | (refine' kp_binds ?kx ?ke; (case kx => k_in); (case ke => exact fun _ => rfl))); (case kB => exact rfl); (case kD => decide +kernel); (case c2 => exact rfl); (case c3 => exact rfl); (case c4 => exact rfl); k_whole; intro g' L' h' tk' cells' FG' F' N' Y' B' X' T' l1; k_cells Y'; (try simp only [List.cons_append, List.nil_append] at N'); (try dsimp only); (try k_fold))))
local macro_rules | `(tactic| walk_at "call builtin:len") => `(tactic| (k_here; (with_reducible show wpAny _ _ (call (Value.builtin "len") [Value.ref _]) _ _ _); (k_dflt (refine' len_mine ?k1 ?k2 ?k3 ?k4 ?_; (case k1 => k_asm); (case k2 => k_mem); (case k3 => assumption); (case k4 => omega); k_whole)); intro t' tk'; (try dsimp only)))
local macro_rules | `(tactic| walk_at "eval ListComp") => `(tactic| (k_here; (with_reducible show wpAny _ _ (eval (PySem.Expr.ListComp _ [PySem.Comprehension.mk _ _ [] _] _ _) _) _ _ _); k_dflt (refine comp_U (F₀ := by k_asm) (by with_unfolding_all rfl) (by decide) (by rfl) (by decide) (by rfl) ?_)))
local macro_rules | `(tactic| walk_at "eval ListComp") => `(tactic| (k_here; (with_reducible show wpAny _ _ (eval (PySem.Expr.ListComp _ [PySem.Comprehension.mk _ _ [_] _] _ _) _) _ _ _); k_dflt (refine comp_T (F₀ := by k_asm) (by with_unfolding_all rfl) (by decide) (by rfl) (by decide) (by rfl) ?_)))
local macro_rules | `(tactic| walk_at "call type:list") => `(tactic| (k_here; (with_reducible show wpAny _ _ (call (Value.type "list") [Value.ref _]) _ _ _); (rename IsRange _ _ _ _ _ _ _ _ => rgX); (k_dflt (refine' kll_range (n := 8) ?k0 ?k1 ?k2 ?k3 ?k4 ?k5 ?k6 ?_; (case k0 => rfl); (case k1 => k_asm); (case k2 => k_asm); (case k3 => first | exact rgX | assumption); (case k4 => decide); (case k5 => rfl); (case k6 => decide); k_whole)); intro D' vs' c' h' tk' F' N' l1 hI'; (try k_lt l1)))
local macro_rules | `(tactic| k_mem) => `(tactic| first | exact List.Mem.head _ | assumption | (refine' List.Mem.tail _ ?_; k_mem))
local macro_rules | `(tactic| walk_at "eval Name") => `(tactic| (k_here; k_dflt (refine' nameX_F (hk := ?b) (hx := ?a) (hb := ?e) (hn := ?g) ?N ?c ?m ?d ?_; (case b => rfl); (case a => rfl); (case e => decide); (case g => decide); (case N => k_asm); (case c => rfl); (case m => k_mem); (case d => assumption); k_whole)))
local macro_rules | `(tactic| walk_at "eval Name") => `(tactic| (k_here; k_dflt (refine' nameX_C (hk := ?b) (hx := ?a) (hb := ?e) ?N ?c ?m ?d ?_; (case b => rfl); (case a => rfl); (case e => decide); (case N => k_asm); (case c => rfl); (case m => k_mem); (case d => assumption); k_whole)))
abbrev lamQ : Str := (Str.ofString "_law_fewest_cut" ++ ".<locals>.") ++ "<lambda>"
/-- As Tell, of the call that makes the lambda. -/
def TellT (w : World) (mean : ExcName → Option Value) (mg mb : Str → Option Value) (k : Nat) (f : Addr) (vs : List Value) (tb : Option (Addr × Obj)) (rest : List (Addr × Obj)) (R : Tok → Value) : Prop :=
  ∀ (dp un : Nat) (gd : Option (List Code)) (cn : Str) (cs : Scope) (a : Addr) (ccd : Value) (cl : List (Str × Addr)) (outer : List Env) (A₀ : PySem.Around) (base h₀ : Heap) (L : Addr) (m : Str → Option Value) (s : Shared) (Q E : Value → Shared → Prop) (p : Program) (loose : List Str),
    Below A₀ base outer h₀ → Fr h₀ L s.heap m → (hd.heap_39 w.params).In h₀ → News h₀ L s.heap (TabIn tb ++ rest) → Top p loose mean mg mb h₀ → CodeHd h₀ 68 64 → cs.kind = .function →
    dp + k < recursionLimit → un + 8 * k < cLine →
    (∀ tb' t h' tk', TabOk lamQ tb' → TabOff tb' rest → Fr h₀ L h' m → News h₀ L h' (TabIn tb' ++ rest) → Q (R t) { s with heap := h', toks := tk' }) →
    wpAny (model PySem.Challenge.rw_rs0043_01.row.prog w) (ktrTop dp un gd cn cs L a ccd cl outer) (call (.ref f) vs) Q E s
/-- The key of the search: is the sought one like some number, when so many figures are cut off? -/
def keyB (ns : List Int) (x k : Int) : Bool := (ns.map fun y => y.fdiv (2 ^ k.toNat)).any fun z => z == x.fdiv (2 ^ k.toNat)
theorem rng8 (j : Nat) : 0 ≤ (rangeKs 0 8).getD j 0 ∧ (rangeKs 0 8).getD j 0 < 8 := by
  rw [List.getD_eq_getElem?_getD]
  cases e : (rangeKs 0 8)[j]? with
  | none => decide
  | some v =>
    have := mem_rangeKs (List.mem_of_getElem? e)
    simp only [Option.getD_some]
    omega
theorem key_up {ns : List Int} {x : Int} {i j : Nat} (h : i ≤ j) (e : keyB ns x (i : Int) = true) : keyB ns x (j : Int) = true := by
  unfold keyB at e ⊢
  simp only [List.any_eq_true, List.mem_map, beq_iff_eq, Int.toNat_natCast] at e ⊢
  obtain ⟨z, ⟨y, hy, rfl⟩, e⟩ := e
  refine ⟨_, ⟨y, hy, rfl⟩, ?_⟩
  have q : ∀ v : Int, v.fdiv (2 ^ j) = (v.fdiv (2 ^ i)).fdiv (2 ^ (j - i)) := fun v => by
    have p1 : (0 : Int) ≤ 2 ^ i := Int.le_of_lt (Int.pow_pos (by decide))
    have p2 : (0 : Int) ≤ 2 ^ j := Int.le_of_lt (Int.pow_pos (by decide))
    have p3 : (0 : Int) ≤ 2 ^ (j - i) := Int.le_of_lt (Int.pow_pos (by decide))
    rw [Int.fdiv_eq_ediv_of_nonneg _ p1, Int.fdiv_eq_ediv_of_nonneg _ p2, Int.fdiv_eq_ediv_of_nonneg _ p3, Int.ediv_ediv_of_nonneg p1, ← Int.pow_add]
    congr 2
    omega
  rw [q, q, e]
theorem range8 {i : Nat} (h : i < 8) : (rangeKs 0 8).getD i 0 = (i : Int) := by
  simp [rangeKs, h]
theorem few_falls {ns : List Int} {x : Int} : Falls (rangeKs 0 8) (fun k => !keyB ns x k) := fun i j h1 h2 e => by
  rw [rangeKs_length] at h2
  rw [range8 h2] at e
  rw [range8 (by omega)]
  dsimp only at e ⊢
  cases q : keyB ns x (i : Int) with
  | false => rfl
  | true => rw [key_up h1 q] at e; cases e
theorem few_start {p : Int → Bool} : (0 : Int) ≤ 0 ∧ (0 : Int) ≤ ((rangeKs 0 8).length : Int) ∧ ((rangeKs 0 8).length : Int) ≤ 8 ∧ Parted (rangeKs 0 8) p 0 8 0 ((rangeKs 0 8).length : Int) := by
  rw [rangeKs_length]
  exact ⟨by decide, by decide, by decide, parted_start⟩
theorem few_yes {ns : List Int} {x a b : Int} (h1 : 0 ≤ a) (h2 : b ≤ 8) (q : Parted (rangeKs 0 8) (fun k => !keyB ns x k) 0 8 a b) (h : a < b) (e' : b2i (keyB ns x ((rangeKs 0 8).getD ((a + b).fdiv 2).toNat 0)) < b2i true) :
    0 ≤ (a + b).fdiv 2 + 1 ∧ (a + b).fdiv 2 + 1 ≤ b ∧ b ≤ 8 ∧ Parted (rangeKs 0 8) (fun k => !keyB ns x k) 0 8 ((a + b).fdiv 2 + 1) b := by
  have := mid_facts h1 h
  have e : keyB ns x ((rangeKs 0 8).getD ((a + b).fdiv 2).toNat 0) = false := by
    cases q : keyB ns x ((rangeKs 0 8).getD ((a + b).fdiv 2).toNat 0) with
    | false => rfl
    | true => rw [q] at e'; exact absurd e' (Int.lt_irrefl _)
  exact ⟨by omega, by omega, h2, parted_yes few_falls (by decide) h1 h2 (by rw [rangeKs_length]; decide) q h (by rw [e]; rfl)⟩
theorem few_no {ns : List Int} {x a b : Int} (h1 : 0 ≤ a) (h2 : b ≤ 8) (q : Parted (rangeKs 0 8) (fun k => !keyB ns x k) 0 8 a b) (h : a < b) (e' : ¬ b2i (keyB ns x ((rangeKs 0 8).getD ((a + b).fdiv 2).toNat 0)) < b2i true) :
    0 ≤ a ∧ a ≤ (a + b).fdiv 2 ∧ (a + b).fdiv 2 ≤ 8 ∧ Parted (rangeKs 0 8) (fun k => !keyB ns x k) 0 8 a ((a + b).fdiv 2) := by
  have := mid_facts h1 h
  have e : keyB ns x ((rangeKs 0 8).getD ((a + b).fdiv 2).toNat 0) = true := by
    cases q : keyB ns x ((rangeKs 0 8).getD ((a + b).fdiv 2).toNat 0) with
    | false => rw [q] at e'; exact absurd (by decide) e'
    | true => rfl
  exact ⟨by omega, by omega, by omega, parted_no few_falls (by decide) h1 h2 (by rw [rangeKs_length]; decide) q h (by rw [e]; rfl)⟩
theorem drop4 {h₀ h : Heap} {L : Addr} {a b c d : Addr × Obj} {r l : List (Addr × Obj)} (e : a :: b :: c :: d :: r = l) (N : News h₀ L h l) : News h₀ L h r := fun p hp => N _ (e ▸ .tail _ (.tail _ (.tail _ (.tail _ hp))))
theorem drop2 {h₀ h : Heap} {L : Addr} {a b : Addr × Obj} {r : List (Addr × Obj)} (N : News h₀ L h (a :: b :: r)) : News h₀ L h r := fun p hp => N _ (.tail _ (.tail _ hp))
local macro_rules | `(tactic| walk_at "call ref") => `(tactic| k_extra "call ref")
local macro_rules | `(tactic| walk_at "callWith ref") => `(tactic| k_extra "callWith ref")
local macro_rules | `(tactic| walk_at "And") => `(tactic| k_extra "And")
theorem fewest {w mean mg mb tb rest} (l : Addr) (vs : List Value) (n : Nat) (ns : List Int) (x : Int) (t : Tok) (ok : TabOk lamQ tb) (off : TabOff tb rest) (hm : (l, W.listOf vs.toArray n) ∈ rest) (hI : IntsAre vs ns) (h3 : ns.length ≤ 100) (hx0 : 0 ≤ x) (hx : x < 128) :
    TellT w mean mg mb 3 69 [.ref l, .int x t] tb rest (fun t => .int (0 + cnt (rangeKs 0 8) (fun k => !keyB ns x k) 0 8) t) := by
  unfold TellT
  k_fill
  intro dp un gd cn cs a ccd cl outer A₀ base h₀ L m s Q E p loose B F X N T CH hk hdp hu hret
  k_with_none
  k_dflt (walk_at "mine enterC")
  rename_i g₁ L₁ h₁ tk₁ FG₁ F₁ B₁ X₁ T₁ l1 oS oM dS dM N₁
  have CG : CodeHd g₁ 68 64 := CH.keeps FG₁.keep
  have dS' : oS.data = .cell (some (.int x t)) := dS
  have dM' : oM.data = .cell (some (.ref l)) := dM
  clear dS dM
  have h64 : @LT.lt Nat _ 64 L₁ := by
    have := l1 (64, (TabIn tb).head!.2) (by cases tb <;> exact List.mem_append_left _ (.head _))
    exact this
  k_steps
  rename_i D8 vs8 n8 h8 tk8 F8 N8 hI8 l2
  refine lam_make (pre := [_, _, _]) (by k_asm) (by k_asm) T₁ CG ok ?_ off rfl rfl rfl rfl ?_
  · refine List.forall_mem_cons.mpr ⟨?_, List.forall_mem_cons.mpr ⟨?_, List.forall_mem_cons.mpr ⟨?_, List.forall_mem_nil _⟩⟩⟩ <;> (refine neN ?_; dsimp only; omega)
  intro f ob c' oc vs9 t9 ctv h9 tk9 hob F9 N9 e1 e2 off9 hf9
  dsimp only [List.cons_append, List.nil_append] at N9
  generalize hn9 : (f, ob) :: _ = news9 at N9
  have hmf : (f, ob) ∈ news9 := by rw [← hn9]; exact .head _
  have hmD : (D8, W.listOf vs8.toArray n8) ∈ news9 := by rw [← hn9]; exact .tail _ (.head _)
  have hmS : (L₁ + 1 + 1, oS) ∈ news9 := by rw [← hn9]; exact .tail _ (.tail _ (.head _))
  have hmM : (L₁ + 1, oM) ∈ news9 := by rw [← hn9]; exact .tail _ (.tail _ (.tail _ (.head _)))
  have hmc : (c', oc) ∈ news9 := by rw [← hn9]; exact .tail _ (.tail _ (.tail _ (.tail _ (List.mem_append_left _ (.tail _ (.head _))))))
  have hml : (l, W.listOf vs.toArray n) ∈ news9 := by rw [← hn9]; exact .tail _ (.tail _ (.tail _ (.tail _ (List.mem_append_right _ hm))))
  have key : ∀ (k : Int) (u : Tok), 0 ≤ k → k < 8 → Tell w mean mg mb 1 f [.int k u] news9 (fun _ => .bool (keyB ns x k)) := by
    intro k u hk0 hk8
    clear hn9 hret hdp hu l1 l2 FG₁ B₁ X₁ T₁ CG N9 F9 F8 N8
    unfold Tell
    k_fill
    intro dp un gd cn cs a ccd cl outer A₀ base h₀ L m s Q E p loose B F X N T hk hdp hu hret
    refine wpAny_call ?_
    subst hob
    refine lam_code (v := .int k u) (by k_asm) (by k_asm) (by k_asm) (by k_asm) (by k_asm) rfl rfl hk hmf (codeRec_news (by k_asm) hmc e1 e2) (by ktr_room) rfl rfl (by decide) ?_ rfl rfl rfl
    intro g' L' h' oC FG' F' N' dC B' X' T' l1'
    k_steps
    refine src_list (fun y => y.fdiv (2 ^ k.toNat)) rfl (by k_asm) (by k_asm) (List.mem_cons_of_mem _ hml) hI h3 ?_ ?_
    · intro y ty I oI C oC D m₂ ys h tk E' hy hC hx' F'' N''
      k_steps
      exact ElEnd.intro (by k_asm) (by k_asm) rfl
    intro ys D h tk hy F'' N'' off'
    have hb := List.length_map (as := ns) (fun y : Int => y.fdiv (2 ^ k.toNat))
    k_steps
    exact hret 0 _ _ (by k_asm) (drop2 (by assumption))
  have hfn : ∀ {h₀ h : Heap} {L : Addr}, News h₀ L h news9 → FnAt f h := fun N => FnAt.of N (hob ▸ hmf)
  k_with "callWith ref" => k_dflt (refine' callWith_F ?k1 ?_; (case k1 => exact hfn (by k_asm)); k_whole)
  k_with "And" => (refine ⟨hfn (by k_asm), ?_⟩; (try dsimp only [List.nil_append, List.cons_append]))
  have ok9 : TabOk lamQ (some (c', oc)) := ⟨vs9, t9, e1, e2⟩
  clear hob hmf hmc hmS hmM hml e1 e2 N8 F8 l1 dS' dM' CG
  k_with "call ref" => (k_dflt (refine' Tell.use (key _ _ (rng8 _).1 (rng8 _).2) ?k1 ?k2 ?k3 ?k4 ?k5 ?k6 ?k7 ?k8 ?_; (case k1 => k_asm); (case k2 => k_asm); (case k3 => k_asm); (case k4 => k_asm); (case k5 => k_asm); (case k6 => first | exact rfl | assumption); (case k7 => ktr_room); (case k8 => ktr_units); k_whole)); intro t' h' tk' F' N'; (try dsimp only)
  have h8 : (rangeKs 0 8).length = 8 := rangeKs_length ..
  k_with "state" => first | exact few_start | exact few_yes (by assumption) (by assumption) (by assumption) (by assumption) (by assumption) | exact few_no (by assumption) (by assumption) (by assumption) (by assumption) (by assumption)
  k_with "measure" => first | exact bl_m1 (Int.le_refl 0) (by assumption) (by assumption) | exact bl_m2 (Int.le_refl 0) (by assumption) (by assumption)
  k_with "exec While Compare cons nil" => k_while (fun _ a b => 0 ≤ a ∧ a ≤ b ∧ b ≤ 8 ∧ Parted (rangeKs 0 8) (fun k => !keyB ns x k) 0 8 a b) (fun _ a b => (b - a).toNat) "lo" "hi"
  k_steps
  k_dflt (walk_at "mine enter")
  k_steps
  have hv := parted_end (ns := rangeKs 0 8) (p := fun k => !keyB ns x k) (lo := 0) (hi := 8) (by decide) (by assumption) (by assumption) (by rw [h8]; decide) (by assumption) (by assumption) (by assumption)
  rw [hv]
  exact hret (some (c', oc)) _ _ _ ok9 off9 (by k_asm) (drop4 hn9 (by k_asm))
end Mine

end -- C7
section -- P2
open PySem PySem.W PyProof.Rows
namespace Mine
def insAt (ns : List Int) (k x : Int) : List Int := ns.take (min k.toNat ns.length) ++ x :: ns.drop (min k.toNat ns.length)
def RowOk (pre ns : List Int) : Prop := Up ns ∧ (∀ y ∈ ns, 0 ≤ y ∧ y < 128) ∧ ns.length = pre.length
theorem ints_take {vs : List Value} {ns : List Int} (h : IntsAre vs ns) (k : Nat) : IntsAre (vs.take k) (ns.take k) := by
  induction h generalizing k with
  | nil => rw [List.take_nil, List.take_nil]; exact .nil
  | cons n t _ ih =>
    cases k with
    | zero => exact .nil
    | succ k => exact .cons _ _ (ih k)
theorem ints_drop {vs : List Value} {ns : List Int} (h : IntsAre vs ns) (k : Nat) : IntsAre (vs.drop k) (ns.drop k) := by
  induction h generalizing k with
  | nil => rw [List.drop_nil, List.drop_nil]; exact .nil
  | cons n t h ih =>
    cases k with
    | zero => exact .cons _ _ h
    | succ k => exact ih k
theorem ints_ins {vs : List Value} {ns : List Int} (h : IntsAre vs ns) {k : Int} (hk : 0 ≤ k) (x : Int) (t : Tok) : IntsAre (kl_ins vs k (.int x t)) (insAt ns k x) := by
  unfold kl_ins insAt
  rw [if_neg (by omega), h.length]
  exact IntsAre.append (ints_take h _) (.cons _ _ (ints_drop h _))
theorem up_iff {ns : List Int} : Up ns ↔ ns.Pairwise (· ≤ ·) := by
  unfold Up
  rw [List.pairwise_iff_getElem]
  constructor
  · intro h i j hi hj hij
    have := h i j (Nat.le_of_lt hij) hj
    simpa [List.getD_eq_getElem?_getD, hi, hj] using this
  · intro h i j hij hj
    have hi : i < ns.length := by omega
    simp only [List.getD_eq_getElem?_getD, List.getElem?_eq_getElem hi, List.getElem?_eq_getElem hj, Option.getD_some]
    rcases Nat.lt_or_eq_of_le hij with h1 | h1
    · exact h i j hi hj h1
    · subst h1; exact Int.le_refl _
/-- In a row that never falls, those that p tells yes come first. -/
theorem falls_split {ns : List Int} {p : Int → Bool} (f : Falls ns p) : (∀ i, i < ns.countP p → p (ns.getD i 0) = true) ∧ (∀ i, ns.countP p ≤ i → i < ns.length → p (ns.getD i 0) = false) := by
  induction ns with
  | nil => exact ⟨fun i h => absurd h (Nat.not_lt_zero _), fun i _ h => absurd h (Nat.not_lt_zero _)⟩
  | cons x r ih =>
    have fr : Falls r p := fun i j h1 h2 e => by
      have := f (i + 1) (j + 1) (by omega) (by simpa using h2)
      simp only [List.getD_cons_succ] at this
      exact this e
    obtain ⟨a, b⟩ := ih fr
    cases hx : p x with
    | true =>
      rw [List.countP_cons_of_pos hx]
      refine ⟨fun i hi => ?_, fun i h1 h2 => ?_⟩
      · cases i with
        | zero => simpa using hx
        | succ i => rw [List.getD_cons_succ]; exact a i (by omega)
      · cases i with
        | zero => omega
        | succ i => rw [List.getD_cons_succ]; exact b i (by omega) (by simpa using h2)
    | false =>
      have h0 : ∀ j, j < r.length → p (r.getD j 0) = false := fun j hj => by
        cases e : p (r.getD j 0) with
        | false => rfl
        | true =>
          have := f 0 (j + 1) (Nat.zero_le _) (by simpa using hj)
          simp only [List.getD_cons_succ, List.getD_cons_zero] at this
          rw [this e] at hx; cases hx
      have hc : r.countP p = 0 := List.countP_eq_zero.mpr fun y hy => by
        obtain ⟨j, hj, rfl⟩ := List.mem_iff_getElem.mp hy
        have := h0 j hj
        simp only [List.getD_eq_getElem?_getD, List.getElem?_eq_getElem hj, Option.getD_some] at this
        rw [this]; exact Bool.false_ne_true
      rw [List.countP_cons_of_neg (by rw [hx]; exact Bool.false_ne_true), hc]
      refine ⟨fun i hi => absurd hi (Nat.not_lt_zero _), fun i _ h2 => ?_⟩
      cases i with
      | zero => simpa using hx
      | succ i => rw [List.getD_cons_succ]; exact h0 i (by simpa using h2)
theorem cut_all (ns : List Int) : cut ns 0 ns.length = ns := by
  unfold cut
  simp
theorem cnt_all (ns : List Int) (p : Int → Bool) : cnt ns p 0 ns.length = (ns.countP p : Int) := by
  unfold cnt
  rw [Int.toNat_natCast, Int.toNat_zero, cut_all]
theorem row_step {pre ns : List Int} (n : Int) (h : RowOk pre ns) : RowOk (pre ++ [n]) (insAt ns (0 + cnt ns (leB (n.fmod 128)) 0 ns.length) (n.fmod 128)) := by
  obtain ⟨hu, hb, hl⟩ := h
  have hm : 0 ≤ n.fmod 128 ∧ n.fmod 128 < 128 := by
    rw [Int.fmod_eq_emod_of_nonneg _ (by decide)]
    omega
  generalize n.fmod 128 = x at hm ⊢
  rw [cnt_all]
  have hc : ns.countP (leB x) ≤ ns.length := List.countP_le_length
  have hk : min ((0 + (ns.countP (leB x) : Int)).toNat) ns.length = ns.countP (leB x) := by omega
  unfold insAt
  rw [hk]
  obtain ⟨a, b⟩ := falls_split (falls_le hu x)
  have hp := up_iff.mp hu
  refine ⟨up_iff.mpr ?_, fun y hy => ?_, ?_⟩
  · rw [List.pairwise_append]
    have hle : ∀ y ∈ ns.take (ns.countP (leB x)), y ≤ x := fun y hy => by
      obtain ⟨i, hi, rfl⟩ := List.mem_iff_getElem.mp hy
      rw [List.length_take] at hi
      have := a i (by omega)
      rw [List.getElem_take]
      simp only [List.getD_eq_getElem?_getD, List.getElem?_eq_getElem (show i < ns.length by omega), Option.getD_some, leB, decide_eq_true_eq] at this
      exact this
    have hge : ∀ y ∈ ns.drop (ns.countP (leB x)), x ≤ y := fun y hy => by
      obtain ⟨i, hi, rfl⟩ := List.mem_iff_getElem.mp hy
      rw [List.length_drop] at hi
      have := b (ns.countP (leB x) + i) (by omega) (by omega)
      rw [List.getElem_drop]
      simp only [List.getD_eq_getElem?_getD, List.getElem?_eq_getElem (show ns.countP (leB x) + i < ns.length by omega), Option.getD_some, leB, decide_eq_false_iff_not] at this
      omega
    refine ⟨hp.sublist (List.take_sublist _ _), ?_, fun y hy z hz => ?_⟩
    · exact List.pairwise_cons.mpr ⟨hge, hp.sublist (List.drop_sublist _ _)⟩
    · rcases List.mem_cons.mp hz with rfl | hz
      · exact hle y hy
      · exact Int.le_trans (hle y hy) (hge z hz)
  · rcases List.mem_append.mp hy with hy | hy
    · exact hb y (List.mem_of_mem_take hy)
    · rcases List.mem_cons.mp hy with rfl | hy
      · exact hm
      · exact hb y (List.mem_of_mem_drop hy)
  · simp only [List.length_append, List.length_cons, List.length_take, List.length_drop, List.length_nil]
    omega
end Mine

end -- P2
section -- LH
open PySem PySem.W PyProof.Rows
namespace Mine
def lawBody : List Stmt := match PySem.Challenge.pw_rs0043_01.main.body.getLast? with
  | some (.FunctionDef _ _ b _ _ _ _ _ _ _) => b
  | _ => []
def lawScope : Scope := match PySem.Challenge.pw_rs0043_01.main.body.getLast? with
  | some (.FunctionDef _ _ _ _ _ _ s _ _ _) => s
  | _ => default
def lawRest : List Stmt := lawBody.drop 4
def ValEnd (h₀ : Heap) (L : Addr) (m : Str → Option Value) (s₀ : Shared) (all : List (Addr × Obj)) (P : Value → Prop) (y : Value) (s' : Shared) : Prop :=
  ∃ h' tk, s' = { s₀ with heap := h', toks := tk } ∧ Fr h₀ L h' m ∧ News h₀ L h' all ∧ P y
theorem ValEnd.intro {h₀ : Heap} {L : Addr} {m : Str → Option Value} {s₀ : Shared} {all : List (Addr × Obj)} {P : Value → Prop} {y : Value} {h' : Heap} {tk : Nat} (F : Fr h₀ L h' m) (N : News h₀ L h' all) (p : P y) :
    ValEnd h₀ L m s₀ all P y { s₀ with heap := h', toks := tk } := ⟨h', tk, rfl, F, N, p⟩
theorem cut_val {M : Model} {A : PySem.Around} {E : Value → Shared → Prop} {s : Shared} {tr : Sem Value} {h₀ : Heap} {L : Addr} {m : Str → Option Value} {news : List (Addr × Obj)} {Q : Value → Shared → Prop} (P : Value → Prop) (_F : Fr h₀ L s.heap m) (_N : News h₀ L s.heap news)
    (h : wpAny M A tr (ValEnd h₀ L m s news P) E s) (k : ∀ v h' tk, P v → Fr h₀ L h' m → News h₀ L h' news → Q v { s with heap := h', toks := tk }) : wpAny M A tr Q E s :=
  wpAny_mono h (fun v s' q => by obtain ⟨h', tk, rfl, F, N, p⟩ := q; exact k v h' tk p F N) fun _ _ x => x
def IsSide (v : Value) : Prop := ∃ sd t, v = .int sd t ∧ (sd = 1 ∨ sd = -1)
end Mine

end -- LH
section -- R4
open PySem PySem.W PyProof.Rows PySem.Calls
namespace Mine
section
variable {prog : Program} {w : World} {A : PySem.Around} {h₀ : Heap} {L : Addr} {m : Str → Option Value} {env : Env} {elt ct iter : PySem.Expr} {x : Str} {px pos : Pos} {scope : Scope} {cl : List (Str × Addr)} {s s₁ : Shared} {Q : Value → Shared → Prop} {E : Value → Shared → Prop} {news : List (Addr × Obj)}
/-- The source of a comprehension with one test: a range that goes down by ones. -/
def SrcD (prog : Program) (w : World) (A : PySem.Around) (h₀ : Heap) (L : Addr) (m : Str → Option Value) (env : Env) (ct elt : PySem.Expr) (x : Str) (scope : Scope) (cl : List (Str × Addr)) (Q : Value → Shared → Prop) (xv : Value) (s₁ : Shared) : Prop :=
  ∃ r a b t u v n news, xv = .ref r ∧ A.handled = none ∧ Fr h₀ L s₁.heap m ∧ News h₀ L s₁.heap news ∧ IsRange s₁.heap r a b (-1) t u v ∧ Builtin.Range.small a b (-1) = true ∧ Builtin.Range.rangeSize a b (-1) = ((n : Nat) : Int) ∧ n ≤ sizeLine ∧
    ∀ s₂ : Shared, (∃ h, s₂ = { s₁ with heap := h }) → LCt.CompRestT prog w A h₀ L m env ct elt x scope cl s₂ (fun _ => True) (fun i v => ∃ t, v = .int (a - (i : Int)) t) (LCg.FinE h₀ L m s₂ Q) n 0 [] news
theorem walks_down {I : Addr} (hh : A.handled = none) (a : Int) (n : Nat) : Walks prog w A I [I] [I] n (fun i v => ∃ t, v = .int (a - (i : Int)) t) (fun i h => IsRangeIter h I (a + (i : Nat) * (-1)) ((n : Int) - (i : Nat)) (-1)) :=
  let W := Walks.range (prog := prog) (w := w) hh I a (-1) n
  { sub := W.sub, frame := W.frame, done := W.done, self := W.self,
    item := fun i s Q E hi st hQ => W.item i s Q E hi st fun v h' tk hP => hQ v h' tk (by obtain ⟨t, rfl⟩ := hP; exact ⟨t, by congr 1; omega⟩) }
theorem comp_TD (F₀ : Fr h₀ L s.heap m) (hclos : closureFor scope env = pure cl) (hcell : ∀ y ∈ scope.names, y.2 ≠ .cell) (hkind : scope.kind = .function)
    (hnames : ∀ y ∈ scope.names, y.2 = .local → scope.names.lookup y.1 = some .local) (hx : scope.names.lookup x = some .local)
    (h : wpAny (model prog w) A (eval iter env) (SrcD prog w A h₀ L m env ct elt x scope cl Q) E s) (hs : ∀ x, foldedSetIterable iter env x = pure x := by intro _; rfl) :
    wpAny (model prog w) A (eval (.ListComp elt [⟨.Name x px, iter, [ct], 0⟩] scope pos) env) Q E s := by
  rw [eval_ListComp]
  refine wpAny_comprehension_free (use := none) rfl hs hclos hkind hnames (wpAny_mono h (fun xv s₁ h₁ => ?_) fun _ _ e => e)
  obtain ⟨r, a, b, t, u, v, n, news, rfl, hh, F, N, hr, hsm, hn, hsz, R⟩ := h₁
  refine wpAny_pyIter_range hr hsm ?_
  have up : ∀ (o : Obj) b o', s₁.heap.get? b = some o' → (s₁.heap.push o).get? b = some o' := fun o b o' e => Heap.get?_push_of_some _ e
  refine LCt.block_T (walks_down hh a n) hsz (fun i h st => ⟨_, st⟩) (fun i h h' o nw st e e' _ _ _ => ?_) hcell hkind hx ?_ (fun b hb => ?_) (F.keeps (up _)) (N.grown (up _)) (Nat.ne_of_lt F.ns.lt) (next_is_new F)
    (fun p hp => Nat.ne_of_lt (Heap.lt_size (N p hp).1)) trivial (R _ ⟨_, rfl⟩) ?_
  · have st' : h.get? _ = some _ := st
    show h'.get? _ = some _
    rw [e', ← e]
    exact st'
  · show IsRangeIter _ _ _ _ _
    rw [hn]
    simpa using Heap.get?_push_size _ rfl
  · rw [List.mem_singleton.mp hb]
    show s₁.heap.objs.size < (s₁.heap.push _).objs.size
    rw [Heap.size_push]
    exact Nat.lt_succ_self _
  · intro D C h tk m' ys news' F' N' o1 hn' hC₀ hD₀ hCL hDL hCD offC fin
    refine ⟨m', hn', fun h'' hs'' => fin D h'' tk (F'.change hs'' hCL hC₀) (fun p hp => ⟨hs''.extBut _ _ ?_ (N' p hp).1, (N' p hp).2⟩) o1⟩
    rcases List.mem_cons.mp hp with rfl | hp
    · exact Ne.symm hCD
    · exact offC p hp
theorem src_down {r : Addr} {a b : Int} {t u v : Tok} {n : Nat} (p : Int → Bool) (g : Int → Int) (ks : List Int) (hh : A.handled = none) (F : Fr h₀ L s₁.heap m) (N : News h₀ L s₁.heap news) (hr : IsRange s₁.heap r a b (-1) t u v) (hsm : Builtin.Range.small a b (-1) = true) (hn : Builtin.Range.rangeSize a b (-1) = ((n : Nat) : Int)) (hsz : n ≤ 100)
    (hks : ks.length = n) (hk : ∀ i, i < n → ks[i]? = some (a - (i : Int)))
    (turn : ∀ k t I oI C oC D m₂ ys h tk (E' : Value → Shared → Prop), k ∈ ks → LCg.NsObj oC m₂ → m₂ x = some (.int k t) → Fr h₀ L h m → News h₀ L h ((I, oI) :: (C, oC) :: (D, LCg.lst ys) :: news) →
      wpAny (model prog w) A (isTrue ct (compEnvC scope cl C env) (eval ct (compEnvC scope cl C env)))
        (TsEnd h₀ L m { s₁ with heap := h, toks := tk } ((I, oI) :: (C, oC) :: (D, LCg.lst ys) :: news) (p k) (fun s' => wpAny (model prog w) A (eval elt (compEnvC scope cl C env)) (ElEnd h₀ L m { s₁ with heap := h, toks := tk } ((I, oI) :: (C, oC) :: (D, LCg.lst ys) :: news) (g k)) E' s'))
        E' { s₁ with heap := h, toks := tk })
    (fin : NewInts h₀ L m s₁ news ((ks.filter p).map g) Q) : SrcD prog w A h₀ L m env ct elt x scope cl Q (.ref r) s₁ := by
  refine ⟨r, a, b, t, u, v, n, news, rfl, hh, F, N, hr, hsm, hn, by rw [sizeLine_eq]; omega, ?_⟩
  rintro s₂ ⟨g', rfl⟩
  refine rest_test (ks := ks) p g hks (fun i v hi hv => ?_) trivial turn fun ys hy D h tk F' N' o => fin ys D h tk hy F' N' o
  obtain ⟨t, e⟩ := hv
  exact ⟨_, t, hk i hi, e⟩
/-- The source of a comprehension whose list goes to a local name. -/
def SrcA (prog : Program) (w : World) (A : PySem.Around) (h₀ : Heap) (L : Addr) (m : Str → Option Value) (env : Env) (elt : PySem.Expr) (x : Str) (scope : Scope) (cl : List (Str × Addr)) (y : Str) (Q : Flow → Shared → Prop) (xv : Value) (s₁ : Shared) : Prop :=
  LCg.CompSrc prog w A h₀ L m env elt x scope cl (fun s₂ => LCg.FinA h₀ L m s₂ y Q) xv s₁
theorem assign_U {y : Str} {py spos : Pos} {Q : Flow → Shared → Prop} (F₀ : Fr h₀ L s.heap m) (hLe : env.locals = L)
    (hsw : swapsWith (.ListComp elt [⟨.Name x px, iter, [], 0⟩] scope pos) (some (.Name y py)) spos.line env = pure true)
    (hclos : closureFor scope env = pure cl) (hcell : ∀ z ∈ scope.names, z.2 ≠ .cell) (hkind : scope.kind = .function)
    (hnames : ∀ z ∈ scope.names, z.2 = .local → scope.names.lookup z.1 = some .local) (hx : scope.names.lookup x = some .local)
    (hy : env.kindOf y = some .local) (hp : (env.scope.kind == .class || (env.scope.kind == .module && env.locals != env.globals)) = false)
    (h : wpAny (model prog w) A (eval iter env) (SrcA prog w A h₀ L m env elt x scope cl y Q) E s)
    (hs : ∀ x, foldedSetIterable iter env x = pure x := by intro _; rfl) :
    wpAny (model prog w) A (exec (.Assign [.Name y py] (.ListComp elt [⟨.Name x px, iter, [], 0⟩] scope pos) spos) env) Q E s :=
  LCg.Assign_ListComp_U F₀ hLe hsw hclos hcell hkind hnames hx hy hp h hs
theorem src_listA {y : Str} {Q : Flow → Shared → Prop} {ax : Addr} {vs : List Value} {ns : List Int} {k : Nat} (g : Int → Int) (hh : A.handled = none) (F : Fr h₀ L s₁.heap m) (N : News h₀ L s₁.heap news) (hm : (ax, W.listOf vs.toArray k) ∈ news) (hI : IntsAre vs ns) (hsz : ns.length ≤ 100)
    (turn : ∀ k t I oI C oC D m₂ ys h tk (E' : Value → Shared → Prop), k ∈ ns → LCg.NsObj oC m₂ → m₂ x = some (.int k t) → Fr h₀ L h m → News h₀ L h ((I, oI) :: (C, oC) :: (D, LCg.lst ys) :: news) →
      wpAny (model prog w) A (eval elt (compEnvC scope cl C env)) (ElEnd h₀ L m { s₁ with heap := h, toks := tk } ((I, oI) :: (C, oC) :: (D, LCg.lst ys) :: news) (g k)) E' { s₁ with heap := h, toks := tk })
    (fin : ∀ ys D h tk, IntsAre ys (ns.map g) → Fr h₀ L h (fun z => if z = y then some (.ref D) else m z) → News h₀ L h ((D, W.listOf ys.toArray ys.length) :: news) → LCg.Off1 D news → Q .next { s₁ with heap := h, toks := tk }) :
    SrcA prog w A h₀ L m env elt x scope cl y Q (.ref ax) s₁ := by
  have hl := hI.length
  refine LCg.CompSrc.ledger hh F N hm (by rw [List.size_toArray, sizeLine_eq]; omega) fun g' => ?_
  refine rest_map (ks := ns) g (by rw [List.size_toArray]; exact hl.symm) (fun i v _ hv => ?_) (.inr ⟨_, hm, rfl, _, rfl⟩) turn fun ys hy D h tk F' N' o => fin ys D h tk hy F' N' o
  obtain ⟨k, t, e, hk⟩ := IntsAre.at hI i v (by simpa using hv)
  exact ⟨k, t, hk, e⟩
end
end Mine

end -- R4
section -- R5
open PySem PySem.W PyProof.Rows PySem.Calls
namespace Mine
/-- A mark at which the walk halts: an iterable is reached. -/
def IterAt (M : Model) (A : PySem.Around) (v : Value) (Q : Value → Shared → Prop) (E : Value → Shared → Prop) (s : Shared) : Prop := wpAny M A (pyIter v) Q E s
theorem iter_at {M : Model} {A : PySem.Around} {v : Value} {Q : Value → Shared → Prop} {E : Value → Shared → Prop} {s : Shared} (h : IterAt M A v Q E s) : wpAny M A (pyIter v) Q E s := h
/-- A turn's end. -/
def TurnEnd (h₀ : Heap) (L : Addr) (J : (Str → Option Value) → List (Addr × Obj) → Prop) (I : Addr) (own : List (Addr × Obj)) (s₁ s₂ : Shared) : Prop :=
  ∃ h' tk' m' nx', s₂ = { s₁ with heap := h', toks := tk' } ∧ Fr h₀ L h' m' ∧ News h₀ L h' (nx' ++ own) ∧ (∀ q ∈ nx', q.1 ≠ I) ∧ J m' nx'
def TurnPost (h₀ : Heap) (L : Addr) (J : (Str → Option Value) → List (Addr × Obj) → Prop) (I : Addr) (own : List (Addr × Obj)) (s₁ : Shared) (Q : Flow → Shared → Prop) (f : Flow) (s₂ : Shared) : Prop :=
  match f with
  | .ret v => Q (.ret v) s₂
  | .brk => Q .next s₂
  | _ => TurnEnd h₀ L J I own s₁ s₂
section
variable {prog : Program} {w : World} {A : PySem.Around} {E : Value → Shared → Prop} {s : Shared} {env : Env} {h₀ : Heap} {x : Str} {body : List Stmt} {Q : Flow → Shared → Prop} {news : List (Addr × Obj)}
/-- A loop over a range, by what holds between two turns; what is told may grow. -/
theorem loop_rng {r : Addr} {a₀ b₀ : Int} {t₀ u₀ v₀ : Tok} {n : Nat} {m₀ : Str → Option Value} (J : (Str → Option Value) → List (Addr × Obj) → Prop)
    (hh : A.handled = none) (hr : IsRange s.heap r a₀ b₀ 1 t₀ u₀ v₀) (hsmall : Builtin.Range.small a₀ b₀ 1 = true) (hn : Builtin.Range.rangeSize a₀ b₀ 1 = (n : Int)) (F : Fr h₀ env.locals s.heap m₀) (N : News h₀ env.locals s.heap news) (hj : J m₀ news)
    (turn : ∀ (i : Nat) t m₁ nx h tk I own, i < n → J m₁ nx → (∀ q ∈ own, q.1 = I) → (∀ q ∈ nx, q.1 ≠ I) → Fr h₀ env.locals h (fun y => if y = x then some (.int (a₀ + (i : Int)) t) else m₁ y) → News h₀ env.locals h (nx ++ own) →
      wpAny (model prog w) A (execs body env) (TurnPost h₀ env.locals J I own { s with heap := h, toks := tk } Q) E { s with heap := h, toks := tk })
    (done : ∀ m₁ nx h tk, J m₁ nx → Fr h₀ env.locals h m₁ → News h₀ env.locals h nx → Q .next { s with heap := h, toks := tk }) :
    wpAny (model prog w) A (pyIter (.ref r)) (fun it s₂ => LoopAtV prog w A h₀ env x body Q E it s₂) E s := by
  refine wpAny_pyIter_range hr hsmall ?_
  have W : Walks prog w A s.heap.objs.size [s.heap.objs.size] [s.heap.objs.size] n (fun i v => i < n ∧ ∃ t, v = .int (a₀ + i * 1) t)
      (fun i h => IsRangeIter h s.heap.objs.size (a₀ + (i : Nat) * 1) ((n : Int) - (i : Nat)) 1) := (Walks.range hh _ a₀ 1 n).bound
  refine ⟨_, _, _, n, _, _, m₀, news, fun _ m₁ nx => J m₁ nx, rfl, W, ?_, ?_, ?_, ?_, F.push _, fun p hp => ⟨Heap.get?_push_of_some _ (N p hp).1, (N p hp).2⟩, hj, ?_, ?_⟩
  · intro hm
    exact absurd F.ns.lt ((List.mem_singleton.mp hm) ▸ Nat.lt_irrefl _)
  · intro b hb
    rw [List.mem_singleton.mp hb]
    exact next_is_new F
  · intro p hp hI
    exact absurd (Heap.lt_size (N p hp).1) ((List.mem_singleton.mp hI) ▸ Nat.lt_irrefl _)
  · show IsRangeIter _ _ _ _ _
    rw [hn]
    simpa using Heap.get?_push_size _ rfl
  · rintro i v m₁ nx s₁ own ⟨h, tk, rfl⟩ hi ⟨_, t, rfl⟩ hJ hoff hown _ _ _ F₁ N₁
    have e1 : a₀ + (i : Int) * 1 = a₀ + (i : Int) := by omega
    rw [e1] at F₁
    refine wpAny_mono (turn i t m₁ nx h tk s.heap.objs.size own hi hJ (fun q hq => List.mem_singleton.mp (hown q hq)) (fun q hq e => hoff q hq (List.mem_singleton.mpr e)) F₁ (fun q hq => N₁ q ?_)) (fun f s₂ p => ?_) fun _ _ e => e
    · rcases List.mem_append.mp hq with hq | hq
      · exact List.mem_append_right _ hq
      · exact List.mem_append_left _ hq
    · have fin : TurnEnd h₀ env.locals J s.heap.objs.size own { s with heap := h, toks := tk } s₂ → LoopStepU h₀ env.locals [s.heap.objs.size] own (fun m₁ nx => J m₁ nx) { s with heap := h, toks := tk } .next s₂ := by
        rintro ⟨h', tk', m', nx', rfl, F', N', off', hJ'⟩
        refine LoopStepU.intro F' (fun q hq => N' q ?_) (fun q hq e => off' q hq (List.mem_singleton.mp e)) hJ'
        rcases List.mem_append.mp hq with hq | hq
        · exact List.mem_append_right _ hq
        · exact List.mem_append_left _ hq
      cases f with
      | ret v => exact .ret p
      | brk => exact .brk p
      | next => exact .next (fin p)
      | cont => exact .cont (fin p)
  · intro h' tk m' nx' F' N' _ hJ
    exact done m' nx' h' tk hJ F' N'
end
end Mine

end -- R5
section -- LT0
open PySem PySem.W PyProof.Rows
namespace Mine
def partOf (sd x y : Int) : Int := ((Builtin.Int.intBits (sd * Builtin.bitXor x y) : Nat) : Int) - 1
theorem getD_bd {ns : List Int} (hb : ∀ y ∈ ns, 0 ≤ y ∧ y < 128) (j : Nat) : 0 ≤ ns.getD j 0 ∧ ns.getD j 0 < 128 := by
  rw [List.getD_eq_getElem?_getD]
  cases e : ns[j]? with
  | none => decide
  | some v => exact hb v (List.mem_of_getElem? e)
def lawLoop : List Stmt := lawBody.drop 7
abbrev LedR (aSk aPg rowA L : Addr) (wSk wPg cv : List Value) (cc : Nat) (o5 o4 oRo oSi : Obj) : List (Addr × Obj) :=
  [(aSk, W.listOf wSk.toArray wSk.length), (aPg, W.listOf wPg.toArray wPg.length), (rowA, W.listOf cv.toArray cc), (L + 1 + 1 + 1 + 1 + 1, o5), (L + 1 + 1 + 1 + 1, o4), (L + 1 + 1, oRo), (L + 1, oSi)]
theorem fmod_bd (a : Int) {m : Int} (h : 0 < m) : 0 ≤ a.fmod m ∧ a.fmod m < m := by
  rw [Int.fmod_eq_emod_of_nonneg _ (Int.le_of_lt h)]
  exact ⟨Int.emod_nonneg _ (Int.ne_of_gt h), Int.emod_lt_of_pos _ h⟩
def lawTurn : List Stmt := match lawLoop with
  | .For _ _ [.For _ _ b _ _] _ _ :: _ => b
  | _ => []
def CallAt (M : Model) (A : PySem.Around) (f : Value) (vs : List Value) (Q : Value → Shared → Prop) (E : Value → Shared → Prop) (s : Shared) : Prop := wpAny M A (call f vs) Q E s
theorem call_at {M : Model} {A : PySem.Around} {f : Value} {vs : List Value} {Q : Value → Shared → Prop} {E : Value → Shared → Prop} {s : Shared} (h : CallAt M A f vs Q E s) : wpAny M A (call f vs) Q E s := h
theorem cnt_bd {ns : List Int} (p : Int → Bool) {lo hi : Int} (h0 : 0 ≤ lo) (h1 : lo ≤ hi) (h2 : hi ≤ ns.length) : 0 ≤ cnt ns p lo hi ∧ cnt ns p lo hi ≤ hi - lo := by
  have a1 : (cut ns lo.toNat hi.toNat).countP p ≤ (cut ns lo.toNat hi.toNat).length := List.countP_le_length
  have a2 := length_cut (ns := ns) (lo := lo.toNat) (hi := hi.toNat) (by omega)
  unfold cnt
  omega
end Mine

end -- LT0
section -- LU
local macro_rules | `(tactic| walk_at "mine blank") => `(tactic| skip)
theorem Mine.fresh_LU : True := by
  w_top off
  k_with_none
  exact True.intro
open PySem PySem.W PyProof.Rows
namespace Mine
local macro_rules | `(tactic| walk_at "callWith ref") => `(tactic| (k_here; k_dflt (refine' callWith_K ?k1 ?k2 ?_; (case k1 => k_asm); (case k2 => k_is); k_whole)))
local macro_rules | `(tactic| k_mem) => `(tactic| first | exact List.Mem.head _ | assumption | (refine' List.Mem.tail _ ?_; k_mem))
local macro_rules | `(tactic| walk_at "call builtin:len") => `(tactic| (k_here; (with_reducible show wpAny _ _ (call (Value.builtin "len") [Value.ref _]) _ _ _); (k_dflt (refine' len_mine ?k1 ?k2 ?k3 ?k4 ?_; (case k1 => k_asm); (case k2 => k_mem); (case k3 => assumption); (case k4 => omega); k_whole)); intro t' tk'; (try dsimp only)))
local macro_rules | `(tactic| walk_at "eval ListComp") => `(tactic| (k_here; (with_reducible show wpAny _ _ (eval (PySem.Expr.ListComp _ [PySem.Comprehension.mk _ _ [] _] _ _) _) _ _ _); k_dflt (refine comp_U (F₀ := by k_asm) (by with_unfolding_all rfl) (by decide) (by rfl) (by decide) (by rfl) ?_)))
local macro_rules | `(tactic| walk_at "eval ListComp") => `(tactic| (k_here; (with_reducible show wpAny _ _ (eval (PySem.Expr.ListComp _ [PySem.Comprehension.mk _ _ [_] _] _ _) _) _ _ _); k_dflt (refine comp_T (F₀ := by k_asm) (by with_unfolding_all rfl) (by decide) (by rfl) (by decide) (by rfl) ?_)))
local macro_rules | `(tactic| walk_at "exec For") => `(tactic| (k_here; (rename Fr _ _ _ _ => lF'); (with_unfolding_all refine' For_invVF lF' ?k1 ?k2 ?_; (case k1 => exact rfl); (case k2 => exact rfl); k_whole)))
local macro_rules | `(tactic| walk_at "exec For Name Call cons nil") => `(tactic| (k_here; (rename Fr _ _ _ _ => lF'); (with_unfolding_all refine' For_invVF lF' ?k1 ?k2 ?_; (case k1 => exact rfl); (case k2 => exact rfl); k_whole)))
local macro_rules | `(tactic| walk_at "call ref") => `(tactic| refine call_at ?_)
local macro_rules | `(tactic| walk_at "pyIter ref") => `(tactic| refine iter_at ?_)
local macro_rules | `(tactic| k_all) => `(tactic| assumption)
def lawTail : List Stmt := lawTurn.drop 6
def cutI (cn : List Int) (i hi : Int) : List Int := List.take (min hi.toNat cn.length - i.toNat) (List.drop i.toNat cn)
theorem cutI_len (cn : List Int) (i hi : Int) : (cutI cn i hi).length ≤ cn.length := by
  unfold cutI
  simp only [List.length_take, List.length_drop]
  omega
theorem perm0 {x r tl : List (Addr × Obj)} {a b : Addr × Obj} : ∀ q ∈ x ++ (a :: b :: (r ++ tl)), q ∈ a :: b :: (r ++ (x ++ tl)) := by
  intro q hq
  simp only [List.mem_append, List.mem_cons] at hq ⊢
  rcases hq with h | h | h | h | h <;> simp [h]
theorem perm1 {x r tl : List (Addr × Obj)} {a b : Addr × Obj} : ∀ q ∈ b :: (r ++ (x ++ tl)), q ∈ x ++ (a :: b :: (r ++ tl)) := by
  intro q hq
  simp only [List.mem_append, List.mem_cons] at hq ⊢
  rcases hq with h | h | h | h <;> simp [h]
theorem law_tail {w : World} {mean : ExcName → Option Value} {mg mb : Str → Option Value} {p : Program} {loose : List Str} {fa L rowA aSk aPg aT : Addr} {cd : Value} {h₀ : Heap} {s : Shared} {Q : Flow → Shared → Prop} {E1 : Value → Shared → Prop} {cv wSk wPg : List Value} {cn sk ps : List Int} {cc : Nat} {o5 o4 oRo oSi : Obj} {sd mask : Int} {i j hi q M cL cR : Int} {t9 tm ti tj tq tM th tc1 tc2 : Tok} {vo vb : Value} {m : Str → Option Value} {tb : Option (Addr × Obj)} {tl : List (Addr × Obj)}
    (B : Below callerA h₀ [] h₀) (F : Fr h₀ L s.heap (fun y => if y = Str.ofString "fall" then some (.int M tM) else if y = Str.ofString "beside" then some vb else if y = Str.ofString "told" then some (.ref aT) else if y = Str.ofString "own" then some vo else if y = Str.ofString "high" then some (.int hi th) else if y = Str.ofString "half" then some (.int j tj) else if y = Str.ofString "low" then some (.int i ti) else if y = Str.ofString "mask" then some (.int mask tm) else if y = Str.ofString "sketches" then some (.ref aSk) else m y)) (X : (hd.heap_39 w.params).In h₀) (T : Top p loose mean mg mb h₀) (CH : CodeHd h₀ 68 64)
    (N : News h₀ L s.heap ((aT, W.listOf #[.int (i + cL) tc1, .int (i + cR) tc2] 0) :: (LedR aSk aPg rowA L wSk wPg cv cc o5 o4 oRo oSi ++ (TabIn tb ++ tl)))) (ok : TabOk lamQ tb) (off : TabOff tb ((aT, W.listOf #[.int (i + cL) tc1, .int (i + cR) tc2] 0) :: (LedR aSk aPg rowA L wSk wPg cv cc o5 o4 oRo oSi ++ tl)))
    (d5 : o5.data = .cell (some (.int q tq))) (d4 : o4.data = .cell (some (.ref aPg))) (dRo : oRo.data = .cell (some (.ref rowA))) (dSi : oSi.data = .cell (some (.int sd t9)))
    (hf : IntsAre cv cn) (iSk : IntsAre wSk sk) (iPg : IntsAre wPg ps) (hskl : sk.length = cn.length) (husk : Up sk) (hpsb : ∀ q ∈ ps, 0 ≤ q ∧ q ≤ 6) (hl5 : cn.length ≤ 5) (hi0 : 0 ≤ i) (hi1 : i < hi) (hi2 : hi ≤ cn.length) (hq0 : 0 ≤ q) (hq1 : q < 128)
    (hM1 : M + 1 = 0 + cnt (rangeKs 0 8) (fun k => !keyB (cutI cn i hi) q k) 0 8) (hM2 : M < 0 → i + cL = i + ((cutI cn i hi).filter (ltB q)).length ∧ i + cR = i + ((cutI cn i hi).filter (leB q)).length)
    (hM3 : ¬ M < 0 → M ≤ 6 ∧ edge sk ps q M i hi = i + ((cutI cn i hi).filter (ltB q)).length ∧ edge sk ps q M i hi = i + ((cutI cn i hi).filter (leB q)).length)
    (hnext : ∀ o5' v5' tb' m' h' tk', o5'.data = .cell v5' → TabOk lamQ tb' → TabOff tb' (LedR aSk aPg rowA L wSk wPg cv cc o5' o4 oRo oSi ++ tl) → m' (Str.ofString "low") = some (.int i ti) → m' (Str.ofString "mask") = some (.int mask tm) → m' (Str.ofString "sketches") = some (.ref aSk) → Fr h₀ L h' m' →
      News h₀ L h' (LedR aSk aPg rowA L wSk wPg cv cc o5' o4 oRo oSi ++ (TabIn tb' ++ tl)) → Q .next { s with heap := h', toks := tk' }) :
    wpAny (model PySem.Challenge.rw_rs0043_01.row.prog w) (callerA.deeper (envOfC (Str.ofString "law") lawScope L fa cd)) (execs lawTail (envOfC (Str.ofString "law") lawScope L fa cd)) Q
      (fun e s' => wpAny (model PySem.Challenge.rw_rs0043_01.row.prog w) (callerA.deeper (envOfC (Str.ofString "law") lawScope L fa cd)) (leaving (envOfC (Str.ofString "law") lawScope L fa cd) e) (fun _ s'' => E1 e s'') (fun e' s'' => E1 e' s'') s') s := by
  revert X
  k_fill
  intro X
  dsimp only [List.cons_append, List.nil_append] at N
  dsimp only [lawTail, lawTurn, lawLoop, lawBody, lawScope, PySem.Challenge.pw_rs0043_01, List.getLast?, List.getLast, List.drop]
  k_with_none
  k_steps
  rename_i Ds ws hs1 Fs Ns hIs hC hLs lq
  change IntsAre ws (cutI cn i hi) at hIs
  unfold CallAt
  have off' : TabOff tb ((Ds, W.listOf ws.toArray 0) :: (aT, W.listOf #[.int (i + cL) tc1, .int (i + cR) tc2] 0) :: (LedR aSk aPg rowA L wSk wPg cv cc o5 o4 oRo oSi ++ tl)) := by
    intro a ha b hb e
    rcases List.mem_cons.mp ha with rfl | ha
    · exact absurd (allLt_mem lq.2.2.2.2.2.2.2.2 b (List.mem_append_left _ hb)) (by rw [e]; exact Nat.lt_irrefl _)
    · exact off a ha b hb e
  k_dflt (refine' fewest _ _ _ _ _ _ ok off' ?e1 hIs ?e2 hq0 hq1 _ _ _ _ _ _ _ _ _ _ _ _ _ _ _ _ _ _ _ ?k1 ?k2 ?k3 ?k4 ?k5 CH ?k6 ?k7 ?k8 ?_; (case k1 => k_asm); (case k2 => k_asm); (case k3 => k_asm); (case k4 => exact kst_newsOf Ns perm0); (case k5 => k_asm); (case k6 => first | exact rfl | assumption); (case k7 => ktr_room); (case k8 => ktr_units); (case e1 => exact .head _); (case e2 => have := cutI_len cn i hi; omega); k_whole)
  intro tb2 t2 h2 tk2 ok2 off2 F2 N2
  try dsimp only
  rw [← hM1]
  have N3 : News h₀ L h2 ((aT, W.listOf #[.int (i + cL) tc1, .int (i + cR) tc2] 0) :: (LedR aSk aPg rowA L wSk wPg cv cc o5 o4 oRo oSi ++ (TabIn tb2 ++ tl))) := kst_newsOf N2 perm1
  have off3 : TabOff tb2 (LedR aSk aPg rowA L wSk wPg cv cc o5 o4 oRo oSi ++ tl) := fun a ha => off2 a (.tail _ (.tail _ ha))
  dsimp only [List.cons_append, List.nil_append] at N3
  clear N2 Ns off off' off2 lq hLs hC hIs Fs
  by_cases hneg : M < 0
  · obtain ⟨e1, e2⟩ := hM2 hneg
    clear hM2 hM3
    k_steps
    · exact absurd rfl (by assumption)
    rename (IntsAre _ (List.take _ _)) => hIs2
    change IntsAre _ (cutI cn i hi) at hIs2
    unfold CallAt
    k_dflt (refine' TellL.use (counted _ _ _ _ _ _ _ _ ?e1 hIs2 ?e2) ?k1 ?k2 ?k3 ?k4 ?k5 ?k6 ?k7 ?k8 ?_; (case k1 => k_asm); (case k2 => k_asm); (case k3 => k_asm); (case k4 => k_asm); (case k5 => k_asm); (case k6 => first | exact rfl | assumption); (case k7 => ktr_room); (case k8 => ktr_units); (case e1 => k_mem); (case e2 => have := cutI_len cn i hi; omega); k_whole)
    intro D3 ws3 h3 tk3 hI3 F3 N3' lt3
    try dsimp only
    rw [← e1, ← e2] at hI3
    k_steps
    exact hnext o5 _ tb2 _ _ _ d5 ok2 off3 rfl rfl rfl (by k_asm) (kst_newsOf N3' fun q hq => .tail _ (.tail _ (.tail _ hq)))
  · obtain ⟨hM6, e1, e2⟩ := hM3 hneg
    clear hM2 hM3
    k_steps
    · exact absurd rfl (by assumption)
    unfold CallAt
    k_dflt (refine' Tell.use (edge_ aSk aPg wSk wPg wSk.length wPg.length sk ps _ _ _ _ _ _ _ _ ?e1 ?e2 iSk iPg ?e3 ?e4 ?e5 ?e6 husk hpsb hq0 hq1 ?e7 hM6) ?k1 ?k2 ?k3 ?k4 ?k5 ?k6 ?k7 ?k8 ?_; (case k1 => k_asm); (case k2 => k_asm); (case k3 => k_asm); (case k4 => k_asm); (case k5 => k_asm); (case k6 => first | exact rfl | assumption); (case k7 => ktr_room); (case k8 => ktr_units); (case e1 => k_mem); (case e2 => k_mem); (case e3 => omega); (case e4 => omega); (case e5 => omega); (case e6 => omega); (case e7 => omega); k_whole)
    intro t4 h4 tk4 F4 N4
    try dsimp only
    generalize hed : edge sk ps q M i hi = ed at e1 e2 ⊢
    k_steps
    rename (IntsAre _ (List.take _ _)) => hIs2
    change IntsAre _ (cutI cn i hi) at hIs2
    unfold CallAt
    k_dflt (refine' TellL.use (counted _ _ _ _ _ _ _ _ ?e1 hIs2 ?e2) ?k1 ?k2 ?k3 ?k4 ?k5 ?k6 ?k7 ?k8 ?_; (case k1 => k_asm); (case k2 => k_asm); (case k3 => k_asm); (case k4 => k_asm); (case k5 => k_asm); (case k6 => first | exact rfl | assumption); (case k7 => ktr_room); (case k8 => ktr_units); (case e1 => k_mem); (case e2 => have := cutI_len cn i hi; omega); k_whole)
    intro D3 ws3 h3 tk3 hI3 F3 N3' lt3
    try dsimp only
    rw [← e1, ← e2] at hI3
    k_steps
    · exact hnext o5 _ tb2 _ _ _ d5 ok2 off3 rfl rfl rfl (by k_asm) (kst_newsOf N3' fun q hq => .tail _ (.tail _ (.tail _ (.tail _ (.tail _ hq)))))
    · rename (¬ _ = [ed, ed]) => hne
      exact absurd rfl hne
end Mine

end -- LU
section -- P3
open PySem PySem.W PyProof.Rows
namespace Mine
theorem pow_pos2 (k : Nat) : (0 : Int) < 2 ^ k := Int.pow_pos (by decide)
theorem fdiv_pow (x : Int) (k : Nat) : x.fdiv (2 ^ k) = x / 2 ^ k := Int.fdiv_eq_ediv_of_nonneg _ (Int.le_of_lt (pow_pos2 k))
theorem half_bd {k : Nat} {m : Int} (h0 : 0 ≤ m) (h1 : m < 128) : 0 ≤ m.fdiv (2 ^ k) ∧ m.fdiv (2 ^ k) < 128 := by
  rw [fdiv_pow]
  refine ⟨Int.ediv_nonneg h0 (Int.le_of_lt (pow_pos2 k)), Int.lt_of_le_of_lt (Int.ediv_le_self _ h0) h1⟩
theorem div_succ (x : Int) (k : Nat) : x / 2 ^ (k + 1) = x / 2 ^ k / 2 := by
  rw [Int.pow_succ, Int.ediv_ediv_of_nonneg (Int.le_of_lt (pow_pos2 k))]
/-- Where two numbers part, as one number. -/
def apart (a b : Nat) : Nat := a + b - 2 * (a &&& b)
theorem and_le2 (a b : Nat) : (a &&& b) ≤ a ∧ (a &&& b) ≤ b := ⟨Nat.and_le_left, Nat.and_le_right⟩
theorem and_split (a b : Nat) : (a &&& b) = 2 * (a / 2 &&& b / 2) + (if a % 2 = 1 ∧ b % 2 = 1 then 1 else 0) := by
  have h1 : (a &&& b) / 2 = a / 2 &&& b / 2 := Nat.and_div_two
  have h2 : (a &&& b) % 2 = if a % 2 = 1 ∧ b % 2 = 1 then 1 else 0 := by
    have hq := @Nat.and_mod_two_eq_one a b
    split
    · rename_i h; exact hq.mpr h
    · rename_i h
      rcases Nat.mod_two_eq_zero_or_one (a &&& b) with hc | hc
      · exact hc
      · exact absurd (hq.mp hc) h
  rw [← h1, ← h2]
  omega
theorem apart_half (a b : Nat) : apart a b / 2 = apart (a / 2) (b / 2) := by
  have h := and_split a b
  have h1 := and_le2 (a / 2) (b / 2)
  unfold apart
  rw [h]
  split <;> omega
theorem apart_div (a b k : Nat) : apart a b / 2 ^ k = apart (a / 2 ^ k) (b / 2 ^ k) := by
  induction k with
  | zero => simp
  | succ k ih => rw [Nat.pow_succ, ← Nat.div_div_eq_div_mul, ← Nat.div_div_eq_div_mul, ← Nat.div_div_eq_div_mul, ih, apart_half]
theorem apart_zero (a b : Nat) : apart a b = 0 ↔ a = b := by
  have h1 := and_le2 a b
  unfold apart
  constructor
  · intro h; omega
  · rintro rfl; rw [Nat.and_self]; omega
theorem apart_lt (a b k : Nat) : apart a b < 2 ^ k ↔ a / 2 ^ k = b / 2 ^ k := by
  rw [← apart_zero, ← apart_div]
  exact (Nat.div_eq_zero_iff_lt (Nat.pow_pos (by decide))).symm
theorem xor_nat (a b : Nat) : Builtin.bitXor (a : Int) (b : Int) = (apart a b : Int) := by
  rw [bitXor_and]
  have h1 := and_le2 a b
  have h2 : Builtin.bitAnd (a : Int) (b : Int) = ((a &&& b : Nat) : Int) := by
    have h0 : (0 : Int) ≤ (a : Int) := Int.natCast_nonneg _
    have h0' : (0 : Int) ≤ (b : Int) := Int.natCast_nonneg _
    unfold Builtin.bitAnd
    simp [h0, h0']
  rw [h2]
  unfold apart
  omega
theorem xor_bd {a b : Int} (ha : 0 ≤ a ∧ a < 128) (hb : 0 ≤ b ∧ b < 128) : 0 ≤ Builtin.bitXor a b ∧ Builtin.bitXor a b < 128 := by
  obtain ⟨m, rfl⟩ := Int.eq_ofNat_of_zero_le ha.1
  obtain ⟨n, rfl⟩ := Int.eq_ofNat_of_zero_le hb.1
  rw [xor_nat]
  have := (apart_lt m n 7).mpr (by rw [Nat.div_eq_of_lt (by omega), Nat.div_eq_of_lt (by omega)])
  omega
/-- The parting's meaning: alike, when k figures are cut off, just if they part below k. -/
theorem part_lt {sd x y : Int} (hs : sd = 1 ∨ sd = -1) (hx : 0 ≤ x) (hy : 0 ≤ y) (k : Nat) : partOf sd x y < k ↔ x / 2 ^ k = y / 2 ^ k := by
  obtain ⟨m, rfl⟩ := Int.eq_ofNat_of_zero_le hx
  obtain ⟨n, rfl⟩ := Int.eq_ofNat_of_zero_le hy
  have e : (sd * Builtin.bitXor (m : Int) (n : Int)).natAbs = apart m n := by
    rw [xor_nat]
    rcases hs with rfl | rfl
    · simp
    · simp
  have q : ((m : Int) / 2 ^ k = (n : Int) / 2 ^ k) ↔ m / 2 ^ k = n / 2 ^ k := by
    have c : ((2 : Int) ^ k) = ((2 ^ k : Nat) : Int) := by simp
    rw [c, ← Int.natCast_ediv, ← Int.natCast_ediv]
    omega
  rw [q, ← apart_lt]
  unfold partOf Builtin.Int.intBits
  rw [e]
  by_cases hz : apart m n = 0
  · have hz' : sd * Builtin.bitXor (m : Int) (n : Int) = 0 := Int.natAbs_eq_zero.mp (e.trans hz)
    rw [hz', hz]
    have := Nat.pow_pos (n := k) (show 0 < 2 by decide)
    simp
    omega
  · have hz' : sd * Builtin.bitXor (m : Int) (n : Int) ≠ 0 := fun h => hz (by rw [← e, h]; rfl)
    rw [if_neg (by simpa using hz')]
    have := Nat.log2_lt (k := k) hz
    omega
end Mine

end -- P3
section -- P4
open PySem PySem.W PyProof.Rows
namespace Mine
/-- The figure at place p. -/
def fig (x : Int) (p : Int) : Int := (x.fdiv (2 ^ p.toNat)).fmod 2
def skF (x : Int) (ps : List Int) (a : Int) : Int := ps.foldl (fun told p => 2 * told + fig x p) a
theorem sketch_eq (x : Int) (ps : List Int) : sketch x ps = skF x ps 0 := rfl
theorem fig_bd (x p : Int) : 0 ≤ fig x p ∧ fig x p ≤ 1 := fmod2 _
theorem fig_eq (x p : Int) : fig x p = x / 2 ^ p.toNat % 2 := by
  unfold fig
  rw [fdiv_pow, Int.fmod_eq_emod_of_nonneg _ (by decide)]
theorem skF_le {x y : Int} : ∀ {ps : List Int} {a b : Int}, (∀ p ∈ ps, fig x p ≤ fig y p) → a ≤ b → skF x ps a ≤ skF y ps b
  | [], _, _, _, h => h
  | p :: r, a, b, h1, h => by
    show skF x r (2 * a + fig x p) ≤ skF y r (2 * b + fig y p)
    have := h1 p (.head _)
    exact skF_le (fun q hq => h1 q (.tail _ hq)) (by omega)
theorem skF_lt {x y : Int} : ∀ {ps : List Int} {a b : Int}, a < b → skF x ps a < skF y ps b
  | [], _, _, h => h
  | p :: r, a, b, h => by
    show skF x r (2 * a + fig x p) < skF y r (2 * b + fig y p)
    have h1 := fig_bd x p
    have h2 := fig_bd y p
    exact skF_lt (by omega)
theorem skF_at {x y p : Int} : ∀ {ps : List Int} {a : Int}, ps.Pairwise (· > ·) → p ∈ ps → (∀ q ∈ ps, p < q → fig x q = fig y q) → fig x p < fig y p → skF x ps a < skF y ps a
  | [], _, _, h, _, _ => nomatch h
  | q :: r, a, hd, hp, he, hl => by
    show skF x r (2 * a + fig x q) < skF y r (2 * a + fig y q)
    rcases List.mem_cons.mp hp with rfl | hp
    · exact skF_lt (by omega)
    · have hq : p < q := (List.pairwise_cons.mp hd).1 p hp
      rw [he q (.head _) hq]
      exact skF_at (List.pairwise_cons.mp hd).2 hp (fun z hz => he z (.tail _ hz)) hl
theorem alike_up {x y : Int} {k n : Nat} (h : k ≤ n) (e : x / 2 ^ k = y / 2 ^ k) : x / 2 ^ n = y / 2 ^ n := by
  have q : ∀ v : Int, v / 2 ^ n = v / 2 ^ k / 2 ^ (n - k) := fun v => by
    rw [Int.ediv_ediv_of_nonneg (Int.le_of_lt (pow_pos2 k)), ← Int.pow_add]
    congr 2
    omega
  rw [q, q, e]
theorem div_mono {x y : Int} (h : x ≤ y) (k : Nat) : x / 2 ^ k ≤ y / 2 ^ k := Int.ediv_le_ediv (pow_pos2 k) h
/-- Two numbers that part at a place of ps stand in their sketches as they stand. -/
theorem sketch_lt {x y : Int} {ps : List Int} {p : Nat} (hd : ps.Pairwise (· > ·)) (h0 : ∀ q ∈ ps, 0 ≤ q) (hp : (p : Int) ∈ ps) (e1 : x / 2 ^ (p + 1) = y / 2 ^ (p + 1)) (e2 : x / 2 ^ p ≠ y / 2 ^ p) (hxy : x < y) : sketch x ps < sketch y ps := by
  rw [sketch_eq, sketch_eq]
  refine skF_at hd hp (fun q hq hpq => ?_) ?_
  · rw [fig_eq, fig_eq]
    have := alike_up (k := p + 1) (n := q.toNat) (by omega) e1
    rw [this]
  · rw [fig_eq, fig_eq, Int.toNat_natCast]
    have h1 := div_mono (Int.le_of_lt hxy) p
    rw [div_succ, div_succ] at e1
    omega
theorem sketch_le {x y : Int} {ps : List Int} (h : ∀ p ∈ ps, fig x p ≤ fig y p) : sketch x ps ≤ sketch y ps := by
  rw [sketch_eq, sketch_eq]
  exact skF_le h (Int.le_refl _)
end Mine

end -- P4
section -- P5
open PySem PySem.W PyProof.Rows
namespace Mine
section
variable {sd : Int} {cn ps : List Int}
/-- y parts from q at k, a place of ps; z is like q from k on: then y stands to z as to q, and their sketches alike. -/
theorem out_of {y q z : Int} {k : Nat} (hd : ps.Pairwise (· > ·)) (h0 : ∀ p ∈ ps, 0 ≤ p) (hk : (k : Int) ∈ ps) (e1 : y / 2 ^ (k + 1) = q / 2 ^ (k + 1)) (e2 : y / 2 ^ k ≠ q / 2 ^ k) (ez : z / 2 ^ k = q / 2 ^ k) :
    (y < z ↔ y < q) ∧ (y < z → sketch y ps < sketch z ps) ∧ (z < y → sketch z ps < sketch y ps) ∧ y ≠ z := by
  have e1' : y / 2 ^ (k + 1) = z / 2 ^ (k + 1) := e1.trans (alike_up (Nat.le_succ k) ez).symm
  have e2' : y / 2 ^ k ≠ z / 2 ^ k := fun h => e2 (h.trans ez)
  refine ⟨⟨fun h => ?_, fun h => ?_⟩, fun h => sketch_lt hd h0 hk e1' e2' h, fun h => sketch_lt hd h0 hk e1'.symm (Ne.symm e2') h, fun h => e2' (by rw [h])⟩
  · rcases Int.lt_or_le y q with g | g
    · exact g
    · have h1 := div_mono (Int.le_of_lt h) k
      have h2 := div_mono g k
      omega
  · rcases Int.lt_or_le y z with g | g
    · exact g
    · have h1 := div_mono (Int.le_of_lt h) k
      have h2 := div_mono g k
      omega
/-- Of any stretch of a row whose partings are all in ps: one that parts from q above where g parts from it, does so at a place of ps. -/
theorem part_in {y g q : Int} (hs : sd = 1 ∨ sd = -1) (hB : ∀ x ∈ cn, ∀ z ∈ cn, x ≠ z → partOf sd x z ∈ ps) (hb : ∀ x ∈ cn, 0 ≤ x) (hq : 0 ≤ q) (hy : y ∈ cn) (hg : g ∈ cn) (hp : partOf sd g q < partOf sd y q) (h0 : -1 ≤ partOf sd g q) :
    ∃ k : Nat, partOf sd y q = k ∧ (k : Int) ∈ ps ∧ y / 2 ^ (k + 1) = q / 2 ^ (k + 1) ∧ y / 2 ^ k ≠ q / 2 ^ k := by
  obtain ⟨k, hk⟩ := Int.eq_ofNat_of_zero_le (show 0 ≤ partOf sd y q by omega)
  have a1 := part_lt hs (hb y hy) hq (k + 1)
  have a2 := part_lt hs (hb y hy) hq k
  have a3 := part_lt hs (hb g hg) hq k
  have e1 := a1.mp (by rw [hk]; omega)
  have e2 : ¬ y / 2 ^ k = q / 2 ^ k := fun h => by have := a2.mpr h; omega
  have e3 := a3.mp (by omega)
  have e4 : ¬ y / 2 ^ k = g / 2 ^ k := fun h => e2 (h.trans e3)
  have e5 : y / 2 ^ (k + 1) = g / 2 ^ (k + 1) := e1.trans (alike_up (Nat.le_succ k) e3).symm
  refine ⟨k, hk, ?_, e1, e2⟩
  have b1 := (part_lt hs (hb y hy) (hb g hg) (k + 1)).mpr e5
  have b2 : ¬ partOf sd y g < k := fun h => e4 ((part_lt hs (hb y hy) (hb g hg) k).mp h)
  have : partOf sd y g = (k : Int) := by omega
  rw [← this]
  exact hB y hy g hg fun h => e4 (by rw [h])
end
theorem part_ge {sd x y : Int} : -1 ≤ partOf sd x y := by
  unfold partOf
  omega
theorem part_le6 {sd x y : Int} (hs : sd = 1 ∨ sd = -1) (hx : 0 ≤ x ∧ x < 128) (hy : 0 ≤ y ∧ y < 128) : partOf sd x y ≤ 6 := by
  have := (part_lt hs hx.1 hy.1 7).mpr (by rw [Int.ediv_eq_zero_of_lt hx.1 (by simpa using hx.2), Int.ediv_eq_zero_of_lt hy.1 (by simpa using hy.2)])
  omega
theorem part_neg {sd x y : Int} (hs : sd = 1 ∨ sd = -1) (hx : 0 ≤ x) (hy : 0 ≤ y) (h : partOf sd x y < 0) : x = y := by
  have := (part_lt hs hx hy 0).mp (by simpa using h)
  simpa using this
theorem exists_min {α : Type} (f : α → Int) : ∀ {l : List α}, l ≠ [] → ∃ g ∈ l, ∀ y ∈ l, f g ≤ f y
  | [], h => absurd rfl h
  | [a], _ => ⟨a, .head _, fun y hy => by rw [List.mem_singleton.mp hy]; exact Int.le_refl _⟩
  | a :: b :: r, _ => by
    obtain ⟨g, hg, hm⟩ := exists_min f (l := b :: r) (by simp)
    rcases Int.le_total (f a) (f g) with h | h
    · refine ⟨a, .head _, fun y hy => ?_⟩
      rcases List.mem_cons.mp hy with rfl | hy
      · exact Int.le_refl _
      · exact Int.le_trans h (hm y hy)
    · refine ⟨g, .tail _ hg, fun y hy => ?_⟩
      rcases List.mem_cons.mp hy with rfl | hy
      · exact h
      · exact hm y hy
end Mine

end -- P5
section -- P6
open PySem PySem.W PyProof.Rows
namespace Mine
theorem part_comm {sd x y : Int} (hs : sd = 1 ∨ sd = -1) (hx : 0 ≤ x) (hy : 0 ≤ y) : partOf sd x y = partOf sd y x := by
  have key : ∀ {a b : Int}, 0 ≤ a → 0 ≤ b → partOf sd a b ≤ partOf sd b a := fun {a b} ha hb => by
    have h1 := part_ge (sd := sd) (x := b) (y := a)
    have h2 := part_lt hs hb ha (partOf sd b a + 1).toNat
    have h3 := part_lt hs ha hb (partOf sd b a + 1).toNat
    have h4 := h3.mpr (h2.mp (by omega)).symm
    omega
  exact Int.le_antisymm (key hx hy) (key hy hx)
/-- Where a row goes from one value to another, two neighbours do. -/
theorem step_at {f : Nat → Int} {a : Nat} : ∀ {n : Nat}, f a ≠ f (a + n) → ∃ m, a ≤ m ∧ m < a + n ∧ f m ≠ f (m + 1)
  | 0, h => absurd rfl h
  | n + 1, h => by
    by_cases e : f a = f (a + n)
    · exact ⟨a + n, by omega, by omega, fun q => h (e.trans q)⟩
    · obtain ⟨m, h1, h2, h3⟩ := step_at e
      exact ⟨m, h1, by omega, h3⟩
theorem mem_getD {ns : List Int} {y : Int} (h : y ∈ ns) : ∃ i, i < ns.length ∧ ns.getD i 0 = y := by
  obtain ⟨i, hi, e⟩ := List.mem_iff_getElem.mp h
  exact ⟨i, hi, by rw [List.getD_eq_getElem?_getD, List.getElem?_eq_getElem hi]; exact e⟩
theorem getD_mem' {ns : List Int} {i : Nat} (h : i < ns.length) : ns.getD i 0 ∈ ns := by
  rw [List.getD_eq_getElem?_getD, List.getElem?_eq_getElem h]
  exact List.getElem_mem h
def ptOf (sd : Int) (cn : List Int) : List Int := (rangeKs 1 ((cn.length : Int) - 1).toNat).map (fun k => partOf sd (cn.getD (k - 1).toNat 0) (cn.getD k.toNat 0))
def psOf (sd : Int) (cn : List Int) : List Int := List.filter (fun k : Int => (ptOf sd cn).any fun z => z == k) [6, 5, 4, 3, 2, 1, 0]
theorem ps_desc (sd : Int) (cn : List Int) : (psOf sd cn).Pairwise (· > ·) := List.Pairwise.filter _ (by decide)
theorem ps_nonneg {sd : Int} {cn : List Int} {p : Int} (h : p ∈ psOf sd cn) : 0 ≤ p := by
  have := (List.mem_filter.mp h).1
  simp only [List.mem_cons, List.not_mem_nil, or_false] at this
  omega
theorem branch_lt {sd : Int} {cn : List Int} (hs : sd = 1 ∨ sd = -1) (hu : Up cn) (hb : ∀ y ∈ cn, 0 ≤ y ∧ y < 128) {a b : Nat} (hab : a < b) (hbl : b < cn.length) (hne : cn.getD a 0 ≠ cn.getD b 0) : partOf sd (cn.getD a 0) (cn.getD b 0) ∈ psOf sd cn := by
  have bd : ∀ i, i < cn.length → 0 ≤ cn.getD i 0 ∧ cn.getD i 0 < 128 := fun i hi => hb _ (getD_mem' hi)
  have ha' := bd a (by omega)
  have hb' := bd b hbl
  have hp0 : 0 ≤ partOf sd (cn.getD a 0) (cn.getD b 0) := by
    rcases Int.lt_or_le (partOf sd (cn.getD a 0) (cn.getD b 0)) 0 with h | h
    · exact absurd (part_neg hs ha'.1 hb'.1 h) hne
    · exact h
  obtain ⟨k, hk⟩ := Int.eq_ofNat_of_zero_le hp0
  have h6 := part_le6 hs ha' hb'
  have e1 := (part_lt hs ha'.1 hb'.1 (k + 1)).mp (by omega)
  have e2 : cn.getD a 0 / 2 ^ k ≠ cn.getD b 0 / 2 ^ k := fun h => by
    have := (part_lt hs ha'.1 hb'.1 k).mpr h
    omega
  obtain ⟨m, m1, m2, m3⟩ := step_at (f := fun i => cn.getD i 0 / 2 ^ k) (a := a) (n := b - a) (by rw [show a + (b - a) = b by omega]; exact e2)
  have l1 := div_mono (hu a m m1 (by omega)) (k + 1)
  have l2 := div_mono (hu m (m + 1) (by omega) (by omega)) (k + 1)
  have l3 := div_mono (hu (m + 1) b (by omega) hbl) (k + 1)
  have hm' := bd m (by omega)
  have hm1' := bd (m + 1) (by omega)
  have q1 := (part_lt hs hm'.1 hm1'.1 (k + 1)).mpr (by omega)
  have q2 : ¬ partOf sd (cn.getD m 0) (cn.getD (m + 1) 0) < k := fun h => m3 ((part_lt hs hm'.1 hm1'.1 k).mp h)
  have q3 : partOf sd (cn.getD m 0) (cn.getD (m + 1) 0) = (k : Int) := by omega
  rw [hk]
  refine List.mem_filter.mpr ⟨?_, ?_⟩
  · simp only [List.mem_cons, List.not_mem_nil, or_false]
    omega
  · rw [List.any_eq_true]
    refine ⟨_, List.mem_map.mpr ⟨(m : Int) + 1, ?_, rfl⟩, ?_⟩
    · have : ((m : Int) + 1) = 1 + (m : Int) := by omega
      rw [this]
      simp only [rangeKs, List.mem_map, List.mem_range]
      exact ⟨m, by omega, rfl⟩
    · rw [show ((m : Int) + 1 - 1).toNat = m by omega, show ((m : Int) + 1).toNat = m + 1 by omega, q3]
      simp
theorem branch {sd : Int} {cn : List Int} (hs : sd = 1 ∨ sd = -1) (hu : Up cn) (hb : ∀ y ∈ cn, 0 ≤ y ∧ y < 128) : ∀ x ∈ cn, ∀ z ∈ cn, x ≠ z → partOf sd x z ∈ psOf sd cn := by
  intro x hx z hz hne
  obtain ⟨a, ha, rfl⟩ := mem_getD hx
  obtain ⟨b, hb', rfl⟩ := mem_getD hz
  rcases Nat.lt_trichotomy a b with h | h | h
  · exact branch_lt hs hu hb h hb' hne
  · subst h; exact absurd rfl hne
  · rw [part_comm hs (hb _ hx).1 (hb _ hz).1]
    exact branch_lt hs hu hb h ha (Ne.symm hne)
theorem sketch_mono {sd : Int} {cn : List Int} (hs : sd = 1 ∨ sd = -1) (hu : Up cn) (hb : ∀ y ∈ cn, 0 ≤ y ∧ y < 128) {x z : Int} (hx : x ∈ cn) (hz : z ∈ cn) (h : x < z) : sketch x (psOf sd cn) < sketch z (psOf sd cn) := by
  have hp := branch hs hu hb x hx z hz (by omega)
  obtain ⟨k, hk⟩ := Int.eq_ofNat_of_zero_le (ps_nonneg hp)
  refine sketch_lt (p := k) (ps_desc sd cn) (fun q hq => ps_nonneg hq) (hk ▸ hp) ((part_lt hs (hb x hx).1 (hb z hz).1 (k + 1)).mp (by omega)) (fun e => ?_) h
  have := (part_lt hs (hb x hx).1 (hb z hz).1 k).mpr e
  omega
theorem up_sk {sd : Int} {cn : List Int} (hs : sd = 1 ∨ sd = -1) (hu : Up cn) (hb : ∀ y ∈ cn, 0 ≤ y ∧ y < 128) : Up (cn.map fun y => sketch y (psOf sd cn)) := by
  rw [up_iff, List.pairwise_map]
  refine List.Pairwise.imp_of_mem ?_ (up_iff.mp hu)
  intro x z hx hz h
  rcases Int.lt_or_eq_of_le h with h | h
  · exact Int.le_of_lt (sketch_mono hs hu hb hx hz h)
  · subst h; exact Int.le_refl _
end Mine

end -- P6
section -- P7
open PySem PySem.W PyProof.Rows
namespace Mine
theorem cutI_eq {cn : List Int} {i hi : Int} (h : hi ≤ cn.length) (h0 : 0 ≤ i) : List.take (min hi.toNat cn.length - i.toNat) (List.drop i.toNat cn) = cut cn i.toNat hi.toNat := by
  unfold cut
  congr 1
  omega
theorem cut_map (f : Int → Int) (ns : List Int) (a b : Nat) : cut (ns.map f) a b = (cut ns a b).map f := by
  unfold cut
  rw [← List.map_drop, ← List.map_take]
theorem cut_sub {ns : List Int} {a b : Nat} {y : Int} (h : y ∈ cut ns a b) : y ∈ ns := List.mem_of_mem_drop (List.mem_of_mem_take h)
theorem up_cut {ns : List Int} (h : Up ns) (a b : Nat) : Up (cut ns a b) := up_iff.mpr ((up_iff.mp h).sublist ((List.take_sublist _ _).trans (List.drop_sublist _ _)))
/-- One of those beside is as near to q as any. -/
theorem near {S : List Int} {s : Int → Int} {part : Int → Int} {q g : Int} (hu : Up S) (husk : Up (S.map s)) (hg : g ∈ S) (lo : ∀ y ∈ S, part g < part y → y < g → s y < s q) (up : ∀ y ∈ S, part g < part y → g < y → s q < s y) (hmin : ∀ y ∈ S, part g ≤ part y) :
    ∃ j, (S.map s).countP (ltB (s q)) - 1 ≤ j ∧ j < (S.map s).countP (leB (s q)) + 1 ∧ j < S.length ∧ part (S.getD j 0) = part g := by
  obtain ⟨j0, hj0, rfl⟩ := mem_getD hg
  obtain ⟨a1, a2⟩ := falls_split (falls_lt husk (s q))
  obtain ⟨b1, b2⟩ := falls_split (falls_le husk (s q))
  have gm : ∀ j, j < S.length → (S.map s).getD j 0 = s (S.getD j 0) := fun j hj => by
    simp [List.getD_eq_getElem?_getD, hj]
  have hll : (S.map s).length = S.length := List.length_map ..
  have cl := List.countP_le_length (p := ltB (s q)) (l := S.map s)
  have cr := List.countP_le_length (p := leB (s q)) (l := S.map s)
  have hlr : (S.map s).countP (ltB (s q)) ≤ (S.map s).countP (leB (s q)) := List.countP_mono_left fun y _ h => by
    simp only [ltB, leB, decide_eq_true_eq] at h ⊢
    omega
  by_cases h1 : j0 < (S.map s).countP (ltB (s q))
  · refine ⟨(S.map s).countP (ltB (s q)) - 1, Nat.le_refl _, by omega, by omega, ?_⟩
    have hk := a1 ((S.map s).countP (ltB (s q)) - 1) (by omega)
    rw [gm _ (by omega)] at hk
    simp only [ltB, decide_eq_true_eq] at hk
    have hm := hmin (S.getD ((S.map s).countP (ltB (s q)) - 1) 0) (getD_mem' (by omega))
    rcases Int.lt_or_eq_of_le hm with hlt | heq
    · exfalso
      have hle := hu j0 ((S.map s).countP (ltB (s q)) - 1) (by omega) (by omega)
      rcases Int.lt_or_eq_of_le hle with h | h
      · have := up _ (getD_mem' (by omega)) hlt h
        omega
      · rw [← h] at hlt
        exact Int.lt_irrefl _ hlt
    · exact heq.symm
  · by_cases h2 : j0 < (S.map s).countP (leB (s q))
    · exact ⟨j0, by omega, by omega, hj0, rfl⟩
    · refine ⟨(S.map s).countP (leB (s q)), by omega, by omega, by omega, ?_⟩
      have hk := b2 ((S.map s).countP (leB (s q))) (Nat.le_refl _) (by omega)
      rw [gm _ (by omega)] at hk
      simp only [leB, decide_eq_false_iff_not] at hk
      have hm := hmin (S.getD ((S.map s).countP (leB (s q))) 0) (getD_mem' (by omega))
      rcases Int.lt_or_eq_of_le hm with hlt | heq
      · exfalso
        have hle := hu ((S.map s).countP (leB (s q))) j0 (by omega) hj0
        rcases Int.lt_or_eq_of_le hle with h | h
        · have := lo _ (getD_mem' (by omega)) hlt h
          omega
        · rw [h] at hlt
          exact Int.lt_irrefl _ hlt
      · exact heq.symm
end Mine

end -- P7
section -- LT
local macro_rules | `(tactic| walk_at "mine blank") => `(tactic| skip)
local macro_rules | `(tactic| walk_at "mine blank") => `(tactic| skip)
local macro_rules | `(tactic| walk_at "mine blank") => `(tactic| skip)
local macro_rules | `(tactic| walk_at "mine blank") => `(tactic| skip)
local macro_rules | `(tactic| walk_at "mine blank") => `(tactic| skip)
local macro_rules | `(tactic| walk_at "mine blank") => `(tactic| skip)
local macro_rules | `(tactic| walk_at "mine blank") => `(tactic| skip)
local macro_rules | `(tactic| walk_at "mine blank") => `(tactic| skip)
local macro_rules | `(tactic| walk_at "mine blank") => `(tactic| skip)
local macro_rules | `(tactic| walk_at "mine blank") => `(tactic| skip)
theorem Mine.fresh_LT : True := by
  w_top off
  k_with_none
  exact True.intro
open PySem PySem.W PyProof.Rows
namespace Mine
local macro_rules | `(tactic| walk_at "callWith ref") => `(tactic| (k_here; k_dflt (refine' callWith_K ?k1 ?k2 ?_; (case k1 => k_asm); (case k2 => k_is); k_whole)))
local macro_rules | `(tactic| k_mem) => `(tactic| first | exact List.Mem.head _ | assumption | (refine' List.Mem.tail _ ?_; k_mem))
local macro_rules | `(tactic| walk_at "call builtin:len") => `(tactic| (k_here; (with_reducible show wpAny _ _ (call (Value.builtin "len") [Value.ref _]) _ _ _); (k_dflt (refine' len_mine ?k1 ?k2 ?k3 ?k4 ?_; (case k1 => k_asm); (case k2 => k_mem); (case k3 => assumption); (case k4 => omega); k_whole)); intro t' tk'; (try dsimp only)))
local macro_rules | `(tactic| walk_at "eval ListComp") => `(tactic| (k_here; (with_reducible show wpAny _ _ (eval (PySem.Expr.ListComp _ [PySem.Comprehension.mk _ _ [] _] _ _) _) _ _ _); k_dflt (refine comp_U (F₀ := by k_asm) (by with_unfolding_all rfl) (by decide) (by rfl) (by decide) (by rfl) ?_)))
local macro_rules | `(tactic| walk_at "eval ListComp") => `(tactic| (k_here; (with_reducible show wpAny _ _ (eval (PySem.Expr.ListComp _ [PySem.Comprehension.mk _ _ [_] _] _ _) _) _ _ _); k_dflt (refine comp_T (F₀ := by k_asm) (by with_unfolding_all rfl) (by decide) (by rfl) (by decide) (by rfl) ?_)))
local macro_rules | `(tactic| walk_at "exec For") => `(tactic| (k_here; (rename Fr _ _ _ _ => lF'); (with_unfolding_all refine' For_invVF lF' ?k1 ?k2 ?_; (case k1 => exact rfl); (case k2 => exact rfl); k_whole)))
local macro_rules | `(tactic| walk_at "exec For Name Call cons nil") => `(tactic| (k_here; (rename Fr _ _ _ _ => lF'); (with_unfolding_all refine' For_invVF lF' ?k1 ?k2 ?_; (case k1 => exact rfl); (case k2 => exact rfl); k_whole)))
local macro_rules | `(tactic| walk_at "call ref") => `(tactic| refine call_at ?_)
local macro_rules | `(tactic| walk_at "pyIter ref") => `(tactic| refine iter_at ?_)
local macro_rules | `(tactic| k_all) => `(tactic| assumption)
def ExecsAt (M : Model) (A : PySem.Around) (b : List Stmt) (env : Env) (Q : Flow → Shared → Prop) (E : Value → Shared → Prop) (s : Shared) : Prop := wpAny M A (execs b env) Q E s
theorem execs_at {M : Model} {A : PySem.Around} {b : List Stmt} {env : Env} {Q : Flow → Shared → Prop} {E : Value → Shared → Prop} {s : Shared} (h : ExecsAt M A b env Q E s) : wpAny M A (execs b env) Q E s := h
local macro_rules | `(tactic| walk_at "execs cons") => `(tactic| ((with_reducible show wpAny _ _ (execs (Stmt.If _ _ _ _ :: _) _) _ _ _); refine execs_at ?_))
def sliceOf (cn : List Int) (a b i hi : Int) : List Int := List.take (min (if hi < b + 1 then hi else b + 1).toNat cn.length - (if i > a - 1 then i else a - 1).toNat) (List.drop (if i > a - 1 then i else a - 1).toNat cn)
theorem sliceOf_len (cn : List Int) (a b i hi : Int) : (sliceOf cn a b i hi).length ≤ cn.length := by
  unfold sliceOf
  simp only [List.length_take, List.length_drop]
  omega
theorem sliceOf_mem {cn : List Int} {a b i hi y : Int} (h : y ∈ sliceOf cn a b i hi) : y ∈ cn := List.mem_of_mem_drop (List.mem_of_mem_take h)
def Plain (sd : Int) (cn sk ps : List Int) (i : Int) : Prop := ∀ q hi M : Int, 0 ≤ q → q < 128 → i < hi → hi ≤ cn.length →
  M ∈ [7] ++ (sliceOf cn (i + cnt sk (ltB (sketch q ps)) i hi) (i + cnt sk (leB (sketch q ps)) i hi) i hi).map (fun y => partOf sd y q) →
  (∀ a ∈ [7] ++ (sliceOf cn (i + cnt sk (ltB (sketch q ps)) i hi) (i + cnt sk (leB (sketch q ps)) i hi) i hi).map (fun y => partOf sd y q), M ≤ a) →
  (M + 1 = 0 + cnt (rangeKs 0 8) (fun k => !keyB (cutI cn i hi) q k) 0 8) ∧
  (M < 0 → i + cnt sk (ltB (sketch q ps)) i hi = i + ((cutI cn i hi).filter (ltB q)).length ∧ i + cnt sk (leB (sketch q ps)) i hi = i + ((cutI cn i hi).filter (leB q)).length) ∧
  (¬ M < 0 → M ≤ 6 ∧ edge sk ps q M i hi = i + ((cutI cn i hi).filter (ltB q)).length ∧ edge sk ps q M i hi = i + ((cutI cn i hi).filter (leB q)).length)
theorem offT {tb : Option (Addr × Obj)} {aSk aPg rowA L aT : Addr} {wSk wPg cv : List Value} {cc : Nat} {o5 o5' o4 oRo oSi oT : Obj} {tl : List (Addr × Obj)} (off : TabOff tb (LedR aSk aPg rowA L wSk wPg cv cc o5 o4 oRo oSi ++ tl)) (lt : ∀ q ∈ TabIn tb ++ tl, q.1 < aT) :
    TabOff tb ((aT, oT) :: (LedR aSk aPg rowA L wSk wPg cv cc o5' o4 oRo oSi ++ tl)) := by
  intro a ha b hb e
  rcases List.mem_cons.mp ha with rfl | ha
  · exact absurd (lt b (List.mem_append_left _ hb)) (by rw [e]; exact Nat.lt_irrefl _)
  · rcases List.mem_append.mp ha with ha | ha
    · simp only [LedR, List.mem_cons, List.not_mem_nil, or_false] at ha
      have key : ∀ x ∈ LedR aSk aPg rowA L wSk wPg cv cc o5 o4 oRo oSi, x.1 = a.1 → False := fun x hx hxa => off x (List.mem_append_left _ hx) b hb (e.trans hxa.symm)
      rcases ha with rfl | rfl | rfl | rfl | rfl | rfl | rfl
      · exact key _ (.head _) rfl
      · exact key _ (.tail _ (.head _)) rfl
      · exact key _ (.tail _ (.tail _ (.head _))) rfl
      · exact key _ (.tail _ (.tail _ (.tail _ (.head _)))) rfl
      · exact key _ (.tail _ (.tail _ (.tail _ (.tail _ (.head _))))) rfl
      · exact key _ (.tail _ (.tail _ (.tail _ (.tail _ (.tail _ (.head _)))))) rfl
      · exact key _ (.tail _ (.tail _ (.tail _ (.tail _ (.tail _ (.tail _ (.head _))))))) rfl
    · exact off a (List.mem_append_right _ ha) b hb e
theorem law_turn {w : World} {mean : ExcName → Option Value} {mg mb : Str → Option Value} {p : Program} {loose : List Str} {fa L rowA aSk aPg : Addr} {cd : Value} {h₀ : Heap} {s : Shared} {Q : Flow → Shared → Prop} {E1 : Value → Shared → Prop} {cv wSk wPg : List Value} {cn sk ps : List Int} {cc : Nat} {o5 o4 oRo oSi : Obj} {v5 : Option Value} {sd mask : Int} {i j : Int} {t9 tm ti tj : Tok} {m : Str → Option Value} {tb : Option (Addr × Obj)} {tl : List (Addr × Obj)}
    (B : Below callerA h₀ [] h₀) (F : Fr h₀ L s.heap (fun y => if y = Str.ofString "half" then some (.int j tj) else if y = Str.ofString "low" then some (.int i ti) else if y = Str.ofString "mask" then some (.int mask tm) else if y = Str.ofString "sketches" then some (.ref aSk) else m y)) (X : (hd.heap_39 w.params).In h₀) (T : Top p loose mean mg mb h₀) (CH : CodeHd h₀ 68 64)
    (N : News h₀ L s.heap (LedR aSk aPg rowA L wSk wPg cv cc o5 o4 oRo oSi ++ (TabIn tb ++ tl))) (ok : TabOk lamQ tb) (off : TabOff tb (LedR aSk aPg rowA L wSk wPg cv cc o5 o4 oRo oSi ++ tl)) (htl : ∀ q ∈ TabIn tb ++ tl, q.1 ≠ L + 1 + 1 + 1 + 1 + 1)
    (d5 : o5.data = .cell v5) (d4 : o4.data = .cell (some (.ref aPg))) (dRo : oRo.data = .cell (some (.ref rowA))) (dSi : oSi.data = .cell (some (.int sd t9))) (h64 : @LT.lt Nat _ 64 L) (hrow : @LT.lt Nat _ (L + 1 + 1 + 1 + 1 + 1) rowA) (hapg : @Ne Nat (L + 1 + 1 + 1 + 1 + 1) aPg) (hask : @Ne Nat (L + 1 + 1 + 1 + 1 + 1) aSk)
    (hsd : sd = 1 ∨ sd = -1) (hf : IntsAre cv cn) (iSk : IntsAre wSk sk) (iPg : IntsAre wPg ps) (hskl : sk.length = cn.length) (husk : Up sk) (hpsb : ∀ q ∈ ps, 0 ≤ q ∧ q ≤ 6) (hb : ∀ y ∈ cn, 0 ≤ y ∧ y < 128) (hl5 : cn.length ≤ 5) (hmk0 : 64 ≤ mask) (hmk : mask < 128) (hi0 : 0 ≤ i) (hi1 : i < cn.length) (hj0 : 0 ≤ j) (hj1 : j < 8) (hplain : Plain sd cn sk ps i)
    (hnext : ∀ o5' v5' tb' m' h' tk', o5'.data = .cell v5' → TabOk lamQ tb' → TabOff tb' (LedR aSk aPg rowA L wSk wPg cv cc o5' o4 oRo oSi ++ tl) → m' (Str.ofString "low") = some (.int i ti) → m' (Str.ofString "mask") = some (.int mask tm) → m' (Str.ofString "sketches") = some (.ref aSk) → Fr h₀ L h' m' →
      News h₀ L h' (LedR aSk aPg rowA L wSk wPg cv cc o5' o4 oRo oSi ++ (TabIn tb' ++ tl)) → Q .next { s with heap := h', toks := tk' }) :
    wpAny (model PySem.Challenge.rw_rs0043_01.row.prog w) (callerA.deeper (envOfC (Str.ofString "law") lawScope L fa cd)) (execs lawTurn (envOfC (Str.ofString "law") lawScope L fa cd)) Q
      (fun e s' => wpAny (model PySem.Challenge.rw_rs0043_01.row.prog w) (callerA.deeper (envOfC (Str.ofString "law") lawScope L fa cd)) (leaving (envOfC (Str.ofString "law") lawScope L fa cd) e) (fun _ s'' => E1 e s'') (fun e' s'' => E1 e' s'') s') s := by
  revert X
  k_fill
  intro X
  dsimp only [List.cons_append, List.nil_append] at N
  dsimp only [lawTurn, lawLoop, lawBody, lawScope, PySem.Challenge.pw_rs0043_01, List.getLast?, List.getLast, List.drop]
  k_with_none
  have hbd : ∀ j, 0 ≤ cn.getD j 0 ∧ cn.getD j 0 < 128 := getD_bd hb
  have hfm := fmod_bd j (m := (cn.length : Int) - i) (by omega)
  k_steps
  rename_i tA tkA hA tB hB oS FA NA dS
  generalize hq : Builtin.bitXor (cn.getD i.toNat 0) (mask.fdiv (2 ^ j.toNat)) = q at dS ⊢
  generalize hhi : i + 1 + j.fmod (cn.length - i) = hi at FA ⊢
  have hq0 : 0 ≤ q ∧ q < 128 := by rw [← hq]; exact xor_bd (hbd _) (half_bd (by omega) hmk)
  have hh1 : i < hi := by omega
  have hh2 : hi ≤ cn.length := by omega
  unfold CallAt
  k_dflt (refine' Tell.use (sketch_ aPg wPg wPg.length ps _ _ ?e1 iPg hpsb) ?k1 ?k2 ?k3 ?k4 ?k5 ?k6 ?k7 ?k8 ?_; (case k1 => k_asm); (case k2 => k_asm); (case k3 => k_asm); (case k4 => k_asm); (case k5 => k_asm); (case k6 => first | exact rfl | assumption); (case k7 => ktr_room); (case k8 => ktr_units); (case e1 => k_mem); k_whole)
  intro t1 h1 tk1 F1 N1
  try dsimp only
  k_steps
  unfold CallAt
  k_dflt (refine' Tell.use (bl aSk wSk wSk.length sk _ _ _ _ _ _ ?e1 iSk ?e3 ?e4 ?e5 ?e6 husk) ?k1 ?k2 ?k3 ?k4 ?k5 ?k6 ?k7 ?k8 ?_; (case k1 => k_asm); (case k2 => k_asm); (case k3 => k_asm); (case k4 => k_asm); (case k5 => k_asm); (case k6 => first | exact rfl | assumption); (case k7 => ktr_room); (case k8 => ktr_units); (case e1 => k_mem); (case e3 => omega); (case e4 => omega); (case e5 => omega); (case e6 => omega); k_whole)
  intro t2 h2 tk2 F2 N2
  try dsimp only
  have hcl := cnt_bd (ns := sk) (ltB (sketch q ps)) (lo := i) (hi := hi) (by omega) (by omega) (by omega)
  generalize hcL : cnt sk (ltB (sketch q ps)) i hi = cL at hcl ⊢
  k_steps
  unfold CallAt
  k_dflt (refine' Tell.use (br aSk wSk wSk.length sk _ _ _ _ _ _ ?e1 iSk ?e3 ?e4 ?e5 ?e6 husk) ?k1 ?k2 ?k3 ?k4 ?k5 ?k6 ?k7 ?k8 ?_; (case k1 => k_asm); (case k2 => k_asm); (case k3 => k_asm); (case k4 => k_asm); (case k5 => k_asm); (case k6 => first | exact rfl | assumption); (case k7 => ktr_room); (case k8 => ktr_units); (case e1 => k_mem); (case e3 => omega); (case e4 => omega); (case e5 => omega); (case e6 => omega); k_whole)
  intro t3 h3 tk3 F3 N3
  try dsimp only
  have hcr := cnt_bd (ns := sk) (leB (sketch q ps)) (lo := i) (hi := hi) (by omega) (by omega) (by omega)
  generalize hcR : cnt sk (leB (sketch q ps)) i hi = cR at hcr ⊢
  k_steps
  · exfalso
    rename (@LT.lt Int _ _ 0) => hSg
    revert hSg
    show (if hi < i + cR + 1 then hi else i + cR + 1) < 0 → False
    split <;> omega
  rename (IntsAre _ (List.take _ _)) => hIb
  rename ((List.take _ _).length = _) => hC1
  rename ((List.take _ _).length ≤ _) => hL1
  rename (@LE.le Int _ 0 (@ite Int _ _ _ _)) => hSg1
  clear hC1 hL1 hSg1
  change IntsAre _ (sliceOf cn (i + cL) (i + cR) i hi) at hIb
  refine src_list (fun y => partOf sd y q) rfl (by k_asm) (by k_asm) (by k_mem) hIb (by have := sliceOf_len cn (i + cL) (i + cR) i hi; omega) ?_ ?_
  · intro k tk I oI C oC D m₂ ys h tk' E' hk hC hx F'' N''
    have hkb := hb k (sliceOf_mem hk)
    k_steps
    unfold CallAt
    k_dflt (refine' Tell.use (parting _ _ _ _ _ _ hkb.1 hkb.2 hq0.1 hq0.2 hsd) ?k1 ?k2 ?k3 ?k4 ?k5 ?k6 ?k7 ?k8 ?_; (case k1 => k_asm); (case k2 => k_asm); (case k3 => k_asm); (case k4 => k_asm); (case k5 => k_asm); (case k6 => first | exact rfl | assumption); (case k7 => ktr_room); (case k8 => ktr_units);  k_whole)
    intro t4 h4 tk4 F4 N4
    try dsimp only
    k_steps
    exact ElEnd.intro (by k_asm) (by k_asm) rfl
  intro wPb aPb hPb tPb iPb FPb NPb ofPb
  have hpbl : ((sliceOf cn (i + cL) (i + cR) i hi).map fun y => partOf sd y q).length ≤ 5 := by have := sliceOf_len cn (i + cL) (i + cR) i hi; rw [List.length_map]; omega
  generalize hpb : (sliceOf cn (i + cL) (i + cR) i hi).map (fun y => partOf sd y q) = pb at iPb hpbl
  simp only [LCg.Off1, and_true] at ofPb
  k_steps
  rename_i aTa hT1 lT1 hT2 tT1 hT3 tT2 hT4 tT3 hT5 tT4 Db wb hT6 lT2 hT7 l7 hT8 lT3 D7 w7 hT9 hI7 lT4 hTa M tM kM hMin hMle hTb FT NT
  unfold ExecsAt
  have hpl := hplain q hi M hq0.1 hq0.2 hh1 hh2 (by rw [hcL, hcR, hpb]; exact hMin) (by rw [hcL, hcR, hpb]; exact hMle)
  rw [hcL, hcR] at hpl
  exact law_tail B FT X T CH (kst_newsOf NT fun q hq => .tail _ (.tail _ (.tail _ (.tail _ hq)))) ok (offT off (allLt_mem lT1.2.2.2.2.2.2.2)) dS d4 dRo dSi hf iSk iPg hskl husk hpsb hl5 hi0 hh1 hh2 hq0.1 hq0.2 hpl.1 hpl.2.1 hpl.2.2 hnext
end Mine

end -- LT
section -- P8
open PySem PySem.W PyProof.Rows
namespace Mine
section
variable {sd : Int} {cn : List Int} {q g : Int} {S : List Int}
/-- What stands outside of g's group stands to q in the sketches as it stands. -/
theorem outside (hs : sd = 1 ∨ sd = -1) (hu : Up cn) (hb : ∀ y ∈ cn, 0 ≤ y ∧ y < 128) (hq : 0 ≤ q) (hg : g ∈ cn) {y z : Int} (hy : y ∈ cn) (hlt : partOf sd g q < partOf sd y q) (ez : ∀ k : Nat, partOf sd g q < k → z / 2 ^ k = q / 2 ^ k) :
    (y < z ↔ y < q) ∧ (y < z → sketch y (psOf sd cn) < sketch z (psOf sd cn)) ∧ (z < y → sketch z (psOf sd cn) < sketch y (psOf sd cn)) ∧ y ≠ z := by
  obtain ⟨k, hk, hin, e1, e2⟩ := part_in hs (branch hs hu hb) (fun x hx => (hb x hx).1) hq hy hg hlt part_ge
  exact out_of (ps_desc sd cn) (fun p hp => ps_nonneg hp) hin e1 e2 (ez k (by omega))
theorem key_iff (hs : sd = 1 ∨ sd = -1) (hq : 0 ≤ q) (hS : ∀ y ∈ S, 0 ≤ y) (k : Nat) : keyB S q (k : Int) = true ↔ ∃ y ∈ S, partOf sd y q < k := by
  unfold keyB
  simp only [List.any_eq_true, List.mem_map, beq_iff_eq, Int.toNat_natCast]
  constructor
  · rintro ⟨z, ⟨y, hy, rfl⟩, e⟩
    rw [fdiv_pow, fdiv_pow] at e
    exact ⟨y, hy, (part_lt hs (hS y hy) hq k).mpr e⟩
  · rintro ⟨y, hy, h⟩
    refine ⟨_, ⟨y, hy, rfl⟩, ?_⟩
    rw [fdiv_pow, fdiv_pow]
    exact (part_lt hs (hS y hy) hq k).mp h
theorem fewest_is (hs : sd = 1 ∨ sd = -1) (hq : 0 ≤ q) (hS : ∀ y ∈ S, 0 ≤ y) (hg : g ∈ S) (hmin : ∀ y ∈ S, partOf sd g q ≤ partOf sd y q) (h6 : partOf sd g q ≤ 6) :
    partOf sd g q + 1 = 0 + cnt (rangeKs 0 8) (fun k => !keyB S q k) 0 8 := by
  have h1 := part_ge (sd := sd) (x := g) (y := q)
  have hk : ∀ k : Nat, keyB S q (k : Int) = decide (partOf sd g q < k) := fun k => by
    rw [Bool.eq_iff_iff, key_iff hs hq hS, decide_eq_true_eq]
    exact ⟨fun ⟨y, hy, h⟩ => Int.lt_of_le_of_lt (hmin y hy) h, fun h => ⟨g, hg, h⟩⟩
  have e := count_cut (ns := rangeKs 0 8) (p := fun k => !keyB S q k) (lo := 0) (a := (partOf sd g q + 1).toNat) (hi := 8) (by omega) (by omega) (by rw [rangeKs_length]; decide) (fun i _ hi => by
      rw [range8 (by omega), hk]
      simp only [Bool.not_eq_true', decide_eq_false_iff_not]
      omega) (fun i h hi => by
      rw [range8 hi, hk]
      simp only [Bool.not_eq_false', decide_eq_true_eq]
      omega)
  unfold cnt
  rw [show (0 : Int).toNat = 0 from rfl, show (8 : Int).toNat = 8 from rfl, e]
  omega
end
end Mine

end -- P8
section -- P9
open PySem PySem.W PyProof.Rows
namespace Mine
theorem count_as {S : List Int} {s : Int → Int} {p r : Int → Bool} (h : ∀ y ∈ S, p (s y) = r y) : (S.map s).countP p = (S.filter r).length := by
  rw [List.countP_map, ← List.countP_eq_length_filter]
  exact List.countP_congr fun y hy => by simp [h y hy]
theorem slice_has {cn : List Int} {a b i hi : Int} {k : Nat} (h1 : i ≤ k) (h2 : a - 1 ≤ k) (h3 : (k : Int) < hi) (h4 : (k : Int) < b + 1) (h5 : k < cn.length) (h0 : 0 ≤ i) : cn.getD k 0 ∈ sliceOf cn a b i hi := by
  unfold sliceOf
  rw [List.mem_iff_getElem]
  have hlo : (if i > a - 1 then i else a - 1).toNat ≤ k := by split <;> omega
  have hhi : k < (if hi < b + 1 then hi else b + 1).toNat := by split <;> omega
  refine ⟨k - (if i > a - 1 then i else a - 1).toNat, by simp only [List.length_take, List.length_drop]; omega, ?_⟩
  rw [List.getElem_take, List.getElem_drop, List.getD_eq_getElem?_getD, List.getElem?_eq_getElem h5]
  simp only [Option.getD_some]
  congr 1
  omega
theorem slice_in {cn : List Int} {a b i hi y : Int} (h0 : 0 ≤ i) (hh : hi ≤ cn.length) (h : y ∈ sliceOf cn a b i hi) : y ∈ cut cn i.toNat hi.toNat := by
  unfold sliceOf at h
  obtain ⟨k, hk, e⟩ := List.mem_iff_getElem.mp h
  simp only [List.length_take, List.length_drop] at hk
  rw [List.getElem_take, List.getElem_drop] at e
  have hlo : i ≤ (if i > a - 1 then i else a - 1) := by split <;> omega
  have hhi : (if hi < b + 1 then hi else b + 1) ≤ hi := by split <;> omega
  have hm := cut_mem (ns := cn) (lo := i.toNat) (hi := hi.toNat) (i := (if i > a - 1 then i else a - 1).toNat + k) (by omega) (by omega) (by omega)
  rw [List.getD_eq_getElem?_getD, List.getElem?_eq_getElem (by omega)] at hm
  simp only [Option.getD_some] at hm
  rw [e] at hm
  exact hm
theorem pow_split {f p : Nat} (h : p < f) : (2 : Int) ^ f = 2 * 2 ^ (f - p - 1) * 2 ^ p := by
  rw [← Int.pow_succ', ← Int.pow_add]
  congr 1
  omega
theorem fig_zeros {c : Int} {f p : Nat} (h : p < f) : fig (c * 2 ^ f) p = 0 := by
  rw [fig_eq, Int.toNat_natCast, pow_split h, ← Int.mul_assoc, Int.mul_ediv_cancel _ (Int.ne_of_gt (pow_pos2 p))]
  have : c * (2 * 2 ^ (f - p - 1)) = 2 * (c * 2 ^ (f - p - 1)) := by rw [Int.mul_left_comm]
  omega
theorem fig_ones {c : Int} {f p : Nat} (h : p < f) : fig (c * 2 ^ f - 1) p = 1 := by
  have hp := pow_pos2 p
  rw [fig_eq, Int.toNat_natCast, pow_split h, ← Int.mul_assoc]
  have e : c * (2 * 2 ^ (f - p - 1)) = 2 * (c * 2 ^ (f - p - 1)) := by rw [Int.mul_left_comm]
  have : c * (2 * 2 ^ (f - p - 1)) * 2 ^ p - 1 = (2 ^ p - 1) + (c * (2 * 2 ^ (f - p - 1)) - 1) * 2 ^ p := by rw [Int.sub_mul]; omega
  rw [this, Int.add_mul_ediv_right _ _ (Int.ne_of_gt hp), Int.ediv_eq_zero_of_lt (by omega) (by omega), e]
  omega
theorem plain_all {sd : Int} {cn : List Int} (hs : sd = 1 ∨ sd = -1) (hu : Up cn) (hb : ∀ y ∈ cn, 0 ≤ y ∧ y < 128) {i : Int} (hi0 : 0 ≤ i) (hil : i < cn.length) : Plain sd cn (cn.map fun y => sketch y (psOf sd cn)) (psOf sd cn) i := by
  intro q hi M hq0 hq1 hih hhi hMin hMle
  have hSc : cutI cn i hi = cut cn i.toNat hi.toNat := cutI_eq hhi hi0
  have cS : ∀ p, cnt (cn.map fun y => sketch y (psOf sd cn)) p i hi = (((cut cn i.toNat hi.toNat).map fun y => sketch y (psOf sd cn)).countP p : Int) := fun p => by
    unfold cnt
    rw [cut_map]
  have hlen := length_cut (ns := cn) (lo := i.toNat) (hi := hi.toNat) (by omega)
  have hsub : ∀ y ∈ cut cn i.toNat hi.toNat, y ∈ cn := fun y hy => cut_sub hy
  have huS := up_cut hu i.toNat hi.toNat
  have huT : Up ((cut cn i.toNat hi.toNat).map fun y => sketch y (psOf sd cn)) := by
    rw [← cut_map]
    exact up_cut (up_sk hs hu hb) _ _
  have hidx : ∀ j, j < (cut cn i.toNat hi.toNat).length → (cut cn i.toNat hi.toNat).getD j 0 = cn.getD (i.toNat + j) 0 := fun j hj => by
    unfold cut
    rw [hlen] at hj
    simp only [List.getD_eq_getElem?_getD, List.getElem?_take, List.getElem?_drop]
    rw [if_pos hj]
  obtain ⟨g, hg, hmin⟩ := exists_min (fun y => partOf sd y q) (l := cut cn i.toNat hi.toNat) (fun h => by rw [h] at hlen; simp at hlen; omega)
  have hgc := hsub g hg
  have hg6 := part_le6 hs (hb g hgc) ⟨hq0, hq1⟩
  have hout := fun (y z : Int) (hy : y ∈ cn) (h : partOf sd g q < partOf sd y q) (ez : ∀ k : Nat, partOf sd g q < k → z / 2 ^ k = q / 2 ^ k) => outside hs hu hb hq0 hgc hy h ez
  have hgq : ∀ k : Nat, partOf sd g q < k → g / 2 ^ k = q / 2 ^ k := fun k h => (part_lt hs (hb g hgc).1 hq0 k).mp h
  obtain ⟨j, j1, j2, j3, j4⟩ := near (S := cut cn i.toNat hi.toNat) (s := fun y => sketch y (psOf sd cn)) (part := fun y => partOf sd y q) (q := q) huS huT hg
    (fun y hy h hyg => (hout y q (hsub y hy) h fun _ _ => rfl).2.1 ((hout y g (hsub y hy) h hgq).1.mp hyg))
    (fun y hy h hyg => (hout y q (hsub y hy) h fun _ _ => rfl).2.2.1 (by
      have a1 := (hout y g (hsub y hy) h hgq).1
      have a2 := (hout y q (hsub y hy) h fun _ _ => rfl).2.2.2
      omega)) hmin
  rw [cS, cS] at hMin hMle ⊢
  have hM : M = partOf sd g q := by
    apply Int.le_antisymm
    · refine hMle _ (List.mem_append_right _ (List.mem_map.mpr ⟨_, slice_has (k := i.toNat + j) ?_ ?_ ?_ ?_ ?_ hi0, ?_⟩))
      · omega
      · omega
      · omega
      · omega
      · omega
      · rw [← hidx j j3]
        exact j4
    · rcases List.mem_append.mp hMin with h | h
      · rw [List.mem_singleton.mp h]
        omega
      · obtain ⟨y, hy, rfl⟩ := List.mem_map.mp h
        exact hmin y (slice_in hi0 hhi hy)
  subst hM
  rw [hSc]
  refine ⟨fewest_is hs hq0 (fun y hy => (hb y (hsub y hy)).1) hg hmin hg6, fun hneg => ?_, fun hpos => ⟨hg6, ?_⟩⟩
  · obtain rfl : g = q := part_neg hs (hb g hgc).1 hq0 hneg
    have cmp : ∀ y ∈ cut cn i.toNat hi.toNat, (sketch y (psOf sd cn) < sketch g (psOf sd cn) ↔ y < g) ∧ (sketch y (psOf sd cn) ≤ sketch g (psOf sd cn) ↔ y ≤ g) := fun y hy => by
      rcases Int.lt_trichotomy y g with h | h | h
      · have := sketch_mono hs hu hb (hsub y hy) hgc h
        omega
      · subst h; omega
      · have := sketch_mono hs hu hb hgc (hsub y hy) h
        omega
    rw [count_as (r := ltB g) fun y hy => by simp only [ltB, (cmp y hy).1], count_as (r := leB g) fun y hy => by simp only [leB, (cmp y hy).2]]
    exact ⟨rfl, rfl⟩
  · obtain ⟨f, hf⟩ := Int.eq_ofNat_of_zero_le (show 0 ≤ partOf sd g q by omega)
    have hS : ∀ y ∈ cut cn i.toNat hi.toNat, partOf sd g q = partOf sd y q ∨ partOf sd g q < partOf sd y q := fun y hy => by
      have := hmin y hy
      omega
    have hne : ∀ y ∈ cut cn i.toNat hi.toNat, y ≠ q := fun y hy e => by
      have a := hmin y hy
      have b := (part_lt hs (hb y (hsub y hy)).1 hq0 0).mpr (by rw [e])
      omega
    have hle : ((cut cn i.toNat hi.toNat).filter (leB q)).length = ((cut cn i.toNat hi.toNat).filter (ltB q)).length := by
      rw [← List.countP_eq_length_filter, ← List.countP_eq_length_filter]
      refine List.countP_congr fun y hy => ?_
      have := hne y hy
      simp only [leB, ltB, decide_eq_true_eq]
      omega
    rw [hle, and_self]
    have inG : ∀ y ∈ cut cn i.toNat hi.toNat, partOf sd g q = partOf sd y q → y / 2 ^ f / 2 = q / 2 ^ f / 2 ∧ y / 2 ^ f ≠ q / 2 ^ f := fun y hy e => by
      have a1 := (part_lt hs (hb y (hsub y hy)).1 hq0 (f + 1)).mp (by omega)
      have a2 := part_lt hs (hb y (hsub y hy)).1 hq0 f
      rw [div_succ, div_succ] at a1
      exact ⟨a1, fun h => by have := a2.mpr h; omega⟩
    have hft : (partOf sd g q).toNat = f := by omega
    unfold edge
    rw [hft, fdiv_pow, Int.fmod_eq_emod_of_nonneg _ (by decide)]
    have hpp := pow_pos2 f
    have hlow : ∀ (z : Int) (k : Nat), z / 2 ^ (f + 1) = q / 2 ^ (f + 1) → partOf sd g q < k → z / 2 ^ k = q / 2 ^ k := fun z k e h => alike_up (by omega) e
    split
    · rename_i hodd
      have zf : (q / 2 ^ f * 2 ^ f - 1) / 2 ^ f = q / 2 ^ f - 1 := by
        have : q / 2 ^ f * 2 ^ f - 1 = (2 ^ f - 1) + (q / 2 ^ f - 1) * 2 ^ f := by rw [Int.sub_mul]; omega
        rw [this, Int.add_mul_ediv_right _ _ (by omega), Int.ediv_eq_zero_of_lt (by omega) (by omega)]
        omega
      have ze : (q / 2 ^ f * 2 ^ f - 1) / 2 ^ (f + 1) = q / 2 ^ (f + 1) := by
        rw [div_succ, div_succ, zf]
        omega
      rw [cS, count_as (r := ltB q)]
      intro y hy
      have hyb := hb y (hsub y hy)
      simp only [leB, ltB]
      rw [decide_eq_decide]
      rcases hS y hy with h | h
      · obtain ⟨b1, b2⟩ := inG y hy h
        have b3 : y / 2 ^ f = q / 2 ^ f - 1 := by omega
        have b4 : sketch y (psOf sd cn) ≤ sketch (q / 2 ^ f * 2 ^ f - 1) (psOf sd cn) := sketch_le fun p hp => by
          obtain ⟨n, rfl⟩ := Int.eq_ofNat_of_zero_le (ps_nonneg hp)
          by_cases hn : n < f
          · have := fig_ones (c := q / 2 ^ f) hn
            have := fig_bd y n
            omega
          · rw [fig_eq, fig_eq, Int.toNat_natCast, alike_up (k := f) (n := n) (by omega) (b3.trans zf.symm)]
            exact Int.le_refl _
        have b5 : y < q := by
          rcases Int.lt_or_le y q with h | h
          · exact h
          · have := div_mono h f
            omega
        omega
      · obtain ⟨c1, c2, c3, c4⟩ := hout y (q / 2 ^ f * 2 ^ f - 1) (hsub y hy) h fun k hk => hlow _ k ze hk
        omega
    · rename_i hodd
      have zf : ((q / 2 ^ f + 1) * 2 ^ f) / 2 ^ f = q / 2 ^ f + 1 := Int.mul_ediv_cancel _ (by omega)
      have ze : ((q / 2 ^ f + 1) * 2 ^ f) / 2 ^ (f + 1) = q / 2 ^ (f + 1) := by
        rw [div_succ, div_succ, zf]
        omega
      rw [cS, count_as (r := ltB q)]
      intro y hy
      have hyb := hb y (hsub y hy)
      simp only [ltB]
      rw [decide_eq_decide]
      rcases hS y hy with h | h
      · obtain ⟨b1, b2⟩ := inG y hy h
        have b3 : y / 2 ^ f = q / 2 ^ f + 1 := by omega
        have b4 : sketch ((q / 2 ^ f + 1) * 2 ^ f) (psOf sd cn) ≤ sketch y (psOf sd cn) := sketch_le fun p hp => by
          obtain ⟨n, rfl⟩ := Int.eq_ofNat_of_zero_le (ps_nonneg hp)
          by_cases hn : n < f
          · have := fig_zeros (c := q / 2 ^ f + 1) hn
            have := fig_bd y n
            omega
          · rw [fig_eq, fig_eq, Int.toNat_natCast, alike_up (k := f) (n := n) (by omega) (b3.trans zf.symm)]
            exact Int.le_refl _
        have b5 : ¬ y < q := fun h => by
          have := div_mono (Int.le_of_lt h) f
          omega
        omega
      · obtain ⟨c1, c2, c3, c4⟩ := hout y ((q / 2 ^ f + 1) * 2 ^ f) (hsub y hy) h fun k hk => hlow _ k ze hk
        omega
end Mine

end -- P9
section -- R6
open PySem PySem.W PyProof.Rows PySem.Calls
namespace Mine
section
variable {prog : Program} {w : World} {A : PySem.Around} {E : Value → Shared → Prop} {s : Shared} {env : Env} {h₀ : Heap} {x : Str} {body : List Stmt} {Q : Flow → Shared → Prop} {news : List (Addr × Obj)}
/-- A loop over a range, by what holds between two turns; what is told may grow. -/
theorem loop_rng2 {r : Addr} {a₀ b₀ : Int} {t₀ u₀ v₀ : Tok} {n : Nat} {m₀ : Str → Option Value} (J : (Str → Option Value) → List (Addr × Obj) → Prop)
    (hh : A.handled = none) (hr : IsRange s.heap r a₀ b₀ 1 t₀ u₀ v₀) (hsmall : Builtin.Range.small a₀ b₀ 1 = true) (hn : Builtin.Range.rangeSize a₀ b₀ 1 = (n : Int)) (F : Fr h₀ env.locals s.heap m₀) (N : News h₀ env.locals s.heap news) (hj : J m₀ news)
    (turn : ∀ (i : Nat) t m₁ nx h tk I own, i < n → J m₁ nx → (∀ q ∈ own, q.1 = I) → (∃ oI, (I, oI) ∈ own) → (∀ q ∈ nx, q.1 ≠ I) → Fr h₀ env.locals h (fun y => if y = x then some (.int (a₀ + (i : Int)) t) else m₁ y) → News h₀ env.locals h (nx ++ own) →
      wpAny (model prog w) A (execs body env) (TurnPost h₀ env.locals J I own { s with heap := h, toks := tk } Q) E { s with heap := h, toks := tk })
    (done : ∀ m₁ nx h tk, J m₁ nx → Fr h₀ env.locals h m₁ → News h₀ env.locals h nx → Q .next { s with heap := h, toks := tk }) :
    wpAny (model prog w) A (pyIter (.ref r)) (fun it s₂ => LoopAtV prog w A h₀ env x body Q E it s₂) E s := by
  refine wpAny_pyIter_range hr hsmall ?_
  have W : Walks prog w A s.heap.objs.size [s.heap.objs.size] [s.heap.objs.size] n (fun i v => i < n ∧ ∃ t, v = .int (a₀ + i * 1) t)
      (fun i h => IsRangeIter h s.heap.objs.size (a₀ + (i : Nat) * 1) ((n : Int) - (i : Nat)) 1) := (Walks.range hh _ a₀ 1 n).bound
  refine ⟨_, _, _, n, _, _, m₀, news, fun _ m₁ nx => J m₁ nx, rfl, W, ?_, ?_, ?_, ?_, F.push _, fun p hp => ⟨Heap.get?_push_of_some _ (N p hp).1, (N p hp).2⟩, hj, ?_, ?_⟩
  · intro hm
    exact absurd F.ns.lt ((List.mem_singleton.mp hm) ▸ Nat.lt_irrefl _)
  · intro b hb
    rw [List.mem_singleton.mp hb]
    exact next_is_new F
  · intro p hp hI
    exact absurd (Heap.lt_size (N p hp).1) ((List.mem_singleton.mp hI) ▸ Nat.lt_irrefl _)
  · show IsRangeIter _ _ _ _ _
    rw [hn]
    simpa using Heap.get?_push_size _ rfl
  · rintro i v m₁ nx s₁ own ⟨h, tk, rfl⟩ hi ⟨_, t, rfl⟩ hJ hoff hown _ hall hst F₁ N₁
    have e1 : a₀ + (i : Int) * 1 = a₀ + (i : Int) := by omega
    rw [e1] at F₁
    refine wpAny_mono (turn i t m₁ nx h tk s.heap.objs.size own hi hJ (fun q hq => List.mem_singleton.mp (hown q hq)) ⟨_, hall _ (List.mem_singleton.mpr rfl) (next_is_new F) _ hst⟩ (fun q hq e => hoff q hq (List.mem_singleton.mpr e)) F₁ (fun q hq => N₁ q ?_)) (fun f s₂ p => ?_) fun _ _ e => e
    · rcases List.mem_append.mp hq with hq | hq
      · exact List.mem_append_right _ hq
      · exact List.mem_append_left _ hq
    · have fin : TurnEnd h₀ env.locals J s.heap.objs.size own { s with heap := h, toks := tk } s₂ → LoopStepU h₀ env.locals [s.heap.objs.size] own (fun m₁ nx => J m₁ nx) { s with heap := h, toks := tk } .next s₂ := by
        rintro ⟨h', tk', m', nx', rfl, F', N', off', hJ'⟩
        refine LoopStepU.intro F' (fun q hq => N' q ?_) (fun q hq e => off' q hq (List.mem_singleton.mp e)) hJ'
        rcases List.mem_append.mp hq with hq | hq
        · exact List.mem_append_right _ hq
        · exact List.mem_append_left _ hq
      cases f with
      | ret v => exact .ret p
      | brk => exact .brk p
      | next => exact .next (fin p)
      | cont => exact .cont (fin p)
  · intro h' tk m' nx' F' N' _ hJ
    exact done m' nx' h' tk hJ F' N'
end
end Mine

end -- R6
section -- L3
local macro_rules | `(tactic| walk_at "mine blank") => `(tactic| skip)
theorem Mine.fresh_L3 : True := by
  w_top off
  k_with_none
  exact True.intro
open PySem PySem.W PyProof.Rows
namespace Mine
local macro_rules | `(tactic| k_mem) => `(tactic| first | exact List.Mem.head _ | assumption | (refine' List.Mem.tail _ ?_; k_mem))
local macro_rules | `(tactic| walk_at "call builtin:len") => `(tactic| (k_here; (with_reducible show wpAny _ _ (call (Value.builtin "len") [Value.ref _]) _ _ _); (k_dflt (refine' len_mine ?k1 ?k2 ?k3 ?k4 ?_; (case k1 => k_asm); (case k2 => k_mem); (case k3 => assumption); (case k4 => omega); k_whole)); intro t' tk'; (try dsimp only)))
local macro_rules | `(tactic| walk_at "eval ListComp") => `(tactic| (k_here; (with_reducible show wpAny _ _ (eval (PySem.Expr.ListComp _ [PySem.Comprehension.mk _ _ [] _] _ _) _) _ _ _); k_dflt (refine comp_U (F₀ := by k_asm) (by with_unfolding_all rfl) (by decide) (by rfl) (by decide) (by rfl) ?_)))
local macro_rules | `(tactic| walk_at "eval ListComp") => `(tactic| (k_here; (with_reducible show wpAny _ _ (eval (PySem.Expr.ListComp _ [PySem.Comprehension.mk _ _ [_] _] _ _) _) _ _ _); k_dflt (refine comp_T (F₀ := by k_asm) (by with_unfolding_all rfl) (by decide) (by rfl) (by decide) (by rfl) ?_)))
local macro_rules | `(tactic| walk_at "exec For") => `(tactic| (k_here; (rename Fr _ _ _ _ => lF'); (with_unfolding_all refine' For_invVF lF' ?k1 ?k2 ?_; (case k1 => exact rfl); (case k2 => exact rfl); k_whole)))
local macro_rules | `(tactic| walk_at "exec For Name Call cons nil") => `(tactic| (k_here; (rename Fr _ _ _ _ => lF'); (with_unfolding_all refine' For_invVF lF' ?k1 ?k2 ?_; (case k1 => exact rfl); (case k2 => exact rfl); k_whole)))
local macro_rules | `(tactic| walk_at "call ref") => `(tactic| k_extra "call ref")
local macro_rules | `(tactic| walk_at "pyIter ref") => `(tactic| refine iter_at ?_)
local macro_rules | `(tactic| k_all) => `(tactic| assumption)
/-- What holds between two turns. -/
def Inv (aSk aPg rowA L : Addr) (wSk wPg cv : List Value) (cc : Nat) (o4 oRo oSi : Obj) (tl : List (Addr × Obj)) (ps : List (Str × Value)) (m : Str → Option Value) (nx : List (Addr × Obj)) : Prop :=
  (∀ q ∈ ps, m q.1 = some q.2) ∧ ∃ o5 v5 tb, nx = LedR aSk aPg rowA L wSk wPg cv cc o5 o4 oRo oSi ++ (TabIn tb ++ tl) ∧ o5.data = .cell v5 ∧ TabOk lamQ tb ∧ TabOff tb (LedR aSk aPg rowA L wSk wPg cv cc o5 o4 oRo oSi ++ tl)
theorem frame_as {m : Str → Option Value} {ps : List (Str × Value)} (h : ∀ q ∈ ps, m q.1 = some q.2) : m = kstB m ps := funext fun _ => (kstB_eq h fun _ => rfl).symm
theorem app3 {a b c d e f g : Addr × Obj} {x y : List (Addr × Obj)} : a :: b :: c :: d :: e :: f :: g :: (x ++ y) = [a, b, c, d, e, f, g] ++ (x ++ y) := rfl
theorem led_ne {I : Addr} {aSk aPg rowA L : Addr} {wSk wPg cv : List Value} {cc : Nat} {o5 o5' o4 oRo oSi : Obj} (h : ∀ q ∈ LedR aSk aPg rowA L wSk wPg cv cc o5 o4 oRo oSi, q.1 ≠ I) : ∀ q ∈ LedR aSk aPg rowA L wSk wPg cv cc o5' o4 oRo oSi, q.1 ≠ I := by
  intro q hq
  simp only [LedR, List.mem_cons, List.not_mem_nil, or_false] at hq
  rcases hq with rfl | rfl | rfl | rfl | rfl | rfl | rfl
  · exact h _ (.head _)
  · exact h _ (.tail _ (.head _))
  · exact h _ (.tail _ (.tail _ (.head _)))
  · exact h (_, o5) (.tail _ (.tail _ (.tail _ (.head _))))
  · exact h _ (.tail _ (.tail _ (.tail _ (.tail _ (.head _)))))
  · exact h _ (.tail _ (.tail _ (.tail _ (.tail _ (.tail _ (.head _))))))
  · exact h _ (.tail _ (.tail _ (.tail _ (.tail _ (.tail _ (.tail _ (.head _)))))))
theorem law_loop {w : World} {mean : ExcName → Option Value} {mg mb : Str → Option Value} {p : Program} {loose : List Str} {fa L rowA aSk aPg : Addr} {cd : Value} {h₀ : Heap} {s : Shared} {Q : Flow → Shared → Prop} {E1 : Value → Shared → Prop} {cv wSk wPg : List Value} {cn sk ps : List Int} {cc : Nat} {o5 o4 oRo oSi : Obj} {sd mask : Int} {t9 tm : Tok} {m₀ : Str → Option Value}
    (B : Below callerA h₀ [] h₀) (F : Fr h₀ L s.heap m₀) (hm1 : m₀ (Str.ofString "mask") = some (.int mask tm)) (hm2 : m₀ (Str.ofString "sketches") = some (.ref aSk)) (X : (hd.heap_39 w.params).In h₀) (T : Top p loose mean mg mb h₀) (CH : CodeHd h₀ 68 64)
    (N : News h₀ L s.heap (LedR aSk aPg rowA L wSk wPg cv cc o5 o4 oRo oSi ++ TabIn none)) (off : TabOff none (LedR aSk aPg rowA L wSk wPg cv cc o5 o4 oRo oSi ++ []))
    (d5 : o5.data = .cell none) (d4 : o4.data = .cell (some (.ref aPg))) (dRo : oRo.data = .cell (some (.ref rowA))) (dSi : oSi.data = .cell (some (.int sd t9))) (h64 : @LT.lt Nat _ 64 L) (hrow : @LT.lt Nat _ (L + 1 + 1 + 1 + 1 + 1) rowA) (hapg : @Ne Nat (L + 1 + 1 + 1 + 1 + 1) aPg) (hask : @Ne Nat (L + 1 + 1 + 1 + 1 + 1) aSk)
    (hsd : sd = 1 ∨ sd = -1) (hf : IntsAre cv cn) (iSk : IntsAre wSk sk) (iPg : IntsAre wPg ps) (hskl : sk.length = cn.length) (hu : Up cn) (husk : Up sk) (hpsb : ∀ q ∈ ps, 0 ≤ q ∧ q ≤ 6) (hb : ∀ y ∈ cn, 0 ≤ y ∧ y < 128) (hl1 : 1 ≤ cn.length) (hl5 : cn.length ≤ 5) (hmk0 : 64 ≤ mask) (hmk : mask < 128) (hplain : ∀ i : Int, 0 ≤ i → i < cn.length → Plain sd cn sk ps i)
    (hret : ∀ h' tk' m' tb, Fr h₀ L h' m' → News h₀ L h' (TabIn tb) → Q (.ret (.bool true)) { s with heap := h', toks := tk' }) :
    wpAny (model PySem.Challenge.rw_rs0043_01.row.prog w) (callerA.deeper (envOfC (Str.ofString "law") lawScope L fa cd)) (execs lawLoop (envOfC (Str.ofString "law") lawScope L fa cd)) Q
      (fun e s' => wpAny (model PySem.Challenge.rw_rs0043_01.row.prog w) (callerA.deeper (envOfC (Str.ofString "law") lawScope L fa cd)) (leaving (envOfC (Str.ofString "law") lawScope L fa cd) e) (fun _ s'' => E1 e s'') (fun e' s'' => E1 e' s'') s') s := by
  revert X
  k_fill
  intro X
  have em := frame_as (m := m₀) (ps := [(Str.ofString "mask", .int mask tm), (Str.ofString "sketches", .ref aSk)]) (List.forall_mem_cons.mpr ⟨hm1, List.forall_mem_cons.mpr ⟨hm2, List.forall_mem_nil _⟩⟩)
  rw [em] at F
  simp only [kstB] at F
  dsimp only [List.cons_append, List.nil_append] at N
  dsimp only [lawLoop, lawBody, lawScope, PySem.Challenge.pw_rs0043_01, List.getLast?, List.getLast, List.drop]
  k_with_none
  have hbd : ∀ j, 0 ≤ cn.getD j 0 ∧ cn.getD j 0 < 128 := getD_bd hb
  k_steps
  unfold IterAt
  refine loop_rng2 (Inv aSk aPg rowA L wSk wPg cv cc o4 oRo oSi [] [(Str.ofString "mask", .int mask tm), (Str.ofString "sketches", .ref aSk)]) rfl (by assumption) (small_one (by omega) (by omega) (by omega) (by omega)) (rangeSize_nat _ _) (by k_asm) (by k_asm) ⟨by kst_all, o5, none, none, rfl, d5, trivial, off⟩ ?_ ?_
  · intro i ti m₁ nx h tk I own hi hJ hown hex hoff F1 N1
    obtain ⟨hm, o5, v5, tb, rfl, d5, ok, off⟩ := hJ
    rw [frame_as hm] at F1
    simp only [kstB] at F1
    simp only [List.append_nil, List.append_assoc, List.cons_append, List.nil_append] at N1
    k_steps
    unfold IterAt
    have hown2 : TabOff tb (LedR aSk aPg rowA L wSk wPg cv cc o5 o4 oRo oSi ++ own) := by
      intro q hq z hz e
      rcases List.mem_append.mp hq with hq | hq
      · exact off q (List.mem_append_left _ hq) z hz e
      · exact hoff z (List.mem_append_right _ (List.mem_append_left _ hz)) (e.trans (hown q hq))
    refine loop_rng2 (n := 8) (Inv aSk aPg rowA L wSk wPg cv cc o4 oRo oSi own [(Str.ofString "low", .int (0 + (i : Int)) ti), (Str.ofString "mask", .int mask tm), (Str.ofString "sketches", .ref aSk)]) rfl (by assumption) (by decide) (by rfl) (by k_asm) (by k_asm) ⟨by kst_all, o5, v5, tb, app3, d5, ok, hown2⟩ ?_ ?_
    · intro j tj m₂ nx2 h2 tk2 I2 own2 hj hJ2 hown2' hex2 hoff2 F2 N2
      obtain ⟨hm2, o5, v5, tb, rfl, d5, ok, off⟩ := hJ2
      rw [frame_as hm2] at F2
      simp only [kstB] at F2
      have N2' : News h₀ L h2 (LedR aSk aPg rowA L wSk wPg cv cc o5 o4 oRo oSi ++ (TabIn tb ++ (own ++ own2))) := by
        have := N2
        simp only [List.append_assoc] at this ⊢
        exact this
      have htl : ∀ q ∈ TabIn tb ++ (own ++ own2), q.1 ≠ L + 1 + 1 + 1 + 1 + 1 := by
        intro q hq e
        rcases List.mem_append.mp hq with hq | hq
        · exact off _ (List.mem_append_left _ (.tail _ (.tail _ (.tail _ (.head _))))) q hq e
        · rcases List.mem_append.mp hq with hq | hq
          · exact hoff _ (List.mem_append_left _ (.tail _ (.tail _ (.tail _ (.head _))))) (e.symm.trans (hown q hq))
          · exact hoff2 _ (List.mem_append_left _ (.tail _ (.tail _ (.tail _ (.head _))))) (e.symm.trans (hown2' q hq))
      have offx : TabOff tb (LedR aSk aPg rowA L wSk wPg cv cc o5 o4 oRo oSi ++ (own ++ own2)) := by
        intro q hq z hz e
        rcases List.mem_append.mp hq with hq | hq
        · exact off q (List.mem_append_left _ hq) z hz e
        · rcases List.mem_append.mp hq with hq | hq
          · exact off q (List.mem_append_right _ hq) z hz e
          · exact hoff2 z (List.mem_append_right _ (List.mem_append_left _ hz)) (e.trans (hown2' q hq))
      refine law_turn B F2 X T CH N2' ok offx htl d5 d4 dRo dSi h64 hrow hapg hask hsd hf iSk iPg hskl husk hpsb hb hl5 hmk0 hmk (by omega) (by omega) (by omega) (by omega) (hplain _ (by omega) (by omega)) ?_
      intro o5' v5' tb' m' h' tk' e5 ok' off' hlo hma hsc F' N'
      obtain ⟨oI2, hI2⟩ := hex2
      refine ⟨h', tk', m', LedR aSk aPg rowA L wSk wPg cv cc o5' o4 oRo oSi ++ (TabIn tb' ++ own), rfl, F', ?_, ?_, ?_, o5', v5', tb', rfl, e5, ok', ?_⟩
      · simp only [List.append_assoc] at N' ⊢
        exact N'
      · intro q hq e
        rcases List.mem_append.mp hq with hq | hq
        · exact led_ne (fun x hx => hoff2 x (List.mem_append_left _ hx)) q hq e
        · rcases List.mem_append.mp hq with hq | hq
          · exact off' _ (List.mem_append_right _ (List.mem_append_right _ hI2)) q hq e
          · exact hoff2 q (List.mem_append_right _ (List.mem_append_right _ hq)) e
      · exact List.forall_mem_cons.mpr ⟨hlo, List.forall_mem_cons.mpr ⟨hma, List.forall_mem_cons.mpr ⟨hsc, List.forall_mem_nil _⟩⟩⟩
      · intro q hq z hz e
        rcases List.mem_append.mp hq with hq | hq
        · exact off' q (List.mem_append_left _ hq) z hz e
        · exact off' q (List.mem_append_right _ (List.mem_append_left _ hq)) z hz e
    · intro m₂ nx2 h2 tk2 hJ2 F2 N2
      obtain ⟨hm2, o5, v5, tb, rfl, d5, ok, off⟩ := hJ2
      obtain ⟨oI, hIo⟩ := hex
      k_steps
      refine ⟨h2, tk2, m₂, LedR aSk aPg rowA L wSk wPg cv cc o5 o4 oRo oSi ++ (TabIn tb ++ []), rfl, F2, ?_, ?_, fun q hq => hm2 q (.tail _ hq), o5, v5, tb, rfl, d5, ok, ?_⟩
      · simp only [List.append_nil, List.append_assoc]
        exact N2
      · intro q hq e
        rcases List.mem_append.mp hq with hq | hq
        · exact led_ne (fun x hx => hoff x (List.mem_append_left _ hx)) q hq e
        · rw [List.append_nil] at hq
          exact off _ (List.mem_append_right _ hIo) q hq e
      · intro q hq z hz e
        rw [List.append_nil] at hq
        exact off q (List.mem_append_left _ hq) z hz e
  · intro m₁ nx h tk hJ F1 N1
    obtain ⟨hm, o5, v5, tb, rfl, d5, ok, off⟩ := hJ
    k_steps
    exact hret _ _ _ tb (by k_asm) (kst_newsOf N1 fun q hq => List.mem_append_right _ (List.mem_append_left _ hq))
end Mine

end -- L3
section -- L2
local macro_rules | `(tactic| walk_at "mine blank") => `(tactic| skip)
local macro_rules | `(tactic| walk_at "mine blank") => `(tactic| skip)
local macro_rules | `(tactic| walk_at "mine blank") => `(tactic| skip)
local macro_rules | `(tactic| walk_at "mine blank") => `(tactic| skip)
local macro_rules | `(tactic| walk_at "mine blank") => `(tactic| skip)
local macro_rules | `(tactic| walk_at "mine blank") => `(tactic| skip)
local macro_rules | `(tactic| walk_at "mine blank") => `(tactic| skip)
local macro_rules | `(tactic| walk_at "mine blank") => `(tactic| skip)
local macro_rules | `(tactic| walk_at "mine blank") => `(tactic| skip)
theorem Mine.fresh_L2 : True := by
  w_top off
  k_with_none
  exact True.intro
open PySem PySem.W PyProof.Rows
namespace Mine
local macro_rules | `(tactic| walk_at "callWith ref") => `(tactic| (k_here; k_dflt (refine' callWith_K ?k1 ?k2 ?_; (case k1 => k_asm); (case k2 => k_is); k_whole)))
local macro_rules | `(tactic| k_mem) => `(tactic| first | exact List.Mem.head _ | assumption | (refine' List.Mem.tail _ ?_; k_mem))
local macro_rules | `(tactic| walk_at "call builtin:len") => `(tactic| (k_here; (with_reducible show wpAny _ _ (call (Value.builtin "len") [Value.ref _]) _ _ _); (k_dflt (refine' len_mine ?k1 ?k2 ?k3 ?k4 ?_; (case k1 => k_asm); (case k2 => k_mem); (case k3 => assumption); (case k4 => omega); k_whole)); intro t' tk'; (try dsimp only)))
local macro_rules | `(tactic| walk_at "eval ListComp") => `(tactic| (k_here; (with_reducible show wpAny _ _ (eval (PySem.Expr.ListComp _ [PySem.Comprehension.mk _ _ [] _] _ _) _) _ _ _); k_dflt (refine comp_U (F₀ := by k_asm) (by with_unfolding_all rfl) (by decide) (by rfl) (by decide) (by rfl) ?_)))
local macro_rules | `(tactic| walk_at "eval ListComp") => `(tactic| (k_here; (with_reducible show wpAny _ _ (eval (PySem.Expr.ListComp _ [PySem.Comprehension.mk _ _ [_] _] _ _) _) _ _ _); k_dflt (refine comp_T (F₀ := by k_asm) (by with_unfolding_all rfl) (by decide) (by rfl) (by decide) (by rfl) ?_)))
local macro_rules | `(tactic| walk_at "eval ListComp") => `(tactic| (k_here; (with_reducible show wpAny _ _ (eval (PySem.Expr.ListComp _ [PySem.Comprehension.mk _ (PySem.Expr.Call _ _ _ _) [_] _] _ _) _) _ _ _); k_dflt (refine comp_TD (F₀ := by k_asm) (by with_unfolding_all rfl) (by decide) (by rfl) (by decide) (by rfl) ?_)))
local macro_rules | `(tactic| walk_at "exec Assign cons ListComp") => `(tactic| (k_here; (with_reducible show wpAny _ _ (exec (Stmt.Assign [PySem.Expr.Name _ _] (PySem.Expr.ListComp _ [PySem.Comprehension.mk _ _ [] _] _ _) _) _) _ _ _); k_dflt (refine assign_U (F₀ := by k_asm) (by rfl) (by with_unfolding_all rfl) (by with_unfolding_all rfl) (by decide) (by rfl) (by decide) (by rfl) (by rfl) (by rfl) ?_)))
local macro_rules | `(tactic| walk_at "exec For") => `(tactic| (k_here; (rename Fr _ _ _ _ => lF'); (with_unfolding_all refine' For_invVF lF' ?k1 ?k2 ?_; (case k1 => exact rfl); (case k2 => exact rfl); k_whole)))
local macro_rules | `(tactic| walk_at "exec For Name Call cons nil") => `(tactic| (k_here; (rename Fr _ _ _ _ => lF'); (with_unfolding_all refine' For_invVF lF' ?k1 ?k2 ?_; (case k1 => exact rfl); (case k2 => exact rfl); k_whole)))
local macro_rules | `(tactic| walk_at "call ref") => `(tactic| k_extra "call ref")
theorem law_rest {w : World} {mean : ExcName → Option Value} {mg mb : Str → Option Value} {p : Program} {loose : List Str} {fa L l rowA : Addr} {cd : Value} {h₀ : Heap} {s : Shared} {Q : Flow → Shared → Prop} {E1 : Value → Shared → Prop} {cv : List Value} {cn : List Int} {cc : Nat} {o5 o4 o3 oRo oSi : Obj} {sd mask : Int} {t9 tm : Tok} {u : Str → Option Value}
    (B : Below callerA h₀ [] h₀) (F : Fr h₀ L s.heap (fun y => if y = Str.ofString "number" then u y else if y = Str.ofString "mask" then some (.int mask tm) else if y = Str.ofString "script" then some (.ref l) else none)) (X : (hd.heap_39 w.params).In h₀) (T : Top p loose mean mg mb h₀) (CH : CodeHd h₀ 68 64)
    (N : News h₀ L s.heap [(rowA, W.listOf cv.toArray cc), (L + 1 + 1 + 1 + 1 + 1, o5), (L + 1 + 1 + 1 + 1, o4), (L + 1 + 1 + 1, o3), (L + 1 + 1, oRo), (L + 1, oSi), (64, tabObj #[])])
    (d5 : o5.data = .cell none) (d4 : o4.data = .cell none) (d3 : o3.data = .cell none) (dRo : oRo.data = .cell (some (.ref rowA))) (dSi : oSi.data = .cell (some (.int sd t9))) (h64 : @LT.lt Nat _ 64 L) (hrow : @LT.lt Nat _ (L + 1 + 1 + 1 + 1 + 1) rowA)
    (hsd : sd = 1 ∨ sd = -1) (hf : IntsAre cv cn) (hu : Up cn) (hb : ∀ y ∈ cn, 0 ≤ y ∧ y < 128) (hl1 : 1 ≤ cn.length) (hl5 : cn.length ≤ 5) (hmk0 : 64 ≤ mask) (hmk : mask < 128)
    (hplain : ∀ pt ps sk : List Int, (rangeKs 1 ((cn.length : Int) - 1).toNat).map (fun k => partOf sd (cn.getD (k - 1).toNat 0) (cn.getD k.toNat 0)) = pt → List.filter (fun k : Int => pt.any fun z => z == k) [6, 5, 4, 3, 2, 1, 0] = ps → cn.map (fun y => sketch y ps) = sk → Up sk ∧ ∀ i : Int, 0 ≤ i → i < cn.length → Plain sd cn sk ps i)
    (hret : ∀ h' tk' m' tb, Fr h₀ L h' m' → News h₀ L h' (TabIn tb) → Q (.ret (.bool true)) { s with heap := h', toks := tk' }) :
    wpAny (model PySem.Challenge.rw_rs0043_01.row.prog w) (callerA.deeper (envOfC (Str.ofString "law") lawScope L fa cd)) (execs lawRest (envOfC (Str.ofString "law") lawScope L fa cd)) Q
      (fun e s' => wpAny (model PySem.Challenge.rw_rs0043_01.row.prog w) (callerA.deeper (envOfC (Str.ofString "law") lawScope L fa cd)) (leaving (envOfC (Str.ofString "law") lawScope L fa cd) e) (fun _ s'' => E1 e s'') (fun e' s'' => E1 e' s'') s') s := by
  revert X
  k_fill
  intro X
  dsimp only [lawRest, lawBody, lawScope, PySem.Challenge.pw_rs0043_01, List.getLast?, List.getLast, List.drop]
  k_with_none
  have hbd : ∀ j, 0 ≤ cn.getD j 0 ∧ cn.getD j 0 < 128 := getD_bd hb
  k_steps
  refine src_range (n := ((cn.length : Int) - 1).toNat) (fun k => partOf sd (cn.getD (k - 1).toNat 0) (cn.getD k.toNat 0)) rfl (by k_asm) (by k_asm) (by assumption) (small_one (by omega) (by omega) (by omega) (by omega)) (rangeSize_nat _ _) (by omega) ?_ ?_
  · intro k tk I oI C oC D m₂ ys h tk' E' hk hC hx F'' N''
    have hk' := mem_rangeKs hk
    have hk1 : 1 ≤ k := hk'.1
    have hk2 : k < cn.length := by omega
    k_with "call ref" => (k_dflt (refine' Tell.use (parting _ _ _ _ _ _ (hbd _).1 (hbd _).2 (hbd _).1 (hbd _).2 hsd) ?k1 ?k2 ?k3 ?k4 ?k5 ?k6 ?k7 ?k8 ?_; (case k1 => k_asm); (case k2 => k_asm); (case k3 => k_asm); (case k4 => k_asm); (case k5 => k_asm); (case k6 => first | exact rfl | assumption); (case k7 => ktr_room); (case k8 => ktr_units); k_whole)); intro t' h' tk' F' N'; (try dsimp only)
    k_steps
    exact ElEnd.intro (by k_asm) (by k_asm) rfl
  intro wPd aPd hPd tPd iPd FPd NPd ofPd
  generalize hpt : (rangeKs 1 ((cn.length : Int) - 1).toNat).map _ = pt at iPd
  have hptl : pt.length ≤ 5 := by rw [← hpt, List.length_map, rangeKs_length]; omega
  simp only [LCg.Off1, and_true] at ofPd
  k_with_none
  k_steps
  rename (IsRange _ _ 6 _ _ _ _ _) => hrg
  refine src_down (n := 7) (fun k => pt.any fun z => z == k) id [6, 5, 4, 3, 2, 1, 0] rfl (by k_asm) (by k_asm) hrg (by decide) (by rfl) (by decide) rfl (by decide) ?_ ?_
  · intro k tk I oI C oC D m₂ ys h tk' E' hk hC hx F'' N''
    k_steps
    refine TsEnd.intro (by k_asm) (by k_asm) rfl ?_
    k_steps
    exact ElEnd.intro (by k_asm) (by k_asm) rfl
  intro wPg aPg hPg tPg iPg FPg NPg ofPg
  rw [List.map_id] at iPg
  generalize hps : List.filter (fun k : Int => pt.any fun z => z == k) [6, 5, 4, 3, 2, 1, 0] = ps at iPg
  have hpsb : ∀ q ∈ ps, 0 ≤ q ∧ q ≤ 6 := by
    intro q hq
    rw [← hps] at hq
    have := (List.mem_filter.mp hq).1
    simp only [List.mem_cons, List.not_mem_nil, or_false] at this
    omega
  simp only [LCg.Off1, and_true] at ofPg
  k_steps
  refine src_listA (fun y => sketch y ps) rfl (by k_asm) (by k_asm) (by k_mem) hf (by omega) ?_ ?_
  · intro k tk I oI C oC D m₂ ys h tk' E' hk hC hx F'' N''
    k_with "call ref" => (k_dflt (refine' Tell.use (sketch_ aPg wPg wPg.length ps _ _ ?e1 iPg hpsb) ?k1 ?k2 ?k3 ?k4 ?k5 ?k6 ?k7 ?k8 ?_; (case k1 => k_asm); (case k2 => k_asm); (case k3 => k_asm); (case k4 => k_asm); (case e1 => k_mem); (case k5 => k_asm); (case k6 => first | exact rfl | assumption); (case k7 => ktr_room); (case k8 => ktr_units); k_whole)); intro t' h' tk' F' N'; (try dsimp only)
    k_steps
    exact ElEnd.intro (by k_asm) (by k_asm) rfl
  intro wSk aSk hSk tSk iSk FSk NSk ofSk
  simp only [LCg.Off1, and_true] at ofSk
  rename (_ = Data.cell (some (Value.ref aPg))) => d4'
  generalize hsk : cn.map (fun y => sketch y ps) = sk at iSk
  have hskl : sk.length = cn.length := by rw [← hsk, List.length_map]
  have hfacts := hplain pt ps sk hpt hps hsk
  refine law_loop (cc := cc) B FSk rfl rfl X T CH (kst_newsOf NSk ?_) ?_ d5 d4' dRo dSi h64 hrow ?_ ?_ hsd hf iSk iPg hskl hu hfacts.1 hpsb hb hl1 hl5 hmk0 hmk hfacts.2 hret
  · intro q hq
    simp only [LedR, TabIn, List.mem_append, List.mem_cons, List.not_mem_nil, or_false] at hq ⊢
    rcases hq with (h | h | h | h | h | h | h) | h <;> simp [h]
  · intro q hq z hz
    simp only [LedR, TabIn, List.mem_append, List.mem_cons, List.not_mem_nil, or_false] at hq hz
    subst hz
    rcases hq with rfl | rfl | rfl | rfl | rfl | rfl | rfl <;> (refine neN ?_; dsimp only; omega)
  · refine neN ?_; omega
  · refine neN ?_; omega
end Mine

end -- L2
section -- L1
local macro_rules | `(tactic| walk_at "mine blank") => `(tactic| skip)
theorem Mine.fresh_L1 : True := by
  w_top off
  k_with_none
  exact True.intro
open PySem PySem.W PyProof.Rows
namespace Mine
local macro_rules | `(tactic| walk_at "callWith ref") => `(tactic| (k_here; k_dflt (refine' callWith_K ?k1 ?k2 ?_; (case k1 => k_asm); (case k2 => k_is); k_whole)))
local macro_rules | `(tactic| k_mem) => `(tactic| first | exact List.Mem.head _ | assumption | (refine' List.Mem.tail _ ?_; k_mem))
local macro_rules | `(tactic| walk_at "call builtin:len") => `(tactic| (k_here; (with_reducible show wpAny _ _ (call (Value.builtin "len") [Value.ref _]) _ _ _); (k_dflt (refine' len_mine ?k1 ?k2 ?k3 ?k4 ?_; (case k1 => k_asm); (case k2 => k_mem); (case k3 => assumption); (case k4 => omega); k_whole)); intro t' tk'; (try dsimp only)))
local macro_rules | `(tactic| walk_at "eval ListComp") => `(tactic| (k_here; (with_reducible show wpAny _ _ (eval (PySem.Expr.ListComp _ [PySem.Comprehension.mk _ _ [] _] _ _) _) _ _ _); k_dflt (refine comp_U (F₀ := by k_asm) (by with_unfolding_all rfl) (by decide) (by rfl) (by decide) (by rfl) ?_)))
local macro_rules | `(tactic| walk_at "eval ListComp") => `(tactic| (k_here; (with_reducible show wpAny _ _ (eval (PySem.Expr.ListComp _ [PySem.Comprehension.mk _ _ [_] _] _ _) _) _ _ _); k_dflt (refine comp_T (F₀ := by k_asm) (by with_unfolding_all rfl) (by decide) (by rfl) (by decide) (by rfl) ?_)))
local macro_rules | `(tactic| walk_at "exec For") => `(tactic| (k_here; (rename Fr _ _ _ _ => lF'); (with_unfolding_all refine' For_invVF lF' ?k1 ?k2 ?_; (case k1 => exact rfl); (case k2 => exact rfl); k_whole)))
local macro_rules | `(tactic| walk_at "exec For Name Call cons nil") => `(tactic| (k_here; (rename Fr _ _ _ _ => lF'); (with_unfolding_all refine' For_invVF lF' ?k1 ?k2 ?_; (case k1 => exact rfl); (case k2 => exact rfl); k_whole)))
local macro_rules | `(tactic| walk_at "call ref") => `(tactic| k_extra "call ref")
theorem law_core {w : World} {mean : ExcName → Option Value} {mg mb : Str → Option Value} {p : Program} {loose : List Str} {fa L l : Addr} {cd : Value} {h₀ : Heap} {s : Shared} {Q : Flow → Shared → Prop} {E1 : Value → Shared → Prop} {vs : List Value} {ns : List Int} {o5 o4 o3 o2 o1 : Obj}
    (B : Below callerA h₀ [] h₀) (F : Fr h₀ L s.heap (fun y => if y = Str.ofString "script" then some (.ref l) else none)) (X : (hd.heap_39 w.params).In h₀) (T : Top p loose mean mg mb h₀) (CH : CodeHd h₀ 68 64)
    (N : News h₀ L s.heap [(L + 1 + 1 + 1 + 1 + 1, o5), (L + 1 + 1 + 1 + 1, o4), (L + 1 + 1 + 1, o3), (L + 1 + 1, o2), (L + 1, o1), (64, tabObj #[])])
    (d5 : o5.data = .cell none) (d4 : o4.data = .cell none) (d3 : o3.data = .cell none) (d2 : o2.data = .cell none) (d1 : o1.data = .cell none) (h64 : @LT.lt Nat _ 64 L)
    (hl : h₀.IsList l vs.toArray) (hI : IntsAre vs ns) (hlen : ns.length ≤ 63) (hLay : (PyData.list (ns.map PyData.int)).layable0 = true)
    (hret : ∀ h' tk' m' tb, Fr h₀ L h' m' → News h₀ L h' (TabIn tb) → Q (.ret (.bool true)) { s with heap := h', toks := tk' }) :
    wpAny (model PySem.Challenge.rw_rs0043_01.row.prog w) (callerA.deeper (envOfC (Str.ofString "law") lawScope L fa cd)) (execs lawBody (envOfC (Str.ofString "law") lawScope L fa cd)) Q
      (fun e s' => wpAny (model PySem.Challenge.rw_rs0043_01.row.prog w) (callerA.deeper (envOfC (Str.ofString "law") lawScope L fa cd)) (leaving (envOfC (Str.ofString "law") lawScope L fa cd) e) (fun _ s'' => E1 e s'') (fun e' s'' => E1 e' s'') s') s := by
  revert X
  k_fill
  intro X
  dsimp only [lawBody, lawScope, PySem.Challenge.pw_rs0043_01, List.getLast?, List.getLast]
  k_with_none
  walk1
  walk1
  refine cut_val IsSide (by k_asm) (by k_asm) ?_ ?_
  · k_steps
    all_goals exact ValEnd.intro (by k_asm) (by k_asm) ⟨_, _, rfl, by decide⟩
  intro v9 h9 tk9 hv9 F9 N9
  obtain ⟨sd, t9, rfl, hsd⟩ := hv9
  k_steps
  rename_i oSi dSi h2 tk2 t2 h3 hx3 rowA h4 lq1 h5 oRo dRo A90 h6 lq2 Dsl wsl h7 hIsl hC hLt lq3 Dit wit h8 F8 N8 hIit lq4
  refine kst_listL (σ := List Value × List Int × Nat) (fun c => [(rowA, W.listOf c.1.toArray c.2.2), (Dit, W.listOf wit.toArray 0), (L + 1 + 1 + 1 + 1 + 1, o5), (L + 1 + 1 + 1 + 1, o4), (L + 1 + 1 + 1, o3), (L + 1 + 1, oRo), (L + 1, oSi), (64, tabObj #[])])
    (fun _ => []) (fun c => IntsAre c.1 c.2.1) [] (fun pre c => RowOk pre c.2.1) ([], [], 0) rfl (fun _ => .tail _ (.head _)) hIit F8 (kst_newsOf N8 (by intro q hq; simp only [List.mem_cons, List.not_mem_nil, or_false] at hq ⊢; rcases hq with hq | hq | hq | hq | hq | hq | hq | hq <;> simp [hq])) .nil (by kst_all) ⟨fun i j _ h => absurd h (Nat.not_lt_zero _), fun y hy => (nomatch hy), rfl⟩ ?turn ?done
  case turn =>
    intro c pre post n tn u h tk own e hn hoff hf hP F' N'
    obtain ⟨cv, cn, cc⟩ := c
    dsimp only at hf hP F' N'
    simp only [kstB, List.contains_nil, Bool.false_eq_true, if_false, List.cons_append, List.nil_append] at F' N'
    have hlp : pre.length ≤ 5 := by
      have h5 := congrArg List.length e
      simp only [List.length_append, List.length_cons, List.length_nil] at h5
      omega
    have hrl := hP.2.2
    have hrest : ∀ q ∈ ((Dit, W.listOf wit.toArray 0) :: (L + 1 + 1 + 1 + 1 + 1, o5) :: (L + 1 + 1 + 1 + 1, o4) :: (L + 1 + 1 + 1, o3) :: (L + 1 + 1, oRo) :: (L + 1, oSi) :: (64, tabObj #[]) :: own), q.1 ≠ rowA := by
      refine List.forall_mem_cons.mpr ⟨by refine neN ?_; dsimp only; omega, List.forall_mem_cons.mpr ⟨by refine neN ?_; dsimp only; omega, List.forall_mem_cons.mpr ⟨by refine neN ?_; dsimp only; omega, List.forall_mem_cons.mpr ⟨by refine neN ?_; dsimp only; omega, List.forall_mem_cons.mpr ⟨by refine neN ?_; dsimp only; omega, List.forall_mem_cons.mpr ⟨by refine neN ?_; dsimp only; omega, List.forall_mem_cons.mpr ⟨by refine neN ?_; dsimp only; omega, ?_⟩⟩⟩⟩⟩⟩⟩
      exact fun q hq => hoff q hq rowA (.head _)
    k_with "call ref" => (k_dflt (refine' TellU.use (insort _ _ _ _ _ _ hf (by omega) hP.1 (.head hrest)) ?k1 ?k2 ?k3 ?k4 ?k5 ?k6 ?k7 ?k8 ?_; (case k1 => k_asm); (case k2 => k_asm); (case k3 => k_asm); (case k4 => k_asm); (case k5 => k_asm); (case k6 => first | exact rfl | assumption); (case k7 => ktr_room); (case k8 => ktr_units); k_whole)); intro t' h' tk' F' N'; (try dsimp only)
    k_steps
    refine kst_end (kl_ins cv (0 + cnt cn (leB (n.fmod 128)) 0 cn.length) (.int (n.fmod 128) _), insAt cn (0 + cnt cn (leB (n.fmod 128)) 0 cn.length) (n.fmod 128), cc + 1) (by k_asm) (by k_asm) (fun q hq => List.mem_append_left _ hq) (fun q hq => List.mem_append_right _ hq) rfl (ints_ins hf (by have := cnt_nonneg cn (leB (n.fmod 128)) 0 cn.length; omega) _ _) (by kst_all) (by intro z h1 h2 h3; simp [h1]) (row_step n hP)
  case done =>
    intro c u h tk hf hP F' N'
    obtain ⟨cv, cn, cc⟩ := c
    dsimp only at hf hP F' N'
    simp only [kstB, List.contains_nil, Bool.false_eq_true, if_false] at F'
    have hln := hP.2.2
    simp only [List.length_append, List.length_cons, List.length_nil, List.length_take] at hln
    have hmk := fmod_bd ns.sum (m := 64) (by decide)
    refine law_rest (cc := cc) B F' X T CH (kst_newsOf N' ?_) d5 d4 d3 dRo dSi h64 (by omega) hsd hf hP.1 hP.2.1 (by omega) (by omega) (by omega) (by omega) ?_ hret
    · intro q hq
      rcases List.mem_cons.mp hq with rfl | hq
      · exact .head _
      · exact .tail _ (.tail _ hq)
    · intro pt ps sk e1 e2 e3
      subst e1
      subst e2
      subst e3
      exact ⟨up_sk hsd hP.1 hP.2.1, fun i h0 h1 => plain_all hsd hP.1 hP.2.1 h0 h1⟩
end Mine

end -- L1
section -- MAIN
local macro_rules | `(tactic| walk_at "mine blank") => `(tactic| skip)
local macro_rules | `(tactic| walk_at "mine blank") => `(tactic| skip)
local macro_rules | `(tactic| walk_at "mine blank") => `(tactic| skip)
local macro_rules | `(tactic| walk_at "mine blank") => `(tactic| skip)
local macro_rules | `(tactic| walk_at "mine blank") => `(tactic| skip)
local macro_rules | `(tactic| walk_at "mine blank") => `(tactic| skip)
local macro_rules | `(tactic| walk_at "mine blank") => `(tactic| skip)
local macro_rules | `(tactic| walk_at "mine blank") => `(tactic| skip)
local macro_rules | `(tactic| walk_at "mine blank") => `(tactic| skip)
theorem Mine.fresh_MAIN : True := by
  w_top off
  k_with_none
  exact True.intro
open PySem PySem.W PyProof.Rows
open Mine
theorem PySem.Challenge.cw_rs0043_01_holds : PySem.Challenge.rw_rs0043_01.Holds :=
  hd (by
  k_with_none
  w_strict (k_go0; (all_goals try k_fold); (refine law_core (by assumption) (by assumption) (by assumption) (by assumption) (by assumption) (by assumption) (by assumption) (by assumption) (by assumption) (by assumption) (by assumption) (by assumption) (by assumption) (by assumption) (by omega) (by assumption) ?_); intro h' tk' m' tb F' N'; refine ⟨?_, ?_⟩; (rotate_left; (refine ⟨?_, True.intro⟩; cases tb <;> exact ⟨_, (N' _ (.head _)).1⟩)); (try dsimp only); k_steps; all_goals w_report))

end -- MAIN
