import PyProof.Rows.All
import Wide.All
import OpenK.AllK
import Wide.FinOn
import PySem.Challenge.RW_qu0002_01
open PySem PySem.W PyProof.Rows
set_option Elab.async false
namespace Mine
set_option maxRecDepth 100000 in
set_option maxHeartbeats 8000000 in
open_top hd for PySem.Challenge.rw_qu0002_01
section partR1
structure Stop (P : Prop) : Prop where
  out : P
/-- what a turn leaves, for a while or a for -/
def After {σ : Type} (h₀ : Heap) (L : Addr) (s : Shared) (Led : σ → List (Addr × Obj)) (ps : σ → List (Str × Value)) (off : Str → Prop) (m₀ : Str → Option Value) (P : σ → Prop) (s₂ : Shared) : Prop :=
  ∃ (c' : σ) (h' : Heap) (tk : Nat) (m' : Str → Option Value) (news' : List (Addr × Obj)), s₂ = { s with heap := h', toks := tk } ∧ Fr h₀ L h' m' ∧ News h₀ L h' news' ∧ (∀ p ∈ Led c', p ∈ news') ∧
    (∀ p ∈ ps c', m' p.1 = some p.2) ∧ (∀ z, (∀ p ∈ ps c', z ≠ p.1) → ¬ off z → m' z = m₀ z) ∧ P c'
theorem after {σ : Type} {h₀ : Heap} {L : Addr} {s : Shared} {Led : σ → List (Addr × Obj)} {ps : σ → List (Str × Value)} {off : Str → Prop} {m₀ : Str → Option Value} {P : σ → Prop} {h' : Heap} {tk : Nat} {m' : Str → Option Value} {news' : List (Addr × Obj)} (c' : σ)
    (F : Fr h₀ L h' m') (N : News h₀ L h' news') (hn : ∀ p ∈ Led c', p ∈ news') (hk : ∀ p ∈ ps c', m' p.1 = some p.2) (hr : ∀ z, (∀ p ∈ ps c', z ≠ p.1) → ¬ off z → m' z = m₀ z) (hp : P c') :
    After h₀ L s Led ps off m₀ P { s with heap := h', toks := tk } := ⟨c', h', tk, m', news', rfl, F, N, hn, hk, hr, hp⟩
def AfterW {σ : Type} (h₀ : Heap) (L : Addr) (s : Shared) (Led : σ → List (Addr × Obj)) (ps : σ → List (Str × Value)) (off : Str → Prop) (m₀ : Str → Option Value) (P : σ → Prop) (Q : Flow → Shared → Prop) (f : Flow) (s₂ : Shared) : Prop :=
  match f with
  | .ret v => Q (.ret v) s₂
  | .brk => Q .next s₂
  | _ => Stop (After h₀ L s Led ps off m₀ P s₂)
/-- the frame: the letters, then what is kept -/
def lay (off : Str → Prop) [DecidablePred off] (u m₀ : Str → Option Value) (ps : List (Str × Value)) : Str → Option Value := kstB (fun z => if off z then u z else m₀ z) ps
theorem lay_eq {off : Str → Prop} [DecidablePred off] {m₀ m₁ : Str → Option Value} {ps : List (Str × Value)} (h1 : ∀ p ∈ ps, m₁ p.1 = some p.2) (h2 : ∀ z, (∀ p ∈ ps, z ≠ p.1) → ¬ off z → m₁ z = m₀ z) : m₁ = lay off m₁ m₀ ps := by
  funext y
  refine (kstB_eq h1 fun hn => ?_).symm
  show (if off y then m₁ y else m₀ y) = m₁ y
  by_cases h : off y
  · rw [if_pos h]
  · rw [if_neg h]; exact (h2 y hn h).symm
section
variable {prog : Program} {w : World} {A : Around} {Q : Flow → Shared → Prop} {s : Shared} {env : Env} {h₀ : Heap} {L : Addr}
theorem while_rule {σ : Type} {test : Expr} {body orelse : List Stmt} {pos : Pos} {m₀ : Str → Option Value} (Led : σ → List (Addr × Obj)) (ps : σ → List (Str × Value)) (off : Str → Prop) [DecidablePred off] (P : σ → Prop) (μ : σ → Nat) (c₀ : σ)
    (F : Fr h₀ L s.heap m₀) (N : News h₀ L s.heap (Led c₀)) (hk : ∀ p ∈ ps c₀, m₀ p.1 = some p.2) (hp : P c₀)
    (turn : ∀ (c : σ) (u : Str → Option Value) h tk, P c → Fr h₀ L h (lay off u m₀ (ps c)) → News h₀ L h (Led c) →
      wpAny (model prog w) A (isTrue test env (eval test env)) (fun b s₂ =>
        if b = true then wpAny (model prog w) A (execs body env) (AfterW h₀ L s Led ps off m₀ (fun c' => P c' ∧ μ c' < μ c) Q) (fun _ _ => False) s₂
        else wpAny (model prog w) A (execs orelse env) Q (fun _ _ => False) s₂) (fun _ _ => False) { s with heap := h, toks := tk }) :
    wpAny (model prog w) A (exec (.While test body orelse pos) env) Q (fun _ _ => False) s := by
  have hE : PassesOwn (model prog w) A env (fun _ _ => False) := PassesOwn.never
  refine wpAny_While (codeAny_whileLoop (fun n s' => ∃ c h₁ tk₁ m₁, s' = { s with heap := h₁, toks := tk₁ } ∧ Fr h₀ L h₁ m₁ ∧ News h₀ L h₁ (Led c) ∧ μ c = n ∧ (∀ p ∈ ps c, m₁ p.1 = some p.2) ∧ (∀ z, (∀ p ∈ ps c, z ≠ p.1) → ¬ off z → m₁ z = m₀ z) ∧ P c) ?_ (μ c₀) ⟨c₀, s.heap, s.toks, m₀, rfl, F, N, rfl, hk, fun _ _ _ => rfl, hp⟩)
  rintro n s' ⟨c, h₁, tk₁, m₁, rfl, F₁, N₁, rfl, k1, k2, P₁⟩
  refine wpAny_mono (turn c m₁ h₁ tk₁ P₁ (lay_eq k1 k2 ▸ F₁) N₁) (fun b s₂ h₂ => ?_) hE
  cases b with
  | false =>
    simp only [Bool.false_eq_true, if_false] at h₂ ⊢
    exact wpAny_mono h₂ (fun _ _ x => x) hE
  | true =>
    simp only [if_true] at h₂ ⊢
    refine wpAny_mono h₂ (fun f s₃ h₃ => ?_) hE
    cases f with
    | next =>
      obtain ⟨c', h', tk, m', news', rfl, F', N', hn, hk', hr', hp', hm'⟩ := h₃.out
      exact ⟨_, hm', c', h', tk, m', rfl, F', fun p hp => N' p (hn p hp), rfl, hk', hr', hp'⟩
    | cont =>
      obtain ⟨c', h', tk, m', news', rfl, F', N', hn, hk', hr', hp', hm'⟩ := h₃.out
      exact ⟨_, hm', c', h', tk, m', rfl, F', fun p hp => N' p (hn p hp), rfl, hk', hr', hp'⟩
    | brk => exact h₃
    | ret v => exact h₃
theorem range_rule {σ : Type} {x : Str} {body : List Stmt} {r : Addr} {a₀ b₀ k₀ : Int} {t₀ u₀ v₀ : Tok} {n : Nat} {m₀ : Str → Option Value} (Led : σ → List (Addr × Obj)) (adr : List Addr) (hadr : ∀ c, (Led c).map (·.1) = adr) (ps : σ → List (Str × Value)) (off : Str → Prop) [DecidablePred off] (P : Nat → σ → Prop) (c₀ : σ)
    (hh : A.handled = none) (hr : IsRange s.heap r a₀ b₀ k₀ t₀ u₀ v₀) (hsmall : Builtin.Range.small a₀ b₀ k₀ = true) (hn : Builtin.Range.rangeSize a₀ b₀ k₀ = (n : Int))
    (F : Fr h₀ env.locals s.heap m₀) (N : News h₀ env.locals s.heap (Led c₀)) (hk : ∀ p ∈ ps c₀, m₀ p.1 = some p.2) (hp : P 0 c₀)
    (turn : ∀ (c : σ) (i : Nat) t (u : Str → Option Value) h tk own, i < n → OwnOff own adr → P i c →
      Fr h₀ env.locals h (fun y => if y = x then some (.int (a₀ + i * k₀) t) else lay (fun z => z = x ∨ off z) u m₀ (ps c) y) → News h₀ env.locals h (Led c ++ own) →
      wpAny (model prog w) A (execs body env) (AfterW h₀ env.locals s (fun c => Led c ++ own) ps (fun z => z = x ∨ off z) m₀ (P (i + 1)) Q) (fun _ _ => False) { s with heap := h, toks := tk })
    (done : ∀ (c : σ) (u : Str → Option Value) h tk, P n c → Fr h₀ env.locals h (lay (fun z => z = x ∨ off z) u m₀ (ps c)) → News h₀ env.locals h (Led c) → Q .next { s with heap := h, toks := tk }) :
    wpAny (model prog w) A (pyIter (.ref r)) (fun it s₂ => LoopAtV prog w A h₀ env x body Q (fun _ _ => False) it s₂) (fun _ _ => False) s := by
  refine krs_iter hh hr hsmall hn F N fun I hI => ?_
  have far : ∀ b ∈ adr, I ≠ b := by
    intro b hb e
    rw [← hadr c₀] at hb
    obtain ⟨p, hp', hpb⟩ := List.mem_map.mp hb
    have lt := hI p hp'
    rw [hpb, ← e] at lt
    exact Nat.lt_irrefl _ lt
  have go : ∀ (k i : Nat), i + k = n → ∀ (c : σ) (m : Str → Option Value), P i c → (∀ p ∈ ps c, m p.1 = some p.2) → (∀ z, (∀ p ∈ ps c, z ≠ p.1) → ¬ (z = x ∨ off z) → m z = m₀ z) →
      KrsRest prog w A (fun _ _ => False) h₀ env x body Q s I a₀ k₀ n k i m (Led c) := by
    intro k
    induction k with
    | zero =>
      intro i hi c m hc g1 g2
      have e : i = n := hi
      subst e
      refine KrsRest.zero fun h tk Fz Nz => done c m h tk hc ?_ Nz
      rw [← lay_eq g1 g2]
      exact Fz
    | succ k ih =>
      intro i hi c m hc g1 g2
      refine KrsRest.succ rfl fun t h tk Ft Nt => ?_
      generalize krsIt (a₀ + ((i + 1 : Nat) : Int) * k₀) ((n : Int) - ((i + 1 : Nat) : Int)) k₀ = it at Nt ⊢
      rw [lay_eq g1 g2] at Ft
      have swap : ∀ {l : List (Addr × Obj)} {p : Addr × Obj}, p ∈ (I, it) :: l ↔ p ∈ l ++ [(I, it)] := by
        intro l p
        simp only [List.mem_cons, List.mem_append, List.not_mem_nil, or_false]
        exact Or.comm
      have offI : OwnOff [(I, it)] adr := by
        intro p hp' b hb
        rw [List.mem_singleton.mp hp']
        exact far b hb
      refine wpAny_mono (turn c i t m h tk [(I, it)] (by omega) offI hc Ft fun p hp' => Nt p (swap.mpr hp')) (fun f s₂ post => ?_) fun _ _ bad => bad
      have close : Stop (After h₀ env.locals s (fun c => Led c ++ [(I, it)]) ps (fun z => z = x ∨ off z) m₀ (P (i + 1)) s₂) →
          UnrEnd h₀ env.locals { s with heap := h, toks := tk } I it (KrsRest prog w A (fun _ _ => False) h₀ env x body Q s I a₀ k₀ n k (i + 1)) s₂ := by
        rintro ⟨c', h', tk', m', all, rfl, Fe, Ne, sub, g1', g2', hc'⟩
        exact UnrEnd.intro Fe Ne (Led c') (fun p hp' => sub p (swap.mp hp')) (fun p hp' e => far p.1 (by rw [← hadr c']; exact List.mem_map_of_mem hp') e.symm) (ih (i + 1) (by omega) c' m' hc' g1' g2')
      match f, post with
      | .ret _, post => exact post
      | .brk, post => exact post
      | .next, post => exact close post
      | .cont, post => exact close post
  exact go n 0 (Nat.zero_add n) c₀ m₀ hp hk fun _ _ _ => rfl
end
end partR1
section partG1
/-- Euclid as the law runs it, with fuel -/
def pgcd : Nat → Nat → Nat → Nat
  | 0, a, _ => a
  | f + 1, a, b => if b = 0 then a else pgcd f b (a % b)
theorem pgcd_fuel : ∀ (y f x : Nat), y < f → pgcd f x y = pgcd (y + 1) x y := by
  intro y
  induction y using Nat.strongRecOn with
  | ind y ih =>
    intro f x h
    cases f with
    | zero => omega
    | succ f =>
      unfold pgcd
      by_cases hy : y = 0
      · simp [hy]
      · have h1 : x % y < y := Nat.mod_lt _ (by omega)
        rw [if_neg hy, if_neg hy, ih _ h1 f y (by omega), ih _ h1 y y h1]
theorem pgcd_turn {x y : Int} {k : Nat} (hx : 0 ≤ x) (hy : 0 ≤ y) (h : pgcd (y.toNat + 1) x.toNat y.toNat = k) (hn : y ≠ 0) :
    0 ≤ y ∧ 0 ≤ x.fmod y ∧ pgcd ((x.fmod y).toNat + 1) y.toNat (x.fmod y).toNat = k := by
  rw [Int.fmod_eq_emod_of_nonneg _ hy]
  have h0 := Int.emod_nonneg x hn
  obtain ⟨p, rfl⟩ := Int.eq_ofNat_of_zero_le hx
  obtain ⟨q, rfl⟩ := Int.eq_ofNat_of_zero_le hy
  refine ⟨hy, h0, ?_⟩
  rw [← Int.natCast_emod] at *
  simp only [Int.toNat_natCast] at *
  rw [← h]
  conv => rhs; unfold pgcd
  have hq : q ≠ 0 := by omega
  rw [if_neg hq]
  exact (pgcd_fuel _ _ _ (Nat.mod_lt _ (by omega))).symm
theorem pgcd_less {x y : Int} (hy : 0 ≤ y) (hn : y ≠ 0) : (x.fmod y).toNat < y.toNat := by
  rw [Int.fmod_eq_emod_of_nonneg _ hy]
  have h0 := Int.emod_nonneg x hn
  have h1 := Int.emod_lt_of_pos x (show 0 < y by omega)
  omega
theorem pgcd_start (a b : Nat) : (0 : Int) ≤ (a : Int) ∧ (0 : Int) ≤ (b : Int) ∧ pgcd (((b : Int)).toNat + 1) ((a : Int)).toNat ((b : Int)).toNat = pgcd (b + 1) a b :=
  ⟨by omega, by omega, by simp⟩
theorem pgcd_end {x y : Int} {k : Nat} (hx : 0 ≤ x) (h : pgcd (y.toNat + 1) x.toNat y.toNat = k) (hn : y = 0) : x = (k : Int) := by
  subst hn
  simp [pgcd] at h
  omega
local macro_rules | `(tactic| walk_at "MY steps") => `(tactic| repeat' ((fail_if_success (with_reducible show wpAny _ _ (pyIter _) _ _ _)); (fail_if_success (with_reducible show wpAny _ _ (exec (Stmt.While _ _ _ _) _) _ _ _)); (fail_if_success (with_reducible show Stop _)); (first | (k_unfold; (try dsimp only)) | ((with_reducible show AfterW _ _ _ _ _ _ _ _ _ _ _); dsimp only [AfterW]) | walk1 | (dsimp only; walk1))))
set_option maxRecDepth 100000 in
set_option maxHeartbeats 8000000 in
theorem gcd_call : ∀ {w : World} {base h₀ : Heap} {env : Env} {L : Addr} {m mg mb : Str → Option Value} {mean : ExcName → Option Value} {news : List (Addr × Obj)} {s : Shared} {R : Result → Shared → Prop} {a b : Nat} {ta tb : Tok}
    (_ : Below callerA base [] h₀) (_ : Fr h₀ L s.heap m) (_ : (hd.heap_39 w.params).In h₀) (_ : News h₀ L s.heap news) (_ : Top hd.view_39 (looseW hd.view_39 []) mean mg mb h₀)
    (_ : env.frame = some L) (_ : env.scope.kind = .function)
    (_ : ∀ h' tk t, Fr h₀ L h' m → News h₀ L h' news → R (.ok (.ret (.int (pgcd (b + 1) a b : Nat) t))) { s with heap := h', toks := tk }),
    codeAny (model Challenge.rw_qu0002_01.row.prog w) (callerA.deeper env) (.call (.ref 72) ⟨[.int (a : Int) ta, .int (b : Int) tb], []⟩) R s := by
  w_top off
  k_fill
  intro w base h₀ env L m mg mb mean news s R a b ta tb B F X₀ N T hf hke hR
  refine' code_def (binds := [(Str.ofString "a", Value.int (a : Int) ta), (Str.ofString "b", Value.int (b : Int) tb)]) B F X₀ N T ?kA hf hke ?k6 ?k7 ?k8 ?k9 ?kB ?_ ?c2 ?c3 ?c4 ?c5
  case kA => exact rfl
  case k6 => k_is
  case k7 => k_is
  case k8 => k_room
  case k9 => exact BindsTo.of_eq rfl
  case kB => exact locs rfl
  case c5 => decide
  case c2 => exact rfl
  case c3 => exact rfl
  case c4 => exact rfl
  intro g L' h₁ FG F' N' B' X' T'
  refine wpAny_mono (E := fun _ _ => False) ?_ (fun _ _ h => h) (fun _ _ h => h.elim)
  generalize hQ : (fun (fl : Flow) s' => LeaveK h₀ L m g R (match fl with | .ret v => v | _ => .none) s') = Q
  walk_at "MY steps"
  rename Fr g L' _ _ => F1
  rename News g L' _ _ => N1
  refine while_rule (σ := Int × Tok × Int × Tok) (fun _ => news) (fun c => [(Str.ofString "a", Value.int c.1 c.2.1), (Str.ofString "b", Value.int c.2.2.1 c.2.2.2)]) (fun _ => False)
    (fun c => 0 ≤ c.1 ∧ 0 ≤ c.2.2.1 ∧ pgcd (c.2.2.1.toNat + 1) c.1.toNat c.2.2.1.toNat = pgcd (b + 1) a b) (fun c => c.2.2.1.toNat) ((a : Int), ta, (b : Int), tb) F1 N1 ?start (pgcd_start a b) ?_
  case start =>
    intro p hp
    simp only [List.mem_cons, List.not_mem_nil, or_false] at hp
    rcases hp with rfl | rfl <;> rfl
  rintro ⟨x, tx, y, ty⟩ u h tk ⟨h1, h2, h3⟩ Fj Nj
  dsimp only [lay, kstB] at Fj Nj h1 h2 h3
  walk_at "MY steps"
  · rename Fr g L' _ _ => F2
    rename News g L' _ _ => N2
    rename (y ≠ 0) => hne
    have ht := pgcd_turn h1 h2 h3 hne
    have hl := pgcd_less h2 hne (x := x)
    refine' ⟨after (y, _, x.fmod y, _) F2 N2 (fun p hp => .tail _ hp) ?a1 ?a2 ⟨ht, hl⟩⟩
    case a1 =>
      intro p hp
      simp only [List.mem_cons, List.not_mem_nil, or_false] at hp
      rcases hp with rfl | rfl <;> rfl
    case a2 =>
      intro z hz _
      have z1 := hz _ (.head _)
      have z2 := hz _ (.tail _ (.head _))
      dsimp only at z1 z2
      simp [z1, z2]
  · rename (y = 0) => h0
    subst hQ
    dsimp only
    refine leaveK_ Fj Nj (fun F9 N9 => ?_)
    rw [pgcd_end h1 h3 h0]
    exact hR _ _ _ F9 N9
end partG1
section partO1
def inner (P T : Nat → Nat) (c : Nat) : Nat → Nat → Nat
  | 0, _ => 0
  | f + 1, idx => if c = P idx then idx + 1 else if idx = 0 then 0 else inner P T c f (T (idx - 1))
def outerL (P : Nat → Nat) : Nat → List Nat
  | 0 => [0]
  | k + 1 => outerL P k ++ [inner P (fun j => (outerL P k).getD j 0) (P (k + 1)) (k + 2) ((outerL P k).getD k 0)]
def tabI (P : Nat → Nat) (n k : Nat) : List Int := ((outerL P k ++ List.replicate (n - 1 - k) 0).map Nat.cast : List Int)
local macro_rules | `(tactic| walk_at "exec For Name Call cons nil") => `(tactic| (k_here; (rename Fr _ _ _ _ => lF'); (with_unfolding_all refine' For_invVF lF' ?k1 ?k2 ?_; (case k1 => exact rfl); (case k2 => exact rfl); k_whole)))
local macro_rules | `(tactic| walk_at "MY steps") => `(tactic| repeat' ((fail_if_success (with_reducible show wpAny _ _ (pyIter _) _ _ _)); (fail_if_success (with_reducible show wpAny _ _ (exec (Stmt.While _ _ _ _) _) _ _ _)); (fail_if_success (with_reducible show Stop _)); (fail_if_success (with_reducible show wpAny _ _ (setItem _ _ _) _ _ _)); (first | (k_unfold; (try dsimp only)) | ((with_reducible show AfterW _ _ _ _ _ _ _ _ _ _ _); dsimp only [AfterW]) | walk1 | (dsimp only; walk1))))
theorem outerL_length (P : Nat → Nat) : ∀ k, (outerL P k).length = k + 1
  | 0 => rfl
  | k + 1 => by simp [outerL, outerL_length P k]
theorem inner_le (P T : Nat → Nat) (c : Nat) : ∀ f j, (∀ k, k < j → T k ≤ k) → inner P T c f j ≤ j + 1
  | 0, _, _ => Nat.zero_le _
  | f + 1, j, h => by
    unfold inner
    split
    · exact Nat.le_refl _
    · split
      · exact Nat.zero_le _
      · have h1 := h (j - 1) (by omega)
        have := inner_le P T c f (T (j - 1)) (fun k hk => h k (by omega))
        omega
theorem inner_fuel (P T : Nat → Nat) (c : Nat) : ∀ (j f : Nat), (∀ k, k < j → T k ≤ k) → j < f → inner P T c f j = inner P T c (j + 1) j := by
  intro j
  induction j using Nat.strongRecOn with
  | ind j ih =>
    intro f h hf
    cases f with
    | zero => omega
    | succ f =>
      unfold inner
      by_cases h1 : c = P j
      · simp [h1]
      · by_cases h2 : j = 0
        · simp [h2]
        · have h3 := h (j - 1) (by omega)
          rw [if_neg h1, if_neg h1, if_neg h2, if_neg h2, ih (T (j - 1)) (by omega) f (fun k hk => h k (by omega)) (by omega), ih (T (j - 1)) (by omega) j (fun k hk => h k (by omega)) (by omega)]
theorem outerL_le (P : Nat → Nat) : ∀ k j, (outerL P k).getD j 0 ≤ j
  | 0, 0 => by simp [outerL]
  | 0, j + 1 => by simp [outerL]
  | k + 1, j => by
    have ih := outerL_le P k
    have hl := outerL_length P k
    unfold outerL
    by_cases h : j < k + 1
    · rw [List.getD_eq_getElem?_getD, List.getElem?_append_left (by omega), ← List.getD_eq_getElem?_getD]
      exact ih j
    · by_cases h2 : j = k + 1
      · subst h2
        rw [List.getD_eq_getElem?_getD, List.getElem?_append_right (by omega)]
        simp only [hl, Nat.sub_self, List.getElem?_cons_zero, Option.getD_some]
        have := inner_le P (fun j => (outerL P k).getD j 0) (P (k + 1)) (k + 2) ((outerL P k).getD k 0) (fun k' _ => ih k')
        have := ih k
        omega
      · rw [List.getD_eq_getElem?_getD, List.getElem?_eq_none (by simp; omega)]
        exact Nat.zero_le _
theorem tabI_getD {P : Nat → Nat} {n k j : Nat} (h : j ≤ k) : (tabI P n k).getD j 0 = (((outerL P k).getD j 0 : Nat) : Int) := by
  have hl := outerL_length P k
  have h1 : j < (outerL P k).length := by omega
  unfold tabI
  rw [List.getD_eq_getElem?_getD, List.getElem?_map, List.getElem?_append_left h1, List.getD_eq_getElem?_getD, List.getElem?_eq_getElem h1]
  rfl
theorem tabI_set {P : Nat → Nat} {n k v : Nat} (h : k + 1 < n) (hv : inner P (fun j => (outerL P k).getD j 0) (P (k + 1)) (k + 2) ((outerL P k).getD k 0) = v) : (tabI P n k).set (k + 1) (v : Int) = tabI P n (k + 1) := by
  have hl := outerL_length P k
  subst hv
  unfold tabI
  obtain ⟨r, hr⟩ : ∃ r, n - 1 - k = r + 1 := ⟨n - 1 - k - 1, by omega⟩
  have hr' : n - 1 - (k + 1) = r := by omega
  rw [hr, hr', outerL, List.replicate_succ]
  apply List.ext_getElem?
  intro j
  simp only [List.map_append, List.map_cons, List.append_assoc, List.cons_append, List.nil_append]
  rw [List.getElem?_set]
  by_cases h1 : k + 1 = j
  · subst h1
    rw [if_pos rfl, if_pos (by simp [hl]), List.getElem?_append_right (by simp [hl])]
    simp [hl]
  · rw [if_neg h1]
    by_cases h2 : j < k + 1
    · rw [List.getElem?_append_left (by simp [hl]; omega), List.getElem?_append_left (by simp [hl]; omega)]
    · rw [List.getElem?_append_right (by simp [hl]; omega), List.getElem?_append_right (by simp [hl]; omega)]
      obtain ⟨q, hq⟩ : ∃ q, j - (List.map (Nat.cast : Nat → Int) (outerL P k)).length = q + 1 := ⟨j - (k + 1) - 1, by simp [hl]; omega⟩
      rw [hq, List.getElem?_cons_succ, List.getElem?_cons_succ]
theorem tabI_length {P : Nat → Nat} {n k : Nat} (h : k < n) : (tabI P n k).length = n := by
  simp [tabI, outerL_length]; omega
theorem tab_start {P : Nat → Nat} {n : Nat} (h : 1 ≤ n) : tabI P n 0 = (List.replicate (n : Int).toNat [(0 : Int)]).flatten := by
  obtain ⟨k, rfl⟩ : ∃ k, n = k + 1 := ⟨n - 1, by omega⟩
  have e : ((k + 1 : Nat) : Int).toNat = k + 1 := by omega
  have e2 : k + 1 - 1 - 0 = k := by omega
  have e3 : ∀ j, (List.replicate j [(0 : Int)]).flatten = List.replicate j 0 := by
    intro j
    induction j with
    | zero => rfl
    | succ j ih => rw [List.replicate_succ, List.flatten_cons, ih, List.replicate_succ]; rfl
  unfold tabI outerL
  rw [e, e3, e2, List.replicate_succ, List.cons_append, List.nil_append, List.map_cons, List.map_replicate]
  rfl
theorem one_ne (a b : Nat) : ((⟨#[a]⟩ : Str) != ⟨#[b]⟩) = !decide (a = b) := by
  have : ((⟨#[a]⟩ : Str) = ⟨#[b]⟩) ↔ a = b := ⟨fun h => by injection h with h; simpa using h, fun h => by rw [h]⟩
  by_cases h : a = b
  · subst h; simp
  · have h2 : (⟨#[a]⟩ : Str) ≠ ⟨#[b]⟩ := fun e => h (this.mp e)
    simp [h, h2]
set_option maxRecDepth 100000 in
set_option maxHeartbeats 8000000 in
theorem over_call : ∀ {w : World} {base h₀ : Heap} {env : Env} {L : Addr} {m mg mb : Str → Option Value} {mean : ExcName → Option Value} {news : List (Addr × Obj)} {s : Shared} {R : Result → Shared → Prop} {x : Str} {tx : Tok}
    (_ : Below callerA base [] h₀) (_ : Fr h₀ L s.heap m) (_ : (hd.heap_39 w.params).In h₀) (_ : News h₀ L s.heap news) (_ : Top hd.view_39 (looseW hd.view_39 []) mean mg mb h₀)
    (_ : env.frame = some L) (_ : env.scope.kind = .function) (_ : 1 ≤ x.length) (_ : x.length ≤ 200)
    (_ : ∀ l vs c h' tk, Fr h₀ L h' m → News h₀ L h' ((l, listOf vs.toArray c) :: news) → IntsAre vs (tabI (fun j => x.cps.getD j 0) x.length (x.length - 1)) → (∀ p ∈ news, p.1 < l) → R (.ok (.ret (.ref l))) { s with heap := h', toks := tk }),
    codeAny (model Challenge.rw_qu0002_01.row.prog w) (callerA.deeper env) (.call (.ref 65) ⟨[.str x tx], []⟩) R s := by
  w_top off
  k_fill
  intro w base h₀ env L m mg mb mean news s R x tx B F X₀ N T hf hke h1 h2 hR
  refine' code_def (binds := [(Str.ofString "prefix", Value.str x tx)]) B F X₀ N T ?kA hf hke ?k6 ?k7 ?k8 ?k9 ?kB ?_ ?c2 ?c3 ?c4 ?c5
  case kA => exact rfl
  case k6 => k_is
  case k7 => k_is
  case k8 => k_room
  case k9 => exact BindsTo.of_eq rfl
  case kB => exact locs rfl
  case c5 => decide
  case c2 => exact rfl
  case c3 => exact rfl
  case c4 => exact rfl
  intro g L' h₁ FG F' N' B' X' T'
  try dsimp only
  refine wpAny_mono (E := fun _ _ => False) ?_ (fun _ _ h => h) (fun _ _ h => h.elim)
  generalize hQ : (fun (fl : Flow) s' => LeaveK h₀ L m g R (match fl with | .ret v => v | _ => .none) s') = Q
  walk_at "MY steps"
  rename_i tkA lA hA lt1 D hB i1 n1 s1 e1 e2 e3 lt2 hC FC NC hD tkD t1 u1 v1 rg FD ND kp
  dsimp only at rg ⊢
  have hnD : ∀ p ∈ news, p.1 ≠ D := fun p hp => Nat.ne_of_lt (Nat.lt_trans (lt1 p hp) lt2.1)
  have ND' : News g L' hD ((D, listOf (List.replicate (x.length : Int).toNat [Value.int 0 tkA]).flatten.toArray 0) :: news) := fun p hp => ND p (by
    rcases List.mem_cons.mp hp with rfl | hp
    · exact .head _
    · exact .tail _ (.tail _ hp))
  refine range_rule (σ := List Value × Nat) (n := x.length - 1) (fun c => (D, listOf c.1.toArray c.2) :: news) (D :: news.map (·.1)) (fun _ => rfl) (fun _ => []) (fun z => z = Str.ofString "idx")
    (fun i c => IntsAre c.1 (tabI (fun j => x.cps.getD j 0) x.length i)) (_, _) rfl rg ?small ?size FD ND' (by intro p hp; cases hp) ?start ?_ ?_
  case small => exact small_one (by omega) (by omega) (by omega) (by omega)
  case size => rw [rangeSize_nat]; omega
  case start =>
    have e : tabI (fun j => x.cps.getD j 0) x.length 0 = (List.replicate (x.length : Int).toNat [(0 : Int)]).flatten := tab_start h1
    dsimp only
    rw [e]; exact i1
  · rintro ⟨vs, cc⟩ i t u h tk own hi hoff hP Fi Ni
    dsimp only [lay, kstB] at Fi Ni hP
    have hne : ∀ p ∈ news ++ own, p.1 ≠ D := fun p hp => (List.mem_append.mp hp).elim (hnD p) fun hp => hoff p hp _ (.head _)
    have hl := tabI_length (P := fun j => x.cps.getD j 0) (n := x.length) (k := i) (by omega)
    generalize hns : tabI (fun j => x.cps.getD j 0) x.length i = ns at hP hl
    walk_at "MY steps"
    rename_i tI hI FI NI
    have hT := outerL_le (fun j => x.cps.getD j 0) i
    have hset : ∀ v : Nat, inner (fun j => x.cps.getD j 0) (fun j => (outerL (fun j => x.cps.getD j 0) i).getD j 0) (x.cps.getD (i + 1) 0) (i + 2) ((outerL (fun j => x.cps.getD j 0) i).getD i 0) = v → ns.set (1 + (i : Int) * 1).toNat (v : Int) = tabI (fun j => x.cps.getD j 0) x.length (i + 1) := fun v hv => by
      have e : (1 + (i : Int) * 1).toNat = i + 1 := by omega
      rw [e, ← hns, tabI_set (by omega) hv]
    have e0 : ns.getD (1 + (i : Int) * 1 - 1).toNat 0 = (((outerL (fun j => x.cps.getD j 0) i).getD i 0 : Nat) : Int) := by
      have e : (1 + (i : Int) * 1 - 1).toNat = i := by omega
      rw [e, ← hns, tabI_getD (Nat.le_refl _)]
    rw [e0] at FI
    refine while_rule (σ := Nat × Tok) (fun _ => (D, listOf vs.toArray cc) :: news ++ own) (fun c => [(Str.ofString "idx", Value.int (c.1 : Int) c.2)]) (fun _ => False)
      (fun c => c.1 ≤ i ∧ inner (fun j => x.cps.getD j 0) (fun j => (outerL (fun j => x.cps.getD j 0) i).getD j 0) (x.cps.getD (i + 1) 0) (c.1 + 1) c.1 = inner (fun j => x.cps.getD j 0) (fun j => (outerL (fun j => x.cps.getD j 0) i).getD j 0) (x.cps.getD (i + 1) 0) (i + 2) ((outerL (fun j => x.cps.getD j 0) i).getD i 0)) (fun c => c.1) ((outerL (fun j => x.cps.getD j 0) i).getD i 0, tI) FI NI ?start2 ?inv2 ?_
    case start2 => intro p hp; rcases List.mem_singleton.mp hp with rfl; rfl
    case inv2 => exact ⟨hT i, (inner_fuel _ _ _ _ _ (fun k _ => hT k) (by have := hT i; omega)).symm⟩
    rintro ⟨j, tj⟩ u2 h tk2 ⟨hj, hv⟩ Fj Nj
    dsimp only [lay, kstB] at Fj Nj hj hv
    have hcmp : (Txt.item x (1 + (i : Int) * 1) != Txt.item x (j : Int)) = !decide (x.cps.getD (i + 1) 0 = x.cps.getD j 0) := by
      rw [item_meets ⟨by omega, by omega⟩, item_meets ⟨by omega, by omega⟩]
      have e : (1 + (i : Int) * 1).toNat = i + 1 := by omega
      rw [e, Int.toNat_natCast]
      exact one_ne _ _
    walk_at "MY steps"
    · dsimp only
      rename ((Txt.item x _ != Txt.item x _) = true) => hd
      rw [hcmp] at hd
      refine ksa_set Fj Nj (Upd.head hne) hP (by omega) (by omega) (by omega) ?_
      intro h' F' N' hI' _ _
      walk_at "MY steps"
      refine ⟨after (_, _) F' N' (fun p hp => hp) (by intro p hp; cases hp) ?_ ?_⟩
      · intro z _ hz'
        have hz2 := not_or.mp hz'
        simp [hz2.1, hz2.2]
      · dsimp only
        rw [← hset 0 ?_]
        · exact hI'
        · rw [← hv]
          have hj0 : j = 0 := by omega
          subst hj0
          simp only [Bool.not_eq_true', decide_eq_false_iff_not] at hd
          unfold inner
          rw [if_neg hd, if_pos rfl]
    · rename_i hd _ hz tq _ F' N'
      rw [hcmp] at hd
      simp only [Bool.not_eq_true', decide_eq_false_iff_not] at hd
      walk_at "MY steps"
      have e : ns.getD ((j : Int) - 1).toNat 0 = (((outerL (fun j => x.cps.getD j 0) i).getD (j - 1) 0 : Nat) : Int) := by
        have e : ((j : Int) - 1).toNat = j - 1 := by omega
        rw [e, ← hns, tabI_getD (by omega)]
      rw [e] at F'
      have hT2 := hT (j - 1)
      refine ⟨after ((outerL (fun j => x.cps.getD j 0) i).getD (j - 1) 0, tq) F' N' (fun p hp => hp) ?_ ?_ ⟨⟨by dsimp only; omega, ?_⟩, by dsimp only; omega⟩⟩
      · intro p hp; rcases List.mem_singleton.mp hp with rfl; rfl
      · intro z hz' _
        have hz2 := hz' _ (.head _)
        dsimp only at hz2
        simp [hz2]
      · dsimp only
        rw [← hv]
        conv => rhs; unfold inner
        have hj0 : j ≠ 0 := by omega
        rw [if_neg hd, if_neg hj0]
        exact (inner_fuel _ _ _ _ _ (fun k _ => hT k) (by omega)).symm
    · dsimp only
      rename ((Txt.item x _ != Txt.item x _) = false) => hd
      rw [hcmp] at hd
      simp only [Bool.not_eq_false', decide_eq_true_eq] at hd
      refine ksa_set Fj Nj (Upd.head hne) hP (by omega) (by omega) (by omega) ?_
      intro h' F' N' hI' _ _
      walk_at "MY steps"
      refine ⟨after (_, _) F' N' (fun p hp => hp) (by intro p hp; cases hp) ?_ ?_⟩
      · intro z _ hz'
        have hz2 := not_or.mp hz'
        simp [hz2.1, hz2.2]
      · dsimp only
        rw [← hset (j + 1) ?_]
        · exact hI'
        · rw [← hv]
          unfold inner
          rw [if_pos hd]
  · rintro ⟨vs, cc⟩ u h tk hP Fi Ni
    dsimp only [lay, kstB] at Fi Ni hP
    walk_at "MY steps"
    subst hQ
    dsimp only
    refine leaveK_ Fi Ni (fun F9 N9 => hR _ _ _ _ _ F9 N9 hP (fun p hp => Nat.lt_trans (lt1 p hp) lt2.1))
end partO1
section partX1
/-- the reply's signs: three marks, the row, the mark, the bracket -/
def replyL (c : Nat) (blk : List Nat) : List Nat := 50 :: 50 :: 57 :: 32 :: 105 :: 110 :: 32 :: 40 :: c :: c :: c :: (blk ++ [c, 41])
def reply (c : Nat) (blk : List Nat) : Str := ⟨(replyL c blk).toArray⟩
theorem replyL_length (c : Nat) (blk : List Nat) : (replyL c blk).length = blk.length + 13 := by simp [replyL]
theorem reply_length (c : Nat) (blk : List Nat) : (reply c blk).length = blk.length + 13 := by
  show ((replyL c blk).toArray).size = _
  rw [List.size_toArray, replyL_length]
theorem reply_getD (c : Nat) (blk : List Nat) (j : Nat) : (reply c blk).cps.getD j 0 = (replyL c blk).getD j 0 := by
  show ((replyL c blk).toArray).getD j 0 = _
  simp [Array.getD, List.getD_eq_getElem?_getD]
  by_cases h : j < (replyL c blk).length
  · simp [h]
  · simp [h]
theorem reply_slice3 (c : Nat) (blk : List Nat) : Txt.slice (reply c blk) none (some 3) = Str.ofString "229" := by
  have h := StrLaws.sliceText_to (x := reply c blk) (j := 3) ⟨by omega, by show (3 : Int) ≤ ((replyL c blk).length : Nat); rw [replyL_length]; omega⟩
  refine Eq.trans h ?_
  show Str.mk (List.take 3 (replyL c blk)).toArray = _
  simp only [replyL, List.take_succ_cons, List.take_zero]
  decide +kernel
theorem blk_getD {blk : List Nat} {k c : Nat} (hk : k < blk.length) : (replyL c blk).getD (k + 11) 0 = blk.getD k 0 := by
  show (blk ++ [c, 41]).getD k 0 = blk.getD k 0
  rw [List.getD_eq_getElem?_getD, List.getElem?_append_left hk, List.getD_eq_getElem?_getD]
theorem mark_getD {blk : List Nat} {c : Nat} : (replyL c blk).getD (blk.length + 11) 0 = c := by
  show (blk ++ [c, 41]).getD blk.length 0 = c
  rw [List.getD_eq_getElem?_getD, List.getElem?_append_right (Nat.le_refl _)]
  simp
theorem close_getD {blk : List Nat} {c : Nat} : (replyL c blk).getD (blk.length + 12) 0 = 41 := by
  show (blk ++ [c, 41]).getD (blk.length + 1) 0 = 41
  rw [List.getD_eq_getElem?_getD, List.getElem?_append_right (by omega)]
  simp
theorem mem_getD {blk : List Nat} {k : Nat} (hk : k < blk.length) : blk.getD k 0 ∈ blk := by
  rw [List.getD_eq_getElem?_getD, List.getElem?_eq_getElem hk]
  exact List.getElem_mem hk
theorem fromIndex_nat {n : Nat} {i : Nat} (h : i ≤ n) : fromIndex n (i : Int) = i := by
  unfold fromIndex
  rw [if_neg (by omega)]
  omega
theorem reply_find (c : Nat) (blk : List Nat) : Txt.find (reply c blk) (Str.ofString "(") = 7 := by
  have e : Str.ofString "(" = ⟨#[40]⟩ := by decide +kernel
  rw [e]
  unfold Txt.find
  have hat : ∀ k, StrLaws.At (reply c blk) ⟨#[40]⟩ (reply c blk).length k ↔ (replyL c blk)[k]? = some 40 := fun k => StrLaws.subAt_one (reply c blk) 40 k
  rcases StrLaws.occ_head (reply c blk) ⟨#[40]⟩ 1 (Nat.le_refl 1) with ⟨h0, hn⟩ | ⟨k, r, h0, hk, hn⟩
  · exact absurd ((hat 7).mpr rfl) (hn 7)
  · rw [h0]
    have hk' := (hat k).mp hk
    have h7 : ¬ 7 < k := fun h => hn 7 h ((hat 7).mpr rfl)
    have : k = 7 := by
      match k, hk', h7 with
      | 7, _, _ => rfl
      | 0, h, _ => cases h
      | 1, h, _ => cases h
      | 2, h, _ => cases h
      | 3, h, _ => cases h
      | 4, h, _ => cases h
      | 5, h, _ => cases h
      | 6, h, _ => cases h
      | k + 8, _, h => omega
    subst this
    rfl
theorem reply_find3 {c : Nat} {blk : List Nat} (hc : c ≠ 41) (hb : ∀ d ∈ blk, d ≠ 41) : Txt.find3 (reply c blk) (Str.ofString ")") 8 = ((blk.length + 12 : Nat) : Int) := by
  have e : Str.ofString ")" = ⟨#[41]⟩ := by decide +kernel
  have hl := reply_length c blk
  rw [e]
  have hf : fromIndex (reply c blk).length 8 = 8 := fromIndex_nat (i := 8) (by omega)
  rcases StrLaws.find3_spec (reply c blk) 41 8 with ⟨_, hn⟩ | ⟨k, h0, h1, h2, h3, h4⟩
  · rw [hf] at hn
    exact absurd ((reply_getD _ _ _).trans close_getD) (hn (blk.length + 12) (by omega) (by omega))
  · rw [hf] at h1 h4
    rw [h0]
    have hk : ¬ blk.length + 12 < k := fun h => h4 _ (by omega) h ((reply_getD _ _ _).trans close_getD)
    rw [reply_getD] at h3
    congr 1
    by_cases hq : k = blk.length + 12
    · exact hq
    · exfalso
      by_cases h11 : k = blk.length + 11
      · subst h11; rw [mark_getD] at h3; exact hc h3
      · match k, h1, h3, hk, hq, h11 with
        | 8, _, h3, _, _, _ => exact hc h3
        | 9, _, h3, _, _, _ => exact hc h3
        | 10, _, h3, _, _, _ => exact hc h3
        | k + 11, _, h3, hk, hq, h11 =>
          have hk' : k < blk.length := by omega
          rw [blk_getD hk'] at h3
          exact hb _ (mem_getD hk') h3
theorem reply_item {c : Nat} {blk : List Nat} {i : Nat} (h : i < blk.length + 13) : Txt.item (reply c blk) (i : Int) = ⟨#[(replyL c blk).getD i 0]⟩ := by
  have hl := reply_length c blk
  rw [item_meets ⟨by omega, by omega⟩, Int.toNat_natCast, reply_getD]
def middle (c : Nat) (blk : List Nat) : Str := ⟨(c :: c :: c :: (blk ++ [c])).toArray⟩
theorem reply_slice {c : Nat} {blk : List Nat} : Txt.slice (reply c blk) (some 8) (some ((blk.length + 12 : Nat) : Int)) = middle c blk := by
  have h := StrLaws.sliceText_nat (reply c blk) (a := 8) (b := blk.length + 12) (by omega) (by rw [reply_length]; omega)
  refine Eq.trans h ?_
  show Str.mk (List.take (blk.length + 12 - 8) (List.drop 8 (replyL c blk))).toArray = _
  have e : blk.length + 12 - 8 = (blk.length + 1) + 3 := by omega
  rw [e]
  show Str.mk (c :: c :: c :: List.take (blk.length + 1) (blk ++ [c, 41])).toArray = middle c blk
  have e2 : List.take (blk.length + 1) (blk ++ [c, 41]) = blk ++ [c] := by
    have : blk ++ [c, 41] = (blk ++ [c]) ++ [41] := by simp
    rw [this, List.take_append_of_le_length (by simp), List.take_of_length_le (by simp)]
  rw [e2]
  rfl
/-- a text cut at a sign: the parts are told by what they make -/
theorem join_toList (c : Nat) : ∀ (p : Str) (r : List Str), r ≠ [] → (Str.join ⟨#[c]⟩ (p :: r)).cps.toList = p.cps.toList ++ c :: (Str.join ⟨#[c]⟩ r).cps.toList
  | p, q :: r, _ => by
    show (p ++ ⟨#[c]⟩ ++ Str.join ⟨#[c]⟩ (q :: r)).cps.toList = _
    rw [Str.cps_append, Str.cps_append]
    simp
theorem free_cut {c : Nat} : ∀ {a b u v : List Nat}, c ∉ a → c ∉ b → a ++ c :: u = b ++ c :: v → a = b ∧ u = v
  | [], [], _, _, _, _, h => ⟨rfl, by simpa using h⟩
  | [], y :: b, _, _, _, hb, h => by simp at h; exact absurd (h.1 ▸ List.mem_cons_self) hb
  | x :: a, [], _, _, ha, _, h => by simp at h; exact absurd (h.1 ▸ List.mem_cons_self) ha
  | x :: a, y :: b, u, v, ha, hb, h => by
    simp only [List.cons_append, List.cons.injEq] at h
    have := free_cut (fun m => ha (List.mem_cons_of_mem _ m)) (fun m => hb (List.mem_cons_of_mem _ m)) h.2
    exact ⟨by rw [h.1, this.1], this.2⟩
theorem parts_one (c : Nat) : ∀ (ps qs : List Str), ps ≠ [] → qs ≠ [] → (∀ p ∈ ps, c ∉ p.cps.toList) → (∀ p ∈ qs, c ∉ p.cps.toList) → (Str.join ⟨#[c]⟩ ps).cps.toList = (Str.join ⟨#[c]⟩ qs).cps.toList → ps = qs
  | [], _, h, _, _, _, _ => absurd rfl h
  | _ :: _, [], _, h, _, _, _ => absurd rfl h
  | [p], [q], _, _, _, _, h => by
    have h' : p.cps.toList = q.cps.toList := h
    rw [Str.ext' (Array.toList_inj.mp h')]
  | [p], q :: q' :: r, _, _, hp, _, h => by
    rw [join_toList c q (q' :: r) (by simp)] at h
    have h' : p.cps.toList = _ := h
    exact absurd (by rw [h']; simp) (hp p (.head _))
  | p :: p' :: r, [q], _, _, _, hq, h => by
    rw [join_toList c p (p' :: r) (by simp)] at h
    have h' : _ = q.cps.toList := h
    exact absurd (by rw [← h']; simp) (hq q (.head _))
  | p :: p' :: r, q :: q' :: t, _, _, hp, hq, h => by
    rw [join_toList c p (p' :: r) (by simp), join_toList c q (q' :: t) (by simp)] at h
    obtain ⟨h1, h2⟩ := free_cut (hp p (.head _)) (hq q (.head _)) h
    rw [Str.ext' (Array.toList_inj.mp h1), parts_one c (p' :: r) (q' :: t) (by simp) (by simp) (fun x hx => hp x (.tail _ hx)) (fun x hx => hq x (.tail _ hx)) h2]
theorem split_ne (x y : Str) : Txt.split x y ≠ [] := by
  unfold Txt.split
  split
  · simp
  · split
    · simp
    · rw [StrLaws.partsBetween_eq]
      obtain ⟨p, r, e⟩ := StrLaws.partsFrom_ne x y.length 0 (Builtin.Str.occurrences x y 0 x.length (x.length + 1))
      rw [e]; simp
theorem middle_split {c : Nat} {blk : List Nat} (hc : c ∉ blk) : Txt.split (middle c blk) ⟨#[c]⟩ = [Str.empty, Str.empty, Str.empty, ⟨blk.toArray⟩, Str.empty] := by
  refine parts_one c _ _ (split_ne _ _) (by simp) (StrLaws.split_free _ c) ?_ ?_
  · intro p hp
    simp only [List.mem_cons, List.not_mem_nil, or_false] at hp
    rcases hp with rfl | rfl | rfl | rfl | rfl
    · simp [Str.empty]
    · simp [Str.empty]
    · simp [Str.empty]
    · exact hc
    · simp [Str.empty]
  · rw [StrLaws.join_split]
    rw [join_toList c _ _ (by simp), join_toList c _ _ (by simp), join_toList c _ _ (by simp), join_toList c _ _ (by simp)]
    show c :: c :: c :: (blk ++ [c]) = _
    simp [Str.empty, Str.join]
end partX1
section partQ1
local macro_rules | `(tactic| walk_at "MY steps") => `(tactic| repeat' ((fail_if_success (with_reducible show wpAny _ _ (pyIter _) _ _ _)); (fail_if_success (with_reducible show wpAny _ _ (exec (Stmt.While _ _ _ _) _) _ _ _)); (fail_if_success (with_reducible show wpAny _ _ (exec (Stmt.If _ _ _ _) _) _ _ _)); (fail_if_success (with_reducible show Stop _)); (first | (k_unfold; (try dsimp only)) | walk1 | (dsimp only; walk1))))
theorem newsSub2 {h₀ h : Heap} {L : Addr} {a b c : Addr × Obj} {news : List (Addr × Obj)} (N : News h₀ L h (a :: b :: c :: news)) : News h₀ L h (a :: news) := fun p hp => N p (by
  rcases List.mem_cons.mp hp with rfl | hp
  · exact .head _
  · exact .tail _ (.tail _ (.tail _ hp)))
set_option maxRecDepth 100000 in
set_option maxHeartbeats 8000000 in
theorem parse_call : ∀ {w : World} {base h₀ : Heap} {env : Env} {L : Addr} {m mg mb : Str → Option Value} {mean : ExcName → Option Value} {news : List (Addr × Obj)} {s : Shared} {R : Result → Shared → Prop} {tx tf t21 : Tok} {q : Addr} {c : Nat} {blk : List Nat}
    (_ : Below callerA base [] h₀) (_ : Fr h₀ L s.heap m) (_ : (hd.heap_39 w.params).In h₀) (_ : News h₀ L s.heap ((q, ({ cls := .type "tuple", data := .seq #[.str (Str.ofString "ftp") tf, .int 21 t21] } : Obj)) :: news)) (_ : Top hd.view_39 (looseW hd.view_39 []) mean mg mb h₀)
    (_ : env.frame = some L) (_ : env.scope.kind = .function)
    (_ : c = 124 ∨ c = 33 ∨ c = 120) (_ : 1 ≤ blk.length) (_ : blk.length ≤ 100) (_ : NumText.AllDigits blk)
    (_ : ∀ l h' tk t t', Fr h₀ L h' m → News h₀ L h' ((l, ({ cls := .type "tuple", data := .seq #[.str (Str.ofString "ftp") t, .int (NumText.digitsVal blk : Nat) t'] } : Obj)) :: news) → R (.ok (.ret (.ref l))) { s with heap := h', toks := tk }),
    codeAny (model Challenge.rw_qu0002_01.row.prog w) (callerA.deeper env) (.call (.ref 58) ⟨[.str (reply c blk) tx, .ref q], []⟩) R s := by
  w_top off
  k_fill
  intro w base h₀ env L m mg mb mean news s R tx tf t21 q c blk B F X₀ N T hf hke hc hb1 hb2 hbd hR
  have hxl := reply_length c blk
  have hs3 := reply_slice3 c blk
  have hfind := reply_find c blk
  have hfind3 := reply_find3 (c := c) (blk := blk) (by omega) (fun d hd => by have := hbd d hd; omega)
  have hi8 : Txt.item (reply c blk) 8 = ⟨#[c]⟩ := reply_item (i := 8) (by omega)
  have hi11 : Txt.item (reply c blk) ((blk.length + 12 : Nat) - 1 : Int) = ⟨#[c]⟩ := by
    have e : ((blk.length + 12 : Nat) - 1 : Int) = ((blk.length + 11 : Nat) : Int) := by omega
    rw [e, reply_item (by omega), mark_getD]
  have hsl := reply_slice (c := c) (blk := blk)
  have hsp := middle_split (c := c) (blk := blk) (fun h => by have := hbd c h; omega)
  have hml : (middle c blk).length = blk.length + 4 := by show (List.toArray _).size = _; simp
  generalize reply c blk = x at *
  generalize middle c blk = y at *
  refine' code_def (binds := [(Str.ofString "resp", Value.str x tx), (Str.ofString "peer", Value.ref q)]) B F X₀ N T ?kA hf hke ?k6 ?k7 ?k8 ?k9 ?kB ?_ ?c2 ?c3 ?c4 ?c5
  case kA => exact rfl
  case k6 => k_is
  case k7 => k_is
  case k8 => k_room
  case k9 => exact BindsTo.of_eq rfl
  case kB => exact locs rfl
  case c5 => decide
  case c2 => exact rfl
  case c3 => exact rfl
  case c4 => exact rfl
  intro g L' h₁ FG F' N' B' X' T'
  try dsimp only
  refine wpAny_mono (E := fun _ _ => False) ?_ (fun _ _ h => h) (fun _ _ h => h.elim)
  generalize hQ : (fun (fl : Flow) s' => LeaveK h₀ L m g R (match fl with | .ret v => v | _ => .none) s') = Q
  walk_at "MY steps"
  walk1
  walk_at "MY steps"
  rename Fr g L' _ _ => F2
  rw [hfind] at F2
  walk1
  walk_at "MY steps"
  rename Fr g L' _ _ => F3
  rw [show (7 : Int) + 1 = 8 from rfl, hfind3] at F3
  walk1
  walk_at "MY steps"
  have hne : (Txt.item x (7 + 1) != Txt.item x ((blk.length + 12 : Nat) - 1 : Int)) = false := by
    rw [show (7 : Int) + 1 = 8 from rfl, hi8, hi11]; simp
  walk1
  walk_at "MY steps"
  rename_i l _ _ hl hSt hle hIs _ F4 N4
  clear hSt hIs hle
  rw [show (7 : Int) + 1 = 8 from rfl, hsl, hi8, hsp] at hl
  rcases l with _ | ⟨⟨a0, t0⟩, _ | ⟨⟨a1, t1⟩, _ | ⟨⟨a2, t2⟩, _ | ⟨⟨a3, t3⟩, _ | ⟨⟨a4, t4⟩, _ | ⟨_, _⟩⟩⟩⟩⟩⟩ <;> simp only [List.map_cons, List.map_nil, List.cons.injEq, List.cons_ne_nil, List.nil_eq, and_false, and_true] at hl
  obtain ⟨rfl, rfl, rfl, rfl, rfl⟩ := hl
  simp only [strValues, List.map_cons, List.map_nil] at N4
  have hInt : PySem.intText? ⟨blk.toArray⟩ = some ((NumText.digitsVal blk : Nat) : Int) := PySem.intText_digits (x := ⟨blk.toArray⟩) hbd (by intro h; rw [show blk = [] from h] at hb1; simp at hb1) (by show blk.toArray.size ≤ 4300; rw [List.size_toArray]; omega)
  have hbl : (Str.mk blk.toArray).length = blk.length := by show blk.toArray.size = _; rw [List.size_toArray]
  generalize Str.mk blk.toArray = z at *
  walk1
  walk_at "MY steps"
  rename Fr g L' _ _ => F5
  rename News g L' _ _ => N5
  subst hQ
  dsimp only
  refine leaveK_ F5 (Mine.newsSub2 N5) (fun F9 N9 => hR _ _ _ _ _ F9 N9)
end partQ1
section partL0
def lawBody : List Stmt := match PySem.Challenge.pw_qu0002_01.main.body with
  | [_, _, _, _, _, _, _, _, _, .FunctionDef _ _ b _ _ _ _ _ _ _] => b
  | _ => []
def lawScope : Scope := match PySem.Challenge.pw_qu0002_01.main.body with
  | [_, _, _, _, _, _, _, _, _, .FunctionDef _ _ _ _ _ _ sc _ _ _] => sc
  | _ => default
abbrev lawEnv (L fa : Addr) (cd : Value) : Env := envOfC (Str.ofString "law") lawScope L fa cd
/-- the frame told again by some of its names -/
theorem norm {h₀ h : Heap} {L : Addr} {m : Str → Option Value} (F : Fr h₀ L h m) (ps : List (Str × Value)) (hk : ∀ p ∈ ps, m p.1 = some p.2) : Fr h₀ L h (kstB m ps) := by
  have e : kstB m ps = m := funext fun y => kstB_eq hk fun _ => rfl
  rw [e]; exact F
theorem newsSub {h₀ h : Heap} {L : Addr} {l l' : List (Addr × Obj)} (N : News h₀ L h l) (hs : ∀ p ∈ l', p ∈ l) : News h₀ L h l' := fun p hp => N p (hs p hp)
def rest (n a : Nat) : Nat → Nat
  | 0 => a
  | j + 1 => 10 * rest n a j % n
def dig (n a j : Nat) : Nat := 10 * rest n a j / n
def restsI (n a k : Nat) : List Int := (List.range (k + 1)).map fun j => ((rest n a j : Nat) : Int)
def figL (n a k : Nat) : List Nat := (List.range k).map fun j => 48 + dig n a j
def figS (n a k : Nat) : Str := ⟨(figL n a k).toArray⟩
theorem rest_lt {n a : Nat} (hn : 0 < n) (ha : a < n) : ∀ j, rest n a j < n
  | 0 => ha
  | j + 1 => Nat.mod_lt _ hn
theorem dig_lt {n a : Nat} (hn : 0 < n) (ha : a < n) (j : Nat) : dig n a j < 10 := by
  have := rest_lt hn ha j
  exact (Nat.div_lt_iff_lt_mul hn).mpr (by omega)
theorem restsI_length (n a k : Nat) : (restsI n a k).length = k + 1 := by simp [restsI]
theorem restsI_getD {n a k j : Nat} (h : j ≤ k) : (restsI n a k).getD j 0 = ((rest n a j : Nat) : Int) := by
  have : j < k + 1 := by omega
  simp [restsI, List.getD_eq_getElem?_getD, this]
theorem restsI_succ (n a k : Nat) : restsI n a (k + 1) = restsI n a k ++ [((rest n a (k + 1) : Nat) : Int)] := by
  unfold restsI
  rw [List.range_succ, List.map_append]; rfl
theorem figL_length (n a k : Nat) : (figL n a k).length = k := by simp [figL]
theorem figS_length (n a k : Nat) : (figS n a k).length = k := by
  show (figL n a k).toArray.size = k
  rw [List.size_toArray, figL_length]
theorem figS_succ (n a k : Nat) : figS n a (k + 1) = figS n a k ++ ⟨#[48 + dig n a k]⟩ := by
  apply Str.ext'
  rw [Str.cps_append]
  show (figL n a (k + 1)).toArray = (figL n a k).toArray ++ #[48 + dig n a k]
  unfold figL
  rw [List.range_succ, List.map_append]
  simp
theorem digit_text : ∀ d : Nat, d < 10 → Str.ofString (toString (d : Int)) = ⟨#[48 + d]⟩ := by decide +kernel
end partL0
section partB1
local macro_rules | `(tactic| walk_at "exec For Name Call cons nil") => `(tactic| (k_here; (rename Fr _ _ _ _ => lF'); (with_unfolding_all refine' For_invVF lF' ?k1 ?k2 ?_; (case k1 => exact rfl); (case k2 => exact rfl); k_whole)))
local macro_rules | `(tactic| walk_at "MY steps") => `(tactic| repeat' ((fail_if_success (with_reducible show wpAny _ _ (pyIter _) _ _ _)); (fail_if_success (with_reducible show wpAny _ _ (exec (Stmt.While _ _ _ _) _) _ _ _)); (fail_if_success (with_reducible show Stop _)); (fail_if_success (with_reducible show wpAny _ _ (execs (Stmt.Assign [Expr.Name (Str.ofString "d") _] _ _ :: _) _) _ _ _)); (first | (k_unfold; (try dsimp only)) | ((with_reducible show AfterW _ _ _ _ _ _ _ _ _ _ _); dsimp only [AfterW]) | walk1 | (dsimp only; walk1))))
set_option maxRecDepth 100000 in
set_option maxHeartbeats 8000000 in
theorem seg_rests : ∀ {w : World} {base h₀ : Heap} {L fa : Addr} {cd : Value} {mg mb u : Str → Option Value} {mean : ExcName → Option Value} {s : Shared} {Q : Flow → Shared → Prop} {n a c : Nat} {tn ta tc : Tok} {o : Obj}
    (_ : Below callerA base [] h₀) (_ : (hd.heap_39 w.params).In h₀) (_ : Top hd.view_39 (looseW hd.view_39 []) mean mg mb h₀)
    (_ : Fr h₀ L s.heap (kstB u [(Str.ofString "n", .int (n : Int) tn), (Str.ofString "a", .int (a : Int) ta), (Str.ofString "mark", .str ⟨#[c]⟩ tc)]))
    (_ : News h₀ L s.heap [(L + 1, o)]) (_ : 0 < n) (_ : n ≤ 49) (_ : a < n)
    (_ : ∀ r rs cr tf u' h' tk, Fr h₀ L h' (kstB u' [(Str.ofString "n", .int (n : Int) tn), (Str.ofString "a", .int (a : Int) ta), (Str.ofString "mark", .str ⟨#[c]⟩ tc), (Str.ofString "rests", .ref r), (Str.ofString "figures", .str (figS n a (2 * n)) tf)]) →
      News h₀ L h' [(r, listOf rs.toArray cr), (L + 1, o)] → L + 1 < r → IntsAre rs (restsI n a (2 * n)) →
      wpAny (model Challenge.rw_qu0002_01.row.prog w) (callerA.deeper (lawEnv L fa cd)) (execs (lawBody.drop 8) (lawEnv L fa cd)) Q (fun _ _ => False) { s with heap := h', toks := tk }),
    wpAny (model Challenge.rw_qu0002_01.row.prog w) (callerA.deeper (lawEnv L fa cd)) (execs (lawBody.drop 5) (lawEnv L fa cd)) Q (fun _ _ => False) s := by
  w_top off
  k_fill
  intro w base h₀ L fa cd mg mb u mean s Q n a c tn ta tc o B X T F N hn hn2 ha K
  rw [show lawBody.drop 5 = _ :: _ from rfl, show lawEnv L fa cd = envOfC (Str.ofString "law") ⟨_, _, _, _, _⟩ L fa cd from rfl]
  dsimp only [kstB] at F
  walk_at "MY steps"
  rename_i r _ hr _ _ F1 N1
  have e0 : Str.ofString "" = figS n a 0 := (show Str.ofString "" = ⟨#[]⟩ by decide +kernel)
  rw [e0] at F1
  refine' while_rule (σ := Nat × List Value × Nat × Tok) (fun c => [(r, listOf c.2.1.toArray c.2.2.1), (L + 1, o)]) (fun c => [(Str.ofString "figures", Value.str (figS n a c.1) c.2.2.2)]) (fun _ => False)
    (fun c => c.1 ≤ 2 * n ∧ IntsAre c.2.1 (restsI n a c.1)) (fun c => 2 * n - c.1) (0, [Value.int (a : Int) ta], 0, _) F1 N1 ?start ?inv ?_
  case start => intro p hp; rcases List.mem_singleton.mp hp with rfl; rfl
  case inv => exact ⟨Nat.zero_le _, .cons _ _ .nil⟩
  rintro ⟨k, rs, cr, tf⟩ u2 h tk2 ⟨hk, hI⟩ Fk Nk
  dsimp only [lay, kstB] at Fk Nk hk hI
  have hfl := figS_length n a k
  have hrl := restsI_length n a k
  have hlast : (restsI n a k).getD k 0 = ((rest n a k : Nat) : Int) := restsI_getD (Nat.le_refl _)
  have hlt := rest_lt hn ha k
  generalize hfs : figS n a k = fs at *
  generalize hrr : restsI n a k = ri at *
  walk_at "MY steps"
  · have e1 : (10 * ri.getD (-1 + (ri.length : Int)).toNat 0).fdiv (n : Int) = ((dig n a k : Nat) : Int) := by
      have e : (-1 + (ri.length : Int)).toNat = k := by omega
      rw [e, hlast, Int.fdiv_eq_ediv_of_nonneg _ (by omega)]
      unfold dig
      rw [Int.natCast_ediv, Int.natCast_mul]
      rfl
    have e2 : (10 * ri.getD (-1 + (ri.length : Int)).toNat 0).fmod (n : Int) = ((rest n a (k + 1) : Nat) : Int) := by
      have e : (-1 + (ri.length : Int)).toNat = k := by omega
      rw [e, hlast, Int.fmod_eq_emod_of_nonneg _ (by omega)]
      show _ = ((10 * rest n a k % n : Nat) : Int)
      rw [Int.natCast_emod, Int.natCast_mul]
      rfl
    have hd := dig_lt hn ha k
    have hdt := digit_text _ hd
    rw [e1]
    generalize hdd : dig n a k = dg at *
    walk_at "MY steps"
    rename_i tq _ _ _ _ _ _ F' N'
    rw [hdt, ← hfs, ← hdd, ← figS_succ] at F'
    rw [e2] at N'
    simp only [List.push_toArray] at N'
    refine' ⟨after (k + 1, rs ++ [_], cr + 1, _) F' N' (fun p hp => hp) ?a1 ?a2 ⟨⟨?a3, ?a4⟩, ?a5⟩⟩
    case a1 => intro p hp; rcases List.mem_singleton.mp hp with rfl; rfl
    case a2 =>
      intro z hz _
      have hz2 := hz _ (.head _)
      dsimp only at hz2
      simp [hz2]
    case a3 => dsimp only; omega
    case a4 =>
      dsimp only
      rw [restsI_succ, hrr]
      exact hI.append (.cons _ _ .nil)
    case a5 => dsimp only; omega
  · dsimp only
    have hk2 : k = 2 * n := by omega
    subst hfs hrr hk2
    exact K r rs cr tf _ _ _ (norm Fk _ (by kst_all)) Nk hr hI
end partB1
section partB2
local macro_rules | `(tactic| walk_at "MY steps") => `(tactic| repeat' ((fail_if_success (with_reducible show wpAny _ _ (pyIter _) _ _ _)); (fail_if_success (with_reducible show wpAny _ _ (exec (Stmt.While _ _ _ _) _) _ _ _)); (fail_if_success (with_reducible show Stop _)); (fail_if_success (with_reducible show wpAny _ _ (execs (Stmt.Assign [Expr.Name (Str.ofString "table") _] _ _ :: _) _) _ _ _)); (first | (k_unfold; (try dsimp only)) | ((with_reducible show AfterW _ _ _ _ _ _ _ _ _ _ _); dsimp only [AfterW]) | walk1 | (dsimp only; walk1))))
set_option maxRecDepth 100000 in
set_option maxHeartbeats 8000000 in
theorem seg_d : ∀ {w : World} {base h₀ : Heap} {L fa : Addr} {cd : Value} {mg mb u : Str → Option Value} {mean : ExcName → Option Value} {s : Shared} {Q : Flow → Shared → Prop} {n a c D : Nat} {tn ta tc tf : Tok} {o : Obj} {v₀ : Option Value} {r : Addr} {rs : List Value} {cr : Nat}
    (_ : Below callerA base [] h₀) (_ : (hd.heap_39 w.params).In h₀) (_ : Top hd.view_39 (looseW hd.view_39 []) mean mg mb h₀)
    (_ : Fr h₀ L s.heap (kstB u [(Str.ofString "n", .int (n : Int) tn), (Str.ofString "a", .int (a : Int) ta), (Str.ofString "mark", .str ⟨#[c]⟩ tc), (Str.ofString "rests", .ref r), (Str.ofString "figures", .str (figS n a (2 * n)) tf)]))
    (_ : News h₀ L s.heap [(r, listOf rs.toArray cr), (L + 1, o)]) (_ : L + 1 < r) (_ : o.data = .cell v₀) (_ : IntsAre rs (restsI n a (2 * n))) (_ : 0 < n) (_ : n ≤ 49) (_ : a < n)
    (_ : 1 ≤ D) (_ : D ≤ n) (_ : rest n a D = a) (_ : ∀ j, 1 ≤ j → j < D → rest n a j ≠ a)
    (_ : ∀ o' td u' h' tk, Fr h₀ L h' (kstB u' [(Str.ofString "n", .int (n : Int) tn), (Str.ofString "a", .int (a : Int) ta), (Str.ofString "mark", .str ⟨#[c]⟩ tc), (Str.ofString "rests", .ref r), (Str.ofString "figures", .str (figS n a (2 * n)) tf)]) →
      News h₀ L h' [(r, listOf rs.toArray cr), (L + 1, o')] → o'.data = .cell (some (.int (D : Int) td)) →
      wpAny (model Challenge.rw_qu0002_01.row.prog w) (callerA.deeper (lawEnv L fa cd)) (execs (lawBody.drop 10) (lawEnv L fa cd)) Q (fun _ _ => False) { s with heap := h', toks := tk }),
    wpAny (model Challenge.rw_qu0002_01.row.prog w) (callerA.deeper (lawEnv L fa cd)) (execs (lawBody.drop 8) (lawEnv L fa cd)) Q (fun _ _ => False) s := by
  w_top off
  k_fill
  intro w base h₀ L fa cd mg mb u mean s Q n a c D tn ta tc tf o v₀ r rs cr B X T F N hr ho hI hn hn2 ha hD1 hD2 hD3 hD4 K
  rw [show lawBody.drop 8 = _ :: _ from rfl, show lawEnv L fa cd = envOfC (Str.ofString "law") ⟨_, _, _, _, _⟩ L fa cd from rfl]
  dsimp only [kstB] at F
  walk_at "MY steps"
  rename_i o1 F1 N1 hd1
  refine' while_rule (σ := Nat × Obj × Tok) (fun c => [(r, listOf rs.toArray cr), (L + 1, c.2.1)]) (fun _ => []) (fun _ => False)
    (fun c => 1 ≤ c.1 ∧ c.1 ≤ D ∧ c.2.1.data = .cell (some (.int (c.1 : Int) c.2.2))) (fun c => D - c.1) (1, o1, s.toks) F1 N1 (by intro p hp; cases hp) ?inv ?_
  case inv => exact ⟨Nat.le_refl _, hD1, by dsimp only; rw [hd1]; rfl⟩
  rintro ⟨j, oj, tj⟩ u2 h tk2 ⟨hj1, hj2, hoj⟩ Fj Nj
  dsimp only [lay, kstB] at Fj Nj hj1 hj2 hoj
  have hrl := restsI_length n a (2 * n)
  have hit : (restsI n a (2 * n)).getD j 0 = ((rest n a j : Nat) : Int) := restsI_getD (by omega)
  generalize hrr : restsI n a (2 * n) = ri at *
  walk_at "MY steps"
  · rename_i hne _ o2 F2 N2 hd2
    rw [Int.toNat_natCast, hit] at hne
    have hjD : j ≠ D := fun e => hne (by rw [e, hD3])
    refine ⟨after (j + 1, o2, _) F2 N2 (fun p hp => hp) (by intro p hp; cases hp) ?_ ⟨⟨by dsimp only; omega, by dsimp only; omega, hd2⟩, by dsimp only; omega⟩⟩
    intro z _ _
    simp
  · rename_i heq
    rw [Int.toNat_natCast, hit] at heq
    have hjD : j = D := by
      have h1 : rest n a j = a := by omega
      by_cases h2 : j < D
      · exact absurd h1 (hD4 j hj1 h2)
      · omega
    subst hjD
    dsimp only
    exact K _ _ _ _ _ (norm Fj _ (by kst_all)) Nj hoj
end partB2
section partB3
local macro_rules | `(tactic| walk_at "MY steps") => `(tactic| repeat' ((fail_if_success (with_reducible show wpAny _ _ (pyIter _) _ _ _)); (fail_if_success (with_reducible show wpAny _ _ (exec (Stmt.While _ _ _ _) _) _ _ _)); (fail_if_success (with_reducible show wpAny _ _ (call (Value.ref _) _ _) _ _ _)); (fail_if_success (with_reducible show wpAny _ _ (eval (Expr.ListComp _ _ _ _) _) _ _ _)); (fail_if_success (with_reducible show wpAny _ _ (subscriptTail _ (Expr.Slice _ _ _ _) (Value.ref _) (Value.ref _)) _ _ _)); (fail_if_success (with_reducible show Stop _)); (fail_if_success (with_reducible show wpAny _ _ (execs (Stmt.Assign [Expr.Name (Str.ofString "least") _] _ _ :: _) _) _ _ _)); (first | (k_unfold; (try dsimp only)) | ((with_reducible show AfterW _ _ _ _ _ _ _ _ _ _ _); dsimp only [AfterW]) | walk1 | (dsimp only; walk1))))
theorem wp_stop {α : Type} {M : Model} {A : Around} {t : Sem α} {Q : α → Shared → Prop} {E : Value → Shared → Prop} {s : Shared} (h : wpAny M A t (fun a s' => Stop (Q a s')) E s) : wpAny M A t Q E s := wpAny_mono h (fun _ _ h => h.out) fun _ _ h => h
/-- a comprehension over a range, each element an int by a function of the range's; the frame is named -/
theorem comp_range {prog : Program} {w : World} {A : Around} {s : Shared} {h₀ : Heap} {L : Addr} {m : Str → Option Value} {env : Env} {elt iter : Expr} {x : Str} {px : Pos} {scope : Scope} {cl : List (Str × Addr)} {pos : Pos} {Q : Value → Shared → Prop} (f : Int → Int)
    (_ : Fr h₀ L s.heap m) (hh : A.handled = none) (hclos : closureFor scope env = pure cl) (hcell : ∀ y ∈ scope.names, y.2 ≠ .cell) (hkind : scope.kind = .function)
    (hnames : ∀ y ∈ scope.names, y.2 = .local → scope.names.lookup y.1 = some .local) (hx : scope.names.lookup x = some .local)
    (h : wpAny (model prog w) A (eval iter env) (fun xv s₁ => Stop (∃ news : List (Addr × Obj), ∃ r a₀ b₀ t₀ u₀ v₀, ∃ n : Nat, xv = .ref r ∧ IsRange s₁.heap r a₀ b₀ 1 t₀ u₀ v₀ ∧ Builtin.Range.small a₀ b₀ 1 = true ∧ Builtin.Range.rangeSize a₀ b₀ 1 = (n : Int) ∧ n ≤ sizeLine ∧ Fr h₀ L s₁.heap m ∧ News h₀ L s₁.heap news ∧
      (∀ C a t s₂ m₂, a ∈ rangeInts a₀ 1 n → s₂.heap.Ns C m₂ → m₂ x = some (.int a t) → (∀ b o, s₁.heap.get? b = some o → s₂.heap.get? b = some o) →
        ∀ E', wpAny (model prog w) A (eval elt (compEnvC scope cl C env)) (fun y s₃ => (∃ t', y = .int (f a) t') ∧ Keeps s₂ s₃) E' s₂) ∧
      (∀ D (ys : List Value) h' tk, Fr h₀ L h' m → News h₀ L h' news → h'.IsList D ys.toArray → IntsAre ys ((rangeInts a₀ 1 n).map f) → Q (.ref D) { s₁ with heap := h', toks := tk }))) (fun _ _ => False) s)
    (hs : ∀ x, foldedSetIterable iter env x = pure x) :
    wpAny (model prog w) A (eval (.ListComp elt [⟨.Name x px, iter, [], 0⟩] scope pos) env) Q (fun _ _ => False) s := by
  refine ListComp_DCr (h₀ := h₀) (L := L) (m := m) (pz := fun _ => true) (d := fun p => PyData.int (f p)) hh hclos hcell hkind hnames hx (wpAny_mono h (fun xv s₁ h₁ => ?_) fun _ _ e => e) hs
  obtain ⟨news, r, a₀, b₀, t₀, u₀, v₀, n, rfl, hr, hsmall, hn, hsz, F, N, helt, hQ⟩ := h₁.out
  refine ⟨news, r, a₀, b₀, 1, t₀, u₀, v₀, n, rfl, hr, hsmall, hn, hsz, F, N, ?_, ?_, ?_⟩
  · intro C a v s₂ m₂ E' _ _ _ _ _ _
    exact wpAny_pure ⟨rfl, s₂.heap, s₂.toks, rfl, fun _ _ h => h⟩
  · intro C a v s₂ m₂ E' _ ha hv _ hns hm hk
    obtain ⟨t, rfl⟩ := hv
    refine wpAny_mono (helt C a t s₂ m₂ ha hns hm hk E') (fun y s₃ h₃ => ?_) fun _ _ e => e
    obtain ⟨⟨t', rfl⟩, hk'⟩ := h₃
    exact ⟨.int _ _, hk'⟩
  · intro D ys h' tk F' N' _ hl _ hc
    refine hQ D ys h' tk F' N' hl (IntsAre.ofCarried ?_)
    have e : (List.filter (fun _ => true) (rangeInts a₀ 1 n)).map (fun p => PyData.int (f p)) = ((rangeInts a₀ 1 n).map f).map PyData.int := by
      rw [List.filter_eq_self.mpr (fun _ _ => rfl), List.map_map]; rfl
    rw [← e]; exact hc
set_option maxRecDepth 100000 in
set_option maxHeartbeats 8000000 in
theorem seg_table : ∀ {w : World} {base h₀ : Heap} {L fa : Addr} {cd : Value} {mg mb u : Str → Option Value} {mean : ExcName → Option Value} {s : Shared} {Q : Flow → Shared → Prop} {n a c D : Nat} {tn ta tc tf td : Tok} {o : Obj} {r : Addr} {rs : List Value} {cr : Nat}
    (_ : Below callerA base [] h₀) (_ : (hd.heap_39 w.params).In h₀) (_ : Top hd.view_39 (looseW hd.view_39 []) mean mg mb h₀)
    (_ : Fr h₀ L s.heap (kstB u [(Str.ofString "n", .int (n : Int) tn), (Str.ofString "a", .int (a : Int) ta), (Str.ofString "mark", .str ⟨#[c]⟩ tc), (Str.ofString "rests", .ref r), (Str.ofString "figures", .str (figS n a (2 * n)) tf)]))
    (_ : News h₀ L s.heap [(r, listOf rs.toArray cr), (L + 1, o)]) (_ : L + 1 < r) (_ : o.data = .cell (some (.int (D : Int) td))) (_ : 0 < n) (_ : n ≤ 49) (_ : a < n)
    (_ : 1 ≤ D) (_ : D ≤ n) (_ : (tabI (fun j => (figS n a (2 * n)).cps.getD j 0) (2 * n) (2 * n - 1)).drop (2 * D - 1) = (List.range (2 * n + 1 - 2 * D)).map fun i => ((D + i : Nat) : Int))
    (_ : ∀ u' h' tk, Fr h₀ L h' (kstB u' [(Str.ofString "n", .int (n : Int) tn), (Str.ofString "a", .int (a : Int) ta), (Str.ofString "mark", .str ⟨#[c]⟩ tc), (Str.ofString "rests", .ref r), (Str.ofString "figures", .str (figS n a (2 * n)) tf)]) →
      News h₀ L h' [(r, listOf rs.toArray cr), (L + 1, o)] →
      wpAny (model Challenge.rw_qu0002_01.row.prog w) (callerA.deeper (lawEnv L fa cd)) (execs (lawBody.drop 12) (lawEnv L fa cd)) Q (fun _ _ => False) { s with heap := h', toks := tk }),
    wpAny (model Challenge.rw_qu0002_01.row.prog w) (callerA.deeper (lawEnv L fa cd)) (execs (lawBody.drop 10) (lawEnv L fa cd)) Q (fun _ _ => False) s := by
  w_top off
  k_fill
  intro w base h₀ L fa cd mg mb u mean s Q n a c D tn ta tc tf td o r rs cr B X T F N hr ho hn hn2 ha hD1 hD2 hT K
  rw [show lawBody.drop 10 = _ :: _ from rfl, show lawEnv L fa cd = envOfC (Str.ofString "law") ⟨_, _, _, _, _⟩ L fa cd from rfl]
  dsimp only [kstB] at F
  walk_at "MY steps"
  have hfl := figS_length n a (2 * n)
  refine wpAny_call (over_call (env := envOfC _ _ L fa cd) B F X N T rfl rfl (by omega) (by omega) ?_)
  intro l vs cc h1 tk1 F1 N1 hI1 hlt
  rw [hfl] at hI1
  have htl := tabI_length (P := fun j => (figS n a (2 * n)).cps.getD j 0) (n := 2 * n) (k := 2 * n - 1) (by omega)
  generalize htb : tabI (fun j => (figS n a (2 * n)).cps.getD j 0) (2 * n) (2 * n - 1) = ti at *
  have hlr : r < l := hlt (r, listOf rs.toArray cr) (.head _)
  dsimp only
  walk_at "MY steps"
  rename Fr h₀ L _ _ => F2
  rename News h₀ L _ _ => N2
  k_dflt (refine' kmk_slice_ints ?zF ?zN ?zl ?zp ?zq hI1 ?zm rfl ?_ ?zs ?zt (kmk_sz hI1 (by rw [sizeLine_eq]; omega)))
  case zF => exact F2
  case zN => exact N2
  case zl => kmk_list
  case zp => kmk_part
  case zq => kmk_part
  case zm => exact kmk_from (x := 2 * (D : Int) - 1) hI1 (by omega)
  case zs => with_unfolding_all rfl
  case zt => kmk_pure
  intro D3 ws h3 F3 N3 lt3 hI3 _ _
  have e3 : (2 * (D : Int) - 1).toNat = 2 * D - 1 := by omega
  rw [e3, hT] at hI3
  dsimp only
  walk_at "MY steps"
  refine comp_range (fun p => p - (D : Int)) F3 rfl (by with_unfolding_all rfl) (by decide) rfl (by decide) rfl ?_ (fun _ => rfl)
  walk_at "MY steps"
  rename_i h4 tk4 t1 u1 v1 rg F4 N4 kp4
  dsimp only at rg ⊢
  refine ⟨⟨_, _, _, _, _, _, _, 2 * n + 1 - 2 * D, rfl, rg, small_one (by omega) (by omega) (by omega) (by omega), by rw [rangeSize_nat]; omega, by rw [sizeLine_eq]; omega, F4, N4, ?_, ?_⟩⟩
  · intro C p t s₂ m₂ hp hns hm hk E'
    walk1
    refine ldVarK hns hm ?_ (by rfl) (by rfl) (by decide)
    refine ldCellK (c := L + 1) rfl ⟨o, hk _ _ (N4 (L + 1, o) (.tail _ (.tail _ (.tail _ (.head _))))).1, ho⟩ ?_
    refine sub_int ?_
    exact ⟨⟨_, rfl⟩, _, _, rfl, fun _ _ h => h⟩
  · intro E ys h5 tk5 F5 N5 hl5 hI5
    refine ne_intsK (PySem.IsL.isList (n := 0) (N5 _ (.head _)).1) hI3 hl5 hI5 (by units_room) ?_
    have heq : (List.map (fun i => ((D + i : Nat) : Int)) (List.range (2 * n + 1 - 2 * D))) = (rangeInts (2 * (D : Int)) 1 (2 * n + 1 - 2 * D)).map (fun p => p - (D : Int)) := by
      unfold rangeInts
      rw [List.map_map]
      apply List.map_congr_left
      intro i _
      simp only [Function.comp]
      omega
    rw [heq, decide_eq_true rfl]
    walk_at "MY steps"
    dsimp only
    exact K _ _ _ (norm F5 _ (by kst_all)) (newsSub N5 (fun p hp => .tail _ (.tail _ hp)))
end partB3
section partB4
local macro_rules | `(tactic| walk_at "exec For Name Call cons nil") => `(tactic| (k_here; (rename Fr _ _ _ _ => lF'); (with_unfolding_all refine' For_invVF lF' ?k1 ?k2 ?_; (case k1 => exact rfl); (case k2 => exact rfl); k_whole)))
local macro_rules | `(tactic| walk_at "MY steps") => `(tactic| repeat' ((fail_if_success (with_reducible show wpAny _ _ (pyIter _) _ _ _)); (fail_if_success (with_reducible show wpAny _ _ (exec (Stmt.While _ _ _ _) _) _ _ _)); (fail_if_success (with_reducible show wpAny _ _ (call (Value.ref _) _ _) _ _ _)); (fail_if_success (with_reducible show Stop _)); (fail_if_success (with_reducible show wpAny _ _ (execs (Stmt.If (Expr.Compare (Expr.BinOp (Expr.Name (Str.ofString "d") _) _ (Expr.Constant _ _ _) _) _ _ _) _ _ _ :: _) _) _ _ _)); (first | (k_unfold; (try dsimp only)) | ((with_reducible show AfterW _ _ _ _ _ _ _ _ _ _ _); dsimp only [AfterW]) | walk1 | (dsimp only; walk1))))
theorem size_step {D k : Nat} (h1 : 1 ≤ k) (h2 : 1 ≤ D) (hm : ((D : Int)).fmod (k : Int) = 0) : Builtin.Range.rangeSize 0 (D : Int) (k : Int) = ((D / k : Nat) : Int) := by
  have hm' : D % k = 0 := by
    rw [Int.fmod_eq_emod_of_nonneg _ (by omega), ← Int.natCast_emod] at hm
    omega
  rw [rangeSize_pos (by omega) (by omega)]
  have e : ((D : Int) + (k : Int) - 1) = ((D + (k - 1) : Nat) : Int) := by omega
  rw [e, ← Int.natCast_ediv]
  obtain ⟨q, rfl⟩ : ∃ q, D = k * q := ⟨D / k, by have := Nat.div_add_mod D k; omega⟩
  rw [Nat.mul_add_div (by omega), Nat.mul_div_cancel_left _ (by omega), Nat.div_eq_of_lt (by omega)]
  rfl
theorem small_step {D k : Nat} (h1 : 1 ≤ k) (h2 : k ≤ 100) (h3 : 1 ≤ D) (h4 : D ≤ 100) (hm : ((D : Int)).fmod (k : Int) = 0) : Builtin.Range.small 0 (D : Int) (k : Int) = true := by
  have hs := size_step h1 h3 hm
  have hq : D / k ≤ 100 := Nat.le_trans (Nat.div_le_self _ _) h4
  unfold Builtin.Range.small
  rw [hs]
  simp only [Builtin.Range.rangeFitsLong, Bool.and_eq_true, Bool.or_eq_true, decide_eq_true_eq, beq_iff_eq]
  rw [if_pos (by omega)]
  generalize D / k = q at *
  clear hs hm
  refine ⟨⟨⟨⟨?_, ?_⟩, ?_⟩, ?_⟩, Or.inr ?_⟩ <;> first | (exact ⟨by omega, by omega⟩) | (simp only [Bool.and_eq_true, decide_eq_true_eq]; exact ⟨by omega, by omega⟩)
theorem mark_three {prog : Program} {w : World} {A : Around} {E : Value → Shared → Prop} {s : Shared} {c : Nat} {t u : Tok} {Q : Value → Shared → Prop} (h : ∀ t' k, Q (.str ⟨#[c, c, c]⟩ t') { s with toks := k }) : wpAny (model prog w) A (binaryOp .Mult (.str ⟨#[c]⟩ t) (.int 3 u)) Q E s := by
  refine SB.mul ⟨by decide, fun _ _ => ?_, fun _ _ => ?_⟩ h
  · show ¬ ((1 : Nat) : Int) > (2 ^ 63 - 1) / 3
    decide
  · show Builtin.Str.tooLong (1 * (3 : Int).toNat) = false
    decide
theorem blk_slice {n a fr k : Nat} (h : fr + k ≤ 2 * n) : Txt.slice (figS n a (2 * n)) (some (fr : Int)) (some ((fr : Int) + (k : Int))) = ⟨(((figL n a (2 * n)).drop fr).take k).toArray⟩ := by
  have e : ((fr : Int) + (k : Int)) = ((fr + k : Nat) : Int) := by omega
  rw [e]
  refine Eq.trans (StrLaws.sliceText_nat (figS n a (2 * n)) (a := fr) (b := fr + k) (by omega) (by rw [figS_length]; omega)) ?_
  show Str.mk (((figL n a (2 * n)).drop fr).take (fr + k - fr)).toArray = _
  have e2 : fr + k - fr = k := by omega
  rw [e2]
theorem reply_eq (c : Nat) (blk : List Nat) : Str.ofString "229 in (" ++ ⟨#[c, c, c]⟩ ++ ⟨blk.toArray⟩ ++ ⟨#[c]⟩ ++ Str.ofString ")" = reply c blk := by
  have e1 : Str.ofString "229 in (" = ⟨#[50, 50, 57, 32, 105, 110, 32, 40]⟩ := by decide +kernel
  have e2 : Str.ofString ")" = ⟨#[41]⟩ := by decide +kernel
  rw [e1, e2]
  apply Str.ext'
  rw [Str.cps_append, Str.cps_append, Str.cps_append, Str.cps_append]
  apply Array.toList_inj.mp
  simp [reply, replyL]
theorem fig_digits {n a : Nat} (hn : 0 < n) (ha : a < n) (m fr k : Nat) : NumText.AllDigits (((figL n a m).drop fr).take k) := by
  intro x hx
  have h1 := List.mem_of_mem_drop (List.mem_of_mem_take hx)
  unfold figL at h1
  obtain ⟨j, _, rfl⟩ := List.mem_map.mp h1
  have := dig_lt hn ha j
  omega
theorem take_fig {n a m fr k : Nat} (h : fr + k < m) : ((figL n a m).drop fr).take (k + 1) = ((figL n a m).drop fr).take k ++ [48 + dig n a (fr + k)] := by
  have e : ((figL n a m).drop fr)[k]? = some (48 + dig n a (fr + k)) := by
    rw [List.getElem?_drop]
    unfold figL
    rw [List.getElem?_map, List.getElem?_range h]
    rfl
  rw [List.take_add_one, e]
  rfl
theorem val_block {n a m fr : Nat} (k : Nat) (h : fr + k ≤ m) : ((NumText.digitsVal (((figL n a m).drop fr).take k) : Nat) : Int) * (n : Int) = 10 ^ k * ((rest n a fr : Nat) : Int) - ((rest n a (fr + k) : Nat) : Int) := by
  induction k with
  | zero => simp [NumText.digitsVal]
  | succ k ih =>
    have ih' := ih (by omega)
    rw [take_fig (by omega), NumText.digitsVal_snoc]
    have e1 : 48 + dig n a (fr + k) - 48 = dig n a (fr + k) := by omega
    have hq : n * dig n a (fr + k) + rest n a (fr + (k + 1)) = 10 * rest n a (fr + k) := Nat.div_add_mod _ _
    rw [e1]
    generalize NumText.digitsVal (((figL n a m).drop fr).take k) = V at *
    generalize dig n a (fr + k) = q at *
    generalize rest n a (fr + (k + 1)) = r2 at *
    generalize rest n a (fr + k) = r1 at *
    generalize rest n a fr = r0 at *
    have hq' : (n : Int) * (q : Int) + (r2 : Int) = 10 * (r1 : Int) := by exact_mod_cast hq
    have e2 : (((V * 10 + q : Nat) : Int)) * (n : Int) = 10 * ((V : Int) * (n : Int)) + (n : Int) * (q : Int) := by
      rw [Int.natCast_add, Int.natCast_mul, Int.add_mul, Int.mul_comm (q : Int)]
      congr 1
      rw [Int.mul_comm (V : Int), Int.mul_assoc]; rfl
    have e3 : (10 : Int) ^ (k + 1) * (r0 : Int) = 10 * (10 ^ k * (r0 : Int)) := by
      rw [Int.pow_succ, Int.mul_comm ((10 : Int) ^ k), Int.mul_assoc]
    rw [e2, e3, ih']
    generalize (10 : Int) ^ k * (r0 : Int) = Z at *
    generalize (n : Int) * (q : Int) = W at *
    omega
theorem small_bits : ∀ r : Nat, r < 50 → Builtin.Int.intBits (r : Int) ≤ 64 := by decide +kernel
theorem front_le {D k j : Nat} (h1 : 1 ≤ k) (hm : ((D : Int)).fmod (k : Int) = 0) (hj : j < D / k) : j * k + k ≤ D := by
  have hm' : D % k = 0 := by
    rw [Int.fmod_eq_emod_of_nonneg _ (by omega), ← Int.natCast_emod] at hm
    omega
  have h2 : (j + 1) * k ≤ D / k * k := Nat.mul_le_mul_right k hj
  have h3 : D / k * k ≤ D := Nat.div_mul_le_self D k
  rw [Nat.add_mul, Nat.one_mul] at h2
  omega
set_option maxRecDepth 100000 in
set_option maxHeartbeats 8000000 in
theorem seg_ports : ∀ {w : World} {base h₀ : Heap} {L fa : Addr} {cd : Value} {mg mb u : Str → Option Value} {mean : ExcName → Option Value} {s : Shared} {Q : Flow → Shared → Prop} {n a c D : Nat} {tn ta tc tf td : Tok} {o : Obj} {r : Addr} {rs : List Value} {cr : Nat}
    (_ : Below callerA base [] h₀) (_ : (hd.heap_39 w.params).In h₀) (_ : Top hd.view_39 (looseW hd.view_39 []) mean mg mb h₀)
    (_ : Fr h₀ L s.heap (kstB u [(Str.ofString "n", .int (n : Int) tn), (Str.ofString "a", .int (a : Int) ta), (Str.ofString "mark", .str ⟨#[c]⟩ tc), (Str.ofString "rests", .ref r), (Str.ofString "figures", .str (figS n a (2 * n)) tf)]))
    (_ : News h₀ L s.heap [(r, listOf rs.toArray cr), (L + 1, o)]) (_ : L + 1 < r) (_ : o.data = .cell (some (.int (D : Int) td))) (_ : IntsAre rs (restsI n a (2 * n))) (_ : 0 < n) (_ : n ≤ 49) (_ : a < n)
    (_ : 1 ≤ D) (_ : D ≤ n) (_ : c = 124 ∨ c = 33 ∨ c = 120) (_ : 0 < pgcd (n + 1) a n)
    (_ : ∀ tl u' h' tk, Fr h₀ L h' (kstB u' [(Str.ofString "n", .int (n : Int) tn), (Str.ofString "rests", .ref r), (Str.ofString "figures", .str (figS n a (2 * n)) tf), (Str.ofString "least", .int ((n / pgcd (n + 1) a n : Nat) : Int) tl)]) →
      News h₀ L h' [(r, listOf rs.toArray cr), (L + 1, o)] →
      wpAny (model Challenge.rw_qu0002_01.row.prog w) (callerA.deeper (lawEnv L fa cd)) (execs (lawBody.drop 14) (lawEnv L fa cd)) Q (fun _ _ => False) { s with heap := h', toks := tk }),
    wpAny (model Challenge.rw_qu0002_01.row.prog w) (callerA.deeper (lawEnv L fa cd)) (execs (lawBody.drop 12) (lawEnv L fa cd)) Q (fun _ _ => False) s := by
  w_top off
  k_fill
  intro w base h₀ L fa cd mg mb u mean s Q n a c D tn ta tc tf td o r rs cr B X T F N hr ho hI hn hn2 ha hD1 hD2 hc hg K
  rw [show lawBody.drop 12 = _ :: _ from rfl, show lawEnv L fa cd = envOfC (Str.ofString "law") ⟨_, _, _, _, _⟩ L fa cd from rfl]
  dsimp only [kstB] at F
  walk_at "MY steps"
  refine wpAny_call (gcd_call (env := envOfC _ _ L fa cd) B F X N T rfl rfl ?_)
  intro h1 tk1 t1 F1 N1
  dsimp only
  generalize hgg : pgcd (n + 1) a n = g at *
  walk_at "MY steps"
  rename_i h2 F2 N2 h3 tk3 t3 u3 v3 rg F3 N3 kp3
  have eL : ((n : Int)).fdiv (g : Int) = ((n / g : Nat) : Int) := by
    rw [Int.fdiv_eq_ediv_of_nonneg _ (by omega), Int.natCast_ediv]
  rw [eL] at F3
  dsimp only at rg ⊢
  refine range_rule (σ := Unit) (n := D) (fun _ => [(r, listOf rs.toArray cr), (L + 1, o)]) [r, L + 1] (fun _ => rfl) (fun _ => []) (fun z => z = Str.ofString "front" ∨ z = Str.ofString "block" ∨ z = Str.ofString "host" ∨ z = Str.ofString "port")
    (fun _ _ => True) () rfl rg ?small ?size F3 N3 (by intro p hp; cases hp) trivial ?_ ?_
  case small => exact small_one (by omega) (by omega) (by omega) (by omega)
  case size => rw [rangeSize_nat]; omega
  · rintro ⟨⟩ i t u2 h tk own hi hoff _ Fi Ni
    dsimp only [lay, kstB] at Fi Ni
    have ek : (1 + (i : Int) * 1) = ((i + 1 : Nat) : Int) := by omega
    rw [ek] at Fi
    generalize hkk : i + 1 = k at *
    have hk1 : 1 ≤ k := by omega
    have hk2 : k ≤ D := by omega
    walk_at "MY steps"
    · refine ⟨after () Fi Ni (fun p hp => hp) (by intro p hp; cases hp) ?_ trivial⟩
      intro z _ hz
      have hz2 := not_or.mp hz
      simp only [if_neg hz2.1, if_neg hz]
    rename_i h5 tk5 t5 u5 v5 rg5 F5 N5 kp5
    rename ((D : Int).fmod (k : Int) = 0) => hm
    dsimp only at rg5 ⊢
    refine range_rule (σ := Unit) (n := D / k) (fun _ => (r, listOf rs.toArray cr) :: (L + 1, o) :: own) (r :: (L + 1) :: own.map (·.1)) (fun _ => rfl) (fun _ => []) (fun z => z = Str.ofString "block" ∨ z = Str.ofString "host" ∨ z = Str.ofString "port")
      (fun _ _ => True) () rfl rg5 (small_step hk1 (by omega) hD1 (by omega) hm) (size_step hk1 hD1 hm) F5 N5 (by intro p hp; cases hp) trivial ?_ ?_
    · rintro ⟨⟩ j tj u6 h6 tk6 own6 hj hoff6 _ F6 N6
      dsimp only [lay, kstB] at F6 N6
      have hfr := front_le hk1 hm hj
      have ej : (0 + (j : Int) * (k : Int)) = ((j * k : Nat) : Int) := by rw [Int.natCast_mul]; omega
      rw [ej] at F6
      generalize hfront : j * k = fr at *
      have hfl := figS_length n a (2 * n)
      generalize hff : figS n a (2 * n) = fs at *
      have hrl := restsI_length n a (2 * n)
      have hit1 : (restsI n a (2 * n)).getD fr 0 = ((rest n a fr : Nat) : Int) := restsI_getD (by omega)
      have hit2 : (restsI n a (2 * n)).getD (fr + k) 0 = ((rest n a (fr + k) : Nat) : Int) := restsI_getD (by omega)
      have hval := val_block (n := n) (a := a) (m := 2 * n) (fr := fr) k (by omega)
      have hr1 := rest_lt hn ha fr
      have hr2 := rest_lt hn ha (fr + k)
      generalize hrr : restsI n a (2 * n) = ri at *
      walk_at "MY steps"
      refine mark_three ?_
      intro tm km
      walk_at "MY steps"
      subst hff
      rw [blk_slice (by omega), reply_eq]
      rename Fr h₀ _ _ _ => F7
      rename News h₀ _ _ _ => N7
      have hbl : (((figL n a (2 * n)).drop fr).take k).length = k := by
        rw [List.length_take, List.length_drop, figL_length]; omega
      have hbd : NumText.AllDigits (((figL n a (2 * n)).drop fr).take k) := fig_digits hn ha _ _ _
      generalize hblk : ((figL n a (2 * n)).drop fr).take k = blk at *
      refine wpAny_call (parse_call (env := envOfC _ _ L fa cd) B F7 X N7 T rfl rfl hc (by omega) (by omega) hbd ?_)
      intro l8 h8 tk8 t8 t8' F8 N8
      dsimp only
      have hval' : ((NumText.digitsVal blk : Nat) : Int) * (n : Int) = 10 ^ ((k : Int)).toNat * ri.getD ((fr : Int)).toNat 0 - ri.getD ((fr : Int) + (k : Int)).toNat 0 := by
        have e1 : ((fr : Int) + (k : Int)).toNat = fr + k := by omega
        rw [e1, Int.toNat_natCast, Int.toNat_natCast, hit1, hit2]
        exact hval
      walk_at "MY steps"
      refine mul_int ?_ (IntMulOk.of_right (by rw [Int.toNat_natCast, hit1]; exact small_bits _ (by omega)))
      walk_at "MY steps"
      · exact absurd hval' (by assumption)
      · rename Fr h₀ _ _ _ => F9
        rename News h₀ _ _ _ => N9
        refine ⟨after () F9 N9 (fun p hp => .tail _ hp) (by intro p hp; cases hp) ?_ trivial⟩
        intro z _ hz
        obtain ⟨z1, z2, z3, z4⟩ : z ≠ Str.ofString "front" ∧ z ≠ Str.ofString "block" ∧ z ≠ Str.ofString "host" ∧ z ≠ Str.ofString "port" := by
          simp only [not_or] at hz
          exact hz
        simp only [if_neg z1, if_neg z2, if_neg z3, if_neg z4, if_neg hz]
    · rintro ⟨⟩ u6 h6 tk6 _ F6 N6
      dsimp only [lay, kstB] at F6 N6 ⊢
      walk_at "MY steps"
      refine ⟨after () F6 N6 (fun p hp => hp) (by intro p hp; cases hp) ?_ trivial⟩
      intro z _ hz
      obtain ⟨z0, z1, z2, z3, z4⟩ : z ≠ Str.ofString "k" ∧ z ≠ Str.ofString "front" ∧ z ≠ Str.ofString "block" ∧ z ≠ Str.ofString "host" ∧ z ≠ Str.ofString "port" := by
        simp only [not_or] at hz
        exact hz
      simp only [z0, z1, z2, z3, z4, or_self, if_false]
  · rintro ⟨⟩ u2 h tk _ Fi Ni
    dsimp only [lay, kstB] at Fi Ni ⊢
    exact K _ _ _ _ (norm Fi _ (by kst_all)) Ni
end partB4
section partB5
def turnD (n a half i : Nat) : Nat := if i / half % 2 = 0 then dig n a i else 9 - dig n a i
def turnL (n a half k : Nat) : List Nat := (List.range k).map fun i => 48 + turnD n a half i
def turnS (n a half k : Nat) : Str := ⟨(turnL n a half k).toArray⟩
theorem turnS_length (n a half k : Nat) : (turnS n a half k).length = k := by
  show (turnL n a half k).toArray.size = k
  rw [List.size_toArray]; simp [turnL]
theorem turnS_succ (n a half k : Nat) : turnS n a half (k + 1) = turnS n a half k ++ ⟨#[48 + turnD n a half k]⟩ := by
  apply Str.ext'
  rw [Str.cps_append]
  show (turnL n a half (k + 1)).toArray = (turnL n a half k).toArray ++ #[48 + turnD n a half k]
  unfold turnL
  rw [List.range_succ, List.map_append]
  simp
theorem figS_getD {n a m i : Nat} (h : i < m) : (figS n a m).cps.getD i 0 = 48 + dig n a i := by
  show ((figL n a m).toArray).getD i 0 = _
  have hl : i < (figL n a m).length := by rw [figL_length]; exact h
  rw [Array.getD, dif_pos (by simpa using hl)]
  simp [figL]
local macro_rules | `(tactic| walk_at "exec For Name Call cons nil") => `(tactic| (k_here; (rename Fr _ _ _ _ => lF'); (with_unfolding_all refine' For_invVF lF' ?k1 ?k2 ?_; (case k1 => exact rfl); (case k2 => exact rfl); k_whole)))
local macro_rules | `(tactic| walk_at "MY steps") => `(tactic| repeat' ((fail_if_success (with_reducible show wpAny _ _ (pyIter _) _ _ _)); (fail_if_success (with_reducible show wpAny _ _ (exec (Stmt.While _ _ _ _) _) _ _ _)); (fail_if_success (with_reducible show wpAny _ _ (call (Value.ref _) _ _) _ _ _)); (fail_if_success (with_reducible show wpAny _ _ (call (Value.type "str") _ _) _ _ _)); (fail_if_success (with_reducible show Stop _)); (first | (k_unfold; (try dsimp only)) | ((with_reducible show AfterW _ _ _ _ _ _ _ _ _ _ _); dsimp only [AfterW]) | walk1 | (dsimp only; walk1))))
set_option maxRecDepth 100000 in
set_option maxHeartbeats 8000000 in
theorem seg_end : ∀ {w : World} {base h₀ : Heap} {L fa : Addr} {cd : Value} {mg mb u : Str → Option Value} {mean : ExcName → Option Value} {s : Shared} {Q : Flow → Shared → Prop} {n a D ls : Nat} {tn tf td tl : Tok} {o : Obj} {r : Addr} {rs : List Value} {cr : Nat}
    (_ : Below callerA base [] h₀) (_ : (hd.heap_39 w.params).In h₀) (_ : Top hd.view_39 (looseW hd.view_39 []) mean mg mb h₀)
    (_ : Fr h₀ L s.heap (kstB u [(Str.ofString "n", .int (n : Int) tn), (Str.ofString "rests", .ref r), (Str.ofString "figures", .str (figS n a (2 * n)) tf), (Str.ofString "least", .int (ls : Int) tl)]))
    (_ : News h₀ L s.heap [(r, listOf rs.toArray cr), (L + 1, o)]) (_ : L + 1 < r) (_ : o.data = .cell (some (.int (D : Int) td))) (_ : IntsAre rs (restsI n a (2 * n))) (_ : 0 < n) (_ : n ≤ 49) (_ : a < n)
    (_ : 1 ≤ D) (_ : D ≤ n) (_ : 0 < ls)
    (_ : D % 2 = 0 → ((tabI (fun j => (turnS n a (D / 2) (2 * n)).cps.getD j 0) (2 * n) (2 * n - 1)).getD (2 * n - 1) 0 = ((2 * n - D / 2 : Nat) : Int) ↔ (10 ^ (D / 2) + 1) % ls = 0))
    (_ : ∀ m' h' tk, Fr h₀ L h' m' → Q (.ret (.bool true)) { s with heap := h', toks := tk }),
    wpAny (model Challenge.rw_qu0002_01.row.prog w) (callerA.deeper (lawEnv L fa cd)) (execs (lawBody.drop 14) (lawEnv L fa cd)) Q (fun _ _ => False) s := by
  w_top off
  k_fill
  intro w base h₀ L fa cd mg mb u mean s Q n a D ls tn tf td tl o r rs cr B X T F N hr ho hI hn hn2 ha hD1 hD2 hls hE hQ
  rw [show lawBody.drop 14 = _ :: _ from rfl, show lawEnv L fa cd = envOfC (Str.ofString "law") ⟨_, _, _, _, _⟩ L fa cd from rfl]
  dsimp only [kstB] at F
  walk_at "MY steps"
  · dsimp only
    exact hQ _ _ _ F
  rename_i hod _ _ _ _ h2 tk2 t2 u2 v2 rg F2 N2 kp2
  have hev : D % 2 = 0 := by
    rw [Int.fmod_eq_emod_of_nonneg _ (by omega)] at hod
    omega
  have hhalf : ((D : Int)).fdiv 2 = ((D / 2 : Nat) : Int) := by
    rw [Int.fdiv_eq_ediv_of_nonneg _ (by omega)]
    omega
  have hE' := hE hev
  have hh1 : 1 ≤ D / 2 := by omega
  have hh2 : D / 2 ≤ n := by omega
  rw [hhalf] at F2
  generalize hhf : D / 2 = half at *
  have e0 : Str.ofString "" = turnS n a half 0 := (show Str.ofString "" = ⟨#[]⟩ by decide +kernel)
  rw [e0] at F2
  dsimp only at rg ⊢
  refine' range_rule (σ := Nat × Tok) (n := 2 * n) (fun _ => [(r, listOf rs.toArray cr), (L + 1, o)]) [r, L + 1] (fun _ => rfl) (fun c => [(Str.ofString "turned", Value.str (turnS n a half c.1) c.2)]) (fun _ => False)
    (fun i c => c.1 = i) (0, _) rfl rg ?small ?size F2 N2 ?start rfl ?_ ?_
  case small => exact small_one (by omega) (by omega) (by omega) (by omega)
  case size => rw [rangeSize_nat]; omega
  case start => intro p hp; rcases List.mem_singleton.mp hp with rfl; rfl
  · rintro ⟨i, tt⟩ _ t u3 h tk own hi hoff rfl Fi Ni
    dsimp only [lay, kstB] at Fi Ni
    have ei : (0 + (i : Int) * 1) = (i : Int) := by omega
    rw [ei] at Fi
    have htl := turnS_length n a half i
    have hfl := figS_length n a (2 * n)
    have hrl := restsI_length n a (2 * n)
    have hit : (restsI n a (2 * n)).getD i 0 = ((rest n a i : Nat) : Int) := restsI_getD (by omega)
    have hrt := rest_lt hn ha i
    have hdg := dig_lt hn ha i
    have hfi : Txt.item (figS n a (2 * n)) (i : Int) = ⟨#[48 + dig n a i]⟩ := by
      rw [item_meets ⟨by omega, by omega⟩, Int.toNat_natCast, figS_getD hi]
    have hcond : ((i : Int).fdiv (half : Int)).fmod 2 = ((i / half % 2 : Nat) : Int) := by
      rw [Int.fdiv_eq_ediv_of_nonneg _ (by omega), Int.fmod_eq_emod_of_nonneg _ (by omega), Int.natCast_emod, Int.natCast_ediv]
      rfl
    generalize hrr : restsI n a (2 * n) = ri at *
    generalize hff : figS n a (2 * n) = fs at *
    generalize htt : turnS n a half i = ts at *
    walk_at "MY steps"
    · rename (((i : Int).fdiv (half : Int)).fmod 2 = 0) => hc0
      rename Fr h₀ _ _ _ => F4
      rename News h₀ _ _ _ => N4
      rw [hcond] at hc0
      have htd : turnD n a half i = dig n a i := if_pos (by omega)
      rw [hfi, ← htt, ← htd, ← turnS_succ] at F4
      refine' ⟨after (i + 1, _) F4 N4 (fun p hp => hp) ?a1 ?a2 rfl⟩
      case a1 => intro p hp; rcases List.mem_singleton.mp hp with rfl; rfl
      case a2 =>
        intro z hz hz'
        have hz2 := hz _ (.head _)
        have hz3 := not_or.mp hz'
        dsimp only at hz2
        simp [hz2, hz3.1]
    · rename (((i : Int).fdiv (half : Int)).fmod 2 ≠ 0) => hc0
      rw [hcond] at hc0
      have htd : turnD n a half i = 9 - dig n a i := if_neg (by omega)
      have e1 : 9 - (10 * ri.getD ((i : Int)).toNat 0).fdiv (n : Int) = ((turnD n a half i : Nat) : Int) := by
        rw [Int.toNat_natCast, hit, Int.fdiv_eq_ediv_of_nonneg _ (by omega), htd]
        have e : (10 * ((rest n a i : Nat) : Int)) / (n : Int) = ((dig n a i : Nat) : Int) := by
          unfold dig
          rw [Int.natCast_ediv, Int.natCast_mul]
          rfl
        rw [e]
        omega
      have htl9 : turnD n a half i < 10 := by omega
      have hdt := digit_text _ htl9
      rw [e1]
      generalize hdd : turnD n a half i = dg at *
      walk1
      walk_at "MY steps"
      rename Fr h₀ _ _ _ => F4
      rename News h₀ _ _ _ => N4
      rw [hdt, ← htt, ← hdd, ← turnS_succ] at F4
      refine' ⟨after (i + 1, _) F4 N4 (fun p hp => hp) ?a1 ?a2 rfl⟩
      case a1 => intro p hp; rcases List.mem_singleton.mp hp with rfl; rfl
      case a2 =>
        intro z hz hz'
        have hz2 := hz _ (.head _)
        have hz3 := not_or.mp hz'
        dsimp only at hz2
        simp [hz2, hz3.1]
  · rintro ⟨_, tt⟩ u3 h tk rfl Fi Ni
    dsimp only [lay, kstB] at Fi Ni ⊢
    have htl := turnS_length n a half (2 * n)
    walk_at "MY steps"
    refine wpAny_call (over_call (env := envOfC _ _ L fa cd) B Fi X Ni T rfl rfl (by omega) (by omega) ?_)
    intro l vs cc h5 tk5 F5 N5 hI5 hlt5
    rw [htl] at hI5
    have htb := tabI_length (P := fun j => (turnS n a half (2 * n)).cps.getD j 0) (n := 2 * n) (k := 2 * n - 1) (by omega)
    generalize tabI (fun j => (turnS n a half (2 * n)).cps.getD j 0) (2 * n) (2 * n - 1) = ti at *
    dsimp only
    walk_at "MY steps"
    rename Fr h₀ _ _ _ => F6
    have hb : ((ti.getD (-1 + (ti.length : Int)).toNat 0 == 2 * (n : Int) - (half : Int)) == ((10 ^ ((half : Int)).toNat + 1 : Int).fmod (ls : Int) == 0)) = true := by
      have e1 : (-1 + (ti.length : Int)).toNat = 2 * n - 1 := by omega
      have e2 : 2 * (n : Int) - (half : Int) = ((2 * n - half : Nat) : Int) := by omega
      have e3 : ((10 ^ ((half : Int)).toNat + 1 : Int)).fmod (ls : Int) = (((10 ^ half + 1) % ls : Nat) : Int) := by
        rw [Int.toNat_natCast, Int.fmod_eq_emod_of_nonneg _ (by omega), Int.natCast_emod, Int.natCast_add, Int.natCast_pow]
        rfl
      rw [e1, e2, e3]
      by_cases hx : (10 ^ half + 1) % ls = 0
      · rw [hE'.mpr hx, hx]
        simp
      · have hy : ¬ ti.getD (2 * n - 1) 0 = ((2 * n - half : Nat) : Int) := fun h => hx (hE'.mp h)
        have hx' : ¬ (((10 ^ half + 1) % ls : Nat) : Int) = 0 := by omega
        rw [beq_eq_false_iff_ne.mpr hy, beq_eq_false_iff_ne.mpr hx']
        rfl
    rw [hb]
    dsimp only
    exact hQ _ _ _ F6
end partB5
section partM1
/-- the table as one number, seven bits an entry -/
def loopN (P : Nat → Nat) : Nat → Nat → Nat → Nat
  | 0, _, t => t
  | f + 1, k, t => loopN P f (k + 1) (t + inner P (fun j => (t >>> (7 * j)) % 128) (P (k + 1)) (k + 2) ((t >>> (7 * k)) % 128) * 2 ^ (7 * (k + 1)))
def figN (n : Nat) : Nat → Nat → Nat
  | 0, _ => 0
  | f + 1, r => (48 + 10 * r / n) + 64 * figN n f (10 * r % n)
def turnN (n half : Nat) : Nat → Nat → Nat → Nat
  | 0, _, _ => 0
  | f + 1, i, r => (48 + if i / half % 2 = 0 then 10 * r / n else 9 - 10 * r / n) + 64 * turnN n half f (i + 1) (10 * r % n)
def ordN (n a : Nat) : Nat → Nat → Nat → Nat
  | 0, j, _ => j
  | f + 1, j, r => if r = a then j else ordN n a f (j + 1) (10 * r % n)
def rowOk (t D : Nat) : Nat → Nat → Bool
  | 0, _ => true
  | f + 1, i => ((t >>> (7 * (2 * D - 1 + i))) % 128 == D + i) && rowOk t D f (i + 1)
def okPair (n a : Nat) : Bool :=
  let D := ordN n a n 1 (10 * a % n)
  let p := figN n (2 * n) a
  let t := loopN (fun j => (p >>> (6 * j)) % 64) (2 * n - 1) 0 0
  let g := pgcd (n + 1) a n
  let half := D / 2
  decide (1 ≤ D) && decide (D ≤ n) && rowOk t D (2 * n + 1 - 2 * D) 0 && decide (0 < g) && decide (0 < n / g) &&
    (D % 2 == 1 ||
      let q := turnN n half (2 * n) 0 a
      let t2 := loopN (fun j => (q >>> (6 * j)) % 64) (2 * n - 1) 0 0
      ((t2 >>> (7 * (2 * n - 1))) % 128 == 2 * n - half) == ((10 ^ half + 1) % (n / g) == 0))
def okAll (n : Nat) : Nat → Bool
  | 0 => true
  | a + 1 => okPair n (a + 1) && okAll n a
/-- a list of small numbers as one number, b bits each -/
def enc (b : Nat) : List Nat → Nat
  | [] => 0
  | x :: r => x + 2 ^ b * enc b r
theorem enc_get (b : Nat) : ∀ (l : List Nat) (j : Nat), (∀ x ∈ l, x < 2 ^ b) → (enc b l >>> (b * j)) % 2 ^ b = l.getD j 0
  | [], j, _ => by simp [enc]
  | x :: r, 0, h => by
    have hx := h x (.head _)
    rw [Nat.mul_zero, Nat.shiftRight_zero]
    show (x + 2 ^ b * enc b r) % 2 ^ b = x
    rw [Nat.add_mul_mod_self_left, Nat.mod_eq_of_lt hx]
  | x :: r, j + 1, h => by
    have hx := h x (.head _)
    have ih := enc_get b r j fun y hy => h y (.tail _ hy)
    have e : b * (j + 1) = b + b * j := by rw [Nat.mul_succ, Nat.add_comm]
    rw [e, Nat.shiftRight_add, Nat.shiftRight_eq_div_pow _ b]
    show ((x + 2 ^ b * enc b r) / 2 ^ b) >>> (b * j) % 2 ^ b = r.getD j 0
    rw [Nat.add_mul_div_left _ _ (Nat.two_pow_pos b), Nat.div_eq_of_lt hx, Nat.zero_add]
    exact ih
theorem enc_snoc (b : Nat) : ∀ (l : List Nat) (v : Nat), enc b (l ++ [v]) = enc b l + v * 2 ^ (b * l.length)
  | [], v => by simp [enc]
  | x :: r, v => by
    show x + 2 ^ b * enc b (r ++ [v]) = (x + 2 ^ b * enc b r) + v * 2 ^ (b * (r.length + 1))
    have e : 2 ^ b * (v * 2 ^ (b * r.length)) = v * 2 ^ (b * (r.length + 1)) := by
      rw [Nat.mul_left_comm, ← Nat.pow_add, Nat.mul_succ, Nat.add_comm b]
    rw [enc_snoc b r v, Nat.mul_add, e, Nat.add_assoc]
theorem outer_small (P : Nat → Nat) {k : Nat} (hk : k < 127) : ∀ x ∈ outerL P k, x < 2 ^ 7 := by
  intro x hx
  obtain ⟨i, hi, rfl⟩ := List.getElem_of_mem hx
  have h1 := outerL_le P k i
  have hl := outerL_length P k
  rw [List.getD_eq_getElem?_getD, List.getElem?_eq_getElem hi] at h1
  have : (outerL P k)[i] ≤ i := h1
  omega
theorem loop_enc (P : Nat → Nat) : ∀ (f k : Nat), k + f < 127 → loopN P f k (enc 7 (outerL P k)) = enc 7 (outerL P (k + f))
  | 0, k, _ => rfl
  | f + 1, k, h => by
    have hf : (fun j => (enc 7 (outerL P k) >>> (7 * j)) % 128) = fun j => (outerL P k).getD j 0 := funext fun j => enc_get 7 _ j (outer_small P (by omega))
    have hk0 : (enc 7 (outerL P k) >>> (7 * k)) % 128 = (outerL P k).getD k 0 := congrFun hf k
    have e : loopN P (f + 1) k (enc 7 (outerL P k)) = loopN P f (k + 1) (enc 7 (outerL P k) + inner P (fun j => (enc 7 (outerL P k) >>> (7 * j)) % 128) (P (k + 1)) (k + 2) ((enc 7 (outerL P k) >>> (7 * k)) % 128) * 2 ^ (7 * (k + 1))) := rfl
    rw [e, hf, hk0]
    have e2 : enc 7 (outerL P k) + inner P (fun j => (outerL P k).getD j 0) (P (k + 1)) (k + 2) ((outerL P k).getD k 0) * 2 ^ (7 * (k + 1)) = enc 7 (outerL P (k + 1)) := by
      rw [outerL, enc_snoc, outerL_length]
    rw [e2, loop_enc P f (k + 1) (by omega), Nat.add_right_comm, Nat.add_assoc]
theorem figN_enc (n a : Nat) : ∀ (f i : Nat), figN n f (rest n a i) = enc 6 ((List.range f).map fun j => 48 + dig n a (i + j))
  | 0, _ => rfl
  | f + 1, i => by
    rw [List.range_succ_eq_map, List.map_cons, List.map_map]
    show (48 + 10 * rest n a i / n) + 64 * figN n f (rest n a (i + 1)) = (48 + dig n a (i + 0)) + 2 ^ 6 * enc 6 _
    rw [figN_enc n a f (i + 1)]
    have e : (fun j => 48 + dig n a (i + 1 + j)) = (fun j => 48 + dig n a (i + j)) ∘ Nat.succ := by
      funext j
      simp only [Function.comp]
      rw [show i + 1 + j = i + j.succ by omega]
    rw [e]
    rfl
theorem turnN_enc (n a half : Nat) : ∀ (f i : Nat), turnN n half f i (rest n a i) = enc 6 ((List.range f).map fun j => 48 + turnD n a half (i + j))
  | 0, _ => rfl
  | f + 1, i => by
    rw [List.range_succ_eq_map, List.map_cons, List.map_map]
    show (48 + if i / half % 2 = 0 then 10 * rest n a i / n else 9 - 10 * rest n a i / n) + 64 * turnN n half f (i + 1) (rest n a (i + 1)) = (48 + turnD n a half (i + 0)) + 2 ^ 6 * enc 6 _
    rw [turnN_enc n a half f (i + 1)]
    have e : (fun j => 48 + turnD n a half (i + 1 + j)) = (fun j => 48 + turnD n a half (i + j)) ∘ Nat.succ := by
      funext j
      simp only [Function.comp]
      rw [show i + 1 + j = i + j.succ by omega]
    rw [e]
    rfl
theorem ord_spec (n a : Nat) : ∀ (f j : Nat), (∀ i, 1 ≤ i → i < j → rest n a i ≠ a) → (∀ i, 1 ≤ i → i < ordN n a f j (rest n a j) → rest n a i ≠ a) ∧ (ordN n a f j (rest n a j) < j + f → rest n a (ordN n a f j (rest n a j)) = a) ∧ j ≤ ordN n a f j (rest n a j)
  | 0, j, h => ⟨h, fun h' => absurd h' (by show ¬ j < j + 0; omega), Nat.le_refl _⟩
  | f + 1, j, h => by
    unfold ordN
    by_cases hr : rest n a j = a
    · rw [if_pos hr]
      exact ⟨h, fun _ => hr, Nat.le_refl _⟩
    · rw [if_neg hr]
      have ih := ord_spec n a f (j + 1) fun i h1 h2 => by
        by_cases e : i = j
        · exact e ▸ hr
        · exact h i h1 (by omega)
      exact ⟨ih.1, fun h' => ih.2.1 (by
        have h2 : ordN n a f (j + 1) (rest n a (j + 1)) < j + (f + 1) := h'
        omega), by
        have h3 := ih.2.2
        show j ≤ ordN n a f (j + 1) (rest n a (j + 1))
        omega⟩
theorem row_spec (t D : Nat) : ∀ (f i : Nat), rowOk t D f i = true → ∀ k, k < f → (t >>> (7 * (2 * D - 1 + (i + k)))) % 128 = D + (i + k)
  | 0, _, _, k, hk => absurd hk (Nat.not_lt_zero _)
  | f + 1, i, h, k, hk => by
    unfold rowOk at h
    rw [Bool.and_eq_true] at h
    cases k with
    | zero => exact beq_iff_eq.mp h.1
    | succ k =>
      have := row_spec t D f (i + 1) h.2 k (by omega)
      rw [show i + (k + 1) = i + 1 + k by omega]
      exact this
theorem arr_getD (l : List Nat) (j : Nat) : (l.toArray).getD j 0 = l.getD j 0 := by
  simp only [Array.getD, List.getD_eq_getElem?_getD]
  by_cases h : j < l.length
  · simp [h]
  · simp [h]
theorem digits_fun {l : List Nat} (h : ∀ x ∈ l, x < 58) : (fun j => (enc 6 l >>> (6 * j)) % 64) = fun j => (l.toArray).getD j 0 := by
  funext j
  rw [arr_getD]
  exact enc_get 6 l j fun x hx => Nat.lt_of_lt_of_le (h x hx) (by decide)
theorem loop_all (P : Nat → Nat) {m : Nat} (h : m < 127) : loopN P m 0 0 = enc 7 (outerL P m) := by
  have := loop_enc P m 0 (by omega)
  rw [Nat.zero_add] at this
  exact this
theorem tab_all (P : Nat → Nat) {n : Nat} (h : 1 ≤ n) : tabI P n (n - 1) = (outerL P (n - 1)).map Nat.cast := by
  unfold tabI
  rw [Nat.sub_self]
  simp
theorem get_all (P : Nat → Nat) {m j : Nat} (hm : m < 127) : (enc 7 (outerL P m) >>> (7 * j)) % 128 = (outerL P m).getD j 0 := enc_get 7 _ j (outer_small P hm)
theorem okPair_spec {n a : Nat} (h : okPair n a = true) (hn : 0 < n) (hn2 : n ≤ 49) (ha : a < n) : ∃ D, 1 ≤ D ∧ D ≤ n ∧ rest n a D = a ∧ (∀ j, 1 ≤ j → j < D → rest n a j ≠ a) ∧
    (tabI (fun j => (figS n a (2 * n)).cps.getD j 0) (2 * n) (2 * n - 1)).drop (2 * D - 1) = ((List.range (2 * n + 1 - 2 * D)).map fun i => ((D + i : Nat) : Int)) ∧
    0 < pgcd (n + 1) a n ∧ 0 < n / pgcd (n + 1) a n ∧
    (D % 2 = 0 → ((tabI (fun j => (turnS n a (D / 2) (2 * n)).cps.getD j 0) (2 * n) (2 * n - 1)).getD (2 * n - 1) 0 = ((2 * n - D / 2 : Nat) : Int) ↔ (10 ^ (D / 2) + 1) % (n / pgcd (n + 1) a n) = 0)) := by
  have hord := ord_spec n a n 1 (fun i h1 h2 => by omega)
  have hfig : figN n (2 * n) a = enc 6 (figL n a (2 * n)) := by
    have := figN_enc n a (2 * n) 0
    simp only [Nat.zero_add] at this
    exact this
  have hfd : (fun j => (figN n (2 * n) a >>> (6 * j)) % 64) = fun j => (figS n a (2 * n)).cps.getD j 0 := by
    rw [hfig]
    refine digits_fun fun x hx => ?_
    unfold figL at hx
    obtain ⟨j, _, rfl⟩ := List.mem_map.mp hx
    have := dig_lt hn ha j
    omega
  unfold okPair at h
  simp only [Bool.and_eq_true, decide_eq_true_eq] at h
  obtain ⟨⟨⟨⟨⟨h1, h2⟩, h3⟩, h4⟩, h5⟩, h6⟩ := h
  have e1 : ordN n a n 1 (10 * a % n) = ordN n a n 1 (rest n a 1) := rfl
  rw [e1] at h1 h2 h3 h6
  generalize hD : ordN n a n 1 (rest n a 1) = D at *
  refine ⟨D, h1, h2, hord.2.1 (by omega), hord.1, ?_, h4, h5, ?_⟩
  · rw [hfd, loop_all _ (by omega)] at h3
    have hr := row_spec _ _ _ _ h3
    rw [tab_all _ (by omega)]
    generalize (fun j => (figS n a (2 * n)).cps.getD j 0) = P at *
    have hl := outerL_length P (2 * n - 1)
    apply List.ext_getElem
    · simp [hl]; omega
    · intro i hi1 hi2
      simp only [List.length_map, List.length_range] at hi2
      have hx := hr i hi2
      rw [get_all P (by omega), Nat.zero_add, List.getD_eq_getElem?_getD, List.getElem?_eq_getElem (by omega)] at hx
      rw [List.getElem_drop, List.getElem_map, List.getElem_map, List.getElem_range]
      congr 1
  · intro hev
    rcases Bool.or_eq_true_iff.mp h6 with h7 | h7
    · have := beq_iff_eq.mp h7
      omega
    · have htn : turnN n (D / 2) (2 * n) 0 a = enc 6 (turnL n a (D / 2) (2 * n)) := by
        have := turnN_enc n a (D / 2) (2 * n) 0
        simp only [Nat.zero_add] at this
        exact this
      have htd : (fun j => (turnN n (D / 2) (2 * n) 0 a >>> (6 * j)) % 64) = fun j => (turnS n a (D / 2) (2 * n)).cps.getD j 0 := by
        rw [htn]
        refine digits_fun fun x hx => ?_
        unfold turnL at hx
        obtain ⟨j, _, rfl⟩ := List.mem_map.mp hx
        have := dig_lt hn ha j
        unfold turnD
        split <;> omega
      rw [htd, loop_all _ (by omega), get_all _ (by omega)] at h7
      rw [tab_all _ (by omega)]
      generalize (fun j => (turnS n a (D / 2) (2 * n)).cps.getD j 0) = P at *
      have hl := outerL_length P (2 * n - 1)
      have hg : (List.map (Nat.cast : Nat → Int) (outerL P (2 * n - 1))).getD (2 * n - 1) 0 = (((outerL P (2 * n - 1)).getD (2 * n - 1) 0 : Nat) : Int) := by
        rw [List.getD_eq_getElem?_getD, List.getElem?_map, List.getD_eq_getElem?_getD, List.getElem?_eq_getElem (by omega)]
        rfl
      rw [hg]
      have h8 := beq_iff_eq.mp h7
      generalize (outerL P (2 * n - 1)).getD (2 * n - 1) 0 = x at *
      generalize (10 ^ (D / 2) + 1) % (n / pgcd (n + 1) a n) = z at *
      constructor
      · intro hx
        have hx' : x = 2 * n - D / 2 := by omega
        rw [beq_iff_eq.mpr hx'] at h8
        exact beq_iff_eq.mp h8.symm
      · intro hz
        rw [beq_iff_eq.mpr hz] at h8
        have := beq_iff_eq.mp h8
        omega
def kindsN : List Nat := [3, 7, 9, 11, 13, 17, 19, 21, 23, 27, 29, 31, 33, 37, 39, 41, 43, 47, 49]
theorem okAll_spec {n : Nat} : ∀ {m a : Nat}, okAll n m = true → 1 ≤ a → a ≤ m → okPair n a = true
  | 0, _, _, h1, h2 => by omega
  | m + 1, a, h, h1, h2 => by
    unfold okAll at h
    rw [Bool.and_eq_true] at h
    by_cases e : a = m + 1
    · exact e ▸ h.1
    · exact okAll_spec h.2 h1 (by omega)
set_option maxRecDepth 100000
theorem ok_3 : okAll 3 2 = true := by decide +kernel
theorem ok_7 : okAll 7 6 = true := by decide +kernel
theorem ok_9 : okAll 9 8 = true := by decide +kernel
theorem ok_11 : okAll 11 10 = true := by decide +kernel
theorem ok_13 : okAll 13 12 = true := by decide +kernel
theorem ok_17 : okAll 17 16 = true := by decide +kernel
theorem ok_19 : okAll 19 18 = true := by decide +kernel
theorem ok_21 : okAll 21 20 = true := by decide +kernel
theorem ok_23 : okAll 23 22 = true := by decide +kernel
theorem ok_27 : okAll 27 26 = true := by decide +kernel
theorem ok_29 : okAll 29 28 = true := by decide +kernel
theorem ok_31 : okAll 31 30 = true := by decide +kernel
theorem ok_33 : okAll 33 32 = true := by decide +kernel
theorem ok_37 : okAll 37 36 = true := by decide +kernel
theorem ok_39 : okAll 39 38 = true := by decide +kernel
theorem ok_41 : okAll 41 40 = true := by decide +kernel
theorem ok_43 : okAll 43 42 = true := by decide +kernel
theorem ok_47 : okAll 47 46 = true := by decide +kernel
theorem ok_49 : okAll 49 48 = true := by decide +kernel
theorem ok_all {n a : Nat} (hn : n ∈ kindsN) (h1 : 1 ≤ a) (h2 : a < n) : okPair n a = true := by
  simp only [kindsN, List.mem_cons, List.not_mem_nil, or_false] at hn
  rcases hn with rfl | rfl | rfl | rfl | rfl | rfl | rfl | rfl | rfl | rfl | rfl | rfl | rfl | rfl | rfl | rfl | rfl | rfl | rfl
  · exact okAll_spec ok_3 h1 (by omega)
  · exact okAll_spec ok_7 h1 (by omega)
  · exact okAll_spec ok_9 h1 (by omega)
  · exact okAll_spec ok_11 h1 (by omega)
  · exact okAll_spec ok_13 h1 (by omega)
  · exact okAll_spec ok_17 h1 (by omega)
  · exact okAll_spec ok_19 h1 (by omega)
  · exact okAll_spec ok_21 h1 (by omega)
  · exact okAll_spec ok_23 h1 (by omega)
  · exact okAll_spec ok_27 h1 (by omega)
  · exact okAll_spec ok_29 h1 (by omega)
  · exact okAll_spec ok_31 h1 (by omega)
  · exact okAll_spec ok_33 h1 (by omega)
  · exact okAll_spec ok_37 h1 (by omega)
  · exact okAll_spec ok_39 h1 (by omega)
  · exact okAll_spec ok_41 h1 (by omega)
  · exact okAll_spec ok_43 h1 (by omega)
  · exact okAll_spec ok_47 h1 (by omega)
  · exact okAll_spec ok_49 h1 (by omega)
end partM1
section partA0
/-- a comprehension with one test over a range, its items kept, stored under a name: the list goes onto the ledger -/
theorem comp_kept {prog : Program} {w : World} {A : Around} {s : Shared} {h₀ : Heap} {L : Addr} {m : Str → Option Value} {env : Env} {iter c : Expr} {x y : Str} {px pe py : Pos} {scope : Scope} {cl : List (Str × Addr)} {pos spos : Pos} {Q : Flow → Shared → Prop} (pz : Int → Bool)
    (_ : Fr h₀ L s.heap m) (hsw : swapsWith (.ListComp (.Name x pe) [⟨.Name x px, iter, [c], 0⟩] scope pos) (some (.Name y py)) spos.line env = pure true) (hL : env.locals = L)
    (hh : A.handled = none) (hclos : closureFor scope env = pure cl) (hcell : ∀ z ∈ scope.names, z.2 ≠ .cell) (hkind : scope.kind = .function)
    (hnames : ∀ z ∈ scope.names, z.2 = .local → scope.names.lookup z.1 = some .local) (hx : scope.names.lookup x = some .local)
    (hy : env.kindOf y = some .local) (hp : (env.scope.kind == .class || (env.scope.kind == .module && env.locals != env.globals)) = false)
    (hkl : ∀ C, (compEnvC scope cl C env).kindOf x = some .local) (hkk : ∀ C, (compEnvC scope cl C env).scope.kind = .function) (hdb : (x == ("__debug__" : Str)) = false)
    (h : wpAny (model prog w) A (eval iter env) (fun xv s₁ => Stop (∃ news : List (Addr × Obj), ∃ r a₀ b₀ t₀ u₀ v₀, ∃ n : Nat, xv = .ref r ∧ IsRange s₁.heap r a₀ b₀ 1 t₀ u₀ v₀ ∧ Builtin.Range.small a₀ b₀ 1 = true ∧ Builtin.Range.rangeSize a₀ b₀ 1 = (n : Int) ∧ n ≤ sizeLine ∧ Fr h₀ L s₁.heap m ∧ News h₀ L s₁.heap news ∧
      (∀ C a t s₂ m₂, s₂.heap.Ns C m₂ → m₂ x = some (.int a t) → ∀ E', wpAny (model prog w) A (isTrue c (compEnvC scope cl C env) (eval c (compEnvC scope cl C env))) (fun ok s₃ => ok = pz a ∧ Keeps s₂ s₃) E' s₂) ∧
      (∀ D (ys : List Value) k h' tk, Fr h₀ L h' (fun z => if z = y then some (.ref D) else m z) → News h₀ L h' ((D, listOf ys.toArray k) :: news) → IntsAre ys ((rangeInts a₀ 1 n).filter pz) → Q .next { s₁ with heap := h', toks := tk }))) (fun _ _ => False) s)
    (hs : ∀ x, foldedSetIterable iter env x = pure x) :
    wpAny (model prog w) A (exec (.Assign [.Name y py] (.ListComp (.Name x pe) [⟨.Name x px, iter, [c], 0⟩] scope pos) spos) env) Q (fun _ _ => False) s := by
  refine Assign_ListComp_DCr (h₀ := h₀) (L := L) (m := m) (pz := pz) (d := PyData.int) hsw hL hh hclos hcell hkind hnames hx hy hp (wpAny_mono h (fun xv s₁ h₁ => ?_) fun _ _ e => e) hs
  obtain ⟨news, r, a₀, b₀, t₀, u₀, v₀, n, rfl, hr, hsmall, hn, hsz, F, N, htest, hQ⟩ := h₁.out
  refine ⟨news, r, a₀, b₀, 1, t₀, u₀, v₀, n, rfl, hr, hsmall, hn, hsz, F, N, ?_, ?_, ?_⟩
  · intro C a v s₂ m₂ E' _ _ hv hns hm _
    obtain ⟨t, rfl⟩ := hv
    rw [List.forIn_cons]
    refine wpAny_bind ?_
    rw [if_pos rfl]
    refine wpAny_bind (wpAny_mono (htest C a t s₂ m₂ hns hm E') (fun ok s₃ h₃ => ?_) fun _ _ e => e)
    exact wpAny_pure (wpAny_pure h₃)
  · intro C a v s₂ m₂ E' _ _ hv _ hns hm _
    obtain ⟨t, rfl⟩ := hv
    exact ldVarK hns hm ⟨.int _ _, _, _, rfl, fun _ _ h => h⟩ (hkk C) (hkl C) hdb
  · intro D ys h' tk F' N' h0 hl hnp hc
    obtain ⟨⟨k, e⟩, hoff⟩ := id hnp
    refine hQ D ys k h' tk F' (fun p hp => ?_) (IntsAre.ofCarried hc)
    rcases List.mem_cons.mp hp with rfl | hp
    · exact ⟨e, hnp.ne_locals F', h0⟩
    · exact N' p hp
end partA0
section partA2
def kindsI : List Int := [3, 7, 9, 11, 13, 17, 19, 21, 23, 27, 29, 31, 33, 37, 39, 41, 43, 47, 49]
def kz (x : Int) : Bool := (x.fmod 2 == 1) && (x.fmod 5 != 0)
theorem kinds_eq : (rangeInts 3 1 47).filter kz = kindsI := by decide +kernel
theorem kinds_get : ∀ j, j < 19 → ∃ n : Nat, kindsI.getD j 0 = (n : Int) ∧ n ∈ kindsN := by
  have h : ∀ j, j < 19 → kindsI.getD j 0 = ((kindsN.getD j 0 : Nat) : Int) ∧ kindsN.getD j 0 ∈ kindsN := by decide +kernel
  exact fun j hj => ⟨_, h j hj⟩
local macro_rules | `(tactic| walk_at "MY steps") => `(tactic| repeat' ((fail_if_success (with_reducible show wpAny _ _ (pyIter _) _ _ _)); (fail_if_success (with_reducible show Stop _)); (fail_if_success (with_reducible show wpAny _ _ (exec (Stmt.Assign [Expr.Name (Str.ofString "kinds") _] _ _) _) _ _ _)); (first | (k_unfold; (try dsimp only)) | walk1 | (dsimp only; walk1))))
set_option maxRecDepth 100000 in
set_option maxHeartbeats 8000000 in
theorem seg_kinds : ∀ {w : World} {base h₀ : Heap} {L fa : Addr} {cd : Value} {mg mb m : Str → Option Value} {mean : ExcName → Option Value} {s : Shared} {Q : Flow → Shared → Prop} {news : List (Addr × Obj)}
    (_ : Below callerA base [] h₀) (_ : (hd.heap_39 w.params).In h₀) (_ : Top hd.view_39 (looseW hd.view_39 []) mean mg mb h₀)
    (_ : Fr h₀ L s.heap m) (_ : News h₀ L s.heap news)
    (_ : ∀ D ys k h' tk, Fr h₀ L h' (fun z => if z = Str.ofString "kinds" then some (.ref D) else m z) → News h₀ L h' ((D, listOf ys.toArray k) :: news) → IntsAre ys kindsI →
      wpAny (model Challenge.rw_qu0002_01.row.prog w) (callerA.deeper (lawEnv L fa cd)) (execs (lawBody.drop 2) (lawEnv L fa cd)) Q (fun _ _ => False) { s with heap := h', toks := tk }),
    wpAny (model Challenge.rw_qu0002_01.row.prog w) (callerA.deeper (lawEnv L fa cd)) (execs (lawBody.drop 1) (lawEnv L fa cd)) Q (fun _ _ => False) s := by
  w_top off
  k_fill
  intro w base h₀ L fa cd mg mb m mean s Q news B X T F N K
  rw [show lawBody.drop 1 = _ :: _ from rfl, show lawEnv L fa cd = envOfC (Str.ofString "law") ⟨_, _, _, _, _⟩ L fa cd from rfl]
  walk_at "MY steps"
  refine comp_kept kz F (by with_unfolding_all rfl) rfl rfl (by with_unfolding_all rfl) (by decide) rfl (by decide) rfl rfl rfl (fun _ => rfl) (fun _ => rfl) (by decide) ?_ (fun _ => rfl)
  walk_at "MY steps"
  rename_i rg F2 N2 kp2
  refine ⟨⟨_, _, _, _, _, _, _, 47, rfl, rg, small_one (by omega) (by omega) (by omega) (by omega), by rw [rangeSize_nat]; rfl, by rw [sizeLine_eq]; omega, F2, N2, ?_, ?_⟩⟩
  · intro C p t s₂ m₂ hns hm E'
    clear rg F2 N2 kp2 K
    walk1
    walk1
    walk1
    refine ldVarK hns hm ?_
    walk1
    walk1
    walk1
    walk1
    walk1
    dsimp only
    by_cases h2 : (p.fmod 2 == 1) = true
    · rw [if_pos h2]
      walk1
      walk1
      walk1
      refine ldVarK hns hm ?_
      walk1
      walk1
      walk1
      walk1
      walk1
      dsimp only
      by_cases h5 : (p.fmod 5 != 0) = true
      · rw [if_pos h5]
        walk1
        refine ⟨by unfold kz; rw [h2, h5]; rfl, _, _, rfl, fun _ _ h => h⟩
      · rw [if_neg h5]
        refine ⟨by unfold kz; rw [Bool.eq_false_iff.mpr h5, Bool.and_false], _, _, rfl, fun _ _ h => h⟩
    · rw [if_neg h2]
      refine ⟨by unfold kz; rw [Bool.eq_false_iff.mpr h2]; rfl, _, _, rfl, fun _ _ h => h⟩
  · intro D ys k h3 tk3 F3 N3 hI3
    rw [kinds_eq] at hI3
    exact K D ys k h3 tk3 F3 N3 hI3
end partA2
section partA1
local macro_rules | `(tactic| walk_at "MY steps") => `(tactic| repeat' ((fail_if_success (with_reducible show wpAny _ _ (pyIter _) _ _ _)); (fail_if_success (with_reducible show Stop _)); (fail_if_success (with_reducible show wpAny _ _ (execs (Stmt.Assign [Expr.Name (Str.ofString "kinds") _] _ _ :: _) _) _ _ _)); (fail_if_success (with_reducible show wpAny _ _ (subscriptTail _ (Expr.Slice _ _ _ _) (Value.ref _) (Value.ref _)) _ _ _)); (fail_if_success (with_reducible show wpAny _ _ (execs (Stmt.Assign [Expr.Name (Str.ofString "rests") _] _ _ :: _) _) _ _ _)); (first | (k_unfold; (try dsimp only)) | walk1 | (dsimp only; walk1))))
theorem kinds_bounds {n : Nat} (h : n ∈ kindsN) : 3 ≤ n ∧ n ≤ 49 := (show ∀ n ∈ kindsN, 3 ≤ n ∧ n ≤ 49 by decide +kernel) n h
theorem start_a (z : Int) {n : Nat} (h : 3 ≤ n) : ∃ a : Nat, 1 + z.fmod ((n : Int) - 1) = (a : Int) ∧ 1 ≤ a ∧ a < n := by
  rw [Int.fmod_eq_emod_of_nonneg _ (by omega)]
  have h1 := Int.emod_nonneg z (show ((n : Int) - 1) ≠ 0 by omega)
  have h2 := Int.emod_lt_of_pos z (show (0 : Int) < (n : Int) - 1 by omega)
  exact ⟨(1 + z % ((n : Int) - 1)).toNat, by omega, by omega, by omega⟩
theorem start_mark (m : Nat) : ∃ c : Nat, Txt.item (Str.ofString "|!x") (((m : Int)).fmod 3) = ⟨#[c]⟩ ∧ (c = 124 ∨ c = 33 ∨ c = 120) := by
  have e : ((m : Int)).fmod 3 = ((m % 3 : Nat) : Int) := by rw [Int.fmod_eq_emod_of_nonneg _ (by omega)]; omega
  rw [e]
  have h : m % 3 < 3 := Nat.mod_lt _ (by omega)
  generalize m % 3 = q at *
  match q, h with
  | 0, _ => exact ⟨124, by decide +kernel, by omega⟩
  | 1, _ => exact ⟨33, by decide +kernel, by omega⟩
  | 2, _ => exact ⟨120, by decide +kernel, by omega⟩
set_option maxRecDepth 100000 in
set_option maxHeartbeats 8000000 in
theorem seg_start : ∀ {w : World} {base h₀ : Heap} {L fa l : Addr} {cd : Value} {mg mb u : Str → Option Value} {mean : ExcName → Option Value} {s : Shared} {Q : Flow → Shared → Prop} {vs : List Value} {ns : List Int} {o : Obj}
    (_ : Below callerA base [] h₀) (_ : (hd.heap_39 w.params).In h₀) (_ : Top hd.view_39 (looseW hd.view_39 []) mean mg mb h₀)
    (_ : Fr h₀ L s.heap (kstB u [(Str.ofString "script", .ref l)])) (_ : h₀.IsList l vs.toArray) (_ : IntsAre vs ns) (_ : ns.length ≤ 63)
    (_ : News h₀ L s.heap [(L + 1, o)])
    (_ : ∀ (n a c : Nat) tn ta tc u' h' tk, n ∈ kindsN → 1 ≤ a → a < n → c = 124 ∨ c = 33 ∨ c = 120 →
      Fr h₀ L h' (kstB u' [(Str.ofString "n", .int (n : Int) tn), (Str.ofString "a", .int (a : Int) ta), (Str.ofString "mark", .str ⟨#[c]⟩ tc)]) → News h₀ L h' [(L + 1, o)] →
      wpAny (model Challenge.rw_qu0002_01.row.prog w) (callerA.deeper (lawEnv L fa cd)) (execs (lawBody.drop 5) (lawEnv L fa cd)) Q (fun _ _ => False) { s with heap := h', toks := tk }),
    wpAny (model Challenge.rw_qu0002_01.row.prog w) (callerA.deeper (lawEnv L fa cd)) (execs lawBody (lawEnv L fa cd)) Q (fun _ _ => False) s := by
  w_top off
  k_fill
  intro w base h₀ L fa l cd mg mb u mean s Q vs ns o B X T F hL hI hlen N K
  rw [show lawBody = _ :: _ from rfl, show lawEnv L fa cd = envOfC (Str.ofString "law") ⟨_, _, _, _, _⟩ L fa cd from rfl]
  dsimp only [kstB] at F
  walk_at "MY steps"
  · dsimp only
    rename_i hpos _ F1 N1
    refine seg_kinds B X T F1 N1 ?_
    intro D ys k h3 tk3 F3 N3 hI3
    rw [show lawBody.drop 2 = _ :: _ from rfl, show lawEnv L fa cd = envOfC (Str.ofString "law") ⟨_, _, _, _, _⟩ L fa cd from rfl]
    have hkl : kindsI.length = 19 := rfl
    have hkg := kinds_get
    generalize kindsI = kI at *
    walk_at "MY steps"
    rename Fr h₀ L _ _ => F4
    rename News h₀ L _ _ => N4
    have hix : ((ns.getD (Int.toNat 0) 0).fmod (kI.length : Int)).toNat < 19 := by
      rw [hkl, Int.fmod_eq_emod_of_nonneg _ (by omega)]
      have h1 := Int.emod_nonneg (ns.getD (Int.toNat 0) 0) (show ((19 : Nat) : Int) ≠ 0 by omega)
      have h2 := Int.emod_lt_of_pos (ns.getD (Int.toNat 0) 0) (show (0 : Int) < ((19 : Nat) : Int) by omega)
      omega
    obtain ⟨n, en, hnk⟩ := hkg _ hix
    have hn3 : 3 ≤ n ∧ n ≤ 49 := kinds_bounds hnk
    rw [en] at F4
    k_dflt (refine' kmk_slice_ints ?zF ?zN ?zl ?zp ?zq hI ?zm rfl ?_ ?zs ?zt (kmk_sz hI (by rw [sizeLine_eq]; omega)))
    case zF => exact F4
    case zN => exact N4
    case zl => kmk_list
    case zp => kmk_part
    case zq => kmk_part
    case zm => exact kmk_from (x := 1) hI (by omega)
    case zs => with_unfolding_all rfl
    case zt => kmk_pure
    intro D5 ws h5 F5 N5 lt5 hI5 _ _
    generalize hms : List.drop (Int.toNat 1) ns = ms at *
    walk_at "MY steps"
    rename Fr h₀ L _ _ => F6
    rename News h₀ L _ _ => N6
    obtain ⟨a, ea, ha1, ha2⟩ := start_a ms.sum hn3.1
    obtain ⟨c, ec, hc⟩ := start_mark ns.length
    rw [ea, ec] at F6
    dsimp only
    exact K n a c _ _ _ _ _ _ hnk ha1 ha2 hc (norm F6 _ (by kst_all)) (newsSub N6 (fun p hp => .tail _ (.tail _ hp)))
  · dsimp only
    rename_i hpos l1 _ hl1 _ F1 N1
    refine seg_kinds B X T F1 N1 ?_
    intro D ys k h3 tk3 F3 N3 hI3
    rw [show lawBody.drop 2 = _ :: _ from rfl, show lawEnv L fa cd = envOfC (Str.ofString "law") ⟨_, _, _, _, _⟩ L fa cd from rfl]
    have hkl : kindsI.length = 19 := rfl
    have hkg := kinds_get
    generalize kindsI = kI at *
    walk_at "MY steps"
    have e1 : (([1] : List Int).getD (Int.toNat 0) 0).fmod (kI.length : Int) = 1 := by rw [hkl]; rfl
    rw [e1]
    walk_at "MY steps"
    rename Fr h₀ L _ _ => F4
    rename News h₀ L _ _ => N4
    obtain ⟨n, en, hnk⟩ := hkg 1 (by omega)
    have hn3 : 3 ≤ n ∧ n ≤ 49 := kinds_bounds hnk
    rw [show Int.toNat 1 = 1 from rfl, en] at F4
    have hI1 : IntsAre [Value.int 1 (s.toks + 1 + 1)] [1] := .cons _ _ .nil
    k_dflt (refine' kmk_slice_ints (vs := [Value.int 1 (s.toks + 1 + 1)]) ?zF ?zN ?zl ?zp ?zq hI1 ?zm rfl ?_ ?zs ?zt (kmk_sz hI1 (by rw [sizeLine_eq]; decide)))
    case zF => exact F4
    case zN => exact N4
    case zl => kmk_list
    case zp => kmk_part
    case zq => kmk_part
    case zm => exact kmk_from (x := 1) hI1 (by omega)
    case zs => with_unfolding_all rfl
    case zt => kmk_pure
    intro D5 ws h5 F5 N5 lt5 hI5 _ _
    generalize hms : List.drop (Int.toNat 1) [(1 : Int)] = ms at *
    walk_at "MY steps"
    rename Fr h₀ L _ _ => F6
    rename News h₀ L _ _ => N6
    obtain ⟨a, ea, ha1, ha2⟩ := start_a ms.sum hn3.1
    obtain ⟨c, ec, hc⟩ := start_mark ns.length
    rw [ea, ec] at F6
    dsimp only
    exact K n a c _ _ _ _ _ _ hnk ha1 ha2 hc (norm F6 _ (by kst_all)) (newsSub N6 (fun p hp => .tail _ (.tail _ (.tail _ hp))))
end partA1
section partZ1
theorem law_all {w : World} {base h₀ : Heap} {L fa l : Addr} {cd : Value} {mg mb u : Str → Option Value} {mean : ExcName → Option Value} {s : Shared} {Q : Flow → Shared → Prop} {vs : List Value} {ns : List Int} {o : Obj} {v₀ : Option Value}
    (B : Below callerA base [] h₀) (X : (hd.heap_39 w.params).In h₀) (T : Top hd.view_39 (looseW hd.view_39 []) mean mg mb h₀)
    (F : Fr h₀ L s.heap (kstB u [(Str.ofString "script", .ref l)])) (hL : h₀.IsList l vs.toArray) (hI : IntsAre vs ns) (hlen : ns.length ≤ 63)
    (N : News h₀ L s.heap [(L + 1, o)]) (ho : o.data = .cell v₀)
    (hQ : ∀ m' h' tk, Fr h₀ L h' m' → Q (.ret (.bool true)) { s with heap := h', toks := tk }) :
    wpAny (model Challenge.rw_qu0002_01.row.prog w) (callerA.deeper (lawEnv L fa cd)) (execs lawBody (lawEnv L fa cd)) Q (fun _ _ => False) s := by
  refine seg_start B X T F hL hI hlen N ?_
  intro n a c tn ta tc u1 h1 tk1 hnk ha1 ha2 hc F1 N1
  have hb := kinds_bounds hnk
  obtain ⟨D, hD1, hD2, hD3, hD4, hT, hg, hls, hE⟩ := okPair_spec (ok_all hnk ha1 ha2) (by omega) hb.2 ha2
  refine seg_rests B X T F1 N1 (by omega) hb.2 ha2 ?_
  intro r rs cr tf u2 h2 tk2 F2 N2 hr hI2
  refine seg_d B X T F2 N2 hr ho hI2 (by omega) hb.2 ha2 hD1 hD2 hD3 hD4 ?_
  intro o3 td u3 h3 tk3 F3 N3 ho3
  refine seg_table B X T F3 N3 hr ho3 (by omega) hb.2 ha2 hD1 hD2 hT ?_
  intro u4 h4 tk4 F4 N4
  refine seg_ports B X T F4 N4 hr ho3 hI2 (by omega) hb.2 ha2 hD1 hD2 hc hg ?_
  intro tl u5 h5 tk5 F5 N5
  refine seg_end B X T F5 N5 hr ho3 hI2 (by omega) hb.2 ha2 hD1 hD2 hls hE ?_
  intro m' h' tk F'
  exact hQ m' h' tk F'
end partZ1
end Mine
set_option maxRecDepth 100000 in
set_option maxHeartbeats 8000000 in
theorem PySem.Challenge.cw_qu0002_01_holds : PySem.Challenge.rw_qu0002_01.Holds := by
  refine Mine.hd ?_
  k_go0
  rename Below callerA _ [] _ => B0
  rename Frag.In _ _ => X0
  rename Top _ _ _ _ _ _ => T0
  rename Fr _ _ _ _ => F0
  rename News _ _ _ _ => N0
  rename Heap.IsList _ _ _ => hL0
  rename IntsAre _ _ => hI0
  rename (¬ ((63 : Nat) : Int) < _) => hlen0
  rename (Obj.data _ = _) => ho0
  refine wpAny_mono (E := fun _ _ => False) ?_ (fun _ _ h => h) (fun _ _ h => h.elim)
  refine Mine.law_all B0 X0 T0 (Mine.norm F0 [(Str.ofString "script", _)] ?_) hL0 hI0 (by omega) N0 ho0 ?_
  · intro p hp
    rcases List.mem_singleton.mp hp with rfl
    with_unfolding_all rfl
  · intro m' h' tk F'
    dsimp only
    wrow_close
