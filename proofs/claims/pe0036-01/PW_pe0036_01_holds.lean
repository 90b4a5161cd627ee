import PyProof.Rows.All
import Wide.All
import OpenK.AllK
import Wide.FinOn
import Lean
import PySem.Challenge.RW_pe0036_01
set_option Elab.async false
section
open PySem PySem.W PyProof.Rows
set_option maxRecDepth 100000
set_option maxHeartbeats 8000000
namespace M36
open_top hd for PySem.Challenge.rw_pe0036_01
noncomputable abbrev Lo : List Str := looseW hd.view_39 [Str.ofString "COMPILER_FLAG_NAMES"]

/-- a contract of a def: what it hands back and the ledger behind it -/
def Con (w : World) (mean : ExcName → Option Value) (mg mb : Str → Option Value) (f : Addr) (vs : List Value) (news : List (Addr × Obj)) (R : Value → List (Addr × Obj) → Prop) : Prop :=
  ∀ (dp un : Nat) (gd : Option (List Code)) (cn : Str) (cs : Scope) (a : Addr) (ccd : Value) (cl : List (Str × Addr)) (outer : List Env) (A₀ : Around) (base h₀ : Heap) (L : Addr) (m : Str → Option Value) (s : Shared) (Q E : Value → Shared → Prop),
    Below A₀ base outer h₀ → Fr h₀ L s.heap m → (hd.heap_39 w.params).In h₀ → News h₀ L s.heap news → Top hd.view_39 Lo mean mg mb h₀ → cs.kind = .function →
    dp + 2 < recursionLimit → un + 16 < cLine →
    (∀ v news' h' tk', R v news' → Fr h₀ L h' m → News h₀ L h' news' → Q v { s with heap := h', toks := tk' }) →
    wpAny (model PySem.Challenge.rw_pe0036_01.row.prog w) (ktrTop dp un gd cn cs L a ccd cl outer) (call (.ref f) vs) Q E s
end M36
end
section
open PySem PySem.W PyProof.Rows
set_option maxRecDepth 100000
set_option maxHeartbeats 4000000
namespace M36
section
variable {prog : Program} {w : World} {A : Around} {E : Value → Shared → Prop} {s : Shared} {env : Env} {h₀ : Heap} {x : Str} {body : List Stmt} {Q : Flow → Shared → Prop}

theorem unr_mono {L I : Addr} {s₁ s₂ : Shared} {it : Obj} {R R' : (Str → Option Value) → List (Addr × Obj) → Prop} {f : Flow} (h : ∀ m n, R m n → R' m n) (p : UnrPost h₀ L s₁ I it R Q f s₂) : UnrPost h₀ L s₁ I it R' Q f s₂ := by
  have k : UnrEnd h₀ L s₁ I it R s₂ → UnrEnd h₀ L s₁ I it R' s₂ := by
    rintro ⟨h', tk, m', n', e, F, N, off, r⟩
    exact ⟨h', tk, m', n', e, F, N, off, h _ _ r⟩
  cases f with
  | ret v => exact p
  | brk => exact p
  | next => exact k p
  | cont => exact k p

theorem range_rest {I : Addr} {a : Int} {n : Nat} (J : Nat → (Str → Option Value) → List (Addr × Obj) → Prop)
    (turn : ∀ i t m nx h tk, i < n → J i m nx → Fr h₀ env.locals h (fun y => if y = x then some (.int (a + (i : Int)) t) else m y) → News h₀ env.locals h ((I, itR (a + ((i + 1 : Nat) : Int)) ((n : Int) - ((i + 1 : Nat) : Int))) :: nx) →
      wpAny (model prog w) A (execs body env) (UnrPost h₀ env.locals { s with heap := h, toks := tk } I (itR (a + ((i + 1 : Nat) : Int)) ((n : Int) - ((i + 1 : Nat) : Int))) (J (i + 1)) Q) E { s with heap := h, toks := tk })
    (done : ∀ m nx h tk, J n m nx → Fr h₀ env.locals h m → News h₀ env.locals h nx → Q .next { s with heap := h, toks := tk }) :
    ∀ k i m nx, i + k = n → J i m nx → RangeRest prog w A E h₀ env x body Q s I a n k i m nx := by
  intro k
  induction k with
  | zero => intro i m nx e j; subst e; exact RangeRest.zero fun h tk F N => done m nx h tk j F N
  | succ k ih =>
    intro i m nx e j
    refine RangeRest.succ fun t h tk F N => ?_
    exact wpAny_mono (turn i t m nx h tk (by omega) j F N) (fun f s₂ p => unr_mono (fun m' n' r => ih (i + 1) m' n' (by omega) r) p) fun _ _ e => e

theorem iter_rangeJ {r : Addr} {a₀ b₀ : Int} {t₀ u₀ v₀ : Tok} {n : Nat} {m₀ : Str → Option Value} {news : List (Addr × Obj)} (J : Addr → Nat → (Str → Option Value) → List (Addr × Obj) → Prop)
    (hh : A.handled = none) (hr : IsRange s.heap r a₀ b₀ 1 t₀ u₀ v₀) (hsmall : Builtin.Range.small a₀ b₀ 1 = true) (hn : Builtin.Range.rangeSize a₀ b₀ 1 = (n : Int)) (F : Fr h₀ env.locals s.heap m₀) (N : News h₀ env.locals s.heap news)
    (j0 : ∀ I, (∀ p ∈ news, p.1 < I) → J I 0 m₀ news)
    (turn : ∀ I i t m nx h tk, i < n → J I i m nx → Fr h₀ env.locals h (fun y => if y = x then some (.int (a₀ + (i : Int)) t) else m y) → News h₀ env.locals h ((I, itR (a₀ + ((i + 1 : Nat) : Int)) ((n : Int) - ((i + 1 : Nat) : Int))) :: nx) →
      wpAny (model prog w) A (execs body env) (UnrPost h₀ env.locals { s with heap := h, toks := tk } I (itR (a₀ + ((i + 1 : Nat) : Int)) ((n : Int) - ((i + 1 : Nat) : Int))) (J I (i + 1)) Q) E { s with heap := h, toks := tk })
    (done : ∀ I m nx h tk, J I n m nx → Fr h₀ env.locals h m → News h₀ env.locals h nx → Q .next { s with heap := h, toks := tk }) :
    wpAny (model prog w) A (pyIter (.ref r)) (fun it s₂ => LoopAtV prog w A h₀ env x body Q E it s₂) E s :=
  iter_rangeUnr hh hr hsmall hn F N fun I hI => range_rest (J I) (turn I) (done I) n 0 m₀ news (by omega) (j0 I hI)

theorem list_rest {I : Addr} {lp : Addr × Obj} {vs : List Value} (J : Nat → (Str → Option Value) → List (Addr × Obj) → Prop)
    (turn : ∀ i v it m nx h tk, vs[i]? = some v → it.cls = .type "list_iterator" → J i m nx → lp ∈ nx → Fr h₀ env.locals h (fun y => if y = x then some v else m y) → News h₀ env.locals h ((I, it) :: nx) →
      wpAny (model prog w) A (execs body env) (UnrPost h₀ env.locals { s with heap := h, toks := tk } I it (fun m' n' => lp ∈ n' ∧ J (i + 1) m' n') Q) E { s with heap := h, toks := tk })
    (done : ∀ m nx h tk, J vs.length m nx → Fr h₀ env.locals h m → News h₀ env.locals h nx → Q .next { s with heap := h, toks := tk }) :
    ∀ (r : List Value) i m nx, vs.drop i = r → i ≤ vs.length → lp ∈ nx → J i m nx → ListRest prog w A E h₀ env x body Q s I lp r m nx := by
  intro r
  induction r with
  | nil =>
    intro i m nx e hi hl j
    have : i = vs.length := by
      have := congrArg List.length e
      simp at this; omega
    subst this
    exact ListRest.zero fun h tk F N => done m nx h tk j F N
  | cons v r ih =>
    intro i m nx e hi hl j
    have hlt : i < vs.length := by
      have := congrArg List.length e
      simp at this; omega
    have hv : vs[i]? = some v := by
      have := congrArg (fun l => l[0]?) e
      simpa using this
    refine ListRest.succ fun it h tk hc F N => ?_
    refine wpAny_mono (turn i v it m nx h tk hv hc j hl F N) (fun f s₂ p => unr_mono (fun m' n' r' => ⟨r'.1, ih (i + 1) m' n' ?_ (by omega) r'.1 r'.2⟩) p) fun _ _ e => e
    rw [← List.drop_drop, e]; rfl

theorem iter_listJ {ax : Addr} {lo : Obj} {vs : List Value} {n : Nat} {m₀ : Str → Option Value} {news : List (Addr × Obj)} (J : Addr → Nat → (Str → Option Value) → List (Addr × Obj) → Prop)
    (hh : A.handled = none) (F : Fr h₀ env.locals s.heap m₀) (N : News h₀ env.locals s.heap news) (hm : (ax, lo) ∈ news) (hc : lo.cls = .type "list") (hd : lo.data = .seq vs.toArray n)
    (j0 : ∀ I, (∀ p ∈ news, p.1 < I) → J I 0 m₀ news)
    (turn : ∀ I i v it m nx h tk, vs[i]? = some v → it.cls = .type "list_iterator" → J I i m nx → (ax, lo) ∈ nx → Fr h₀ env.locals h (fun y => if y = x then some v else m y) → News h₀ env.locals h ((I, it) :: nx) →
      wpAny (model prog w) A (execs body env) (UnrPost h₀ env.locals { s with heap := h, toks := tk } I it (fun m' n' => (ax, lo) ∈ n' ∧ J I (i + 1) m' n') Q) E { s with heap := h, toks := tk })
    (done : ∀ I m nx h tk, J I vs.length m nx → Fr h₀ env.locals h m → News h₀ env.locals h nx → Q .next { s with heap := h, toks := tk }) :
    wpAny (model prog w) A (pyIter (.ref ax)) (fun it s₂ => LoopAtV prog w A h₀ env x body Q E it s₂) E s :=
  iter_listUnr hh F N hm hc hd fun I hI => list_rest (J I) (turn I) (done I) vs 0 m₀ news (by simp) (by omega) hm (j0 I hI)

end
theorem allLt_mem {d : Addr} : ∀ {l : List (Addr × Obj)}, AllLt d l → ∀ p ∈ l, p.1 < d
  | [], _, _, h => nomatch h
  | _ :: _, ⟨h1, h2⟩, p, h => by
    rcases List.mem_cons.mp h with rfl | h
    · exact h1
    · exact allLt_mem h2 p h
theorem cut {h₀ h : Heap} {L : Addr} {p : Addr × Obj} {mid news : List (Addr × Obj)} (N : News h₀ L h (p :: mid)) (hs : ∀ q ∈ news, q ∈ mid) : News h₀ L h (p :: news) := fun q hq => by
  rcases List.mem_cons.mp hq with rfl | hq
  · exact N _ (.head _)
  · exact N _ (.tail _ (hs q hq))
theorem canon1 {m : Str → Option Value} {a : Str} {u : Value} (h1 : m a = some u) : m = fun z => if z = a then some u else m z := by
  funext z
  split
  · rename_i e; rw [e, h1]
  · rfl
theorem canon2 {m : Str → Option Value} {a b : Str} {u v : Value} (h1 : m a = some u) (h2 : m b = some v) : m = fun z => if z = a then some u else if z = b then some v else m z := by
  funext z
  split
  · rename_i e; rw [e, h1]
  · split
    · rename_i e; rw [e, h2]
    · rfl
theorem canon3 {m : Str → Option Value} {a b c : Str} {u v x : Value} (h1 : m a = some u) (h2 : m b = some v) (h3 : m c = some x) : m = fun z => if z = a then some u else if z = b then some v else if z = c then some x else m z := by
  funext z
  split
  · rename_i e; rw [e, h1]
  · split
    · rename_i e; rw [e, h2]
    · split
      · rename_i e; rw [e, h3]
      · rfl
theorem look1 {z k : Str} {v : Value} (h : z ≠ k) : List.lookup z [(k, v)].reverse = none := by
  have e : (z == k) = false := by simpa using h
  show List.lookup z [(k, v)] = none
  rw [List.lookup_cons, e]; rfl
theorem look2 {z k k' : Str} {v v' : Value} (h : z ≠ k) (h' : z ≠ k') : List.lookup z [(k, v), (k', v')].reverse = none := by
  have e : (z == k) = false := by simpa using h
  have e' : (z == k') = false := by simpa using h'
  show List.lookup z [(k', v'), (k, v)] = none
  rw [List.lookup_cons, e']
  show List.lookup z [(k, v)] = none
  rw [List.lookup_cons, e]; rfl
/-- one name turned: the frame behind a loop -/
theorem map1 {x y : Str} {m₁ m₀ : Str → Option Value} {u : Value} {c : Option Value} (ha : m₁ y = some u) (hm : ∀ z, z ≠ x → z ≠ y → m₁ z = m₀ z) :
    (fun z => if z = x then c else m₁ z) = fun z => if z = x then c else if z = y then some u else m₀ z := by
  funext z
  by_cases h1 : z = x
  · simp [h1]
  · simp only [if_neg h1]
    by_cases h2 : z = y
    · subst h2; simp [ha]
    · simp only [if_neg h2]; exact hm z h1 h2
theorem map1' {x y : Str} {m₁ m₀ : Str → Option Value} {u : Value} (ha : m₁ y = some u) (hm : ∀ z, z ≠ x → z ≠ y → m₁ z = m₀ z) :
    m₁ = fun z => if z = x then m₁ x else if z = y then some u else m₀ z := by
  funext z
  by_cases h1 : z = x
  · simp [h1]
  · simp only [if_neg h1]
    by_cases h2 : z = y
    · subst h2; simp [ha]
    · simp only [if_neg h2]; exact hm z h1 h2
end M36
end
section
open PySem PySem.W PyProof.Rows
namespace M36
/-! plain arithmetic -/
theorem add_eq_xor (a : Nat) : ∀ b : Nat, a + b = (a ^^^ b) + 2 * (a &&& b) := by
  induction a using Nat.strongRecOn with
  | _ a ih =>
    intro b
    by_cases ha : a = 0
    · subst ha; simp
    · have h1 := ih (a / 2) (by omega) (b / 2)
      have e1 : (a ^^^ b) / 2 = a / 2 ^^^ b / 2 := Nat.xor_div_two
      have e2 : (a &&& b) / 2 = a / 2 &&& b / 2 := Nat.and_div_two
      have e3 : (a ^^^ b) % 2 = (a % 2 + b % 2) % 2 := by
        have := Nat.xor_mod_two_pow (a := a) (b := b) (n := 1)
        simp only [Nat.pow_one] at this
        rw [this]
        rcases Nat.mod_two_eq_zero_or_one a with x | x <;> rcases Nat.mod_two_eq_zero_or_one b with y | y <;> simp [x, y]
      have e4 : (a &&& b) % 2 = (a % 2) * (b % 2) := by
        have := Nat.and_mod_two_pow (a := a) (b := b) (n := 1)
        simp only [Nat.pow_one] at this
        rw [this]
        rcases Nat.mod_two_eq_zero_or_one a with x | x <;> rcases Nat.mod_two_eq_zero_or_one b with y | y <;> simp [x, y]
      rw [← e1, ← e2] at h1
      rcases Nat.mod_two_eq_zero_or_one a with x | x <;> rcases Nat.mod_two_eq_zero_or_one b with y | y <;> rw [x, y] at e3 e4 <;> omega
theorem xor_nat (a b : Nat) : Builtin.bitXor (a : Int) (b : Int) = ((a ^^^ b : Nat) : Int) := by
  have h := add_eq_xor a b
  have e : Builtin.bitAnd (a : Int) (b : Int) = ((a &&& b : Nat) : Int) := by
    unfold Builtin.bitAnd
    simp
  rw [bitXor_and, e]
  omega
theorem and_nat (a b : Nat) : Builtin.bitAnd (a : Int) (b : Int) = ((a &&& b : Nat) : Int) := by
  unfold Builtin.bitAnd
  simp
theorem fdiv_nat (a b : Nat) : Int.fdiv (a : Int) (b : Int) = ((a / b : Nat) : Int) := by
  rw [Int.fdiv_eq_ediv_of_nonneg _ (by omega)]; rfl
theorem fmod_nat (a b : Nat) : Int.fmod (a : Int) (b : Int) = ((a % b : Nat) : Int) := by
  rw [Int.fmod_eq_emod_of_nonneg _ (by omega)]; rfl
theorem fmod64 (a : Nat) : Int.fmod (a : Int) 64 = ((a % 64 : Nat) : Int) := fmod_nat a 64
theorem fmod128 (a : Nat) : Int.fmod (a : Int) 128 = ((a % 128 : Nat) : Int) := fmod_nat a 128
theorem fmod256 (a : Nat) : Int.fmod (a : Int) 256 = ((a % 256 : Nat) : Int) := fmod_nat a 256
theorem fmod2 (a : Nat) : Int.fmod (a : Int) 2 = ((a % 2 : Nat) : Int) := fmod_nat a 2
theorem shr_nat (c p : Nat) : (c : Int).fdiv (2 ^ Int.toNat (p : Int)) = ((c / 2 ^ p : Nat) : Int) := by
  rw [Int.toNat_natCast, ← fdiv_nat]; norm_cast
abbrev up (ns : List Nat) : List Int := ns.map fun n : Nat => (n : Int)
/-- many figures to a base -/
def baseN (b : Nat) (ns : List Nat) : Nat := ns.foldl (fun n x => n * b + x) 0
theorem baseN_snoc (b : Nat) (ns : List Nat) (x : Nat) : baseN b (ns ++ [x]) = baseN b ns * b + x := by simp [baseN]
theorem baseN_take (b : Nat) (ns : List Nat) (i : Nat) {x : Nat} (h : ns[i]? = some x) : baseN b (ns.take (i + 1)) = baseN b (ns.take i) * b + x := by
  rw [List.take_add_one, h]; exact baseN_snoc b _ x
theorem base_lt (b : Nat) : ∀ (ns : List Nat) (a : Nat), (∀ x ∈ ns, x < b) → ns.foldl (fun n x => n * b + x) a < (a + 1) * b ^ ns.length
  | [], a, _ => by simp
  | x :: r, a, h => by
    have h1 := base_lt b r (a * b + x) fun y hy => h y (by simp [hy])
    have h2 : x < b := h x (by simp)
    have h3 : (a * b + x + 1) * b ^ r.length ≤ ((a + 1) * b) * b ^ r.length := Nat.mul_le_mul_right _ (by rw [Nat.add_mul]; omega)
    rw [List.foldl_cons, List.length_cons, Nat.pow_succ, Nat.mul_comm (b ^ r.length) b, ← Nat.mul_assoc]
    exact Nat.lt_of_lt_of_le h1 h3
theorem baseN_lt (b : Nat) (ns : List Nat) (h : ∀ x ∈ ns, x < b) : baseN b ns < b ^ ns.length := by
  have := base_lt b ns 0 h
  simpa [baseN] using this
theorem up_at {vs : List Value} {ns : List Nat} (h : IntsAre vs (up ns)) {i : Nat} {v : Value} (hv : vs[i]? = some v) : ∃ (n : Nat) (t : Tok), v = .int (n : Int) t ∧ ns[i]? = some n := by
  obtain ⟨k, t, e, hk⟩ := IntsAre.at h i v hv
  rw [List.getElem?_map] at hk
  cases hn : ns[i]? with
  | none => rw [hn] at hk; cases hk
  | some n =>
    rw [hn] at hk
    exact ⟨n, t, by rw [e]; congr 1; simpa using hk.symm, rfl⟩
/-- one step of the folding -/
def stepN (n : Nat) : Nat := if n % 2 = 1 then n / 2 ^^^ 3988292384 else n / 2
def itN (n : Nat) : Nat → Nat
  | 0 => n
  | i + 1 => stepN (itN n i)
def crcN (n : Nat) : Nat := itN n 8
theorem stepN_lt {n : Nat} (h : n < 2 ^ 40) : stepN n < 2 ^ 40 := by
  unfold stepN
  split
  · exact Nat.xor_lt_two_pow (by omega) (by omega)
  · omega
theorem itN_lt {n : Nat} (h : n < 2 ^ 40) : ∀ i, itN n i < 2 ^ 40
  | 0 => h
  | i + 1 => stepN_lt (itN_lt h i)
theorem step_one {n : Nat} (h : Builtin.bitAnd (n : Int) 1 ≠ 0) : Builtin.bitXor (Int.fdiv (n : Int) (2 ^ Int.toNat 1)) 3988292384 = ((stepN n : Nat) : Int) := by
  rw [bitAnd_m1] at h
  have h1 : n % 2 = 1 := by omega
  have e : Int.fdiv (n : Int) (2 ^ Int.toNat 1) = ((n / 2 : Nat) : Int) := fdiv_nat n 2
  rw [e, stepN, if_pos h1]
  exact xor_nat (n / 2) 3988292384
theorem step_two {n : Nat} (h : Builtin.bitAnd (n : Int) 1 = 0) : Int.fdiv (n : Int) (2 ^ Int.toNat 1) = ((stepN n : Nat) : Int) := by
  rw [bitAnd_m1] at h
  have h1 : ¬ n % 2 = 1 := by omega
  rw [stepN, if_neg h1]
  exact fdiv_nat n 2
end M36
end
section
open PySem PySem.W PyProof.Rows PySem.Calls PySem.Spec
set_option maxRecDepth 100000
set_option maxHeartbeats 4000000
namespace M36
open PyProof.Rows.LCg PyProof.Rows.LCt
section
variable {prog : Program} {w : World} {A : Around} {E : Value → Shared → Prop} {s : Shared} {h₀ : Heap} {L : Addr} {m : Str → Option Value} {env : Env}

def TupAt (ax : Addr) (its : Array Value) (news : List (Addr × Obj)) : Prop := ∃ o, (ax, o) ∈ news ∧ o.cls = .type "tuple" ∧ ∃ n, o.data = .seq its n
theorem TupAt.tup {h : Heap} {ax : Addr} {its : Array Value} {news : List (Addr × Obj)} (x : TupAt ax its news) (N : News h₀ L h news) : h.IsTuple ax its :=
  let ⟨o, hm, r⟩ := x; ⟨o, (N _ hm).1, r⟩
theorem tup_st {ax I : Addr} {its : Array Value} : ∀ i (h h' : Heap) (o : Obj) (nw : List (Addr × Obj)), (h.IsTupleIter I ax i ∧ h.IsTuple ax its) → h.get? I = some o → h'.get? I = some o → (∀ b o, h₀.get? b = some o → h'.get? b = some o) → News h₀ L h' nw → TupAt ax its nw → (h'.IsTupleIter I ax i ∧ h'.IsTuple ax its) :=
  fun i h h' o nw st e e' k N S => ⟨by obtain ⟨o', q, r⟩ := st.1; rw [e] at q; cases q; exact ⟨o, e', r⟩, S.tup N⟩

def SrcT (prog : Program) (w : World) (A : Around) (h₀ : Heap) (L : Addr) (m : Str → Option Value) (env : Env) (elt : Expr) (x : Str) (scope : Scope) (cl : List (Str × Addr)) (Fin : Shared → List Value → List (Addr × Obj) → Prop) (xv : Value) (s₁ : Shared) : Prop :=
  ∃ ax its news, xv = .ref ax ∧ A.handled = none ∧ Fr h₀ L s₁.heap m ∧ News h₀ L s₁.heap news ∧ TupAt ax its news ∧ its.size ≤ sizeLine ∧
    ∀ s₂ : Shared, (∃ h, s₂ = { s₁ with heap := h }) → CompRest prog w A h₀ L m env elt x scope cl s₂ (TupAt ax its) (fun i v => its[i]? = some v) (Fin s₂) its.size 0 [] news

theorem ListComp_tup {elt iter : Expr} {x : Str} {px : Pos} {scope : Scope} {cl : List (Str × Addr)} {pos : Pos} {Q : Value → Shared → Prop} (_F₀ : Fr h₀ L s.heap m)
    (hclos : closureFor scope env = pure cl) (hcell : ∀ y ∈ scope.names, y.2 ≠ .cell) (hkind : scope.kind = .function)
    (hnames : ∀ y ∈ scope.names, y.2 = .local → scope.names.lookup y.1 = some .local) (hx : scope.names.lookup x = some .local)
    (h : wpAny (model prog w) A (eval iter env) (SrcT prog w A h₀ L m env elt x scope cl (fun s₂ => FinE h₀ L m s₂ Q)) E s)
    (hs : ∀ x, foldedSetIterable iter env x = pure x := by intro _; rfl) :
    wpAny (model prog w) A (eval (.ListComp elt [⟨.Name x px, iter, [], 0⟩] scope pos) env) Q E s := by
  rw [eval_ListComp]
  refine wpAny_comprehension_free (use := none) rfl hs hclos hkind hnames (wpAny_mono h (fun xv s₁ h₁ => ?_) fun _ _ e => e)
  obtain ⟨ax, its, news, rfl, hh, F, N, S, hsz, R⟩ := h₁
  have hl := S.tup N
  have hlt : ax < s₁.heap.objs.size := by obtain ⟨_, e, _⟩ := hl; exact Heap.lt_size e
  refine wpAny_pyIter_tuple hl ?_
  have upp : ∀ (o' : Obj) b o, s₁.heap.get? b = some o → (s₁.heap.push o').get? b = some o := fun o' b o e => Heap.get?_push_of_some _ e
  refine block_U (Walks.tuple hh s₁.heap.objs.size ax (Nat.ne_of_lt hlt) its) hsz (fun i h st => by obtain ⟨o, e, _⟩ := st.1; exact ⟨o, e⟩) tup_st hcell hkind hx ⟨⟨_, Heap.get?_push_size _ rfl, rfl, rfl⟩, hl.push _⟩ (fun b hb => ?_)
    (F.keeps (upp _)) (N.grown (upp _)) (Nat.ne_of_lt F.ns.lt) (next_is_new F) (fun p hp => Nat.ne_of_lt (Heap.lt_size (N p hp).1)) S (R _ ⟨_, rfl⟩) ?_
  · show b < (s₁.heap.push _).objs.size
    rw [Heap.size_push]
    rcases List.mem_cons.mp hb with rfl | hb
    · exact Nat.lt_succ_self _
    · rw [List.mem_singleton.mp hb]; exact Nat.lt_succ_of_lt hlt
  · intro D C h tk m' ys news' F' N' o1 hn hC₀ hD₀ hCL hDL hCD offC fin
    refine ⟨m', hn, fun h'' hs'' => fin D h'' tk (F'.change hs'' hCL hC₀) (fun p hp => ?_) o1⟩
    refine ⟨hs''.extBut _ _ ?_ (N' p hp).1, (N' p hp).2⟩
    rcases List.mem_cons.mp hp with rfl | hp
    · exact Ne.symm hCD
    · exact offC p hp

theorem Assign_ListComp_tup {elt iter : Expr} {x y : Str} {px py : Pos} {scope : Scope} {cl : List (Str × Addr)} {pos spos : Pos} {Q : Flow → Shared → Prop} (_F₀ : Fr h₀ L s.heap m) (hLe : env.locals = L)
    (hsw : swapsWith (.ListComp elt [⟨.Name x px, iter, [], 0⟩] scope pos) (some (.Name y py)) spos.line env = pure true)
    (hclos : closureFor scope env = pure cl) (hcell : ∀ z ∈ scope.names, z.2 ≠ .cell) (hkind : scope.kind = .function)
    (hnames : ∀ z ∈ scope.names, z.2 = .local → scope.names.lookup z.1 = some .local) (hx : scope.names.lookup x = some .local)
    (hy : env.kindOf y = some .local) (hp : (env.scope.kind == .class || (env.scope.kind == .module && env.locals != env.globals)) = false)
    (h : wpAny (model prog w) A (eval iter env) (SrcT prog w A h₀ L m env elt x scope cl (fun s₂ => FinA h₀ L m s₂ y Q)) E s)
    (hs : ∀ x, foldedSetIterable iter env x = pure x := by intro _; rfl) :
    wpAny (model prog w) A (exec (.Assign [.Name y py] (.ListComp elt [⟨.Name x px, iter, [], 0⟩] scope pos) spos) env) Q E s := by
  subst hLe
  rw [exec_Assign_Name_used _ _ _ _ hsw]
  refine wpAny_bind (wpAny_standAt (wpAny_bind ?_))
  show wpAny _ A (do let _ ← comprehension (.ListComp elt [⟨.Name x px, iter, [], 0⟩] scope pos) scope env _ (newList []) false (eval iter env) (some (assign (.Name y py) env))) _ _ s
  refine wpAny_bind (wpAny_mono (wpAny_comprehension_free (use := some (assign (.Name y py) env)) (Q := fun _ s' => Q .next s') rfl hs hclos hkind hnames
    (wpAny_mono h (fun xv s₁ h₁ => ?_) fun _ _ e => e)) (fun _ s' hq => wpAny_pure (wpAny_pure hq)) fun _ _ e => e)
  obtain ⟨ax, its, news, rfl, hh, F, N, S, hsz, R⟩ := h₁
  have hl := S.tup N
  have hlt : ax < s₁.heap.objs.size := by obtain ⟨_, e, _⟩ := hl; exact Heap.lt_size e
  refine wpAny_pyIter_tuple hl ?_
  have upp : ∀ (o' : Obj) b o, s₁.heap.get? b = some o → (s₁.heap.push o').get? b = some o := fun o' b o e => Heap.get?_push_of_some _ e
  refine block_U (Walks.tuple hh s₁.heap.objs.size ax (Nat.ne_of_lt hlt) its) hsz (fun i h st => by obtain ⟨o, e, _⟩ := st.1; exact ⟨o, e⟩) tup_st hcell hkind hx ⟨⟨_, Heap.get?_push_size _ rfl, rfl, rfl⟩, hl.push _⟩ (fun b hb => ?_)
    (F.keeps (upp _)) (N.grown (upp _)) (Nat.ne_of_lt F.ns.lt) (next_is_new F) (fun p hp => Nat.ne_of_lt (Heap.lt_size (N p hp).1)) S (R _ ⟨_, rfl⟩) ?_
  · show b < (s₁.heap.push _).objs.size
    rw [Heap.size_push]
    rcases List.mem_cons.mp hb with rfl | hb
    · exact Nat.lt_succ_self _
    · rw [List.mem_singleton.mp hb]; exact Nat.lt_succ_of_lt hlt
  · intro D C h' tk m' ys news' F' N' o1 hn hC₀ hD₀ hCL hDL hCD offC fin
    show wpAny _ A (assign (.Name y py) env (.ref D)) _ _ _
    refine wpAny_assign_Name (wpAny_storeName_local hy F'.ns (fun h₂ hn₂ hs₂ => ?_) hp)
    have hL₀ : h₀.get? env.locals = none := Heap.get?_none_of_le F'.above
    have F₂ : Fr h₀ env.locals h₂ (fun z => if z = y then some (.ref D) else m z) := ⟨hn₂, fun b o e => hs₂.extBut b o (fun q => by rw [q, hL₀] at e; cases e) (F'.keep b o e), F'.above⟩
    refine ⟨m', hn.sameBut hs₂ hCL, fun h'' hs'' => fin D h'' _ (F₂.change hs'' hCL hC₀) (fun p hp => ?_) o1⟩
    have z : h₂.get? p.1 = some p.2 := hs₂.extBut _ _ (N' p hp).2.1 (N' p hp).1
    refine ⟨hs''.extBut _ _ ?_ z, (N' p hp).2⟩
    rcases List.mem_cons.mp hp with rfl | hp
    · exact Ne.symm hCD
    · exact offC p hp

theorem off1_mem {D : Addr} : ∀ {l : List (Addr × Obj)}, Off1 D l → ∀ p ∈ l, p.1 ≠ D
  | [], _, _, h => nomatch h
  | _ :: _, x, p, h => by
    rcases List.mem_cons.mp h with rfl | h
    · exact x.1
    · exact off1_mem x.2 p h
/-- a comprehension by what holds of the list that it has made; the ledger stays -/
theorem comp_rest {elt : Expr} {x : Str} {scope : Scope} {cl : List (Str × Addr)} {S : List (Addr × Obj) → Prop} {P : Nat → Value → Prop} {Fin : List Value → List (Addr × Obj) → Prop} {n : Nat} {news : List (Addr × Obj)} (J : Nat → List Value → Prop) (j0 : J 0 [])
    (turn : ∀ i v I oI C oC D m₂ ys h tk (E' : Value → Shared → Prop), i < n → P i v → J i ys → NsObj oC m₂ → m₂ x = some v → Fr h₀ L h m → News h₀ L h ((I, oI) :: (C, oC) :: (D, lst ys) :: news) → Off3 I C D news → ((@Ne Nat I C) ∧ (@Ne Nat I D) ∧ (@Ne Nat C D)) →
      wpAny (model prog w) A (eval elt (compEnvC scope cl C env)) (CompEnd h₀ L m { s with heap := h, toks := tk } I oI C oC D (lst ys) S (fun y news' => news' = news ∧ J (i + 1) (ys ++ [y]))) E' { s with heap := h, toks := tk })
    (fin : ∀ ys, J n ys → Fin ys news) : CompRest prog w A h₀ L m env elt x scope cl s S P Fin n 0 [] news := by
  have key : ∀ (j i : Nat) (ys : List Value), i + j = n → J i ys → CompRest prog w A h₀ L m env elt x scope cl s S P Fin j i ys news := by
    intro j
    induction j with
    | zero => intro i ys e hj; have : i = n := by omega
              subst this; exact CompRest.zero (fin ys hj)
    | succ j ih =>
      intro i ys e hj
      refine CompRest.succ ?_
      intro v I oI C oC D m₂ h tk E' hv hC hx F N off ne
      refine wpAny_mono (turn i v I oI C oC D m₂ ys h tk E' (by omega) hv hj hC hx F N off ne) (fun y s₂ hq => ?_) fun _ _ e => e
      obtain ⟨h', tk', nw, e, F', N', off', hS, hn, hj'⟩ := hq
      rw [hn] at N' off' hS
      exact ⟨h', tk', news, e, F', N', off', hS, ih (i + 1) _ (by omega) hj'⟩
  exact key n 0 [] (by omega) j0

/-- the same with a test -/
theorem compT_rest {ct elt : Expr} {x : Str} {scope : Scope} {cl : List (Str × Addr)} {S : List (Addr × Obj) → Prop} {P : Nat → Value → Prop} {Fin : List Value → List (Addr × Obj) → Prop} {n : Nat} {news : List (Addr × Obj)} (J : Nat → List Value → Prop) (j0 : J 0 [])
    (turn : ∀ i v I oI C oC D m₂ ys h tk (E' : Value → Shared → Prop), i < n → P i v → J i ys → NsObj oC m₂ → m₂ x = some v → Fr h₀ L h m → News h₀ L h ((I, oI) :: (C, oC) :: (D, lst ys) :: news) → Off3 I C D news → ((@Ne Nat I C) ∧ (@Ne Nat I D) ∧ (@Ne Nat C D)) →
      wpAny (model prog w) A (isTrue ct (compEnvC scope cl C env) (eval ct (compEnvC scope cl C env))) (fun b s' => if b = true then wpAny (model prog w) A (eval elt (compEnvC scope cl C env)) (CompEnd h₀ L m { s with heap := h, toks := tk } I oI C oC D (lst ys) S (fun y news' => news' = news ∧ J (i + 1) (ys ++ [y]))) E' s'
        else CompEnd h₀ L m { s with heap := h, toks := tk } I oI C oC D (lst ys) S (fun _ news' => news' = news ∧ J (i + 1) ys) Value.none s') E' { s with heap := h, toks := tk })
    (fin : ∀ ys, J n ys → Fin ys news) : CompRestT prog w A h₀ L m env ct elt x scope cl s S P Fin n 0 [] news := by
  have key : ∀ (j i : Nat) (ys : List Value), i + j = n → J i ys → CompRestT prog w A h₀ L m env ct elt x scope cl s S P Fin j i ys news := by
    intro j
    induction j with
    | zero => intro i ys e hj; have : i = n := by omega
              subst this; exact CompRestT.zero (fin ys hj)
    | succ j ih =>
      intro i ys e hj
      refine CompRestT.succ ?_
      intro v I oI C oC D m₂ h tk E' hv hC hx F N off ne
      refine wpAny_mono (turn i v I oI C oC D m₂ ys h tk E' (by omega) hv hj hC hx F N off ne) (fun b s₂ hq => ?_) fun _ _ e => e
      cases b with
      | true =>
        simp only [if_true] at hq ⊢
        refine wpAny_mono hq (fun y s₃ hr => ?_) fun _ _ e => e
        obtain ⟨h', tk', nw, e, F', N', off', hS, hn, hj'⟩ := hr
        rw [hn] at N' off' hS
        exact ⟨h', tk', news, e, F', N', off', hS, ih (i + 1) _ (by omega) hj'⟩
      | false =>
        simp only [Bool.false_eq_true, if_false] at hq ⊢
        obtain ⟨h', tk', nw, e, F', N', off', hS, hn, hj'⟩ := hq
        rw [hn] at N' off' hS
        exact ⟨h', tk', news, e, F', N', off', hS, ih (i + 1) _ (by omega) hj'⟩
  exact key n 0 [] (by omega) j0
end
end M36
end
section
open PySem PySem.W PyProof.Rows PySem.Calls PySem.Spec
set_option maxRecDepth 100000
set_option maxHeartbeats 4000000
namespace M36
section
variable {prog : Program} {w : World} {A : Around} {s : Shared} {env : Env} {h₀ : Heap}

/-- a for with an else over a range's iterator, by what holds ahead of each turn -/
theorem forLoop_else {R : Result → Shared → Prop} {x : Str} {px : Pos} {body orelse : List Stmt} {I : Addr} {a : Int} {n : Nat} {m : Str → Option Value} {news : List (Addr × Obj)}
    (hh : A.handled = none) (hx : env.kindOf x = some .local) (hp : (env.scope.kind == .class || (env.scope.kind == .module && env.locals != env.globals)) = false)
    (hI : IsRangeIter s.heap I a (n : Int) 1) (hI0 : h₀.get? I = none) (hL : env.locals ≠ I) (F : Fr h₀ env.locals s.heap m) (N : News h₀ env.locals s.heap news) (off : ∀ p ∈ news, p.1 ≠ I)
    (J : Nat → (Str → Option Value) → List (Addr × Obj) → Prop) (j0 : J 0 m news)
    (turn : ∀ i t m₁ nx h tk, i < n → J i m₁ nx → (∀ p ∈ nx, p.1 ≠ I) → Fr h₀ env.locals h (fun y => if y = x then some (.int (a + (i : Int)) t) else m₁ y) → News h₀ env.locals h ((I, itR (a + ((i + 1 : Nat) : Int)) ((n : Int) - ((i + 1 : Nat) : Int))) :: nx) →
      wpAny (model prog w) A (execs body env) (UnrPost h₀ env.locals { s with heap := h, toks := tk } I (itR (a + ((i + 1 : Nat) : Int)) ((n : Int) - ((i + 1 : Nat) : Int))) (J (i + 1)) fun f s' => R (.ok f) s') (notedBy (model prog w) A env fun e s' => R (.error e) s') { s with heap := h, toks := tk })
    (done : ∀ m₁ nx h tk, J n m₁ nx → Fr h₀ env.locals h m₁ → News h₀ env.locals h nx → wpAny (model prog w) A (execs orelse env) (fun f s' => R (.ok f) s') (notedBy (model prog w) A env fun e s' => R (.error e) s') { s with heap := h, toks := tk }) :
    codeAny (model prog w) A (.forLoop (.Name x px) (.ref I) body orelse env) R s := by
  have W := Walks.range (prog := prog) (w := w) hh I a 1 n
  have old : ∀ b o, h₀.get? b = some o → b ∉ [I] := fun b o e hb => by rw [List.mem_singleton.mp hb, hI0] at e; cases e
  refine codeAny_forLoop
    (fun k s' => ∃ h' tk m' nx i, s' = { s with heap := h', toks := tk } ∧ IsRangeIter h' I (a + (i : Nat) * 1) ((n : Int) - (i : Nat)) 1 ∧ Fr h₀ env.locals h' m' ∧ News h₀ env.locals h' nx ∧ (∀ p ∈ nx, p.1 ≠ I) ∧ J i m' nx ∧ i ≤ n ∧ k = n + 1 - i) ?_ (n + 1)
    ⟨s.heap, s.toks, m, news, 0, rfl, by simpa using hI, F, N, off, j0, Nat.zero_le _, rfl⟩
  rintro k s' ⟨h', tk, m', nx, i, rfl, hst, F', N', off', hJ, hi, rfl⟩
  have next : ∀ h₁ : Heap, (∀ b o, b ∉ [I] → h'.get? b = some o → h₁.get? b = some o) → Fr h₀ env.locals h₁ m' ∧ News h₀ env.locals h₁ nx := fun h₁ hk₁ =>
    ⟨⟨F'.ns.at' fun o e => hk₁ _ o (by simpa using hL) e, fun b o e => hk₁ b o (old b o e) (F'.keep b o e), F'.above⟩, fun p hp => ⟨hk₁ _ _ (by simpa using off' p hp) (N' p hp).1, (N' p hp).2⟩⟩
  by_cases hlt : i < n
  · refine W.item i _ _ _ hlt hst fun v h₁ tk₁ hP hst₁ hk₁ => ?_
    obtain ⟨t, rfl⟩ := hP
    obtain ⟨F₁, N₁⟩ := next h₁ hk₁
    refine wpAny_assign_Name (wpAny_storeName_local hx F₁.ns (fun h₂ hn₂ hs₂ => ?_) hp)
    have F₂ := F₁.set hn₂ hs₂
    rw [Int.mul_one] at F₂
    have hst₁' : h₁.get? I = some (itR (a + ((i + 1 : Nat) : Int)) ((n : Int) - ((i + 1 : Nat) : Int))) := by
      have q : IsRangeIter h₁ I (a + ((i + 1 : Nat) : Int) * 1) ((n : Int) - ((i + 1 : Nat) : Int)) 1 := hst₁
      rw [Int.mul_one] at q
      exact q
    have hst₂ : h₂.get? I = some (itR (a + ((i + 1 : Nat) : Int)) ((n : Int) - ((i + 1 : Nat) : Int))) := (hs₂.2 I hL.symm).trans hst₁'
    have N₂ : News h₀ env.locals h₂ ((I, itR (a + ((i + 1 : Nat) : Int)) ((n : Int) - ((i + 1 : Nat) : Int))) :: nx) := fun p hp => by
      rcases List.mem_cons.mp hp with rfl | hp
      · exact ⟨hst₂, hL.symm, hI0⟩
      · exact (N₁.set hs₂) p hp
    refine wpAny_mono (turn i t m' nx h₂ _ hlt hJ off' F₂ N₂) (fun f s₃ h₃ => ?_) fun _ _ e => e
    have fin : UnrEnd h₀ env.locals { s with heap := h₂, toks := tk₁ + 1 } I (itR (a + ((i + 1 : Nat) : Int)) ((n : Int) - ((i + 1 : Nat) : Int))) (J (i + 1)) s₃ →
        ∃ m₃, m₃ < n + 1 - i ∧ ∃ h' tk m' nx i, s₃ = { s with heap := h', toks := tk } ∧ IsRangeIter h' I (a + (i : Nat) * 1) ((n : Int) - (i : Nat)) 1 ∧ Fr h₀ env.locals h' m' ∧ News h₀ env.locals h' nx ∧ (∀ p ∈ nx, p.1 ≠ I) ∧ J i m' nx ∧ i ≤ n ∧ m₃ = n + 1 - i := by
      rintro ⟨h₄, tk₄, m₄, n₄, rfl, F₄, N₄, off₄, J₄⟩
      refine ⟨n + 1 - (i + 1), by omega, h₄, tk₄, m₄, n₄, i + 1, rfl, ?_, F₄, fun p hp => N₄ p (.tail _ hp), off₄, J₄, hlt, rfl⟩
      have q := (N₄ _ (.head _)).1
      show h₄.get? I = some _
      rw [Int.mul_one]
      exact q
    cases f with
    | ret v => exact h₃
    | brk => exact h₃
    | cont => exact fin h₃
    | next => exact fin h₃
  · have hin : i = n := by omega
    subst hin
    refine W.done _ _ _ hst fun h₁ tk₁ hk₁ => ?_
    obtain ⟨F₁, N₁⟩ := next h₁ hk₁
    exact done m' nx h₁ tk₁ hJ F₁ N₁

def ElseAt (prog : Program) (w : World) (A : Around) (h₀ : Heap) (env : Env) (x : Str) (body orelse : List Stmt) (Q : Flow → Shared → Prop) (E : Value → Shared → Prop) (xv : Value) (s₁ : Shared) : Prop :=
  ∃ r a b t u v n m news, ∃ (J : Addr → Nat → (Str → Option Value) → List (Addr × Obj) → Prop),
      xv = .ref r ∧ A.handled = none ∧ IsRange s₁.heap r a b 1 t u v ∧ Builtin.Range.small a b 1 = true ∧ Builtin.Range.rangeSize a b 1 = ((n : Nat) : Int) ∧ Fr h₀ env.locals s₁.heap m ∧ News h₀ env.locals s₁.heap news ∧
      (∀ I, (∀ p ∈ news, p.1 < I) → J I 0 m news) ∧
      (∀ I i t m₁ nx h tk, i < n → J I i m₁ nx → Fr h₀ env.locals h (fun y => if y = x then some (.int (a + (i : Int)) t) else m₁ y) → News h₀ env.locals h ((I, itR (a + ((i + 1 : Nat) : Int)) ((n : Int) - ((i + 1 : Nat) : Int))) :: nx) →
        wpAny (model prog w) A (execs body env) (UnrPost h₀ env.locals { s₁ with heap := h, toks := tk } I (itR (a + ((i + 1 : Nat) : Int)) ((n : Int) - ((i + 1 : Nat) : Int))) (J I (i + 1)) Q) E { s₁ with heap := h, toks := tk }) ∧
      (∀ I m₁ nx h tk, J I n m₁ nx → Fr h₀ env.locals h m₁ → News h₀ env.locals h nx → wpAny (model prog w) A (execs orelse env) Q E { s₁ with heap := h, toks := tk })
theorem ElseAt.intro {x : Str} {body orelse : List Stmt} {Q : Flow → Shared → Prop} {E : Value → Shared → Prop} {r : Addr} {a b : Int} {t u v : Tok} {n : Nat} {m : Str → Option Value} {news : List (Addr × Obj)} {s₁ : Shared} (J : Addr → Nat → (Str → Option Value) → List (Addr × Obj) → Prop)
    (hh : A.handled = none) (hr : IsRange s₁.heap r a b 1 t u v) (hsm : Builtin.Range.small a b 1 = true) (hn : Builtin.Range.rangeSize a b 1 = ((n : Nat) : Int)) (F : Fr h₀ env.locals s₁.heap m) (N : News h₀ env.locals s₁.heap news)
    (j0 : ∀ I, (∀ p ∈ news, p.1 < I) → J I 0 m news)
    (turn : ∀ I i t m₁ nx h tk, i < n → J I i m₁ nx → Fr h₀ env.locals h (fun y => if y = x then some (.int (a + (i : Int)) t) else m₁ y) → News h₀ env.locals h ((I, itR (a + ((i + 1 : Nat) : Int)) ((n : Int) - ((i + 1 : Nat) : Int))) :: nx) →
        wpAny (model prog w) A (execs body env) (UnrPost h₀ env.locals { s₁ with heap := h, toks := tk } I (itR (a + ((i + 1 : Nat) : Int)) ((n : Int) - ((i + 1 : Nat) : Int))) (J I (i + 1)) Q) E { s₁ with heap := h, toks := tk })
    (done : ∀ I m₁ nx h tk, J I n m₁ nx → Fr h₀ env.locals h m₁ → News h₀ env.locals h nx → wpAny (model prog w) A (execs orelse env) Q E { s₁ with heap := h, toks := tk }) :
    ElseAt prog w A h₀ env x body orelse Q E (.ref r) s₁ := ⟨r, a, b, t, u, v, n, m, news, J, rfl, hh, hr, hsm, hn, F, N, j0, turn, done⟩
/-- the statement: its range is written -/
theorem For_else {E : Value → Shared → Prop} {Q : Flow → Shared → Prop} {x : Str} {px pos : Pos} {iter : Expr} {body orelse : List Stmt} {m₀ : Str → Option Value} (_F₀ : Fr h₀ env.locals s.heap m₀) (hx : env.kindOf x = some .local)
    (hp : (env.scope.kind == .class || (env.scope.kind == .module && env.locals != env.globals)) = false)
    (h : wpAny (model prog w) A (eval iter env) (ElseAt prog w A h₀ env x body orelse Q E) E s)
    (hs : ∀ x, foldedSetIterable iter env x = pure x := by intro _; rfl)
    (hE : PassesOwn (model prog w) A env E := by passes_own) :
    wpAny (model prog w) A (exec (.For (.Name x px) iter body orelse pos) env) Q E s := by
  refine wpAny_For (wpAny_mono h (fun xv s₁ h₁ => ?_) fun _ _ e => e) hs
  obtain ⟨r, a, b, t, u, v, n, m, news, J, rfl, hh, hr, hsm, hn, F, N, j0, turn, done⟩ := h₁
  refine wpAny_pyIter_range hr hsm ?_
  rw [hn]
  refine forLoop_else (s := { s₁ with heap := s₁.heap.push _ }) (R := fun r s' => match r with | .ok f => Q f s' | .error e => cameBackBy (model prog w) A env E e s') (m := m) (news := news) hh hx hp (Heap.get?_push_size _ rfl) (next_is_new F) (Nat.ne_of_lt F.ns.lt) (F.push _) (fun p hp => ⟨Heap.get?_push_of_some _ (N p hp).1, (N p hp).2⟩) (fun p hp => Nat.ne_of_lt (Heap.lt_size (N p hp).1)) (J s₁.heap.objs.size) (j0 _ fun p hp => Heap.lt_size (N p hp).1) ?_ ?_
  · intro i t m₁ nx h tk hi hJ _ F₁ N₁
    exact wpAny_passesOwn hE (turn _ i t m₁ nx h tk hi hJ F₁ N₁)
  · intro m₁ nx h tk hJ F₁ N₁
    exact wpAny_passesOwn hE (done _ m₁ nx h tk hJ F₁ N₁)
end
end M36
end
section
open PySem PySem.W PyProof.Rows
set_option maxRecDepth 100000
set_option maxHeartbeats 2000000
namespace M36
/-- the 32 words, in the order of their places -/
def nmL : List Str := [Str.ofString "OPTIMIZED", Str.ofString "NEWLOCALS", Str.ofString "VARARGS", Str.ofString "VARKEYWORDS", Str.ofString "NESTED", Str.ofString "GENERATOR", Str.ofString "NOFREE", Str.ofString "COROUTINE", Str.ofString "ITERABLE_COROUTINE", Str.ofString "ASYNC_GENERATOR", Str.ofString "0x400", Str.ofString "0x800", Str.ofString "0x1000", Str.ofString "0x2000", Str.ofString "0x4000", Str.ofString "0x8000", Str.ofString "0x10000", Str.ofString "0x20000", Str.ofString "0x40000", Str.ofString "0x80000", Str.ofString "0x100000", Str.ofString "0x200000", Str.ofString "0x400000", Str.ofString "0x800000", Str.ofString "0x1000000", Str.ofString "0x2000000", Str.ofString "0x4000000", Str.ofString "0x8000000", Str.ofString "0x10000000", Str.ofString "0x20000000", Str.ofString "0x40000000", Str.ofString "0x80000000"]
def nm (i : Nat) : Str := nmL.getD i (Str.ofString "0x0")
theorem nmL_length : nmL.length = 32 := rfl
theorem nmL_get {i : Nat} (h : i < 32) : nmL[i]? = some (nm i) := by
  unfold nm
  rw [List.getD_eq_getElem?_getD, List.getElem?_eq_getElem (by rw [nmL_length]; exact h)]; rfl
theorem hex_all : ∀ p : Fin 32, 10 ≤ p.val → baseText "0x" 16 ((2 ^ p.val : Nat) : Int) = nm p.val := by decide +kernel
theorem hex_nm {p : Nat} (h1 : 10 ≤ p) (h2 : p < 32) : baseText "0x" 16 ((2 ^ p : Nat) : Int) = nm p := hex_all ⟨p, h2⟩ h1
theorem hex_zero : baseText "0x" 16 0 = Str.ofString "0x0" := by decide +kernel
theorem hex_len : ∀ p : Fin 32, (baseText "0x" 16 ((2 ^ p.val : Nat) : Int)).length ≤ 18 := by decide +kernel
theorem nm_len : ∀ p : Fin 32, (nm p.val).length ≤ 18 := by decide +kernel
theorem hex_size {p : Nat} (h2 : p < 32) : (baseText "0x" 16 ((2 ^ p : Nat) : Int)).length ≤ sizeLine := by
  have := hex_len ⟨p, h2⟩
  rw [sizeLine_eq]
  dsimp only at this
  omega
theorem flag_nat (i : Nat) : (1 : Int) * 2 ^ (0 + (i : Int)).toNat = ((2 ^ i : Nat) : Int) := by
  rw [Int.one_mul, Int.zero_add, Int.toNat_natCast, Int.natCast_pow]; rfl
theorem hex_size' {i : Nat} (h2 : i < 32) : (baseText "0x" 16 (1 * 2 ^ (0 + (i : Int)).toNat)).length ≤ sizeLine := by
  rw [flag_nat]; exact hex_size h2
def remN (f i : Nat) : Nat := f / 2 ^ i * 2 ^ i
def wdN (f i : Nat) : List Str := (List.range i).filterMap fun j => if f.testBit j then some (nm j) else none
theorem remN_end {f : Nat} (h : f < 2 ^ 32) : remN f 32 = 0 := by
  unfold remN; rw [Nat.div_eq_of_lt h, Nat.zero_mul]
theorem hex_size0 {f : Nat} (h : f < 2 ^ 32) : (baseText "0x" 16 ((remN f 32 : Nat) : Int)).length ≤ sizeLine := by
  rw [remN_end h]
  have e : (baseText "0x" 16 ((0 : Nat) : Int)).length ≤ 18 := by decide +kernel
  rw [sizeLine_eq]; omega
/-- the table of names, as the library reads it -/
def flagD : List (Int × PyData) := [(1, PyData.str { cps := #[79, 80, 84, 73, 77, 73, 90, 69, 68] }), (2, PyData.str { cps := #[78, 69, 87, 76, 79, 67, 65, 76, 83] }), (4, PyData.str { cps := #[86, 65, 82, 65, 82, 71, 83] }), (8, PyData.str { cps := #[86, 65, 82, 75, 69, 89, 87, 79, 82, 68, 83] }), (16, PyData.str { cps := #[78, 69, 83, 84, 69, 68] }), (32, PyData.str { cps := #[71, 69, 78, 69, 82, 65, 84, 79, 82] }), (64, PyData.str { cps := #[78, 79, 70, 82, 69, 69] }), (128, PyData.str { cps := #[67, 79, 82, 79, 85, 84, 73, 78, 69] }), (256, PyData.str { cps := #[73, 84, 69, 82, 65, 66, 76, 69, 95, 67, 79, 82, 79, 85, 84, 73, 78, 69] }), (512, PyData.str { cps := #[65, 83, 89, 78, 67, 95, 71, 69, 78, 69, 82, 65, 84, 79, 82] })]
def litS : List Str := [{ cps := #[79, 80, 84, 73, 77, 73, 90, 69, 68] }, { cps := #[78, 69, 87, 76, 79, 67, 65, 76, 83] }, { cps := #[86, 65, 82, 65, 82, 71, 83] }, { cps := #[86, 65, 82, 75, 69, 89, 87, 79, 82, 68, 83] }, { cps := #[78, 69, 83, 84, 69, 68] }, { cps := #[71, 69, 78, 69, 82, 65, 84, 79, 82] }, { cps := #[78, 79, 70, 82, 69, 69] }, { cps := #[67, 79, 82, 79, 85, 84, 73, 78, 69] }, { cps := #[73, 84, 69, 82, 65, 66, 76, 69, 95, 67, 79, 82, 79, 85, 84, 73, 78, 69] }, { cps := #[65, 83, 89, 78, 67, 95, 71, 69, 78, 69, 82, 65, 84, 79, 82] }]
theorem nm_lit : ∀ i : Fin 10, nm i.val = litS.getD i.val default := by decide +kernel
theorem each_small {h : Heap} {P : Value → Prop} {els : Prop} {i : Nat} (hi : i < 10) (hP : ∀ t, P (.str (nm i) t)) : KTD.Each h (((2 ^ i : Nat) : Int)) P els (KTD.asDat flagD) := by
  rw [nm_lit ⟨i, hi⟩] at hP
  unfold flagD
  simp only [KTD.asDat, List.map]
  match i, hi with
  | 0, _ =>  exact KTD.each_hit (by decide) (KTD.opened_str hP)
  | 1, _ => refine KTD.each_miss (by decide) ?_;  exact KTD.each_hit (by decide) (KTD.opened_str hP)
  | 2, _ => refine KTD.each_miss (by decide) ?_; refine KTD.each_miss (by decide) ?_;  exact KTD.each_hit (by decide) (KTD.opened_str hP)
  | 3, _ => refine KTD.each_miss (by decide) ?_; refine KTD.each_miss (by decide) ?_; refine KTD.each_miss (by decide) ?_;  exact KTD.each_hit (by decide) (KTD.opened_str hP)
  | 4, _ => refine KTD.each_miss (by decide) ?_; refine KTD.each_miss (by decide) ?_; refine KTD.each_miss (by decide) ?_; refine KTD.each_miss (by decide) ?_;  exact KTD.each_hit (by decide) (KTD.opened_str hP)
  | 5, _ => refine KTD.each_miss (by decide) ?_; refine KTD.each_miss (by decide) ?_; refine KTD.each_miss (by decide) ?_; refine KTD.each_miss (by decide) ?_; refine KTD.each_miss (by decide) ?_;  exact KTD.each_hit (by decide) (KTD.opened_str hP)
  | 6, _ => refine KTD.each_miss (by decide) ?_; refine KTD.each_miss (by decide) ?_; refine KTD.each_miss (by decide) ?_; refine KTD.each_miss (by decide) ?_; refine KTD.each_miss (by decide) ?_; refine KTD.each_miss (by decide) ?_;  exact KTD.each_hit (by decide) (KTD.opened_str hP)
  | 7, _ => refine KTD.each_miss (by decide) ?_; refine KTD.each_miss (by decide) ?_; refine KTD.each_miss (by decide) ?_; refine KTD.each_miss (by decide) ?_; refine KTD.each_miss (by decide) ?_; refine KTD.each_miss (by decide) ?_; refine KTD.each_miss (by decide) ?_;  exact KTD.each_hit (by decide) (KTD.opened_str hP)
  | 8, _ => refine KTD.each_miss (by decide) ?_; refine KTD.each_miss (by decide) ?_; refine KTD.each_miss (by decide) ?_; refine KTD.each_miss (by decide) ?_; refine KTD.each_miss (by decide) ?_; refine KTD.each_miss (by decide) ?_; refine KTD.each_miss (by decide) ?_; refine KTD.each_miss (by decide) ?_;  exact KTD.each_hit (by decide) (KTD.opened_str hP)
  | 9, _ => refine KTD.each_miss (by decide) ?_; refine KTD.each_miss (by decide) ?_; refine KTD.each_miss (by decide) ?_; refine KTD.each_miss (by decide) ?_; refine KTD.each_miss (by decide) ?_; refine KTD.each_miss (by decide) ?_; refine KTD.each_miss (by decide) ?_; refine KTD.each_miss (by decide) ?_; refine KTD.each_miss (by decide) ?_;  exact KTD.each_hit (by decide) (KTD.opened_str hP)
theorem each_none {h : Heap} {k : Int} {P : Value → Prop} {els : Prop} : ∀ {D : List (Int × KTD.Dat)}, (∀ p ∈ D, k ≠ p.1) → els → KTD.Each h k P els D
  | [], _, he => KTD.each_nil he
  | (_, _) :: _, hD, he => KTD.each_miss (hD _ (.head _)) (each_none (fun p hp => hD p (.tail _ hp)) he)
theorem flagD_small : ∀ p ∈ flagD, p.1 ≤ 512 := by decide +kernel
theorem get_flag {prog : Program} {w : World} {A : Around} {E : Value → Shared → Prop} {s : Shared} {h₀ : Heap} {Q : Value → Shared → Prop} {i : Nat} {tk t' : Tok} (hi : i < 32) (K : KTD.Keyed h₀ 15 flagD) (hk : ∀ b o, h₀.get? b = some o → s.heap.get? b = some o)
    (h : ∀ t, Q (.str (nm i) t) { s with toks := s.toks + 1 }) :
    wpAny (model prog w) A (call (.builtin "dict.get") [.ref 15, .int (1 * 2 ^ (0 + (i : Int)).toNat) tk, .str (baseText "0x" 16 (1 * 2 ^ (0 + (i : Int)).toNat)) t']) Q E s := by
  rw [flag_nat]
  refine KTD.get2_keyed K hk (PyProof.V.Flat.str _ _) ?_
  by_cases h10 : i < 10
  · exact each_small h10 h
  · rw [hex_nm (by omega) hi]
    refine each_none (fun p hp => ?_) (KTD.opened_str h)
    obtain ⟨q, hq, rfl⟩ := List.mem_map.mp hp
    have h1 := flagD_small q hq
    have h2 : 2 ^ 10 ≤ 2 ^ i := Nat.pow_le_pow_right (by omega) (by omega)
    show ((2 ^ i : Nat) : Int) ≠ q.1
    omega
/-- the words of the flags -/
def wordsN (f : Nat) : List Str := if f = 0 then [Str.ofString "0x0"] else wdN f 32
def textN (f : Nat) : Str := Txt.join (Str.ofString ", ") (wordsN f)
theorem wdN_succ (f i : Nat) : wdN f (i + 1) = wdN f i ++ (if f.testBit i then [nm i] else []) := by
  unfold wdN
  rw [List.range_succ, List.filterMap_append]
  congr 1
  cases h : f.testBit i <;> simp [h]
theorem wdN_len (f : Nat) : ∀ i, (wdN f i).length ≤ i
  | 0 => by simp [wdN]
  | i + 1 => by
    have := wdN_len f i
    rw [wdN_succ, List.length_append]
    split <;> simp <;> omega
theorem wdN_sum (f : Nat) : ∀ i, i ≤ 32 → ((wdN f i).map (·.length)).sum ≤ 18 * i
  | 0, _ => by simp [wdN]
  | i + 1, h => by
    have := wdN_sum f i (by omega)
    have h1 := nm_len ⟨i, by omega⟩
    dsimp only at h1
    rw [wdN_succ, List.map_append, List.sum_append]
    split
    · simp only [List.map_cons, List.map_nil, List.sum_cons, List.sum_nil]; omega
    · simp only [List.map_nil, List.sum_nil]; omega
theorem wdN_ok (f i : Nat) (h : i ≤ 32) : ((wdN f i).map (·.length)).sum + (wdN f i).length * 64 ≤ 16777216 := by
  have h1 := wdN_sum f i h
  have h2 := wdN_len f i
  omega
theorem remN_bit (f i : Nat) : (remN f i) &&& 2 ^ i = if f.testBit i then 2 ^ i else 0 := by
  apply Nat.eq_of_testBit_eq
  intro j
  rw [Nat.testBit_and, Nat.testBit_two_pow]
  by_cases hj : i = j
  · subst hj
    unfold remN
    rw [Nat.testBit_mul_two_pow, Nat.testBit_div_two_pow]
    cases h : f.testBit i <;> simp [h]
  · cases h : f.testBit i <;> simp [hj]
theorem remN_succ (f i : Nat) : remN f (i + 1) = if f.testBit i then (remN f i) ^^^ 2 ^ i else remN f i := by
  apply Nat.eq_of_testBit_eq
  intro j
  have e1 : (remN f (i + 1)).testBit j = (decide (i + 1 ≤ j) && f.testBit j) := by
    unfold remN
    rw [Nat.testBit_mul_two_pow, Nat.testBit_div_two_pow]
    by_cases h : i + 1 ≤ j
    · simp [h]
    · simp [h]
  have e2 : (remN f i).testBit j = (decide (i ≤ j) && f.testBit j) := by
    unfold remN
    rw [Nat.testBit_mul_two_pow, Nat.testBit_div_two_pow]
    by_cases h : i ≤ j
    · simp [h]
    · simp [h]
  rw [e1]
  cases hb : f.testBit i with
  | true =>
    simp only [if_true]
    rw [Nat.testBit_xor, e2, Nat.testBit_two_pow]
    by_cases hj : i = j
    · subst hj; simp [hb]
    · have : decide (i + 1 ≤ j) = decide (i ≤ j) := by
        by_cases h : i ≤ j
        · have : i + 1 ≤ j := by omega
          simp [h, this]
        · have : ¬ i + 1 ≤ j := by omega
          simp [h, this]
      simp [hj, this]
  | false =>
    simp only [Bool.false_eq_true, if_false]
    rw [e2]
    by_cases hj : i = j
    · subst hj; simp [hb]
    · have : decide (i + 1 ≤ j) = decide (i ≤ j) := by
        by_cases h : i ≤ j
        · have : i + 1 ≤ j := by omega
          simp [h, this]
        · have : ¬ i + 1 ≤ j := by omega
          simp [h, this]
      rw [this]
theorem bit_yes {f i : Nat} (h : Builtin.bitAnd ((remN f i : Nat) : Int) (1 * 2 ^ (0 + (i : Int)).toNat) ≠ 0) : f.testBit i = true := by
  rw [flag_nat, and_nat, remN_bit] at h
  cases hb : f.testBit i with
  | true => rfl
  | false => rw [hb] at h; exact absurd rfl h
theorem bit_no {f i : Nat} (h : Builtin.bitAnd ((remN f i : Nat) : Int) (1 * 2 ^ (0 + (i : Int)).toNat) = 0) : f.testBit i = false := by
  rw [flag_nat, and_nat, remN_bit] at h
  cases hb : f.testBit i with
  | true =>
    rw [hb] at h
    have := Nat.two_pow_pos i
    simp only [if_true] at h
    omega
  | false => rfl
theorem rem_xor {f i : Nat} (hb : f.testBit i = true) : Builtin.bitXor ((remN f i : Nat) : Int) (1 * 2 ^ (0 + (i : Int)).toNat) = ((remN f (i + 1) : Nat) : Int) := by
  rw [flag_nat, xor_nat, remN_succ, hb, if_pos rfl]
theorem rem_same {f i : Nat} (hb : f.testBit i = false) : remN f (i + 1) = remN f i := by
  rw [remN_succ, hb]; rfl
theorem wdN_start (f : Nat) : StrsAre [] (wdN f 0) := .nil
theorem remN_start (f : Nat) : remN f 0 = f := by unfold remN; simp
theorem wdN_zero : ∀ i, wdN 0 i = []
  | 0 => rfl
  | i + 1 => by rw [wdN_succ, wdN_zero i]; simp
theorem sep_len : (Str.ofString ", ").length ≤ 64 := by decide +kernel
theorem wordsN_ok (f : Nat) : ((wordsN f).map (·.length)).sum + (wordsN f).length * 64 ≤ 16777216 := by
  unfold wordsN
  split
  · decide +kernel
  · exact wdN_ok f 32 (Nat.le_refl _)
/-- nothing is left above: the words are all there -/
theorem wd_all {f i : Nat} (h : remN f i = 0) : ∀ j, wdN f (i + j) = wdN f i
  | 0 => rfl
  | j + 1 => by
    have hlt : f < 2 ^ i := by
      have h1 : f / 2 ^ i = 0 := by
        rcases Nat.mul_eq_zero.mp h with h | h
        · exact h
        · exact absurd h (Nat.ne_of_gt (Nat.two_pow_pos i))
      exact Nat.lt_of_div_eq_zero (Nat.two_pow_pos i) h1
    have hb : f.testBit (i + j) = false := Nat.testBit_lt_two_pow (Nat.lt_of_lt_of_le hlt (Nat.pow_le_pow_right (by omega) (by omega)))
    rw [← Nat.add_assoc, wdN_succ, wd_all h j, hb]
    simp
theorem words_turn {f i : Nat} {vs : List Value} {t : Tok} (hi : i < 32) (hb : f.testBit i = true) (h0 : remN f (i + 1) = 0) (hvs : StrsAre vs (wdN f i)) : StrsAre (vs ++ [.str (nm i) t]) (wordsN f) := by
  have hf : f ≠ 0 := by rintro rfl; simp at hb
  have e := wd_all h0 (31 - i)
  rw [show i + 1 + (31 - i) = 32 by omega] at e
  unfold wordsN
  rw [if_neg hf, e, wdN_succ, hb]
  exact StrsAre.append' hvs (.cons _ _ .nil)
theorem words_zero {f : Nat} {vs : List Value} {t : Tok} (hf : f < 2 ^ 32) (hne : f = 0 ∨ remN f 32 ≠ 0) (hvs : StrsAre vs (wdN f 32)) : StrsAre (vs ++ [.str (baseText "0x" 16 ((remN f 32 : Nat) : Int)) t]) (wordsN f) := by
  have h0 : f = 0 := hne.resolve_right fun h => h (remN_end hf)
  rw [remN_end hf]
  subst h0
  have e : baseText "0x" 16 ((0 : Nat) : Int) = Str.ofString "0x0" := hex_zero
  rw [e]
  rw [wdN_zero] at hvs
  exact StrsAre.append' hvs (.cons _ _ .nil)
end M36
end
section
open PySem PySem.W PyProof.Rows
set_option maxRecDepth 100000
set_option maxHeartbeats 2000000
namespace M36
open PyProof.V
/-- the changes' table -/
def chD : List (PyData × PyData) := [(.str (Str.ofString "NOFREE"), .int 16), (.str (Str.ofString "COROUTINE"), .int 48), (.str (Str.ofString "0x4000"), .int 12), (.str (Str.ofString "0x8000"), .int 8), (.str (Str.ofString "0x40000000"), .int 113), (.str (Str.ofString "0x80000000"), .int 255)]
def chgN (x : Str) : Nat :=
  if Str.ofString "NOFREE" = x then 16 else if Str.ofString "COROUTINE" = x then 48 else if Str.ofString "0x4000" = x then 12
  else if Str.ofString "0x8000" = x then 8 else if Str.ofString "0x40000000" = x then 113 else if Str.ofString "0x80000000" = x then 255 else 0
theorem chg_lookup (x : Str) : (Spec.lookup (.str x) chD).getD (.int 0) = .int ((chgN x : Nat) : Int) := by
  unfold chD chgN
  simp only [Spec.lookup, same_str]
  repeat' split
  all_goals first | rfl | (simp_all; done)
theorem chg_val {x : Str} {v : Value} (h : Flat v ((Spec.lookup (.str x) chD).getD (.int 0))) : ∃ t, v = .int ((chgN x : Nat) : Int) t := by
  rw [chg_lookup] at h
  exact h.int_inv
theorem method_get {prog : Program} {w : World} {A : Around} {E : Value → Shared → Prop} {s : Shared} {d : Addr} {D : List (PyData × PyData)} {pl : Sem Bool} {Q : Value × List Value → Shared → Prop} (T : StrTab prog w s.heap d D) (h : Q (.builtin "dict.get", [.ref d]) s) : wpAny (model prog w) A (getMethod (.ref d) "get" pl) Q E s := by
  obtain ⟨_, kvs, ⟨o, es, ep, ho, hc, _⟩, _⟩ := T
  exact getMethod_builtin ⟨o, ho, hc.1⟩ PySem.F.plainAttrs_dict PySem.F.slot_dict_get PySem.F.type_dict_get (fun b e => by injection e with e; subst e; exact ⟨o, ho, hc.2.1⟩) h
def facN (ws : List Str) : Nat := ws.foldl (fun a x => a ^^^ chgN x) 17
theorem facN_take {ws : List Str} {i : Nat} {x : Str} (h : ws[i]? = some x) : facN (ws.take (i + 1)) = facN (ws.take i) ^^^ chgN x := by
  unfold facN; rw [List.take_add_one, h]; simp
def placedN (ps : List Nat) : Nat := ps.foldl (fun a p => a + 256 * 2 ^ p) 0
theorem placedN_take {ps : List Nat} {i p : Nat} (h : ps[i]? = some p) : placedN (ps.take (i + 1)) = placedN (ps.take i) + 256 * 2 ^ p := by
  unfold placedN; rw [List.take_add_one, h]; simp
def mulN (fac many : Nat) : Nat → Nat
  | 0 => many
  | i + 1 => if fac / 2 ^ i % 2 = 1 then mulN fac many i ^^^ 7976584769 * 2 ^ i else mulN fac many i
theorem shl_nat (c p : Nat) : (c : Int) * 2 ^ Int.toNat (p : Int) = ((c * 2 ^ p : Nat) : Int) := by
  rw [Int.toNat_natCast, Int.natCast_mul, Int.natCast_pow]; rfl
theorem mul_yes {fac many i : Nat} (h : ((fac : Int).fdiv (2 ^ (0 + (i : Int)).toNat)).fmod 2 = 1) : Builtin.bitXor ((mulN fac many i : Nat) : Int) (7976584769 * 2 ^ (0 + (i : Int)).toNat) = ((mulN fac many (i + 1) : Nat) : Int) := by
  rw [Int.zero_add] at h ⊢
  rw [shr_nat, fmod2] at h
  have e := shl_nat 7976584769 i
  rw [show ((7976584769 : Nat) : Int) = 7976584769 from rfl] at e
  rw [e, xor_nat, mulN, if_pos (by omega)]
theorem mul_no {fac many i : Nat} (h : ((fac : Int).fdiv (2 ^ (0 + (i : Int)).toNat)).fmod 2 ≠ 1) : mulN fac many (i + 1) = mulN fac many i := by
  rw [Int.zero_add] at h
  rw [shr_nat, fmod2] at h
  rw [mulN, if_neg (by omega)]
def manyN (ws : List Str) (ps : List Nat) : Nat := mulN (facN ws) (placedN ps) 8
def octs5 (many : Nat) : List Nat := [0, 8, 16, 24, 32].map fun p => many / 2 ^ p % 256
end M36
end
section
open PySem PySem.W PyProof.Rows PySem.Calls PySem.Spec
set_option maxRecDepth 100000
set_option maxHeartbeats 4000000
namespace M36
/-- a list's iterator at a place -/
def ItAt (o : Obj) (l : Addr) (i : Nat) : Prop := o.cls = .type "list_iterator" ∧ o.data = .fields #[.ref l, .int i 0]
theorem ItAt.at {o : Obj} {l : Addr} {i : Nat} {h : Heap} {I : Addr} (x : ItAt o l i) (e : h.get? I = some o) : h.IsListIter I l i := ⟨o, e, x.1, x.2⟩
theorem stop_members : ownMembersOf (.type "StopIteration") [] = #[] := by
  unfold ownMembersOf
  split <;> first | rfl | (rename_i h; revert h; decide) | simp_all
section
variable {prog : Program} {w : World} {A : Around} {E : Value → Shared → Prop} {s : Shared} {h₀ : Heap} {L l I : Addr} {m : Str → Option Value} {news : List (Addr × Obj)} {g : Obj → List (Addr × Obj)} {io : Obj} {its : Array Value} {i : Nat} {x : Value}

theorem lit_iter {Q : Value → Shared → Prop} (F : Fr h₀ L s.heap m) (N : News h₀ L s.heap news) (hl : s.heap.IsList l its)
    (h : ∀ (I : Addr) h' oI, Fr h₀ L h' m → News h₀ L h' ((I, oI) :: news) → (∀ p ∈ news, p.1 < I) → ItAt oI l 0 → Q (.ref I) { s with heap := h' }) :
    wpAny (model prog w) A (call (.builtin "iter") [.ref l]) Q E s := by
  refine call_function_entry (by decide +kernel) (by decide +kernel) kdk_entry_iter (kdk_args_iter _) ?_
  unfold Builtin.«iter»
  refine wpAny_bind (m := someArgs "iter" 1 2 _) (wpAny_of_eq (a := [Value.ref l]) (by first | rfl | kernel_rfl!) ?_)
  show wpAny _ _ (pyIter (.ref l) >>= _) _ _ _
  refine wpAny_bind (wpAny_pyIter_list hl ?_)
  exact wpAny_pure ⟨_, rfl, h _ _ _ (F.push _) (News.push F N _ rfl) (fun q hq => Heap.lt_size (N q hq).1) ⟨rfl, rfl⟩⟩

theorem lit_next {Q : Value → Shared → Prop} (F : Fr h₀ L s.heap m) (N : News h₀ L s.heap news) (U : UpdF I io news g) (hi : ItAt io l i) (hl : s.heap.IsList l its) (hx : its[i]? = some x)
    (h : ∀ h' o', Fr h₀ L h' m → News h₀ L h' (g o') → ItAt o' l (i + 1) → Q x { s with heap := h' }) :
    wpAny (model prog w) A (call (.builtin "next") [.ref I]) Q E s := by
  obtain ⟨pre, post, hls, hg, a, b⟩ := U.split
  have hmem : (I, io) ∈ news := by rw [hls]; exact List.mem_append_right _ (.head _)
  have hm := N (I, io) hmem
  have hit := hi.at hm.1
  refine call_function_entry (by decide +kernel) (by decide +kernel) kdk_entry_next (kdk_args_next _) ?_
  unfold Builtin.«next»
  refine wpAny_bind (m := someArgs "next" 1 2 _) (wpAny_of_eq (a := [Value.ref I]) (by first | rfl | kernel_rfl!) ?_)
  dsimp only
  refine wpAny_bind (wpAny_specialOf (name := Str.ofString "__next__") hit.typeIs slot_listiter_next.lookup ?_)
  refine wpAny_ite_split (fun hab => absurd hab (by decide)) (fun _ => ?_)
  obtain ⟨o, ho, hc, hd⟩ := id hit
  obtain ⟨ol, hol, _, nl, hdl⟩ := hl
  refine wpAny_bind (wpAny_callSpecial?_slot (name := Str.ofString "__next__") hit.typeIs slot_listiter_next
    (wpAny_call_entry slot_listiter_next hit.typeIs entry_listiter_next ?_ (args_listiter_next _)))
  show wpAny _ _ (field (.ref I) 0 >>= _) _ _ s
  refine wpAny_bind (wpAny_field ho hd (x := .ref l) rfl ?_)
  show wpAny _ _ (if (Value.ref l == Value.none) = true then _ else _) _ _ s
  rw [if_neg (show ¬ ((Value.ref l == Value.none) = true) from Bool.false_ne_true)]
  show wpAny _ _ (field (.ref I) 1 >>= _) _ _ s
  refine wpAny_bind (wpAny_field ho hd (x := .int i 0) rfl ?_)
  show wpAny _ _ (seqItems? (.ref l) >>= _) _ _ s
  refine wpAny_bind (wpAny_seqItems hol hdl ?_)
  simp only [Int.toNat_natCast, hx]
  refine wpAny_bind (wpAny_setField ho hd (by simp) (wpAny_pure ⟨x, rfl, ?_⟩))
  have hs := Heap.SameBut.update s.heap I (Obj.mapFields (·.setIfInBounds 1 (rawInt ((i : Int) + 1))))
  have ho' := Heap.get?_update_self (Obj.mapFields (·.setIfInBounds 1 (rawInt ((i : Int) + 1)))) ho (Obj.isFreed_of_fields (Obj.data_mapFields hd _))
  exact wpAny_pure ⟨_, rfl, h _ _ (F.change hs hm.2.1 hm.2.2) (hg _ ▸ (show News h₀ L s.heap (pre ++ (I, io) :: post) from hls ▸ N).setIn a b hs ho') ⟨(Obj.cls_mapFields ..).trans hc, by rw [Obj.data_mapFields hd]; simp [rawInt]⟩⟩

theorem lit_end {Q : Value → Shared → Prop} (hh : A.handled = none) (F : Fr h₀ L s.heap m) (N : News h₀ L s.heap news) (U : UpdF I io news g) (hi : ItAt io l i) (hl : s.heap.IsList l its) (hx : its[i]? = none)
    (hE : ∀ h₁ o' h' e, Fr h₀ L h₁ m → News h₀ L h₁ (g o') → Heap.NewExc h₁ h' e "StopIteration" → E (.ref e) { s with heap := h' }) :
    wpAny (model prog w) A (call (.builtin "next") [.ref I]) Q E s := by
  obtain ⟨pre, post, hls, hg, a, b⟩ := U.split
  have hmem : (I, io) ∈ news := by rw [hls]; exact List.mem_append_right _ (.head _)
  have hm := N (I, io) hmem
  have hit := hi.at hm.1
  refine call_function_entry (by decide +kernel) (by decide +kernel) kdk_entry_next (kdk_args_next _) ?_
  unfold Builtin.«next»
  refine wpAny_bind (m := someArgs "next" 1 2 _) (wpAny_of_eq (a := [Value.ref I]) (by first | rfl | kernel_rfl!) ?_)
  dsimp only
  refine wpAny_bind (wpAny_specialOf (name := Str.ofString "__next__") hit.typeIs slot_listiter_next.lookup ?_)
  refine wpAny_ite_split (fun hab => absurd hab (by decide)) (fun _ => ?_)
  obtain ⟨o, ho, hc, hd⟩ := id hit
  obtain ⟨ol, hol, _, nl, hdl⟩ := hl
  refine wpAny_bind (wpAny_callSpecial?_slot (name := Str.ofString "__next__") hit.typeIs slot_listiter_next
    (wpAny_call_entry slot_listiter_next hit.typeIs entry_listiter_next ?_ (args_listiter_next _)))
  show wpAny _ _ (field (.ref I) 0 >>= _) _ _ s
  refine wpAny_bind (wpAny_field ho hd (x := .ref l) rfl ?_)
  show wpAny _ _ (if (Value.ref l == Value.none) = true then _ else _) _ _ s
  rw [if_neg (show ¬ ((Value.ref l == Value.none) = true) from Bool.false_ne_true)]
  show wpAny _ _ (field (.ref I) 1 >>= _) _ _ s
  refine wpAny_bind (wpAny_field ho hd (x := .int i 0) rfl ?_)
  show wpAny _ _ (seqItems? (.ref l) >>= _) _ _ s
  refine wpAny_bind (wpAny_seqItems hol hdl ?_)
  simp only [Int.toNat_natCast, hx]
  refine wpAny_bind (wpAny_rule (wpAny_bind (wpAny_setField ho hd (by simp) ?_)))
  show wpAny _ _ (newExc (.type "StopIteration") [] >>= _) _ _ _
  refine wpAny_bind ?_
  simp only [newExc, newTuple]
  refine wpAny_bind (wpAny_newObj_type ?_ (by size_fits))
  refine wpAny_bind (m := firstArgMember _ _) (wpAny_of_eq (a := Value.none) (by first | rfl | (simp only [firstArgMember]; rfl)) ?_)
  rw [stop_members]
  refine wpAny_newObj_type ?_ (by size_fits)
  simp only [raiseNew]
  refine wpAny_bind (wpAny_handled ?_)
  rw [show A.in1.in1.handled = none from hh]
  refine wpAny_bind (wpAny_pure (wpAny_throw ?_))
  have hs := Heap.SameBut.update s.heap I (Obj.mapFields (·.setIfInBounds 0 Value.none))
  have ho' := Heap.get?_update_self (Obj.mapFields (·.setIfInBounds 0 Value.none)) ho (Obj.isFreed_of_fields (Obj.data_mapFields hd _))
  refine hE _ _ _ _ (F.change hs hm.2.1 hm.2.2) (hg _ ▸ (show News h₀ L s.heap (pre ++ (I, io) :: post) from hls ▸ N).setIn a b hs ho') ⟨fun b o hb => Heap.get?_push_of_some _ (Heap.get?_push_of_some _ hb), Heap.get?_none_of_le (by simp), _, .ref (s.heap.update I (Obj.mapFields (·.setIfInBounds 0 Value.none))).objs.size, Heap.get?_push_size _ rfl, rfl, by simp⟩
end
end M36
end
section
open PySem PySem.W PyProof.Rows
set_option maxRecDepth 100000
set_option maxHeartbeats 2000000
namespace M36
theorem updF_again {I : Addr} {io : Obj} : ∀ {news : List (Addr × Obj)} {g : Obj → List (Addr × Obj)}, UpdF I io news g → ∀ o', UpdF I o' (g o') g
  | _, _, .head h, _ => .head h
  | _, _, .tail hp h, o' => .tail hp (updF_again h o')
theorem or_nat (a b : Nat) : Builtin.bitOr (a : Int) (b : Int) = ((a ||| b : Nat) : Int) := by
  have e : Builtin.bitOr (a : Int) (b : Int) = Builtin.bitXor (a : Int) (b : Int) + Builtin.bitAnd (a : Int) (b : Int) := by unfold Builtin.bitXor; omega
  rw [e, xor_nat, and_nat, ← Int.natCast_add]
  congr 1
  have h1 := add_eq_xor (a ^^^ b) (a &&& b)
  have h2 : (a ^^^ b) &&& (a &&& b) = 0 := by
    apply Nat.eq_of_testBit_eq
    intro i
    rw [Nat.testBit_and, Nat.testBit_xor, Nat.testBit_and, Nat.zero_testBit]
    cases a.testBit i <;> cases b.testBit i <;> rfl
  have h3 : (a ^^^ b) ^^^ (a &&& b) = a ||| b := by
    apply Nat.eq_of_testBit_eq
    intro i
    rw [Nat.testBit_xor, Nat.testBit_xor, Nat.testBit_and, Nat.testBit_or]
    cases a.testBit i <;> cases b.testBit i <;> rfl
  rw [h2, h3] at h1
  omega
theorem and63 (b : Nat) : Builtin.bitAnd (b : Int) 63 = ((b % 64 : Nat) : Int) := by
  rw [bitAnd_m6]; rfl
theorem and64 (b : Nat) : Builtin.bitAnd (b : Int) 64 = ((b &&& 64 : Nat) : Int) := and_nat b 64
theorem or_step (v b : Nat) : Builtin.bitOr ((v : Int) * 2 ^ Int.toNat 6) (Builtin.bitAnd (b : Int) 63) = ((v * 64 + b % 64 : Nat) : Int) := by
  have e : (v : Int) * 2 ^ Int.toNat 6 = ((v * 64 : Nat) : Int) := by rw [Int.natCast_mul]; rfl
  rw [e, and63, or_nat]
  congr 1
  have := Nat.two_pow_add_eq_or_of_lt (i := 6) (b := b % 64) (by omega) v
  rw [Nat.mul_comm v 64]
  exact this.symm
/-- a chunk of octets: all but the last go on -/
def Chunk (c : List Nat) : Prop := c ≠ [] ∧ ∀ j x, c[j]? = some x → (x &&& 64 ≠ 0 ↔ j + 1 < c.length)
theorem one_val {c : List Nat} {x : Nat} (h : c[0]? = some x) : ((baseN 64 ((c.take 1).map (· % 64)) : Nat) : Int) = Builtin.bitAnd (x : Int) 63 := by
  rw [and63]
  cases c with
  | nil => cases h
  | cons y r =>
    have e : y = x := by simpa using h
    subst e
    simp [baseN]
theorem part_small {c : List Nat} (h : c.length ≤ 5) (j : Nat) : ((baseN 64 ((c.take j).map (· % 64)) : Nat) : Int).natAbs < 2 ^ 64 := by
  have h1 := baseN_lt 64 ((c.take j).map (· % 64)) (fun x hx => by
    obtain ⟨y, _, rfl⟩ := List.mem_map.mp hx
    omega)
  have h2 : ((c.take j).map (· % 64)).length ≤ 5 := by rw [List.length_map, List.length_take]; omega
  have h3 : 64 ^ ((c.take j).map (· % 64)).length ≤ 64 ^ 5 := Nat.pow_le_pow_right (by omega) h2
  rw [Int.natAbs_natCast]
  omega
theorem part_snoc {c : List Nat} {j y : Nat} (h : c[j]? = some y) : baseN 64 ((c.take (j + 1)).map (· % 64)) = baseN 64 ((c.take j).map (· % 64)) * 64 + y % 64 := by
  rw [List.take_add_one, h, List.map_append]
  exact baseN_snoc 64 _ _
def chunkVal (c : List Nat) : Nat := baseN 64 (c.map (· % 64))
theorem flat_drop : ∀ {cs : List (List Nat)} {c : Nat} {ch : List Nat}, cs[c]? = some ch → cs.flatten.drop (cs.take c).flatten.length = ch ++ (cs.drop (c + 1)).flatten
  | [], _, _, h => by simp at h
  | d :: r, 0, ch, h => by
    have : d = ch := by simpa using h
    subst this; simp
  | d :: r, c + 1, ch, h => by
    have := flat_drop (cs := r) (c := c) (ch := ch) (by simpa using h)
    rw [List.flatten_cons, List.take_succ_cons, List.flatten_cons, List.length_append, ← List.drop_drop, List.drop_left, this]
    rfl
theorem flat_len {cs : List (List Nat)} {c : Nat} {ch : List Nat} (h : cs[c]? = some ch) : (cs.take (c + 1)).flatten.length = (cs.take c).flatten.length + ch.length := by
  rw [List.take_add_one, h, List.flatten_append, List.length_append]; simp
end M36
end
section
open PySem PySem.W PyProof.Rows PySem.Calls PySem.Spec
set_option maxRecDepth 100000
set_option maxHeartbeats 4000000
namespace M36
theorem Con.use {w : World} {mean : ExcName → Option Value} {mg mb : Str → Option Value} {f : Addr} {vs : List Value} {news : List (Addr × Obj)} {R : Value → List (Addr × Obj) → Prop} (C : Con w mean mg mb f vs news R)
    {dp un : Nat} {gd : Option (List Code)} {cn : Str} {cs : Scope} {a : Addr} {ccd : Value} {cl : List (Str × Addr)} {outer : List Env} {A₀ : Around} {base h₀ : Heap} {L : Addr} {m : Str → Option Value} {s : Shared} {Q E : Value → Shared → Prop}
    (B : Below A₀ base outer h₀) (F : Fr h₀ L s.heap m) (X : (hd.heap_39 w.params).In h₀) (N : News h₀ L s.heap news) (T : Top hd.view_39 Lo mean mg mb h₀) (hk : cs.kind = .function)
    (hdp : dp + 2 < recursionLimit) (hun : un + 16 < cLine)
    (ret : ∀ v news' h' tk', R v news' → Fr h₀ L h' m → News h₀ L h' news' → Q v { s with heap := h', toks := tk' }) :
    wpAny (model PySem.Challenge.rw_pe0036_01.row.prog w) (ktrTop dp un gd cn cs L a ccd cl outer) (call (.ref f) vs) Q E s :=
  C _ _ _ _ _ _ _ _ _ _ _ _ _ _ _ _ _ B F X N T hk hdp hun ret

theorem stop_isExc : isSubtype (.type "StopIteration") (.type "BaseException") = pure true := by rw [isSubtype_type]; kernel_rfl
theorem stop_notTuple : isSubtype (.type ((Manifest.find? "StopIteration").elim "type" fun x => x.metatype)) (.type "tuple") = pure false := by
  rw [show ((Manifest.find? "StopIteration").elim "type" fun x => x.metatype) = "type" from by kernel_rfl, isSubtype_type]; kernel_rfl
theorem stop_self : isSubtype (.type "StopIteration") (.type "StopIteration") = pure true := by rw [isSubtype_type]; kernel_rfl

section
variable {prog : Program} {w : World} {A₀ A : Around} {s : Shared} {base h₀ : Heap} {env : Env} {L : Addr} {m : Str → Option Value} {news : List (Addr × Obj)} {K : Frag} {p : Program} {loose : List Str} {mean : ExcName → Option Value} {mg mb : Str → Option Value}
    {R : Result → Shared → Prop} {name qual : Str} {params : Arguments} {body : List Stmt} {scope : Scope} {dV kV doc pm cdv ct oc : Value} {an od : Option Addr} {osl : Array (Option Value)} {f : Addr} {args : Args} {binds : List (Str × Value)}
/-- a def that may catch what a callee raises, called from the outermost def, whose frame may hold cells -/
theorem code_defSX (B : Below A₀ base [] h₀) (F : Fr h₀ L s.heap m) (X₀ : K.In h₀) (N : News h₀ L s.heap news) (T : Top p loose mean mg mb h₀) (hA : A.frames = some [env]) (hf : env.frame = some L) (hke : env.scope.kind = .function)
    (ho : K.lookup f = some ⟨oc, od, .func (fnOf name qual params body scope dV kV doc pm an cdv ct), osl⟩) (hcd : codeIn K cdv qual = true) (hroom : A.depth < recursionLimit)
    (hbind : BindsTo s (fnOf name qual params body scope dV kV doc pm an cdv ct) args binds) (hloc : ∀ y ∈ binds, scope.names.lookup y.1 = some .local)
    (h : ∀ g L' h₁, Fr h₀ L g m → Fr g L' h₁ (fun y => binds.reverse.lookup y) → News g L' h₁ news → Below A base [env] g → K.In g → Top p loose mean mg mb g → KtsDicts ([env].filterMap (·.frame)) g → (∀ q ∈ news, q.1 < L') →
      wpAny (model prog w) (A.deeper (envOf qual scope L' f cdv)) (execs body (envOf qual scope L' f cdv))
        (fun fl s' => LeaveS0 ([env].filterMap (·.frame)) h₀ L m g R (match fl with | .ret v => v | _ => .none) s')
        (fun e s' => wpAny (model prog w) (A.deeper (envOf qual scope L' f cdv)) (leaving (envOf qual scope L' f cdv) e) (fun _ s'' => R (.error e) s'') (fun e' s'' => R (.error e') s'') s')
        { s with heap := h₁, toks := s.toks + binds.length })
    (hco : scope.isCoroutine = false) (hgen : scope.isGenerator = false) (hk : scope.kind = .function)
    (hcell : ∀ x ∈ scope.names, x.2 ≠ .cell) : codeAny (model prog w) A (.call (.ref f) args) R s := by
  have X := X₀.keeps F.keep
  obtain ⟨FG, BG, st, lv⟩ := groundX (R := R) B F N hA hf hke
  have hfs : [env].filterMap (·.frame) = [L] := by simp [hf]
  refine codeAny_call_def (fd := fnOf name qual params body scope dV kV doc pm an cdv ct) (body := body) (binds := binds) hroom (X _ _ ho) rfl (T.nolimit.keeps F.keep) (codeRec_of X hcd) rfl hbind hcell hloc (fun h₁ hns hk₁ => ?_) hco hgen hk
  obtain ⟨oL, es, ep, hLg, hLd, hLk, hLf⟩ := id FG.ns
  refine wpAny_mono (h _ s.heap.objs.size h₁ FG ⟨hns, fun b o e => hk₁ b o (of_hideAll _ e), Nat.le_of_eq (hideAll_size _ _)⟩
    (fun p hp => ⟨hk₁ _ _ (N p hp).1, Nat.ne_of_lt (Heap.lt_size (N p hp).1), hideAll_none _ (List.mem_map_of_mem hp)⟩) BG (X₀.keeps st) (T.keeps st) (fun b hb => by
      rw [hfs] at hb
      rw [List.mem_singleton.mp hb]
      exact ⟨oL, es, ep, hLg, hLd⟩) (fun p hp => Heap.lt_size (N p hp).1)) (fun fl s' hl => ?_) fun _ _ y => y
  obtain ⟨g', L', m', news', T', F', N', k⟩ := hl
  have nL₀ : h₀.get? L = none := kts_self F
  obtain ⟨sl, hs⟩ := T'.up hLg
  refine k ⟨⟨_, es, ep, F'.keep _ _ hs, hLd, hLk, hLf⟩, fun b o e => F'.keep b o (T'.other b o (st b o e) (fun q => by
    rw [hfs] at q
    rw [List.mem_singleton.mp q, nL₀] at e
    cases e)), F.above⟩ fun p hp => ⟨(N' p hp).1, fun q => ?_, ?_⟩
  · have := (N' p hp).2.2; rw [q, hs] at this; cases this
  · cases q : h₀.get? p.1 with
    | none => rfl
    | some o =>
      obtain ⟨sl', hs'⟩ := T'.up (st _ _ q)
      have := (N' p hp).2.2
      rw [hs'] at this
      cases this
end
end M36
end
section
open PySem PySem.W PyProof.Rows
set_option maxRecDepth 100000
set_option maxHeartbeats 2000000
namespace M36
/-! what a turn of the law reckons, plainly -/
def cutN (x : Int) : Nat := (x % 2 ^ 62).toNat
def numN (x : Int) : Nat := cutN x % 2 ^ 30
def hiN (x : Int) : Nat := cutN x / 2 ^ 30
def octN (n : Nat) : List Nat := [24, 18, 12, 6].map (fun p => 64 + n / 2 ^ p % 64) ++ [n % 64]
def oneN (os : List Nat) : Nat := baseN 256 os.reverse
def flagsN (x : Int) : Nat := crcN (oneN (octN (numN x))) ^^^ hiN x
def placesN (f : Nat) : List Nat := (List.range 32).filter f.testBit
def toldN (f : Nat) : List Nat := octs5 (manyN (wordsN f) (placesN f))
theorem cut_eq (x : Int) : x.fmod (2 ^ Int.toNat 62) = ((cutN x : Nat) : Int) := by
  have e : (2 : Int) ^ Int.toNat 62 = 2 ^ 62 := rfl
  rw [e, Int.fmod_eq_emod_of_nonneg _ (by decide)]
  unfold cutN
  have := Int.emod_nonneg x (b := 2 ^ 62) (by decide)
  omega
theorem cut_lt (x : Int) : cutN x < 2 ^ 62 := by
  unfold cutN
  have h1 := Int.emod_nonneg x (b := 2 ^ 62) (by decide)
  have h2 := Int.emod_lt_of_pos x (b := 2 ^ 62) (by decide)
  omega
theorem num_eq (x : Int) : ((cutN x : Nat) : Int).fmod (2 ^ Int.toNat 30) = ((numN x : Nat) : Int) := fmod_nat (cutN x) (2 ^ 30)
theorem hi_eq (x : Int) : ((cutN x : Nat) : Int).fdiv (2 ^ Int.toNat 30) = ((hiN x : Nat) : Int) := fdiv_nat (cutN x) (2 ^ 30)
theorem num_lt (x : Int) : numN x < 2 ^ 30 := Nat.mod_lt _ (by decide)
theorem hi_lt (x : Int) : hiN x < 2 ^ 32 := by
  have := cut_lt x
  unfold hiN
  omega
theorem octN_lt (n : Nat) : ∀ o ∈ octN n, o < 256 := by
  intro o ho
  unfold octN at ho
  simp at ho
  omega
theorem octN_len (n : Nat) : (octN n).length = 5 := rfl
theorem one_lt {os : List Nat} (h : ∀ o ∈ os, o < 256) (hl : os.length = 5) : oneN os < 2 ^ 40 := by
  have := baseN_lt 256 os.reverse (fun o ho => h o (List.mem_reverse.mp ho))
  rw [List.length_reverse, hl] at this
  exact this
end M36
end
section
open PySem PySem.W PyProof.Rows
set_option maxRecDepth 100000
set_option maxHeartbeats 2000000
namespace M36
def wideC : List Str := ["NOFREE", "COROUTINE", "0x4000", "0x8000", "0x800000", "0x40000000"].map Str.ofString
def shortC : List Str := ["COROUTINE", "0x8000", "0x400000", "0x40000000", "0x80000000"].map Str.ofString
def oddN (ws ch : List Str) : Nat := (ws.filter (fun x => ch.any (· == x))).length % 2
def wideN (f : Nat) : Nat := oddN (wordsN f) wideC
def shortN (f : Nat) : Nat := oddN (wordsN f) shortC
def figsN (f : Nat) : List Nat := (toldN f).map (· % 64)
def duesN (f : Nat) : List Nat := if shortN f = 1 then [baseN 64 ((figsN f).take 4), (figsN f)[4]?.getD 0] else [baseN 64 (figsN f)]
def rowN (xs : List Int) : List Nat := (xs.map fun x => toldN (flagsN x)).flatten
def dueN (xs : List Int) : List Nat := (xs.map fun x => duesN (flagsN x)).flatten
theorem rowN_snoc {xs : List Int} {i : Nat} {x : Int} (h : xs[i]? = some x) : rowN (xs.take (i + 1)) = rowN (xs.take i) ++ toldN (flagsN x) := by
  rw [List.take_add_one, h]; simp [rowN]
theorem dueN_snoc {xs : List Int} {i : Nat} {x : Int} (h : xs[i]? = some x) : dueN (xs.take (i + 1)) = dueN (xs.take i) ++ duesN (flagsN x) := by
  rw [List.take_add_one, h]; simp [dueN]

/-- where a turn of the law stands -/
def LawJ (xs : List Int) (ax : Nat) (vs : List Value) (k : Nat) (lN : Nat) (oN : Obj) (wa ca : Nat) (oc : Obj) (I : Nat) (i : Nat) (m : Str → Option Value) (nx : List (Addr × Obj)) : Prop :=
  ∃ (ra : Nat) (rv : List Value) (kr : Nat) (da : Nat) (dv : List Value) (kd : Nat) (ow : Obj) (q : Option Value), nx = [(ax, listOf (List.toArray vs) k), (ra, listOf (List.toArray rv) kr), (da, listOf (List.toArray dv) kd), (lN, oN), (wa, ow), (ca, oc)] ∧
    IntsAre rv (up (rowN (xs.take i))) ∧ IntsAre dv (up (dueN (xs.take i))) ∧ ow.data = .cell q ∧ m (Str.ofString "row") = some (.ref ra) ∧ m (Str.ofString "due") = some (.ref da) ∧
    (wa < ra ∧ wa < da ∧ ra ≠ I ∧ da ≠ I ∧ ca < wa ∧ wa < lN ∧ wa < ax ∧ ax < I ∧ lN < I ∧ ca < ra ∧ ca < da ∧ ca < lN ∧ ca < ax ∧ wa < I ∧ ca < I)

section
variable {prog : Program} {w : World} {A : Around} {E : Value → Shared → Prop} {s : Shared} {env : Env} {h₀ : Heap} {x : Str} {body : List Stmt} {Q : Flow → Shared → Prop}
theorem iter_law {ax ra da lN wa ca : Nat} {oN ow oc : Obj} {p1 p2 : Addr × Obj} {vs : List Value} {xs : List Int} {k : Nat} {q : Option Value} {m₀ : Str → Option Value}
    (hh : A.handled = none) (F : Fr h₀ env.locals s.heap m₀) (N : News h₀ env.locals s.heap [(ax, listOf vs.toArray k), p1, p2, (da, listOf #[] 0), (ra, listOf #[] 0), (lN, oN), (wa, ow), (ca, oc)])
    (hi : IntsAre vs xs) (hw : ow.data = .cell q) (h1 : m₀ (Str.ofString "row") = some (.ref ra)) (h2 : m₀ (Str.ofString "due") = some (.ref da))
    (lt : wa < ra ∧ wa < da ∧ ca < wa ∧ wa < lN ∧ wa < ax ∧ ra < ax ∧ da < ax ∧ lN < ax)
    (turn : ∀ (I : Nat) (i : Nat) (y : Int) (t : Tok) (it : Obj) (ra : Nat) (rv : List Value) (kr : Nat) (da : Nat) (dv : List Value) (kd : Nat) (ow : Obj) (q : Option Value) (m : Str → Option Value) (h : Heap) (tk : Nat), xs[i]? = some y → it.cls = .type "list_iterator" → IntsAre rv (up (rowN (xs.take i))) → IntsAre dv (up (dueN (xs.take i))) → ow.data = .cell q → m (Str.ofString "row") = some (.ref ra) → m (Str.ofString "due") = some (.ref da) →
      (wa < ra ∧ wa < da ∧ ra ≠ I ∧ da ≠ I ∧ ca < wa ∧ wa < lN ∧ wa < ax ∧ ax < I ∧ lN < I ∧ ca < ra ∧ ca < da ∧ ca < lN ∧ ca < ax ∧ wa < I ∧ ca < I) →
      Fr h₀ env.locals h (fun z => if z = x then some (.int y t) else m z) → News h₀ env.locals h [(I, it), (ax, listOf vs.toArray k), (ra, listOf (List.toArray rv) kr), (da, listOf (List.toArray dv) kd), (lN, oN), (wa, ow), (ca, oc)] →
      wpAny (model prog w) A (execs body env) (UnrPost h₀ env.locals { s with heap := h, toks := tk } I it (fun m' n' => (ax, listOf vs.toArray k) ∈ n' ∧ LawJ xs ax vs k lN oN wa ca oc I (i + 1) m' n') Q) E { s with heap := h, toks := tk })
    (done : ∀ (I ra : Nat) (rv : List Value) (kr : Nat) (da : Nat) (dv : List Value) (kd : Nat) (ow : Obj) (q : Option Value) (m : Str → Option Value) (h : Heap) (tk : Nat), IntsAre rv (up (rowN xs)) → IntsAre dv (up (dueN xs)) → ow.data = .cell q → m (Str.ofString "row") = some (.ref ra) → m (Str.ofString "due") = some (.ref da) →
      (wa < ra ∧ wa < da ∧ ra ≠ I ∧ da ≠ I ∧ ca < wa ∧ wa < lN ∧ wa < ax ∧ ax < I ∧ lN < I ∧ ca < ra ∧ ca < da ∧ ca < lN ∧ ca < ax ∧ wa < I ∧ ca < I) →
      Fr h₀ env.locals h m → News h₀ env.locals h [(ax, listOf vs.toArray k), (ra, listOf (List.toArray rv) kr), (da, listOf (List.toArray dv) kd), (lN, oN), (wa, ow), (ca, oc)] → Q .next { s with heap := h, toks := tk }) :
    wpAny (model prog w) A (pyIter (.ref ax)) (fun it s₂ => LoopAtV prog w A h₀ env x body Q E it s₂) E s := by
  have N' : News h₀ env.locals s.heap [(ax, listOf vs.toArray k), (ra, listOf #[] 0), (da, listOf #[] 0), (lN, oN), (wa, ow), (ca, oc)] := cb_drop N fun p hp => by
    simp at hp ⊢
    rcases hp with h | h | h | h | h | h <;> simp [h]
  refine iter_listJ (LawJ xs ax vs k lN oN wa ca oc) hh F N' (.head _) rfl rfl ?_ ?_ ?_
  · intro I hI
    have e1 : @LT.lt Nat _ ax I := hI (ax, listOf vs.toArray k) (by simp)
    have e2 : @LT.lt Nat _ wa I := hI (wa, ow) (by simp)
    exact ⟨ra, [], 0, da, [], 0, ow, q, rfl, .nil, .nil, hw, h1, h2, by omega⟩
  · rintro I i v it m nx h tk hv hit ⟨ra, rv, kr, da, dv, kd, ow, q, rfl, hr, hd, how, hm1, hm2, lts⟩ hmem F5 N5
    obtain ⟨y, t, rfl, hy⟩ := IntsAre.at hi i v hv
    exact turn I i y t it ra rv kr da dv kd ow q m h tk hy hit hr hd how hm1 hm2 lts F5 N5
  · rintro I m nx h tk ⟨ra, rv, kr, da, dv, kd, ow, q, rfl, hr, hd, how, hm1, hm2, lts⟩ F5 N5
    rw [hi.length, List.take_of_length_le (Nat.le_refl _)] at hr hd
    exact done I ra rv kr da dv kd ow q m h tk hr hd how hm1 hm2 lts F5 N5
end
end M36
end
section
open PySem PySem.W PyProof.Rows
set_option maxRecDepth 100000
set_option maxHeartbeats 2000000
namespace M36
theorem step_lt {c k : Nat} (hk : 32 ≤ k) (h : c < 2 ^ (k + 1)) : stepN c < 2 ^ k := by
  have e : c / 2 < 2 ^ k := by rw [Nat.pow_succ] at h; omega
  unfold stepN
  split
  · refine Nat.xor_lt_two_pow e (Nat.lt_of_lt_of_le (by decide) (Nat.pow_le_pow_right (n := 2) (by decide) hk))
  · exact e
theorem crc_lt {c : Nat} (h : c < 2 ^ 40) : crcN c < 2 ^ 32 := by
  show stepN (stepN (stepN (stepN (stepN (stepN (stepN (stepN c))))))) < 2 ^ 32
  exact step_lt (by decide) (step_lt (by decide) (step_lt (by decide) (step_lt (by decide) (step_lt (by decide) (step_lt (by decide) (step_lt (by decide) (step_lt (by decide) h)))))))
theorem flags_lt (y : Int) : flagsN y < 2 ^ 32 := Nat.xor_lt_two_pow (crc_lt (one_lt (octN_lt _) rfl)) (hi_lt y)
/-! exclusive or: maps that are told by their basis -/
def Aff (F : Nat → Nat) : Prop := ∀ a b, F (a ^^^ b) = F a ^^^ F b ^^^ F 0
theorem Aff.self : Aff fun x => x := fun a b => by simp
theorem Aff.const (c : Nat) : Aff fun _ => c := fun a b => by simp
theorem Aff.xor {F G : Nat → Nat} (hF : Aff F) (hG : Aff G) : Aff fun x => F x ^^^ G x := fun a b => by
  show F _ ^^^ G _ = _
  rw [hF a b, hG a b]
  apply Nat.eq_of_testBit_eq
  intro i
  simp only [Nat.testBit_xor]
  generalize (F a).testBit i = p1
  generalize (F b).testBit i = p2
  generalize (F 0).testBit i = p3
  generalize (G a).testBit i = p4
  generalize (G b).testBit i = p5
  generalize (G 0).testBit i = p6
  revert p1 p2 p3 p4 p5 p6
  decide
theorem Aff.comp {F G : Nat → Nat} (hF : Aff F) (hG : Aff G) : Aff fun x => F (G x) := fun a b => by
  show F (G _) = F (G a) ^^^ F (G b) ^^^ F (G 0)
  rw [hG a b, hF, hF]
  apply Nat.eq_of_testBit_eq
  intro i
  simp only [Nat.testBit_xor]
  generalize (F (G a)).testBit i = p1
  generalize (F (G b)).testBit i = p2
  generalize (F (G 0)).testBit i = p3
  generalize (F 0).testBit i = p4
  revert p1 p2 p3 p4
  decide
theorem Aff.and (m : Nat) : Aff fun x => x &&& m := fun a b => by
  show (a ^^^ b) &&& m = (a &&& m) ^^^ (b &&& m) ^^^ (0 &&& m)
  apply Nat.eq_of_testBit_eq
  intro i
  simp only [Nat.testBit_xor, Nat.testBit_and, Nat.zero_testBit]
  generalize a.testBit i = p1
  generalize b.testBit i = p2
  generalize m.testBit i = p3
  revert p1 p2 p3
  decide
theorem Aff.div (k : Nat) : Aff fun x => x / 2 ^ k := fun a b => by
  show (a ^^^ b) / 2 ^ k = a / 2 ^ k ^^^ b / 2 ^ k ^^^ 0 / 2 ^ k
  rw [Nat.xor_div_two_pow]; simp
theorem Aff.mod (k : Nat) : Aff fun x => x % 2 ^ k := fun a b => by
  show (a ^^^ b) % 2 ^ k = a % 2 ^ k ^^^ b % 2 ^ k ^^^ 0 % 2 ^ k
  rw [Nat.xor_mod_two_pow]; simp
theorem Aff.mul (k : Nat) : Aff fun x => x * 2 ^ k := fun a b => by
  show (a ^^^ b) * 2 ^ k = a * 2 ^ k ^^^ b * 2 ^ k ^^^ 0 * 2 ^ k
  apply Nat.eq_of_testBit_eq
  intro i
  simp only [Nat.testBit_xor, Nat.testBit_mul_two_pow, Nat.zero_mul, Nat.zero_testBit]
  cases decide (k ≤ i) <;> simp
theorem Aff.bit (i c : Nat) : Aff fun x => if x.testBit i then c else 0 := fun a b => by
  show (if (a ^^^ b).testBit i then c else 0) = _
  simp only [Nat.testBit_xor, Nat.zero_testBit]
  cases a.testBit i <;> cases b.testBit i <;> simp
theorem Aff.ext {F G : Nat → Nat} (hF : Aff F) (hG : Aff G) (h0 : F 0 = G 0) : ∀ k, (∀ i, i < k → F (2 ^ i) = G (2 ^ i)) → ∀ f, f < 2 ^ k → F f = G f
  | 0, _, f, hf => by
    have : f = 0 := by simpa using hf
    rw [this, h0]
  | k + 1, h, f, hf => by
    have ih := Aff.ext hF hG h0 k fun i hi => h i (by omega)
    by_cases hb : f.testBit k = true
    · have e : f = (f % 2 ^ k) ^^^ 2 ^ k := by
        apply Nat.eq_of_testBit_eq
        intro i
        rw [Nat.testBit_xor, Nat.testBit_mod_two_pow, Nat.testBit_two_pow]
        by_cases h1 : k = i
        · subst h1; simp [hb]
        · by_cases h2 : i < k
          · simp [h1, h2]
          · have : f.testBit i = false := Nat.testBit_lt_two_pow (Nat.lt_of_lt_of_le hf (Nat.pow_le_pow_right (by decide) (by omega)))
            simp [h1, h2, this]
      rw [e, hF, hG, ih _ (Nat.mod_lt _ (Nat.two_pow_pos k)), h k (Nat.lt_succ_self k), h0]
    · refine ih f ?_
      refine Nat.lt_pow_two_of_testBit f fun i hi => ?_
      by_cases h1 : k = i
      · subst h1; simpa using hb
      · exact Nat.testBit_lt_two_pow (Nat.lt_of_lt_of_le hf (Nat.pow_le_pow_right (by decide) (by omega)))
/-- the folding -/
theorem step_aff : Aff stepN := fun a b => by
  have e : ∀ n, stepN n = n / 2 ^ 1 ^^^ (if n.testBit 0 then 3988292384 else 0) := fun n => by
    unfold stepN
    rw [Nat.testBit_zero, Nat.pow_one]
    by_cases h : n % 2 = 1 <;> simp [h]
  rw [e, e, e, e]
  exact Aff.xor (Aff.div 1) (Aff.bit 0 3988292384) a b
theorem it_aff : ∀ i, Aff fun n => itN n i
  | 0 => Aff.self
  | i + 1 => step_aff.comp (it_aff i)
theorem crc_aff : Aff crcN := it_aff 8
/-- the product over two elements -/
theorem mul_split (fac many : Nat) : ∀ i, mulN fac many i = many ^^^ mulN fac 0 i
  | 0 => by simp [mulN]
  | i + 1 => by
    unfold mulN
    rw [mul_split fac many i]
    split
    · rw [Nat.xor_assoc]
    · rfl
theorem mul_aff : ∀ i, Aff fun fac => mulN fac 0 i
  | 0 => Aff.const 0
  | i + 1 => by
    have e : (fun fac => mulN fac 0 (i + 1)) = fun fac => mulN fac 0 i ^^^ (if fac.testBit i then 7976584769 * 2 ^ i else 0) := by
      funext fac
      show (if fac / 2 ^ i % 2 = 1 then _ else _) = _
      rw [Nat.testBit_eq_decide_div_mod_eq]
      by_cases h : fac / 2 ^ i % 2 = 1 <;> simp [h]
    rw [e]
    exact Aff.xor (mul_aff i) (Aff.bit i _)
/-- the factor of the flags -/
def chB (i : Nat) : Nat := if i = 6 then 16 else if i = 7 then 48 else if i = 14 then 12 else if i = 15 then 8 else if i = 30 then 113 else if i = 31 then 255 else 0
def facB (f : Nat) : Nat → Nat
  | 0 => 17
  | i + 1 => facB f i ^^^ (if f.testBit i then chB i else 0)
theorem fac_aff : ∀ i, Aff fun f => facB f i
  | 0 => Aff.const 17
  | i + 1 => Aff.xor (fac_aff i) (Aff.bit i _)
theorem chg_all : ∀ p : Fin 32, chgN (nm p.val) = chB p.val := by decide +kernel
theorem fac_wd (f : Nat) : ∀ i, i ≤ 32 → facN (wdN f i) = facB f i
  | 0, _ => rfl
  | i + 1, h => by
    have ih := fac_wd f i (by omega)
    have e := chg_all ⟨i, by omega⟩
    dsimp only at e
    rw [wdN_succ]
    unfold facN at ih ⊢
    rw [List.foldl_append, ih]
    show _ = facB f i ^^^ _
    cases hb : f.testBit i
    · simp
    · simp [e]
theorem fac_words (f : Nat) : facN (wordsN f) = facB f 32 := by
  unfold wordsN
  split
  · rename_i h
    rw [h]; decide +kernel
  · exact fac_wd f 32 (Nat.le_refl _)
theorem placed_le (f : Nat) : ∀ i, placedN ((List.range i).filter f.testBit) = 256 * (f % 2 ^ i)
  | 0 => by simp [placedN, Nat.mod_one]
  | i + 1 => by
    have ih := placed_le f i
    rw [List.range_succ, List.filter_append]
    unfold placedN at ih ⊢
    rw [List.foldl_append, ih, Nat.pow_succ, Nat.mod_mul]
    have hd := Nat.testBit_eq_decide_div_mod_eq (x := f) (i := i)
    by_cases h : f / 2 ^ i % 2 = 1
    · rw [decide_eq_true h] at hd
      simp [hd, h, Nat.mul_add]
    · rw [decide_eq_false h] at hd
      have h0 : f / 2 ^ i % 2 = 0 := by omega
      simp [hd, h0]
def manyB (f : Nat) : Nat := f * 2 ^ 8 ^^^ mulN (facB f 32) 0 8
theorem many_words {f : Nat} (h : f < 2 ^ 32) : manyN (wordsN f) (placesN f) = manyB f := by
  unfold manyN manyB placesN
  rw [mul_split, fac_words, placed_le, Nat.mod_eq_of_lt h, Nat.mul_comm 256 f]
theorem many_aff : Aff manyB := Aff.xor (Aff.mul 8) ((mul_aff 8).comp (fac_aff 32))
theorem mul_lt (fac : Nat) : ∀ i, i ≤ 8 → mulN fac 0 i < 2 ^ 40
  | 0, _ => by show 0 < 2 ^ 40; decide
  | i + 1, h => by
    have ih := mul_lt fac i (by omega)
    unfold mulN
    split
    · refine Nat.xor_lt_two_pow ih ?_
      have : 2 ^ i ≤ 2 ^ 7 := Nat.pow_le_pow_right (by decide) (by omega)
      omega
    · exact ih
theorem many_lt {f : Nat} (h : f < 2 ^ 32) : manyB f < 2 ^ 40 := Nat.xor_lt_two_pow (by omega) (mul_lt _ 8 (Nat.le_refl _))
/-! five octets as one number -/
theorem one_octs {M : Nat} (h : M < 2 ^ 40) : oneN (octs5 M) = M := by
  unfold oneN octs5
  simp only [List.map_cons, List.map_nil, List.reverse_cons, List.reverse_nil, List.nil_append, List.cons_append, baseN, List.foldl_cons, List.foldl_nil]
  omega
theorem octs_one {a b c d e : Nat} (ha : a < 256) (hb : b < 256) (hc : c < 256) (hd : d < 256) (he : e < 256) : octs5 (oneN [a, b, c, d, e]) = [a, b, c, d, e] := by
  unfold oneN octs5
  simp only [List.map_cons, List.map_nil, List.reverse_cons, List.reverse_nil, List.nil_append, List.cons_append, baseN, List.foldl_cons, List.foldl_nil, List.cons.injEq, and_true]
  and_intros <;> omega
theorem told_many {f : Nat} (h : f < 2 ^ 32) : toldN f = octs5 (manyB f) := by
  unfold toldN; rw [many_words h]
theorem one_told {f : Nat} (h : f < 2 ^ 32) : oneN (toldN f) = manyB f := by
  rw [told_many h, one_octs (many_lt h)]
theorem crc_many {f : Nat} (h : f < 2 ^ 32) : crcN (manyB f) = f :=
  Aff.ext (F := fun f => crcN (manyB f)) (crc_aff.comp many_aff) Aff.self (by decide +kernel) 32 (fun i hi => (show ∀ p : Fin 32, crcN (manyB (2 ^ p.val)) = 2 ^ p.val by decide +kernel) ⟨i, hi⟩) f h
theorem told_crc {f : Nat} (h : f < 2 ^ 32) : crcN (oneN (toldN f)) = f := by
  rw [one_told h, crc_many h]
/-! the number's own octets -/
def ownB (n : Nat) : Nat := ((((64 ^^^ n / 2 ^ 24 % 2 ^ 6) ^^^ (64 ^^^ n / 2 ^ 18 % 2 ^ 6) * 2 ^ 8) ^^^ (64 ^^^ n / 2 ^ 12 % 2 ^ 6) * 2 ^ 16) ^^^ (64 ^^^ n / 2 ^ 6 % 2 ^ 6) * 2 ^ 24) ^^^ (n % 2 ^ 6) * 2 ^ 32
theorem fig_aff (p : Nat) : Aff fun n => 64 ^^^ n / 2 ^ p % 2 ^ 6 := Aff.xor (Aff.const 64) ((Aff.mod 6).comp (Aff.div p))
theorem own_aff : Aff ownB :=
  Aff.xor (Aff.xor (Aff.xor (Aff.xor (fig_aff 24) ((Aff.mul 8).comp (fig_aff 18))) ((Aff.mul 16).comp (fig_aff 12))) ((Aff.mul 24).comp (fig_aff 6))) ((Aff.mul 32).comp (Aff.mod 6))
theorem xor_low {a b k : Nat} (h : a < 2 ^ k) : a ^^^ b * 2 ^ k = a + b * 2 ^ k := by
  have h1 := add_eq_xor a (b * 2 ^ k)
  have h2 : a &&& b * 2 ^ k = 0 := by
    apply Nat.eq_of_testBit_eq
    intro i
    rw [Nat.testBit_and, Nat.testBit_mul_two_pow, Nat.zero_testBit]
    by_cases hi : k ≤ i
    · rw [Nat.testBit_lt_two_pow (Nat.lt_of_lt_of_le h (Nat.pow_le_pow_right (by decide) hi))]; rfl
    · simp [hi]
  omega
theorem fig_eq (x : Nat) : 64 ^^^ x % 2 ^ 6 = 64 + x % 64 := by
  have h : x % 2 ^ 6 < 2 ^ 6 := Nat.mod_lt _ (by decide)
  have e : x % 2 ^ 6 ^^^ 64 = x % 2 ^ 6 + 64 := xor_low (a := x % 2 ^ 6) (b := 1) (k := 6) h
  rw [Nat.xor_comm, e]
  omega
theorem own_eq (n : Nat) : oneN (octN n) = ownB n := by
  unfold ownB
  rw [fig_eq, fig_eq, fig_eq, fig_eq]
  have l1 : 64 + n / 2 ^ 24 % 64 < 2 ^ 8 := by omega
  rw [xor_low l1]
  have l2 : 64 + n / 2 ^ 24 % 64 + (64 + n / 2 ^ 18 % 64) * 2 ^ 8 < 2 ^ 16 := by omega
  rw [xor_low l2]
  have l3 : 64 + n / 2 ^ 24 % 64 + (64 + n / 2 ^ 18 % 64) * 2 ^ 8 + (64 + n / 2 ^ 12 % 64) * 2 ^ 16 < 2 ^ 24 := by omega
  rw [xor_low l3]
  have l4 : 64 + n / 2 ^ 24 % 64 + (64 + n / 2 ^ 18 % 64) * 2 ^ 8 + (64 + n / 2 ^ 12 % 64) * 2 ^ 16 + (64 + n / 2 ^ 6 % 64) * 2 ^ 24 < 2 ^ 32 := by omega
  rw [xor_low l4]
  unfold octN oneN
  simp only [List.map_cons, List.map_nil, List.reverse_cons, List.reverse_nil, List.nil_append, List.cons_append, baseN, List.foldl_cons, List.foldl_nil]
  omega
theorem own_back {n : Nat} (h : n < 2 ^ 30) : manyB (crcN (ownB n)) = ownB n :=
  Aff.ext (F := fun n => manyB (crcN (ownB n))) (many_aff.comp (crc_aff.comp own_aff)) own_aff (by decide +kernel) 30 (fun i hi => (show ∀ p : Fin 30, manyB (crcN (ownB (2 ^ p.val))) = ownB (2 ^ p.val) by decide +kernel) ⟨i, hi⟩) n h
theorem oct_octs (n : Nat) : octN n = octs5 (oneN (octN n)) := by
  unfold octN
  simp only [List.map_cons, List.map_nil, List.cons_append, List.nil_append]
  rw [octs_one] <;> omega
theorem told_same (y : Int) : toldN (flagsN y) = octN (numN y) ↔ hiN y = 0 := by
  have hf := flags_lt y
  constructor
  · intro h
    have h1 := told_crc hf
    rw [h] at h1
    unfold flagsN at h1
    have h2 : crcN (oneN (octN (numN y))) ^^^ crcN (oneN (octN (numN y))) = crcN (oneN (octN (numN y))) ^^^ (crcN (oneN (octN (numN y))) ^^^ hiN y) := congrArg _ h1
    rw [Nat.xor_self, ← Nat.xor_assoc, Nat.xor_self, Nat.zero_xor] at h2
    exact h2.symm
  · intro h
    have e : flagsN y = crcN (ownB (numN y)) := by
      unfold flagsN; rw [h, Nat.xor_zero, own_eq]
    rw [told_many hf, e, own_back (num_lt y), ← own_eq, ← oct_octs]
end M36
end
section
open PySem PySem.W PyProof.Rows
set_option maxRecDepth 100000
set_option maxHeartbeats 2000000
namespace M36
theorem land_split (a m : Nat) : a &&& m = 256 * (a / 256 &&& m / 256) + (a % 256 &&& m % 256) := by
  have h1 := Nat.and_div_two_pow (a := a) (b := m) (n := 8)
  have h2 := Nat.and_mod_two_pow (a := a) (b := m) (n := 8)
  have e : (2 : Nat) ^ 8 = 256 := by decide
  rw [e] at h1 h2
  rw [← h1, ← h2]
  exact (Nat.div_add_mod _ _).symm
theorem land127 (x : Nat) : x % 256 &&& 127 = x % 128 := by
  have h := Nat.and_two_pow_sub_one_eq_mod (x % 256) 7
  have e : (2 : Nat) ^ 7 - 1 = 127 := by decide
  have e' : (2 : Nat) ^ 7 = 128 := by decide
  rw [e, e'] at h
  rw [h]; omega
theorem one_plain {M : Nat} (h : M < 2 ^ 40) : oneN ((octs5 M).map (· % 128)) = M &&& 547599908735 := by
  have e1 : M &&& 547599908735 = 256 * (M / 256 &&& 2139062143) + (M % 256 &&& 127) := land_split M 547599908735
  have e2 : M / 256 &&& 2139062143 = 256 * (M / 256 / 256 &&& 8355711) + (M / 256 % 256 &&& 127) := land_split (M / 256) 2139062143
  have e3 : M / 256 / 256 &&& 8355711 = 256 * (M / 256 / 256 / 256 &&& 32639) + (M / 256 / 256 % 256 &&& 127) := land_split (M / 256 / 256) 8355711
  have e4 : M / 256 / 256 / 256 &&& 32639 = 256 * (M / 256 / 256 / 256 / 256 &&& 127) + (M / 256 / 256 / 256 % 256 &&& 127) := land_split (M / 256 / 256 / 256) 32639
  have e5 : M / 256 / 256 / 256 / 256 &&& 127 = M / 256 / 256 / 256 / 256 % 128 := by
    rw [← land127]
    congr 1
    omega
  rw [e1, e2, e3, e4, e5, land127, land127, land127, land127]
  unfold oneN octs5
  simp only [List.map_cons, List.map_nil, List.reverse_cons, List.reverse_nil, List.nil_append, List.cons_append, baseN, List.foldl_cons, List.foldl_nil]
  omega
/-- odd or even: how many chosen places are there -/
def parB (p : Nat → Bool) (f : Nat) : Nat → Nat
  | 0 => 0
  | i + 1 => parB p f i ^^^ (if f.testBit i then (if p i then 1 else 0) else 0)
theorem par_aff (p : Nat → Bool) : ∀ i, Aff fun f => parB p f i
  | 0 => Aff.const 0
  | i + 1 => Aff.xor (par_aff p i) (Aff.bit i _)
theorem par_le (p : Nat → Bool) (f : Nat) : ∀ i, parB p f i < 2
  | 0 => by show 0 < 2; decide
  | i + 1 => by
    have := par_le p f i
    refine Nat.xor_lt_two_pow (n := 1) this ?_
    split
    · split <;> decide
    · decide
theorem par_zero (p : Nat → Bool) : ∀ i, parB p 0 i = 0
  | 0 => rfl
  | i + 1 => by
    unfold parB
    rw [par_zero p i]; simp
theorem odd_wd {ch : List Str} {p : Nat → Bool} (hp : ∀ i : Fin 32, (ch.any fun x => x == nm i.val) = p i.val) (f : Nat) : ∀ i, i ≤ 32 → ((wdN f i).filter (fun x => ch.any (· == x))).length % 2 = parB p f i
  | 0, _ => rfl
  | i + 1, h => by
    have ih := odd_wd hp f i (by omega)
    have e := hp ⟨i, by omega⟩
    dsimp only at e
    have hl := par_le p f i
    rw [wdN_succ, List.filter_append, List.length_append]
    unfold parB
    cases hb : f.testBit i with
    | false => simp [ih]
    | true =>
      simp only [if_true]
      cases hq : p i with
      | false =>
        rw [hq] at e
        simp [e, ih]
      | true =>
        rw [hq] at e
        have e2 : List.filter (fun x => ch.any (· == x)) [nm i] = [nm i] := by simp [e]
        rw [e2, List.length_singleton]
        rcases (show parB p f i = 0 ∨ parB p f i = 1 by omega) with h0 | h0 <;> rw [h0] at ih ⊢
        · have : (List.filter (fun x => ch.any (· == x)) (wdN f i)).length % 2 = 0 := ih
          simp; omega
        · have : (List.filter (fun x => ch.any (· == x)) (wdN f i)).length % 2 = 1 := ih
          simp; omega
def wideP (i : Nat) : Bool := i == 6 || i == 7 || i == 14 || i == 15 || i == 23 || i == 30
def shortP (i : Nat) : Bool := i == 7 || i == 15 || i == 22 || i == 30 || i == 31
theorem wide_all : ∀ i : Fin 32, (wideC.any fun x => x == nm i.val) = wideP i.val := by decide +kernel
theorem short_all : ∀ i : Fin 32, (shortC.any fun x => x == nm i.val) = shortP i.val := by decide +kernel
theorem wide_par (f : Nat) : wideN f = parB wideP f 32 := by
  unfold wideN oddN wordsN
  split
  · rename_i h
    rw [h, par_zero]; decide +kernel
  · exact odd_wd wide_all f 32 (Nat.le_refl _)
theorem short_par (f : Nat) : shortN f = parB shortP f 32 := by
  unfold shortN oddN wordsN
  split
  · rename_i h
    rw [h, par_zero]; decide +kernel
  · exact odd_wd short_all f 32 (Nat.le_refl _)
theorem crc_masked {f : Nat} (h : f < 2 ^ 32) : crcN (manyB f &&& 547599908735) = f ^^^ parB wideP f 32 * 2 ^ 23 :=
  Aff.ext (F := fun f => crcN (manyB f &&& 547599908735)) (G := fun f => f ^^^ parB wideP f 32 * 2 ^ 23) (crc_aff.comp ((Aff.and _).comp many_aff)) (Aff.xor Aff.self ((Aff.mul 23).comp (par_aff wideP 32))) (by decide +kernel) 32
    (fun i hi => (show ∀ p : Fin 32, crcN (manyB (2 ^ p.val) &&& 547599908735) = 2 ^ p.val ^^^ parB wideP (2 ^ p.val) 32 * 2 ^ 23 by decide +kernel) ⟨i, hi⟩) f h
def plainN (f : Nat) : List Nat := (toldN f).map (· % 128)
theorem plain_crc {f : Nat} (h : f < 2 ^ 32) : crcN (oneN (plainN f)) = f ^^^ wideN f * 2 ^ 23 := by
  unfold plainN
  rw [told_many h, one_plain (many_lt h), crc_masked h, wide_par]
/-! the sixth bit of each octet -/
theorem bit_aff (k : Nat) : Aff fun f => manyB f / 2 ^ k % 2 ^ 1 := (Aff.mod 1).comp ((Aff.div k).comp many_aff)
theorem bit_on {f : Nat} (h : f < 2 ^ 32) : ∀ j : Fin 3, manyB f / 2 ^ (8 * j.val + 6) % 2 ^ 1 = 1 := fun j =>
  Aff.ext (bit_aff (8 * j.val + 6)) (Aff.const 1) ((show ∀ j : Fin 3, manyB 0 / 2 ^ (8 * j.val + 6) % 2 ^ 1 = 1 by decide +kernel) j) 32
    (fun i hi => (show ∀ j : Fin 3, ∀ p : Fin 32, manyB (2 ^ p.val) / 2 ^ (8 * j.val + 6) % 2 ^ 1 = 1 by decide +kernel) j ⟨i, hi⟩) f h
theorem bit_three {f : Nat} (h : f < 2 ^ 32) : manyB f / 2 ^ 30 % 2 ^ 1 = 1 ^^^ parB shortP f 32 :=
  Aff.ext (bit_aff 30) (Aff.xor (Aff.const 1) (par_aff shortP 32)) (by decide +kernel) 32
    (fun i hi => (show ∀ p : Fin 32, manyB (2 ^ p.val) / 2 ^ 30 % 2 ^ 1 = 1 ^^^ parB shortP (2 ^ p.val) 32 by decide +kernel) ⟨i, hi⟩) f h
theorem bit_four {f : Nat} (h : f < 2 ^ 32) : manyB f / 2 ^ 38 % 2 ^ 1 = 0 :=
  Aff.ext (bit_aff 38) (Aff.const 0) (by decide +kernel) 32
    (fun i hi => (show ∀ p : Fin 32, manyB (2 ^ p.val) / 2 ^ 38 % 2 ^ 1 = 0 by decide +kernel) ⟨i, hi⟩) f h
theorem and64_bit (x : Nat) : x &&& 64 ≠ 0 ↔ x.testBit 6 = true := by
  have e : (2 : Nat) ^ 6 = 64 := by decide
  rw [← e]
  constructor
  · intro h
    by_cases hb : x.testBit 6 = true
    · exact hb
    · refine absurd ?_ h
      apply Nat.eq_of_testBit_eq
      intro i
      rw [Nat.testBit_and, Nat.testBit_two_pow, Nat.zero_testBit]
      by_cases hi : 6 = i
      · subst hi; simpa using hb
      · simp [hi]
  · intro hb h0
    have h1 : (x &&& 2 ^ 6).testBit 6 = true := by rw [Nat.testBit_and, Nat.testBit_two_pow, hb]; rfl
    rw [h0] at h1
    simp at h1
theorem and64_iff (M p : Nat) : (M / 2 ^ p % 256 &&& 64 ≠ 0) ↔ M / 2 ^ (p + 6) % 2 ^ 1 = 1 := by
  have e : (2 : Nat) ^ 6 = 64 := by decide
  rw [and64_bit, Nat.testBit_eq_decide_div_mod_eq, Nat.pow_add, ← Nat.div_div_eq_div_mul, e]
  have e2 : M / 2 ^ p % 256 / 64 % 2 = M / 2 ^ p / 64 % 2 ^ 1 := by omega
  rw [e2, decide_eq_true_iff]
def chunksN (f : Nat) : List (List Nat) := if shortN f = 1 then [(toldN f).take 4, (toldN f).drop 4] else [toldN f]
theorem chunks_flat (f : Nat) : (chunksN f).flatten = toldN f := by
  unfold chunksN
  split
  · simp
  · simp
theorem told_len (f : Nat) : (toldN f).length = 5 := rfl
theorem chunks_val (f : Nat) : (chunksN f).map chunkVal = duesN f := by
  unfold chunksN duesN figsN chunkVal
  split
  · rw [List.map_cons, List.map_cons, List.map_nil]
    obtain ⟨a, b, c, d, e, h⟩ : ∃ a b c d e, toldN f = [a, b, c, d, e] := ⟨_, _, _, _, _, rfl⟩
    rw [h]
    simp [baseN]
  · rfl
theorem chunks_ok {f : Nat} (h : f < 2 ^ 32) : ∀ c ∈ chunksN f, Chunk c ∧ c.length ≤ 5 := by
  have hs := par_le shortP f 32
  have b0 : _ ↔ True := (and64_iff (manyB f) 0).trans (iff_true_intro (bit_on h 0))
  have b1 : _ ↔ True := (and64_iff (manyB f) 8).trans (iff_true_intro (bit_on h 1))
  have b2 : _ ↔ True := (and64_iff (manyB f) 16).trans (iff_true_intro (bit_on h 2))
  have b3 : _ ↔ 1 ^^^ parB shortP f 32 = 1 := (and64_iff (manyB f) 24).trans (by rw [bit_three h])
  have b4 : _ ↔ False := (and64_iff (manyB f) 32).trans (by rw [bit_four h]; exact iff_false_intro (by decide))
  have ht : toldN f = [manyB f / 2 ^ 0 % 256, manyB f / 2 ^ 8 % 256, manyB f / 2 ^ 16 % 256, manyB f / 2 ^ 24 % 256, manyB f / 2 ^ 32 % 256] := told_many h
  generalize manyB f / 2 ^ 0 % 256 = x0 at *
  generalize manyB f / 2 ^ 8 % 256 = x1 at *
  generalize manyB f / 2 ^ 16 % 256 = x2 at *
  generalize manyB f / 2 ^ 24 % 256 = x3 at *
  generalize manyB f / 2 ^ 32 % 256 = x4 at *
  intro c hc
  unfold chunksN at hc
  rw [short_par, ht] at hc
  split at hc
  · rename_i h1
    rw [h1] at b3
    rcases List.mem_cons.mp hc with rfl | hc
    · refine ⟨⟨by simp, fun j x hx => ?_⟩, by simp⟩
      match j, hx with
      | 0, hx => cases hx; simp at b0 ⊢; exact b0
      | 1, hx => cases hx; simp at b1 ⊢; exact b1
      | 2, hx => cases hx; simp at b2 ⊢; exact b2
      | 3, hx => cases hx; simp at b3 ⊢; exact b3
      | j + 4, hx => simp at hx
    · rw [List.mem_singleton.mp hc]
      refine ⟨⟨by simp, fun j x hx => ?_⟩, by simp⟩
      match j, hx with
      | 0, hx => cases hx; simp at b4 ⊢; exact b4
      | j + 1, hx => simp at hx
  · rename_i h1
    have h0 : parB shortP f 32 = 0 := by omega
    rw [h0] at b3
    rw [List.mem_singleton.mp hc]
    refine ⟨⟨by simp, fun j x hx => ?_⟩, by simp⟩
    match j, hx with
    | 0, hx => cases hx; simp at b0 ⊢; exact b0
    | 1, hx => cases hx; simp at b1 ⊢; exact b1
    | 2, hx => cases hx; simp at b2 ⊢; exact b2
    | 3, hx => cases hx; simp at b3 ⊢; exact b3
    | 4, hx => cases hx; simp at b4 ⊢; exact b4
    | j + 5, hx => simp at hx
def chunksAll (xs : List Int) : List (List Nat) := (xs.map fun x => chunksN (flagsN x)).flatten
theorem all_flat : ∀ xs : List Int, (chunksAll xs).flatten = rowN xs
  | [] => rfl
  | x :: r => by
    have ih := all_flat r
    unfold chunksAll rowN at ih ⊢
    rw [List.map_cons, List.flatten_cons, List.flatten_append, chunks_flat, ih, List.map_cons, List.flatten_cons]
theorem all_val : ∀ xs : List Int, (chunksAll xs).map chunkVal = dueN xs
  | [] => rfl
  | x :: r => by
    have ih := all_val r
    unfold chunksAll dueN at ih ⊢
    rw [List.map_cons, List.flatten_cons, List.map_append, chunks_val, ih, List.map_cons, List.flatten_cons]
theorem all_ok (xs : List Int) : ∀ c ∈ chunksAll xs, Chunk c ∧ c.length ≤ 5 := by
  intro c hc
  obtain ⟨l, hl, hm⟩ := List.mem_flatten.mp hc
  obtain ⟨x, _, rfl⟩ := List.mem_map.mp hl
  exact chunks_ok (flags_lt x) c hm
theorem all_len : ∀ xs : List Int, (chunksAll xs).length ≤ 2 * xs.length
  | [] => by simp [chunksAll]
  | x :: r => by
    have ih := all_len r
    unfold chunksAll at ih ⊢
    rw [List.map_cons, List.flatten_cons, List.length_append, List.length_cons]
    have : (chunksN (flagsN x)).length ≤ 2 := by unfold chunksN; split <;> simp
    omega
end M36
end
section
open PySem PySem.W PyProof.Rows PySem.Builtin PySem.Builtin.Str
set_option maxRecDepth 100000
set_option maxHeartbeats 2000000
namespace M36
def sepS : Str := Str.ofString ", "
theorem sep_list : sepS.cps.toList = [44, 32] := by decide +kernel
theorem sep_two : sepS.length = 2 := by decide +kernel
theorem at_iff (x : Str) (i : Nat) : StrLaws.At x sepS x.length i ↔ x.cps.toList[i]? = some 44 ∧ x.cps.toList[i + 1]? = some 32 := by
  have hn : x.cps.toList.length = x.length := by simp [Str.length]
  unfold StrLaws.At
  rw [StrLaws.subAt_eq, sep_list, sep_two, ← hn]
  generalize x.cps.toList = l
  have e0 : l[i]? = (l.drop i)[0]? := by rw [List.getElem?_drop]; rfl
  have e1 : l[i + 1]? = (l.drop i)[1]? := by rw [List.getElem?_drop]
  have el : (l.drop i).length = l.length - i := List.length_drop
  rw [e0, e1]
  generalize l.drop i = d at *
  match d, el with
  | [], el => simp
  | [a], el =>
    simp at el ⊢
  | a :: b :: r, el =>
    simp at el ⊢
    intro _ _
    omega
theorem parts_words (x : Str) : ∀ (ws : List Str) (a : Nat) (cuts : List Nat) (f : Nat), ws ≠ [] → (∀ w ∈ ws, (44 : Nat) ∉ w.cps.toList) → a ≤ x.length → x.cps.toList.drop a = (Str.join sepS ws).cps.toList →
    StrLaws.ChainG x sepS x.length a cuts f → (∀ k, f ≤ k → ¬ StrLaws.At x sepS x.length k) → StrLaws.partsFrom x sepS.length a cuts = ws
  | [], _, _, _, h, _, _, _, _, _ => absurd rfl h
  | [w], a, cuts, f, _, hw, ha, hd, hc, hf => by
    have hd : x.cps.toList.drop a = w.cps.toList := hd
    have hn : x.cps.toList.length = x.length := by simp [Str.length]
    have no : ∀ k, a ≤ k → ¬ StrLaws.At x sepS x.length k := by
      intro k hk hA
      have h1 := ((at_iff x k).mp hA).1
      have h2 : (x.cps.toList.drop a)[k - a]? = some 44 := by
        rw [List.getElem?_drop, show a + (k - a) = k by omega]; exact h1
      rw [hd] at h2
      exact hw w (.head _) (List.mem_of_getElem? h2)
    cases cuts with
    | cons c r => exact absurd hc.2.1 (no c hc.1)
    | nil =>
      show [strSub x a x.length] = [w]
      congr 1
      apply Str.ext'
      apply Array.toList_inj.mp
      rw [StrLaws.strSub_toList, hd]
      refine List.take_of_length_le ?_
      rw [← hd, List.length_drop]; omega
  | w :: w2 :: r, a, cuts, f, _, hw, ha, hd, hc, hf => by
    have hn : x.cps.toList.length = x.length := by simp [Str.length]
    have hd : x.cps.toList.drop a = w.cps.toList ++ ([44, 32] ++ (Str.join sepS (w2 :: r)).cps.toList) := by
      rw [hd]
      show (w ++ sepS ++ Str.join sepS (w2 :: r)).cps.toList = _
      rw [Str.cps_append, Str.cps_append, Array.toList_append, Array.toList_append, sep_list, List.append_assoc]
    generalize hW : w.cps.toList = W at hd
    have hlen : x.length - a = W.length + (2 + (Str.join sepS (w2 :: r)).cps.toList.length) := by
      have := congrArg List.length hd
      rw [List.length_drop, List.length_append, List.length_append] at this
      simpa [hn] using this
    have yes : StrLaws.At x sepS x.length (a + W.length) := by
      rw [at_iff]
      have e0 : x.cps.toList[a + W.length]? = (x.cps.toList.drop a)[W.length]? := by rw [List.getElem?_drop]
      have e1 : x.cps.toList[a + W.length + 1]? = (x.cps.toList.drop a)[W.length + 1]? := by rw [List.getElem?_drop]; rfl
      rw [e0, e1, hd]
      simp
    have no : ∀ k, a ≤ k → k < a + W.length → ¬ StrLaws.At x sepS x.length k := by
      intro k hk hk2 hA
      have h1 := ((at_iff x k).mp hA).1
      have h2 : (x.cps.toList.drop a)[k - a]? = some 44 := by
        rw [List.getElem?_drop, show a + (k - a) = k by omega]; exact h1
      rw [hd, List.getElem?_append_left (by omega)] at h2
      exact hw w (.head _) (hW ▸ List.mem_of_getElem? h2)
    cases cuts with
    | nil =>
      have e : f = a := hc
      exact absurd yes (hf _ (by omega))
    | cons c r' =>
      obtain ⟨h1, h2, h3, h4⟩ := hc
      have hc1 : ¬ c < a + W.length := fun q => no c h1 q h2
      have hc2 : ¬ a + W.length < c := fun q => h3 _ (by omega) q yes
      have hce : c = a + W.length := by omega
      subst hce
      show strSub x a (a + W.length) :: StrLaws.partsFrom x sepS.length (a + W.length + sepS.length) r' = _
      congr 1
      · apply Str.ext'
        apply Array.toList_inj.mp
        rw [StrLaws.strSub_toList, hd, hW, show a + W.length - a = W.length by omega]
        simp
      · refine parts_words x (w2 :: r) _ r' f (fun q => nomatch q) (fun v hv => hw v (.tail _ hv)) ?_ ?_ h4 hf
        · rw [sep_two]; omega
        · rw [sep_two, Nat.add_assoc, ← List.drop_drop, hd, ← List.drop_drop, List.drop_left]
          rfl
theorem split_join (ws : List Str) (h0 : ws ≠ []) (hw : ∀ w ∈ ws, (44 : Nat) ∉ w.cps.toList) : Txt.split (Str.join sepS ws) sepS = ws := by
  obtain ⟨f, hG, hn⟩ := StrLaws.occ_tight (Str.join sepS ws) sepS (by rw [sep_two]; decide)
  have main := parts_words (Str.join sepS ws) ws 0 _ f h0 hw (Nat.zero_le _) rfl hG hn
  have hk : strKind sepS = 1 := by decide +kernel
  unfold Txt.split
  split
  · rename_i hc
    rw [Bool.or_eq_true, decide_eq_true_eq, decide_eq_true_eq, hk, sep_two] at hc
    have hp := strKind_pos (Str.join sepS ws)
    have hlt : (Str.join sepS ws).length < 2 := by omega
    match ws, h0 with
    | [w], _ => rfl
    | w :: w2 :: r, _ =>
      have : (Str.join sepS (w :: w2 :: r)).length = w.length + 2 + (Str.join sepS (w2 :: r)).length := by
        show (w ++ sepS ++ Str.join sepS (w2 :: r)).length = _
        rw [Str.length_append, Str.length_append, sep_two]
      omega
  · split
    · rename_i he
      have e0 := List.isEmpty_iff.mp he
      rw [e0] at main
      have : StrLaws.partsFrom (Str.join sepS ws) sepS.length 0 [] = [strSub (Str.join sepS ws) 0 (Str.join sepS ws).length] := rfl
      rw [this, StrLaws.sub_whole] at main
      exact main
    · rw [StrLaws.partsBetween_eq]
      exact main
theorem nm_free : ∀ i : Fin 32, (44 : Nat) ∉ (nm i.val).cps.toList := by decide +kernel
theorem nm_long : ∀ i : Fin 32, 0 < (nm i.val).length := by decide +kernel
theorem wd_mem {f k : Nat} {w : Str} (h : w ∈ wdN f k) : ∃ i, i < k ∧ f.testBit i = true ∧ w = nm i := by
  unfold wdN at h
  obtain ⟨i, hi, he⟩ := List.mem_filterMap.mp h
  cases hb : f.testBit i with
  | false => rw [hb] at he; simp at he
  | true =>
    rw [hb] at he
    exact ⟨i, List.mem_range.mp hi, hb, by simpa using he.symm⟩
theorem wd_ne {f : Nat} (hf : f < 2 ^ 32) (h : f ≠ 0) : wdN f 32 ≠ [] := by
  obtain ⟨i, hi⟩ := Nat.exists_testBit_of_ne_zero h
  have hlt : i < 32 := by
    by_cases q : i < 32
    · exact q
    · rw [Nat.testBit_lt_two_pow (Nat.lt_of_lt_of_le hf (Nat.pow_le_pow_right (by decide) (by omega)))] at hi
      cases hi
  have hm : nm i ∈ wdN f 32 := by
    unfold wdN
    exact List.mem_filterMap.mpr ⟨i, List.mem_range.mpr hlt, by rw [hi]; rfl⟩
  intro e
  rw [e] at hm
  cases hm
theorem words_free {f : Nat} : ∀ w ∈ wordsN f, (44 : Nat) ∉ w.cps.toList := by
  intro w hw
  unfold wordsN at hw
  split at hw
  · rw [List.mem_singleton.mp hw]; decide +kernel
  · obtain ⟨i, hi, _, rfl⟩ := wd_mem hw
    exact nm_free ⟨i, hi⟩
theorem words_ne {f : Nat} (hf : f < 2 ^ 32) : wordsN f ≠ [] := by
  unfold wordsN
  split
  · exact fun q => nomatch q
  · rename_i h; exact wd_ne hf h
theorem text_eq (ws : List Str) : Txt.join (Str.ofString ", ") ws = Str.join sepS ws := StrLaws.glued_eq_join _ _
theorem split_text {f : Nat} (hf : f < 2 ^ 32) : Txt.split (textN f) (Str.ofString ", ") = wordsN f := by
  unfold textN
  rw [text_eq]
  exact split_join _ (words_ne hf) words_free
theorem wd_more {f : Nat} (hf : f < 2 ^ 32) (h : f ≠ 0) : (((Txt.join (Str.ofString ", ") (wdN f 32)).length : Int) != 0) = true := by
  have hlen : 0 < (Txt.join (Str.ofString ", ") (wdN f 32)).length := by
    rw [text_eq]
    cases e : wdN f 32 with
    | nil => exact absurd e (wd_ne hf h)
    | cons w r =>
      obtain ⟨i, hi, _, rfl⟩ := wd_mem (f := f) (k := 32) (w := w) (by rw [e]; exact .head _)
      have hl := nm_long ⟨i, hi⟩
      dsimp only at hl
      cases r with
      | nil => exact hl
      | cons w2 r =>
        show 0 < (nm i ++ sepS ++ Str.join sepS (w2 :: r)).length
        rw [Str.length_append, Str.length_append]
        omega
  rw [bne_iff_ne]
  omega
theorem nm_inj : ∀ i j : Fin 32, (nm i.val == nm j.val) = decide (i.val = j.val) := by decide +kernel
theorem nm_zero : ∀ i : Fin 32, (Str.ofString "0x0" == nm i.val) = false := by decide +kernel
theorem wd_any {f i : Nat} (hi : i < 32) : ∀ k, k ≤ 32 → (wdN f k).any (· == nm i) = (decide (i < k) && f.testBit i)
  | 0, _ => by simp [wdN]
  | k + 1, h => by
    have ih := wd_any (f := f) hi k (by omega)
    have e := nm_inj ⟨k, by omega⟩ ⟨i, hi⟩
    dsimp only at e
    rw [wdN_succ, List.any_append, ih]
    by_cases hk : k = i
    · subst hk
      cases hb : f.testBit k <;> simp
    · have d : decide (i < k + 1) = decide (i < k) := by
        by_cases q : i < k
        · have : i < k + 1 := by omega
          simp [q, this]
        · have : ¬ i < k + 1 := by omega
          simp [q, this]
      rw [decide_eq_false hk] at e
      rw [d]
      cases hb : f.testBit k <;> simp [e]
theorem name_in {f i : Nat} (hi : i < 32) : (wordsN f).any (· == nm i) = f.testBit i := by
  unfold wordsN
  split
  · rename_i h
    have e := nm_zero ⟨i, hi⟩
    dsimp only at e
    rw [h]
    simp [e]
  · rw [wd_any hi 32 (Nat.le_refl _)]
    simp [hi]
end M36
end
section
open PySem PySem.W PyProof.Rows
set_option maxRecDepth 100000
set_option maxHeartbeats 2000000
namespace M36
theorem join_len (sep : Str) (l : List Str) : (Txt.join sep l).length ≤ (l.map (·.length)).sum + l.length * sep.length := by
  show ((l.drop 1).foldl (fun acc p => acc ++ sep.cps ++ p.cps) (l.headD Str.empty).cps).size ≤ _
  rw [size_gluedFold]
  cases l with
  | nil => simp [Str.empty]
  | cons a r =>
    simp only [List.drop_succ_cons, List.drop_zero, List.headD_cons, List.map_cons, List.sum_cons, List.length_cons]
    have : a.cps.size = a.length := rfl
    rw [this, Nat.add_mul]
    omega
theorem wd_len (f : Nat) : (Txt.join (Str.ofString ", ") (wdN f 32)).length ≤ 640 := by
  have h1 := join_len (Str.ofString ", ") (wdN f 32)
  have h2 := wdN_sum f 32 (Nat.le_refl _)
  have h3 := wdN_len f 32
  have h4 : (Str.ofString ", ").length = 2 := by decide +kernel
  rw [h4] at h1
  omega
theorem text_len (f : Nat) : (textN f).length + 2 ≤ sizeLine := by
  have h : (textN f).length ≤ 640 := by
    unfold textN wordsN
    split
    · exact Nat.le_trans (join_len _ _) (by decide +kernel)
    · exact wd_len f
  rw [sizeLine_eq]
  omega
theorem wd_fit (f : Nat) : ¬ ((Txt.join (Str.ofString ", ") (wdN f 32)).length : Int) ≥ 2 ^ 63 := by
  have := wd_len f
  omega
theorem wd_text {f : Nat} (h : f ≠ 0) : Txt.join (Str.ofString ", ") (wdN f 32) = textN f := by
  unfold textN wordsN; rw [if_neg h]
theorem wd_zero {f : Nat} (h : f = 0) : (((Txt.join (Str.ofString ", ") (wdN f 32)).length : Int) != 0) = false := by
  rw [h, wdN_zero]; decide +kernel
theorem zero_text {f : Nat} (h : f = 0) : textN f = Str.ofString "0x0" := by
  rw [h]; decide +kernel
theorem no_text {f : Nat} (h : f ≠ 0) : (textN f != Txt.join (Str.ofString ", ") (wdN f 32)) = false := by
  rw [wd_text h]; simp
theorem no_zero {f : Nat} (h : f = 0) : (textN f != Str.ofString "0x0") = false := by
  rw [zero_text h]; simp
theorem told_lt (f : Nat) : ∀ x ∈ toldN f, x < 256 := by
  intro x hx
  unfold toldN octs5 at hx
  simp at hx
  omega
theorem plain_lt (f : Nat) : ∀ x ∈ plainN f, x < 256 := by
  intro x hx
  unfold plainN at hx
  simp at hx
  obtain ⟨a, _, rfl⟩ := hx
  omega
theorem plain_of {f n : Nat} {vs : List Value} (hn : n = 5) (h : IntsAre vs (up (((toldN f).take n).map (· % 128)))) : IntsAre vs (up (plainN f)) := by
  rw [hn] at h; exact h
theorem figs_of {f n : Nat} {vs : List Value} (hn : n = 5) (h : IntsAre vs (up (((toldN f).take n).map (· % 64)))) : IntsAre vs (up (figsN f)) := by
  rw [hn] at h; exact h
theorem mod_step {ns : List Nat} {k i n : Nat} {ys : List Value} {t : Tok} (h : ns[i]? = some n) (hJ : IntsAre ys (up ((ns.take i).map (· % k)))) : IntsAre (ys ++ [.int ((n % k : Nat) : Int) t]) (up ((ns.take (i + 1)).map (· % k))) := by
  rw [List.take_add_one, h]
  simpa [up] using IntsAre.append hJ (.cons _ t .nil)
theorem up_len {vs : List Value} {ns : List Nat} (h : IntsAre vs (up ns)) : vs.length = ns.length := by
  have := IntsAre.length h
  simpa [up] using this
theorem told_five {f : Nat} {vs : List Value} (h : IntsAre vs (up (toldN f))) : vs.toArray.size = 5 := by
  rw [List.size_toArray, up_len h]; rfl
theorem told_size {f : Nat} {vs : List Value} (h : IntsAre vs (up (toldN f))) : vs.toArray.size ≤ sizeLine := by
  rw [told_five h, sizeLine_eq]; decide
theorem flags_int (y : Int) : Builtin.bitXor ((crcN (oneN (octN (numN y))) : Nat) : Int) ((y.fmod (2 ^ Int.toNat 62)).fdiv (2 ^ Int.toNat 30)) = ((flagsN y : Nat) : Int) := by
  rw [cut_eq, hi_eq, xor_nat]; rfl
theorem no_crc (y : Int) : (((crcN (baseN 256 (toldN (flagsN y)).reverse) : Nat) : Int) != Builtin.bitXor ((crcN (oneN (octN (numN y))) : Nat) : Int) ((y.fmod (2 ^ Int.toNat 62)).fdiv (2 ^ Int.toNat 30))) = false := by
  rw [flags_int]
  have := told_crc (flags_lt y)
  unfold oneN at this
  rw [this]; simp
theorem no_plain (y : Int) : (((crcN (baseN 256 (plainN (flagsN y)).reverse) : Nat) : Int) != Builtin.bitXor (Builtin.bitXor ((crcN (oneN (octN (numN y))) : Nat) : Int) ((y.fmod (2 ^ Int.toNat 62)).fdiv (2 ^ Int.toNat 30))) ((((wordsN (flagsN y)).filter (fun x => wideC.any (· == x))).length % 2 : Nat) * 2 ^ Int.toNat 23)) = false := by
  rw [flags_int]
  have e : ((((wordsN (flagsN y)).filter (fun x => wideC.any (· == x))).length % 2 : Nat) : Int) * 2 ^ Int.toNat 23 = ((wideN (flagsN y) * 2 ^ 23 : Nat) : Int) := shl_nat _ 23
  have h := plain_crc (flags_lt y)
  unfold oneN at h
  rw [e, xor_nat, h]; simp
theorem up_inj {a b : List Nat} : up a = up b ↔ a = b := by
  constructor
  · intro h
    exact List.map_inj_right (fun x y e => Int.ofNat.inj e) |>.mp h
  · rintro rfl; rfl
theorem no_same (y : Int) : (decide (up (toldN (flagsN y)) = up (octN (numN y))) != ((y.fmod (2 ^ Int.toNat 62)).fdiv (2 ^ Int.toNat 30) == 0)) = false := by
  rw [cut_eq, hi_eq]
  have h := told_same y
  rw [← up_inj] at h
  by_cases h0 : hiN y = 0
  · simp [h.mpr h0, h0]
  · have h1 := mt h.mp h0
    have h2 : ((hiN y : Nat) : Int) ≠ 0 := by omega
    simp [h1, h0]
theorem places_yes {f i : Nat} {ys : List Value} {t : Tok} (hb : f.testBit i = true) (hJ : IntsAre ys (up ((List.range i).filter f.testBit))) : IntsAre (ys ++ [.int (0 + (i : Int)) t]) (up ((List.range (i + 1)).filter f.testBit)) := by
  rw [List.range_succ, List.filter_append]
  have e : (0 : Int) + (i : Int) = ((i : Nat) : Int) := by omega
  rw [e]
  simp only [List.filter_cons, hb, if_true, List.filter_nil, up, List.map_append, List.map_cons, List.map_nil]
  exact IntsAre.append hJ (.cons _ _ .nil)
theorem places_no {f i : Nat} {ys : List Value} (hb : f.testBit i = false) (hJ : IntsAre ys (up ((List.range i).filter f.testBit))) : IntsAre ys (up ((List.range (i + 1)).filter f.testBit)) := by
  rw [List.range_succ, List.filter_append]
  simp only [List.filter_cons, hb, Bool.false_eq_true, if_false, List.filter_nil, List.append_nil]
  exact hJ
theorem nm_item {i : Nat} (h : i < 32) : nmL.getD (0 + (i : Int)).toNat Str.empty = nm i := by
  have e : (0 + (i : Int)).toNat = i := by omega
  rw [e, List.getD, nmL_get h]; rfl
theorem nm_item' {i : Nat} (h : i < 32) : nmL.getD (i : Int).toNat Str.empty = nm i := by
  have e : (i : Int).toNat = i := by omega
  rw [e, List.getD, nmL_get h]; rfl
theorem idx_lo (i : Nat) : 0 ≤ 0 + (i : Int) := by omega
theorem idx_lo' (i : Nat) : 0 ≤ (i : Int) := by omega
theorem idx_ok {i : Nat} (h : i < 32) : 0 + (i : Int) < (nmL.length : Nat) := by rw [nmL_length]; omega
theorem idx_ok' {i : Nat} (h : i < 32) : (i : Int) < (nmL.length : Nat) := by rw [nmL_length]; omega
theorem idx_fit {i : Nat} (h : i < 32) : 0 + (i : Int) < 2 ^ 63 := by omega
theorem idx_fit' {i : Nat} (h : i < 32) : (i : Int) < 2 ^ 63 := by omega
theorem names_step {ps : List Nat} {i pl : Nat} {ys : List Value} {t : Tok} (h : ps[i]? = some pl) (hJ : StrsAre ys ((ps.take i).map nm)) : StrsAre (ys ++ [.str (nm pl) t]) ((ps.take (i + 1)).map nm) := by
  rw [List.take_add_one, h, List.map_append]
  exact StrsAre.append' hJ (.cons _ _ .nil)
theorem src_at {h₀ : Heap} {l k : Nat} {vs : List Value} {news : List (Addr × Obj)} (hm : (l, listOf vs.toArray k) ∈ news) : LCg.SrcAt h₀ l vs.toArray news := .inr ⟨_, hm, rfl, _, rfl⟩
theorem map_places (f : Nat) : (placesN f).map nm = wdN f 32 := by
  unfold placesN wdN
  generalize List.range 32 = l
  induction l with
  | nil => rfl
  | cons a r ih => cases h : f.testBit a <;> simp [h, ih]
theorem places_lt {f : Nat} : ∀ p ∈ placesN f, p < 32 := by
  intro p hp
  have := (List.mem_filter.mp hp).1
  exact List.mem_range.mp this
theorem places_of {f : Nat} {vs : List Value} (h : IntsAre vs (up ((List.range 32).filter f.testBit))) : IntsAre vs (up (placesN f)) := h
theorem places_at {f : Nat} {vs : List Value} (h : IntsAre vs (up ((List.range 32).filter f.testBit))) {i : Nat} {v : Value} (hv : vs[i]? = some v) : ∃ (n : Nat) (t : Tok), v = .int (n : Int) t ∧ (placesN f)[i]? = some n := up_at (ns := placesN f) h hv
theorem oct_of {n : Nat} {vs : List Value} (h : IntsAre vs (up ([24, 18, 12, 6].map (fun p => 64 + n / 2 ^ p % 64) ++ [n % 64]))) : IntsAre vs (up (octN n)) := h
theorem told_of {f : Nat} {vs : List Value} (h : IntsAre vs (up (octs5 (manyN (wordsN f) (placesN f))))) : IntsAre vs (up (toldN f)) := h
theorem words_len (f : Nat) : (wordsN f).length ≤ 32 := by
  unfold wordsN
  split
  · decide
  · exact wdN_len f 32
theorem places_len (f : Nat) : (placesN f).length ≤ 32 := Nat.le_trans (List.length_filter_le ..) (by simp)
theorem figs_lt (f : Nat) : ∀ x ∈ figsN f, x < 64 := by
  intro x hx
  unfold figsN at hx
  obtain ⟨a, _, rfl⟩ := List.mem_map.mp hx
  exact Nat.mod_lt _ (by decide)
theorem figs_lt4 (f : Nat) : ∀ x ∈ (figsN f).take 4, x < 64 := fun x hx => figs_lt f x (List.mem_of_mem_take hx)
theorem figs_size {f : Nat} {vs : List Value} (h : IntsAre vs (up (figsN f))) : vs.toArray.size ≤ sizeLine := by
  rw [List.size_toArray, up_len h, sizeLine_eq]; show 5 ≤ _; decide
theorem figs_take {f : Nat} {vs : List Value} (h : IntsAre vs ((up (figsN f)).take (4 : Int).toNat)) : IntsAre vs (up ((figsN f).take 4)) := by
  rw [up, List.map_take]; exact h
theorem figs_four (f : Nat) : (4 : Int) < (up (figsN f)).length := by show (4 : Int) < 5; decide
theorem due_room {a b : Int} {l : List Int} {i : Nat} {ms : List Int} (hm : ms.length ≤ 2) : (up (dueN (([a, b] ++ l.take 6).take i))).length + ms.length ≤ sizeLine := by
  rw [up, List.length_map, ← all_val, List.length_map, sizeLine_eq]
  have h1 := all_len (([a, b] ++ l.take 6).take i)
  simp only [List.length_append, List.length_cons, List.length_nil, List.length_take] at h1
  omega
theorem row_len : ∀ xs : List Int, (rowN xs).length = 5 * xs.length
  | [] => rfl
  | x :: r => by
    have ih := row_len r
    unfold rowN at ih ⊢
    rw [List.map_cons, List.flatten_cons, List.length_append, ih, told_len, List.length_cons]; omega
theorem row_room {a b : Int} {l : List Int} {i : Nat} {f : Nat} : (up (rowN (([a, b] ++ l.take 6).take i))).length + (up (toldN f)).length ≤ sizeLine := by
  rw [up, List.length_map, row_len, List.length_map, told_len, sizeLine_eq]
  simp only [List.length_append, List.length_cons, List.length_nil, List.length_take]
  omega
theorem due_two {xs : List Int} {i : Nat} {y : Int} {us : List Value} (hx : xs[i]? = some y) (hs : (((((wordsN (flagsN y)).filter (fun x => shortC.any (· == x))).length % 2 : Nat) : Nat) : Int) = 1)
    (h : IntsAre us (up (dueN (xs.take i)) ++ [((baseN 64 ((figsN (flagsN y)).take 4) : Nat) : Int), (up (figsN (flagsN y))).getD (4 : Int).toNat 0])) : IntsAre us (up (dueN (xs.take (i + 1)))) := by
  have h1 : shortN (flagsN y) = 1 := Int.ofNat.inj hs
  rw [dueN_snoc hx, duesN, if_pos h1, up, List.map_append]
  exact h
theorem due_one {xs : List Int} {i : Nat} {y : Int} {us : List Value} (hx : xs[i]? = some y) (hs : ¬ (((((wordsN (flagsN y)).filter (fun x => shortC.any (· == x))).length % 2 : Nat) : Nat) : Int) = 1)
    (h : IntsAre us (up (dueN (xs.take i)) ++ [((baseN 64 (figsN (flagsN y)) : Nat) : Int)])) : IntsAre us (up (dueN (xs.take (i + 1)))) := by
  have h1 : ¬ shortN (flagsN y) = 1 := fun e => hs (congrArg Int.ofNat e)
  rw [dueN_snoc hx, duesN, if_neg h1, up, List.map_append]
  exact h
theorem row_next {xs : List Int} {i : Nat} {y : Int} {us : List Value} (hx : xs[i]? = some y) (h : IntsAre us (up (rowN (xs.take i)) ++ up (toldN (flagsN y)))) : IntsAre us (up (rowN (xs.take (i + 1)))) := by
  rw [rowN_snoc hx, up, List.map_append]
  exact h
theorem next_lts {wa ra da I ca lN ax lD lR : Nat} {nD nR : List (Addr × Obj)} {o1 o2 o3 o4 o5 o6 : Obj} (lts : wa < ra ∧ wa < da ∧ ra ≠ I ∧ da ≠ I ∧ ca < wa ∧ wa < lN ∧ wa < ax ∧ ax < I ∧ lN < I ∧ ca < ra ∧ ca < da ∧ ca < lN ∧ ca < ax ∧ wa < I ∧ ca < I)
    (hD : ∀ p ∈ nD, p.1 < lD) (hR : ∀ p ∈ nR, p.1 < lR) (d1 : (wa, o1) ∈ nD) (d2 : (ca, o2) ∈ nD) (d3 : (I, o3) ∈ nD) (r1 : (wa, o4) ∈ nR) (r2 : (ca, o5) ∈ nR) (r3 : (I, o6) ∈ nR) :
    wa < lR ∧ wa < lD ∧ lR ≠ I ∧ lD ≠ I ∧ ca < wa ∧ wa < lN ∧ wa < ax ∧ ax < I ∧ lN < I ∧ ca < lR ∧ ca < lD ∧ ca < lN ∧ ca < ax ∧ wa < I ∧ ca < I := by
  have a1 : wa < lD := hD _ d1
  have a2 : ca < lD := hD _ d2
  have a3 : I < lD := hD _ d3
  have b1 : wa < lR := hR _ r1
  have b2 : ca < lR := hR _ r2
  have b3 : I < lR := hR _ r3
  omega
theorem lts_off {wa ra da I ca lN ax : Nat} {o1 o2 o3 o4 o5 o6 : Obj} (lts : wa < ra ∧ wa < da ∧ ra ≠ I ∧ da ≠ I ∧ ca < wa ∧ wa < lN ∧ wa < ax ∧ ax < I ∧ lN < I ∧ ca < ra ∧ ca < da ∧ ca < lN ∧ ca < ax ∧ wa < I ∧ ca < I) :
    ∀ p ∈ [((ax : Addr), o1), (ra, o2), (da, o3), (lN, o4), (wa, o5), (ca, o6)], p.1 ≠ I := by
  intro p hp
  simp only [List.mem_cons, List.not_mem_nil, or_false] at hp
  obtain ⟨h1, h2, h3, h4, h5, h6, h7, h8, h9, h10, h11, h12, h13, h14, h15⟩ := lts
  rcases hp with rfl | rfl | rfl | rfl | rfl | rfl
  · exact Nat.ne_of_lt h8
  · exact h3
  · exact h4
  · exact Nat.ne_of_lt h9
  · exact Nat.ne_of_lt h14
  · exact Nat.ne_of_lt h15
theorem sub7 {a b c d e f g : Addr × Obj} {l : List (Addr × Obj)} (ha : a ∈ l) (hb : b ∈ l) (hc : c ∈ l) (hd : d ∈ l) (he : e ∈ l) (hf : f ∈ l) (hg : g ∈ l) : ∀ p ∈ [a, b, c, d, e, f, g], p ∈ l := by
  intro p hp
  simp only [List.mem_cons, List.not_mem_nil, or_false] at hp
  rcases hp with rfl | rfl | rfl | rfl | rfl | rfl | rfl <;> assumption
theorem all_small (a b : Int) (l : List Int) : (chunksAll ([a, b] ++ l.take 6)).length ≤ 100 := by
  have h := all_len ([a, b] ++ l.take 6)
  simp only [List.length_append, List.length_cons, List.length_nil, List.length_take] at h
  omega
end M36
end
section
open PySem PySem.W PyProof.Rows
set_option maxRecDepth 100000
namespace M36
section
variable {prog : Program} {w : World} {A : Around} {E : Value → Shared → Prop} {s : Shared} {env : Env} {h₀ : Heap} {L : Addr} {m : Str → Option Value} {news : List (Addr × Obj)}
/-- a test that says no, with the facts that stand behind it -/
def NoAt (h₀ : Heap) (L : Addr) (m : Str → Option Value) (news : List (Addr × Obj)) (s : Shared) (b : Bool) (s' : Shared) : Prop :=
  b = false ∧ ∃ h' tk', s' = { s with heap := h', toks := tk' } ∧ Fr h₀ L h' m ∧ News h₀ L h' news
theorem NoAt.intro {h' : Heap} {tk' : Nat} {b : Bool} {all : List (Addr × Obj)} (hb : b = false) (F : Fr h₀ L h' m) (N : News h₀ L h' all) (sub : ∀ p ∈ news, p ∈ all) : NoAt h₀ L m news s b { s with heap := h', toks := tk' } :=
  ⟨hb, h', tk', rfl, F, fun p hp => N p (sub p hp)⟩
theorem If_cut {test : Expr} {body orelse : List Stmt} {pos : Pos} {Q : Flow → Shared → Prop} (_F : Fr h₀ L s.heap m) (_N : News h₀ L s.heap news)
    (ht : wpAny (model prog w) A (isTrue test env (eval test env)) (NoAt h₀ L m news s) E s)
    (hn : ∀ h' tk', Fr h₀ L h' m → News h₀ L h' news → wpAny (model prog w) A (execs orelse env) Q E { s with heap := h', toks := tk' }) :
    wpAny (model prog w) A (exec (.If test body orelse pos) env) Q E s :=
  wpAny_If (wpAny_mono ht (fun b s' h => by
    obtain ⟨rfl, h', tk', rfl, F, N⟩ := h
    exact hn h' tk' F N) fun _ _ e => e)
end
end M36
end
section
open PySem PySem.W PyProof.Rows
set_option maxRecDepth 100000
set_option maxHeartbeats 8000000
namespace M36
local macro_rules | `(tactic| walk_at "pyIter ref") => `(tactic| k_extra "loop")

theorem con_crc (w : World) (mean : ExcName → Option Value) (mg mb : Str → Option Value) (c : Nat) (t : Tok) (news : List (Addr × Obj)) (h1 : c < 2 ^ 40) :
    Con w mean mg mb 36 [.int (c : Int) t] news (fun v news' => (∃ t', v = .int (crcN c : Nat) t') ∧ news' = news) := by
  unfold Con
  w_top off
  k_fill
  k_with_none
  k_with "loop" => (
    k_dflt (refine' iter_rangeJ (n := 8) (fun I i m nx => nx = news ∧ (∀ p ∈ news, p.1 < I) ∧ (∃ t, m (Str.ofString "crc") = some (.int (itN c i : Nat) t)) ∧ ∀ z, z ≠ Str.ofString "j" → z ≠ Str.ofString "crc" → m z = none) rfl ?r1 ?r4 ?r5 ?r2 ?r3 ?j0 ?turn ?done; (case r1 => assumption); (case r4 => decide); (case r5 => decide); (case r2 => k_asm); (case r3 => k_asm))
    case j0 => exact fun I hI => ⟨rfl, hI, ⟨t, rfl⟩, fun z h1 h2 => look1 h2⟩
    case' turn =>
      rintro I i t m nx h tk hi ⟨rfl, hI, ⟨t', hc⟩, hm⟩ F5 N5
      have hc1 := itN_lt h1 i
      rw [map1 hc hm] at F5
      try k_fold
    case' done => rintro I m nx h tk ⟨rfl, hI, ⟨t', hc⟩, hm⟩ F5 N5; rw [map1' hc hm] at F5)
  intro dp un gd cn cs a ccd cl outer A₀ base h₀ L m s Q E B F X N T hk hd hu hret
  refine wpAny_call ?_
  k_dflt (refine' code_def (binds := [(Str.ofString "crc", .int (c : Int) t)]) ?k1 ?k2 ?k3 ?k4 ?k5 ?kA ?kF ?kK ?k6 ?k7 ?k8 ?k9 ?kB ?_ ?c2 ?c3 ?c4 ?c5; (case kA => exact rfl); (case kF => exact rfl); (case kK => assumption); (case k1 => k_asm); (case k2 => k_asm); (case k3 => k_asm); (case k4 => k_asm); (case k5 => k_asm); (case k6 => k_is); (case k7 => k_is); (case k8 => ktr_room); (case k9 => exact BindsTo.of_eq rfl); (case c5 => decide); (case kB => exact locs rfl); (case c2 => exact rfl); (case c3 => exact rfl); (case c4 => exact rfl); k_whole; intro g' L' h' FG' F' N' B' X' T'; (try dsimp only); (try k_fold))
  k_steps
  · exact hret _ _ _ _ ⟨⟨_, rfl⟩, rfl⟩ (by assumption) (by assumption)
  · rename_i hb _ F6 N6
    exact UnrEnd.intro F6 N6 nx (fun p hp => hp) (fun p hp => Nat.ne_of_lt (hI p hp)) ⟨rfl, hI, ⟨_, by dsimp only; rw [if_pos rfl, step_one hb]; rfl⟩, fun z h1 h2 => by simp [h1, h2]⟩
  · rename_i hb _ F6 N6
    exact UnrEnd.intro F6 N6 nx (fun p hp => hp) (fun p hp => Nat.ne_of_lt (hI p hp)) ⟨rfl, hI, ⟨_, by dsimp only; rw [if_pos rfl, step_two hb]; rfl⟩, fun z h1 h2 => by simp [h1, h2]⟩
end M36
end
section
open PySem PySem.W PyProof.Rows
set_option maxRecDepth 100000
set_option maxHeartbeats 8000000
namespace M36
local macro_rules | `(tactic| walk_at "exec For") => `(tactic| (k_here; (rename Fr _ _ _ _ => lF'); (with_unfolding_all refine' For_invVF lF' ?k1 ?k2 ?_; (case k1 => exact rfl); (case k2 => exact rfl); k_whole)))
local macro_rules | `(tactic| walk_at "pyIter ref") => `(tactic| k_extra "loop")
theorem con_one (w : World) (mean : ExcName → Option Value) (mg mb : Str → Option Value) (l k : Nat) (vs : List Value) (ns : List Nat) (news : List (Addr × Obj)) (hm : (l, listOf vs.toArray k) ∈ news) (hi : IntsAre vs (up ns)) (hb : ∀ x ∈ ns, x < 256) (hl : ns.length ≤ 5) :
    Con w mean mg mb 53 [.ref l] news (fun v news' => (∃ t', v = .int (baseN 256 ns.reverse : Nat) t') ∧ news' = news) := by
  unfold Con
  w_top off
  k_fill
  k_with_none
  k_with "loop" => (
    rename_i D' ws' hh' FF NN l1 hI' hC'
    (have hws : IntsAre ws' (up ns.reverse) := by simpa using hI')
    k_dflt (refine' iter_listJ (vs := ws') (fun I i m nx => nx = (D', listOf ws'.toArray 0) :: news ∧ (∀ p ∈ nx, p.1 < I) ∧ (∃ t, m (Str.ofString "many") = some (.int (baseN 256 (ns.reverse.take i) : Nat) t)) ∧ ∀ z, z ≠ Str.ofString "octet" → z ≠ Str.ofString "many" → m z = List.lookup z [(Str.ofString "octets", .ref l)].reverse) rfl ?r2 ?r3 ?r1 ?r4 ?r5 ?j0 ?turn ?done; (case r2 => k_asm); (case r3 => k_asm);(case r1 => k_mem); (case r4 => exact rfl); (case r5 => exact rfl))
    case j0 => exact fun I hI => ⟨rfl, hI, ⟨_, rfl⟩, fun z h1 h2 => by simp [h2]⟩
    case' turn =>
      rintro I i v it m nx h tk hv hit ⟨rfl, hI, ⟨t', hc⟩, hm'⟩ hmem F5 N5
      obtain ⟨x, tx, rfl, hx⟩ := up_at hws hv
      rw [map1 hc hm'] at F5
      try k_fold
    case' done => rintro I m nx h tk ⟨rfl, hI, ⟨t', hc⟩, hm'⟩ F5 N5; rw [map1' hc hm'] at F5)
  intro dp un gd cn cs a ccd cl outer A₀ base h₀ L m s Q E B F X N T hk hd hu hret
  refine wpAny_call ?_
  k_dflt (refine' code_def (binds := [(Str.ofString "octets", .ref l)]) ?k1 ?k2 ?k3 ?k4 ?k5 ?kA ?kF ?kK ?k6 ?k7 ?k8 ?k9 ?kB ?_ ?c2 ?c3 ?c4 ?c5; (case kA => exact rfl); (case kF => exact rfl); (case kK => assumption); (case k1 => k_asm); (case k2 => k_asm); (case k3 => k_asm); (case k4 => k_asm); (case k5 => k_asm); (case k6 => k_is); (case k7 => k_is); (case k8 => ktr_room); (case k9 => exact BindsTo.of_eq rfl); (case c5 => decide); (case kB => exact locs rfl); (case c2 => exact rfl); (case c3 => exact rfl); (case c4 => exact rfl); k_whole; intro g' L' h' FG' F' N' B' X' T'; (try dsimp only); (try k_fold))
  k_steps
  · rw [List.take_of_length_le (by simp [hws.length])] at *
    exact hret _ _ _ _ ⟨⟨_, rfl⟩, rfl⟩ (by assumption) (cb_drop (news' := (D', listOf ws'.toArray 0) :: news) (by assumption) fun p hp => List.mem_cons_of_mem _ hp)
  · rename_i F6 N6
    exact UnrEnd.intro F6 N6 _ (fun p hp => hp) (fun p hp => Nat.ne_of_lt (hI p hp)) ⟨hmem, rfl, hI, ⟨_, by dsimp only; rw [if_pos rfl, baseN_take 256 _ i hx]; rfl⟩, fun z h1 h2 => by simp [h1, h2]⟩
end M36
end
section
open PySem PySem.W PyProof.Rows
set_option maxRecDepth 100000
set_option maxHeartbeats 8000000
namespace M36
local macro_rules | `(tactic| walk_at "no such key") => `(tactic| fail)
local macro_rules | `(tactic| walk_at "exec For") => `(tactic| (k_here; (rename Fr _ _ _ _ => lF'); (with_unfolding_all refine' For_invVF lF' ?k1 ?k2 ?_; (case k1 => exact rfl); (case k2 => exact rfl); k_whole)))
local macro_rules | `(tactic| walk_at "pyIter ref") => `(tactic| k_extra "loop")
theorem con_number (w : World) (mean : ExcName → Option Value) (mg mb : Str → Option Value) (l k : Nat) (vs : List Value) (ns : List Nat) (news : List (Addr × Obj)) (hm : (l, listOf vs.toArray k) ∈ news) (hi : IntsAre vs (up ns)) (hb : ∀ x ∈ ns, x < 64) (hl : ns.length ≤ 5) :
    Con w mean mg mb 70 [.ref l] news (fun v news' => (∃ t', v = .int (baseN 64 ns : Nat) t') ∧ news' = news) := by
  unfold Con
  w_top off
  k_fill
  k_with_none
  k_with "loop" => (
    k_dflt (refine' iter_listJ (vs := vs) (fun I i m nx => nx = news ∧ (∀ p ∈ nx, p.1 < I) ∧ (∃ t, m (Str.ofString "number") = some (.int (baseN 64 (ns.take i) : Nat) t)) ∧ ∀ z, z ≠ Str.ofString "figure" → z ≠ Str.ofString "number" → m z = List.lookup z [(Str.ofString "figures", .ref l)].reverse) rfl ?r2 ?r3 ?r1 ?r4 ?r5 ?j0 ?turn ?done; (case r2 => k_asm); (case r3 => k_asm);(case r1 => exact hm); (case r4 => exact rfl); (case r5 => exact rfl))
    case j0 => exact fun I hI => ⟨rfl, hI, ⟨_, rfl⟩, fun z h1 h2 => by simp [h2]⟩
    case' turn =>
      rintro I i v it m nx h tk hv hit ⟨rfl, hI, ⟨t', hc⟩, hm'⟩ hmem F5 N5
      obtain ⟨x, tx, rfl, hx⟩ := up_at hi hv
      rw [map1 hc hm'] at F5
      try k_fold
    case' done => rintro I m nx h tk ⟨rfl, hI, ⟨t', hc⟩, hm'⟩ F5 N5; rw [map1' hc hm'] at F5)
  intro dp un gd cn cs a ccd cl outer A₀ base h₀ L m s Q E B F X N T hk hd hu hret
  refine wpAny_call ?_
  k_dflt (refine' code_def (binds := [(Str.ofString "figures", .ref l)]) ?k1 ?k2 ?k3 ?k4 ?k5 ?kA ?kF ?kK ?k6 ?k7 ?k8 ?k9 ?kB ?_ ?c2 ?c3 ?c4 ?c5; (case kA => exact rfl); (case kF => exact rfl); (case kK => assumption); (case k1 => k_asm); (case k2 => k_asm); (case k3 => k_asm); (case k4 => k_asm); (case k5 => k_asm); (case k6 => k_is); (case k7 => k_is); (case k8 => ktr_room); (case k9 => exact BindsTo.of_eq rfl); (case c5 => decide); (case kB => exact locs rfl); (case c2 => exact rfl); (case c3 => exact rfl); (case c4 => exact rfl); k_whole; intro g' L' h' FG' F' N' B' X' T'; (try dsimp only); (try k_fold))
  k_steps
  · rw [List.take_of_length_le (by simp [hi.length])] at *
    exact hret _ _ _ _ ⟨⟨_, rfl⟩, rfl⟩ (by assumption) (by assumption)
  · rename_i F6 N6
    exact UnrEnd.intro F6 N6 _ (fun p hp => hp) (fun p hp => Nat.ne_of_lt (hI p hp)) ⟨hmem, rfl, hI, ⟨_, by dsimp only; rw [if_pos rfl, baseN_take 64 _ i hx]; rfl⟩, fun z h1 h2 => by simp [h1, h2]⟩
end M36
end
section
open PySem PySem.W PyProof.Rows
set_option maxRecDepth 100000
set_option maxHeartbeats 8000000
namespace M36
local macro_rules | `(tactic| walk_at "no such key") => `(tactic| fail)
local macro_rules | `(tactic| walk_at "no such key") => `(tactic| fail)
local macro_rules | `(tactic| walk_at "exec Assign cons ListComp") => `(tactic| k_extra "acomp")
local macro_rules | `(tactic| walk_at "SrcT") => `(tactic| k_extra "src")
theorem con_octets (w : World) (mean : ExcName → Option Value) (mg mb : Str → Option Value) (c : Nat) (t : Tok) (news : List (Addr × Obj)) (hc : c < 2 ^ 30) :
    Con w mean mg mb 46 [.int (c : Int) t] news (fun v news' => ∃ l vs k, v = .ref l ∧ news' = (l, listOf vs.toArray k) :: news ∧ (∀ p ∈ news, p.1 < l) ∧ IntsAre vs (up ([24, 18, 12, 6].map (fun p => 64 + c / 2 ^ p % 64) ++ [c % 64]))) := by
  unfold Con
  w_top off
  k_fill
  k_with_none
  k_with "acomp" => (
    k_dflt (refine' Assign_ListComp_tup (by k_asm) (by rfl) (by with_unfolding_all rfl) (by with_unfolding_all rfl) (by decide) (by rfl) (by decide) (by rfl) (by rfl) (by rfl) ?_))
  k_with "src" => (
    rename_i D' h2 F2 N2 l2
    k_dflt (refine ⟨D', _, _, rfl, rfl, F2, N2, ⟨_, List.mem_cons_self .., rfl, _, rfl⟩, (Nat.le_of_ble_eq_true rfl), ?_⟩)
    rintro s₂ ⟨h3, rfl⟩
    k_dflt (refine comp_rest (fun i ys => IntsAre ys (up (([24, 18, 12, 6].take i).map (fun p => 64 + c / 2 ^ p % 64)))) .nil ?turn ?fin)
    case' turn =>
      intro i v I oI C oC D m₂ ys h tk E' hi hv hJ hC hx F5 N5 off ne
      obtain ⟨pl, tp, rfl, hp⟩ := up_at (ns := [24, 18, 12, 6]) (.cons _ _ (.cons _ _ (.cons _ _ (.cons _ _ .nil)))) (by simpa using hv)
      have hpl : pl ≤ 24 := by
        have := List.mem_of_getElem? hp
        simp at this; omega
      simp only [LCg.Off3, and_true] at off
      try k_fold
    case' fin => intro ys hJ)
  intro dp un gd cn cs a ccd cl outer A₀ base h₀ L m s Q E B F X N T hk hd hu hret
  refine wpAny_call ?_
  k_dflt (refine' code_defC (binds := [(Str.ofString "number", .int (c : Int) t)]) ?k1 ?k2 ?k3 ?k4 ?k5 ?kA ?kF ?kK ?k6 ?k7 ?k8 ?k9 ?kB ?kD ?_ ?c2 ?c3 ?c4; (case kA => exact rfl); (case kF => exact rfl); (case kK => assumption); (case k1 => k_asm); (case k2 => k_asm); (case k3 => k_asm); (case k4 => k_asm); (case k5 => k_asm); (case k6 => k_is); (case k7 => k_is); (case k8 => ktr_room); (case k9 => exact BindsTo.of_eq rfl); (case kB => exact rfl); (case kD => decide +kernel); (case c2 => exact rfl); (case c3 => exact rfl); (case c4 => exact rfl); k_whole; intro g' L' h' tk' cells' FG' F' N' Y' B' X' T' l1; (obtain ⟨o1, hE1, d1⟩ := CellsAre.one Y'); subst hE1; clear Y'; (replace d1 : o1.data = .cell (some (.int (c : Int) t)) := d1); (replace F' : Fr g' L' h' (fun _ => none) := F'); (replace N' : News g' L' h' ((L' + 1, o1) :: news) := N'); (try dsimp only); (try k_fold))
  k_steps
  · rename_i ws6 h6 F0 N0 hI6 l6 F6 N6 _ _
    refine hret _ _ _ _ ⟨_, ws6, 0, rfl, rfl, allLt_mem l6.2.2.2.2, ?_⟩ F6 (cb_drop N6 fun p hp => ?_)
    · rw [fmod64] at hI6
      simpa using hI6
    · rcases List.mem_cons.mp hp with rfl | hp
      · exact .head _
      · exact .tail _ (.tail _ (.tail _ (.tail _ (.tail _ hp))))
  · refine LCg.CompEnd.intro F5 N5 _ (fun p hp => hp) off ⟨_, .head _, rfl, _, rfl⟩ ⟨rfl, ?_⟩
    dsimp only
    rw [List.take_add_one, hp]
    have e : (64 : Int) + ((c : Int).fdiv (2 ^ Int.toNat (pl : Int))).fmod 64 = ((64 + c / 2 ^ pl % 64 : Nat) : Int) := by
      rw [shr_nat, fmod64]; norm_cast
    rw [e]
    simpa using IntsAre.append hJ (.cons _ _ .nil)
end M36
end
section
open PySem PySem.W PyProof.Rows
set_option maxRecDepth 100000
set_option maxHeartbeats 8000000
namespace M36
local macro_rules | `(tactic| walk_at "no such key") => `(tactic| fail)
local macro_rules | `(tactic| walk_at "eval ListComp") => `(tactic| k_extra "comp")
local macro_rules | `(tactic| walk_at "CompSrc") => `(tactic| k_extra "src")
local macro_rules | `(tactic| walk_at "binaryOp Add ref ref") => `(tactic| k_extra "add")
local macro_rules | `(tactic| walk_at "call builtin:hex") => `(tactic| k_extra "hex")
theorem con_names (w : World) (mean : ExcName → Option Value) (mg mb : Str → Option Value) (news : List (Addr × Obj)) :
    Con w mean mg mb 41 [] news (fun v news' => ∃ l vs k, v = .ref l ∧ news' = (l, listOf vs.toArray k) :: news ∧ (∀ p ∈ news, p.1 < l) ∧ StrsAre vs nmL) := by
  unfold Con
  w_top off
  k_fill
  k_with_none
  k_with "comp" => (
    k_dflt (refine LCg.ListComp_U (F₀ := by k_asm) (by with_unfolding_all rfl) (by decide) (by rfl) (by decide) (by rfl) ?_))
  k_with "hex" => (
    k_dflt (refine P.hex_of_int (hsz := hex_size hi2) ?_))
  k_with "src" => (
    k_dflt (refine LCg.CompSrc.range (by rfl) (by k_asm) (by k_asm) (by assumption) (by decide) (n := 22) (by decide) (Nat.le_of_ble_eq_true rfl) ?_)
    intro g5
    k_dflt (refine comp_rest (fun i ys => StrsAre ys ((nmL.drop 10).take i)) .nil ?turn ?fin)
    case' turn =>
      rintro i v I oI C oC D m₂ ys h tk E' hi ⟨tp, rfl⟩ hJ hC hx F5 N5 off ne
      have hi2 : 10 + i < 32 := by omega
      simp only [LCg.Off3] at off
      try k_fold
    case' fin => intro ys hJ)
  intro dp un gd cn cs a ccd cl outer A₀ base h₀ L m s Q E B F X N T hk hd hu hret
  refine wpAny_call ?_
  k_dflt (refine' code_def (binds := []) ?k1 ?k2 ?k3 ?k4 ?k5 ?kA ?kF ?kK ?k6 ?k7 ?k8 ?k9 ?kB ?_ ?c2 ?c3 ?c4 ?c5; (case kA => exact rfl); (case kF => exact rfl); (case kK => assumption); (case k1 => k_asm); (case k2 => k_asm); (case k3 => k_asm); (case k4 => k_asm); (case k5 => k_asm); (case k6 => k_is); (case k7 => k_is); (case k8 => ktr_room); (case k9 => exact BindsTo.of_eq rfl); (case c5 => decide); (case kB => exact locs rfl); (case c2 => exact rfl); (case c3 => exact rfl); (case c4 => exact rfl); k_whole; intro g' L' h' FG' F' N' B' X' T'; (try dsimp only); (try k_fold))
  k_steps
  · rename_i D5 h5 tk5 F5 N5 o5
    have hlen : ys.length = 22 := hJ.length.trans (by decide +kernel)
    refine kmk_add_lit F5 N5 (News.isList N5 (.tail _ (.head _))) (News.isList N5 (.head _)) (zs := ?zs) ?hz ?_ ?z
    case hz => exact rfl
    case z => rw [sizeLine_eq]; simp [hlen]
    intro D6 h6 F6 N6 l6
    k_steps
    rename_i F7 N7 _ _
    refine hret _ _ _ _ ⟨D6, _, 0, rfl, rfl, fun p hp => l6 p (.tail _ (.tail _ (.tail _ (.tail _ hp)))), ?_⟩ F7 (cut N7 fun p hp => .tail _ (.tail _ (.tail _ (.tail _ hp))))
    exact StrsAre.append' (.cons _ _ (.cons _ _ (.cons _ _ (.cons _ _ (.cons _ _ (.cons _ _ (.cons _ _ (.cons _ _ (.cons _ _ (.cons _ _ .nil)))))))))) hJ
  · refine LCg.CompEnd.intro F5 N5 _ (fun p hp => hp) off trivial ⟨rfl, ?_⟩
    have e0 : (2 : Int) ^ (10 + (i : Int)).toNat = ((2 ^ (10 + i) : Nat) : Int) := by
      rw [show (10 + (i : Int)).toNat = 10 + i by omega]; norm_cast
    have e : (nmL.drop 10)[i]? = some (nm (10 + i)) := by rw [List.getElem?_drop]; exact nmL_get hi2
    rw [List.take_add_one, e, e0, hex_nm (by omega) hi2]
    exact StrsAre.append' hJ (.cons _ _ .nil)
end M36
end
section
open PySem PySem.W PyProof.Rows
set_option maxRecDepth 100000
set_option maxHeartbeats 8000000
namespace M36
local macro_rules | `(tactic| walk_at "exec For Name Call cons cons") => `(tactic| k_extra "forelse")
local macro_rules | `(tactic| walk_at "call builtin:hex") => `(tactic| k_extra "hex")
local macro_rules | `(tactic| walk_at "call builtin:dict.get") => `(tactic| k_extra "get")
local macro_rules | `(tactic| walk_at "call builtin:list.append") => `(tactic| k_extra "append")
local macro_rules | `(tactic| walk_at "call builtin:str.join") => `(tactic| k_extra "join")
local macro_rules | `(tactic| walk_at "ElseAt") => `(tactic| k_extra "else")
theorem con_pretty (w : World) (mean : ExcName → Option Value) (mg mb : Str → Option Value) (f : Nat) (t : Tok) (news : List (Addr × Obj)) (hf : f < 2 ^ 32) :
    Con w mean mg mb 22 [.int (f : Int) t] news (fun v news' => (∃ t', v = .str (textN f) t') ∧ news' = news) := by
  unfold Con
  w_top off
  k_fill
  k_with_none
  k_with "forelse" => (
    k_dflt (refine' For_else ?f0 ?f1 ?f2 ?_; (case f0 => k_asm); (case f1 => exact rfl); (case f2 => exact rfl)))
  k_with "else" => (
    rename_i D0 h0 l0 F0 N0 tk0 h1 tk1 t1 u1 v1 hr1 F1 N1 hk1
    k_dflt (refine' ElseAt.intro (n := 32) (fun I i m nx => ∃ vs k, nx = (D0, listOf (List.toArray vs) k) :: news ∧ StrsAre vs (wdN f i) ∧ D0 < I ∧ (∀ p ∈ news, p.1 < I) ∧ (∃ t, m (Str.ofString "flags") = some (.int (remN f i : Nat) t)) ∧ m (Str.ofString "names") = some (.ref D0) ∧ (f = 0 ∨ remN f i ≠ 0)) ?e1 hr1 ?e2 ?e3 F1 N1 ?e4 ?turn ?done; (case e1 => exact rfl); (case e2 => decide); (case e3 => decide))
    case e4 => k_dflt (exact fun I hI => ⟨[], 0, rfl, wdN_start f, hI _ (.head _), fun p hp => hI p (.tail _ hp), ⟨t, by rw [remN_start]; exact rfl⟩, rfl, by rw [remN_start]; omega⟩)
    case' turn =>
      rintro I i t m nx h tk hi ⟨vs, k, rfl, hvs, hDI, hI, ⟨tf, hm1⟩, hm2, hne⟩ F5 N5
      rw [canon2 hm1 hm2] at F5
      try k_fold
    case' done =>
      rintro I m nx h tk ⟨vs, k, rfl, hvs, hDI, hI, ⟨tf, hm1⟩, hm2, hne⟩ F5 N5
      rw [canon2 hm1 hm2] at F5
      try k_fold)
  k_with "hex" => (
    k_dflt (refine P.hex_of_int (hsz := ?hz) ?_)
    case hz => first | exact hex_size' hi | exact hex_size0 hf)
  k_with "get" => (
    rename KTD.Keyed _ _ _ => ky
    k_dflt (refine get_flag hi ky ?hkk ?_)
    case hkk => kt_keeps
    intro tg)
  k_with "append" => (
    have hsz : vs.toArray.size ≤ sizeLine := by
      rw [List.size_toArray, hvs.length, sizeLine_eq]
      have := wdN_len f i
      omega
    rename Fr _ _ _ _ => F6
    rename News _ _ _ _ => N6
    k_dflt (refine append_K F6 N6 (.tail (Nat.ne_of_gt hDI) (.head fun p hp => Nat.ne_of_lt (l0 p hp))) ?_ hsz)
    intro h7 F7 N7
    rw [List.push_toArray] at N7)
  k_with "append" => (
    have hsz : vs.toArray.size ≤ sizeLine := by
      rw [List.size_toArray, hvs.length, sizeLine_eq]
      have := wdN_len f 32
      omega
    k_dflt (refine append_K F5 N5 (.head fun p hp => Nat.ne_of_lt (l0 p hp)) ?_ hsz)
    intro h7 F7 N7
    rw [List.push_toArray] at N7)
  k_with "join" => (
    have hb := bit_yes (f := f) (i := i) (by assumption)
    skip
    have hx0 : Builtin.bitXor ((remN f i : Nat) : Int) (1 * 2 ^ (0 + (i : Int)).toNat) = 0 := by assumption
    rw [rem_xor hb] at hx0
    rename News _ _ _ _ => N8
    k_dflt (refine join_listC (ys := wordsN f) (News.isList N8 (.tail _ (.head _))) (words_turn hi hb (by omega) hvs) sep_len (wordsN_ok f) ?_)
    intro t9 k9)
  k_with "join" => (
    k_dflt (refine join_listC (ys := wordsN f) (News.isList N7 (.head _)) (words_zero hf hne hvs) sep_len (wordsN_ok f) ?_)
    intro t9 k9)
  intro dp un gd cn cs a ccd cl outer A₀ base h₀ L m s Q E B F X N T hk hd hu hret
  refine wpAny_call ?_
  k_dflt (refine' code_def (binds := [(Str.ofString "flags", .int (f : Int) t)]) ?k1 ?k2 ?k3 ?k4 ?k5 ?kA ?kF ?kK ?k6 ?k7 ?k8 ?k9 ?kB ?_ ?c2 ?c3 ?c4 ?c5; (case kA => exact rfl); (case kF => exact rfl); (case kK => assumption); (case k1 => k_asm); (case k2 => k_asm); (case k3 => k_asm); (case k4 => k_asm); (case k5 => k_asm); (case k6 => k_is); (case k7 => k_is); (case k8 => ktr_room); (case k9 => exact BindsTo.of_eq rfl); (case c5 => decide); (case kB => exact locs rfl); (case c2 => exact rfl); (case c3 => exact rfl); (case c4 => exact rfl); k_whole; intro g' L' h' FG' F' N' B' X' T'; (try dsimp only); (try k_fold))
  k_steps
  · exact hret _ _ _ _ ⟨⟨_, rfl⟩, rfl⟩ (by assumption) (cb_drop (news' := (D0, _) :: news) (by assumption) fun p hp => .tail _ hp)
  · rename_i F6 N6 hx
    have hb := bit_yes (f := f) (i := i) (by assumption)
    rw [rem_xor hb] at hx
    refine UnrEnd.intro F6 N6 _ (fun p hp => hp) (fun p hp => ?_) ⟨vs ++ [.str (nm i) tg], k + 1, rfl, ?_, hDI, hI, ⟨_, by dsimp only; rw [if_pos rfl, rem_xor hb]⟩, rfl, .inr (by omega)⟩
    · rcases List.mem_cons.mp hp with rfl | hp
      · exact Nat.ne_of_lt hDI
      · exact Nat.ne_of_lt (hI p hp)
    · rw [wdN_succ, hb]; exact StrsAre.append' hvs (.cons _ _ .nil)
  · exact hret _ _ _ _ ⟨⟨_, rfl⟩, rfl⟩ (by assumption) (cb_drop (news' := (I, _) :: (D0, _) :: news) (by assumption) fun p hp => .tail _ (.tail _ hp))
  · rename_i F6 N6 hx
    have hb := bit_no (f := f) (i := i) hx
    refine UnrEnd.intro F6 N6 _ (fun p hp => hp) (fun p hp => ?_) ⟨vs, k, rfl, ?_, hDI, hI, ⟨tf, by rw [rem_same hb]; exact rfl⟩, rfl, by rw [rem_same hb]; exact hne⟩
    · rcases List.mem_cons.mp hp with rfl | hp
      · exact Nat.ne_of_lt hDI
      · exact Nat.ne_of_lt (hI p hp)
    · rw [wdN_succ, hb]; simpa using hvs
end M36
end
section
open PySem PySem.W PyProof.Rows
set_option maxRecDepth 100000
set_option maxHeartbeats 8000000
namespace M36
local macro_rules | `(tactic| walk_at "no such key") => `(tactic| fail)
local macro_rules | `(tactic| walk_at "no such key") => `(tactic| fail)
local macro_rules | `(tactic| walk_at "no such key") => `(tactic| fail)
local macro_rules | `(tactic| walk_at "eval ListComp") => `(tactic| k_extra "comp")
local macro_rules | `(tactic| walk_at "CompSrcT") => `(tactic| k_extra "src")
local macro_rules | `(tactic| walk_at "call builtin:len") => `(tactic| k_extra "len")
local macro_rules | `(tactic| walk_at "compareOp In str ref") => `(tactic| k_extra "in")
theorem con_odd (w : World) (mean : ExcName → Option Value) (mg mb : Str → Option Value) (l k l2 k2 : Nat) (vs cvs : List Value) (ws ch : List Str) (news : List (Addr × Obj)) (hm : (l, listOf vs.toArray k) ∈ news) (hi : StrsAre vs ws) (hm2 : (l2, listOf cvs.toArray k2) ∈ news) (hi2 : StrsAre cvs ch) (hlen : ws.length ≤ 32) :
    Con w mean mg mb 63 [.ref l, .ref l2] news (fun v news' => (∃ t', v = .int ((ws.filter (fun x => ch.any (· == x))).length % 2 : Nat) t') ∧ news' = news) := by
  unfold Con
  w_top off
  k_fill
  k_with_none
  k_with "comp" => (
    k_dflt (refine LCt.ListComp_T (F₀ := by k_asm) (by with_unfolding_all rfl) (by decide) (by rfl) (by decide) (by rfl) ?_))
  k_with "in" => (
    k_dflt (refine in_list_strs (News.isList N5 (.tail _ (.tail _ (.tail _ (.tail _ hm2))))) hi2 ?_))
  k_with "src" => (
    k_dflt (refine' LCt.CompSrcT.ledger (by rfl) ?g1 ?g2 ?g3 ?g4 ?_; (case g1 => k_asm); (case g2 => k_asm); (case g3 => exact .tail _ hm))
    case g4 => rw [List.size_toArray, hi.length, sizeLine_eq]; omega
    intro g5
    k_dflt (refine compT_rest (fun i ys => StrsAre ys ((ws.take i).filter (fun x => ch.any (· == x)))) .nil ?turn ?fin)
    case' turn =>
      rintro i v I oI C oC D m₂ ys h tk E' hi5 hv hJ hC hx F5 N5 off ne
      obtain ⟨wd, tw, rfl, hwd⟩ := hi.item i v (by simpa using hv)
      simp only [LCg.Off3] at off
      try k_fold
    case' fin =>
      intro ys hJ
      rw [List.take_of_length_le (by rw [List.size_toArray, hi.length]; exact Nat.le_refl _)] at hJ)
  k_with "len" => (
    rename_i D9 h9 tk9 F9 N9 o9
    have hlen9 : (ws.filter (fun x => ch.any (· == x))).length ≤ 32 := Nat.le_trans (List.length_filter_le ..) hlen
    k_dflt (refine kun_lenL (k := ((ws.filter (fun x => ch.any (· == x))).length : Nat)) (News.isList N9 (.head _)) ?y1 ?y2 ?_)
    case y1 => rw [List.size_toArray, hJ.length]
    case y2 => omega)
  intro dp un gd cn cs a ccd cl outer A₀ base h₀ L m s Q E B F X N T hk hd hu hret
  refine wpAny_call ?_
  k_dflt (refine' code_defC (binds := [(Str.ofString "words", .ref l), (Str.ofString "chosen", .ref l2)]) ?k1 ?k2 ?k3 ?k4 ?k5 ?kA ?kF ?kK ?k6 ?k7 ?k8 ?k9 ?kB ?kD ?_ ?c2 ?c3 ?c4; (case kA => exact rfl); (case kF => exact rfl); (case kK => assumption); (case k1 => k_asm); (case k2 => k_asm); (case k3 => k_asm); (case k4 => k_asm); (case k5 => k_asm); (case k6 => k_is); (case k7 => k_is); (case k8 => ktr_room); (case k9 => exact BindsTo.of_eq rfl); (case kB => exact rfl); (case kD => decide +kernel); (case c2 => exact rfl); (case c3 => exact rfl); (case c4 => exact rfl); k_whole; intro g' L' h' tk' cells' FG' F' N' Y' B' X' T' l1; (obtain ⟨o1, hE1, d1⟩ := CellsAre.one Y'); subst hE1; clear Y'; (replace d1 : o1.data = .cell (some (.ref l2)) := d1); (replace N' : News g' L' h' ((L' + 1, o1) :: news) := N'); (try dsimp only); (try k_fold))
  k_steps
  · rename_i F6 N6 _ _
    rw [fmod2]
    exact hret _ _ _ _ ⟨⟨_, rfl⟩, rfl⟩ F6 (cb_drop N6 fun p hp => .tail _ (.tail _ hp))
  · rename_i ht
    refine LCg.CompEnd.intro F5 N5 _ (fun p hp => hp) off (.inr ⟨_, .tail _ hm, rfl, _, rfl⟩) ⟨rfl, ?_⟩
    rw [List.take_add_one, hwd, List.filter_append]
    refine StrsAre.append' hJ ?_
    simp only [Option.toList, List.filter_cons, ht, if_true, List.filter_nil]
    exact .cons _ _ .nil
  · rename_i ht
    refine LCg.CompEnd.intro F5 N5 _ (fun p hp => hp) off (.inr ⟨_, .tail _ hm, rfl, _, rfl⟩) ⟨rfl, ?_⟩
    rw [List.take_add_one, hwd, List.filter_append]
    simp only [Option.toList, List.filter_cons, ht, Bool.false_eq_true, if_false, List.filter_nil, List.append_nil]
    exact hJ
end M36
end
section
open PySem PySem.W PyProof.Rows
set_option maxRecDepth 100000
set_option maxHeartbeats 8000000
namespace M36
local macro_rules | `(tactic| walk_at "no such key") => `(tactic| fail)
local macro_rules | `(tactic| walk_at "no such key") => `(tactic| fail)
local macro_rules | `(tactic| walk_at "exec For") => `(tactic| (k_here; (rename Fr _ _ _ _ => lF'); (with_unfolding_all refine' For_invVF lF' ?k1 ?k2 ?_; (case k1 => exact rfl); (case k2 => exact rfl); k_whole)))
local macro_rules | `(tactic| walk_at "pyIter ref") => `(tactic| k_extra "loop")
local macro_rules | `(tactic| walk_at "eval ListComp") => `(tactic| k_extra "comp")
local macro_rules | `(tactic| walk_at "SrcT") => `(tactic| k_extra "src")
local macro_rules | `(tactic| walk_at "call builtin:dict.get") => `(tactic| k_extra "get")
local macro_rules | `(tactic| walk_at "getMethod ref") => `(tactic| k_extra "meth")
local macro_rules | `(tactic| k_all) => `(tactic| k_extra "all")
theorem con_told (w : World) (mean : ExcName → Option Value) (mg mb : Str → Option Value) (l k l2 k2 : Nat) (vs pvs : List Value) (ws : List Str) (ps : List Nat) (news : List (Addr × Obj)) (hm : (l, listOf vs.toArray k) ∈ news) (hi : StrsAre vs ws) (hm2 : (l2, listOf pvs.toArray k2) ∈ news) (hi2 : IntsAre pvs (up ps)) (hlen : ws.length ≤ 32) (hps : ∀ p ∈ ps, p < 32) :
    Con w mean mg mb 58 [.ref l, .ref l2] news (fun v news' => ∃ l vs k, v = .ref l ∧ news' = (l, listOf vs.toArray k) :: news ∧ (∀ p ∈ news, p.1 ≠ l) ∧ IntsAre vs (up (octs5 (manyN ws ps)))) := by
  have hpl0 : ps.length ≤ pvs.length := by have := hi2.length; simp at this; omega
  have hup : ∀ {i : Nat} {v : Value}, pvs[i]? = some v → ∃ (n : Nat) (t : Tok), v = .int (n : Int) t ∧ ps[i]? = some n := fun hv => up_at hi2 hv
  clear hi2
  unfold Con
  w_top off
  k_fill
  k_with_none
  k_with "comp" => (
    k_dflt (refine' ListComp_tup ?t1 (by with_unfolding_all rfl) (by decide) (by rfl) (by decide) (by rfl) ?_; (case t1 => k_asm)))
  k_with "src" => (
    rename_i D' h2 F2 N2 l2
    k_dflt (refine ⟨D', _, _, rfl, rfl, F2, N2, ⟨_, List.mem_cons_self .., rfl, _, rfl⟩, (Nat.le_of_ble_eq_true rfl), ?_⟩)
    rintro s₂ ⟨h3, rfl⟩
    k_dflt (refine comp_rest (fun i ys => IntsAre ys (up (([0, 8, 16, 24, 32].take i).map (fun p => manyN ws ps / 2 ^ p % 256)))) .nil ?eturn ?efin)
    case' eturn =>
      intro i v I oI C oC D m₂ ys h tk E' hi7 hv hJ hC hx F5 N5 off ne
      obtain ⟨pl, tp, rfl, hp⟩ := up_at (ns := [0, 8, 16, 24, 32]) (.cons _ _ (.cons _ _ (.cons _ _ (.cons _ _ (.cons _ _ .nil))))) (by simpa using hv)
      have hpl : pl ≤ 32 := by
        have := List.mem_of_getElem? hp
        simp at this; omega
      simp only [LCg.Off3] at off
      try k_fold
    case' efin => intro ys hJ)
  k_with "all" => (exact fun p hp => Nat.ne_of_lt (Nat.lt_succ_of_lt (l1 p hp)))
  k_with "meth" => (
    k_dflt (refine method_get (hT _ _ N5 (.tail _ (.head _))) ?_))
  k_with "get" => (
    k_dflt (refine call_get2_strTab (hT _ _ N5 (.tail _ (.head _))) (PyProof.V.Flat.int 0 _) ?_)
    intro v9 hv9
    obtain ⟨t9, rfl⟩ := chg_val hv9)
  k_with "loop" => (
    have hoc8 := hoc
    skip
    rename IsRange _ _ _ _ _ _ _ _ => hr5
    rename Fr _ _ _ _ => F4
    rename News _ _ _ _ => N4
    k_dflt (refine' iter_rangeJ (n := 8) (fun I i m nx => ∃ oc t3, nx = (h'.objs.size, od) :: (L' + 1, oc) :: news ∧ oc.data = .cell (some (.int (mulN (facN ws) (placedN ps) i : Nat) t3)) ∧ h'.objs.size < I ∧ (∀ p ∈ news, p.1 < I) ∧ m (Str.ofString "factor") = some (.int (facN ws : Nat) t1)) rfl hr5 ?d1 ?d2 F4 N4 ?d3 ?dturn ?ddone; (case d1 => decide); (case d2 => decide); (case d3 => exact fun I hI => ⟨oc, t2, rfl, hoc, hI _ (.head _), fun p hp => hI p (.tail _ (.tail _ hp)), rfl⟩))
    case' dturn =>
      rintro I i t m nx h tk hi8 ⟨oc, t3, rfl, hoc, hI0, hI, hm6⟩ F5 N5
      rw [canon1 hm6] at F5
      try k_fold
    case' ddone =>
      rintro I m nx h tk ⟨oc, t3, rfl, hoc, hI0, hI, hm6⟩ F5 N5
      rw [canon1 hm6] at F5
      try k_fold)
  k_with "loop" => (
    have hm8 := hm5
    skip
    rename Fr _ _ _ _ => F4
    rename News _ _ _ _ => N4
    rename Obj => oc
    k_dflt (refine' iter_listJ (vs := pvs) (fun I i m nx => ∃ oc t2, nx = (h'.objs.size, od) :: (L' + 1, oc) :: news ∧ oc.data = .cell (some (.int (placedN (ps.take i) : Nat) t2)) ∧ h'.objs.size < I ∧ (∀ p ∈ news, p.1 < I) ∧ m (Str.ofString "factor") = some (.int (facN ws : Nat) t1)) rfl F4 N4 ?b1 ?b4 ?b5 ?bj ?bturn ?bdone; (case b1 => exact .tail _ (.tail _ hm2)); (case b4 => exact rfl); (case b5 => exact rfl); (case bj => exact fun I hI => ⟨_, _, rfl, by assumption, hI _ (.head _), fun p hp => hI p (.tail _ (.tail _ hp)), rfl⟩))
    case' bturn =>
      rintro I i v it m nx h tk hv hit ⟨oc, t2, rfl, hoc, hI0, hI, hm6⟩ hmem F5 N5
      obtain ⟨pl, tp, rfl, hpl⟩ := hup hv
      have hpl1 := hps pl (List.mem_of_getElem? hpl)
      rw [canon1 hm6] at F5
      try k_fold
    case' bdone =>
      rintro I m nx h tk ⟨oc, t2, rfl, hoc, hI0, hI, hm6⟩ F5 N5
      rw [List.take_of_length_le hpl0] at hoc
      rw [canon1 hm6] at F5
      try k_fold)
  k_with "loop" => (
    have hd5 := hi.length
    rename Obj.IsDictOf _ _ _ => hdo
    skip
    rename PyProof.V.FlatPairs _ _ _ => hfo
    rename Fr _ _ _ _ => F4
    rename News _ _ _ _ => N4
    rename Obj => od
    have hT : ∀ h9 nx, News g' L' h9 nx → (h'.objs.size, od) ∈ nx → StrTab Challenge.rw_pe0036_01.row.prog w h9 h'.objs.size chD := by
      k_dflt (exact fun h9 nx N9 hm9 => TabAt.ofNews N9 hm9 (by assumption) hdo hfo)
    clear hdo hfo
    k_dflt (refine' iter_listJ (vs := vs) (fun I i m nx => nx = (h'.objs.size, od) :: (L' + 1, o1) :: news ∧ (∀ p ∈ nx, p.1 < I) ∧ (∃ t, m (Str.ofString "factor") = some (.int (facN (ws.take i) : Nat) t)) ∧ m (Str.ofString "changes") = some (.ref h'.objs.size) ∧ m (Str.ofString "places") = some (.ref l2)) rfl F4 N4 ?r1 ?r4 ?r5 ?j0 ?turn ?done; (case r1 => exact .tail _ (.tail _ hm)); (case r4 => exact rfl); (case r5 => exact rfl); (case j0 => exact fun I hI => ⟨rfl, hI, ⟨_, rfl⟩, rfl, rfl⟩))
    case' turn =>
      rintro I i v it m nx h tk hv hit ⟨rfl, hI, ⟨t1, hm5⟩, hm6, hm7⟩ hmem F5 N5
      obtain ⟨wd, tw, rfl, hwd⟩ := hi.item i v hv
      rw [canon3 hm5 hm6 hm7] at F5
      try k_fold
    case' done =>
      rintro I m nx h tk ⟨rfl, hI, ⟨t1, hm5⟩, hm6, hm7⟩ F5 N5
      rw [List.take_of_length_le (by rw [hi.length]; exact Nat.le_refl _)] at hm5
      rw [canon3 hm5 hm6 hm7] at F5
      try k_fold)
  intro dp un gd cn cs a ccd cl outer A₀ base h₀ L m s Q E B F X N T hk hd hu hret
  refine wpAny_call ?_
  k_dflt (refine' code_defC (binds := [(Str.ofString "words", .ref l), (Str.ofString "places", .ref l2)]) ?k1 ?k2 ?k3 ?k4 ?k5 ?kA ?kF ?kK ?k6 ?k7 ?k8 ?k9 ?kB ?kD ?_ ?c2 ?c3 ?c4; (case kA => exact rfl); (case kF => exact rfl); (case kK => assumption); (case k1 => k_asm); (case k2 => k_asm); (case k3 => k_asm); (case k4 => k_asm); (case k5 => k_asm); (case k6 => k_is); (case k7 => k_is); (case k8 => ktr_room); (case k9 => exact BindsTo.of_eq rfl); (case kB => exact rfl); (case kD => decide +kernel); (case c2 => exact rfl); (case c3 => exact rfl); (case c4 => exact rfl); k_whole; intro g' L' h' tk' cells' FG' F' N' Y' B' X' T' l1; (obtain ⟨o1, hE1, d1⟩ := CellsAre.one Y'); subst hE1; clear Y'; (replace d1 : o1.data = .cell none := d1); (replace N' : News g' L' h' ((L' + 1, o1) :: news) := N'); (try dsimp only); (try k_fold))
  k_steps
  · rename_i o6 F6 N6 _ _
    refine hret _ _ _ _ ⟨_, ys, _, rfl, rfl, off1_mem o6.2.2.2, ?_⟩ F6 (cut N6 fun p hp => .tail _ (.tail _ (.tail _ hp)))
    simpa [octs5] using hJ
  · refine LCg.CompEnd.intro F5 N5 _ (fun p hp => hp) off ⟨_, .head _, rfl, _, rfl⟩ ⟨rfl, ?_⟩
    rw [List.take_add_one, hp]
    have e : ((mulN (facN ws) (placedN ps) 8 : Nat) : Int).fdiv (2 ^ Int.toNat (pl : Int)) = ((manyN ws ps / 2 ^ pl : Nat) : Int) := shr_nat _ pl
    rw [e, fmod256]
    simpa using IntsAre.append hJ (.cons _ _ .nil)
  · rename_i hx _ o6 F6 N6 d6
    refine UnrEnd.intro F6 N6 _ (fun p hp => hp) (fun p hp => ?_) ⟨o6, _, rfl, by rw [d6, mul_yes hx], hI0, hI, rfl⟩
    rcases List.mem_cons.mp hp with rfl | hp
    · exact Nat.ne_of_lt hI0
    · rcases List.mem_cons.mp hp with rfl | hp
      · exact neN (by omega)
      · exact Nat.ne_of_lt (hI p hp)
  · rename_i hx
    refine UnrEnd.intro F5 N5 _ (fun p hp => hp) (fun p hp => ?_) ⟨oc, t3, rfl, by rw [mul_no hx]; exact hoc, hI0, hI, rfl⟩
    rcases List.mem_cons.mp hp with rfl | hp
    · exact Nat.ne_of_lt hI0
    · rcases List.mem_cons.mp hp with rfl | hp
      · exact neN (by omega)
      · exact Nat.ne_of_lt (hI p hp)
  · rename_i o6 F6 N6 d6
    have e := shl_nat 256 pl
    rw [show ((256 : Nat) : Int) = 256 from rfl] at e
    rw [e, ← Int.natCast_add, ← placedN_take hpl] at d6
    refine UnrEnd.intro F6 N6 _ (fun p hp => hp) (fun p hp => ?_) ⟨.tail _ (.tail _ hm2), o6, _, rfl, d6, hI0, hI, rfl⟩
    rcases List.mem_cons.mp hp with rfl | hp
    · exact Nat.ne_of_lt hI0
    · rcases List.mem_cons.mp hp with rfl | hp
      · exact neN (by omega)
      · exact Nat.ne_of_lt (hI p hp)
  · rename_i F6 N6
    refine UnrEnd.intro F6 N6 _ (fun p hp => hp) (fun p hp => Nat.ne_of_lt (hI p hp)) ⟨.tail _ (.tail _ hm), rfl, hI, ⟨_, by dsimp only; rw [if_pos rfl, xor_nat, ← facN_take hwd]⟩, rfl, rfl⟩
end M36
end
section
open PySem PySem.W PyProof.Rows
set_option maxRecDepth 100000
set_option maxHeartbeats 8000000
namespace M36
local macro_rules | `(tactic| walk_at "no such key") => `(tactic| fail)
local macro_rules | `(tactic| walk_at "no such key") => `(tactic| fail)
local macro_rules | `(tactic| walk_at "no such key") => `(tactic| fail)
local macro_rules | `(tactic| walk_at "no such key") => `(tactic| fail)
local macro_rules | `(tactic| walk_at "no such key") => `(tactic| fail)
local macro_rules | `(tactic| walk_at "no such key") => `(tactic| fail)
local macro_rules | `(tactic| walk_at "call builtin:next") => `(tactic| k_extra "next")
local macro_rules | `(tactic| walk_at "inplaceOp LShift int int") => `(tactic| k_extra "shl")
local macro_rules | `(tactic| walk_at "exec While") => `(tactic| k_extra "while")
theorem con_parse (w : World) (mean : ExcName → Option Value) (mg mb : Str → Option Value) (I l : Addr) (i k : Nat) (io : Obj) (vs : List Value) (rs chunk rest : List Nat) (news : List (Addr × Obj)) (gg : Obj → List (Addr × Obj))
    (U : UpdF I io news gg) (hl0 : (l, listOf vs.toArray k) ∈ news) (hl1 : ∀ o', (l, listOf vs.toArray k) ∈ gg o') (hio : ItAt io l i) (hvs : IntsAre vs (up rs)) (hrs : rs.drop i = chunk ++ rest) (hc : Chunk chunk) (hc5 : chunk.length ≤ 5) :
    Con w mean mg mb 29 [.ref I] news (fun v news' => ∃ o' t, v = .int (baseN 64 (chunk.map (· % 64)) : Nat) t ∧ news' = gg o' ∧ ItAt o' l (i + chunk.length)) := by
  have hat : ∀ (j x : Nat), chunk[j]? = some x → ∃ t, vs[i + j]? = some (.int (x : Int) t) := fun j x hx => by
    have h1 : rs[i + j]? = some x := by
      rw [← List.getElem?_drop, hrs, List.getElem?_append_left (List.getElem?_eq_some_iff.mp hx).1]; exact hx
    exact IntsAre.get hvs (i + j) x (by rw [List.getElem?_map, h1]; rfl)
  clear hvs
  obtain ⟨hne, hbit⟩ := hc
  have hlen : 0 < chunk.length := List.length_pos_iff.mpr hne
  unfold Con
  w_top off
  k_fill
  k_with_none
  k_with "next" => (
    have hj9 := hj1
    skip
    obtain ⟨y, hy⟩ : ∃ y, chunk[j]? = some y := ⟨_, List.getElem?_eq_getElem hjl⟩
    obtain ⟨ty, hty⟩ := hat j y hy
    rename Fr _ _ _ _ => F6
    rename News _ _ _ _ => N6
    k_dflt (refine lit_next F6 N6 (updF_again U oj) hitj (News.isList N6 (hl1 oj)) (by simpa using hty) ?_)
    intro h7 o7 F7 N7 hit7)
  k_with "next" => (
    have hU := U
    skip
    obtain ⟨x0, hx0⟩ : ∃ x, chunk[0]? = some x := ⟨_, List.getElem?_eq_getElem hlen⟩
    obtain ⟨t0, ht0⟩ := hat 0 x0 hx0
    rename Fr _ _ _ _ => F4
    rename News _ _ _ _ => N4
    k_dflt (refine lit_next F4 N4 U hio (News.isList N4 hl0) (by simpa using ht0) ?_)
    intro h5 o5 F5 N5 hit5)
  k_with "shl" => (
    have hjl : j < chunk.length := by
      have h8 : Builtin.bitAnd ((x : Nat) : Int) 64 ≠ 0 := by assumption
      have h9 := (hbit (j - 1) x hx).mp (by rw [and64] at h8; omega)
      omega
    k_dflt (refine ilshift_int_small (by decide) (by decide) (part_small hc5 j) ?_))
  k_with "while" => (
    rename Fr _ _ _ _ => F4
    rename News _ _ _ _ => N4
    k_dflt (refine' While_inv (n₀ := chunk.length - 1) (fun n m nx => ∃ j x o t tb, 1 ≤ j ∧ j ≤ chunk.length ∧ n = chunk.length - j ∧ chunk[j - 1]? = some x ∧ m (Str.ofString "b") = some (.int ((x : Nat) : Int) tb) ∧ m (Str.ofString "val") = some (.int (baseN 64 ((chunk.take j).map (· % 64)) : Nat) t) ∧ m (Str.ofString "iterator") = some (.ref I) ∧ nx = gg o ∧ ItAt o l (i + j)) F4 N4 ?j0 ?turn; (case j0 => exact ⟨1, x0, o5, _, t0, Nat.le_refl _, hlen, rfl, hx0, rfl, (by rw [one_val hx0]; exact rfl), rfl, rfl, hit5⟩))
    rintro n m nx h tk F5 N5 ⟨j, x, oj, tv, tb, hj1, hj2, rfl, hx, hm1, hm2, hm3, rfl, hitj⟩
    rw [canon3 hm1 hm2 hm3] at F5
    try k_fold)
  intro dp un gd cn cs a ccd cl outer A₀ base h₀ L m s Q E B F X N T hk hd hu hret
  refine wpAny_call ?_
  k_dflt (refine' code_def (binds := [(Str.ofString "iterator", .ref I)]) ?k1 ?k2 ?k3 ?k4 ?k5 ?kA ?kF ?kK ?k6 ?k7 ?k8 ?k9 ?kB ?_ ?c2 ?c3 ?c4 ?c5; (case kA => exact rfl); (case kF => exact rfl); (case kK => assumption); (case k1 => k_asm); (case k2 => k_asm); (case k3 => k_asm); (case k4 => k_asm); (case k5 => k_asm); (case k6 => k_is); (case k7 => k_is); (case k8 => ktr_room); (case k9 => exact BindsTo.of_eq rfl); (case c5 => decide); (case kB => exact locs rfl); (case c2 => exact rfl); (case c3 => exact rfl); (case c4 => exact rfl); k_whole; intro g' L' h' FG' F' N' B' X' T'; (try dsimp only); (try k_fold))
  k_steps
  · rename_i F8 N8
    rw [or_step, ← part_snoc hy] at F8
    refine WhileStep.intro F8 N8 (n' := chunk.length - (j + 1)) (by omega) ⟨j + 1, y, o7, _, ty, by omega, by omega, rfl, hy, rfl, rfl, rfl, rfl, hit7⟩
  · have hjl : j = chunk.length := by
      have h8 : Builtin.bitAnd ((x : Nat) : Int) 64 = 0 := by assumption
      have h9 := hbit (j - 1) x hx
      rw [and64] at h8
      have h10 : ¬ (j - 1 + 1 < chunk.length) := fun q => h9.mpr q (by omega)
      omega
    subst hjl
    rename_i F8 N8 _ _
    exact hret _ _ _ _ ⟨oj, tv, by rw [List.take_of_length_le (Nat.le_refl _)], rfl, hitj⟩ F8 N8
end M36
end
section
open PySem PySem.W PyProof.Rows
set_option maxRecDepth 100000
set_option maxHeartbeats 8000000
namespace M36
local macro_rules | `(tactic| walk_at "no such key") => `(tactic| fail)
local macro_rules | `(tactic| walk_at "no such key") => `(tactic| fail)
local macro_rules | `(tactic| walk_at "no such key") => `(tactic| fail)
local macro_rules | `(tactic| walk_at "no such key") => `(tactic| fail)
local macro_rules | `(tactic| walk_at "no such key") => `(tactic| fail)
local macro_rules | `(tactic| walk_at "no such key") => `(tactic| fail)
local macro_rules | `(tactic| walk_at "no such key") => `(tactic| fail)
local macro_rules | `(tactic| walk_at "no such key") => `(tactic| fail)
local macro_rules | `(tactic| walk_at "call builtin:next") => `(tactic| k_extra "next")
local macro_rules | `(tactic| walk_at "leaving ref") => `(tactic| k_extra "leaving")
theorem con_parse_end (w : World) (mean : ExcName → Option Value) (mg mb : Str → Option Value) (I l : Addr) (i k : Nat) (io : Obj) (vs : List Value) (news : List (Addr × Obj)) (gg : Obj → List (Addr × Obj))
    (U : UpdF I io news gg) (hl0 : (l, listOf vs.toArray k) ∈ news) (hio : ItAt io l i) (hend : vs.length ≤ i) :
    ∀ (dp un : Nat) (gd : Option (List Code)) (cn : Str) (cs : Scope) (a : Addr) (ccd : Value) (outer : List Env) (A₀ : Around) (base h₀ : Heap) (L : Addr) (m : Str → Option Value) (s : Shared) (Q E : Value → Shared → Prop),
    Below A₀ base outer h₀ → Fr h₀ L s.heap m → (hd.heap_39 w.params).In h₀ → News h₀ L s.heap news → Top hd.view_39 Lo mean mg mb h₀ → cs.kind = .function →
    dp + 2 < recursionLimit → un + 16 < cLine →
    (∀ e o' G h' tk', Fr h₀ L G m → RaisedSN base G (envOf cn cs L a ccd :: outer) e (.type "StopIteration") (gg o') h' → G.UpToSlots h' → E (.ref e) { s with heap := h', toks := tk' }) →
    wpAny (model PySem.Challenge.rw_pe0036_01.row.prog w) (ktrTop dp un gd cn cs L a ccd [] outer) (call (.ref 29) [.ref I]) Q E s := by
  w_top off
  k_fill
  k_with_none
  k_with "next" => (
    rename Fr _ _ _ _ => F4
    rename News _ _ _ _ => N4
    k_dflt (refine lit_end rfl F4 N4 U hio (News.isList N4 hl0) (by simpa using hend) ?_)
    intro h5 o5 h6 e5 F5 N5 hx5)
  k_with "leaving" => (
    k_dflt (refine leave_newS B' hx5 F5 N5 ?_)
    intro h7 R7 RN7 U7)
  intro dp un gd cn cs a ccd outer A₀ base h₀ L m s Q E B F X N T hk hd hu hret
  refine wpAny_call ?_
  k_dflt (refine' code_def (binds := [(Str.ofString "iterator", .ref I)]) ?k1 ?k2 ?k3 ?k4 ?k5 ?kA ?kF ?kK ?k6 ?k7 ?k8 ?k9 ?kB ?_ ?c2 ?c3 ?c4 ?c5; (case kA => exact rfl); (case kF => exact rfl); (case kK => assumption); (case k1 => k_asm); (case k2 => k_asm); (case k3 => k_asm); (case k4 => k_asm); (case k5 => k_asm); (case k6 => k_is); (case k7 => k_is); (case k8 => ktr_room); (case k9 => exact BindsTo.of_eq rfl); (case c5 => decide); (case kB => exact locs rfl); (case c2 => exact rfl); (case c3 => exact rfl); (case c4 => exact rfl); k_whole; intro g' L' h' FG' F' N' B' X' T'; (try dsimp only); (try k_fold))
  k_steps
  exact hret _ _ _ _ _ FG' R7 U7
end M36
end
section
open PySem PySem.W PyProof.Rows
set_option maxRecDepth 100000
set_option maxHeartbeats 8000000
namespace M36
local macro_rules | `(tactic| walk_at "no such key") => `(tactic| fail)
local macro_rules | `(tactic| walk_at "no such key") => `(tactic| fail)
local macro_rules | `(tactic| walk_at "no such key") => `(tactic| fail)
local macro_rules | `(tactic| walk_at "no such key") => `(tactic| fail)
local macro_rules | `(tactic| walk_at "no such key") => `(tactic| fail)
local macro_rules | `(tactic| walk_at "no such key") => `(tactic| fail)
local macro_rules | `(tactic| walk_at "call builtin:iter") => `(tactic| k_extra "iter")
local macro_rules | `(tactic| walk_at "exec While") => `(tactic| k_extra "while")
local macro_rules | `(tactic| walk_at "call ref") => `(tactic| k_extra "call")
local macro_rules | `(tactic| walk_at "noteFrame ref") => `(tactic| k_extra "note")
local macro_rules | `(tactic| walk_at "call builtin:list.append") => `(tactic| k_extra "append")
theorem con_read (w : World) (mean : ExcName → Option Value) (mg mb : Str → Option Value) (l : Addr) (k : Nat) (rvs : List Value) (chunks : List (List Nat)) (news : List (Addr × Obj))
    (hl : (l, listOf rvs.toArray k) ∈ news) (hi : IntsAre rvs (up chunks.flatten)) (hc : ∀ c ∈ chunks, Chunk c ∧ c.length ≤ 5) (hn : chunks.length ≤ 100) :
    ∀ (dp un : Nat) (gd : Option (List Code)) (cn : Str) (cs : Scope) (a : Addr) (ccd : Value) (cl : List (Str × Addr)) (A₀ : Around) (h₀ : Heap) (L : Addr) (m : Str → Option Value) (s : Shared) (Q E : Value → Shared → Prop),
    Below A₀ h₀ [] h₀ → Fr h₀ L s.heap m → (hd.heap_39 w.params).In h₀ → News h₀ L s.heap news → Top hd.view_39 Lo mean mg mb h₀ → cs.kind = .function →
    dp + 4 < recursionLimit → un + 32 < cLine →
    (∀ l2 vs k2 h' tk', IntsAre vs (up (chunks.map chunkVal)) → Fr h₀ L h' m → News h₀ L h' ((l2, listOf vs.toArray k2) :: news) → Q (.ref l2) { s with heap := h', toks := tk' }) →
    wpAny (model PySem.Challenge.rw_pe0036_01.row.prog w) (ktrTop dp un gd cn cs L a ccd cl []) (call (.ref 77) [.ref l]) Q E s := by
  w_top off
  k_fill
  k_with_none
  k_with "iter" => (
    rename Fr _ _ _ _ => F4
    rename News _ _ _ _ => N4
    k_dflt (refine lit_iter F4 N4 (News.isList N4 hl) ?_)
    intro I h5 io F5 N5 l5 hit5)
  k_with "while" => (
    rename_i D0 h4 l4 h6 F4 N4
    k_dflt (refine' While_inv (n₀ := chunks.length) (fun n m nx => ∃ c vs kk io, c ≤ chunks.length ∧ n = chunks.length - c ∧ nx = (D0, listOf (List.toArray vs) kk) :: (I, io) :: news ∧ IntsAre vs (up ((chunks.take c).map chunkVal)) ∧ ItAt io l (chunks.take c).flatten.length ∧ m (Str.ofString "stream") = some (.ref I) ∧ m (Str.ofString "told") = some (.ref D0)) F4 N4 ?j0 ?_; (case j0 => exact ⟨0, [], 0, io, Nat.zero_le _, rfl, rfl, .nil, hit5, rfl, rfl⟩))
    rintro n m nx h tk F5 N5 ⟨c, vs, kk, io, hcl, rfl, rfl, hvs, hitc, hm1, hm2⟩
    rw [canon2 hm1 hm2] at F5
    try k_fold)
  k_with "call" => (
    by_cases hlt : c < chunks.length
    case' pos =>
      obtain ⟨ch, hch⟩ : ∃ ch, chunks[c]? = some ch := ⟨_, List.getElem?_eq_getElem hlt⟩
      have hgood := hc ch (List.mem_of_getElem? hch)
      have U5 : UpdF I io ((D0, listOf vs.toArray kk) :: (I, io) :: news) (fun o' => (D0, listOf vs.toArray kk) :: (I, o') :: news) := .tail (Nat.ne_of_gt l4.1) (.head fun p hp => Nat.ne_of_lt (l5 p hp))
      k_dflt (refine Con.use (con_parse w mean mg mb I l _ k io rvs chunks.flatten ch _ _ _ U5 (.tail _ (.tail _ hl)) (fun _ => .tail _ (.tail _ hl)) hitc hi (flat_drop hch) hgood.1 hgood.2) B' F5 X' N5 T' rfl ?cd ?cu ?_)
      case cd => ktr_room
      case cu => ktr_units
      rintro v9 n9 h9 tk9 ⟨o9, t9, rfl, rfl, hit9⟩ F9 N9
      try k_fold
    case' neg =>
      have U5 : UpdF I io ((D0, listOf vs.toArray kk) :: (I, io) :: news) (fun o' => (D0, listOf vs.toArray kk) :: (I, o') :: news) := .tail (Nat.ne_of_gt l4.1) (.head fun p hp => Nat.ne_of_lt (l5 p hp))
      have hce : c = chunks.length := by omega
      have hend : rvs.length ≤ (chunks.take c).flatten.length := by
        rw [hce, List.take_of_length_le (Nat.le_refl _)]
        have := hi.length
        simp only [List.length_map] at this
        omega
      k_dflt (refine con_parse_end w mean mg mb I l _ k io rvs _ _ U5 (.tail _ (.tail _ hl)) hitc hend _ _ _ _ _ _ _ _ _ _ _ _ _ _ _ _ B' F5 X' N5 T' rfl ?ed ?eu ?_)
      case ed => ktr_room
      case eu => ktr_units
      intro e9 o9 G9 h9 tk9 FG9 R9 U9
      try k_fold)
  k_with "append" => (
    have hsz : vs.toArray.size ≤ sizeLine := by
      rw [List.size_toArray, hvs.length, sizeLine_eq]
      simp only [List.length_map, List.length_take]
      omega
    k_dflt (refine append_K F9 N9 (.head fun p hp => ?ad) ?_ hsz)
    case ad =>
      rcases List.mem_cons.mp hp with rfl | hp
      · exact Nat.ne_of_lt l4.1
      · exact Nat.ne_of_lt (allLt_mem l4.2 p hp)
    intro h7 F7 N7
    rw [List.push_toArray] at N7)
  k_with "note" => (
    k_dflt (refine' caught_SN0 (x := Str.ofString "StopIteration") (T' := "StopIteration") R9 FG9 B' U9 X T D' (KtsTurn.refl) ?n1 ?n2 ?n3 stop_isExc stop_notTuple stop_self ?_; (case n1 => k_is); (case n2 => decide +kernel); (case n3 => decide +kernel))
    intro h8 g8 TT8 F8 N8 B8 X8 T8 D8)
  intro dp un gd cn cs a ccd cl A₀ h₀ L m s Q E B F X N T hk hd hu hret
  refine wpAny_call ?_
  k_dflt (refine' code_defSX (binds := [(Str.ofString "octets", .ref l)]) ?k1 ?k2 ?k3 ?k4 ?k5 ?kA ?kF ?kK ?k6 ?k7 ?k8 ?k9 ?kB ?_ ?c2 ?c3 ?c4 ?c5; (case kA => exact rfl); (case kF => exact rfl); (case kK => assumption); (case k1 => exact B); (case k2 => k_asm); (case k3 => k_asm); (case k4 => k_asm); (case k5 => k_asm); (case k6 => k_is); (case k7 => k_is); (case k8 => ktr_room); (case k9 => exact BindsTo.of_eq rfl); (case c5 => decide); (case kB => exact locs rfl); (case c2 => exact rfl); (case c3 => exact rfl); (case c4 => exact rfl); k_whole; intro g' L' h' FG' F' N' B' X' T' D' l1; (try dsimp only); (try k_fold))
  k_steps
  · rw [hce, List.take_of_length_le (Nat.le_refl _)] at hvs
    refine hret D0 vs kk _ _ hvs (by assumption) (cb_drop (news' := (D0, listOf vs.toArray kk) :: (I, o9) :: news) (by assumption) fun p hp => ?_)
    rcases List.mem_cons.mp hp with rfl | hp
    · exact .head _
    · exact .tail _ (.tail _ hp)
  · refine WhileStep.intro F7 N7 (n' := chunks.length - (c + 1)) (by omega) ⟨c + 1, _, kk + 1, o9, by omega, rfl, rfl, ?_, ?_, rfl, rfl⟩
    · rw [List.take_add_one, hch, List.map_append]
      have e : up ((chunks.take c).map chunkVal ++ (some ch).toList.map chunkVal) = up ((chunks.take c).map chunkVal) ++ [((chunkVal ch : Nat) : Int)] := by simp [up]
      rw [e]
      exact IntsAre.append hvs (.cons _ _ .nil)
    · rw [flat_len hch]; exact hit9
end M36
end
section
open PySem PySem.W PyProof.Rows
set_option maxRecDepth 100000
set_option maxHeartbeats 80000000
namespace M36
local macro_rules | `(tactic| walk_at "call ref") => `(tactic| k_extra "call")
local macro_rules | `(tactic| walk_at "exec For") => `(tactic| (k_here; (rename Fr _ _ _ _ => lF'); (with_unfolding_all refine' For_invVF lF' ?k1 ?k2 ?_; (case k1 => exact rfl); (case k2 => exact rfl); k_whole)))
local macro_rules | `(tactic| walk_at "pyIter ref") => `(tactic| k_extra "loop")
local macro_rules | `(tactic| walk_at "exec Assign cons ListComp") => `(tactic| k_extra "acomp")
local macro_rules | `(tactic| walk_at "eval ListComp") => `(tactic| k_extra "comp")
local macro_rules | `(tactic| walk_at "CompSrcT") => `(tactic| k_extra "srcT")
local macro_rules | `(tactic| walk_at "CompSrc") => `(tactic| k_extra "srcU")
local macro_rules | `(tactic| walk_at "compareOp In str ref") => `(tactic| k_extra "in")
local macro_rules | `(tactic| walk_at "subscriptTail Name Name ref int") => `(tactic| k_extra "sub")
local macro_rules | `(tactic| walk_at "call builtin:str.join") => `(tactic| k_extra "join")
local macro_rules | `(tactic| walk_at "CompEnd") => `(tactic| k_extra "cend")
local macro_rules | `(tactic| walk_at "exec If") => `(tactic| k_extra "if")
local macro_rules | `(tactic| walk_at "NoAt") => `(tactic| k_extra "no")
local macro_rules | `(tactic| walk_at "newList") => `(tactic| (k_here; k_dflt (refine' newList_K ?k1 ?k2 ?_ (Nat.le_of_ble_eq_true rfl); (case k1 => k_asm); (case k2 => k_asm); k_whole); intro l' h' F' N' l1; (try k_lt l1); (try k_sweep)))
local macro_rules | `(tactic| walk_at "subscriptTail Name Slice ref ref") => `(tactic| k_extra "slice")
local macro_rules | `(tactic| walk_at "subscriptTail Name Constant ref int") => `(tactic| k_extra "isub")
local macro_rules | `(tactic| walk_at "binaryOp Add ref ref") => `(tactic| k_extra "add")
local macro_rules | `(tactic| walk_at "UnrEnd") => `(tactic| k_extra "unr")
local macro_rules | `(tactic| walk_at "compareOp Eq ref ref") => `(tactic| k_extra "eq")
theorem law_walk : PySem.Challenge.rw_pe0036_01.Holds := hd (by
  k_with_none
  k_with "acomp" => (
    skip
    k_dflt (refine' LCt.Assign_ListComp_T (by k_asm) (by rfl) (by with_unfolding_all rfl) (by with_unfolding_all rfl) (by decide) (by rfl) (by decide) (by rfl) (by rfl) (by rfl) ?_))
  k_with "srcT" => (
    skip
    k_dflt (refine LCt.CompSrcT.range (by rfl) (by k_asm) (by k_asm) (by assumption) (by decide) (n := 32) (by decide) (Nat.le_of_ble_eq_true rfl) ?_)
    intro g5
    k_dflt (refine compT_rest (fun i ys => IntsAre ys (up ((List.range i).filter (flagsN y).testBit))) .nil ?pturn ?pfin)
    case' pturn =>
      rintro i v I2 oI C oC D m₂ ys h tk E' hi5 ⟨tp, rfl⟩ hJ hC hx F5 N5 off ne
      have hnow := hi5
      simp only [LCg.Off3] at off
      try k_fold
    case' pfin =>
      intro vP hP
      have hPat : ∀ {i : Nat} {v : Value}, vP[i]? = some v → ∃ (n : Nat) (t : Tok), v = .int (n : Int) t ∧ (placesN (flagsN y))[i]? = some n := fun hv => places_at hP hv
      have hPf : ∀ _ : Unit, IntsAre vP (up (placesN (flagsN y))) := fun _ => places_of hP
      have hPlen : vP.length = (placesN (flagsN y)).length := up_len (places_of hP))
  k_with "no" => (
    have h9 := hf0
    skip
    skip
    k_dflt (refine NoAt.intro (no_text hf0) (by k_asm) (by k_asm) (by first | exact fun p hp => hp | exact fun p hp => .tail _ hp)))
  k_with "no" => (
    have h9 := hf0
    skip
    skip
    k_dflt (refine NoAt.intro (no_zero hf0) (by k_asm) (by k_asm) (by first | exact fun p hp => hp | exact fun p hp => .tail _ hp)))
  k_with "no" => (
    have h9 := hTf
    (fail_if_success (have h8 := hEq))
    skip
    k_dflt (refine NoAt.intro (no_crc y) (by k_asm) (by k_asm) (by first | exact fun p hp => hp | exact fun p hp => .tail _ hp))
    skip)
  k_with "no" => (
    have h9 := hEq
    (fail_if_success (have h8 := hLf))
    skip
    k_dflt (refine NoAt.intro (no_same y) (by k_asm) (by k_asm) (by first | exact fun p hp => hp | exact fun p hp => .tail _ hp))
    skip)
  k_with "srcU" => (
    have h9 := hTf
    (fail_if_success (have h8 := hShort))
    skip
    skip
    k_dflt (refine LCg.CompSrc.ledger (its := List.toArray vT) (by rfl) (by k_asm) (by k_asm) (by k_mem) (told_size (hTf ())) ?_)
    intro g5
    k_dflt (refine comp_rest (fun i ys => IntsAre ys (up (((toldN (flagsN y)).take i).map (· % 128)))) .nil ?lturn ?lfin)
    case' lturn =>
      intro i v I2 oI C oC D m₂ ys h tk E' hi5 hv hJ hC hx F5 N5 off ne
      obtain ⟨ot, tp, rfl, hot⟩ := up_at (hTf ()) (by simpa using hv)
      simp only [LCg.Off3] at off
      try k_fold
    case' lfin =>
      intro vL hL9
      have hLf : ∀ _ : Unit, IntsAre vL (up (plainN (flagsN y))) := fun _ => plain_of (told_five (hTf ())) hL9
      clear hL9)
  k_with "slice" => (
    have h9 := hGf
    skip
    skip
    rename Fr _ _ _ _ => F4
    rename News _ _ _ _ => N4
    k_dflt (refine' kmk_slice_ints F4 N4 (News.isList N4 ?slm) ?slp ?slq (hGf ()) (kmk_upto (hGf ()) ?slr) rfl ?_ ?sls ?slt (figs_size (hGf ())); (case slm => k_mem); (case slp => kmk_part); (case slq => kmk_part); (case slr => decide); (case sls => with_unfolding_all rfl); (case slt => kmk_pure))
    intro lS wS hS0 FS NS lS1 hS hC' hL'
    clear hC' hL'
    (have hSf : ∀ _ : Unit, IntsAre wS (up ((figsN (flagsN y)).take 4)) := fun _ => figs_take hS)
    clear hS
    (try k_lt lS1)
    (try k_sweep)
    skip)
  k_with "isub" => (
    have h9 := hGf
    skip
    skip
    rename News _ _ _ _ => N4
    k_dflt (refine' item_list_ints (News.isList N4 ?im) (hGf ()) (by decide) (figs_four _) (by decide) ?_; (case im => k_mem))
    intro ti
    skip)
  k_with "call" => (
    have h9 := hGf
    (fail_if_success (have h8 := hSf))
    with_reducible show wpAny _ _ (call (Value.ref 70) _) _ _ _
    skip
    skip
    rename Fr _ _ _ _ => F4
    rename News _ _ _ _ => N4
    k_dflt (refine Con.use (con_number _ _ _ _ _ _ vG (figsN (flagsN y)) _ (by k_mem) (hGf ()) (figs_lt _) (Nat.le_refl 5)) (by k_asm) F4 (by k_asm) N4 (by k_asm) (by exact rfl) (by ktr_room) (by ktr_units) ?_)
    rintro v8 n8 h8 tk8 ⟨⟨t8, rfl⟩, rfl⟩ F8 N8
    skip
    try k_fold)
  k_with "call" => (
    have h9 := hSf
    with_reducible show wpAny _ _ (call (Value.ref 70) _) _ _ _
    skip
    skip
    rename Fr _ _ _ _ => F4
    rename News _ _ _ _ => N4
    k_dflt (refine Con.use (con_number _ _ _ _ _ _ wS ((figsN (flagsN y)).take 4) _ (by k_mem) (hSf ()) (figs_lt4 _) (Nat.le_succ 4)) (by k_asm) F4 (by k_asm) N4 (by k_asm) (by exact rfl) (by ktr_room) (by ktr_units) ?_)
    rintro v8 n8 h8 tk8 ⟨⟨t8, rfl⟩, rfl⟩ F8 N8
    skip
    try k_fold)
  k_with "add" => (
    have h9 := hGf
    (fail_if_success (have h8 := hSf))
    (fail_if_success (have h8 := hDf))
    skip
    skip
    rename Fr _ _ _ _ => F4
    rename News _ _ _ _ => N4
    k_dflt (refine' kmk_add_ints F4 N4 (News.isList N4 ?ad1) (News.isList N4 ?ad2) hd (.cons _ _ .nil) ?_ (due_room (Nat.le_of_ble_eq_true rfl)); (case ad1 => k_mem); (case ad2 => k_mem))
    intro lD uD hD0 FD ND lD1 hDD
    (have hDr := fun _ : Unit => lD1)
    rename (¬ @Eq Int _ 1) => hs0
    (have hDf : ∀ _ : Unit, IntsAre uD (up (dueN _)) := fun _ => due_one hy hs0 hDD)
    clear hDD
    (try k_lt lD1)
    (try k_sweep)
    skip)
  k_with "add" => (
    have h9 := hSf
    (fail_if_success (have h8 := hDf))
    skip
    skip
    rename Fr _ _ _ _ => F4
    rename News _ _ _ _ => N4
    k_dflt (refine' kmk_add_ints F4 N4 (News.isList N4 ?ad1) (News.isList N4 ?ad2) hd (.cons _ _ (.cons _ _ .nil)) ?_ (due_room (Nat.le_of_ble_eq_true rfl)); (case ad1 => k_mem); (case ad2 => k_mem))
    intro lD uD hD0 FD ND lD1 hDD
    (have hDr := fun _ : Unit => lD1)
    rename (@Eq Int _ 1) => hs1
    (have hDf : ∀ _ : Unit, IntsAre uD (up (dueN _)) := fun _ => due_two hy hs1 hDD)
    clear hDD
    (try k_lt lD1)
    (try k_sweep)
    skip)
  k_with "add" => (
    have h9 := hDf
    skip
    skip
    rename Fr _ _ _ _ => F4
    rename News _ _ _ _ => N4
    k_dflt (refine' kmk_add_ints F4 N4 (News.isList N4 ?ad1) (News.isList N4 ?ad2) hr (hTf ()) ?_ row_room; (case ad1 => k_mem); (case ad2 => k_mem))
    intro lR uR hR0 FR NR lR1 hRR
    (have hRr := fun _ : Unit => lR1)
    (have hRf : ∀ _ : Unit, IntsAre uR (up (rowN _)) := fun _ => row_next hy hRR)
    clear hRR
    (try k_lt lR1)
    (try k_sweep)
    skip)
  k_with "unr" => (
    have h9 := hRf
    skip
    skip
    rename Fr _ _ _ _ => F4
    rename News _ _ _ _ => N4
    rename (Obj.data _ = Data.cell (some (Value.ref lW))) => hcw
    have hlt := next_lts lts (hDr ()) (hRr ()) (by k_mem) (by k_mem) (by k_mem) (by k_mem) (by k_mem) (by k_mem)
    k_dflt (refine' UnrEnd.intro F4 N4 _ ?usub (lts_off hlt) ⟨?umem, lR, uR, 0, lD, uD, 0, _, _, rfl, hRf (), hDf (), hcw, rfl, rfl, hlt⟩)
    case usub => k_dflt (refine' sub7 ?_ ?_ ?_ ?_ ?_ ?_ ?_ <;> k_mem)
    case umem => exact .head _
    skip)
  k_with "eq" => (
    have h9 := hDone
    skip
    rename News _ _ _ _ => N4
    k_dflt (refine ke_eq_ints (News.isList N4 (by k_mem)) (News.isList N4 (by k_mem)) hi2 hd (by ke_room) ?_)
    rw [decide_eq_true rfl]
    skip)
  k_with "call" => (
    with_reducible show wpAny _ _ (call (Value.ref 77) _) _ _ _
    skip
    skip
    rename Fr _ _ _ _ => F4
    rename News _ _ _ _ => N4
    k_dflt (refine con_read _ _ _ _ ra kr rv (chunksAll _) _ (by k_mem) (by rw [all_flat]; exact hr) (all_ok _) (all_small _ _ _) _ _ _ _ _ _ _ _ _ _ _ _ _ _ _ (by k_asm) F4 (by k_asm) N4 (by k_asm) (by exact rfl) (by ktr_room) (by ktr_units) ?_)
    intro l2 v2 k2 h2 tk2 hi2 F2 N2
    rw [all_val] at hi2
    (have hDone := hi2.length)
    skip
    try k_fold)
  k_with "no" => (
    have h9 := hLf
    skip
    skip
    k_dflt (refine NoAt.intro (no_plain y) (by k_asm) (by k_asm) (by first | exact fun p hp => hp | exact fun p hp => .tail _ hp))
    skip)
  k_with "srcU" => (
    have h9 := hShort
    skip
    skip
    k_dflt (refine LCg.CompSrc.ledger (its := List.toArray vT) (by rfl) (by k_asm) (by k_asm) (by k_mem) (told_size (hTf ())) ?_)
    intro g5
    k_dflt (refine comp_rest (fun i ys => IntsAre ys (up (((toldN (flagsN y)).take i).map (· % 64)))) .nil ?gturn ?gfin)
    case' gturn =>
      intro i v I2 oI C oC D m₂ ys h tk E' hi5 hv hJ hC hx F5 N5 off ne
      obtain ⟨ot, tp, rfl, hot⟩ := up_at (hTf ()) (by simpa using hv)
      simp only [LCg.Off3] at off
      try k_fold
    case' gfin =>
      intro vG hG9
      have hGf : ∀ _ : Unit, IntsAre vG (up (figsN (flagsN y))) := fun _ => figs_of (told_five (hTf ())) hG9
      clear hG9)
  k_with "call" => (
    have h9 := hLf
    with_reducible show wpAny _ _ (call (Value.ref 53) _) _ _ _
    skip
    rename Fr _ _ _ _ => F4
    rename News _ _ _ _ => N4
    k_dflt (refine Con.use (con_one _ _ _ _ _ _ vL (plainN (flagsN y)) _ (by k_mem) (hLf ()) (plain_lt _) (Nat.le_refl 5)) (by k_asm) F4 (by k_asm) N4 (by k_asm) (by exact rfl) (by ktr_room) (by ktr_units) ?_)
    rintro v3 n3 h3 tk3 ⟨⟨t3, rfl⟩, rfl⟩ F3 N3
    skip
    try k_fold)
  k_with "acomp" => (
    have h9 := hTf
    skip
    k_dflt (refine' LCg.Assign_ListComp_U (by k_asm) (by rfl) (by with_unfolding_all rfl) (by with_unfolding_all rfl) (by decide) (by rfl) (by decide) (by rfl) (by rfl) (by rfl) ?_))
  k_with "call" => (
    have h9 := hTf
    with_reducible show wpAny _ _ (call (Value.ref 63) _) _ _ _
    skip
    rename Fr _ _ _ _ => F4
    rename News _ _ _ _ => N4
    k_dflt (refine Con.use (con_odd _ _ _ _ _ _ _ _ vW _ (wordsN (flagsN y)) shortC _ (by k_mem) hW (by k_mem) (.cons _ _ (.cons _ _ (.cons _ _ (.cons _ _ (.cons _ _ .nil))))) (words_len _)) (by k_asm) F4 (by k_asm) N4 (by k_asm) (by exact rfl) (by ktr_room) (by ktr_units) ?_)
    rintro vs ns hs tks ⟨⟨tS, rfl⟩, rfl⟩ FS NS
    (have hShort : shortN (flagsN y) = shortN (flagsN y) := rfl)
    skip
    try k_fold)
  k_with "call" => (
    have h9 := hTf
    with_reducible show wpAny _ _ (call (Value.ref 63) _) _ _ _
    skip
    rename Fr _ _ _ _ => F4
    rename News _ _ _ _ => N4
    k_dflt (refine Con.use (con_odd _ _ _ _ _ _ _ _ vW _ (wordsN (flagsN y)) wideC _ (by k_mem) hW (by k_mem) (.cons _ _ (.cons _ _ (.cons _ _ (.cons _ _ (.cons _ _ (.cons _ _ .nil)))))) (words_len _)) (by k_asm) F4 (by k_asm) N4 (by k_asm) (by exact rfl) (by ktr_room) (by ktr_units) ?_)
    rintro vw nw hw tkw ⟨⟨tW, rfl⟩, rfl⟩ FW NW
    skip
    try k_fold)
  k_with "eq" => (
    have h9 := hTf
    skip
    skip
    rename News _ _ _ _ => N4
    k_dflt (refine ke_eq_ints (News.isList N4 (by k_mem)) (News.isList N4 (by k_mem)) (hTf ()) (hOf ()) (by ke_room) ?_)
    (have hEq : flagsN y = flagsN y := rfl))
  k_with "call" => (
    have h9 := hTf
    with_reducible show wpAny _ _ (call (Value.ref 36) _) _ _ _
    skip
    rename Fr _ _ _ _ => F4
    rename News _ _ _ _ => N4
    k_dflt (refine Con.use (con_crc _ _ _ _ _ _ _ (by first | exact one_lt (told_lt _) rfl | exact one_lt (plain_lt _) rfl)) (by k_asm) F4 (by k_asm) N4 (by k_asm) (by exact rfl) (by ktr_room) (by ktr_units) ?_)
    rintro v6 n6 h6 tk6 ⟨⟨t6, rfl⟩, rfl⟩ F6 N6
    skip
    try k_fold)
  k_with "call" => (
    have h9 := hTf
    (fail_if_success (have h8 := hLf))
    with_reducible show wpAny _ _ (call (Value.ref 53) _) _ _ _
    skip
    rename Fr _ _ _ _ => F4
    rename News _ _ _ _ => N4
    k_dflt (refine Con.use (con_one _ _ _ _ _ _ vT (toldN (flagsN y)) _ (by k_mem) (hTf ()) (told_lt _) (Nat.le_refl 5)) (by k_asm) F4 (by k_asm) N4 (by k_asm) (by exact rfl) (by ktr_room) (by ktr_units) ?_)
    rintro v3 n3 h3 tk3 ⟨⟨t3, rfl⟩, rfl⟩ F3 N3
    skip
    try k_fold)
  k_with "call" => (
    have h9 := hPf
    rename Fr _ _ _ _ => F4
    rename News _ _ _ _ => N4
    k_dflt (refine' Con.use (con_told _ _ _ _ _ _ _ _ _ _ _ _ _ ?tm1 hW ?tm2 (hPf ()) (words_len _) places_lt) ?tna F4 ?tnc N4 ?tne ?tnk ?tnf ?tng ?_; (case tm1 => k_mem); (case tm2 => k_mem); (case tna => k_asm); (case tnk => exact rfl); (case tnc => k_asm); (case tne => k_asm))
    case tnf => ktr_room
    case tng => ktr_units
    rintro vt nt ht tkt ⟨lT, vT, kT, rfl, rfl, neT0, hT⟩ FT NT
    (have hTf : ∀ _ : Unit, IntsAre vT (up (toldN (flagsN y))) := fun _ => told_of hT)
    clear hT
    simp only [List.mem_cons, forall_eq_or_imp, List.not_mem_nil, false_implies, implies_true, and_true] at neT0
    skip
    try k_fold)
  k_with "sub" => (
    skip
    rename News _ _ _ _ => N4
    skip
    have s0 := idx_ok hnow
    skip
    k_dflt (refine' item_strsR (News.isList N4 ?sm) hN (idx_lo _) (idx_ok hnow) (idx_fit hnow) ?_ ?shs; (case sm => k_mem); (case shs => with_unfolding_all rfl))
    intro ts
    rw [nm_item hnow])
  k_with "sub" => (
    have h9 := hpl
    skip
    skip
    k_dflt (refine' item_strsR (News.isList N5 ?sm2) hN (idx_lo' _) (idx_ok' hnow) (idx_fit' hnow) ?_ ?shs2; (case sm2 => k_mem); (case shs2 => with_unfolding_all rfl))
    intro ts
    rw [nm_item' hnow]
    k_dflt (refine' LCg.CompEnd.intro F5 N5 _ (fun p hp => hp) off (src_at ?sm3) ⟨rfl, names_step hpl hJ⟩; (case sm3 => k_mem))
    skip)
  k_with "in" => (
    skip
    skip
    rename News _ _ _ _ => N4
    k_dflt (refine' in_list_strs (News.isList N4 ?im) hW ?_; (case im => k_mem))
    rw [name_in hnow]
    k_dflt (refine wpAny_truthy_bool ?_)
    cases hb : (flagsN y).testBit i
    case' false =>
      k_dflt (rw [if_neg (fun e => nomatch e)])
      k_dflt (exact LCg.CompEnd.intro F5 N4 _ (fun p hp => hp) off trivial ⟨rfl, places_no hb hJ⟩)
    case' true =>
      k_dflt (rw [if_pos rfl])
      try k_fold)
  k_with "cend" => (
    have h9 := hot
    skip
    skip
    k_dflt (first | rw [fmod128] | rw [fmod64])
    k_dflt (exact LCg.CompEnd.intro F5 N5 _ (fun p hp => hp) off (src_at (by k_mem)) ⟨rfl, mod_step hot hJ⟩))
  k_with "cend" => (
    (fail_if_success (have h9 := hot))
    skip
    skip
    k_dflt (exact LCg.CompEnd.intro F5 N4 _ (fun p hp => hp) off trivial ⟨rfl, places_yes hb hJ⟩))
  k_with "comp" => (
    skip
    k_dflt (refine LCg.ListComp_U (F₀ := by k_asm) (by with_unfolding_all rfl) (by decide) (by rfl) (by decide) (by rfl) ?_))
  k_with "srcU" => (
    (fail_if_success (have h9 := hTf))
    skip
    k_dflt (refine' LCg.CompSrc.ledger (its := List.toArray vP) (by rfl) ?u1 ?u2 ?u3 ?u4 ?_; (case u1 => k_asm); (case u2 => k_asm); (case u3 => k_mem))
    case u4 =>
      rw [List.size_toArray, hPlen, sizeLine_eq]
      have := places_len (flagsN y)
      omega
    intro g5
    k_dflt (refine comp_rest (fun i ys => StrsAre ys (((placesN (flagsN y)).take i).map nm)) .nil ?qturn ?qfin)
    case' qturn =>
      intro i v I2 oI C oC D m₂ ys h tk E' hi5 hv hJ hC hx F5 N5 off ne
      obtain ⟨pl, tp, rfl, hpl⟩ := hPat (by simpa using hv)
      have hnow := places_lt pl (List.mem_of_getElem? hpl)
      simp only [LCg.Off3] at off
      try k_fold
    case' qfin =>
      intro vJ hJ
      rw [List.take_of_length_le (by rw [List.size_toArray, hPlen]; exact Nat.le_refl _), map_places] at hJ)
  k_with "join" => (
    skip
    rename News _ _ _ _ => N4
    k_dflt (refine' join_listC (ys := wdN (flagsN y) 32) (News.isList N4 ?jm) hJ sep_len (wdN_ok _ 32 (Nat.le_refl _)) ?_; (case jm => k_mem))
    intro tj kj
    skip
    k_dflt (refine P.truthy_str (wd_fit _) ?_)
    by_cases hf0 : flagsN y = 0
    case' pos =>
      rw [wd_zero hf0]
      k_dflt (rw [if_neg (fun e => nomatch e)])
      try k_fold
    case' neg =>
      rw [wd_more (flags_lt y) hf0]
      k_dflt (rw [if_pos rfl])
      try k_fold)
  k_with "if" => (
    (fail_if_success (have h8 := hShort))
    skip
    skip
    rename Fr _ _ _ _ => F4
    rename News _ _ _ _ => N4
    k_dflt (refine If_cut F4 N4 ?_ (fun hI tkI FI NI => ?_))
    all_goals (try k_fold))
  k_with "call" => (
    skip
    have h9 := hcr
    rw [cut_eq, hi_eq, xor_nat]
    skip
    rename Fr _ _ _ _ => F4
    rename News _ _ _ _ => N4
    k_dflt (refine' Con.use (con_pretty _ _ _ _ (flagsN y) _ _ (flags_lt y)) ?pna F4 ?pnc N4 ?pne ?pnk ?pnf ?png ?_; (case pna => k_asm); (case pnk => exact rfl); (case pnc => k_asm); (case pne => k_asm))
    case pnf => ktr_room
    case png => ktr_units
    rintro v7 n7 h7 tk7 ⟨⟨t7, rfl⟩, rfl⟩ F7 N7
    try k_fold)
  k_with "call" => (
    skip
    have h9 := hone
    k_dflt (refine' Con.use (con_crc _ _ _ _ _ _ _ hone) ?cna F3 ?cnc N3 ?cne ?cnk ?cnf ?cng ?_; (case cna => k_asm); (case cnk => exact rfl); (case cnc => k_asm); (case cne => k_asm))
    case cnf => ktr_room
    case cng => ktr_units
    rintro v6 n6 h6 tk6 ⟨⟨t6, rfl⟩, rfl⟩ F6 N6
    clear hone
    (have hcr : flagsN y = crcN (oneN (octN (numN y))) ^^^ hiN y := rfl)
    try k_fold)
  k_with "call" => (
    skip
    have h9 := hO
    rename Fr _ _ _ _ => F4
    rename News _ _ _ _ => N4
    k_dflt (refine' Con.use (con_one _ _ _ _ _ _ _ (octN (numN y)) _ (List.mem_of_getElem? (i := 0) rfl) hO (octN_lt _) (Nat.le_refl 5)) ?ona F4 ?onc N4 ?one ?onk ?onf ?ong ?_; (case ona => k_asm); (case onk => exact rfl); (case onc => k_asm); (case one => k_asm))
    case onf => ktr_room
    case ong => ktr_units
    rintro v3 n3 h3 tk3 ⟨⟨t3, rfl⟩, rfl⟩ F3 N3
    (have hone := one_lt (octN_lt (numN y)) rfl)
    try k_fold)
  k_with "call" => (
    skip
    rw [cut_eq, num_eq]
    skip
    k_dflt (refine' Con.use (con_octets _ _ _ _ _ _ _ (num_lt y)) ?oa ?ob ?oc ?od ?oe rfl ?of ?og ?_; (case oa => k_asm); (case ob => k_asm); (case oc => k_asm); (case od => k_asm); (case oe => k_asm))
    case of => ktr_room
    case og => ktr_units
    rintro v2 n2 h2 tk2 ⟨lO, vO, kO, rfl, rfl, ltO0, hO⟩ F2 N2
    (have hOf : ∀ _ : Unit, IntsAre vO (up (octN (numN y))) := fun _ => oct_of hO)
    (have ltO1 := allLt_of ltO0)
    simp only [AllLt, and_true] at ltO1
    try k_fold)
  k_with "call" => (
    skip
    k_dflt (refine' Con.use (con_names _ _ _ _ _) ?na ?nb ?nc ?nd ?ne rfl ?nf ?ng ?_; (case na => k_asm); (case nb => k_asm); (case nc => k_asm); (case nd => k_asm); (case ne => k_asm))
    case nf => ktr_room
    case ng => ktr_units
    rintro v1 n1 h1 tk1 ⟨lN, vN, kN, rfl, rfl, ltN0, hN⟩ F1 N1
    (have ltN1 := allLt_of ltN0)
    simp only [AllLt, and_true] at ltN1
    try k_fold)
  k_with "call" => (
    skip
    rename Fr _ _ _ _ => F4
    rename News _ _ _ _ => N4
    k_dflt (refine' KSpl.split1 F4 N4 ?sp1 ?_ (text_len _); (case sp1 => decide))
    intro lW l9 h9 k9 e9 hW F9 N9 ltW0
    rw [e9, split_text (flags_lt y)] at hW
    generalize strValues l9 = vW at hW N9
    clear e9 l9
    (have ltW1 := allLt_of ltW0)
    simp only [AllLt, and_true] at ltW1
    try k_fold)
  k_with "loop" => (
    skip
    rename Fr _ _ _ _ => F4
    rename News _ _ _ _ => N4
    rename IntsAre _ (_ ++ _) => hX
    k_dflt (refine' iter_law rfl F4 N4 hX ?iw rfl rfl ?il ?iturn ?idone; (case iw => assumption); (case il => omega))
    case' iturn =>
      intro I i y t it ra rv kr da dv kd ow q m h tk hy hit hr hd how hm1 hm2 lts F5 N5
      rw [canon2 hm1 hm2] at F5
      try k_fold
    case' idone =>
      intro I ra rv kr da dv kd ow q m h tk hr hd how hm1 hm2 lts F5 N5
      rw [canon2 hm1 hm2] at F5
      try k_fold)
  w_strict (k_go0; (all_goals try k_fold); k_steps))
end M36
end
theorem PySem.Challenge.cw_pe0036_01_holds : PySem.Challenge.rw_pe0036_01.Holds :=
  M36.law_walk
