import PyProof.Rows.All
import Wide.All
import OpenK.AllK
import Wide.FinOn
import PySem.Challenge.RW_nb0066_01
open PySem PySem.W PyProof.Rows
set_option Elab.async false
set_option maxRecDepth 100000
set_option maxHeartbeats 8000000
namespace Mine
open_top hd for PySem.Challenge.rw_nb0066_01
open PySem.Spec PySem.Calls PyProof.V

/-! part FE -/
/-- a range's iterator, as an object -/
abbrev iterObj (x left : Int) : Obj := { cls := .type "range_iterator", dict := none, data := .fields #[rawInt x, rawInt left, rawInt 1], slots := #[] }
section
variable {prog : Program} {w : World} {A : Around} {E : Value → Shared → Prop} {s : Shared} {env : Env} {h₀ : Heap} {x : Str} {px : Pos} {body orelse : List Stmt} {Q : Flow → Shared → Prop}

/-- what a for with an else asks of its loop -/
def LoopElse (prog : Program) (w : World) (A : Around) (env : Env) (x : Str) (px : Pos) (body orelse : List Stmt) (Q : Flow → Shared → Prop) (E : Value → Shared → Prop) (it : Value) (s₂ : Shared) : Prop :=
  codeAny (model prog w) A (.forLoop (.Name x px) it body orelse env) (fun r s' => match r with | .ok f => Q f s' | .error e => cameBackBy (model prog w) A env E e s') s₂

theorem For_else {iter : Expr} {pos : Pos} {m : Str → Option Value} (_F : Fr h₀ env.locals s.heap m)
    (h : wpAny (model prog w) A (eval iter env) (fun xv s₁ => wpAny (model prog w) A (pyIter xv) (fun it s₂ => LoopElse prog w A env x px body orelse Q E it s₂) E s₁) E s)
    (hs : ∀ x, foldedSetIterable iter env x = pure x := by intro _; rfl) :
    wpAny (model prog w) A (exec (.For (.Name x px) iter body orelse pos) env) Q E s := wpAny_For h hs

theorem range_else {σ : Type} {r : Addr} {a₀ b₀ : Int} {t₀ u₀ v₀ : Tok} {n : Nat} {m₀ : Str → Option Value} (Led : σ → List (Addr × Obj)) (ps : σ → List (Str × Value)) (Facts : σ → Prop) (stored : List Str) (P : List Int → σ → Prop) (c₀ : σ)
    (hx : env.kindOf x = some .local) (hsc : (env.scope.kind == .class || (env.scope.kind == .module && env.locals != env.globals)) = false)
    (hh : A.handled = none) (hr : IsRange s.heap r a₀ b₀ 1 t₀ u₀ v₀) (hsmall : Builtin.Range.small a₀ b₀ 1 = true) (hn : Builtin.Range.rangeSize a₀ b₀ 1 = (n : Int)) (F : Fr h₀ env.locals s.heap m₀) (N : News h₀ env.locals s.heap (Led c₀)) (hf : Facts c₀) (hk : ∀ p ∈ ps c₀, m₀ p.1 = some p.2) (hp : P [] c₀)
    (turn : ∀ (c : σ) (pre : List Int) (k : Int) t (u : Str → Option Value) h tk own, k = a₀ + (pre.length : Int) → pre.length < n → OwnOff own ((Led c₀).map (·.1)) → Facts c → P pre c →
      Fr h₀ env.locals h (fun y => if y = x then some (.int k t) else kstB (fun z => if stored.contains z then u z else m₀ z) (ps c) y) → News h₀ env.locals h (Led c ++ own) →
      wpAny (model prog w) A (execs body env) (InvPostN h₀ env.locals (KstS Led ps Facts x stored m₀ P (pre ++ [k])) own ((Led c₀).map (·.1)) { s with heap := h, toks := tk } Q) E { s with heap := h, toks := tk })
    (done : ∀ (c : σ) (u : Str → Option Value) h tk, Facts c → P (rangeKs a₀ n) c → Fr h₀ env.locals h (fun y => if y = x then u y else kstB (fun z => if stored.contains z then u z else m₀ z) (ps c) y) → News h₀ env.locals h (Led c) →
      wpAny (model prog w) A (execs orelse env) Q E { s with heap := h, toks := tk })
    (hE : PassesOwn (model prog w) A env E := by passes_own) :
    wpAny (model prog w) A (pyIter (.ref r)) (fun it s₂ => LoopElse prog w A env x px body orelse Q E it s₂) E s := by
  refine wpAny_pyIter_range hr hsmall ?_
  have W := Walks.range (prog := prog) (w := w) hh s.heap.objs.size a₀ 1 n
  have hnew : h₀.get? s.heap.objs.size = none := next_is_new F
  have hloc : env.locals ≠ s.heap.objs.size := Nat.ne_of_lt F.ns.lt
  have hadr : ∀ b ∈ (Led c₀).map (·.1), b ≠ s.heap.objs.size := by
    intro b hb
    obtain ⟨q, hq, rfl⟩ := List.mem_map.mp hb
    exact Nat.ne_of_lt (Heap.lt_size (N q hq).1)
  unfold LoopElse
  refine codeAny_forLoop (fun k s' => ∃ h' tk m' c i, s' = { s with heap := h', toks := tk } ∧ IsRangeIter h' s.heap.objs.size (a₀ + (i : Nat) * 1) ((n : Int) - (i : Nat)) 1 ∧ Fr h₀ env.locals h' m' ∧ News h₀ env.locals h' (Led c) ∧ (Led c).map (·.1) = (Led c₀).map (·.1) ∧ KstS Led ps Facts x stored m₀ P ((rangeKs a₀ n).take i) m' (Led c) ∧ i ≤ n ∧ k = n + 1 - i) ?_ (n + 1)
    ⟨s.heap.push _, s.toks, m₀, c₀, 0, rfl, ?_, F.push _, fun p hp => ⟨Heap.get?_push_of_some _ (N p hp).1, (N p hp).2⟩, rfl, ⟨c₀, rfl, hf, hk, fun _ _ _ _ => rfl, by simpa using hp⟩, Nat.zero_le _, rfl⟩
  · rintro k s' ⟨h', tk, m', c₁, i, rfl, hst, F', N', ha, hS, hi, rfl⟩
    have moved : ∀ h₁ : Heap, (∀ b o, b ∉ [s.heap.objs.size] → h'.get? b = some o → h₁.get? b = some o) → Fr h₀ env.locals h₁ m' ∧ News h₀ env.locals h₁ (Led c₁) := by
      intro h₁ hk₁
      refine ⟨⟨F'.ns.at' fun o e => hk₁ _ o (by simpa using hloc) e, fun b o e => hk₁ b o ?_ (F'.keep b o e), F'.above⟩, fun p hp => ⟨hk₁ _ _ ?_ (N' p hp).1, (N' p hp).2⟩⟩
      · intro hb
        rw [List.mem_singleton.mp hb, hnew] at e
        cases e
      · intro hb
        exact hadr p.1 (ha ▸ List.mem_map.mpr ⟨p, hp, rfl⟩) (List.mem_singleton.mp hb)
    obtain ⟨c, hc, hf', h1, h2, hp'⟩ := hS
    rw [hc] at moved ha
    by_cases hlt : i < n
    · refine W.item i _ _ _ hlt hst fun v h₁ tk₁ hv hst₁ hk₁ => ?_
      obtain ⟨t, rfl⟩ := hv
      obtain ⟨F₁, N₁⟩ := moved h₁ hk₁
      refine wpAny_assign_Name (wpAny_storeName_local hx F₁.ns (fun h₂ hn₂ hs₂ => ?_) hsc)
      have F₂ := F₁.set hn₂ hs₂
      have N₂ := N₁.set hs₂
      have hit : h₂.get? s.heap.objs.size = some _ := (hs₂.2 _ (Ne.symm hloc)).trans hst₁
      have e1 : a₀ + (i : Int) * 1 = a₀ + (i : Int) := by omega
      have hk' : (rangeKs a₀ n)[i]? = some (a₀ + (i : Int)) := by simp [rangeKs, hlt]
      have hs' : (rangeKs a₀ n).take (i + 1) = (rangeKs a₀ n).take i ++ [a₀ + (i : Int)] := by simp [List.take_add_one, hk']
      have hlen : ((rangeKs a₀ n).take i).length = i := by rw [List.length_take, rangeKs_length]; omega
      rw [e1] at F₂
      refine wpAny_mono (wpAny_passesOwn hE (turn c ((rangeKs a₀ n).take i) (a₀ + (i : Int)) t m' h₂ _ [(s.heap.objs.size, iterObj (a₀ + ((i + 1 : Nat) : Int) * 1) ((n : Int) - ((i + 1 : Nat) : Int)))] (by rw [hlen]) (by rw [hlen]; exact hlt) ?_ hf' hp' (kst_fr h1 h2 F₂) ?_)) (fun f s₃ h₃ => ?_) fun _ _ e => e
      · intro p hp b hb e
        rw [List.mem_singleton.mp hp] at e
        exact hadr b hb e.symm
      · intro p hp
        rcases List.mem_append.mp hp with hp | hp
        · exact N₂ p hp
        · rw [List.mem_singleton.mp hp]
          exact ⟨hit, Ne.symm hloc, hnew⟩
      · have fin : InvEndN h₀ env.locals (KstS Led ps Facts x stored m₀ P ((rangeKs a₀ n).take i ++ [a₀ + (i : Int)])) [(s.heap.objs.size, iterObj (a₀ + ((i + 1 : Nat) : Int) * 1) ((n : Int) - ((i + 1 : Nat) : Int)))] ((Led c₀).map (·.1)) { s with heap := h₂, toks := tk₁ + 1 } s₃ →
            ∃ m, m < n + 1 - i ∧ ∃ h' tk m' c i, s₃ = { s with heap := h', toks := tk } ∧ IsRangeIter h' s.heap.objs.size (a₀ + (i : Nat) * 1) ((n : Int) - (i : Nat)) 1 ∧ Fr h₀ env.locals h' m' ∧ News h₀ env.locals h' (Led c) ∧ (Led c).map (·.1) = (Led c₀).map (·.1) ∧ KstS Led ps Facts x stored m₀ P ((rangeKs a₀ n).take i) m' (Led c) ∧ i ≤ n ∧ m = n + 1 - i := by
          rintro ⟨h₄, tk₄, m₄, news₄, nx, rfl, F₄, N₄, hnx, hown, hadr₄, c', rfl, hS'⟩
          refine ⟨n + 1 - (i + 1), by omega, h₄, tk₄, m₄, c', i + 1, rfl, (N₄ _ (hown _ (.head _))).1, F₄, fun p hp => N₄ p (hnx p hp), hadr₄, ?_, hlt, rfl⟩
          rw [hs']
          exact ⟨c', rfl, hS'⟩
        cases f with
        | ret v => exact h₃
        | brk => exact h₃
        | next => exact fin h₃
        | cont => exact fin h₃
    · have hin : i = n := by omega
      subst hin
      refine W.done _ _ _ hst fun h₁ tk₁ hk₁ => ?_
      obtain ⟨F₁, N₁⟩ := moved h₁ hk₁
      have hl : (rangeKs a₀ i).take i = rangeKs a₀ i := List.take_of_length_le (Nat.le_of_eq (rangeKs_length _ _))
      rw [hl] at hp'
      exact wpAny_passesOwn hE (done c m' h₁ tk₁ hf' hp' (kst_frOut h1 h2 F₁) N₁)
  · rw [hn]
    show (s.heap.push _).get? s.heap.objs.size = _
    simpa using Heap.get?_push_size _ rfl
end

/-! part PL -/

/-- the text's table of names, as the walk writes it -/
abbrev flagTab : List (Int × PyData) :=
  [(1, PyData.str { cps := #[79, 80, 84, 73, 77, 73, 90, 69, 68] }),
    (2, PyData.str { cps := #[78, 69, 87, 76, 79, 67, 65, 76, 83] }),
    (4, PyData.str { cps := #[86, 65, 82, 65, 82, 71, 83] }),
    (8, PyData.str { cps := #[86, 65, 82, 75, 69, 89, 87, 79, 82, 68, 83] }),
    (16, PyData.str { cps := #[78, 69, 83, 84, 69, 68] }),
    (32, PyData.str { cps := #[71, 69, 78, 69, 82, 65, 84, 79, 82] }),
    (64, PyData.str { cps := #[78, 79, 70, 82, 69, 69] }),
    (128, PyData.str { cps := #[67, 79, 82, 79, 85, 84, 73, 78, 69] }),
    (256, PyData.str { cps := #[73, 84, 69, 82, 65, 66, 76, 69, 95, 67, 79, 82, 79, 85, 84, 73, 78, 69] }),
    (512, PyData.str { cps := #[65, 83, 89, 78, 67, 95, 71, 69, 78, 69, 82, 65, 84, 79, 82] })]
/-- a power's word -/
def wordIn (D : List (Int × PyData)) (p : Int) : Str := match KTD.datumAt p D with
  | some (.str x) => x
  | _ => baseText "0x" 16 p
def word (p : Int) : Str := wordIn flagTab p
/-- the words of the lowest k places of n, the least first -/
def wb (k : Nat) (n : Int) : List Str := (List.range k).flatMap fun i => if n / 2 ^ i % 2 = 1 then [word (2 ^ i)] else []
theorem wb_succ (k : Nat) (n : Int) : wb (k + 1) n = wb k n ++ (if n / 2 ^ k % 2 = 1 then [word (2 ^ k)] else []) := by
  unfold wb
  rw [List.range_succ, List.flatMap_append, List.flatMap_singleton]
def tailOf (n : Int) : List Str := if n % 2 ^ 32 ≠ n ∨ n % 2 ^ 32 = 0 then [baseText "0x" 16 (n - n % 2 ^ 32)] else []
def allWords (n : Int) : List Str := wb 32 n ++ tailOf n
def pf (n : Int) : Str := Txt.join (Str.ofString ", ") (allWords n)
structure Fits (n : Int) : Prop where
  bits : Builtin.Int.intBits n ≤ 1048600

theorem pow_pos (k : Nat) : (0 : Int) < 2 ^ k := kbt_pos k
theorem emod_succ (n : Int) (k : Nat) : n % 2 ^ (k + 1) = n % 2 ^ k + 2 ^ k * (n / 2 ^ k % 2) := by
  have hp := pow_pos k
  have e1 := Int.emod_def n (2 ^ k)
  have e2 := Int.emod_def n (2 ^ (k + 1))
  have e3 : n / 2 ^ (k + 1) = n / 2 ^ k / 2 := by rw [Int.pow_succ, Int.ediv_ediv_of_nonneg (Int.le_of_lt hp)]
  have e4 := Int.emod_def (n / 2 ^ k) 2
  rw [e2, e3, e1, e4, Int.pow_succ, Int.mul_sub, ← Int.mul_assoc]
  omega
theorem wb_mod (n : Int) (m : Nat) : ∀ k, k ≤ m → wb k (n % 2 ^ m) = wb k n
  | 0, _ => rfl
  | k + 1, h => by
    rw [wb_succ, wb_succ, wb_mod n m k (by omega)]
    have e : n % 2 ^ m / 2 ^ k % 2 = n / 2 ^ k % 2 := by
      have hp := pow_pos k
      have e1 : (2 : Int) ^ m = 2 ^ k * (2 * 2 ^ (m - k - 1)) := by
        have : m = k + (1 + (m - k - 1)) := by omega
        conv => lhs; rw [this, Int.pow_add, Int.pow_add, Int.pow_one]
      have e2 := Int.emod_def n (2 ^ m)
      rw [e2, e1, Int.sub_eq_add_neg, Int.mul_assoc, ← Int.mul_neg, Int.add_mul_ediv_left _ _ (Int.ne_of_gt hp), Int.mul_assoc, ← Int.mul_neg]
      omega
    rw [e]
theorem wb_low {n : Int} {k : Nat} (h0 : 0 ≤ n) (h1 : n < 2 ^ k) : ∀ m, k ≤ m → wb m n = wb k n
  | 0, h => by
    have : k = 0 := by omega
    rw [this]
  | m + 1, h => by
    by_cases hk : k = m + 1
    · rw [hk]
    · rw [wb_succ, wb_low h0 h1 m (by omega)]
      have hlt : n < 2 ^ m := by
        have e1 : (2 : Int) ^ m = 2 ^ k * 2 ^ (m - k) := by rw [← Int.pow_add]; congr 1; omega
        have hp := pow_pos k
        have hq := pow_pos (m - k)
        have : (2 : Int) ^ k * 1 ≤ 2 ^ k * 2 ^ (m - k) := Int.mul_le_mul_of_nonneg_left (by omega) (Int.le_of_lt hp)
        omega
      rw [Int.ediv_eq_zero_of_lt h0 hlt]
      simp
theorem wb_top {r : Int} {j : Nat} (h0 : 2 ^ j ≤ r) (h1 : r < 2 ^ (j + 1)) (hj : j < 32) : wb 32 (r - 2 ^ j) ++ [word (2 ^ j)] = wb 32 r := by
  have hp := pow_pos j
  have e0 : (2 : Int) ^ (j + 1) = 2 * 2 ^ j := by rw [Int.pow_succ]; omega
  have e1 : r / 2 ^ j = 1 := by
    refine (kbt_unique hp (q := 1) (r := r - 2 ^ j) ?_ (by omega) (by omega)).1
    omega
  have e2 : r % 2 ^ j = r - 2 ^ j := by
    refine (kbt_unique hp (q := 1) (r := r - 2 ^ j) ?_ (by omega) (by omega)).2
    omega
  rw [wb_low (n := r) (by omega) h1 32 (by omega), wb_succ j r, e1, wb_low (k := j) (n := r - 2 ^ j) (by omega) (by omega) 32 (by omega), ← e2, wb_mod r j j (Nat.le_refl _)]
  simp
theorem wb_len (n : Int) : ∀ k, (wb k n).length ≤ k
  | 0 => Nat.le_refl _
  | k + 1 => by
    have h := wb_len n k
    rw [wb_succ, List.length_append]
    split <;> simp <;> omega

/-- what holds of flags and names ahead of turn k -/
structure Inv (n : Int) (k : Nat) (f : Int) (ss : List Str) : Prop where
  most : k ≤ 32
  words : ss = wb k n
  flags : f = n - n % 2 ^ k
  left : n = 0 ∨ f ≠ 0
theorem inv_start (n : Int) : Inv n 0 n [] := by
  refine ⟨by omega, rfl, ?_, ?_⟩
  · rw [Int.pow_zero, Int.emod_one]; omega
  · omega
theorem one_pow (k : Int) (j : Nat) (h : k = 0 + (j : Int)) : (1 : Int) * 2 ^ k.toNat = 2 ^ j := by
  rw [Int.one_mul]
  congr 1
  omega
theorem inv_bit {n : Int} {k : Nat} {f : Int} {ss : List Str} (h : Inv n k f ss) : Builtin.bitAnd f (2 ^ k) = n / 2 ^ k % 2 * 2 ^ k := by
  obtain ⟨_, _, h, _⟩ := h
  rw [kbt_bit, h]
  have hp := pow_pos k
  have e := Int.emod_def n (2 ^ k)
  have e1 : n - n % 2 ^ k = 2 ^ k * (n / 2 ^ k) := by omega
  rw [e1, Int.mul_ediv_cancel_left _ (Int.ne_of_gt hp)]
theorem inv_no {n : Int} {k : Nat} {f : Int} {ss : List Str} (h : Inv n k f ss) (hk : k < 32) (hb : Builtin.bitAnd f (2 ^ k) = 0) : Inv n (k + 1) f ss := by
  have e := inv_bit h
  rw [hb] at e
  have hp := pow_pos k
  have e0 : n / 2 ^ k % 2 = 0 := by
    rcases Int.mul_eq_zero.mp e.symm with h | h
    · exact h
    · omega
  obtain ⟨_, h2, h3, h4⟩ := h
  refine ⟨by omega, ?_, ?_, h4⟩
  · rw [wb_succ, e0, h2]; simp
  · rw [emod_succ, e0]; omega
theorem inv_yes {n : Int} {k : Nat} {f : Int} {ss : List Str} (h : Inv n k f ss) (hb : Builtin.bitAnd f (2 ^ k) ≠ 0) :
    ss ++ [word (2 ^ k)] = wb (k + 1) n ∧ Builtin.bitXor f (2 ^ k) = n - n % 2 ^ (k + 1) := by
  have e := inv_bit h
  have e0 : n / 2 ^ k % 2 = 1 := by
    have h2 : n / 2 ^ k % 2 = 0 ∨ n / 2 ^ k % 2 = 1 := by omega
    rcases h2 with h2 | h2
    · rw [h2, Int.zero_mul] at e; exact absurd e hb
    · exact h2
  rw [e0, Int.one_mul] at e
  obtain ⟨_, h2, h3, h4⟩ := h
  refine ⟨?_, ?_⟩
  · rw [wb_succ, e0, h2]; simp
  · rw [bitXor_and, e, emod_succ, e0]; omega
theorem inv_on {n : Int} {k : Nat} {f : Int} {ss : List Str} (h : Inv n k f ss) (hk : k < 32) (hb : Builtin.bitAnd f (2 ^ k) ≠ 0) (hx : Builtin.bitXor f (2 ^ k) ≠ 0) : Inv n (k + 1) (Builtin.bitXor f (2 ^ k)) (ss ++ [word (2 ^ k)]) := by
  obtain ⟨h1, h2⟩ := inv_yes h hb
  exact ⟨by omega, h1, h2, .inr hx⟩
theorem inv_stop {n : Int} {k : Nat} {f : Int} {ss : List Str} (h : Inv n k f ss) (hk : k < 32) (hb : Builtin.bitAnd f (2 ^ k) ≠ 0) (hx : Builtin.bitXor f (2 ^ k) = 0) : ss ++ [word (2 ^ k)] = allWords n := by
  obtain ⟨h1, h2⟩ := inv_yes h hb
  rw [hx] at h2
  have hp := pow_pos (k + 1)
  have ha := Int.emod_nonneg n (Int.ne_of_gt hp)
  have hc := Int.emod_lt_of_pos n hp
  have e32 : (2 : Int) ^ 32 = 2 ^ (k + 1) * 2 ^ (32 - (k + 1)) := by rw [← Int.pow_add]; congr 1; omega
  have hq := pow_pos (32 - (k + 1))
  have hle : (2 : Int) ^ (k + 1) * 1 ≤ 2 ^ (k + 1) * 2 ^ (32 - (k + 1)) := Int.mul_le_mul_of_nonneg_left (by omega) (Int.le_of_lt hp)
  have hn : n ≠ 0 := by
    intro e
    obtain ⟨_, _, h3, _⟩ := h
    rw [e, Int.zero_emod] at h3
    rw [h3] at hb
    exact hb (by rw [kbt_bit]; simp)
  have e2 : n % 2 ^ 32 = n := Int.emod_eq_of_lt (by omega) (by rw [e32]; omega)
  rw [h1, allWords, tailOf, e2, wb_low (k := k + 1) (n := n) (by omega) (by omega) 32 (by omega), if_neg]
  · simp
  · omega
theorem inv_end {n : Int} {f : Int} {ss : List Str} (h : Inv n 32 f ss) : ss ++ [baseText "0x" 16 f] = allWords n := by
  obtain ⟨_, h2, h3, h4⟩ := h
  have hp := pow_pos 32
  have ha := Int.emod_nonneg n (Int.ne_of_gt hp)
  rw [allWords, tailOf, if_pos, h2, h3]
  rcases h4 with h4 | h4
  · right; rw [h4]; rfl
  · left; omega

/-! sizes -/
theorem bits_lt {n : Int} {K : Nat} (h : Builtin.Int.intBits n ≤ K) : n.natAbs < 2 ^ K := by
  unfold Builtin.Int.intBits at h
  by_cases h0 : n = 0
  · rw [h0]
    exact Nat.two_pow_pos K
  · rw [if_neg (by simpa using h0)] at h
    exact (Nat.log2_lt (by omega)).mp (by omega)
theorem hex_len {i : Int} {M : Nat} (h : i.natAbs < 16 ^ M) (hM : 1 ≤ M) : (baseText "0x" 16 i).length ≤ M + 3 := by
  have h1 := toDigits_len_pow (b := 16) (by decide) hM h
  unfold baseText
  rw [Str.length_append, Str.length_append, ofString_ofList_length (Nat.toDigits 16 i.natAbs)]
  have h3 : (Str.ofString (if i < 0 then "-" else "")).length ≤ 1 := by
    split <;> (rw [PyProof.Rows.ofString_len]; decide)
  have h4 : (Str.ofString "0x").length = 2 := by rw [PyProof.Rows.ofString_len]; rfl
  omega
theorem cut_lt {n : Int} {K k : Nat} (h : n.natAbs < 2 ^ K) (hk : k ≤ 32) : (n - n % 2 ^ k).natAbs < 2 ^ (K + 33) := by
  have hp := pow_pos k
  have ha := Int.emod_nonneg n (Int.ne_of_gt hp)
  have hc := Int.emod_lt_of_pos n hp
  have hcast := kbt_cast k
  have h32 : 2 ^ k ≤ 2 ^ 32 := Nat.pow_le_pow_right (by decide) hk
  have hb : (n - n % 2 ^ k).natAbs ≤ n.natAbs + 2 ^ k := by omega
  have hK := Nat.two_pow_pos K
  have e : 2 ^ (K + 33) = 2 ^ K * (2 ^ 32 * 2) := by rw [← Nat.pow_succ, ← Nat.pow_add]
  have h1 : 2 ^ K * 1 ≤ 2 ^ K * 2 ^ 32 := Nat.mul_le_mul_left _ (by decide)
  have h2 : 1 * 2 ^ 32 ≤ 2 ^ K * 2 ^ 32 := Nat.mul_le_mul_right _ hK
  rw [← Nat.mul_assoc] at e
  omega
theorem two_sixteen {M K : Nat} (h : K ≤ 4 * M) : 2 ^ K ≤ 16 ^ M := by
  have e : (16 : Nat) ^ M = 2 ^ (4 * M) := by rw [Nat.pow_mul]
  rw [e]
  exact Nat.pow_le_pow_right (by decide) h
theorem hex_cut {n : Int} (h : Fits n) {k : Nat} (hk : k ≤ 32) : (baseText "0x" 16 (n - n % 2 ^ k)).length ≤ 262200 := by
  have h1 := cut_lt (bits_lt h.bits) hk
  have h2 := two_sixteen (M := 262160) (K := 1048600 + 33) (by omega)
  exact Nat.le_trans (hex_len (Nat.lt_of_lt_of_le h1 h2) (by omega)) (by omega)
theorem hex_pow {j : Nat} (hj : j < 32) : (baseText "0x" 16 (2 ^ j)).length ≤ 20 := by
  have hc := kbt_cast j
  have key : ∀ (x : Int) (y : Nat), (y : Int) = x → x.natAbs = y := by
    intro x y h
    omega
  have h1 : ((2 : Int) ^ j).natAbs = 2 ^ j := key _ _ hc
  have h2 := two_sixteen (M := 16) (K := j + 1) (by omega)
  have h3 : 2 ^ j < 2 ^ (j + 1) := Nat.pow_lt_pow_right (by decide) (by omega)
  exact Nat.le_trans (hex_len (M := 16) (by rw [h1]; omega) (by omega)) (by omega)
theorem wordIn_len {D : List (Int × PyData)} {p : Int} {B : Nat} (hD : ∀ q ∈ D, ∀ x, q.2 = .str x → x.length ≤ B) (hp : (baseText "0x" 16 p).length ≤ B) : (wordIn D p).length ≤ B := by
  unfold wordIn
  split
  · rename_i x hx
    clear hp
    induction D with
    | nil => cases hx
    | cons q D ih =>
      obtain ⟨i, d⟩ := q
      simp only [KTD.datumAt] at hx
      split at hx
      · injection hx with hx
        exact hD _ (.head _) x hx
      · exact ih (fun q hq => hD q (.tail _ hq)) hx
  · exact hp
theorem word_len {j : Nat} (hj : j < 32) : (word (2 ^ j)).length ≤ 20 := by
  refine wordIn_len ?_ (hex_pow hj)
  simp only [List.forall_mem_cons, List.not_mem_nil, false_implies, implies_true, and_true, PyData.str.injEq]
  refine ⟨?_, ?_, ?_, ?_, ?_, ?_, ?_, ?_, ?_, ?_⟩ <;> (rintro x rfl; decide)
theorem wb_sum (n : Int) : ∀ k, k ≤ 32 → ((wb k n).map (·.length)).sum ≤ 20 * k
  | 0, _ => Nat.le_refl _
  | k + 1, h => by
    have h1 := wb_sum n k (by omega)
    have h2 := word_len (j := k) (by omega)
    rw [wb_succ, List.map_append, List.sum_append]
    split <;> simp only [List.map_cons, List.map_nil, List.sum_cons, List.sum_nil] <;> omega
theorem all_weight {n : Int} (h : Fits n) : ((allWords n).map (·.length)).sum + (allWords n).length ≤ 1048576 := by
  have h1 := wb_sum n 32 (Nat.le_refl _)
  have h2 := wb_len n 32
  have h3 := hex_cut h (k := 32) (Nat.le_refl _)
  rw [allWords, List.map_append, List.sum_append, List.length_append]
  unfold tailOf
  split <;> simp only [List.map_cons, List.map_nil, List.sum_cons, List.sum_nil, List.length_cons, List.length_nil] <;> omega

/-! part RL -/
theorem hex_flag {k : Int} {j : Nat} (h : k = 0 + (j : Int)) (hj : j < 32) : (baseText "0x" 16 (1 * 2 ^ k.toNat)).length ≤ sizeLine := by
  rw [one_pow k j h, sizeLine_eq]
  exact Nat.le_trans (hex_pow hj) (by decide)
theorem hex_flags {n f : Int} {k : Nat} {ss : List Str} (hf : Fits n) (hI : Inv n k f ss) : (baseText "0x" 16 f).length ≤ sizeLine := by
  obtain ⟨h1, _, h2, _⟩ := hI
  rw [h2, sizeLine_eq]
  exact Nat.le_trans (hex_cut hf h1) (by decide)
section
variable {prog : Program} {w : World} {A : Around} {E : Value → Shared → Prop} {s : Shared} {h₀ : Heap} {L : Addr} {Q : Value → Shared → Prop}
theorem strs_only : ∀ {D : List (Int × PyData)} {p : Int} {d : PyData}, (∀ q ∈ D, ∃ x, q.2 = .str x) → KTD.datumAt p D = some d → ∃ x, d = .str x
  | [], _, _, _, h => by cases h
  | (i, d') :: D, p, d, hD, h => by
    simp only [KTD.datumAt] at h
    split at h
    · injection h with h
      exact h ▸ hD _ (.head _)
    · exact strs_only (fun q hq => hD q (.tail _ hq)) h
theorem get_word {a : Addr} {p : Int} {tk tt : Tok} (K : KTD.Keyed h₀ a flagTab) (hk : ∀ b o, h₀.get? b = some o → s.heap.get? b = some o) (h : ∀ t', Q (.str (word p) t') { s with toks := s.toks + 1 }) :
    wpAny (model prog w) A (call (.builtin "dict.get") [.ref a, .int p tk, .str (baseText "0x" 16 p) tt]) Q E s := by
  refine call_get2_intTab (K.keep hk prog w) (Flat.str _ _) fun v hv => ?_
  rw [KTD.lookup_keyed] at hv
  cases hat : KTD.datumAt p flagTab with
  | none =>
    rw [hat] at hv
    obtain ⟨t', rfl⟩ := Flat.str_inv (x := baseText "0x" 16 p) hv
    have e : word p = baseText "0x" 16 p := by rw [word, wordIn, hat]
    rw [← e]
    exact h t'
  | some d =>
    rw [hat] at hv
    obtain ⟨x, rfl⟩ := strs_only (by simp) hat
    obtain ⟨t', rfl⟩ := Flat.str_inv (x := x) hv
    have e : word p = x := by rw [word, wordIn, hat]
    rw [← e]
    exact h t'
theorem join_all {n : Int} {news : List (Addr × Obj)} {D : Addr} {vs : List Value} {cnt : Nat} {ss : List Str} {t : Tok} (N : News h₀ L s.heap news) (hm : (D, W.listOf vs.toArray cnt) ∈ news) (hs : StrsAre vs ss) (e : ss = allWords n) (hf : Fits n)
    (h : ∀ t' k, Q (.str (pf n) t') { s with toks := k }) : wpAny (model prog w) A (call (.builtin "str.join") [.str (Str.ofString ", ") t, .ref D]) Q E s := by
  have hl : s.heap.IsList D vs.toArray := ⟨_, (N _ hm).1, rfl, cnt, rfl⟩
  have hsep : (Str.ofString ", ").length ≤ 16 := by rw [PyProof.Rows.ofString_len]; decide
  have hw : (ss.map (·.length)).sum + ss.length ≤ 1048576 := by rw [e]; exact all_weight hf
  have hq : ∀ t' k, Q (.str (Txt.join (Str.ofString ", ") ss) t') { s with toks := k } := by rw [e]; exact h
  generalize Str.ofString ", " = sep at hsep hq ⊢
  exact join_listW hl hs hsep hw hq
end
section
variable {prog : Program} {w : World} {A : Around} {E : Value → Shared → Prop} {s : Shared} {h₀ : Heap} {L : Addr} {Q : Value → Shared → Prop}
theorem join_push {n : Int} {news : List (Addr × Obj)} {D : Addr} {vs : List Value} {cnt : Nat} {ss : List Str} {y : Str} {t ty : Tok} (N : News h₀ L s.heap news) (hm : (D, W.listOf (vs.toArray.push (.str y ty)) cnt) ∈ news) (hs : StrsAre vs ss) (e : ss ++ [y] = allWords n) (hf : Fits n)
    (h : ∀ t' k, Q (.str (pf n) t') { s with toks := k }) : wpAny (model prog w) A (call (.builtin "str.join") [.str (Str.ofString ", ") t, .ref D]) Q E s := by
  rw [List.push_toArray] at hm
  exact join_all N hm (StrsAre.append' hs (.cons _ _ .nil)) e hf h
end
section
variable {n f kN : Int} {pre : List Int} {ss : List Str}
theorem st_no (h : Inv n pre.length f ss) (e : kN = 0 + (pre.length : Int)) (hl : pre.length < 32) (hb : Builtin.bitAnd f (1 * 2 ^ kN.toNat) = 0) : Inv n (pre ++ [kN]).length f ss := by
  rw [one_pow _ _ e] at hb
  rw [List.length_append]
  exact inv_no h hl hb
theorem st_on (h : Inv n pre.length f ss) (e : kN = 0 + (pre.length : Int)) (hl : pre.length < 32) (hb : Builtin.bitAnd f (1 * 2 ^ kN.toNat) ≠ 0) (hx : Builtin.bitXor f (1 * 2 ^ kN.toNat) ≠ 0) :
    Inv n (pre ++ [kN]).length (Builtin.bitXor f (1 * 2 ^ kN.toNat)) (ss ++ [word (1 * 2 ^ kN.toNat)]) := by
  rw [one_pow _ _ e] at hb hx ⊢
  rw [List.length_append]
  exact inv_on h hl hb hx
theorem st_stop (h : Inv n pre.length f ss) (e : kN = 0 + (pre.length : Int)) (hl : pre.length < 32) (hb : Builtin.bitAnd f (1 * 2 ^ kN.toNat) ≠ 0) (hx : Builtin.bitXor f (1 * 2 ^ kN.toNat) = 0) :
    ss ++ [word (1 * 2 ^ kN.toNat)] = allWords n := by
  rw [one_pow _ _ e] at hb hx ⊢
  exact inv_stop h hl hb hx
theorem inv_len {k : Nat} (h : Inv n k f ss) : ss.length ≤ 32 := by
  obtain ⟨h1, h2, _⟩ := h
  rw [h2]
  exact Nat.le_trans (wb_len n k) h1
end
section
variable {prog : Program} {w : World} {A : Around} {E : Value → Shared → Prop} {s : Shared} {env : Env} {h₀ : Heap} {x : Str} {px : Pos} {body orelse : List Stmt} {Q : Flow → Shared → Prop}
theorem pf_range {r l : Addr} {rest : List (Addr × Obj)} {cnt : Nat} {t₀ u₀ v₀ tf : Tok} {n : Int} {m₀ : Str → Option Value} (P : Nat → Int → List Str → Prop)
    (hr : IsRange s.heap r 0 32 1 t₀ u₀ v₀) (F : Fr h₀ env.locals s.heap m₀) (N : News h₀ env.locals s.heap ((l, W.listOf #[] cnt) :: rest)) (hfl : m₀ (Str.ofString "flags") = some (.int n tf)) (hp : P 0 n [])
    (hx : env.kindOf x = some .local) (hsc : (env.scope.kind == .class || (env.scope.kind == .module && env.locals != env.globals)) = false) (hh : A.handled = none)
    (turn : ∀ (c : Int × Nat × List Value × List Str × Nat) (pre : List Int) (k : Int) t (u : Str → Option Value) h tk own, k = 0 + (pre.length : Int) → pre.length < 32 → OwnOff own (l :: rest.map (·.1)) → StrsAre c.2.2.1 c.2.2.2.1 → P pre.length c.1 c.2.2.2.1 →
      Fr h₀ env.locals h (fun y => if y = x then some (.int k t) else if y = Str.ofString "flags" then some (.int c.1 c.2.1) else if [Str.ofString "flag"].contains y then u y else m₀ y) → News h₀ env.locals h ((l, W.listOf c.2.2.1.toArray c.2.2.2.2) :: rest ++ own) →
      wpAny (model prog w) A (execs body env) (InvPostN h₀ env.locals (KstS (fun c : Int × Nat × List Value × List Str × Nat => (l, W.listOf c.2.2.1.toArray c.2.2.2.2) :: rest) (fun c => [(Str.ofString "flags", Value.int c.1 c.2.1)]) (fun c => StrsAre c.2.2.1 c.2.2.2.1) x [Str.ofString "flag"] m₀ (fun pre c => P pre.length c.1 c.2.2.2.1) (pre ++ [k])) own (l :: rest.map (·.1)) { s with heap := h, toks := tk } Q) E { s with heap := h, toks := tk })
    (done : ∀ (c : Int × Nat × List Value × List Str × Nat) (u : Str → Option Value) h tk, StrsAre c.2.2.1 c.2.2.2.1 → P 32 c.1 c.2.2.2.1 → Fr h₀ env.locals h (fun y => if y = x then u y else if y = Str.ofString "flags" then some (.int c.1 c.2.1) else if [Str.ofString "flag"].contains y then u y else m₀ y) → News h₀ env.locals h ((l, W.listOf c.2.2.1.toArray c.2.2.2.2) :: rest) →
      wpAny (model prog w) A (execs orelse env) Q E { s with heap := h, toks := tk })
    (hE : PassesOwn (model prog w) A env E := by passes_own) :
    wpAny (model prog w) A (pyIter (.ref r)) (fun it s₂ => LoopElse prog w A env x px body orelse Q E it s₂) E s := by
  refine range_else (n := 32) (fun c : Int × Nat × List Value × List Str × Nat => (l, W.listOf c.2.2.1.toArray c.2.2.2.2) :: rest) (fun c => [(Str.ofString "flags", Value.int c.1 c.2.1)]) (fun c => StrsAre c.2.2.1 c.2.2.2.1) [Str.ofString "flag"] (fun pre c => P pre.length c.1 c.2.2.2.1) (n, tf, [], [], cnt) hx hsc hh hr (by decide) (by decide) F N .nil ?_ hp ?_ ?_ hE
  · intro p hp
    rw [List.mem_singleton.mp hp]
    exact hfl
  · intro c pre k t u h tk own h1 h2 h3 h4 h5 F' N'
    exact turn c pre k t u h tk own h1 h2 h3 h4 h5 F' N'
  · intro c u h tk h1 h2 F' N'
    rw [rangeKs_length] at h2
    exact done c u h tk h1 h2 F' N'
end
section
variable {h₀ : Heap} {x : Str} {L : Addr}
theorem pf_next {l : Addr} {rest own : List (Addr × Obj)} {P : Nat → Int → List Str → Prop} {pre : List Int} {k f : Int} {h' : Heap} {tk c : Nat} {m' m₀ : Str → Option Value} {vs : List Value} {y : Str} {ty tf : Tok} {ss : List Str} {s₁ : Shared}
    (F : Fr h₀ L h' m') (N : News h₀ L h' ((l, W.listOf (vs.toArray.push (.str y ty)) c) :: (rest ++ own))) (hs : StrsAre vs ss) (hm : m' (Str.ofString "flags") = some (.int f tf))
    (hr : ∀ z, z ≠ x → z ≠ Str.ofString "flags" → z ≠ Str.ofString "flag" → m' z = m₀ z) (hp : P (pre ++ [k]).length f (ss ++ [y])) :
    InvEndN h₀ L (KstS (fun c : Int × Nat × List Value × List Str × Nat => (l, W.listOf c.2.2.1.toArray c.2.2.2.2) :: rest) (fun c => [(Str.ofString "flags", Value.int c.1 c.2.1)]) (fun c => StrsAre c.2.2.1 c.2.2.2.1) x [Str.ofString "flag"] m₀ (fun pre c => P pre.length c.1 c.2.2.2.1) (pre ++ [k])) own (l :: rest.map (·.1)) s₁ { s₁ with heap := h', toks := tk } := by
  rw [List.push_toArray] at N
  refine kst_end (f, tf, vs ++ [.str y ty], ss ++ [y], c) F N ?_ ?_ rfl (StrsAre.append' hs (.cons _ _ .nil)) ?_ ?_ hp
  · intro p hp
    rcases List.mem_cons.mp hp with rfl | hp
    · exact .head _
    · exact .tail _ (List.mem_append.mpr (.inl hp))
  · intro p hp
    exact .tail _ (List.mem_append.mpr (.inr hp))
  · intro p hp
    rw [List.mem_singleton.mp hp]
    exact hm
  · intro z h1 h2 h3
    refine hr z h1 (h2 _ (.head _)) ?_
    rintro rfl
    simp at h3
end
theorem fits_of {ns : List Int} {n : Int} (h : PyData.layable0 (.list (ns.map .int)) = true) (hm : n ∈ [0, 1029, -2 ^ Int.toNat 32] ++ ns.take 2) : Fits n := by
  rcases List.mem_append.mp hm with hm | hm
  · simp only [List.mem_cons, List.not_mem_nil, or_false] at hm
    rcases hm with rfl | rfl | rfl <;> exact ⟨by decide +kernel⟩
  · exact ⟨Nat.le_trans (PyData.bits_item_of_ints h (List.mem_of_mem_take hm)) (by decide)⟩

/-! part PF -/
section
local macro_rules | `(tactic| walk_at "call builtin:dict.get") => `(tactic| (k_here; (with_reducible show wpAny _ _ (call (Value.builtin "dict.get") [Value.ref _, Value.int _ _, Value.str (baseText _ _ _) _]) _ _ _); (refine' get_word ?g1 ?g2 ?_; (case g1 => with_reducible assumption); (case g2 => kt_keeps)); intro _))
local macro_rules | `(tactic| walk_at "InvEndN") => `(tactic| (k_here; (rename Fr _ _ _ _ => fE'); (rename News _ _ _ _ => nE'); refine' pf_next fE' nE' ?e1 ?e2 ?e3 ?e4; (case e1 => with_reducible assumption); (case e2 => with_unfolding_all exact rfl); (case e3 => (intro z h1 h2 h3; simp [h1, h2, h3])); (case e4 => exact st_on (by with_reducible assumption) (by with_reducible assumption) (by with_reducible assumption) (by with_reducible assumption) (by with_reducible assumption))))
theorem pf_claim (w : World) (mean : ExcName → Option Value) (mg mb : Str → Option Value) (news : List (Addr × Obj)) (n : Int) (t : Tok) :
    CbClaim Challenge.rw_nb0066_01.row.prog w (hd.heap_39 w.params) hd.view_39 (looseW hd.view_39 [Str.ofString "COMPILER_FLAG_NAMES", Str.ofString "bisect_right"]) mean mg mb 22 news [] (Fits n) [.int n t] (fun t => .str (pf n) t) := by
  w_top off
  k_fill
  dsimp only [CbClaim, CbLists, CbRet]
  intros
  rename_i hret
  have cbI : CbIn 22 := CbIn.mk
  k_with "exec For Name Call cons cons" => (k_here; (rename Fr _ _ _ _ => lF'); (with_unfolding_all refine' For_else lF' ?_; k_whole))
  k_with "call builtin:hex" => ((with_reducible refine P.hex_of_int ?_ ?hz); (case hz => first | exact hex_flag (by with_reducible assumption) (by with_reducible assumption) | exact hex_flags (by with_reducible assumption) (by with_reducible assumption)))
  k_with "state" => (first | exact st_no (by with_reducible assumption) (by with_reducible assumption) (by with_reducible assumption) (by with_reducible assumption) | exact st_on (by with_reducible assumption) (by with_reducible assumption) (by with_reducible assumption) (by with_reducible assumption) (by with_reducible assumption))
  k_with "call builtin:str.join" => (k_here; (refine' join_push ?j1 ?j2 ?j3 ?j4 ?j5 ?_; (case j1 => k_asm); (case j2 => k_memK); (case j3 => with_reducible assumption); (case j4 => first | exact inv_end (by with_reducible assumption) | exact st_stop (by with_reducible assumption) (by with_reducible assumption) (by with_reducible assumption) (by with_reducible assumption) (by with_reducible assumption)); (case j5 => with_reducible assumption)); intro tJ kJ)
  refine wpAny_call ?_
  k_dflt cell_enter
  k_steps
  k_here
  (rename Fr _ _ _ _ => lF')
  (rename News _ _ _ _ => lN')
  (rename IsRange _ _ _ _ _ _ _ _ => rgX)
  with_unfolding_all refine' pf_range (Inv n) rgX lF' lN' ?kf ?kp ?kx ?ks ?kh ?_ ?_
  (case kf => exact rfl)
  (case kp => exact inv_start n)
  (case kx => exact rfl)
  (case ks => exact rfl)
  (case kh => exact rfl)
  (all_goals (try clear lF' lN'))
  · rintro ⟨kF, kTf, kVs, kSs, kCnt⟩ kPre kN kT kU kH kTk kOwn kEq kLt kOff kFacts kInv kFr kNews
    have kMark := kstMark
    dsimp only at kFacts kInv kFr kNews
    simp only [List.cons_append] at kNews
    have kLen := StrsAre.length kFacts
    have kMost := inv_len kInv
    (try k_fold)
    k_steps
    all_goals cb_end hret
  · rintro ⟨kF, kTf, kVs, kSs, kCnt⟩ kU kH kTk kFacts kInv kFr kNews
    have kMark := kstMark
    dsimp only at kFacts kInv kFr kNews
    have kLen := StrsAre.length kFacts
    have kMost := inv_len kInv
    (try k_fold)
    k_steps
    all_goals cb_end hret
end

/-! part BL -/
/-- where bisect_right ends among the powers -/
def bis (x : Int) : Int := (x.toNat.log2 : Int) + 1
structure Pows (ys : List Value) : Prop where
  are : IntsAre ys (List.map (fun k' : Int => (2 : Int) ^ k'.toNat) (rangeKs 0 ((32 : Int) - 0).toNat))
structure Small (x : Int) : Prop where
  pos : 0 < x
  low : x < 2 ^ 32
/-- what holds of lo and hi ahead of each turn -/
structure Bs (x lo hi : Int) : Prop where
  nat : 0 ≤ lo
  le : lo ≤ hi
  most : hi ≤ 32
  left : 2 ^ lo.toNat ≤ 2 * x
  right : x < 2 ^ hi.toNat
theorem bs_start {x : Int} (h : Small x) : Bs x 0 32 := by
  obtain ⟨h1, h2⟩ := h
  refine ⟨by omega, by omega, by omega, ?_, h2⟩
  show (2 : Int) ^ 0 ≤ 2 * x
  rw [Int.pow_zero]
  omega
theorem bs_mid {x lo hi : Int} (h : Bs x lo hi) (hl : lo < hi) : 0 ≤ (lo + hi).fdiv 2 ∧ (lo + hi).fdiv 2 < 32 ∧ lo ≤ (lo + hi).fdiv 2 ∧ (lo + hi).fdiv 2 < hi := by
  obtain ⟨h1, h2, h3, _, _⟩ := h
  have e : (lo + hi).fdiv 2 = (lo + hi) / 2 := Int.fdiv_eq_ediv_of_nonneg _ (by omega)
  rw [e]
  omega
theorem bs_left {x lo hi : Int} (h : Bs x lo hi) (hl : lo < hi) (hx : x < 2 ^ ((lo + hi).fdiv 2).toNat) : Bs x lo ((lo + hi).fdiv 2) := by
  have hm := bs_mid h hl
  exact ⟨h.nat, by omega, by omega, h.left, hx⟩
theorem bs_right {x lo hi : Int} (h : Bs x lo hi) (hl : lo < hi) (hx : ¬ x < 2 ^ ((lo + hi).fdiv 2).toNat) : Bs x ((lo + hi).fdiv 2 + 1) hi := by
  have hm := bs_mid h hl
  refine ⟨by omega, by omega, h.most, ?_, h.right⟩
  have e : ((lo + hi).fdiv 2 + 1).toNat = ((lo + hi).fdiv 2).toNat + 1 := by omega
  rw [e, Int.pow_succ]
  omega
theorem bs_end {x lo hi : Int} (hs : Small x) (h : Bs x lo hi) (hl : ¬ lo < hi) : lo = bis x := by
  obtain ⟨h1, h2, h3, h4, h5⟩ := h
  have e : lo = hi := by omega
  subst e
  have hx := hs.pos
  have h0 : lo.toNat ≠ 0 := by
    intro e0
    rw [e0, Int.pow_zero] at h5
    omega
  have e1 : lo.toNat = (lo.toNat - 1) + 1 := by omega
  rw [e1, Int.pow_succ] at h4
  have hc1 := kbt_cast (lo.toNat - 1)
  have hc2 := kbt_cast lo.toNat
  have key : ∀ a b : Nat, (a : Int) = b → a = b := fun a b h => by omega
  have hlog : x.toNat.log2 = lo.toNat - 1 := by
    refine (Nat.log2_eq_iff (by omega)).mpr ⟨by omega, ?_⟩
    rw [← e1]
    omega
  unfold bis
  rw [hlog]
  omega
theorem small_log {x : Int} (hs : Small x) : (bis x - 1).toNat < 32 ∧ 0 ≤ bis x - 1 ∧ bis x - 1 < 32 ∧ 2 ^ (bis x - 1).toNat ≤ x ∧ x < 2 ^ ((bis x - 1).toNat + 1) := by
  obtain ⟨h1, h2⟩ := hs
  have e : (bis x - 1).toNat = x.toNat.log2 := by unfold bis; omega
  have hn : x.toNat ≠ 0 := by omega
  have ha := (Nat.log2_eq_iff hn).mp rfl
  have hb : x.toNat.log2 < 32 := (Nat.log2_lt hn).mpr (by omega)
  have hc1 := kbt_cast x.toNat.log2
  have hc2 := kbt_cast (x.toNat.log2 + 1)
  have hnn : 0 ≤ bis x - 1 := by unfold bis; omega
  rw [e]
  refine ⟨hb, hnn, by omega, by omega, by omega⟩

section
variable {prog : Program} {w : World} {A : Around} {E : Value → Shared → Prop} {s : Shared} {h₀ : Heap} {L D : Addr} {news : List (Addr × Obj)} {ys : List Value}
theorem pows_len (hP : Pows ys) : ys.length = 32 := by
  rw [IntsAre.length hP.are, List.length_map, rangeKs_length]
  rfl
theorem len_pows {Q : Value → Shared → Prop} (N : News h₀ L s.heap news) (hm : (D, LCg.lst ys) ∈ news) (hP : Pows ys) (h : Q (.int 32 (s.toks + 1)) { s with toks := s.toks + 1 + 1 }) :
    wpAny (model prog w) A (call (.builtin "len") [.ref D]) Q E s := by
  have hl : s.heap.IsList D ys.toArray := ⟨_, (N _ hm).1, rfl, ys.length, rfl⟩
  have e : ys.toArray.size = 32 := by rw [List.size_toArray, pows_len hP]
  exact len_list hl (by rw [e]; decide) (by rw [e]; exact h)
theorem pows_get (hP : Pows ys) {k : Int} (h0 : 0 ≤ k) (h1 : k < 32) : ∃ t, ys[k.toNat]? = some (.int (2 ^ k.toNat) t) := by
  refine IntsAre.get hP.are k.toNat _ ?_
  have hk : k.toNat < 32 := by omega
  have e : max k 0 = k := by omega
  simp [rangeKs, hk, e]
theorem pow_item {value slice : Expr} {k : Int} {u : Tok} {Q : Value → Shared → Prop} (N : News h₀ L s.heap news) (hm : (D, LCg.lst ys) ∈ news) (hP : Pows ys) (h0 : 0 ≤ k) (h1 : k < 32) (h : ∀ t', Q (.int (2 ^ k.toNat) t') s)
    (hs : subscripted slice false (.ref D) (.int k u) = operate [.ref D, .int k u] (getItem (.ref D) (.int k u)) := by with_unfolding_all rfl) (hg : ∀ r, letTemporaryGo value (.ref D) r = pure () := by intro _; with_unfolding_all rfl) :
    wpAny (model prog w) A (subscriptTail value slice (.ref D) (.int k u)) Q E s := by
  obtain ⟨t, ht⟩ := pows_get hP h0 h1
  exact kim_list N hm rfl rfl h0 (by omega) ht (h t) hs hg
end
section
variable {prog : Program} {w : World} {A : Around} {E : Value → Shared → Prop} {Q : Flow → Shared → Prop} {s : Shared} {env : Env} {h₀ : Heap} {L : Addr}
theorem bs_while {test : Expr} {body : List Stmt} {pos : Pos} {m₀ : Str → Option Value} {news : List (Addr × Obj)} {lo₀ hi₀ : Int} {tl th : Tok} (P : Int → Int → Prop)
    (F : Fr h₀ L s.heap m₀) (N : News h₀ L s.heap news) (hlo : m₀ (Str.ofString "lo") = some (.int lo₀ tl)) (hhi : m₀ (Str.ofString "hi") = some (.int hi₀ th)) (hp : P lo₀ hi₀)
    (turn : ∀ (c : Int × Nat × Int × Nat) (u : Str → Option Value) h tk, P c.1 c.2.2.1 →
      Fr h₀ L h (fun y => if y = Str.ofString "lo" then some (.int c.1 c.2.1) else if y = Str.ofString "hi" then some (.int c.2.2.1 c.2.2.2) else if [Str.ofString "mid"].contains y then u y else m₀ y) → News h₀ L h news →
      wpAny (model prog w) A (isTrue test env (eval test env)) (fun b s₂ =>
        if b = true then wpAny (model prog w) A (execs body env) (KswPost h₀ L s (fun _ : Int × Nat × Int × Nat => news) (fun c => [(Str.ofString "lo", Value.int c.1 c.2.1), (Str.ofString "hi", Value.int c.2.2.1 c.2.2.2)]) (fun _ => True) [Str.ofString "mid"] m₀ (fun c => P c.1 c.2.2.1) (fun c => (c.2.2.1 - c.1).toNat) Q c) E s₂ else Q .next s₂) E { s with heap := h, toks := tk })
    (hE : PassesOwn (model prog w) A env E := by passes_own) :
    wpAny (model prog w) A (exec (.While test body [] pos) env) Q E s := by
  refine ksw_while (fun _ : Int × Nat × Int × Nat => news) (fun c => [(Str.ofString "lo", Value.int c.1 c.2.1), (Str.ofString "hi", Value.int c.2.2.1 c.2.2.2)]) (fun _ => True) [Str.ofString "mid"] (fun c => P c.1 c.2.2.1) (fun c => (c.2.2.1 - c.1).toNat) (lo₀, tl, hi₀, th) F N trivial ?_ hp ?_ hE
  · intro p hp
    rcases List.mem_cons.mp hp with rfl | hp
    · exact hlo
    · rw [List.mem_singleton.mp hp]
      exact hhi
  · intro c u h tk _ h2 F' N'
    exact turn c u h tk h2 F' N'
theorem bs_next {news : List (Addr × Obj)} {P : Int → Int → Prop} {h' : Heap} {tk : Nat} {m' m₀ : Str → Option Value} {lo hi : Int} {tl th : Tok} {c : Int × Nat × Int × Nat}
    (F : Fr h₀ L h' m') (N : News h₀ L h' news) (h1 : m' (Str.ofString "lo") = some (.int lo tl)) (h2 : m' (Str.ofString "hi") = some (.int hi th))
    (hr : ∀ z, z ≠ Str.ofString "lo" → z ≠ Str.ofString "hi" → z ≠ Str.ofString "mid" → m' z = m₀ z) (hp : P lo hi) (hm : (hi - lo).toNat < (c.2.2.1 - c.1).toNat) :
    KswEnd h₀ L s (fun _ : Int × Nat × Int × Nat => news) (fun c => [(Str.ofString "lo", Value.int c.1 c.2.1), (Str.ofString "hi", Value.int c.2.2.1 c.2.2.2)]) (fun _ => True) [Str.ofString "mid"] m₀ (fun c => P c.1 c.2.2.1) (fun c => (c.2.2.1 - c.1).toNat) c { s with heap := h', toks := tk } := by
  refine ksw_end (lo, tl, hi, th) F N (fun _ h => h) trivial ?_ ?_ hp hm
  · intro p hp
    rcases List.mem_cons.mp hp with rfl | hp
    · exact h1
    · rw [List.mem_singleton.mp hp]
      exact h2
  · intro z h3 h4
    refine hr z (h3 _ (.head _)) (h3 _ (.tail _ (.head _))) ?_
    rintro rfl
    simp at h4
end

/-! part BS -/
section
local macro_rules | `(tactic| walk_at "call builtin:len") => `(tactic| (k_here; (with_reducible show wpAny _ _ (call (Value.builtin "len") [Value.ref _]) _ _ _); k_dflt (refine' len_pows ?l1 ?l2 ?l3 ?_; (case l1 => k_asm); (case l2 => k_memK); (case l3 => with_reducible assumption))))
local macro_rules | `(tactic| walk_at "subscriptTail") => `(tactic| (k_here; (with_reducible show wpAny _ _ (subscriptTail _ _ (Value.ref _) (Value.int _ _)) _ _ _); k_dflt (refine' pow_item ?l1 ?l2 ?l3 ?l4 ?l5 ?_ ?l6 ?l7; (case l1 => k_asm); (case l2 => k_memK); (case l3 => with_reducible assumption); (case l4 => exact (bs_mid (by with_reducible assumption) (by omega)).1); (case l5 => exact (bs_mid (by with_reducible assumption) (by omega)).2.1); (case l6 => with_unfolding_all rfl); (case l7 => (intro _; with_unfolding_all rfl))); intro _))
local macro_rules | `(tactic| walk_at "exec While Compare cons nil") => `(tactic| (k_here; (with_reducible show wpAny _ _ (exec (Stmt.While _ _ _ _) _) _ _ _); (rename Fr _ _ _ _ => lF'); (rename News _ _ _ _ => lN'); (with_unfolding_all refine' bs_while (Bs _) lF' lN' ?w1 ?w2 ?w3 ?_; (case w1 => exact rfl); (case w2 => exact rfl); (case w3 => exact bs_start (by with_reducible assumption))); (try clear lF' lN'); (rintro ⟨_, _, _, _⟩ _ _ _ kInv kFr kNews; (try dsimp only at kInv kFr kNews); (try dsimp only)); (have kMark := kstMark); (try k_fold)))
local macro_rules | `(tactic| walk_at "exec While Compare") => `(tactic| (k_here; (with_reducible show wpAny _ _ (exec (Stmt.While _ _ _ _) _) _ _ _); (rename Fr _ _ _ _ => lF'); (rename News _ _ _ _ => lN'); (with_unfolding_all refine' bs_while (Bs _) lF' lN' ?w1 ?w2 ?w3 ?_; (case w1 => exact rfl); (case w2 => exact rfl); (case w3 => exact bs_start (by with_reducible assumption))); (try clear lF' lN'); (rintro ⟨_, _, _, _⟩ _ _ _ kInv kFr kNews; (try dsimp only at kInv kFr kNews); (try dsimp only)); (have kMark := kstMark); (try k_fold)))
local macro_rules | `(tactic| walk_at "KswEnd") => `(tactic| (k_here; (rename Fr _ _ _ _ => fE'); (rename News _ _ _ _ => nE'); refine' bs_next fE' nE' ?e1 ?e2 ?e3 ?e4 ?e5; (case e1 => with_unfolding_all exact rfl); (case e2 => with_unfolding_all exact rfl); (case e3 => (intro z h1 h2 h3; simp [h1, h2, h3])); (case e4 => first | exact bs_left (by with_reducible assumption) (by with_reducible assumption) (by with_reducible assumption) | exact bs_right (by with_reducible assumption) (by with_reducible assumption) (by with_reducible assumption)); (case e5 => ((rename Bs _ _ _ => hB'); (rename (_ < _) => hL'); (have hM' := bs_mid hB' (by with_reducible assumption)); dsimp only; omega))))
theorem bs_claim (w : World) (mean : ExcName → Option Value) (mg mb : Str → Option Value) (rest : List (Addr × Obj)) (D : Addr) (ys : List Value) (x : Int) (t : Tok) :
    CbClaim Challenge.rw_nb0066_01.row.prog w (hd.heap_39 w.params) hd.view_39 (looseW hd.view_39 [Str.ofString "COMPILER_FLAG_NAMES", Str.ofString "bisect_right"]) mean mg mb 31 ((D, LCg.lst ys) :: rest) [] (Pows ys ∧ Small x) [.ref D, .int x t] (fun t => .int (bis x) t) := by
  w_top off
  k_fill
  dsimp only [CbClaim, CbLists, CbRet]
  intros
  rename_i hPS _ _ hret
  obtain ⟨hPows, hSmall⟩ := hPS
  have cbI : CbIn 31 := CbIn.mk
  refine wpAny_call ?_
  k_dflt (refine' code_def ?k1 ?k2 ?k3 ?k4 ?k5 ?kA ?kF ?kK ?k6 ?k7 ?k8 ?k9 ?kB ?_ ?c2 ?c3 ?c4 ?c5; (case kA => exact rfl); (case kF => exact rfl); (case kK => assumption); (case k1 => k_asm); (case k2 => k_asm); (case k3 => k_asm); (case k4 => k_asm); (case k5 => k_asm); (case k6 => k_is); (case k7 => k_is); (case k8 => ktr_room); (case k9 => (refine' kp_binds ?kx ?ke; (case kx => k_in); (case ke => exact fun _ => rfl))); (case c5 => decide); (case kB => exact locs rfl); (case c2 => exact rfl); (case c3 => exact rfl); (case c4 => exact rfl); k_whole; intro g' L' h' FG' F' N' B' X' T'; (try dsimp only); (try k_lift B'); (try k_fold))
  k_with "tree" => exact bs_end (by with_reducible assumption) (by with_reducible assumption) (by omega)
  k_steps
  all_goals cb_end hret
end

/-! part LL -/
/-- what holds of rest and words ahead of each turn -/
structure Lw (n r : Int) (ss : List Str) : Prop where
  nat : 0 ≤ r
  low : r < 2 ^ 32
  all : wb 32 r ++ ss = allWords n
theorem rem_eq (n : Int) : n.fmod (2 ^ Int.toNat 32) = n % 2 ^ 32 := Int.fmod_eq_emod_of_nonneg _ (by decide)
theorem lw_start {n : Int} {ss : List Str} (h : ss = tailOf n) : Lw n (n.fmod (2 ^ Int.toNat 32)) ss := by
  rw [rem_eq]
  refine ⟨Int.emod_nonneg _ (by decide), Int.emod_lt_of_pos _ (by decide), ?_⟩
  rw [wb_mod n 32 32 (Nat.le_refl _), allWords, h]
theorem tail_ne {n : Int} (h : n.fmod (2 ^ Int.toNat 32) ≠ n) : [baseText "0x" 16 (n - n.fmod (2 ^ Int.toNat 32))] = tailOf n := by
  rw [rem_eq] at h ⊢
  rw [tailOf, if_pos (.inl h)]
theorem tail_zero {n : Int} (h : n.fmod (2 ^ Int.toNat 32) = 0) : [baseText "0x" 16 (n - n.fmod (2 ^ Int.toNat 32))] = tailOf n := by
  rw [rem_eq] at h ⊢
  rw [tailOf, if_pos (.inr h)]
theorem tail_no {n : Int} (h : n.fmod (2 ^ Int.toNat 32) = n) (h0 : n.fmod (2 ^ Int.toNat 32) ≠ 0) : [] = tailOf n := by
  rw [rem_eq] at h h0
  rw [tailOf, if_neg]
  rintro (h1 | h1)
  · exact h1 h
  · exact h0 h1
theorem hex_first {n : Int} (hf : Fits n) : (baseText "0x" 16 (n - n.fmod (2 ^ Int.toNat 32))).length ≤ sizeLine := by
  rw [rem_eq, sizeLine_eq]
  exact Nat.le_trans (hex_cut hf (Nat.le_refl 32)) (by decide)
theorem lw_small {n r : Int} {ss : List Str} (h : Lw n r ss) (h0 : 0 < r) : Small r := ⟨h0, h.low⟩
theorem lw_turn {n r : Int} {ss : List Str} (h : Lw n r ss) (h0 : 0 < r) : Lw n (r - 2 ^ (bis r - 1).toNat) (word (2 ^ (bis r - 1).toNat) :: ss) := by
  obtain ⟨h1, _, _, h2, h3⟩ := small_log (lw_small h h0)
  have hp := pow_pos (bis r - 1).toNat
  have hl := h.low
  refine ⟨by omega, by omega, ?_⟩
  have e := wb_top h2 h3 h1
  rw [← h.all, ← e, List.append_assoc, List.singleton_append]
theorem lw_less {n r : Int} {ss : List Str} (_h : Lw n r ss) (h0 : 0 < r) : (r - 2 ^ (bis r - 1).toNat).toNat < r.toNat := by
  have hp := pow_pos (bis r - 1).toNat
  omega
theorem wb_zero : ∀ k, wb k 0 = []
  | 0 => rfl
  | k + 1 => by rw [wb_succ, wb_zero k]; simp
theorem lw_end {n r : Int} {ss : List Str} (h : Lw n r ss) (h0 : ¬ 0 < r) : ss = allWords n := by
  have e : r = 0 := by have := h.nat; omega
  have := h.all
  rw [e, wb_zero] at this
  exact this
theorem lw_len {n r : Int} {ss : List Str} (h : Lw n r ss) : ss.length ≤ 33 := by
  have e := congrArg List.length h.all
  rw [List.length_append, allWords, List.length_append] at e
  have h1 := wb_len n 32
  have h2 : (tailOf n).length ≤ 1 := by unfold tailOf; split <;> simp
  omega
theorem hex_power {r : Int} (hs : Small r) : (baseText "0x" 16 (2 ^ (bis r - 1).toNat)).length ≤ sizeLine := by
  rw [sizeLine_eq]
  exact Nat.le_trans (hex_pow (small_log hs).1) (by decide)

theorem news_dup {h₀ : Heap} {L : Addr} {h : Heap} {l : List (Addr × Obj)} {p : Addr × Obj} (N : News h₀ L h l) (hm : p ∈ l) : News h₀ L h (p :: l) := by
  intro q hq
  rcases List.mem_cons.mp hq with rfl | hq
  · exact N _ hm
  · exact N q hq
theorem news_tail {h₀ : Heap} {L : Addr} {h : Heap} {l : List (Addr × Obj)} {p : Addr × Obj} (N : News h₀ L h (p :: l)) : News h₀ L h l := fun q hq => N q (.tail _ hq)
section
variable {prog : Program} {w : World} {A : Around} {E : Value → Shared → Prop} {s : Shared} {h₀ : Heap} {L a b : Addr} {m : Str → Option Value} {news : List (Addr × Obj)}
theorem add_words {Q : Value → Shared → Prop} {y : Str} {ty : Tok} {ca cb : Nat} {vs : List Value} {ss : List Str} (F : Fr h₀ L s.heap m) (N : News h₀ L s.heap news) (ha : (a, W.listOf #[Value.str y ty] ca) ∈ news) (hb : (b, W.listOf vs.toArray cb) ∈ news) (hs : StrsAre vs ss) (hz : ss.length ≤ 33)
    (h : ∀ D h', Fr h₀ L h' m → News h₀ L h' ((D, W.listOf (Value.str y ty :: vs).toArray 0) :: news) → (∀ p ∈ news, p.1 < D) → Q (.ref D) { s with heap := h' }) :
    wpAny (model prog w) A (binaryOp .Add (.ref a) (.ref b)) Q E s := by
  have hl := StrsAre.length hs
  refine kmk_add_lit (zs := Value.str y ty :: vs) F N ⟨_, (N _ ha).1, rfl, ca, rfl⟩ ⟨_, (N _ hb).1, rfl, cb, rfl⟩ ?_ h ?_
  · simp
  · rw [sizeLine_eq]
    simp
    omega
end
section
variable {prog : Program} {w : World} {A : Around} {E : Value → Shared → Prop} {Q : Flow → Shared → Prop} {s : Shared} {env : Env} {h₀ : Heap} {L : Addr}
theorem lw_while {test : Expr} {body : List Stmt} {pos : Pos} {m₀ : Str → Option Value} {base : List (Addr × Obj)} {r₀ : Int} {tr : Tok} {a₀ : Addr} {vs₀ : List Value} {c₀ : Nat} (ss₀ : List Str) (P : Int → List Str → Prop)
    (F : Fr h₀ L s.heap m₀) (N : News h₀ L s.heap ((a₀, W.listOf vs₀.toArray c₀) :: base)) (hs : StrsAre vs₀ ss₀) (h1 : m₀ (Str.ofString "rest") = some (.int r₀ tr)) (h2 : m₀ (Str.ofString "words") = some (.ref a₀)) (hp : P r₀ ss₀)
    (turn : ∀ (c : Int × Nat × Addr × List Value × List Str × Nat) (u : Str → Option Value) h tk, StrsAre c.2.2.2.1 c.2.2.2.2.1 → P c.1 c.2.2.2.2.1 →
      Fr h₀ L h (fun y => if y = Str.ofString "rest" then some (.int c.1 c.2.1) else if y = Str.ofString "words" then some (.ref c.2.2.1) else if [Str.ofString "power"].contains y then u y else m₀ y) → News h₀ L h ((c.2.2.1, W.listOf c.2.2.2.1.toArray c.2.2.2.2.2) :: base) →
      wpAny (model prog w) A (isTrue test env (eval test env)) (fun b s₂ =>
        if b = true then wpAny (model prog w) A (execs body env) (KswPost h₀ L s (fun c : Int × Nat × Addr × List Value × List Str × Nat => (c.2.2.1, W.listOf c.2.2.2.1.toArray c.2.2.2.2.2) :: base) (fun c => [(Str.ofString "rest", Value.int c.1 c.2.1), (Str.ofString "words", Value.ref c.2.2.1)]) (fun c => StrsAre c.2.2.2.1 c.2.2.2.2.1) [Str.ofString "power"] m₀ (fun c => P c.1 c.2.2.2.2.1) (fun c => c.1.toNat) Q c) E s₂ else Q .next s₂) E { s with heap := h, toks := tk })
    (hE : PassesOwn (model prog w) A env E := by passes_own) :
    wpAny (model prog w) A (exec (.While test body [] pos) env) Q E s := by
  refine ksw_while (fun c : Int × Nat × Addr × List Value × List Str × Nat => (c.2.2.1, W.listOf c.2.2.2.1.toArray c.2.2.2.2.2) :: base) (fun c => [(Str.ofString "rest", Value.int c.1 c.2.1), (Str.ofString "words", Value.ref c.2.2.1)]) (fun c => StrsAre c.2.2.2.1 c.2.2.2.2.1) [Str.ofString "power"] (fun c => P c.1 c.2.2.2.2.1) (fun c => c.1.toNat) (r₀, tr, a₀, vs₀, ss₀, c₀) F N hs ?_ hp ?_ hE
  · intro p hp
    rcases List.mem_cons.mp hp with rfl | hp
    · exact h1
    · rw [List.mem_singleton.mp hp]
      exact h2
  · intro c u h tk h1 h2 F' N'
    exact turn c u h tk h1 h2 F' N'
theorem lw_next {base : List (Addr × Obj)} {p₁ p₂ : Addr × Obj} {P : Int → List Str → Prop} {h' : Heap} {tk : Nat} {m' m₀ : Str → Option Value} {r : Int} {tr : Tok} {a' : Addr} {c' : Nat} {v : Value} {y : Str} {ty : Tok} {vs : List Value} {ss : List Str} {c : Int × Nat × Addr × List Value × List Str × Nat}
    (F : Fr h₀ L h' m') (N : News h₀ L h' ((a', W.listOf (v :: vs).toArray c') :: p₁ :: p₂ :: base)) (hv : v = .str y ty) (hs : StrsAre vs ss) (h1 : m' (Str.ofString "rest") = some (.int r tr)) (h2 : m' (Str.ofString "words") = some (.ref a'))
    (hr : ∀ z, z ≠ Str.ofString "rest" → z ≠ Str.ofString "words" → z ≠ Str.ofString "power" → m' z = m₀ z) (hp : P r (y :: ss)) (hm : r.toNat < c.1.toNat) :
    KswEnd h₀ L s (fun c : Int × Nat × Addr × List Value × List Str × Nat => (c.2.2.1, W.listOf c.2.2.2.1.toArray c.2.2.2.2.2) :: base) (fun c => [(Str.ofString "rest", Value.int c.1 c.2.1), (Str.ofString "words", Value.ref c.2.2.1)]) (fun c => StrsAre c.2.2.2.1 c.2.2.2.2.1) [Str.ofString "power"] m₀ (fun c => P c.1 c.2.2.2.2.1) (fun c => c.1.toNat) c { s with heap := h', toks := tk } := by
  subst hv
  refine ksw_end (r, tr, a', .str y ty :: vs, y :: ss, c') F N ?_ (.cons _ _ hs) ?_ ?_ hp hm
  · intro p hp
    rcases List.mem_cons.mp hp with rfl | hp
    · exact .head _
    · exact .tail _ (.tail _ (.tail _ hp))
  · intro p hp
    rcases List.mem_cons.mp hp with rfl | hp
    · exact h1
    · rw [List.mem_singleton.mp hp]
      exact h2
  · intro z h3 h4
    refine hr z (h3 _ (.head _)) (h3 _ (.tail _ (.head _))) ?_
    rintro rfl
    simp at h4
end

/-! part LW -/
section
local macro_rules | `(tactic| walk_at "call ref") => `(tactic| (k_here; (with_reducible show wpAny _ _ (call (Value.ref 31) [Value.ref _, Value.int _ _]) _ _ _); (have hCb := bs_claim); (dsimp only [CbClaim, CbLists, CbRet] at hCb); k_dflt ((refine' hCb _ _ _ _ _ _ _ _ _ _ _ _ _ _ _ _ _ _ _ _ _ _ _ _ _ _ ?k1 ?k2 ?k3 ?k4 ?k5 ?kK ?kp ?kd ?ku ?_); (case k1 => k_asm); (case k2 => k_asm); (case k3 => k_asm); (case k4 => exact news_dup (by k_asm) (by k_memK)); (case k5 => k_asm); (case kK => first | exact rfl | assumption); (case kp => exact ⟨by with_reducible assumption, lw_small (by with_reducible assumption) (by with_reducible assumption)⟩); (case kd => ktr_room); (case ku => ktr_units)); clear hCb; intro t9 h9 tk9 F9 N9; (replace N9 := news_tail N9); (try dsimp only); (try k_fold)))
local macro_rules | `(tactic| walk_at "subscriptTail") => `(tactic| (k_here; (with_reducible show wpAny _ _ (subscriptTail _ _ (Value.ref _) (Value.int _ _)) _ _ _); k_dflt (refine' pow_item ?l1 ?l2 ?l3 ?l4 ?l5 ?_ ?l6 ?l7; (case l1 => k_asm); (case l2 => k_memK); (case l3 => with_reducible assumption); (case l4 => exact (small_log (lw_small (by with_reducible assumption) (by with_reducible assumption))).2.1); (case l5 => exact (small_log (lw_small (by with_reducible assumption) (by with_reducible assumption))).2.2.1); (case l6 => with_unfolding_all rfl); (case l7 => (intro _; with_unfolding_all rfl))); intro _))
local macro_rules | `(tactic| walk_at "call builtin:hex") => `(tactic| ((with_reducible refine P.hex_of_int ?_ ?hz); (case hz => first | exact hex_first (by with_reducible assumption) | exact hex_power (lw_small (by with_reducible assumption) (by with_reducible assumption)))))
local macro_rules | `(tactic| walk_at "call builtin:dict.get") => `(tactic| (k_here; (with_reducible show wpAny _ _ (call (Value.builtin "dict.get") [Value.ref _, Value.int _ _, Value.str (baseText _ _ _) _]) _ _ _); (refine' get_word ?g1 ?g2 ?_; (case g1 => with_reducible assumption); (case g2 => kt_keeps)); intro _))
local macro_rules | `(tactic| walk_at "binaryOp Add ref ref") => `(tactic| (k_here; (with_reducible show wpAny _ _ (binaryOp _ (Value.ref _) (Value.ref _)) _ _ _); k_dflt (refine' add_words ?a1 ?a2 ?a3 ?a4 ?a5 ?a6 ?_; (case a1 => k_asm); (case a2 => k_asm); (case a3 => k_memK); (case a4 => k_memK); (case a5 => with_reducible assumption); (case a6 => exact lw_len (by with_reducible assumption))); intro D' h' F' N' l1; (try k_lt l1); (try k_sweep)))
local macro_rules | `(tactic| walk_at "call builtin:str.join") => `(tactic| (k_here; (with_reducible show wpAny _ _ (call (Value.builtin "str.join") [Value.str _ _, Value.ref _]) _ _ _); k_dflt (refine' join_all ?j1 ?j2 ?j3 ?j4 ?j5 ?_; (case j1 => k_asm); (case j2 => k_memK); (case j3 => with_reducible assumption); (case j4 => exact lw_end (by with_reducible assumption) (by with_reducible assumption)); (case j5 => with_reducible assumption)); intro _ _))
local macro_rules | `(tactic| walk_at "exec While Compare cons nil") => `(tactic| (k_here; (with_reducible show wpAny _ _ (exec (Stmt.While _ _ _ _) _) _ _ _); (rename Fr _ _ _ _ => lF'); (rename News _ _ _ _ => lN'); (with_unfolding_all refine' lw_while _ (Lw _) lF' lN' ?w0 ?w1 ?w2 ?w3 ?_; (case w0 => first | exact StrsAre.nil | exact StrsAre.cons _ _ StrsAre.nil); (case w1 => exact rfl); (case w2 => exact rfl); (case w3 => exact lw_start (by first | exact tail_ne (by with_reducible assumption) | exact tail_zero (by with_reducible assumption) | exact tail_no (by with_reducible assumption) (by with_reducible assumption)))); (try clear lF' lN'); (rintro ⟨_, _, _, _, _, _⟩ _ _ _ kFacts kInv kFr kNews; (try dsimp only at kFacts kInv kFr kNews); (try dsimp only)); (have kLen := StrsAre.length kFacts); (have kMark := kstMark); (try k_fold)))
local macro_rules | `(tactic| walk_at "exec While Compare") => `(tactic| (k_here; (with_reducible show wpAny _ _ (exec (Stmt.While _ _ _ _) _) _ _ _); (rename Fr _ _ _ _ => lF'); (rename News _ _ _ _ => lN'); (with_unfolding_all refine' lw_while _ (Lw _) lF' lN' ?w0 ?w1 ?w2 ?w3 ?_; (case w0 => first | exact StrsAre.nil | exact StrsAre.cons _ _ StrsAre.nil); (case w1 => exact rfl); (case w2 => exact rfl); (case w3 => exact lw_start (by first | exact tail_ne (by with_reducible assumption) | exact tail_zero (by with_reducible assumption) | exact tail_no (by with_reducible assumption) (by with_reducible assumption)))); (try clear lF' lN'); (rintro ⟨_, _, _, _, _, _⟩ _ _ _ kFacts kInv kFr kNews; (try dsimp only at kFacts kInv kFr kNews); (try dsimp only)); (have kLen := StrsAre.length kFacts); (have kMark := kstMark); (try k_fold)))
local macro_rules | `(tactic| walk_at "KswEnd") => `(tactic| (k_here; (rename Fr _ _ _ _ => fE'); (rename News _ _ _ _ => nE'); refine' lw_next fE' nE' ?e0 ?e1 ?e2 ?e3 ?e4 ?e5 ?e6; (case e0 => exact rfl); (case e1 => with_reducible assumption); (case e2 => with_unfolding_all exact rfl); (case e3 => with_unfolding_all exact rfl); (case e4 => (intro z h1 h2 h3; simp [h1, h2, h3])); (case e5 => exact lw_turn (by with_reducible assumption) (by with_reducible assumption)); (case e6 => exact lw_less (by with_reducible assumption) (by with_reducible assumption))))
theorem lw_claim (w : World) (mean : ExcName → Option Value) (mg mb : Str → Option Value) (rest : List (Addr × Obj)) (D : Addr) (ys : List Value) (n : Int) (t : Tok) :
    ∀ (dp un : Nat) (gd : Option (List Code)) (cn : Str) (cs : Scope) (a : Addr) (ccd : Value) (cl : List (Str × Addr)) (outer : List Env) (A₀ : Around) (base h₀ : Heap) (L : Addr) (m : Str → Option Value) (s : Shared) (Q E : Value → Shared → Prop),
    Below A₀ base outer h₀ → Fr h₀ L s.heap m → (hd.heap_39 w.params).In h₀ → News h₀ L s.heap ((D, LCg.lst ys) :: rest) → Top hd.view_39 (looseW hd.view_39 [Str.ofString "COMPILER_FLAG_NAMES", Str.ofString "bisect_right"]) mean mg mb h₀ → cs.kind = .function →
    Pows ys ∧ Fits n → dp + 9 < recursionLimit → un + 80 < cLine →
    (∀ (t : Tok) (h' : Heap) (tk' : Nat), Fr h₀ L h' m → News h₀ L h' ((D, LCg.lst ys) :: rest) → Q (.str (pf n) t) { s with heap := h', toks := tk' }) →
      wpAny (model Challenge.rw_nb0066_01.row.prog w) (ktrTop dp un gd cn cs L a ccd cl outer) (call (.ref 38) [.int n t, .ref D]) Q E s := by
  w_top off
  k_fill
  intros
  rename_i hPS _ _ hret
  obtain ⟨hPows, hFits⟩ := hPS
  have cbI : CbIn 38 := CbIn.mk
  refine wpAny_call ?_
  k_dflt cell_enter
  k_steps
  all_goals cb_end hret
end
end Mine

/-! the law -/
open Mine
local macro_rules | `(tactic| walk_at "call ref") => `(tactic| (k_here; (with_reducible show wpAny _ _ (call (Value.ref 22) [Value.int _ _]) _ _ _); (have hCb := pf_claim); (dsimp only [CbClaim, CbLists, CbRet] at hCb); k_dflt ((refine' hCb _ _ _ _ _ _ _ _ _ _ _ _ _ _ _ _ _ _ _ _ _ _ _ _ ?k1 ?k2 ?k3 ?k4 ?k5 ?kK ?kp ?kd ?ku ?_); (case k1 => k_asm); (case k2 => k_asm); (case k3 => k_asm); (case k4 => k_asm); (case k5 => k_asm); (case kK => first | exact rfl | assumption); (case kp => with_reducible assumption); (case kd => ktr_room); (case ku => ktr_units)); clear hCb; intro t9 h9 tk9 F9 N9; (try dsimp only); (try k_fold)))
local macro_rules | `(tactic| walk_at "call ref") => `(tactic| (k_here; (with_reducible show wpAny _ _ (call (Value.ref 38) [Value.int _ _, Value.ref _]) _ _ _); (have hCb := lw_claim); k_dflt ((refine' hCb _ _ _ _ _ _ _ _ _ _ _ _ _ _ _ _ _ _ _ _ _ _ _ _ _ _ ?k1 ?k2 ?k3 ?k4 ?k5 ?kK ?kp ?kd ?ku ?_); (case k1 => k_asm); (case k2 => k_asm); (case k3 => k_asm); (case k4 => exact news_dup (by k_asm) (by k_memK)); (case k5 => k_asm); (case kK => first | exact rfl | assumption); (case kp => exact ⟨Pows.mk (by with_reducible assumption), by with_reducible assumption⟩); (case kd => ktr_room); (case ku => ktr_units)); clear hCb; intro t9 h9 tk9 F9 N9; (replace N9 := news_tail N9); (try dsimp only); (try k_fold)))
theorem PySem.Challenge.cw_nb0066_01_holds : PySem.Challenge.rw_nb0066_01.Holds := by
  refine Mine.hd ?_
  k_with "exec For Name BinOp cons nil" => (k_here; (rename Fr _ _ _ _ => lF'); (with_unfolding_all refine' For_invVF lF' ?k1 ?k2 ?_; (case k1 => exact rfl); (case k2 => exact rfl); k_whole))
  k_with "pyIter ref" => (k_of "number" => (k_search (fun _ => True); ((have kFit := fits_of (by assumption) kMem))))
  w_top off
  k_go0; (all_goals try k_fold); k_steps
