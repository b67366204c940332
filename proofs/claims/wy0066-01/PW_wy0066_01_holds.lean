import PyProof.Rows.All
import Wide.All
import OpenK.AllK
import Wide.FinOn
import KE.IntBitsLaws
import KE.BitLaws
import KE.KIntText
import KE.IntTextText
import PyProof.StrLawsIdx
import PyProof.StrBlockI
import KE.KPairTest
import PyProof.WalksEnum
import KE.KxText
import KE.KDictSum
import PySem.Challenge.RW_wy0066_01
set_option Elab.async false
set_option compiler.extract_closed false
section
open PySem PySem.W PyProof.Rows
set_option Elab.async false
namespace Mine
set_option maxRecDepth 100000 in
set_option maxHeartbeats 8000000 in
open_top hd for PySem.Challenge.rw_wy0066_01
end Mine
end

section
open PySem PySem.W PyProof.Rows
set_option Elab.async false
set_option maxRecDepth 100000
namespace Mine
example : (1 : Nat) = 1 := by
  k_with_none
  w_top off
  walk1

example : PySem.Challenge.rw_wy0066_01 = PySem.Challenge.rw_wy0066_01 ∧ Mine.hd.heap_39 = Mine.hd.heap_39 := by
  k_fill
  exact ⟨rfl, rfl⟩

/-- what a call of a def of the text's does: `dn` frames, `un` units -/
def Does (prog : Program) (w : World) (p : Program) (loose : List Str) (mean : ExcName → Option Value) (mg mb : Str → Option Value) (dn un : Nat) (f : Addr) (vs : List Value)
    (pre : List (Addr × Obj) → Prop) (post : List (Addr × Obj) → List (Addr × Obj) → Value → Prop) : Prop :=
  ∀ (dp u : Nat) (gd : Option (List Code)) (cn : Str) (cs : Scope) (a : Addr) (ccd : Value) (cl : List (Str × Addr)) (outer : List Env) (A₀ : Around) (base h₀ : Heap) (L : Addr) (m : Str → Option Value) (news : List (Addr × Obj)) (s : Shared)
    (Q : Value → Shared → Prop),
    Below A₀ base outer h₀ → Fr h₀ L s.heap m → (Mine.hd.heap_39 w.params).In h₀ → News h₀ L s.heap news → Top p loose mean mg mb h₀ → cs.kind = .function → dp + dn < recursionLimit → u + un < cLine → pre news →
    (∀ r news' h' tk' dr', Fr h₀ L h' m → News h₀ L h' news' → post news news' r → Q r { s with heap := h', toks := tk', drawn := dr' }) →
    wpAny (model prog w) (ktrTop dp u gd cn cs L a ccd cl outer) (call (.ref f) vs) Q (fun _ _ => False) s

section
variable {prog : Program} {w : World} {p : Program} {loose : List Str} {mean : ExcName → Option Value} {mg mb : Str → Option Value} {dn un : Nat} {f : Addr} {vs : List Value}
    {pre : List (Addr × Obj) → Prop} {post : List (Addr × Obj) → List (Addr × Obj) → Value → Prop}
theorem Does.use (C : Does prog w p loose mean mg mb dn un f vs pre post) {dp u : Nat} {gd : Option (List Code)} {cn : Str} {cs : Scope} {a : Addr} {ccd : Value} {cl : List (Str × Addr)} {outer : List Env} {A₀ : Around} {base h₀ : Heap} {L : Addr} {m : Str → Option Value} {news : List (Addr × Obj)} {s : Shared}
    {Q E : Value → Shared → Prop}
    (B : Below A₀ base outer h₀) (F : Fr h₀ L s.heap m) (X : (Mine.hd.heap_39 w.params).In h₀) (N : News h₀ L s.heap news) (T : Top p loose mean mg mb h₀) (hk : cs.kind = .function) (hd : dp + dn < recursionLimit) (hu : u + un < cLine) (hpre : pre news)
    (ret : ∀ r news' h' tk' dr', Fr h₀ L h' m → News h₀ L h' news' → post news news' r → Q r { s with heap := h', toks := tk', drawn := dr' }) :
    wpAny (model prog w) (ktrTop dp u gd cn cs L a ccd cl outer) (call (.ref f) vs) Q E s :=
  wpAny_mono (C dp u gd cn cs a ccd cl outer A₀ base h₀ L m news s Q B F X N T hk hd hu hpre ret) (fun _ _ h => h) fun _ _ h => h.elim
end
local macro_rules | `(tactic| k_call_by "use" $c:term) => `(tactic| (k_dflt (refine' Does.use $c ?k1 ?k2 ?k3 ?k4 ?k5 ?kK ?kd ?ku ?kp ?_; (case k1 => k_asm); (case k2 => k_asm); (case k3 => k_asm); (case k4 => k_asm); (case k5 => k_asm); (case kK => first | exact rfl | assumption))))
theorem pow_half (b : Int) (n : Nat) (h : ((n : Int)).fmod 2 = 1) : b ^ (n / 2) * b ^ (n / 2) * b = b ^ n := by
  rw [Int.fmod_eq_emod_of_nonneg _ (by omega)] at h
  rw [← Int.pow_add, ← Int.pow_succ]
  congr 1; omega
theorem pow_half0 (b : Int) (n : Nat) (h : ¬ ((n : Int)).fmod 2 = 1) : b ^ (n / 2) * b ^ (n / 2) * 1 = b ^ n := by
  rw [Int.fmod_eq_emod_of_nonneg _ (by omega)] at h
  rw [← Int.pow_add, Int.mul_one]
  congr 1; omega
local macro_rules | `(tactic| bits_by_make) => `(tactic| with_reducible assumption)
set_option maxHeartbeats 4000000 in
set_option pp.deepTerms false in
set_option pp.deepTerms.threshold 5 in
theorem law_power_does {prog : Program} {w : World} {p : Program} {loose : List Str} {mean : ExcName → Option Value} {mg mb : Str → Option Value} (b : Int) (k : Nat) (hb : Builtin.Int.intBits b ≤ k) (d n : Nat) (hd2 : n < 2 ^ d) (hn : k * n ≤ 100000) (hk1 : k ≤ 100000) (tb tn : Tok) :
    Does prog w p loose mean mg mb (d + 1) (8 * (d + 1)) 57 [.int b tb, .int (n : Int) tn] (fun _ => True) (fun news news' r => news' = news ∧ ∃ t, r = .int (b ^ n) t) := by
  induction d generalizing n tb tn with
  | zero =>
    have hn : n = 0 := by simpa using hd2
    subst hn
    unfold Does
    intro dp u gd cn cs a ccd cl outer A₀ base h₀ L m news s Q B F X N T hk hd hu hpre hret
    refine wpAny_call ?_
    k_dflt ktr_enter
    k_steps
    exact hret _ _ _ _ _ (by assumption) (by assumption) ⟨rfl, _, by rw [Int.pow_zero]⟩
  | succ d IH =>
  unfold Does
  intro dp u gd cn cs a ccd cl outer A₀ base h₀ L m news s Q B F X N T hk hd hu hpre hret
  refine wpAny_call ?_
  k_dflt ktr_enter
  k_steps
  · have hn : n = 0 := by omega
    subst hn
    exact hret _ _ _ _ _ (by assumption) (by assumption) ⟨rfl, _, by rw [Int.pow_zero]⟩
  · have hfd : ((n : Int)).fdiv 2 = ((n / 2 : Nat) : Int) := by
      rw [Int.fdiv_eq_ediv_of_nonneg _ (by omega)]; omega
    rw [hfd]
    have hn2 : k * (n / 2) ≤ 100000 := Nat.le_trans (Nat.mul_le_mul_left _ (Nat.div_le_self _ _)) hn
    have hp2 : n / 2 < 2 ^ d := by rw [Nat.pow_succ] at hd2; omega
    k_call_by "use" (IH (n / 2) hp2 hn2 _ _)
    · show dp + 1 + _ < _; omega
    · show u + 3 + _ < _; omega
    · trivial
    · intro r news' h' tk' dr' F9 N9 hp
      obtain ⟨rfl, t, rfl⟩ := hp
      dsimp only
      have hbb : Builtin.Int.intBits b ≤ 100000 := Nat.le_trans hb hk1
      have hbp : Builtin.Int.intBits (b ^ (n / 2)) ≤ 100001 := Nat.le_trans (intBits_pow_le hb _) (by omega)
      k_steps
      all_goals refine hret _ _ _ _ _ (by assumption) (by assumption) ⟨rfl, ktn_int ?_⟩
      · exact pow_half b n (by assumption)
      · exact pow_half0 b n (by assumption)
end Mine
end

section
open PySem PySem.W PyProof.Rows
set_option Elab.async false
set_option maxRecDepth 100000
namespace Mine
example : (1 : Nat) = 1 := by
  k_with_none
  w_top off
  walk1

/-! ## pure facts of a set's table -/
def Rise (xs : Array Nat) : Prop := xs.toList.Pairwise (· < ·)

theorem Rise.lt {xs : Array Nat} (h : Rise xs) {i j : Nat} (hj : j < xs.size) (hij : i < j) : xs[i]'(Nat.lt_trans hij hj) < xs[j] := by
  have := List.pairwise_iff_getElem.mp h i j (by simpa using Nat.lt_trans hij hj) (by simpa using hj) hij
  simpa using this

theorem below_go {xs : Array Nat} (hs : Rise xs) (j : Nat) : ∀ fuel lo hi, lo ≤ hi → hi ≤ xs.size → hi - lo ≤ fuel →
    (∀ i (h : i < xs.size), i < lo → xs[i] < j) → (∀ i (h : i < xs.size), hi ≤ i → j ≤ xs[i]) →
    SetTable.below.go xs j fuel lo hi ≤ xs.size ∧ (∀ i (h : i < xs.size), i < SetTable.below.go xs j fuel lo hi → xs[i] < j) ∧ (∀ i (h : i < xs.size), SetTable.below.go xs j fuel lo hi ≤ i → j ≤ xs[i]) := by
  intro fuel
  induction fuel with
  | zero =>
    intro lo hi h1 h2 h3 a b
    have e : lo = hi := by omega
    subst e
    exact ⟨h2, a, b⟩
  | succ fuel ih =>
    intro lo hi h1 h2 h3 a b
    unfold SetTable.below.go
    by_cases hlt : lo < hi
    · rw [if_pos hlt]
      have hm : (lo + hi) / 2 < xs.size := by omega
      have hg : xs.getD ((lo + hi) / 2) j = xs[(lo + hi) / 2] := by simp [hm]
      dsimp only
      rw [hg]
      by_cases hc : xs[(lo + hi) / 2] < j
      · rw [if_pos hc]
        refine ih _ _ (by omega) h2 (by omega) (fun i h hi' => ?_) b
        by_cases he : i = (lo + hi) / 2
        · subst he; exact hc
        · exact Nat.lt_trans (hs.lt hm (by omega)) hc
      · rw [if_neg hc]
        refine ih _ _ (by omega) (by omega) (by omega) a (fun i h hi' => ?_)
        by_cases he : i = (lo + hi) / 2
        · subst he; omega
        · exact Nat.le_trans (Nat.le_of_not_lt hc) (Nat.le_of_lt (hs.lt h (by omega)))
    · rw [if_neg hlt]
      have e : lo = hi := by omega
      subst e
      exact ⟨h2, a, b⟩

theorem below_spec {xs : Array Nat} (hs : Rise xs) (j : Nat) :
    SetTable.below xs j ≤ xs.size ∧ (∀ i (h : i < xs.size), i < SetTable.below xs j → xs[i] < j) ∧ (∀ i (h : i < xs.size), SetTable.below xs j ≤ i → j ≤ xs[i]) :=
  below_go hs j _ _ _ (Nat.zero_le _) (Nat.le_refl _) (by omega) (fun i h hi => absurd hi (Nat.not_lt_zero _)) (fun i h hi => absurd h (by omega))

theorem below_zero {xs : Array Nat} (hs : Rise xs) : SetTable.below xs 0 = 0 := by
  obtain ⟨a, b, c⟩ := below_spec hs 0
  by_cases h : SetTable.below xs 0 = 0
  · exact h
  · have := b 0 (by omega) (by omega); omega

theorem below_next {xs : Array Nat} (hs : Rise xs) {i : Nat} (hi : i < xs.size) : SetTable.below xs (xs[i] + 1) = i + 1 := by
  obtain ⟨a, b, c⟩ := below_spec hs (xs[i] + 1)
  rcases Nat.lt_trichotomy (SetTable.below xs (xs[i] + 1)) (i + 1) with h | h | h
  · have := c i hi (by omega); omega
  · exact h
  · have h2 := b (i + 1) (by omega) (by omega)
    have h3 := hs.lt (show i + 1 < xs.size by omega) (Nat.lt_succ_self i)
    omega

theorem not_mem_of_below {xs : Array Nat} (hs : Rise xs) {j : Nat} (h : xs[SetTable.below xs j]? ≠ some j) : j ∉ xs.toList := by
  intro hm
  obtain ⟨i, hi, e⟩ := List.getElem_of_mem hm
  have hi' : i < xs.size := by simpa using hi
  have e' : xs[i] = j := by simpa using e
  obtain ⟨a, b, c⟩ := below_spec hs j
  rcases Nat.lt_trichotomy i (SetTable.below xs j) with q | q | q
  · have := b i hi' q; omega
  · apply h; rw [← q, ← e']; simp
  · have h1 := hs.lt hi' q
    have h2 := c (SetTable.below xs j) (by omega) (Nat.le_refl _)
    omega

theorem rise_insert {xs : Array Nat} (hs : Rise xs) {j : Nat} (hj : j ∉ xs.toList) : Rise (SetTable.insertAt xs (SetTable.below xs j) j) := by
  unfold Rise
  rw [SetTable.toList_insertAt]
  obtain ⟨a, b, c⟩ := below_spec hs j
  refine List.pairwise_append.mpr ⟨List.Pairwise.sublist (List.take_sublist _ _) hs, List.pairwise_cons.mpr ⟨fun x hx => ?_, List.Pairwise.sublist (List.drop_sublist _ _) hs⟩, fun x hx y hy => ?_⟩
  · obtain ⟨i, hi, e⟩ := List.getElem_of_mem hx
    rw [List.getElem_drop] at e
    have hi' : SetTable.below xs j + i < xs.size := by simp at hi; omega
    have h1 := c _ hi' (Nat.le_add_right _ _)
    have e' : xs[SetTable.below xs j + i] = x := by simpa using e
    have hx' : x ∈ xs.toList := List.mem_of_mem_drop hx
    have hne : x ≠ j := fun q => hj (q ▸ hx')
    omega
  · obtain ⟨i, hi, e⟩ := List.getElem_of_mem hx
    rw [List.getElem_take] at e
    have hi2 : i < SetTable.below xs j ∧ i < xs.size := by simp at hi; omega
    have h1 := b i hi2.2 hi2.1
    have e' : xs[i]'hi2.2 = x := by simpa using e
    rcases List.mem_cons.mp hy with rfl | hy
    · omega
    · obtain ⟨k, hk, e2⟩ := List.getElem_of_mem hy
      rw [List.getElem_drop] at e2
      have hk' : SetTable.below xs j + k < xs.size := by simp at hk; omega
      have h2 := c _ hk' (Nat.le_add_right _ _)
      have e3 : xs[SetTable.below xs j + k] = y := by simpa using e2
      omega

theorem toList_eraseAt {α : Type} (xs : Array α) (p : Nat) : (SetTable.eraseAt xs p).toList = xs.toList.eraseIdx p := by
  simp [SetTable.eraseAt, List.extract_eq_take_drop, List.take_of_length_le, List.eraseIdx_eq_take_drop_succ]

theorem rise_erase {xs : Array Nat} (hs : Rise xs) (p : Nat) : Rise (SetTable.eraseAt xs p) := by
  unfold Rise
  rw [toList_eraseAt]
  exact List.Pairwise.sublist (List.eraseIdx_sublist _ _) hs

theorem rise_range (n : Nat) : Rise (Array.range n) := by
  unfold Rise
  rw [Array.toList_range]
  exact List.pairwise_lt_range

theorem slot_free {t : SetTable} (hs : Rise t.place) {j : Nat} (h : t.slot j = .empty ∨ t.slot j = .dummy) : j ∉ t.place.toList := by
  refine not_mem_of_below hs fun e => ?_
  unfold SetTable.slot at h
  simp [e] at h

theorem probe_go {t : SetTable} {f : Nat → Int} {h : Int} : ∀ fuel p j d, (∀ x, p.dummy = some x → t.slot x = .dummy) → SetTable.probe.go t f h fuel p = some (.empty j d) → t.slot j = .empty ∧ ∀ x, d = some x → t.slot x = .dummy := by
  intro fuel
  have adv : ∀ p : SetTable.Probe, (t.advance p).dummy = p.dummy := by
    intro p; unfold SetTable.advance; split
    · rfl
    · rfl
  induction fuel with
  | zero => intro p j d _ e; simp [SetTable.probe.go] at e
  | succ fuel ih =>
    intro p j d hp e
    unfold SetTable.probe.go at e
    split at e
    · rename_i hsl
      cases e
      exact ⟨hsl, hp⟩
    · rename_i hsl
      exact ih _ j d (fun x hx => by rw [adv] at hx; cases hx; exact hsl) e
    · split at e
      · cases e
      · exact ih _ j d (fun x hx => hp x (by rw [adv] at hx; exact hx)) e

theorem free_slot {t : SetTable} (hs : Rise t.place) {h : Int} {j : Nat} {b : Bool} (e : t.freeSlot h = some (j, b)) : j ∉ t.place.toList := by
  unfold SetTable.freeSlot at e
  split at e
  · rename_i j' d hp
    have hx := probe_go _ _ _ _ (fun x hx => by simp [SetTable.probeStart] at hx) (show SetTable.probe.go t _ _ _ _ = _ from hp)
    cases e
    cases d with
    | none => exact slot_free hs (.inl hx.1)
    | some d => exact slot_free hs (.inr (hx.2 d rfl))
  · cases e

/-- what of a table an int set's rules want -/
structure TabGood (B : Bool) (t : SetTable) : Prop where
  rise : Rise t.place
  led : t.led = !B

theorem TabGood.standIn {B : Bool} {t : SetTable} (h : TabGood B t) (n : Nat) : TabGood B (t.standIn n) := ⟨rise_range n, h.led⟩
theorem TabGood.orStandIn {B : Bool} {t : SetTable} (h : TabGood B t) (n : Nat) : TabGood B (t.orStandIn n) := by
  unfold SetTable.orStandIn
  split
  · exact h
  · exact h.standIn n
theorem TabGood.plainOff {B : Bool} {t : SetTable} (h : TabGood B t) : TabGood B { t with plain := false } := ⟨h.rise, h.led⟩
theorem TabGood.layNew {B : Bool} {t : SetTable} (h : TabGood B t) (es : Array (Int × Value)) (hs : Int) (x : Value) : TabGood B (layNew t es hs x).2.1 := by
  unfold PySem.layNew
  split
  · rename_i slot wd e
    show TabGood B ((t.put slot).1.orStandIn _)
    refine TabGood.orStandIn (t := (t.put slot).1) ⟨?_, h.led⟩ _
    exact rise_insert h.rise (free_slot h.rise e)
  · exact h.standIn _
theorem TabGood.relayAll {B : Bool} {t : SetTable} (h : TabGood B t) (es : Array (Int × Value)) (wanted : Nat) : TabGood B (relayAll t es wanted).2.1 := by
  unfold PySem.relayAll
  split
  · rename_i t' order e
    dsimp only
    split
    · unfold SetTable.relaid SetTable.laid at e
      cases hc : SetTable.layClean (SetTable.sizeAbove wanted - 1) (es.map (·.1)) with
      | none => rw [hc] at e; cases e
      | some owner =>
        rw [hc] at e
        cases e
        refine ⟨?_, h.led⟩
        show List.Pairwise _ _
        dsimp only
        rw [List.pairwise_map, List.pairwise_filterMap]
        refine List.Pairwise.imp ?_ (List.pairwise_lt_range)
        intro a b hab x hx y hy
        obtain ⟨_, _, rfl⟩ := Option.map_eq_some_iff.mp hx
        obtain ⟨_, _, rfl⟩ := Option.map_eq_some_iff.mp hy
        exact hab
    · exact h.standIn _
  · exact h.standIn _
theorem TabGood.popped {B : Bool} {t : SetTable} (h : TabGood B t) (i : Nat) : TabGood B (t.popped i) := by
  unfold SetTable.popped SetTable.drop
  split
  · exact ⟨rise_erase h.rise i, h.led⟩
  · exact ⟨h.rise, h.led⟩
theorem popped_fits {t : SetTable} {es : Array (Int × Value)} (hf : t.fits es.size = true) {i : Nat} (hi : i < es.size) : (t.popped i).fits (SetTable.eraseAt es i).size = true := by
  simp only [SetTable.fits, Bool.and_eq_true, beq_iff_eq, decide_eq_true_eq] at hf ⊢
  have hi' : i < t.place.size := by omega
  have e1 : (SetTable.eraseAt es i).size = es.size - 1 := by
    rw [← Array.length_toList, toList_eraseAt, List.length_eraseIdx]; simp [hi]
  have e2 : (SetTable.eraseAt t.place i).size = t.place.size - 1 := by
    rw [← Array.length_toList, toList_eraseAt, List.length_eraseIdx]; simp [hi']
  have e3 : ∀ (p : Nat) (x : Nat), (SetTable.insertAt t.dummies p x).size = t.dummies.size + 1 := by
    intro p x
    rw [← Array.length_toList, SetTable.toList_insertAt]; simp; omega
  unfold SetTable.popped SetTable.drop
  rw [Array.getElem?_eq_getElem hi']
  dsimp only [SetTable.fill]
  rw [e1, e2, e3]
  unfold SetTable.fill at hf
  omega
theorem pop_place {t : SetTable} {n : Nat} (hf : t.fits n = true) : (t.popPlace = none ∧ n = 0) ∨ ∃ i, t.popPlace = some i ∧ i < n := by
  simp only [SetTable.fits, Bool.and_eq_true, beq_iff_eq] at hf
  unfold SetTable.popPlace
  by_cases he : t.place.isEmpty
  · refine .inl ⟨by rw [if_pos he], ?_⟩
    have : t.place.size = 0 := by simpa [Array.isEmpty_iff_size_eq_zero] using he
    omega
  · refine .inr ⟨_, by rw [if_neg he], ?_⟩
    have : t.place.size ≠ 0 := fun q => he (by simpa [Array.isEmpty_iff_size_eq_zero] using q)
    split <;> omega
end Mine
end

section
open PySem PySem.W PyProof.Rows
set_option Elab.async false
set_option maxRecDepth 100000
namespace Mine
example : (1 : Nat) = 1 := by
  k_with_none
  w_top off
  walk1

/-- is a set's order read from the world's text? -/
noncomputable def byText (w : World) : Bool := w.params.followText "set-order"
noncomputable def keyOf : Value → Int
  | .int k _ => k
  | _ => 0
noncomputable def keysOf (es : List (Int × Value)) : List Int := es.map fun e => keyOf e.2
def IntElems (es : List (Int × Value)) : Prop := ∀ e ∈ es, ∃ k t, e = (hashInt k, Value.int k t)

/-- an exact set that holds just the ints l, in its own order -/
def SetI (B : Bool) (o : Obj) (l : List Int) : Prop :=
  o.ExactSet ∧ ∃ es ep t, o.data = .set es ep t ∧ IntElems es.toList ∧ l = keysOf es.toList ∧ l.Nodup ∧ t.fits es.size = true ∧ TabGood B t

theorem IntElems.elems {prog : Program} {w : World} {es : List (Int × Value)} (h : IntElems es) : ElemsOf (intKind prog w) es := fun e he => by
  obtain ⟨k, t, rfl⟩ := h e he
  exact ⟨⟨k, intKind_is _ _ _ _, rfl⟩, rfl⟩
theorem IntElems.perm {es es' : List (Int × Value)} (h : IntElems es) (p : es'.Perm es) : IntElems es' := fun e he => h e (p.mem_iff.mp he)
theorem IntElems.mem {prog : Program} {w : World} {es : List (Int × Value)} (h : IntElems es) (k : Int) : k ∈ keysOf es ↔ ∃ e ∈ es, (intKind prog w).is k e.2 = true := by
  constructor
  · intro hk
    obtain ⟨e, he, rfl⟩ := List.mem_map.mp hk
    refine ⟨e, he, ?_⟩
    obtain ⟨k, t, rfl⟩ := h e he
    exact intKind_is _ _ _ _
  · rintro ⟨e, he, hk⟩
    obtain ⟨k', t, rfl⟩ := h e he
    have e2 : k' = k := eq_of_beq (show (k' == k) = true from hk)
    subst e2
    exact List.mem_map.mpr ⟨_, he, rfl⟩
theorem SetI.objOf {prog : Program} {w : World} {B : Bool} {o : Obj} {l : List Int} (h : SetI B o l) : o.SetObjOf (intKind prog w) (fun k => decide (k ∈ l)) l.length := by
  obtain ⟨hex, es, ep, t, hd, hel, hl, hnd, hf, hg⟩ := h
  subst hl
  exact ⟨hex, es, ep, t, hd, hel.elems, fun k => by rw [decide_eq_true_eq]; exact hel.mem k, by simp [keysOf], hf⟩
theorem SetI.fresh (B : Bool) : SetI B { cls := .type "set", dict := none, data := .set #[] 0 (.fresh 0 0 (!B)) } [] :=
  ⟨⟨rfl, rfl, rfl⟩, #[], 0, _, rfl, fun e he => by simp at he, rfl, .nil, by rfl, ⟨by show List.Pairwise _ _; exact .nil, rfl⟩⟩

section
variable {prog : Program} {w : World} {A : Around} {E : Value → Shared → Prop} {s : Shared} {a : Addr} {o : Obj} {l : List Int}

theorem setI_store {B : Bool} {es es' : Array (Int × Value)} {ep : Nat} {t t' : SetTable} {Q : Unit → Shared → Prop} (ho : s.heap.get? a = some o) (hex : o.ExactSet) (hd : o.data = .set es ep t)
    (hel : IntElems es'.toList) (hnd : (keysOf es'.toList).Nodup) (hf : t'.fits es'.size = true) (hg : TabGood B t') (hb : es'.size < scanBound)
    (h : ∀ h' o', Heap.SameBut a s.heap h' → h'.get? a = some o' → SetI B o' (keysOf es'.toList) → o'.data = .set es' (ep + 1) t' → Q () { s with heap := h' }) : wpAny (model prog w) A (storeSet a es' t') Q E s := by
  refine wpAny_storeSet_of ho hd ?_ (fits_of_scanBound hb)
  have hget := Heap.get?_update_self (Obj.putSet es' t') ho (by rw [putSet_of es' t' hd]; rfl)
  rw [putSet_of es' t' hd] at hget
  exact h _ _ (Heap.SameBut.update s.heap a (Obj.putSet es' t')) hget ⟨hex, es', ep + 1, t', rfl, hel, rfl, hnd, hf, hg⟩ rfl

theorem setAddH_I {B : Bool} {k : Int} {tk : Tok} {Q : Bool → Shared → Prop} (ho : s.heap.get? a = some o) (hS : SetI B o l) (hroom : l.length + 1 < scanBound)
    (h : ∀ h' o' l' b, Heap.SameBut a s.heap h' → h'.get? a = some o' → SetI B o' l' → l'.Perm (if k ∈ l then l else k :: l) → Q b { s with heap := h' }) :
    wpAny (model prog w) A (setAddHashed a (.int k tk) (hashInt k)) Q E s := by
  obtain ⟨hex, es, ep, t, hd, hel, hl, hnd, hf, hg⟩ := id hS
  subst hl
  have hlen : (keysOf es.toList).length = es.size := by simp [keysOf]
  have hb : es.size < scanBound := by omega
  have hkey : (intKind prog w).is k (.int k tk) = true := intKind_is _ _ _ _
  unfold setAddHashed setAddHashedIn
  refine wpAny_holding (wpAny_bind (wpAny_setState_of ho hd hf ?_))
  dsimp only
  rw [byScan_of (knd := intKind prog w) rfl hb hel.elems]
  simp only [↓reduceIte]
  unfold setAddByScan
  refine wpAny_bind (wpAny_bind (wpAny_rule (wpAny_bind (wpAny_setScan_of (knd := intKind prog w) hkey ho hd hf hel.elems ?_))))
  cases hr : List.findIdx? (fun e => (intKind prog w).is k e.2) es.toList with
  | some j =>
    dsimp only
    obtain ⟨hj, hpj, _⟩ := List.findIdx?_eq_some_iff_getElem.mp hr
    have hk : k ∈ keysOf es.toList := (hel.mem k).mpr ⟨es.toList[j], List.getElem_mem hj, hpj⟩
    refine wpAny_pure (wpAny_pure ?_)
    exact h s.heap o (keysOf es.toList) _ (Heap.SameBut.refl a s.heap) ho hS (by rw [if_pos hk])
  | none =>
    dsimp only
    have hk : k ∉ keysOf es.toList := fun hk => by
      obtain ⟨e, he, hp⟩ := (hel.mem (prog := prog) (w := w) k).mp hk
      have := List.findIdx?_eq_none_iff.mp hr e he
      rw [hp] at this
      exact Bool.noConfusion this
    have hperm := layNew_perm t es (hashInt k) (.int k tk)
    have hfits := layNew_fits t es (hashInt k) (.int k tk)
    have hgood := hg.layNew es (hashInt k) (.int k tk)
    generalize layNew t es (hashInt k) (.int k tk) = Lv at hperm hfits hgood ⊢
    obtain ⟨es1, t1, wasDummy, gave⟩ := Lv
    dsimp only at hperm hfits hgood ⊢
    rw [Array.toList_push] at hperm
    have hel1 : IntElems es1.toList := IntElems.perm (fun e he => by
      rcases List.mem_append.mp he with he | he
      · exact hel e he
      · rw [List.mem_singleton] at he; exact ⟨k, tk, he⟩) hperm
    have hkp : (keysOf es1.toList).Perm (k :: keysOf es.toList) := by
      refine (List.Perm.map (fun e : Int × Value => keyOf e.2) hperm).trans ?_
      rw [List.map_append]
      exact List.perm_append_comm
    have hnd1 : (keysOf es1.toList).Nodup := hkp.nodup_iff.mpr (List.nodup_cons.mpr ⟨hk, hnd⟩)
    have hsz1 : es1.size = es.size + 1 := by rw [← Array.length_toList, hperm.length_eq, List.length_append, Array.length_toList]; rfl
    have hb1 : es1.size < scanBound := by omega
    have hgw : ∀ (b : Bool) {s₁ : Shared} {Q' : Unit → Shared → Prop}, Q' () s₁ → wpAny (model prog w) A (match b with | true => rule "set.scan.the-table-gave-way" | false => pure ()) Q' E s₁ :=
      fun b s₁ Q' hq => by cases b <;> first | exact wpAny_pure hq | exact wpAny_rule hq
    refine wpAny_bind (hgw _ ?_)
    have tail : ∀ t2 : SetTable, t2.fits es1.size = true → TabGood B t2 → wpAny (model prog w) A (do
        storeSet a es1 t2
        if (!wasDummy && t2.tooFull) = true then do
            (match (relayAll t2 es1 (SetTable.grown es1.size)).2.2 with | true => rule "set.scan.the-table-gave-way" | false => pure ())
            storeSet a (relayAll t2 es1 (SetTable.grown es1.size)).1 (relayAll t2 es1 (SetTable.grown es1.size)).2.1
            pure (some true)
          else pure (some true)) (fun r s' => ∃ h' o' l', r = some true ∧ s' = { s with heap := h' } ∧ Heap.SameBut a s.heap h' ∧ h'.get? a = some o' ∧ SetI B o' l' ∧ l'.Perm (k :: keysOf es.toList)) E s := by
      intro t2 hf2 hg2
      refine wpAny_bind (setI_store ho hex hd hel1 hnd1 hf2 hg2 hb1 fun h1 o1 hs1 ho1 hS1 hd1 => ?_)
      split
      · have hp2 := relayAll_perm t2 es1 (SetTable.grown es1.size)
        have hf3 := relayAll_fits t2 es1 (SetTable.grown es1.size)
        have hg3 := hg2.relayAll es1 (SetTable.grown es1.size)
        generalize relayAll t2 es1 (SetTable.grown es1.size) = Rl at hp2 hf3 hg3 ⊢
        obtain ⟨es2, t3, gave2⟩ := Rl
        dsimp only at hp2 hf3 hg3 ⊢
        have hk2 : (keysOf es2.toList).Perm (keysOf es1.toList) := List.Perm.map _ hp2
        refine wpAny_bind (hgw _ ?_)
        refine wpAny_bind (setI_store ho1 hS1.1 hd1 (hel1.perm hp2) (hk2.nodup_iff.mpr hnd1) hf3 hg3 (by rw [← Array.length_toList, hp2.length_eq, Array.length_toList]; exact hb1) fun h2 o2 hs2 ho2 hS2 _ => ?_)
        exact wpAny_pure ⟨h2, o2, _, rfl, rfl, hs1.trans hs2, ho2, hS2, hk2.trans hkp⟩
      · exact wpAny_pure ⟨h1, o1, _, rfl, rfl, hs1, ho1, hS1, hkp⟩
    have fin : ∀ r s', (∃ h' o' l', r = some true ∧ s' = { s with heap := h' } ∧ Heap.SameBut a s.heap h' ∧ h'.get? a = some o' ∧ SetI B o' l' ∧ l'.Perm (k :: keysOf es.toList)) →
        wpAny (model prog w) A (match r with | some added => pure added | none => setAddHashedIn a (.int k tk) (hashInt k) 99999) Q E s' := by
      rintro r s' ⟨h', o', l', rfl, rfl, q1, q2, q3, q4⟩
      exact wpAny_pure (h h' o' l' true q1 q2 q3 (by rw [if_neg hk]; exact q4))
    split
    · refine wpAny_bind ?_
      rw [hashByValue_scannable 8 rfl]
      refine wpAny_pure ?_
      exact wpAny_mono (tail _ (by split; exact hfits; exact SetTable.fits_plain_off hfits) (by split; exact hgood; exact hgood.plainOff)) fin fun _ _ x => x
    · refine wpAny_bind (wpAny_pure ?_)
      simp only [↓reduceIte]
      exact wpAny_mono (tail _ hfits hgood) fin fun _ _ x => x
end
end Mine
end

section
open PySem PySem.W PyProof.Rows
set_option Elab.async false
set_option maxRecDepth 100000
namespace Mine
example : (1 : Nat) = 1 := by
  k_with_none
  w_top off
  walk1
section
variable {prog : Program} {w : World} {A : Around} {E : Value → Shared → Prop} {s : Shared} {a : Addr} {o : Obj} {l : List Int} {B : Bool}

theorem SetI.typeIs (ho : s.heap.get? a = some o) (hS : SetI B o l) : s.TypeIs (.ref a) "set" := ⟨o, ho, hS.1.1⟩
theorem SetI.noDict (ho : s.heap.get? a = some o) (hS : SetI B o l) : ∀ b, Value.ref a = .ref b → ∃ ob, s.heap.get? b = some ob ∧ ob.dict = none :=
  fun b e => by injection e with e; subst e; exact ⟨o, ho, hS.1.2.1⟩
theorem setI_setAdd {k : Int} {tk : Tok} {Q : Bool → Shared → Prop} (ho : s.heap.get? a = some o) (hS : SetI B o l) (hroom : l.length + 1 < scanBound)
    (h : ∀ h' o' l' b, Heap.SameBut a s.heap h' → h'.get? a = some o' → SetI B o' l' → l'.Perm (if k ∈ l then l else k :: l) → Q b { s with heap := h', toks := s.toks + 1 }) :
    wpAny (model prog w) A (setAdd a (.int k tk)) Q E s := by
  unfold setAdd
  refine wpAny_holding (wpAny_bind ((intKind prog w).pyHash (intKind_is _ _ _ _) ?_))
  exact setAddH_I (s := { s with toks := s.toks + 1 }) ho hS hroom h
theorem setI_callAdd {k : Int} {tk : Tok} {Q : Value → Shared → Prop} (ho : s.heap.get? a = some o) (hS : SetI B o l) (hroom : l.length + 1 < scanBound)
    (h : ∀ h' o' l', Heap.SameBut a s.heap h' → h'.get? a = some o' → SetI B o' l' → l'.Perm (if k ∈ l then l else k :: l) → Q .none { s with heap := h', toks := s.toks + 1 }) :
    wpAny (model prog w) A (call (.builtin "set.add") [.ref a, .int k tk]) Q E s := by
  refine wpAny_call_entry F.slot_set_add (hS.typeIs ho) F.entry_set_add ?_ (F.args_set_add_2 _ _)
  unfold Builtin.«set.add» Builtin.Frozenset.oneOther
  simp only [List.isEmpty_nil, bind_assoc]
  unfold Builtin.Frozenset.addrOf
  refine wpAny_bind (wpAny_pure ?_)
  try dsimp only
  refine wpAny_bind (wpAny_pure ?_)
  try dsimp only
  refine wpAny_bind (setI_setAdd ho hS hroom fun h' o' l' b q1 q2 q3 q4 => ?_)
  exact wpAny_pure ⟨_, rfl, h h' o' l' q1 q2 q3 q4⟩

theorem askByText {Q : Bool → Shared → Prop} (h : Q (byText w) s) : wpAny (model prog w) A setsByText Q E s := by
  unfold setsByText
  exact wpAny_bind (wpAny_askSetting (wpAny_pure h))

theorem choose_any {M : Model} {src : Source} {n : Nat} {Q : Nat → Shared → Prop} (hn : n ≠ 0) (h : ∀ k d, k < n → Q k { s with drawn := d }) : wpAny M A (choose src n) Q E s :=
  fun Γ p _ => by
    show Sem.wp M Γ (Sem.choose src n fun k => Sem.pure k) _ _ p s
    rw [Sem.wp_choose]
    exact ⟨hn, by rw [Sem.wp_pure]; exact h _ _ (Nat.mod_lt _ (Nat.pos_of_ne_zero hn))⟩
theorem perm_eraseIdx {α : Type} (l : List α) (j : Nat) (h : j < l.length) : l.Perm (l[j] :: l.eraseIdx j) := by
  rw [List.eraseIdx_eq_take_drop_succ]
  refine List.Perm.trans ?_ List.perm_middle
  rw [← List.drop_eq_getElem_cons h, List.take_append_drop]
theorem setI_pop {Q : Option Value → Shared → Prop} (hB : B = byText w) (ho : s.heap.get? a = some o) (hS : SetI B o l) (hroom : l.length < scanBound)
    (h0 : l = [] → Q none s)
    (h : ∀ h' o' k tk l' d, Heap.SameBut a s.heap h' → h'.get? a = some o' → SetI B o' l' → l.Perm (k :: l') → Q (some (.int k tk)) { s with heap := h', drawn := d }) :
    wpAny (model prog w) A (setPop a) Q E s := by
  obtain ⟨hex, es, ep, t, hd, hel, hl, hnd, hf, hg⟩ := id hS
  subst hl
  have hlen : (keysOf es.toList).length = es.size := by simp [keysOf]
  unfold setPop
  refine wpAny_bind (wpAny_setState_of ho hd hf ?_)
  dsimp only
  rcases pop_place hf with ⟨hp, hn⟩ | ⟨i, hp, hi⟩
  · rw [hp]
    exact wpAny_pure (h0 (List.eq_nil_of_length_eq_zero (by omega)))
  · rw [hp]
    dsimp only
    have fin : ∀ (j : Nat) (d : Drawn), j < es.size → wpAny (model prog w) A (do
        let some (_, x) := es[j]? | unsupported "internal:set.pop"
        storeSet a (SetTable.eraseAt es j) (t.popped j)
        return some x) Q E { s with drawn := d } := by
      intro j d hj
      rw [Array.getElem?_eq_getElem hj]
      have hm : es[j] ∈ es.toList := by simp
      obtain ⟨k, tk, he⟩ := hel _ hm
      rw [he]
      dsimp only
      have hsub : (SetTable.eraseAt es j).toList.Sublist es.toList := by rw [toList_eraseAt]; exact List.eraseIdx_sublist _ _
      have hperm : (keysOf es.toList).Perm (k :: keysOf (SetTable.eraseAt es j).toList) := by
        rw [toList_eraseAt]
        have e1 : es.toList.Perm (es[j] :: es.toList.eraseIdx j) := by
          have := perm_eraseIdx es.toList j (by simpa using hj)
          simpa using this
        have e2 := List.Perm.map (fun e : Int × Value => keyOf e.2) e1
        rw [List.map_cons, he] at e2
        exact e2
      have hnd' : (keysOf (SetTable.eraseAt es j).toList).Nodup := (List.nodup_cons.mp (hperm.nodup_iff.mp hnd)).2
      have hsz : (SetTable.eraseAt es j).size ≤ sizeLine := by
        have : (SetTable.eraseAt es j).size ≤ es.size := by rw [← Array.length_toList, ← Array.length_toList]; exact hsub.length_le
        exact Nat.le_trans this (fits_of_scanBound (by omega))
      refine wpAny_bind (wpAny_storeSet_of (s := { s with drawn := d }) ho hd ?_ hsz)
      have hget := Heap.get?_update_self (Obj.putSet (SetTable.eraseAt es j) (t.popped j)) ho (by rw [putSet_of _ _ hd]; rfl)
      rw [putSet_of _ _ hd] at hget
      refine wpAny_pure ?_
      exact h _ _ k tk _ d (Heap.SameBut.update s.heap a _) hget ⟨hex, _, ep + 1, _, rfl, fun e he => hel e (hsub.mem he), rfl, hnd', popped_fits hf hj, hg.popped j⟩ hperm
    refine wpAny_bind (askByText ?_)
    have hself : s = { s with drawn := s.drawn } := by cases s; rfl
    split
    · exact wpAny_bind (choose_any (by omega) fun j d hj => fin j d hj)
    · rename_i hc
      have hbt : byText w = false := by
        cases hq : byText w with
        | false => rfl
        | true => exact absurd (by rw [hq]; rfl) hc
      have hled : t.led = true := by rw [hg.led, hB, hbt]; rfl
      refine wpAny_bind ?_
      show wpAny (model prog w) A (if (!t.led && decide (es.size > 1)) = true then unsupported "set:maker-not-led" else pure ()) _ _ _
      rw [hled, if_neg (by simp)]
      refine wpAny_pure (wpAny_bind (wpAny_pure ?_))
      rw [hself]
      exact fin i s.drawn hi

theorem setI_callPop {Q : Value → Shared → Prop} (hB : B = byText w) (ho : s.heap.get? a = some o) (hS : SetI B o l) (hroom : l.length < scanBound) (hne : l ≠ [])
    (h : ∀ h' o' k tk l' d, Heap.SameBut a s.heap h' → h'.get? a = some o' → SetI B o' l' → l.Perm (k :: l') → Q (.int k tk) { s with heap := h', drawn := d }) :
    wpAny (model prog w) A (call (.builtin "set.pop") [.ref a]) Q E s := by
  refine wpAny_call_entry F.slot_set_pop (hS.typeIs ho) F.entry_set_pop ?_ (F.args_set_pop_1 _)
  unfold Builtin.«set.pop» Builtin.Frozenset.noArgs
  simp only [List.isEmpty_nil, bind_assoc]
  unfold Builtin.Frozenset.addrOf
  refine wpAny_bind (wpAny_pure ?_)
  try dsimp only
  refine wpAny_bind (setI_pop hB ho hS hroom (fun e => absurd e hne) fun h' o' k tk l' d q1 q2 q3 q4 => ?_)
  exact wpAny_pure ⟨_, rfl, h h' o' k tk l' d q1 q2 q3 q4⟩
theorem setI_methodPop {pl : Sem Bool} {Q : Value × List Value → Shared → Prop} (ho : s.heap.get? a = some o) (hS : SetI B o l) (h : Q (.builtin "set.pop", [.ref a]) s) :
    wpAny (model prog w) A (getMethod (.ref a) "pop" pl) Q E s :=
  getMethod_builtin (hS.typeIs ho) F.plainAttrs_set F.slot_set_pop F.type_set_pop (hS.noDict ho) h
theorem setI_methodAdd {pl : Sem Bool} {Q : Value × List Value → Shared → Prop} (ho : s.heap.get? a = some o) (hS : SetI B o l) (h : Q (.builtin "set.add", [.ref a]) s) :
    wpAny (model prog w) A (getMethod (.ref a) "add" pl) Q E s :=
  getMethod_builtin (hS.typeIs ho) F.plainAttrs_set F.slot_set_add F.type_set_add (hS.noDict ho) h

theorem noBool_set : typeLookup (.type "set") "__bool__" = pure none := by rw [typeLookup_type, builtinLookup_eq_fast]; kernel_rfl
theorem setI_truthy {Q : Bool → Shared → Prop} (ho : s.heap.get? a = some o) (hS : SetI B o l) (hroom : l.length < scanBound)
    (h : ∀ tk, Q (!l.isEmpty) { s with toks := tk }) : wpAny (model prog w) A (truthy (.ref a)) Q E s := by
  obtain ⟨hex, es, ep, t, hd, hel, hl, hnd, hf, hg⟩ := id hS
  have hlen : l.length = es.size := by rw [hl]; simp [keysOf]
  have hT := hS.typeIs ho
  have hfit : (es.size : Int) < 2 ^ 63 := by
    have : scanBound = 4096 := rfl
    omega
  have hne : ((es.size : Int) != 0) = !l.isEmpty := by
    cases l with
    | nil => rw [← hlen]; rfl
    | cons x r =>
      have h1 : ((es.size : Int) != 0) = true := by rw [← hlen, List.length_cons]; simp; omega
      rw [h1]; rfl
  have key : wpAny (model prog w) A (runValue (.builtin "len" ⟨[.ref a], []⟩)) (fun r s' => r = .int es.size (s.toks + 1) ∧ Q (!l.isEmpty) s') E s := by
    refine wpAny_runValue (codeAny_builtin entry_len ?_)
    rw [Around.under_plainId plain_len _]
    exact wpAny_mono (wpAny_len_body_set (Q := fun r s' => r = .int es.size (s.toks + 1) ∧ Q (!l.isEmpty) s') ho hex hd hf hfit ⟨rfl, h _⟩)
      (fun fin s' h' => by obtain ⟨r, rfl, hq⟩ := h'; exact hq) fun _ _ e => e
  unfold truthy
  refine wpAny_bind (wpAny_callSpecial?_none (name := Str.ofString "__bool__") hT noBool_set ?_)
  refine wpAny_bind (wpAny_specialOf (name := Str.ofString "__len__") hT F.slot_set_len.lookup ?_)
  exact wpAny_bind (wpAny_mono key (fun r s' h' => by obtain ⟨rfl, hq⟩ := h'; exact wpAny_pure (hne ▸ hq)) fun _ _ e => e)

theorem setI_new {Q : Value → Shared → Prop} (h : Q (.ref s.heap.objs.size) { s with heap := s.heap.push { cls := .type "set", dict := none, data := .set #[] 0 (.fresh 0 0 (!byText w)) } }) :
    wpAny (model prog w) A (newSet (.type "set")) Q E s := by
  unfold newSet
  refine wpAny_bind (askByText ?_)
  dsimp only
  simp only [newObj]
  exact wpAny_bind (wpAny_alloc (wpAny_pure h))
end
end Mine
end

section
open PySem PySem.W PyProof.Rows
set_option Elab.async false
set_option maxRecDepth 100000
namespace Mine
example : (1 : Nat) = 1 := by
  k_with_none
  w_top off
  walk1
/-- the set object that set() makes in this world -/
noncomputable abbrev setNew (w : World) : Obj := { cls := .type "set", dict := none, data := .set #[] 0 (.fresh 0 0 (!byText w)) }
section
variable {prog : Program} {w : World} {A : Around} {E : Value → Shared → Prop} {s : Shared}

theorem setI_codeNew {Q₁ : Value → Shared → Prop} (h : Q₁ (.ref s.heap.objs.size) { s with heap := s.heap.push (setNew w) }) :
    codeAny (model prog w) A (.call (.builtin "set.__new__") ⟨[.type "set"], []⟩) (wants Q₁ E) s := by
  refine codeAny_of_tree ?_
  show wpAny _ A.in1 (do checkBuiltinCall "set.__new__" ⟨[.type "set"], []⟩; again (.builtin "set.__new__" ⟨[.type "set"], []⟩)) _ _ s
  refine wpAny_bind (wpAny_of_eq F.newCall_set_0 (wpAny_pure ⟨plainId_quiet F.plain_set_new _, codeAny_builtin F.entry_set_new ?_⟩))
  rw [Around.under_plainId F.plain_set_new _]
  have hsub := sub_set_self
  have fin : wpAny (model prog w) A.in1 (newSet (.type "set")) (fun v s' => wants Q₁ E (.ok (.ret v)) s') (fun e s' => wants Q₁ E (.error e) s') s := setI_new h
  unfold Builtin.«set.__new__» Builtin.Frozenset.newClass
  obtain ⟨hp, g, d, tk, os⟩ := s
  dsimp only at fin ⊢
  unfold newSet setsByText at fin ⊢
  wp_walk
  refine wpAny_askSetting (wpAny_pure ?_)
  dsimp only
  simp only [newObj]
  refine wpAny_bind (wpAny_alloc (wpAny_pure ?_))
  exact wpAny_pure h

set_option maxHeartbeats 1000000 in
theorem setI_call0 {Q : Value → Shared → Prop} (h : Q (.ref s.heap.objs.size) { s with heap := s.heap.push (setNew w) }) :
    wpAny (model prog w) A (call (.type "set") []) Q E s := by
  obtain ⟨c, tl, hmro⟩ := F.called_set.mro
  have hmade := F.called_set.made
  have hsub := F.called_set.sub
  refine wpAny_call (codeAny_of_tree ?_)
  show wpAny _ _ (callAny (.type "set") _) _ _ _
  refine wpAny_pure ⟨Code.quiet_builtin _ (by decide +kernel), codeAny_builtin F.entry_type_call ?_⟩
  rw [Around.under_plain (weight_type_call_type "set" [] []) rfl]
  have h1 := F.called_set.notType
  have h2 := F.called_set.canCreate
  have hct := F.typeCall_set_0
  repeat (any_goals (first | assumption | wp_step))
  refine codeAny_mono (setI_codeNew (E := E) (Q₁ := fun obj s₁ => obj = .ref s.heap.objs.size ∧ s₁ = { s with heap := s.heap.push (setNew w) }) ⟨rfl, rfl⟩) fun r s₁ hr => ?_
  cases r with
  | error e => exact hr
  | ok fl =>
    cases fl with
    | ret obj =>
      obtain ⟨rfl, rfl⟩ := hr
      have hS : (s.heap.push (setNew w)).get? s.heap.objs.size = some (setNew w) := Heap.get?_push_size _ rfl
      have hT : Shared.TypeIs { s with heap := s.heap.push (setNew w) } (.ref s.heap.objs.size) "set" := ⟨_, hS, rfl⟩
      have hli := F.called_set.init.lookup
      have hbi := F.called_set.init.bind (.ref s.heap.objs.size)
      repeat (any_goals (first | assumption | wp_step))
      refine codeAny_mono (codeAny_call_builtin (R := wants (fun r s₂ => r = .none ∧ Q (.ref s.heap.objs.size) s₂) E) F.called_set.init.plain F.entry_set_init (check_set_init hT ?_)) fun r₂ s₂ hr₂ => ?_
      · unfold Builtin.«set.__init__» noKeywords
        wp_walk
        exact ⟨rfl, h⟩
      · cases r₂ with
        | error e => exact hr₂
        | ok fl₂ =>
          cases fl₂ with
          | ret r =>
            obtain ⟨rfl, hq⟩ := hr₂
            repeat (any_goals (first | assumption | wp_step))
          | _ => exact hr₂.elim
    | _ => exact hr.elim
end
end Mine
end

section
open PySem PySem.W PyProof.Rows
set_option Elab.async false
set_option maxRecDepth 100000
namespace Mine
example : (1 : Nat) = 1 := by
  k_with_none
  w_top off
  walk1

theorem slot_setiter_next : Slot "set_iterator" "__next__" "set_iterator.__next__" :=
  .of (owner := "set_iterator") (n := "__next__") (by rw [typeLookup_type, builtinLookup_eq_fast]; kernel_rfl) (by decide +kernel) (by decide +kernel) (by decide +kernel)
    (by first | exact .inl (by decide +kernel) | exact .inr (by decide +kernel)) (by rw [isSubtype_type]; kernel_rfl)
theorem entry_setiter_next : entryFor table "set_iterator.__next__" = some Builtin.«set_iterator.__next__» := entryFor_of_fast (by kernel_rfl)
theorem args_setiter_next (a : Value) : argsOk "set_iterator.__next__" ⟨[a], []⟩ := by unfold argsOk; kernel_rfl
theorem slot_setiter_iter : Slot "set_iterator" "__iter__" "set_iterator.__iter__" :=
  .of (owner := "set_iterator") (n := "__iter__") (by rw [typeLookup_type, builtinLookup_eq_fast]; kernel_rfl) (by decide +kernel) (by decide +kernel) (by decide +kernel)
    (by first | exact .inl (by decide +kernel) | exact .inr (by decide +kernel)) (by rw [isSubtype_type]; kernel_rfl)
theorem entry_setiter_iter : entryFor table "set_iterator.__iter__" = some Builtin.«dict_keyiterator.__iter__» :=
  entryFor_alias (id' := "dict_keyiterator.__iter__") (by kernel_rfl) rfl (by decide +kernel) (by kernel_rfl)
theorem args_setiter_iter (a : Value) : argsOk "set_iterator.__iter__" ⟨[a], []⟩ := by unfold argsOk; kernel_rfl
theorem entry_set_iter : entryFor table "set.__iter__" = some Builtin.«frozenset.__iter__» :=
  entryFor_alias (id' := "frozenset.__iter__") (by kernel_rfl) rfl (by decide +kernel) (by kernel_rfl)
theorem nolen_setiter : typeLookup (.type "set_iterator") "__len__" = pure none := by rw [typeLookup_type, builtinLookup_eq_fast]; kernel_rfl
theorem hint_setiter : typeLookup (.type "set_iterator") "__length_hint__" = pure (some (.builtin "set_iterator.__length_hint__")) := by rw [typeLookup_type, builtinLookup_eq_fast]; kernel_rfl

theorem pick_go {α : Type} (next : Nat → Nat) : ∀ fuel k (left : List α) (out : Array α), left.length ≤ fuel → (pickOrder.go next fuel k left out).toList.Perm (out.toList ++ left) := by
  intro fuel
  induction fuel with
  | zero =>
    intro k left out h
    have e : left = [] := List.eq_nil_of_length_eq_zero (by omega)
    subst e
    unfold pickOrder.go
    simp
  | succ fuel ih =>
    intro k left out h
    unfold pickOrder.go
    cases left with
    | nil => simp
    | cons y r =>
      have hlt : next k % (y :: r).length < (y :: r).length := Nat.mod_lt _ (by simp)
      rw [List.getElem?_eq_getElem hlt]
      dsimp only
      refine (ih (k + 1) _ _ (by rw [List.length_eraseIdx]; rw [if_pos hlt]; omega)).trans ?_
      rw [Array.toList_push, List.append_assoc]
      exact List.Perm.append_left _ (perm_eraseIdx (y :: r) _ hlt).symm
theorem pick_perm {α : Type} (next : Nat → Nat) (xs : Array α) : (pickOrder next xs).toList.Perm xs.toList := by
  have := pick_go next xs.size 0 xs.toList #[] (by simp)
  simpa [pickOrder] using this

section
variable {M : Model} {A : Around} {E : Value → Shared → Prop}
theorem drawOrder_any {α : Type} : ∀ (n : Nat) (xs : List α) (s : Shared) (Q : List α → Shared → Prop), xs.length ≤ n → (∀ ys d, ys.Perm xs → Q ys { s with drawn := d }) → wpAny M A (drawOrder n xs) Q E s := by
  intro n
  induction n with
  | zero =>
    intro xs s Q h hQ
    have e : xs = [] := List.eq_nil_of_length_eq_zero (by omega)
    subst e
    have hself : s = { s with drawn := s.drawn } := by cases s; rfl
    unfold drawOrder
    rw [hself]
    exact wpAny_pure (hQ [] _ .rfl)
  | succ n ih =>
    intro xs s Q h hQ
    cases xs with
    | nil =>
      have hself : s = { s with drawn := s.drawn } := by cases s; rfl
      unfold drawOrder
      rw [hself]
      exact wpAny_pure (hQ [] _ .rfl)
    | cons y r =>
      unfold drawOrder
      refine wpAny_bind (choose_any (by simp) fun j d hj => ?_)
      rw [List.getElem?_eq_getElem hj]
      dsimp only
      refine wpAny_bind (ih _ _ _ (by rw [List.length_eraseIdx, if_pos hj]; simp at h ⊢; omega) fun ys d' hp => wpAny_pure ?_)
      exact hQ _ _ ((List.Perm.cons _ hp).trans (perm_eraseIdx (y :: r) j hj).symm)
end

noncomputable abbrev setItObj (first : Value) (i : Nat) (a : Addr) (n ep : Nat) : Obj := { cls := .type "set_iterator", dict := none, data := .fields #[first, rawInt i, .ref a, rawInt n, rawInt ep], slots := #[] }

/-- the i-th turn of a walk over the set at a by the iterator at I; ord: what it gives -/
inductive SetOrd (w : World) (tp I a : Addr) (ord : List Value) (i : Nat) (h : Heap) (first : Value) (es : Array (Int × Value)) (ep : Nat) (t : SetTable) : Prop
  | text (hb : byText w = true) (hz : ∃ z : Nat, first = rawInt z) (e : ord = (pickOrder (w.params.setOrder a ep) es).toList.map (·.2))
  | led (hb : byText w = false) (hp : t.plain = true ∨ es.size ≤ 1) (hl : t.led = true) (hr : Rise t.place) (hz : ∃ z : Nat, first = rawInt z ∧ SetTable.below t.place z = i) (e : ord = es.toList.map (·.2))
  | drawn (ot : Obj) (ix : List Nat) (n : Nat) (hf : first = .ref tp) (hne : tp ≠ I) (hot : h.get? tp = some ot) (hdt : ot.data = .seq (ix.map fun (j : Nat) => rawInt j).toArray n) (hlt : ∀ j ∈ ix, j < es.size) (hlen : ix.length = es.size) (e : ord = ix.map fun j => (es.getD j (0, .none)).2)
inductive SetItSt (w : World) (tp : Addr) (I a : Addr) (ord : List Value) (i : Nat) (h : Heap) : Prop
  | mk (first : Value) (o : Obj) (es : Array (Int × Value)) (ep : Nat) (t : SetTable) (h1 : h.get? I = some (setItObj first i a es.size ep)) (h2 : h.get? a = some o) (h3 : o.data = .set es ep t) (h4 : t.fits es.size = true) (h5 : a ≠ I) (h6 : SetOrd w tp I a ord i h first es ep t)

section
variable {prog : Program} {w : World} {A : Around}
theorem SetItSt.typeIs {tp I a : Addr} {ord : List Value} {i : Nat} {s : Shared} (st : SetItSt w tp I a ord i s.heap) : s.TypeIs (.ref I) "set_iterator" :=
  let ⟨_, _, _, _, _, h, _, _, _, _, _⟩ := st; ⟨_, h, rfl⟩

section
variable {E : Value → Shared → Prop} {s : Shared} {a : Addr} {o : Obj} {es : Array (Int × Value)} {ep : Nat} {t : SetTable}
theorem setNext_text {slot i : Nat} {Q : Option (Value × Nat) → Shared → Prop} (hb : byText w = true) (ho : s.heap.get? a = some o) (hd : o.data = .set es ep t) (hf : t.fits es.size = true)
    (h : Q (((pickOrder (w.params.setOrder a ep) es)[i]?).map fun e => (e.2, slot)) s) : wpAny (model prog w) A (setNext a slot i ep) Q E s := by
  unfold setNext
  refine wpAny_bind (wpAny_setState_of ho hd hf ?_)
  dsimp only
  refine wpAny_bind (askByText ?_)
  rw [hb, if_pos rfl, if_neg (by simp)]
  refine wpAny_bind ?_
  unfold setWalk
  refine wpAny_bind (wpAny_setState_of ho hd hf ?_)
  dsimp only
  refine wpAny_bind (askByText ?_)
  rw [hb, if_pos rfl]
  exact wpAny_bind (wpAny_askSetting (wpAny_pure (wpAny_pure h)))
theorem setNext_led {slot i : Nat} {Q : Option (Value × Nat) → Shared → Prop} (hb : byText w = false) (hp : t.plain = true ∨ es.size ≤ 1) (hl : t.led = true) (ho : s.heap.get? a = some o) (hd : o.data = .set es ep t) (hf : t.fits es.size = true)
    (h : Q (match es[SetTable.below t.place slot]?, t.place[SetTable.below t.place slot]? with | some (_, x), some j => some (x, j + 1) | _, _ => none) s) : wpAny (model prog w) A (setNext a slot i ep) Q E s := by
  unfold setNext
  refine wpAny_bind (wpAny_setState_of ho hd hf ?_)
  dsimp only
  refine wpAny_bind (askByText ?_)
  rw [hb, if_neg Bool.false_ne_true]
  show wpAny (model prog w) A (if (!t.plain && decide (es.size > 1)) = true then _ else _) _ _ _
  rw [if_neg (by
    rcases hp with q | q
    · rw [q]; simp
    · simp; intro _; omega)]
  refine wpAny_bind ?_
  show wpAny (model prog w) A (if (!t.led && !es.isEmpty) = true then unsupported "set:maker-not-led" else pure ()) _ _ _
  rw [hl, if_neg (by simp)]
  exact wpAny_pure (wpAny_pure h)
end

theorem stop_any {Q' : Fin → Shared → Prop} {Q : Option Value → Shared → Prop} {E : Value → Shared → Prop} {s : Shared} (hh : A.handled = none)
    (hQ : ∀ h', (∀ b o, s.heap.get? b = some o → h'.get? b = some o) → Q none { s with heap := h' }) :
    wpAny (model prog w) A.in1 (newExc (.type "StopIteration") [] >>= fun e => raiseNew e) Q' (fun e s' => wpAny (model prog w) A (do
      let __do_lift ← isInstance e (Value.type "StopIteration")
      if __do_lift = true then pure none else throw e) Q E s') s := by
  refine wpAny_bind ?_
  simp only [newExc, newTuple]
  refine wpAny_bind (wpAny_newObj_type ?_ (by size_fits))
  refine wpAny_bind (m := firstArgMember _ _) (wpAny_of_eq (a := Value.none) (by first | rfl | (simp only [firstArgMember]; rfl)) ?_)
  refine wpAny_newObj_type ?_ (by size_fits)
  simp only [raiseNew]
  refine wpAny_bind (wpAny_handled ?_)
  rw [show A.in1.handled = none from hh]
  refine wpAny_bind (wpAny_pure (wpAny_throw ?_))
  refine wpAny_bind (wpAny_isInstance (T := "StopIteration") (b := true) ⟨_, Heap.get?_push_size _ rfl, rfl⟩ isSubtype_stop ?_)
  exact wpAny_pure (hQ _ fun b o e => Heap.get?_push_of_some _ (Heap.get?_push_of_some _ e))

theorem walks_set (hh : A.handled = none) (tp I a : Addr) (ord : List Value) :
    Walks prog w A I [I, a, tp] [I] ord.length (fun i v => ord[i]? = some v) (SetItSt w tp I a ord) where
  sub := fun b hb => by simp at hb; simp [hb]
  frame := fun i h h' st hk => by
    obtain ⟨first, o, es, ep, t, h1, h2, h3, h4, h5, h6⟩ := st
    refine ⟨first, o, es, ep, t, hk I (by simp) _ h1, hk a (by simp) _ h2, h3, h4, h5, ?_⟩
    rcases h6 with ⟨q1, q2, q3⟩ | ⟨q1, q2, q3, q4, q5, q6⟩ | ⟨ot, ix, n, q1, q2, q3, q4, q5, q6, q7⟩
    · exact .text q1 q2 q3
    · exact .led q1 q2 q3 q4 q5 q6
    · exact .drawn ot ix n q1 q2 (hk tp (by simp) _ q3) q4 q5 q6 q7
  item := fun i s Q E hi st hQ => by
    have hT := SetItSt.typeIs st
    obtain ⟨first, o, es, ep, t, h1, h2, h3, h4, h5, h6⟩ := st
    unfold pyNext
    refine wpAny_bind (wpAny_attempt (wpAny_callSpecial?_slot (name := Str.ofString "__next__") hT slot_setiter_next
      (wpAny_call_entry slot_setiter_next hT entry_setiter_next ?_ (args_setiter_next _))))
    unfold Builtin.«set_iterator.__next__» slotArgs
    simp only [List.isEmpty_nil, Bool.not_true, Bool.false_eq_true, ↓reduceIte, bind_assoc, List.length_nil, bne_self_eq_false]
    refine wpAny_bind (wpAny_pure ?_)
    dsimp only
    refine wpAny_bind (wpAny_fieldsOf h1 rfl ?_)
    show wpAny _ _ (setEntries a >>= _) _ _ _
    refine wpAny_bind (wpAny_setEntries_of h2 h3 h4 ?_)
    rw [if_neg (by simp)]
    have hle : es.size = ord.length := by
      rcases h6 with ⟨_, _, e⟩ | ⟨_, _, _, _, _, e⟩ | ⟨ot, ix, n, _, _, _, _, _, e0, e⟩
      · rw [e, List.length_map, (pick_perm _ es).length_eq, Array.length_toList]
      · rw [e, List.length_map, Array.length_toList]
      · rw [e, List.length_map, e0]
    have step2 : ∀ (z' : Nat) (x : Value), ord[i]? = some x →
        (∀ h' : Heap, h'.get? I = some (setItObj (rawInt z') (i + 1) a es.size ep) → Heap.SameBut I s.heap h' → SetItSt w tp I a ord (i + 1) h') →
        wpAny (model prog w) A.in1 (do
          setField (Value.ref I) 0 (rawInt z')
          setField (Value.ref I) 1 (rawInt ((i : Int) + 1))
          ret x) (fun fin s' => ∃ v, fin = Fin.done (Flow.ret v) ∧ wpAny (model prog w) A (pure (some v)) Q E s') (fun e s' => wpAny (model prog w) A (do
            let __do_lift ← isInstance e (Value.type "StopIteration")
            if __do_lift = true then pure none else throw e) Q E s') s := by
      intro z' x hx hst
      refine wpAny_bind (wpAny_setField_rec h1 (by simp) fun h' hg hs => ?_)
      refine wpAny_bind (wpAny_setField_rec (s := { s with heap := h' }) hg (by simp) fun h'' hg2 hs2 => ?_)
      exact wpAny_pure ⟨x, rfl, wpAny_pure (hQ x h'' s.toks hx (hst h'' hg2 (hs.trans hs2)) fun b o hb e => (hs.trans hs2).extBut b o (fun q => hb (by simp [q])) e)⟩
    have step1 : ∀ (x : Value), first = .ref tp → ord[i]? = some x →
        (∀ h' : Heap, h'.get? I = some (setItObj (.ref tp) (i + 1) a es.size ep) → Heap.SameBut I s.heap h' → SetItSt w tp I a ord (i + 1) h') →
        wpAny (model prog w) A.in1 (do
          setField (Value.ref I) 1 (rawInt ((i : Int) + 1))
          ret x) (fun fin s' => ∃ v, fin = Fin.done (Flow.ret v) ∧ wpAny (model prog w) A (pure (some v)) Q E s') (fun e s' => wpAny (model prog w) A (do
            let __do_lift ← isInstance e (Value.type "StopIteration")
            if __do_lift = true then pure none else throw e) Q E s') s := by
      rintro x rfl hx hst
      refine wpAny_bind (wpAny_setField_rec h1 (by simp) fun h' hg hs => ?_)
      exact wpAny_pure ⟨x, rfl, wpAny_pure (hQ x h' s.toks hx (hst h' hg hs) fun b o hb e => hs.extBut b o (fun q => hb (by simp [q])) e)⟩
    rcases h6 with ⟨hb, ⟨z, rfl⟩, e⟩ | ⟨hb, hp, hl, hr, ⟨z, rfl, hz⟩, e⟩ | ⟨ot, ix, n, rfl, hne, hot, hdt, hlt, hlen, e⟩
    · show wpAny _ _ (setNext a z i ep >>= _) _ _ _
      refine wpAny_bind (setNext_text hb h2 h3 h4 ?_)
      have hi2 : i < (pickOrder (w.params.setOrder a ep) es).size := by rw [e, List.length_map, Array.length_toList] at hi; exact hi
      rw [Array.getElem?_eq_getElem hi2]
      refine step2 z _ (by rw [e]; simp [hi2]) fun h' hg hs => ?_
      exact ⟨_, o, es, ep, t, hg, (hs.2 a h5).trans h2, h3, h4, h5, .text hb ⟨z, rfl⟩ e⟩
    · show wpAny _ _ (setNext a z i ep >>= _) _ _ _
      refine wpAny_bind (setNext_led hb hp hl h2 h3 h4 ?_)
      have hi2 : i < es.size := by omega
      have hi3 : i < t.place.size := by
        simp only [SetTable.fits, Bool.and_eq_true, beq_iff_eq] at h4
        omega
      rw [hz, Array.getElem?_eq_getElem hi2, Array.getElem?_eq_getElem hi3]
      refine step2 (t.place[i] + 1) es[i].2 (by rw [e]; simp [hi2]) fun h' hg hs => ?_
      exact ⟨_, o, es, ep, t, hg, (hs.2 a h5).trans h2, h3, h4, h5, .led hb hp hl hr ⟨_, rfl, below_next hr hi3⟩ e⟩
    · show wpAny _ _ (seqItems? (.ref tp) >>= _) _ _ _
      refine wpAny_bind (wpAny_seqItems hot hdt ?_)
      have hi2 : i < ix.length := by omega
      have hpl : ((ix.map fun (j : Nat) => rawInt j).toArray)[((i : Int)).toNat]? = some (rawInt ((ix[i] : Nat) : Int)) := by simp [hi2]
      dsimp only
      rw [hpl]
      show wpAny _ _ (setNextDrawn a ix[i] ep >>= _) _ _ _
      have hj : ix[i] < es.size := hlt _ (List.getElem_mem hi2)
      refine wpAny_bind ?_
      unfold setNextDrawn
      refine wpAny_bind (wpAny_setState_of h2 h3 h4 ?_)
      dsimp only
      rw [if_neg (by simp), Array.getElem?_eq_getElem hj]
      refine wpAny_pure (step1 _ rfl (by rw [e]; simp [hi2, hj, Array.getD]) fun h' hg hs => ?_)
      exact ⟨_, o, es, ep, t, hg, (hs.2 a h5).trans h2, h3, h4, h5, .drawn ot ix n rfl hne ((hs.2 tp hne).trans hot) hdt hlt hlen e⟩
  done := fun s Q E st hQ => by
    have hT := SetItSt.typeIs st
    obtain ⟨first, o, es, ep, t, h1, h2, h3, h4, h5, h6⟩ := st
    unfold pyNext
    refine wpAny_bind (wpAny_attempt (wpAny_callSpecial?_slot (name := Str.ofString "__next__") hT slot_setiter_next
      (wpAny_call_entry slot_setiter_next hT entry_setiter_next ?_ (args_setiter_next _))))
    unfold Builtin.«set_iterator.__next__» slotArgs
    simp only [List.isEmpty_nil, Bool.not_true, Bool.false_eq_true, ↓reduceIte, List.length_nil, bne_self_eq_false]
    refine wpAny_bind (wpAny_pure ?_)
    dsimp only
    refine wpAny_bind (wpAny_fieldsOf h1 rfl ?_)
    show wpAny _ _ (setEntries a >>= _) _ _ _
    refine wpAny_bind (wpAny_setEntries_of h2 h3 h4 ?_)
    rw [if_neg (by simp)]
    rcases h6 with ⟨hb, ⟨z, rfl⟩, e⟩ | ⟨hb, hp, hl, hr, ⟨z, rfl, hz⟩, e⟩ | ⟨ot, ix, n, rfl, hne, hot, hdt, hlt, hlen, e⟩
    · show wpAny _ _ (setNext a z ord.length ep >>= _) _ _ _
      refine wpAny_bind (setNext_text hb h2 h3 h4 ?_)
      have hi2 : ord.length = (pickOrder (w.params.setOrder a ep) es).size := by rw [e, List.length_map, Array.length_toList]
      rw [Array.getElem?_eq_none (by omega)]
      refine wpAny_bind (wpAny_setField_rec h1 (by simp) fun h' hg hs => ?_)
      exact stop_any hh fun h'' k => hQ h'' _ fun b o hb e => k b o (hs.extBut b o (fun q => hb (by simp [q])) e)
    · show wpAny _ _ (setNext a z ord.length ep >>= _) _ _ _
      refine wpAny_bind (setNext_led hb hp hl h2 h3 h4 ?_)
      have hi2 : ord.length = es.size := by rw [e, List.length_map, Array.length_toList]
      rw [hz, Array.getElem?_eq_none (by omega)]
      refine wpAny_bind (wpAny_setField_rec h1 (by simp) fun h' hg hs => ?_)
      exact stop_any hh fun h'' k => hQ h'' _ fun b o hb e => k b o (hs.extBut b o (fun q => hb (by simp [q])) e)
    · show wpAny _ _ (seqItems? (.ref tp) >>= _) _ _ _
      refine wpAny_bind (wpAny_seqItems hot hdt ?_)
      have hi2 : ord.length = ix.length := by rw [e, List.length_map]
      have hpl : ((ix.map fun (j : Nat) => rawInt j).toArray)[((ord.length : Int)).toNat]? = none := by simp; omega
      dsimp only
      rw [hpl]
      refine wpAny_bind (wpAny_setField_rec h1 (by simp) fun h' hg hs => ?_)
      refine wpAny_bind (wpAny_setField_rec (s := { s with heap := h' }) hg (by simp) fun h2' hg2 hs2 => ?_)
      exact stop_any hh fun h'' k => hQ h'' _ fun b o hb e => k b o ((hs.trans hs2).extBut b o (fun q => hb (by simp [q])) e)
  self := fun i s Q E st hQ => by
    have hT := SetItSt.typeIs st
    refine wpAny_pyIter_slot hT slot_setiter_iter (wpAny_call_entry slot_setiter_iter hT entry_setiter_iter ?_ (args_setiter_iter _))
    show wpAny _ _ (ret (.ref I)) _ _ s
    exact wpAny_pure ⟨_, rfl, "set_iterator", _, hT, slot_setiter_next.lookup, hQ⟩

theorem ints_of_elems : ∀ {es : List (Int × Value)}, IntElems es → IntsAre (es.map (·.2)) (keysOf es)
  | [], _ => .nil
  | e :: r, h => by
    obtain ⟨k, t, he⟩ := h e (.head _)
    subst he
    exact .cons k t (ints_of_elems fun e he => h e (.tail _ he))

theorem setI_iter {E : Value → Shared → Prop} {s : Shared} {a : Addr} {o : Obj} {l : List Int} {B : Bool} {Q : Value → Shared → Prop} (hB : B = byText w) (ho : s.heap.get? a = some o) (hS : SetI B o l) (hroom : l.length < scanBound)
    (h : ∀ h' I tp ord l' d, (∀ b o, s.heap.get? b = some o → h'.get? b = some o) → s.heap.objs.size ≤ I → s.heap.objs.size ≤ tp → I < h'.objs.size → tp < h'.objs.size → IntsAre ord l' → l'.Perm l → SetItSt w tp I a ord 0 h' → Q (.ref I) { s with heap := h', drawn := d }) :
    wpAny (model prog w) A (pyIter (.ref a)) Q E s := by
  have hT := hS.typeIs ho
  obtain ⟨hex, es, ep, t, hd, hel, hl, hnd, hf, hg⟩ := id hS
  have hai : a < s.heap.objs.size := Heap.lt_size ho
  refine wpAny_pyIter_slot hT F.slot_set_iter (wpAny_call_entry F.slot_set_iter hT entry_set_iter ?_ (F.args_set_iter_1 _))
  unfold Builtin.«frozenset.__iter__» Builtin.Frozenset.slot0 slotArgs
  simp only [List.isEmpty_nil, Bool.not_true, Bool.false_eq_true, ↓reduceIte, bind_assoc, List.length_nil, bne_self_eq_false]
  unfold Builtin.Frozenset.addrOf Builtin.Frozenset.sizeOf
  refine wpAny_bind (wpAny_pure ?_)
  dsimp only
  refine wpAny_bind (wpAny_pure ?_)
  refine wpAny_bind (wpAny_bind (wpAny_setEntries_of ho hd hf (wpAny_pure ?_)))
  refine wpAny_bind ?_
  unfold setDrawn
  refine wpAny_bind (wpAny_setState_of ho hd hf ?_)
  dsimp only
  refine wpAny_bind (askByText (wpAny_pure ?_))
  have hlen : l.length = es.size := by rw [hl]; simp [keysOf]
  have hbound : es.size ≤ 16777216 := by
    have : scanBound = 4096 := rfl
    omega
  split
  · refine wpAny_bind (drawOrder_any _ _ _ _ (by simp) fun ix d hp => ?_)
    have hil : ix.length = es.size := by rw [hp.length_eq, List.length_range]
    refine wpAny_bind ?_
    simp only [newTuple]
    refine wpAny_newObj_type ?_ (by show (List.map _ ix).toArray.size ≤ sizeLine; rw [List.size_toArray, List.length_map, hil, sizeLine_eq]; exact hbound)
    refine wpAny_bind (wpAny_setEpoch_of (Heap.get?_push_of_some _ ho) hd hf ?_)
    refine wpAny_bind (wpAny_newObj_type ?_ (by size_fits))
    refine wpAny_pure ⟨_, rfl, "set_iterator", _, ⟨_, Heap.get?_push_size _ rfl, rfl⟩, slot_setiter_next.lookup, ?_⟩
    have hels : IntElems (ix.map fun j => es.getD j (0, .none)) := fun e he => by
      obtain ⟨j, hj, rfl⟩ := List.mem_map.mp he
      have hj2 : j < es.size := List.mem_range.mp (hp.mem_iff.mp hj)
      exact hel _ (by simp [Array.getD, hj2])
    have hperm : (ix.map fun j => es.getD j (0, .none)).Perm es.toList := by
      refine (List.Perm.map _ hp).trans (List.Perm.of_eq ?_)
      apply List.ext_getElem
      · simp
      · intro i h1 h2
        have h3 : i < es.size := by simpa using h2
        simp [Array.getD, h3]
    refine h _ _ s.heap.objs.size (ix.map fun j => (es.getD j (0, .none)).2) (keysOf (ix.map fun j => es.getD j (0, .none))) d (fun b o e => Heap.get?_push_of_some _ (Heap.get?_push_of_some _ e)) ?_ (Nat.le_refl _) ?_ ?_ ?_ ?_ ?_
    · simp only [Heap.size_push]; exact Nat.le_succ _
    · simp only [Heap.size_push]; exact Nat.lt_succ_self _
    · simp only [Heap.size_push]; omega
    · have := ints_of_elems hels
      rwa [List.map_map] at this
    · rw [hl]; exact List.Perm.map _ hperm
    · refine ⟨.ref s.heap.objs.size, o, es, ep, t, Heap.get?_push_size _ rfl, Heap.get?_push_of_some _ (Heap.get?_push_of_some _ ho), hd, hf, ?_, .drawn _ ix 0 rfl ?_ (Heap.get?_push_of_some _ (Heap.get?_push_size _ rfl)) rfl (fun j hj => List.mem_range.mp (hp.mem_iff.mp hj)) hil rfl⟩
      · simp only [Heap.size_push]; exact Nat.ne_of_lt (Nat.lt_succ_of_lt hai)
      · simp only [Heap.size_push]; exact Nat.ne_of_lt (Nat.lt_succ_self _)
  · rename_i hc
    refine wpAny_bind (wpAny_pure ?_)
    refine wpAny_bind (wpAny_setEpoch_of ho hd hf ?_)
    refine wpAny_bind (wpAny_newObj_type ?_ (by size_fits))
    refine wpAny_pure ⟨_, rfl, "set_iterator", _, ⟨_, Heap.get?_push_size _ rfl, rfl⟩, slot_setiter_next.lookup, ?_⟩
    have hself : ∀ h' : Heap, ({ s with heap := h' } : Shared) = { s with heap := h', drawn := s.drawn } := fun _ => rfl
    rw [hself]
    cases hbt : byText w with
    | true =>
      have hp := pick_perm (w.params.setOrder a ep) es
      have hels := hel.perm hp
      refine h _ _ s.heap.objs.size ((pickOrder (w.params.setOrder a ep) es).toList.map (·.2)) (keysOf (pickOrder (w.params.setOrder a ep) es).toList) _ (fun b o e => Heap.get?_push_of_some _ e) (Nat.le_refl _) (Nat.le_refl _) ?_ ?_ (ints_of_elems hels) ?_ ?_
      · rw [Heap.size_push]; omega
      · rw [Heap.size_push]; omega
      · rw [hl]; exact List.Perm.map _ hp
      · exact ⟨rawInt 0, o, es, ep, t, Heap.get?_push_size _ rfl, Heap.get?_push_of_some _ ho, hd, hf, Nat.ne_of_lt hai, .text hbt ⟨0, rfl⟩ rfl⟩
    | false =>
      have hpl : t.plain = true ∨ es.size ≤ 1 := by
        cases hq : t.plain with
        | true => exact .inl rfl
        | false =>
          refine .inr (Nat.le_of_not_lt fun hlt => hc ?_)
          rw [hbt]
          show (true && (!t.plain && decide (es.size > 1))) = true
          rw [hq]; simp; exact hlt
      refine h _ _ s.heap.objs.size (es.toList.map (·.2)) (keysOf es.toList) _ (fun b o e => Heap.get?_push_of_some _ e) (Nat.le_refl _) (Nat.le_refl _) ?_ ?_ (ints_of_elems hel) ?_ ?_
      · rw [Heap.size_push]; omega
      · rw [Heap.size_push]; omega
      · rw [hl]
      · exact ⟨rawInt 0, o, es, ep, t, Heap.get?_push_size _ rfl, Heap.get?_push_of_some _ ho, hd, hf, Nat.ne_of_lt hai, .led hbt hpl (by rw [hg.led, hB, hbt]; rfl) hg.rise ⟨0, rfl, below_zero hg.rise⟩ rfl⟩
end
end Mine
end

section
open PySem PySem.W PyProof.Rows
set_option Elab.async false
set_option maxRecDepth 100000
namespace Mine
example : (1 : Nat) = 1 := by
  k_with_none
  w_top off
  walk1
section
variable {prog : Program} {w : World} {A : Around} {E : Value → Shared → Prop} {s : Shared} {a : Addr} {o : Obj} {l : List Int} {B : Bool}

theorem setI_collect {Q : List Value → Shared → Prop} (hh : A.handled = none) (hB : B = byText w) (ho : s.heap.get? a = some o) (hS : SetI B o l) (hroom : l.length < scanBound)
    (h : ∀ h' acc l' d tk, (∀ b o, s.heap.get? b = some o → h'.get? b = some o) → s.heap.objs.size ≤ h'.objs.size → IntsAre acc l' → l'.Perm l → Q acc { s with heap := h', drawn := d, toks := tk }) :
    wpAny (model prog w) A (collect (.ref a)) Q E s := by
  have hlb : scanBound = 4096 := rfl
  have hai : a < s.heap.objs.size := Heap.lt_size ho
  unfold collect
  refine wpAny_bind (wpAny_runValue (codeAny_builtin F.entry_proto_collect ?_))
  rw [Around.under_plainId F.plain_proto_collect _]
  show wpAny _ A.in1 (newList [] >>= fun l => again (.builtin "list.__iadd__" ⟨[l, .ref a], []⟩)) _ _ s
  refine wpAny_bind (wpAny_newObj_type ?_)
  refine wpAny_pure ⟨plainId_quiet F.plain_list_iadd _, codeAny_builtin F.entry_list_iadd ?_⟩
  rw [Around.under_plainId F.plain_list_iadd _]
  have hS₁ : (s.heap.push { cls := .type "list", data := .seq ([] : List Value).toArray }).get? s.heap.objs.size = some { cls := .type "list", data := .seq ([] : List Value).toArray } := Heap.get?_push_size _ rfl
  have hneq : s.heap.objs.size ≠ a := Nat.ne_of_gt hai
  have h1 : Builtin.List.listSameRef (.ref s.heap.objs.size) (.ref a) = false := by simp [Builtin.List.listSameRef, hneq]
  show wpAny _ A.in1 (Builtin.List.listExtendWith (.ref s.heap.objs.size) (.ref a) (.ref s.heap.objs.size)) _ _ _
  unfold Builtin.List.listExtendWith
  have hT1 : Shared.TypeIs { s with heap := s.heap.push { cls := .type "list", data := .seq ([] : List Value).toArray } } (.ref a) "set" := ⟨o, Heap.get?_push_of_some _ ho, hS.1.1⟩
  refine wpAny_bind (wpAny_typeOf hT1 ?_)
  rw [if_neg (by rw [h1]; decide)]
  refine wpAny_bind (setI_iter (s := { s with heap := s.heap.push { cls := .type "list", data := .seq ([] : List Value).toArray } }) hB (Heap.get?_push_of_some _ ho) hS hroom fun h' I tp ord l' d hk hI htp hIs htps hints hperm hst => ?_)
  have hss : (s.heap.push ({ cls := .type "list", data := .seq ([] : List Value).toArray } : Obj)).objs.size = s.heap.objs.size + 1 := Heap.size_push _ _
  rw [hss] at hI htp
  refine wpAny_bind (wpAny_holding ?_)
  have hTa : Shared.TypeIs { s with heap := h', drawn := d } (.ref a) "set" := ⟨o, hk _ _ (Heap.get?_push_of_some _ ho), hS.1.1⟩
  dsimp only
  unfold Builtin.List.listLengthHint
  refine wpAny_bind (wpAny_specialOf hTa F.slot_set_len.lookup ?_)
  (generalize hid : ("set.__len__" : String) = id0; (fail_if_success (clear hid id0)); wp_delta; rw [show splitId id0 = some ("set", "__len__") from by subst hid; decide +kernel]; subst hid)
  refine wpAny_bind (wpAny_isInstance (b := true) hTa sub_set_self ?_)
  rw [if_neg (by decide)]
  dsimp only
  rw [if_pos (by decide +kernel)]
  refine wpAny_bind (wpAny_typeOf hTa ?_)
  refine wpAny_pure ?_
  rw [if_pos (by decide)]
  refine wpAny_bind (wpAny_rule ?_)
  have hSo : h'.get? s.heap.objs.size = some { cls := .type "list", data := .seq ([] : List Value).toArray } := hk _ _ hS₁
  refine wpAny_bind ?_
  unfold Builtin.List.listTouch
  refine wpAny_bind (listUpdate_at hSo rfl ?_ (by rw [sizeLine_eq]; simp) (by rw [sizeLine_eq]; simp))
  obtain ⟨c1, hS1⟩ : ∃ c1, (h'.update s.heap.objs.size (Obj.mapSeq (·.push .none))).get? s.heap.objs.size = some { cls := .type "list", data := .seq #[.none] c1 } := ⟨_, Heap.get?_update_self _ hSo rfl⟩
  refine listUpdate_at hS1 rfl ?_ (by rw [sizeLine_eq]; simp) (by rw [sizeLine_eq]; simp)
  obtain ⟨c2, hS2⟩ : ∃ c2, ((h'.update s.heap.objs.size (Obj.mapSeq (·.push .none))).update s.heap.objs.size (Obj.mapSeq (·.pop))).get? s.heap.objs.size = some { cls := .type "list", dict := none, data := .seq #[] c2, slots := #[] } := ⟨_, Heap.get?_update_self _ hS1 rfl⟩
  have hkeep : ∀ b, b ≠ s.heap.objs.size → ((h'.update s.heap.objs.size (Obj.mapSeq (·.push .none))).update s.heap.objs.size (Obj.mapSeq (·.pop))).get? b = h'.get? b := fun b hb => by
    rw [Heap.get?_update_ne _ _ _ _ hb, Heap.get?_update_ne _ _ _ _ hb]
  have hsz2 : ((h'.update s.heap.objs.size (Obj.mapSeq (·.push .none))).update s.heap.objs.size (Obj.mapSeq (·.pop))).objs.size = h'.objs.size := by rw [Heap.size_update, Heap.size_update]
  generalize (h'.update s.heap.objs.size (Obj.mapSeq (·.push .none))).update s.heap.objs.size (Obj.mapSeq (·.pop)) = h2 at hS2 hkeep hsz2 ⊢
  have W := (walks_set (prog := prog) (w := w) (A := A.in1) hh tp I a ord).toS
  have hIn : I ≠ s.heap.objs.size := Nat.ne_of_gt (Nat.lt_of_lt_of_le (Nat.lt_succ_self _) hI)
  have htn : tp ≠ s.heap.objs.size := Nat.ne_of_gt (Nat.lt_of_lt_of_le (Nat.lt_succ_self _) htp)
  have hst2 : SetItSt w tp I a ord 0 h2 := (walks_set (prog := prog) (w := w) (A := A) hh tp I a ord).frame 0 h' h2 hst fun b hb o ho => by
    rw [hkeep b (by
      rcases List.mem_cons.mp hb with rfl | hb
      · exact hIn
      · rcases List.mem_cons.mp hb with rfl | hb
        · exact Ne.symm hneq
        · rw [List.mem_singleton.mp hb]; exact htn)]
    exact ho
  have hol : ord.length = l.length := by rw [hints.length, hperm.length_eq]
  have hSf : s.heap.objs.size ∉ [I, a, tp] := by
    intro hm
    rcases List.mem_cons.mp hm with e | hm
    · exact hIn e.symm
    · rcases List.mem_cons.mp hm with e | hm
      · exact hneq e
      · exact htn (List.mem_singleton.mp hm).symm
  refine wpAny_pure ⟨plainId_quiet F.plain_extend_loop _, codeAny_extend_loopS W (by rw [hol, sizeLine_eq]; omega) s.heap.objs.size hSf _ ord.length 0 _ #[] c2 rfl (Nat.zero_le _) hst2 hS2 (ItemsOf.nil _) fun s' acc c' hm hS' hacc => ?_⟩
  show wpAny _ A (load s.heap.objs.size >>= _) _ _ s'
  refine wpAny_bind (wpAny_load hS' ?_)
  refine wpAny_pure ?_
  have hao : acc.toList = ord := by
    refine List.ext_getElem (by rw [Array.length_toList, hacc.1]) fun j h1 h2 => ?_
    have hj : j < acc.size := by simpa using h1
    have this : ord[j]? = some acc[j] := hacc.2 j acc[j] (Array.getElem?_eq_getElem hj)
    rw [List.getElem?_eq_getElem h2] at this
    simpa using (Option.some.inj this).symm
  rw [hao]
  have e1 := hm.gens
  have e2 := hm.drawn
  have e3 := hm.os
  have hh' := h s'.heap ord l' d s'.toks (fun b ob e => ?_) (Nat.le_of_lt (Heap.lt_size hS')) hints hperm
  · obtain ⟨x1, x2, x3, x4, x5⟩ := s'
    dsimp only at e1 e2 e3 hh' ⊢
    subst e1 e2 e3
    exact hh'
  · have hb : b < s.heap.objs.size := Heap.lt_size e
    refine hm.heap b ob (fun hmem => ?_) ?_
    · rcases List.mem_cons.mp hmem with q | hmem
      · exact absurd hb (q ▸ Nat.lt_irrefl _)
      · rw [List.mem_singleton.mp hmem] at hb
        exact absurd (Nat.lt_of_lt_of_le hb (Nat.le_of_succ_le hI)) (Nat.lt_irrefl _)
    · show h2.get? b = some ob
      rw [hkeep b (Nat.ne_of_lt hb)]
      exact hk _ _ (Heap.get?_push_of_some _ e)

theorem setI_sorted {Q : Value → Shared → Prop} (hh : A.handled = none) (hB : B = byText w) (ho : s.heap.get? a = some o) (hS : SetI B o l) (hroom : l.length < 64)
    (h : ∀ h' r vs ns e d tk, (∀ b o, s.heap.get? b = some o → h'.get? b = some o) → s.heap.objs.size ≤ r → h'.get? r = some (seqObj "list" vs.toArray e) → IntsAre vs ns → ns.Perm l → ns.Pairwise (· ≤ ·) → Q (.ref r) { s with heap := h', drawn := d, toks := tk }) :
    wpAny (model prog w) A (call (.builtin "sorted") [.ref a]) Q E s := by
  have hlb : scanBound = 4096 := rfl
  refine Calls.call_function_entry kind_sorted plain_sorted entry_sorted (args_sorted1 _) ?_
  unfold Builtin.«sorted»
  refine wpAny_bind (m := checkCount "sorted" 1 1 _) (wpAny_pure ?_)
  refine wpAny_bind (setI_collect hh hB ho hS (by omega) fun h1 vs ns d tk hk hsz hints hperm => ?_)
  have hvl : vs.length = l.length := by rw [hints.length, hperm.length_eq]
  refine wpAny_bind (wpAny_newList ?_ (by rw [hvl, sizeLine_eq]; omega))
  have hoL : (h1.push (seqObj "list" vs.toArray 0)).get? h1.objs.size = some (seqObj "list" vs.toArray 0) := Heap.get?_push_size _ rfl
  refine wpAny_bind (wpAny_holding (wpAny_call_entry slot_list_sort ⟨_, hoL, rfl⟩ entry_list_sort (list_sort_tree hoL hints (by omega) fun out ns' a1 a2 a3 => ⟨_, rfl, ?_⟩) (args_list_sort _)))
  refine wpAny_pure ⟨_, rfl, ?_⟩
  obtain ⟨e, he⟩ := sortedHeap_at (vs := vs) (out := out) hoL
  refine h _ h1.objs.size out.toList ns' e d tk (fun b ob hb => ?_) hsz (by simpa using he) a1 (a2.trans hperm) a3
  have hb1 := hk b ob hb
  have hlt : b < h1.objs.size := Heap.lt_size hb1
  rw [sortedHeap_old (Nat.ne_of_lt hlt) (by rw [Heap.size_push]; exact Nat.lt_succ_of_lt hlt)]
  exact Heap.get?_push_of_some _ hb1
end
end Mine
end

section
namespace Mine
example : (1 : Nat) = 1 := by
  k_with_none
  w_top off
  walk1
/-! ## the halves that parting down to a bound needs: plain -/
noncomputable def halved (n : Int) : Nat → Int
  | 0 => n
  | j + 1 => halved n j / 2
inductive Got (n M : Int) : Nat → Int → Prop
  | base : Got n M 0 n
  | lo {j : Nat} {x : Int} : Got n M j x → M < x → Got n M (j + 1) (x / 2)
  | hi {j : Nat} {x : Int} : Got n M j x → M < x → x % 2 = 1 → Got n M (j + 1) (x / 2 + 1)
def Need (n M k : Int) : Prop := ∃ j x, Got n M j x ∧ M < x ∧ k = x / 2

theorem halved_nonneg {n : Int} (h : 0 ≤ n) : ∀ j, 0 ≤ halved n j
  | 0 => h
  | j + 1 => by have := halved_nonneg h j; unfold halved; omega
theorem halved_add {n : Int} (h : 0 ≤ n) (j : Nat) : ∀ d, halved n (j + d) ≤ halved n j
  | 0 => Int.le_refl _
  | d + 1 => by
    have h1 := halved_add h j d
    have h2 := halved_nonneg h (j + d)
    show halved n (j + d) / 2 ≤ _
    omega
theorem halved_anti {n : Int} (h : 0 ≤ n) {i j : Nat} (hij : i ≤ j) : halved n j ≤ halved n i := by
  obtain ⟨d, rfl⟩ := Nat.exists_eq_add_of_le hij
  exact halved_add h i d
theorem Got.at {n M : Int} {j : Nat} {x : Int} (h : Got n M j x) : x = halved n j ∨ x = halved n j + 1 := by
  induction h with
  | base => exact .inl rfl
  | lo _ _ ih => show _ = halved n _ / 2 ∨ _ = halved n _ / 2 + 1; omega
  | hi _ _ _ ih => show _ = halved n _ / 2 ∨ _ = halved n _ / 2 + 1; omega
theorem Got.nonneg {n M : Int} {j : Nat} {x : Int} (hn : 0 ≤ n) (h : Got n M j x) : 0 ≤ x := by
  have h1 := h.at
  have h2 := halved_nonneg hn j
  omega
theorem Got.le {n M : Int} {j : Nat} {x : Int} (hn : 0 ≤ n) (hM : 2 ≤ M) (h : Got n M j x) : x ≤ n := by
  induction h with
  | base => exact Int.le_refl _
  | lo a b ih => have := a.nonneg hn; omega
  | hi a b c ih => omega
theorem halved_lt {n : Int} (hn : 0 ≤ n) (h : n < 2 ^ 14) : ∀ j, j ≤ 14 → halved n j < 2 ^ (14 - j)
  | 0, _ => h
  | j + 1, hj => by
    have h1 := halved_lt hn h j (by omega)
    have e : 14 - j = 14 - (j + 1) + 1 := by omega
    rw [e, Int.pow_succ] at h1
    show halved n j / 2 < _
    omega
theorem Got.level {n M : Int} {j : Nat} {x : Int} (hn : 0 ≤ n) (h14 : n < 2 ^ 14) (hM : 2 ≤ M) (h : Got n M j x) : j ≤ 13 := by
  have key : ∀ {j : Nat} {x : Int}, j ≤ 13 → Got n M j x → M < x → j + 1 ≤ 13 := by
    intro j x hj h hx
    have h1 := h.at
    have h2 := halved_lt hn h14 j (by omega)
    refine Nat.le_of_not_lt fun hc => ?_
    have e : j = 13 := by omega
    subst e
    have e2 : ((2 : Int) ^ (14 - 13)) = 2 := by decide
    rw [e2] at h2
    omega
  induction h with
  | base => omega
  | lo a b ih => exact key ih a b
  | hi a b c ih => exact key ih a b
noncomputable def lvs (n : Int) : List Int := (List.range 14).flatMap fun j => [halved n j, halved n j + 1]
theorem lvs_length (n : Int) : (lvs n).length = 28 := by
  unfold lvs
  simp
  decide
theorem Got.mem_lvs {n M : Int} {j : Nat} {x : Int} (hn : 0 ≤ n) (h14 : n < 2 ^ 14) (hM : 2 ≤ M) (h : Got n M j x) : x ∈ lvs n := by
  refine List.mem_flatMap.mpr ⟨j, List.mem_range.mpr (by have := h.level hn h14 hM; omega), ?_⟩
  rcases h.at with e | e <;> simp [e]
theorem Need.got {n M k : Int} (h : Need n M k) : ∃ j, Got n M j k := by
  obtain ⟨j, x, hg, hx, rfl⟩ := h
  exact ⟨j + 1, hg.lo hx⟩
theorem Need.pos {n M k : Int} (hM : 2 ≤ M) (h : Need n M k) : 1 ≤ k := by
  obtain ⟨j, x, hg, hx, rfl⟩ := h
  omega
theorem Need.le {n M k : Int} (hn : 0 ≤ n) (hM : 2 ≤ M) (h : Need n M k) : 2 * k ≤ n := by
  obtain ⟨j, x, hg, hx, rfl⟩ := h
  have := hg.le hn hM
  omega

theorem need_step {n M k k' : Int} (hn : 0 ≤ n) (hM : 2 ≤ M) (hev : M % 2 = 0) (hk : Need n M k) (hk' : Need n M k') (hlt : k' < k) : Need n M (k - 1) ∨ Need n M (k / 2) := by
  obtain ⟨j0, hgk⟩ := hk.got
  by_cases hc : M < k
  · exact .inr ⟨_, _, hgk, hc, rfl⟩
  · obtain ⟨j, x, hg, hx, e⟩ := hk
    obtain ⟨j', x', hg', hx', e'⟩ := id hk'
    have a := hg.at
    have a' := hg'.at
    rcases Nat.lt_trichotomy j' j with q | q | q
    · exfalso
      have h1 := halved_anti hn (show j' + 1 ≤ j from q)
      have h2 : halved n (j' + 1) = halved n j' / 2 := rfl
      omega
    · subst q
      have e3 : k' = k - 1 := by omega
      exact .inl (e3 ▸ hk')
    · have h1 := halved_anti hn (show j + 1 ≤ j' from q)
      have h2 : halved n (j + 1) = halved n j / 2 := rfl
      have e3 : k' = k / 2 := by omega
      exact .inr (e3 ▸ hk')

theorem length_le_of_nodup : ∀ {l l' : List Int}, l.Nodup → (∀ x ∈ l, x ∈ l') → l.length ≤ l'.length
  | [], _, _, _ => Nat.zero_le _
  | x :: r, l', hn, h => by
    obtain ⟨h1, h2⟩ := List.nodup_cons.mp hn
    have hx : x ∈ l' := h x (.head _)
    have ih := length_le_of_nodup (l := r) (l' := l'.erase x) h2 fun y hy => by
      have hne : y ≠ x := fun e => h1 (e ▸ hy)
      exact (List.mem_erase_of_ne hne).mpr (h y (.tail _ hy))
    rw [List.length_erase_of_mem hx] at ih
    have := List.length_pos_of_mem hx
    simp only [List.length_cons]
    omega
/-- what a loop over a todo has done -/
structure NSt (n M : Int) (seen need todo : Int → Prop) : Prop where
  seen_got : ∀ x, seen x → (∃ j, Got n M j x) ∧ M < x
  todo_got : ∀ x, todo x → ∃ j, Got n M j x
  need_iff : ∀ k, need k ↔ ∃ x, seen x ∧ k = x / 2
  start : n ≤ M ∨ seen n ∨ todo n
  next : ∀ x, seen x → (x / 2 ≤ M ∨ seen (x / 2) ∨ todo (x / 2)) ∧ (x % 2 = 1 → (x / 2 + 1 ≤ M ∨ seen (x / 2 + 1) ∨ todo (x / 2 + 1)))
theorem NSt.init (n M : Int) : NSt n M (fun _ => False) (fun _ => False) (fun x => x = n) where
  seen_got := fun _ h => h.elim
  todo_got := fun x h => ⟨0, h ▸ .base⟩
  need_iff := fun k => ⟨fun h => h.elim, fun ⟨_, h, _⟩ => h.elim⟩
  start := .inr (.inr rfl)
  next := fun _ h => h.elim
theorem NSt.congr {n M : Int} {seen need todo seen' need' todo' : Int → Prop} (h : NSt n M seen need todo) (hs : ∀ x, seen' x ↔ seen x) (hn : ∀ x, need' x ↔ need x) (ht : ∀ x, todo' x ↔ todo x) : NSt n M seen' need' todo' := by
  have e1 : seen' = seen := funext fun x => propext (hs x)
  have e2 : need' = need := funext fun x => propext (hn x)
  have e3 : todo' = todo := funext fun x => propext (ht x)
  rw [e1, e2, e3]; exact h
theorem NSt.seen_len {n M : Int} {l : List Int} {need todo : Int → Prop} (h : NSt n M (· ∈ l) need todo) (hn : 0 ≤ n) (h14 : n < 2 ^ 14) (hM : 2 ≤ M) (hd : l.Nodup) : l.length ≤ 28 := by
  rw [← lvs_length n]
  exact length_le_of_nodup hd fun x hx => let ⟨⟨_, hg⟩, _⟩ := h.seen_got x hx; hg.mem_lvs hn h14 hM
theorem NSt.todo_len {n M : Int} {l : List Int} {need seen : Int → Prop} (h : NSt n M seen need (· ∈ l)) (hn : 0 ≤ n) (h14 : n < 2 ^ 14) (hM : 2 ≤ M) (hd : l.Nodup) : l.length ≤ 28 := by
  rw [← lvs_length n]
  exact length_le_of_nodup hd fun x hx => let ⟨_, hg⟩ := h.todo_got x hx; hg.mem_lvs hn h14 hM
theorem NSt.need_len {n M : Int} {l : List Int} {seen todo : Int → Prop} (h : NSt n M seen (· ∈ l) todo) (hn : 0 ≤ n) (h14 : n < 2 ^ 14) (hM : 2 ≤ M) (hd : l.Nodup) : l.length ≤ 28 := by
  rw [← lvs_length n]
  refine length_le_of_nodup hd fun x hx => ?_
  obtain ⟨y, hy, rfl⟩ := (h.need_iff x).mp hx
  obtain ⟨⟨_, hg⟩, hm⟩ := h.seen_got y hy
  exact (hg.lo hm).mem_lvs hn h14 hM
theorem NSt.done {n M : Int} {seen need todo : Int → Prop} (h : NSt n M seen need todo) (ht : ∀ x, ¬ todo x) (k : Int) : need k ↔ Need n M k := by
  have all : ∀ {j : Nat} {x : Int}, Got n M j x → x ≤ M ∨ seen x := by
    intro j x hg
    induction hg with
    | base => rcases h.start with q | q | q; exact .inl q; exact .inr q; exact absurd q (ht _)
    | lo a b ih =>
      rcases ih with q | q
      · omega
      · rcases (h.next _ q).1 with q | q | q; exact .inl q; exact .inr q; exact absurd q (ht _)
    | hi a b c ih =>
      rcases ih with q | q
      · omega
      · rcases (h.next _ q).2 c with q | q | q; exact .inl q; exact .inr q; exact absurd q (ht _)
  rw [h.need_iff]
  constructor
  · rintro ⟨x, hx, rfl⟩
    obtain ⟨⟨j, hg⟩, hm⟩ := h.seen_got x hx
    exact ⟨j, x, hg, hm, rfl⟩
  · rintro ⟨j, x, hg, hm, rfl⟩
    rcases all hg with q | q
    · omega
    · exact ⟨x, q, rfl⟩
theorem NSt.skip {n M : Int} {seen need todo todo' : Int → Prop} (h : NSt n M seen need todo) {v : Int} (ht : ∀ x, todo x ↔ x = v ∨ todo' x) (hv : seen v ∨ v ≤ M) : NSt n M seen need todo' := by
  have go : ∀ x, (x ≤ M ∨ seen x ∨ todo x) → (x ≤ M ∨ seen x ∨ todo' x) := by
    intro x q
    rcases q with q | q | q
    · exact .inl q
    · exact .inr (.inl q)
    · rcases (ht x).mp q with rfl | q
      · rcases hv with q | q; exact .inr (.inl q); exact .inl q
      · exact .inr (.inr q)
  exact ⟨h.seen_got, fun x q => h.todo_got x ((ht x).mpr (.inr q)), h.need_iff, go _ h.start, fun x q => ⟨go _ (h.next x q).1, fun o => go _ ((h.next x q).2 o)⟩⟩
theorem NSt.take {n M : Int} {seen need todo todo' seen' need' todo'' : Int → Prop} (h : NSt n M seen need todo) {v : Int} (ht : ∀ x, todo x ↔ x = v ∨ todo' x) (hv : M < v)
    (hs : ∀ x, seen' x ↔ x = v ∨ seen x) (hn : ∀ x, need' x ↔ x = v / 2 ∨ need x) (ht2 : ∀ x, todo'' x ↔ x = v / 2 ∨ (v % 2 = 1 ∧ x = v / 2 + 1) ∨ todo' x) : NSt n M seen' need' todo'' := by
  obtain ⟨jv, hgv⟩ := h.todo_got v ((ht v).mpr (.inl rfl))
  have go : ∀ x, (x ≤ M ∨ seen x ∨ todo x) → (x ≤ M ∨ seen' x ∨ todo'' x) := by
    intro x q
    rcases q with q | q | q
    · exact .inl q
    · exact .inr (.inl ((hs x).mpr (.inr q)))
    · rcases (ht x).mp q with rfl | q
      · exact .inr (.inl ((hs x).mpr (.inl rfl)))
      · exact .inr (.inr ((ht2 x).mpr (.inr (.inr q))))
  refine ⟨fun x q => ?_, fun x q => ?_, fun k => ?_, go _ h.start, fun x q => ?_⟩
  · rcases (hs x).mp q with rfl | q
    · exact ⟨⟨jv, hgv⟩, hv⟩
    · exact h.seen_got x q
  · rcases (ht2 x).mp q with rfl | ⟨o, rfl⟩ | q
    · exact ⟨_, hgv.lo hv⟩
    · exact ⟨_, hgv.hi hv o⟩
    · exact h.todo_got x ((ht x).mpr (.inr q))
  · rw [hn, h.need_iff]
    constructor
    · rintro (rfl | ⟨x, q, rfl⟩)
      · exact ⟨v, (hs v).mpr (.inl rfl), rfl⟩
      · exact ⟨x, (hs x).mpr (.inr q), rfl⟩
    · rintro ⟨x, q, rfl⟩
      rcases (hs x).mp q with rfl | q
      · exact .inl rfl
      · exact .inr ⟨x, q, rfl⟩
  · rcases (hs x).mp q with rfl | q
    · exact ⟨.inr (.inr ((ht2 _).mpr (.inl rfl))), fun o => .inr (.inr ((ht2 _).mpr (.inr (.inl ⟨o, rfl⟩))))⟩
    · exact ⟨go _ (h.next x q).1, fun o => go _ ((h.next x q).2 o)⟩

/-! measure -/
noncomputable def wgt (x : Int) : Nat := max 1 (2 * x - 1).toNat
noncomputable def wgts (l : List Int) : Nat := (l.map wgt).sum
theorem wgts_cons (x : Int) (l : List Int) : wgts (x :: l) = wgt x + wgts l := by simp [wgts]
theorem wgts_append (l l' : List Int) : wgts (l ++ l') = wgts l + wgts l' := by simp [wgts, List.sum_append]
theorem wgts_perm {l l' : List Int} (h : l.Perm l') : wgts l = wgts l' := by
  unfold wgts
  induction h with
  | nil => rfl
  | cons _ _ ih => simp only [List.map_cons, List.sum_cons, ih]
  | swap => simp only [List.map_cons, List.sum_cons]; omega
  | trans _ _ a b => exact a.trans b
theorem wgt_pos (x : Int) : 1 ≤ wgt x := Nat.le_max_left _ _
theorem length_le_wgts (l : List Int) : l.length ≤ wgts l := by
  induction l with
  | nil => simp
  | cons x r ih => rw [wgts_cons, List.length_cons]; have := wgt_pos x; omega
theorem wgt_eq {x : Int} (h : 1 ≤ x) : (wgt x : Int) = 2 * x - 1 := by
  unfold wgt
  rw [Nat.max_eq_right (by omega)]
  exact Int.toNat_of_nonneg (by omega)
theorem half_pos {v : Int} (hv : 2 < v) : 1 ≤ v / 2 := by omega
theorem half_less {v : Int} (hv : 2 < v) : v / 2 < v := by omega
theorem one_le {v : Int} (hv : 2 < v) : 1 ≤ v := by omega
theorem wgt_two {p q v : Int} (hp : 1 ≤ p) (hq : 1 ≤ q) (h : p + q = v) : wgt p + wgt q < wgt v := by
  have a := wgt_eq hp
  have b := wgt_eq hq
  have c := wgt_eq (x := v) (by omega)
  omega
theorem wgt_halves {v : Int} (hv : 2 < v) : wgt (v / 2) + wgt (v - v / 2) < wgt v :=
  wgt_two (half_pos hv) (Int.le_sub_left_of_add_le (half_less hv)) (by rw [Int.add_comm, Int.sub_add_cancel])
theorem wgt_halves' {v : Int} (hv : 2 < v) (o : v % 2 = 1) : wgt (v / 2) + wgt (v / 2 + 1) < wgt v :=
  wgt_two (half_pos hv) (Int.le_add_one (half_pos hv)) (by omega)
theorem wgt_half {v : Int} (hv : 2 < v) : wgt (v / 2) < wgt v := by
  have a := wgt_eq (half_pos hv)
  have c := wgt_eq (one_le hv)
  have d := half_less hv
  omega

/-! sorted lists -/
theorem eq_of_rising : ∀ {l l' : List Int}, l.Pairwise (· < ·) → l'.Pairwise (· < ·) → (∀ x, x ∈ l ↔ x ∈ l') → l = l'
  | [], [], _, _, _ => rfl
  | [], y :: r', _, _, h => absurd ((h y).mpr (.head _)) List.not_mem_nil
  | x :: r, [], _, _, h => absurd ((h x).mp (.head _)) List.not_mem_nil
  | x :: r, y :: r', h1, h2, h => by
    obtain ⟨a1, a2⟩ := List.pairwise_cons.mp h1
    obtain ⟨b1, b2⟩ := List.pairwise_cons.mp h2
    have e : x = y := by
      rcases List.mem_cons.mp ((h x).mp (.head _)) with q | q
      · exact q
      · rcases List.mem_cons.mp ((h y).mpr (.head _)) with q' | q'
        · exact q'.symm
        · have := b1 _ q; have := a1 _ q'; omega
    subst e
    refine congrArg (x :: ·) (eq_of_rising a2 b2 fun z => ⟨fun hz => ?_, fun hz => ?_⟩)
    · rcases List.mem_cons.mp ((h z).mp (.tail _ hz)) with q | q
      · have := a1 _ hz; omega
      · exact q
    · rcases List.mem_cons.mp ((h z).mpr (.tail _ hz)) with q | q
      · have := b1 _ hz; omega
      · exact q
theorem rising_of {l : List Int} (h : l.Pairwise (· ≤ ·)) (hn : l.Nodup) : l.Pairwise (· < ·) :=
  (h.and hn).imp fun ⟨a, b⟩ => by omega
end Mine
end

section
open PySem PySem.W PyProof.Rows
set_option Elab.async false
set_option maxRecDepth 100000
namespace Mine
example : (1 : Nat) = 1 := by
  k_with_none
  w_top off
  walk1
/-- a goal that the walk leaves as it stands -/
def Hold (P : Prop) : Prop := P
theorem Hold.out {P : Prop} (h : Hold P) : P := h

section
variable {prog : Program} {w : World} {A : Around} {s : Shared} {env : Env}
theorem while_any {test : Expr} {body : List Stmt} {pos : Pos} {Q : Flow → Shared → Prop} (I : Nat → Shared → Prop)
    (turn : ∀ n s, I n s → wpAny (model prog w) A (isTrue test env (eval test env)) (fun b s₂ =>
      if b = true then wpAny (model prog w) A (execs body env) (fun f s₃ => match f with
        | .next | .cont => ∃ m, m < n ∧ I m s₃
        | .brk => Q .next s₃
        | .ret v => Q (.ret v) s₃) (fun _ _ => False) s₂
      else Q .next s₂) (fun _ _ => False) s) (n : Nat) (h : I n s) : wpAny (model prog w) A (exec (.While test body [] pos) env) Q (fun _ _ => False) s := by
  refine wpAny_While (codeAny_whileLoop I (fun n s hI => ?_) n h)
  refine wpAny_mono (turn n s hI) (fun b s₂ h₂ => ?_) fun _ _ x => x.elim
  cases b with
  | false => exact wpAny_execs_nil h₂
  | true =>
    refine wpAny_mono h₂ (fun f s₃ h₃ => ?_) fun _ _ x => x.elim
    cases f <;> exact h₃

/-- a loop that is about to ask its iterator -/
def ForAt (prog : Program) (w : World) (A : Around) (env : Env) (x : Str) (body : List Stmt) (Q : Flow → Shared → Prop) (it : Value) (s₂ : Shared) : Prop :=
  ∃ (I : Nat → Shared → Prop) (n : Nat), I n s₂ ∧
      ∀ n s, I n s → wpAny (model prog w) A (pyNext it) (fun r s₁ => match r with
        | none => Q .next s₁
        | some v => wpAny (model prog w) A (storeName env x v) (fun _ s₂ => wpAny (model prog w) A (execs body env) (fun f s₃ => match f with
          | .next | .cont => ∃ m, m < n ∧ I m s₃
          | .brk => Q .next s₃
          | .ret v => Q (.ret v) s₃) (fun _ _ => False) s₂) (fun _ _ => False) s₁) (fun _ _ => False) s
theorem for_any {x : Str} {px pos : Pos} {iter : Expr} {body : List Stmt} {Q : Flow → Shared → Prop}
    (h : wpAny (model prog w) A (eval iter env) (fun xv s₁ => wpAny (model prog w) A (pyIter xv) (fun it s₂ => ForAt prog w A env x body Q it s₂) (fun _ _ => False) s₁) (fun _ _ => False) s)
    (hs : ∀ x, foldedSetIterable iter env x = pure x := by intro _; rfl) :
    wpAny (model prog w) A (exec (.For (.Name x px) iter body [] pos) env) Q (fun _ _ => False) s := by
  refine wpAny_For (wpAny_mono h (fun xv s₁ h₁ => wpAny_mono h₁ (fun it s₂ h₂ => ?_) fun _ _ e => e) fun _ _ e => e) hs
  obtain ⟨I, n, hI, turn⟩ := h₂
  refine codeAny_forLoop I (fun n s hI => ?_) n hI
  refine wpAny_mono (turn n s hI) (fun r s₁ h₁ => ?_) fun _ _ e => e.elim
  cases r with
  | none => exact wpAny_execs_nil h₁
  | some v =>
    refine wpAny_assign_Name (wpAny_mono h₁ (fun _ s₂ h₂ => ?_) fun _ _ e => e.elim)
    refine wpAny_mono h₂ (fun f s₃ h₃ => ?_) fun _ _ x => x.elim
    cases f <;> exact h₃

/-- a turn's end: only the names xs may have turned -/
def LEnd (g : Heap) (L : Addr) (xs : List Str) (m₀ : Str → Option Value) (s : Shared) (J : List (Addr × Obj) → Prop) (s₃ : Shared) : Prop :=
  ∃ h tk dr m₁ news₁, s₃ = { s with heap := h, toks := tk, drawn := dr } ∧ Fr g L h m₁ ∧ (∀ y, xs.contains y = false → m₁ y = m₀ y) ∧ News g L h news₁ ∧ J news₁
theorem fr_over {g h : Heap} {L : Addr} {m₀ m₁ : Str → Option Value} {xs : List Str} (F : Fr g L h m₁) (e : ∀ y, xs.contains y = false → m₁ y = m₀ y) : Fr g L h (fun y => if xs.contains y = true then m₁ y else m₀ y) := by
  have : (fun y => if xs.contains y = true then m₁ y else m₀ y) = m₁ := by
    funext y
    cases hc : xs.contains y with
    | true => simp
    | false => simp only [Bool.false_eq_true, if_false]; exact (e y hc).symm
  rw [this]; exact F
theorem while_fr {test : Expr} {body : List Stmt} {pos : Pos} {Q : Flow → Shared → Prop} {g : Heap} {L : Addr} {m₀ : Str → Option Value} {news₀ : List (Addr × Obj)} (xs : List Str) (J : Nat → List (Addr × Obj) → Prop) {n₀ : Nat}
    (F : Fr g L s.heap m₀) (N : News g L s.heap news₀) (hJ : J n₀ news₀)
    (turn : ∀ n (u : Str → Option Value) h tk dr news₁, J n news₁ → Fr g L h (fun y => if xs.contains y = true then u y else m₀ y) → News g L h news₁ →
      wpAny (model prog w) A (isTrue test env (eval test env)) (fun b s₂ => if b = true then wpAny (model prog w) A (execs body env) (fun f s₃ => match f with
        | .next | .cont => LEnd g L xs m₀ s (fun nx => ∃ k, k < n ∧ J k nx) s₃
        | .brk => Q .next s₃
        | .ret v => Q (.ret v) s₃) (fun _ _ => False) s₂ else Q .next s₂) (fun _ _ => False) { s with heap := h, toks := tk, drawn := dr }) :
    wpAny (model prog w) A (exec (.While test body [] pos) env) Q (fun _ _ => False) s := by
  refine while_any (fun n s' => LEnd g L xs m₀ s (fun nx => J n nx) s') (fun n s' hI => ?_) n₀ ⟨s.heap, s.toks, s.drawn, m₀, news₀, rfl, F, fun _ _ => rfl, N, hJ⟩
  obtain ⟨h, tk, dr, m₁, news₁, rfl, F₁, e₁, N₁, J₁⟩ := hI
  refine wpAny_mono (turn n m₁ h tk dr news₁ J₁ (fr_over F₁ e₁) N₁) (fun b s₂ h₂ => ?_) fun _ _ x => x
  cases b with
  | false => simpa using h₂
  | true =>
    simp only [if_true] at h₂ ⊢
    refine wpAny_mono h₂ (fun f s₃ h₃ => ?_) fun _ _ x => x
    have fin : LEnd g L xs m₀ s (fun nx => ∃ k, k < n ∧ J k nx) s₃ → ∃ m, m < n ∧ LEnd g L xs m₀ s (fun nx => J m nx) s₃ := by
      rintro ⟨h, tk, dr, m₂, news₂, e, F₂, e₂, N₂, k, hk, hJk⟩
      exact ⟨k, hk, h, tk, dr, m₂, news₂, e, F₂, e₂, N₂, hJk⟩
    cases f with
    | next => exact fin h₃
    | cont => exact fin h₃
    | brk => exact h₃
    | ret v => exact h₃

def IsIt (io : Obj) (l : Addr) (i : Nat) : Prop := io.cls = .type "list_iterator" ∧ io.data = .fields #[.ref l, .int i 0]
/-- a for over a list of the ledger, its iterator made and in the ledger -/
theorem forL_at {x : Str} {body : List Stmt} {Q : Flow → Shared → Prop} {g : Heap} {m₀ : Str → Option Value} {news₀ : List (Addr × Obj)} {I l : Addr} {lo io₀ : Obj} {vs : List Value} {e i₀ : Nat} (xs : List Str) (J : Nat → List (Addr × Obj) → Prop)
    (hh : A.handled = none) (hx : env.kindOf x = some .local) (hp : (env.scope.kind == .class || (env.scope.kind == .module && env.locals != env.globals)) = false) (hlo : lo.cls = .type "list" ∧ lo.data = .seq vs.toArray e) (hi₀ : i₀ ≤ vs.length) (hio : IsIt io₀ l i₀)
    (F : Fr g env.locals s.heap m₀) (N : News g env.locals s.heap ((I, io₀) :: news₀)) (hJ : J i₀ news₀) (hJl : ∀ i nx, J i nx → (l, lo) ∈ nx ∧ ∀ p ∈ nx, p.1 ≠ I)
    (turn : ∀ i v (u : Str → Option Value) h tk dr news₁ io, vs[i]? = some v → J i news₁ → IsIt io l (i + 1) → Fr g env.locals h (fun y => if y = x then some v else if xs.contains y = true then u y else m₀ y) → News g env.locals h ((I, io) :: news₁) →
      wpAny (model prog w) A (execs body env) (fun f s₃ => match f with
        | .next | .cont => LEnd g env.locals (x :: xs) m₀ s (fun nx => (I, io) ∈ nx ∧ ∃ nx', (∀ p ∈ nx', p ∈ nx) ∧ J (i + 1) nx') s₃
        | .brk => Q .next s₃
        | .ret v => Q (.ret v) s₃) (fun _ _ => False) { s with heap := h, toks := tk, drawn := dr })
    (done : ∀ (u : Str → Option Value) h tk dr news₁, J vs.length news₁ → Fr g env.locals h (fun y => if (x :: xs).contains y = true then u y else m₀ y) → News g env.locals h news₁ → Q .next { s with heap := h, toks := tk, drawn := dr }) :
    ForAt prog w A env x body Q (.ref I) s := by
  refine ⟨fun n s' => ∃ i, n = vs.length - i ∧ i ≤ vs.length ∧ LEnd g env.locals (x :: xs) m₀ s (fun nx => (∃ io, IsIt io l i ∧ (I, io) ∈ nx) ∧ ∃ nx', (∀ p ∈ nx', p ∈ nx) ∧ J i nx') s', _,
    ⟨i₀, rfl, hi₀, s.heap, s.toks, s.drawn, m₀, _, rfl, F, fun _ _ => rfl, N, ⟨io₀, hio, .head _⟩, news₀, fun p hp => .tail _ hp, hJ⟩, fun n s' hI => ?_⟩
  obtain ⟨i, rfl, hi, h, tk, dr, m₁, nx, rfl, F₁, e₁, N₁, ⟨io, hio, hIn⟩, nx', hsub, J₁⟩ := hI
  obtain ⟨hln, hoff⟩ := hJl i nx' J₁
  have hit : h.IsListIter I l i := ⟨_, (N₁ _ hIn).1, hio.1, hio.2⟩
  have hlist : h.IsList l vs.toArray := ⟨lo, (N₁ _ (hsub _ hln)).1, hlo.1, e, hlo.2⟩
  by_cases hlt : i < vs.length
  · refine wpAny_pyNext_list_item (s := { s with heap := h, toks := tk, drawn := dr }) hit hlist (x := vs[i]) (by simp [hlt]) fun h' hit' hs => ?_
    have F₂ : Fr g env.locals h' m₁ := F₁.change hs (N₁ _ hIn).2.1 (N₁ _ hIn).2.2
    refine wpAny_storeName_local hx F₂.ns (fun h'' hn hsb => ?_) hp
    have F₃ := F₂.set hn hsb
    have hIL : I ≠ env.locals := (N₁ _ hIn).2.1
    obtain ⟨io', hio1, hio2, hio3⟩ := hit'
    have N₃ : News g env.locals h'' ((I, io') :: nx') := by
      intro p hp
      rcases List.mem_cons.mp hp with rfl | hp
      · exact ⟨(hsb.2 I hIL).trans hio1, (N₁ _ hIn).2⟩
      · have q := N₁ p (hsub p hp)
        exact ⟨(hsb.2 p.1 q.2.1).trans ((hs.2 p.1 (hoff p hp)).trans q.1), q.2⟩
    have hmap : (fun y => if y = x then some vs[i] else m₁ y) = fun y => if y = x then some vs[i] else if xs.contains y = true then m₁ y else m₀ y := by
      funext y
      by_cases hy : y = x
      · simp [hy]
      · rw [if_neg hy, if_neg hy]
        cases hc : xs.contains y with
        | true => simp
        | false =>
          simp only [Bool.false_eq_true, if_false]
          refine e₁ y ?_
          rw [List.contains_cons, hc]
          simp [hy]
    rw [hmap] at F₃
    refine wpAny_mono (turn i vs[i] m₁ h'' _ dr nx' io' (List.getElem?_eq_getElem hlt) J₁ ⟨hio2, hio3⟩ F₃ N₃) (fun f s₃ h₃ => ?_) fun _ _ x => x
    have fin : LEnd g env.locals (x :: xs) m₀ s (fun nx => (I, io') ∈ nx ∧ ∃ nx', (∀ p ∈ nx', p ∈ nx) ∧ J (i + 1) nx') s₃ → ∃ m, m < vs.length - i ∧ ∃ i', m = vs.length - i' ∧ i' ≤ vs.length ∧ LEnd g env.locals (x :: xs) m₀ s (fun nx => (∃ io, IsIt io l i' ∧ (I, io) ∈ nx) ∧ ∃ nx', (∀ p ∈ nx', p ∈ nx) ∧ J i' nx') s₃ := by
      rintro ⟨h, tk, dr, m₂, news₂, e, F₂, e₂, N₂, k1, k2⟩
      exact ⟨vs.length - (i + 1), by omega, i + 1, rfl, hlt, h, tk, dr, m₂, news₂, e, F₂, e₂, N₂, ⟨io', ⟨hio2, hio3⟩, k1⟩, k2⟩
    cases f with
    | next => exact fin h₃
    | cont => exact fin h₃
    | brk => exact h₃
    | ret v => exact h₃
  · have hil : i = vs.length := by omega
    subst hil
    refine wpAny_pyNext_list_end (s := { s with heap := h, toks := tk, drawn := dr }) hh hit hlist (by simp) fun h' hs => ?_
    have hIL : I ≠ env.locals := (N₁ _ hIn).2.1
    obtain ⟨oL, a1, a2, hL, a3⟩ := F₁.ns
    have F₂ : Fr g env.locals h' m₁ := ⟨⟨oL, a1, a2, hs _ _ (Ne.symm hIL) hL, a3⟩, fun b o eb => hs b o (fun q => by have := (N₁ _ hIn).2.2; rw [← q, eb] at this; cases this) (F₁.keep b o eb), F₁.above⟩
    refine done m₁ h' tk dr nx' J₁ (fr_over F₂ e₁) fun p hp => ?_
    have q := N₁ p (hsub p hp)
    exact ⟨hs _ _ (hoff p hp) q.1, q.2⟩
end

section
variable {prog : Program} {w : World} {A : Around} {E : Value → Shared → Prop} {s : Shared} {h₀ : Heap} {L a : Addr} {m : Str → Option Value} {news : List (Addr × Obj)} {g : Obj → List (Addr × Obj)} {o : Obj} {l : List Int} {B : Bool}

theorem sN_new {Q : Value → Shared → Prop} (F : Fr h₀ L s.heap m) (N : News h₀ L s.heap news)
    (h : ∀ D h', Fr h₀ L h' m → News h₀ L h' ((D, setNew w) :: news) → (∀ p ∈ news, p.1 < D) → SetI (byText w) (setNew w) [] → Q (.ref D) { s with heap := h' }) :
    wpAny (model prog w) A (call (.type "set") []) Q E s :=
  setI_call0 (h _ _ (F.push _) (N.push F _) (fun p hp => Heap.lt_size (N p hp).1) (SetI.fresh _))

theorem sN_disp {K : Frag} {env : Env} {e : Expr} {pos : Pos} {Q : Value → Shared → Prop} (F : Fr h₀ L s.heap m) (N : News h₀ L s.heap news) (X : K.In h₀) (hc : kdsCode K env.code = true) (hp : kdsPlain e = true)
    (h : ∀ D h', Fr h₀ L h' m → News h₀ L h' ((D, setNew w) :: news) → (∀ p ∈ news, p.1 < D) → SetI (byText w) (setNew w) [] →
      wpAny (model prog w) A (eval e env) (fun v s' => wpAny (model prog w) A (setAdd D v) (fun _ s'' => Q (.ref D) s'') E s') E { s with heap := h' }) :
    wpAny (model prog w) A (eval (.Set [e] 0 pos) env) Q E s := by
  rw [arm_eval_Set]
  refine wpAny_bind (wpAny_standAt ?_)
  refine wpAny_bind (kds_main (X.keeps F.keep) hc fun b => ?_)
  have he : starEach [e] env = [(false, eval e env)] := by cases e <;> first | rfl | exact absurd hp (by simp [kdsPlain])
  rw [he]
  have hr : displayRoad 0 [e] = .oneByOne := rfl
  rw [hr]
  unfold setDisplay
  rw [if_neg (by decide)]
  refine wpAny_bind (setI_new ?_)
  refine wpAny_bind (wpAny_holding ?_)
  show wpAny (model prog w) A (evalAll [do let v ← eval e env; standAt pos; pure v] >>= _) _ _ _
  refine wpAny_bind ?_
  unfold evalAll
  refine wpAny_bind (wpAny_bind (wpAny_mono (h _ _ (F.push _) (N.push F _) (fun p hp => Heap.lt_size (N p hp).1) (SetI.fresh _)) (fun v s' h' => ?_) fun _ _ x => x))
  refine wpAny_bind (wpAny_standAt (wpAny_pure ?_))
  refine wpAny_bind (wpAny_holding ?_)
  refine wpAny_pure (wpAny_pure (wpAny_bind (wpAny_holding ?_)))
  refine wpAny_bind ?_
  rw [List.forIn_cons]
  refine wpAny_bind (wpAny_bind (wpAny_mono h' (fun _ s2 h2 => wpAny_pure ?_) fun _ _ x => x))
  dsimp only
  rw [List.forIn_nil]
  refine wpAny_pure ?_
  rw [if_neg (by decide)]
  refine wpAny_pure (wpAny_bind ?_)
  show wpAny (model prog w) A (forIn ([] : List (Bool × Sem Value)) PUnit.unit _) _ _ _
  rw [List.forIn_nil]
  exact wpAny_pure (wpAny_pure (wpAny_pure h2))

theorem sN_setAdd {k : Int} {tk : Tok} {Q : Bool → Shared → Prop} (F : Fr h₀ L s.heap m) (N : News h₀ L s.heap news) (U : UpdF a o news g) (hS : SetI B o l) (hroom : l.length + 1 < scanBound)
    (h : ∀ h' o' l' b, Fr h₀ L h' m → News h₀ L h' (g o') → SetI B o' l' → l'.Perm (if k ∈ l then l else k :: l) → Q b { s with heap := h', toks := s.toks + 1 }) :
    wpAny (model prog w) A (setAdd a (.int k tk)) Q E s := by
  obtain ⟨pre, post, rfl, hg, x, y⟩ := U.split
  have hm := N (a, o) (List.mem_append_right _ (.head _))
  exact setI_setAdd hm.1 hS hroom fun h' o' l' b q1 q2 q3 q4 => h h' o' l' b (F.change q1 hm.2.1 hm.2.2) (hg o' ▸ N.setIn x y q1 q2) q3 q4
theorem sN_add {k : Int} {tk : Tok} {Q : Value → Shared → Prop} (F : Fr h₀ L s.heap m) (N : News h₀ L s.heap news) (U : UpdF a o news g) (hS : SetI B o l) (hroom : l.length + 1 < scanBound)
    (h : ∀ h' o' l', Fr h₀ L h' m → News h₀ L h' (g o') → SetI B o' l' → l'.Perm (if k ∈ l then l else k :: l) → Q .none { s with heap := h', toks := s.toks + 1 }) :
    wpAny (model prog w) A (call (.builtin "set.add") [.ref a, .int k tk]) Q E s := by
  obtain ⟨pre, post, rfl, hg, x, y⟩ := U.split
  have hm := N (a, o) (List.mem_append_right _ (.head _))
  exact setI_callAdd hm.1 hS hroom fun h' o' l' q1 q2 q3 q4 => h h' o' l' (F.change q1 hm.2.1 hm.2.2) (hg o' ▸ N.setIn x y q1 q2) q3 q4
theorem sN_pop {Q : Value → Shared → Prop} (F : Fr h₀ L s.heap m) (N : News h₀ L s.heap news) (U : UpdF a o news g) (hB : B = byText w) (hS : SetI B o l) (hroom : l.length < scanBound) (hne : l ≠ [])
    (h : ∀ h' o' k tk l' d, Fr h₀ L h' m → News h₀ L h' (g o') → SetI B o' l' → l.Perm (k :: l') → Q (.int k tk) { s with heap := h', drawn := d }) :
    wpAny (model prog w) A (call (.builtin "set.pop") [.ref a]) Q E s := by
  obtain ⟨pre, post, rfl, hg, x, y⟩ := U.split
  have hm := N (a, o) (List.mem_append_right _ (.head _))
  exact setI_callPop hB hm.1 hS hroom hne fun h' o' k tk l' d q1 q2 q3 q4 => h h' o' k tk l' d (F.change q1 hm.2.1 hm.2.2) (hg o' ▸ N.setIn x y q1 q2) q3 q4
theorem sN_methodPop {pl : Sem Bool} {Q : Value × List Value → Shared → Prop} (N : News h₀ L s.heap news) (hm : (a, o) ∈ news) (hS : SetI B o l) (h : Q (.builtin "set.pop", [.ref a]) s) :
    wpAny (model prog w) A (getMethod (.ref a) "pop" pl) Q E s := setI_methodPop (N _ hm).1 hS h
theorem sN_methodAdd {pl : Sem Bool} {Q : Value × List Value → Shared → Prop} (N : News h₀ L s.heap news) (hm : (a, o) ∈ news) (hS : SetI B o l) (h : Q (.builtin "set.add", [.ref a]) s) :
    wpAny (model prog w) A (getMethod (.ref a) "add" pl) Q E s := setI_methodAdd (N _ hm).1 hS h
theorem sN_truthy {Q : Bool → Shared → Prop} (N : News h₀ L s.heap news) (hm : (a, o) ∈ news) (hS : SetI B o l) (hroom : l.length < scanBound) (h : ∀ tk, Q (!l.isEmpty) { s with toks := tk }) :
    wpAny (model prog w) A (truthy (.ref a)) Q E s := setI_truthy (N _ hm).1 hS hroom h
theorem sN_in {k : Int} {tk : Tok} {Q : Value → Shared → Prop} (N : News h₀ L s.heap news) (hm : (a, o) ∈ news) (hS : SetI B o l) (hroom : l.length < scanBound) (h : Q (.bool (decide (k ∈ l))) { s with toks := s.toks + 1 }) :
    wpAny (model prog w) A (compareOp .In (.int k tk) (.ref a)) Q E s :=
  wpAny_inSet_of (intKind_is _ _ _ _) rfl ((hS.objOf (prog := prog) (w := w)).setOf (N _ hm).1 hroom) h
theorem sN_sorted {Q : Value → Shared → Prop} (hh : A.handled = none) (F : Fr h₀ L s.heap m) (N : News h₀ L s.heap news) (hm : (a, o) ∈ news) (hB : B = byText w) (hS : SetI B o l) (hroom : l.length < 64)
    (h : ∀ h' r vs ns e d tk, Fr h₀ L h' m → News h₀ L h' ((r, seqObj "list" vs.toArray e) :: news) → (∀ p ∈ news, p.1 < r) → IntsAre vs ns → ns.Perm l → ns.Pairwise (· ≤ ·) → Q (.ref r) { s with heap := h', drawn := d, toks := tk }) :
    wpAny (model prog w) A (call (.builtin "sorted") [.ref a]) Q E s :=
  setI_sorted hh hB (N _ hm).1 hS hroom fun h' r vs ns e d tk q1 q2 q3 q4 q5 q6 => h h' r vs ns e d tk (F.kept q1) (N.kept_cons F q1 q2 q3) (fun p hp => Nat.lt_of_lt_of_le (Heap.lt_size (N p hp).1) q2) q4 q5 q6

theorem sN_pyIterL {l : Addr} {lo : Obj} {vs : List Value} {e : Nat} {Q : Value → Shared → Prop} (F : Fr h₀ L s.heap m) (N : News h₀ L s.heap news) (hm : (l, lo) ∈ news) (hlo : lo.cls = .type "list" ∧ lo.data = .seq vs.toArray e)
    (h : ∀ (I : Addr) h' io, Fr h₀ L h' m → News h₀ L h' ((I, io) :: news) → (∀ p ∈ news, p.1 < I) → IsIt io l 0 → Q (.ref I) { s with heap := h' }) :
    wpAny (model prog w) A (pyIter (.ref l)) Q E s :=
  wpAny_pyIter_list ⟨lo, (N _ hm).1, hlo.1, e, hlo.2⟩ (h _ _ _ (F.push _) (N.push F _) (fun p hp => Heap.lt_size (N p hp).1) ⟨rfl, rfl⟩)
theorem sN_iterL {l : Addr} {lo : Obj} {vs : List Value} {e : Nat} {Q : Value → Shared → Prop} (F : Fr h₀ L s.heap m) (N : News h₀ L s.heap news) (hm : (l, lo) ∈ news) (hlo : lo.cls = .type "list" ∧ lo.data = .seq vs.toArray e)
    (h : ∀ (I : Addr) h' io, Fr h₀ L h' m → News h₀ L h' ((I, io) :: news) → (∀ p ∈ news, p.1 < I) → IsIt io l 0 → Q (.ref I) { s with heap := h' }) :
    wpAny (model prog w) A (call (.builtin "iter") [.ref l]) Q E s := by
  refine Calls.call_function_entry (by decide +kernel) (by decide +kernel) kdk_entry_iter (kdk_args_iter _) ?_
  unfold Builtin.«iter»
  refine wpAny_bind (m := someArgs "iter" 1 2 _) (wpAny_of_eq (a := [Value.ref l]) (by first | rfl | kernel_rfl!) ?_)
  show wpAny _ _ (pyIter (.ref l) >>= _) _ _ _
  refine wpAny_bind (sN_pyIterL F N hm hlo fun I h' io F' N' hl hi => ?_)
  exact wpAny_pure ⟨_, rfl, h I h' io F' N' hl hi⟩
theorem sN_nextL {I l : Addr} {io lo : Obj} {vs : List Value} {v : Value} {e i : Nat} {Q : Value → Shared → Prop} (F : Fr h₀ L s.heap m) (N : News h₀ L s.heap news) (U : UpdF I io news g) (hi : IsIt io l i) (hm : (l, lo) ∈ news) (hlo : lo.cls = .type "list" ∧ lo.data = .seq vs.toArray e) (hx : vs[i]? = some v)
    (h : ∀ h' io', Fr h₀ L h' m → News h₀ L h' (g io') → IsIt io' l (i + 1) → Q v { s with heap := h' }) :
    wpAny (model prog w) A (call (.builtin "next") [.ref I]) Q E s := by
  obtain ⟨pre, post, hl, hg, a, b⟩ := U.split
  have hmem : (I, io) ∈ news := by rw [hl]; exact List.mem_append_right _ (.head _)
  have hmI := N (I, io) hmem
  have hit : s.heap.IsListIter I l i := ⟨io, hmI.1, hi.1, hi.2⟩
  have hml := N (l, lo) hm
  refine Calls.call_function_entry (by decide +kernel) (by decide +kernel) kdk_entry_next (kdk_args_next _) ?_
  unfold Builtin.«next»
  refine wpAny_bind (m := someArgs "next" 1 2 _) (wpAny_of_eq (a := [Value.ref I]) (by first | rfl | kernel_rfl!) ?_)
  dsimp only
  refine wpAny_bind (wpAny_specialOf (name := Str.ofString "__next__") hit.typeIs slot_listiter_next.lookup ?_)
  refine wpAny_ite_split (fun hab => absurd hab (by decide)) (fun _ => ?_)
  refine wpAny_bind ?_
  refine wpAny_callSpecial?_slot (name := Str.ofString "__next__") hit.typeIs slot_listiter_next (wpAny_call_entry slot_listiter_next hit.typeIs entry_listiter_next ?_ (args_listiter_next _))
  show wpAny _ _ (field (.ref I) 0 >>= _) _ _ s
  refine wpAny_bind (wpAny_field hmI.1 hi.2 (x := .ref l) rfl ?_)
  show wpAny _ _ (if (Value.ref l == Value.none) = true then _ else _) _ _ s
  rw [if_neg (show ¬ ((Value.ref l == Value.none) = true) from Bool.false_ne_true)]
  show wpAny _ _ (field (.ref I) 1 >>= _) _ _ s
  refine wpAny_bind (wpAny_field hmI.1 hi.2 (x := .int i 0) rfl ?_)
  show wpAny _ _ (seqItems? (.ref l) >>= _) _ _ s
  refine wpAny_bind (wpAny_seqItems hml.1 hlo.2 ?_)
  have hx' : vs.toArray[i]? = some v := by simpa using hx
  simp only [Int.toNat_natCast, hx']
  have hsame := Heap.SameBut.update s.heap I (Obj.mapFields (·.setIfInBounds 1 (rawInt ((i : Int) + 1))))
  refine wpAny_bind (wpAny_setField hmI.1 hi.2 (by simp) (wpAny_pure ⟨v, rfl, wpAny_pure ⟨_, rfl, ?_⟩⟩))
  have hget := Heap.get?_update_self (Obj.mapFields (·.setIfInBounds 1 (rawInt ((i : Int) + 1)))) hmI.1 (Obj.isFreed_of_fields (Obj.data_mapFields hi.2 _))
  refine h _ _ (F.change hsame hmI.2.1 hmI.2.2) (hg _ ▸ (show News h₀ L s.heap (pre ++ (I, io) :: post) from hl ▸ N).setIn a b hsame hget) ⟨(Obj.cls_mapFields ..).trans hi.1, ?_⟩
  rw [Obj.data_mapFields hi.2]
  simp [rawInt]
theorem sN_selfL {I l : Addr} {io : Obj} {i : Nat} {Q : Value → Shared → Prop} (N : News h₀ L s.heap news) (hm : (I, io) ∈ news) (hi : IsIt io l i) (h : Q (.ref I) s) : wpAny (model prog w) A (pyIter (.ref I)) Q E s :=
  wpAny_pyIter_listiter ⟨io, (N _ hm).1, hi.1, hi.2⟩ h
end
end Mine
end

section
open PySem PySem.W PyProof.Rows
set_option Elab.async false
set_option maxRecDepth 100000
namespace Mine
example : (1 : Nat) = 1 := by
  k_with_none
  w_top off
  walk1
theorem valueAt_of_mem {kvs : List (Int × Value)} {k : Int} (h : k ∈ kvs.map (·.1)) : ∃ q ∈ kvs, q.1 = k ∧ valueAt kvs k = some q.2 := by
  unfold valueAt
  cases hf : kvs.find? (fun kv => kv.1 = k) with
  | none =>
    obtain ⟨q, hq, e⟩ := List.mem_map.mp h
    have := List.find?_eq_none.mp hf q hq
    simp [e] at this
  | some q =>
    have h1 := List.mem_of_find?_eq_some hf
    have h2 := List.find?_some hf
    exact ⟨q, h1, by simpa using h2, rfl⟩
/-- each key's value is b to the key -/
def PowVals (b : Int) (kvs : List (Int × Value)) : Prop := ∀ q ∈ kvs, ∃ t, q.2 = .int (b ^ q.1.toNat) t
theorem PowVals.add {b : Int} {kvs : List (Int × Value)} (h : PowVals b kvs) {k x : Int} {t : Tok} (e : x = b ^ k.toNat) : PowVals b (kvs ++ [(k, .int x t)]) := fun q hq => by
  rcases List.mem_append.mp hq with hq | hq
  · exact h q hq
  · rw [List.mem_singleton.mp hq, e]; exact ⟨t, rfl⟩
theorem valueAt_isSome_iff {kvs : List (Int × Value)} {k : Int} : (valueAt kvs k).isSome = decide (k ∈ kvs.map (·.1)) := by
  by_cases h : k ∈ kvs.map (·.1)
  · obtain ⟨q, _, _, e⟩ := valueAt_of_mem h
    rw [e, decide_eq_true h]; rfl
  · rw [valueAt_none_of_not_mem h, decide_eq_false h]; rfl

section
variable {prog : Program} {w : World} {A : Around} {E : Value → Shared → Prop} {s : Shared} {h₀ : Heap} {L d : Addr} {m : Str → Option Value} {news : List (Addr × Obj)} {g : Obj → List (Addr × Obj)} {o : Obj} {kvs : List (Int × Value)}
theorem dN_set {k : Int} {t : Tok} {v : Value} {Q : Unit → Shared → Prop} (F : Fr h₀ L s.heap m) (N : News h₀ L s.heap news) (U : UpdF d o news g) (hd : o.IsDictOf (intKind prog w) kvs) (hnew : k ∉ kvs.map (·.1)) (hsz : kvs.length ≤ 1000)
    (h : ∀ h' o', Fr h₀ L h' m → News h₀ L h' (g o') → o'.IsDictOf (intKind prog w) (kvs ++ [(k, v)]) → Q () { s with heap := h', toks := s.toks + 1 }) : wpAny (model prog w) A (setItem (.ref d) (.int k t) v) Q E s :=
  kda_set F N U hd (intKind_is _ _ _ _) (by rw [sizeLine_eq]; omega) fun h' o' F' N' hd' => h h' o' F' N' (by rwa [stored_absent (valueAt_none_of_not_mem hnew)] at hd')
theorem dN_in {k : Int} {t : Tok} {Q : Value → Shared → Prop} (N : News h₀ L s.heap news) (hp : (d, o) ∈ news) (hd : o.IsDictOf (intKind prog w) kvs) (lo : (d == sysModules) = false) (h : Q (.bool (decide (k ∈ kvs.map (·.1)))) { s with toks := s.toks + 1 }) :
    wpAny (model prog w) A (compareOp .In (.int k t) (.ref d)) Q E s := kda_in N hp hd lo (intKind_is _ _ _ _) _ valueAt_isSome_iff h
theorem dN_inT {k : Int} {t : Tok} {Q : Value → Shared → Prop} (N : News h₀ L s.heap news) (hp : (d, o) ∈ news) (hd : o.IsDictOf (intKind prog w) kvs) (lo : (d == sysModules) = false) (hk : k ∈ kvs.map (·.1)) (h : Q (.bool true) { s with toks := s.toks + 1 }) :
    wpAny (model prog w) A (compareOp .In (.int k t) (.ref d)) Q E s := dN_in N hp hd lo (by rw [decide_eq_true hk]; exact h)
theorem dN_item {b k : Int} {u : Tok} {value slice : PySem.Expr} {Q : Value → Shared → Prop} (N : News h₀ L s.heap news) (hp : (d, o) ∈ news) (hd : o.IsDictOf (intKind prog w) kvs) (hall : PowVals b kvs) (hin : k ∈ kvs.map (·.1))
    (h : ∀ t, Q (.int (b ^ k.toNat) t) { s with toks := s.toks + 1 })
    (hs : subscripted slice false (.ref d) (.int k u) = operate [.ref d, .int k u] (getItem (.ref d) (.int k u)) := by with_unfolding_all rfl) (hg : ∀ r, letTemporaryGo value (.ref d) r = pure () := by intro _; with_unfolding_all rfl) :
    wpAny (model prog w) A (subscriptTail value slice (.ref d) (.int k u)) Q E s := by
  obtain ⟨q, hq, e, hv⟩ := valueAt_of_mem hin
  obtain ⟨t, ht⟩ := hall q hq
  subst e
  exact kda_item N hp hd (intKind_is _ _ _ _) (hv.trans (congrArg some ht)) (h t) hs hg
theorem sN_sorted1 {a : Addr} {l : List Int} {B : Bool} {Q : Value → Shared → Prop} (hh : A.handled = none) (F : Fr h₀ L s.heap m) (N : News h₀ L s.heap news) (hm : (a, o) ∈ news) (hB : B = byText w) (hS : SetI B o l) (hroom : l.length < 64) (hne : l ≠ [])
    (h : ∀ h' r k0 t0 vs ns e d tk, Fr h₀ L h' m → News h₀ L h' ((r, seqObj "list" (.int k0 t0 :: vs).toArray e) :: news) → (∀ p ∈ news, p.1 < r) → IntsAre vs ns → (k0 :: ns).Perm l → (k0 :: ns).Pairwise (· ≤ ·) → Q (.ref r) { s with heap := h', drawn := d, toks := tk }) :
    wpAny (model prog w) A (call (.builtin "sorted") [.ref a]) Q E s := by
  refine sN_sorted hh F N hm hB hS hroom fun h' r vs ns e d tk F' N' hl hi hp hs => ?_
  cases hi with
  | nil => exact absurd hp.symm.eq_nil hne
  | cons k0 t0 hi => exact h h' r k0 t0 _ _ e d tk F' N' hl hi hp hs
theorem shr1 {a : Int} {t u : Tok} {Q : Value → Shared → Prop} (h : Q (.int (a / 2) s.toks) { s with toks := s.toks + 1 }) : wpAny (model prog w) A (binaryOp .RShift (.int a t) (.int 1 u)) Q E s := by
  refine rshift_int (by decide) ?_
  have e : a.fdiv (2 ^ (1 : Int).toNat) = a / 2 := by
    have e2 : ((2 : Int) ^ (1 : Int).toNat) = 2 := by decide
    rw [e2, Int.fdiv_eq_ediv_of_nonneg _ (by decide)]
  rw [e]; exact h
theorem and1 {a : Int} {t u : Tok} {Q : Value → Shared → Prop} (h : Q (.int (a % 2) s.toks) { s with toks := s.toks + 1 }) : wpAny (model prog w) A (binaryOp .BitAnd (.int a t) (.int 1 u)) Q E s := by
  refine and_int ?_
  rw [bitAnd_m1]; exact h
end
end Mine
end

section
set_option Elab.async false
namespace Mine
example : (1 : Nat) = 1 := by
  k_with_none
  w_top off
  walk1
theorem mid_int (L R : Nat) : ((L : Int) + R) / 2 = (((L + R) / 2 : Nat) : Int) := by omega
theorem mid_lo {L R : Nat} (h : L < R) (h2 : R ≠ L + 1) : L < (L + R) / 2 := by omega
theorem mid_lo' {L R : Nat} (h : L < R) : L ≤ (L + R) / 2 := by omega
theorem mid_hi {L R : Nat} (h : L < R) : (L + R) / 2 < R := by omega
theorem mid_hi' {L R : Nat} (h : L < R) : (L + R) / 2 ≤ R := Nat.le_of_lt (mid_hi h)
theorem mid_le {L R k : Nat} (h : L < R) (h2 : R ≤ k) : (L + R) / 2 ≤ k := Nat.le_trans (mid_hi' h) h2
theorem sub_le' {R k : Nat} (m : Nat) (h : R ≤ k) : R - m ≤ k := Nat.le_trans (Nat.sub_le _ _) h
theorem half_hi {L R d : Nat} (h : L < R) (h2 : R ≠ L + 1) (h3 : 2 * (R - L) ≤ 2 ^ (d + 1)) : 2 * (R - (L + R) / 2) ≤ 2 ^ d := by
  rcases d with _ | d
  · rw [Nat.pow_succ, Nat.pow_zero] at h3; omega
  · rw [Nat.pow_succ, Nat.pow_succ] at h3; rw [Nat.pow_succ]; omega
theorem half_lo {L R d : Nat} (h : L < R) (h3 : 2 * (R - (L + R) / 2) ≤ 2 ^ d) : 2 * ((L + R) / 2 - L) ≤ 2 ^ d := by omega
theorem mid_sum {L R : Nat} (h : L < R) : R - L = (R - (L + R) / 2) + ((L + R) / 2 - L) := by omega
theorem cut_len {L R k : Nat} (h : L < R) (h2 : R ≤ k) : min L k + ((L + R) / 2 - L) + (k - (L + R) / 2) = k := by omega
theorem midS_int (a b : Nat) : ((a : Int) + b + 1) / 2 = (((a + b + 1) / 2 : Nat) : Int) := by omega
theorem halfS_hi {a b d : Nat} (h3 : 2 * (b - a) ≤ 2 ^ (d + 1)) : 2 * (b - (a + b + 1) / 2) ≤ 2 ^ d := by
  rw [Nat.pow_succ] at h3; omega
theorem halfS_lo {a b d : Nat} (h : ¬ ((b : Int) - a ≤ 2048)) (h3 : 2 * (b - a) ≤ 2 ^ (d + 1)) : 2 * ((a + b + 1) / 2 - a) ≤ 2 ^ d := by
  rcases d with _ | d
  · rw [Nat.pow_succ, Nat.pow_zero] at h3; omega
  · rw [Nat.pow_succ, Nat.pow_succ] at h3; rw [Nat.pow_succ]; omega
theorem bigS {a b : Nat} (h : ¬ ((b : Int) - a ≤ 2048)) : (2048 : Int) < ((b - a : Nat) : Int) := by omega
theorem subS (a b : Nat) : ((b - (a + b + 1) / 2 : Nat) : Int) = ((b - a : Nat) : Int) / 2 := by omega
theorem subS0 {a b : Nat} (h : ((b - a : Nat) : Int) % 2 = 0) : (((a + b + 1) / 2 - a : Nat) : Int) = ((b - a : Nat) : Int) / 2 := by omega
theorem subS1 {a b : Nat} (h : ((b - a : Nat) : Int) % 2 = 1) : (((a + b + 1) / 2 - a : Nat) : Int) = ((b - a : Nat) : Int) / 2 + 1 := by omega
theorem loS {a b : Nat} (h : ¬ ((b : Int) - a ≤ 2048)) : a < (a + b + 1) / 2 := by omega
theorem hiS {a b : Nat} (h : ¬ ((b : Int) - a ≤ 2048)) : (a + b + 1) / 2 < b := by omega
theorem diffS {a b : Nat} (h : ¬ ((b : Int) - a ≤ 2048)) : (b : Int) - ((a : Int) + b + 1) / 2 = ((b - (a + b + 1) / 2 : Nat) : Int) := by omega
theorem boundS {a b k : Nat} (h : b ≤ k) (m : Nat) (hk : k ≤ 5000) (hm : m ≤ b) : 4 * (m - a) ≤ 20000 := by omega
theorem boundS' {b k : Nat} (h : b ≤ k) (m : Nat) (hk : k ≤ 5000) : 3 * (b - m) + 1 ≤ 20001 := by omega
theorem fm_lo (n : Int) {k : Int} (h : 0 < k) : 0 ≤ n.fmod k := by rw [Int.fmod_eq_emod_of_nonneg _ (Int.le_of_lt h)]; exact Int.emod_nonneg _ (by omega)
theorem one_nat {m : Int} (h : 0 ≤ m) : 1 + m = (((1 + m).toNat : Nat) : Int) := by omega
theorem nn_lo {m : Int} {k : Nat} (h : 1 + m = k) (h0 : 0 ≤ m) : 1 ≤ k := by omega
theorem nn_hi {m : Int} {k : Nat} (h : 1 + m = k) (h1 : m < 30) : k ≤ 30 := by omega
theorem bn_hi {b k c : Nat} (h : b ≤ 120) (hk : k ≤ 30) (hc : 149 ≤ c) : b + k - 1 ≤ c := by omega
theorem ln_hi {k : Nat} (m : Int) (h : k ≤ 4788) : (k : Int) + m % 5000 ≤ 10000 := by omega
theorem two_lo {m : Int} (h : 0 ≤ m) : 0 ≤ 2 + m := by omega
theorem two_hi {m : Int} (h : m < 9) : 2 + m < 2 ^ 4 := by omega
theorem lim_lo {m : Int} (h : 0 ≤ m) : 2 ≤ 20 + 2 * m := by omega
theorem lim_even (m : Int) : (20 + 2 * m) % 2 = 0 := by omega
theorem room_a {xl s1 k L1 m p i : Nat} (h1 : xl ≤ 1197 * i) (hi : i < 4) (ha : xl + s1 ≤ L1 ∧ L1 ≤ xl + s1) (hs : s1 = k) (hk : k ≤ 1) (hm : m = p) (hp : p ≤ 299 * 4) : L1 + m ≤ 16777216 := by omega
theorem step_len {xl s1 k L1 L2 m p i : Nat} (h1 : xl ≤ 1197 * i) (ha : xl + s1 ≤ L1 ∧ L1 ≤ xl + s1) (hs : s1 = k) (hk : k ≤ 1) (hm : m = p) (hp : p ≤ 299 * 4) (hb : L1 + m ≤ L2 ∧ L2 ≤ L1 + m) : L2 ≤ 1197 * (i + 1) := by omega
theorem rise_take {l : List Int} {i : Nat} (hil : i < l.length) (hrise : l.Pairwise (· < ·)) : (∀ x ∈ l, x < l[i] → x ∈ l.take i) ∧ l[i] ∉ l.take i := by
  refine ⟨fun x hx hlt => ?_, fun hm => ?_⟩
  · obtain ⟨j, hj, e⟩ := List.getElem_of_mem hx
    refine List.mem_take_iff_getElem.mpr ⟨j, ?_, e⟩
    have hji : j < i := by
      rcases Nat.lt_trichotomy j i with q | q | q
      · exact q
      · subst q; rw [e] at hlt; exact absurd hlt (Int.lt_irrefl _)
      · have := List.pairwise_iff_getElem.mp hrise i j hil hj q
        rw [e] at this; exact absurd (Int.lt_trans hlt this) (Int.lt_irrefl _)
    exact Nat.lt_min.mpr ⟨hji, hj⟩
  · obtain ⟨j, hj, e⟩ := List.mem_take_iff_getElem.mp hm
    have hji := (Nat.lt_min.mp hj).1
    have := List.pairwise_iff_getElem.mp hrise j i (Nat.lt_trans hji hil) hil hji
    rw [e] at this; exact absurd this (Int.lt_irrefl _)
theorem one_less (k : Int) : k - 1 < k := by omega
theorem half_lt1 {k : Int} (h : 1 ≤ k) : k / 2 < k := by omega
theorem exp_a {k n : Int} (h1 : n ≤ 10000) (h2 : 2 * k ≤ n) : 4 * (k - 1).toNat + 1 ≤ 50000 := by omega
theorem exp_b {k n : Int} (h0 : 1 ≤ k) (h1 : n ≤ 10000) (h2 : 2 * k ≤ n) : 4 * (k / 2).toNat + 1 ≤ 50000 := by omega
end Mine
end

section
open PySem PySem.W PyProof.Rows
set_option Elab.async false
set_option maxRecDepth 100000
namespace Mine
example : (1 : Nat) = 1 := by
  k_with_none
  k_with "o1" => k_here; k_dflt (refine' sN_new (by k_asm) (by k_asm) ?_)
  k_with "o2" => k_here; k_dflt (refine' sN_disp (by k_asm) (by k_asm) (by k_asm) (by first | k_is | kernel_rfl!) (by rfl) ?_)
  k_with "o3" => k_here; k_dflt (refine' sN_setAdd (by k_asm) (by k_asm) (by k_updF) (by k_asm) (by walk_at "sn room") ?_)
  k_with "o4" => k_here; k_dflt (refine' sN_add (by k_asm) (by k_asm) (by k_updF) (by k_asm) (by walk_at "sn room") ?_)
  k_with "o5" => k_here; k_dflt (refine' sN_pop (by k_asm) (by k_asm) (by k_updF) (by exact rfl) (by k_asm) (by walk_at "sn room") (by exact ne_of_isEmpty (by assumption)) ?_)
  k_with "o6" => k_here; (with_reducible show wpAny _ _ (getMethod (Value.ref _) (Str.ofString "pop") _) _ _ _); k_dflt (refine' sN_methodPop (by k_asm) (by k_mem) (by k_asm) ?_)
  k_with "o7" => k_here; (with_reducible show wpAny _ _ (getMethod (Value.ref _) (Str.ofString "add") _) _ _ _); k_dflt (refine' sN_methodAdd (by k_asm) (by k_mem) (by k_asm) ?_)
  k_with "o8" => k_here; k_dflt (refine' sN_truthy (by k_asm) (by k_mem) (by k_asm) (by walk_at "sn room") ?_)
  k_with "o9" => k_here; k_dflt (refine' sN_in (by k_asm) (by k_mem) (by k_asm) (by walk_at "sn room") ?_)
  k_with "o10" => k_here; k_dflt (refine' sN_sorted1 (by exact rfl) (by k_asm) (by k_asm) (by k_mem) (by exact rfl) (by k_asm) (by omega) (by exact ne_of_isEmpty (by assumption)) ?_)
  k_with "o11" => k_here; k_dflt (refine' sN_iterL (by k_asm) (by k_asm) (by k_mem) (by exact ⟨rfl, rfl⟩) ?_)
  k_with "o12" => k_here; k_dflt (refine' sN_nextL (by k_asm) (by k_asm) (by k_updF) (by k_asm) (by k_mem) (by exact ⟨rfl, rfl⟩) (by exact rfl) ?_)
  k_with "o13" => k_here; k_dflt (refine' sN_selfL (by k_asm) (by k_mem) (by k_asm) ?_)
  k_with "o14" => k_here; k_dflt (refine' dN_in (by k_asm) (by k_mem) (by k_asm) (by k_asm) ?_)
  k_with "o15" => k_here; k_dflt (refine' dN_inT (by k_asm) (by k_mem) (by k_asm) (by k_asm) (by exact Or.resolve_left (by assumption) (by assumption)) ?_)
  k_with "o16" => k_here; (with_reducible show wpAny _ _ (subscriptTail _ _ (Value.ref _) (Value.int _ _)) _ _ _); k_dflt (refine' dN_item (by k_asm) (by k_mem) (by k_asm) (by k_asm) (by walk_at "sn dkey") ?_)
  k_with "o17" => k_here; k_dflt (refine' dN_set (by k_asm) (by k_asm) (by k_updF) (by k_asm) (by walk_at "sn dnew") (by first | assumption | decide) ?_)
  w_top off
  walk1
theorem SetI.nodup {B : Bool} {o : Obj} {l : List Int} (h : SetI B o l) : l.Nodup := let ⟨_, _, _, _, _, _, _, hn, _⟩ := h; hn
theorem ne_of_isEmpty {l : List Int} (h : l.isEmpty = false) : l ≠ [] := fun e => by rw [e] at h; cases h
theorem addLen {k : Int} {l l' : List Int} (h : l'.Perm (if k ∈ l then l else k :: l)) : l'.length ≤ l.length + 1 := by
  have e := h.length_eq
  split at e
  · omega
  · rw [List.length_cons] at e; omega
theorem popLen {k : Int} {l l' : List Int} (h : l.Perm (k :: l')) : l.length = l'.length + 1 := by
  have e := h.length_eq
  rwa [List.length_cons] at e
theorem add_mem {k : Int} {l l' : List Int} (h : l'.Perm (if k ∈ l then l else k :: l)) (x : Int) : x ∈ l' ↔ x = k ∨ x ∈ l := by
  rw [h.mem_iff]
  split
  · rename_i hk
    exact ⟨.inr, fun q => q.elim (fun e => e ▸ hk) id⟩
  · rw [List.mem_cons]
theorem add_wgts {k : Int} {l l' : List Int} (h : l'.Perm (if k ∈ l then l else k :: l)) : wgts l' ≤ wgt k + wgts l := by
  rw [wgts_perm h]
  split
  · omega
  · rw [wgts_cons]; exact Nat.le_refl _
theorem st_skip {n M k : Int} {S N : Int → Prop} {lW l' : List Int} (st : NSt n M S N (· ∈ lW)) (hp : lW.Perm (k :: l')) (hk : S k ∨ k ≤ M) : NSt n M S N (· ∈ l') ∧ wgts l' < wgts lW := by
  refine ⟨st.skip (v := k) (fun x => by rw [hp.mem_iff, List.mem_cons]) hk, ?_⟩
  rw [wgts_perm hp, wgts_cons]
  have := wgt_pos k
  omega
theorem st_take1 {n M k : Int} {lS lN lW lS' lN' l4 l1 l0 : List Int} (hM2 : 2 ≤ M) (st : NSt n M (· ∈ lS) (· ∈ lN) (· ∈ lW)) (hp : lW.Perm (k :: l4)) (hk : ¬ k ≤ M)
    (hpS : lS'.Perm (if k ∈ lS then lS else k :: lS)) (hpN : lN'.Perm (if k / 2 ∈ lN then lN else k / 2 :: lN)) (hp1 : l1.Perm (if k / 2 ∈ l4 then l4 else k / 2 :: l4))
    (ho : k % 2 ≠ 0) (hp0 : l0.Perm (if k / 2 + 1 ∈ l1 then l1 else (k / 2 + 1) :: l1)) : NSt n M (· ∈ lS') (· ∈ lN') (· ∈ l0) ∧ wgts l0 < wgts lW := by
  refine ⟨st.take (v := k) (todo' := (· ∈ l4)) (fun x => by rw [hp.mem_iff, List.mem_cons]) (by omega) (add_mem hpS) (add_mem hpN) (fun x => ?_), ?_⟩
  · rw [add_mem hp0, add_mem hp1]
    constructor
    · rintro (rfl | rfl | q)
      · exact .inr (.inl ⟨by omega, rfl⟩)
      · exact .inl rfl
      · exact .inr (.inr q)
    · rintro (rfl | ⟨_, rfl⟩ | q)
      · exact .inr (.inl rfl)
      · exact .inl rfl
      · exact .inr (.inr q)
  · have a := add_wgts hp0
    have b := add_wgts hp1
    have c := wgt_halves' (v := k) (by omega) (by omega)
    rw [wgts_perm hp, wgts_cons]
    omega
theorem st_take0 {n M k : Int} {lS lN lW lS' lN' l4 l1 : List Int} (hM2 : 2 ≤ M) (st : NSt n M (· ∈ lS) (· ∈ lN) (· ∈ lW)) (hp : lW.Perm (k :: l4)) (hk : ¬ k ≤ M)
    (hpS : lS'.Perm (if k ∈ lS then lS else k :: lS)) (hpN : lN'.Perm (if k / 2 ∈ lN then lN else k / 2 :: lN)) (hp1 : l1.Perm (if k / 2 ∈ l4 then l4 else k / 2 :: l4))
    (ho : k % 2 = 0) : NSt n M (· ∈ lS') (· ∈ lN') (· ∈ l1) ∧ wgts l1 < wgts lW := by
  refine ⟨st.take (v := k) (todo' := (· ∈ l4)) (fun x => by rw [hp.mem_iff, List.mem_cons]) (by omega) (add_mem hpS) (add_mem hpN) (fun x => ?_), ?_⟩
  · rw [add_mem hp1]
    constructor
    · rintro (rfl | q)
      · exact .inl rfl
      · exact .inr (.inr q)
    · rintro (rfl | ⟨o, rfl⟩ | q)
      · exact .inl rfl
      · exact absurd o (by omega)
      · exact .inr q
  · have b := add_wgts hp1
    have c := wgt_half (v := k) (by omega)
    rw [wgts_perm hp, wgts_cons]
    omega
theorem pow_a (b : Int) {k : Int} (h : 1 ≤ k) : b ^ (k - 1).toNat * b = b ^ k.toNat := by
  rw [← Int.pow_succ]
  congr 1; omega
theorem pow_b (b : Int) {k : Int} (h : 1 ≤ k) (e : k - k / 2 = k / 2 + 1) : b ^ (k / 2).toNat * b ^ (k / 2).toNat * b = b ^ k.toNat := by
  rw [← Int.pow_add, ← Int.pow_succ]
  congr 1; omega
theorem pow_c (b : Int) {k : Int} (h : 1 ≤ k) (e : k - k / 2 = k / 2) : b ^ (k / 2).toNat * b ^ (k / 2).toNat = b ^ k.toNat := by
  rw [← Int.pow_add]
  congr 1; omega
theorem contains_tail {y a : Str} {l : List Str} (h : (a :: l).contains y = false) : l.contains y = false := by
  rw [List.contains_cons] at h
  exact (Bool.or_eq_false_iff.mp h).2
theorem not_in4 {y a b c d : Str} (h : [a, b, c, d].contains y = false) : y ≠ a ∧ y ≠ b ∧ y ≠ c ∧ y ≠ d := by
  simp only [List.contains_cons] at h
  simp at h
  exact ⟨h.1, h.2.1, h.2.2.1, h.2.2.2⟩
theorem not_in2 {y a b : Str} (h : [a, b].contains y = false) : y ≠ a ∧ y ≠ b := by
  rw [List.contains_cons, List.contains_cons] at h
  simp at h
  exact ⟨h.1, h.2⟩
local macro_rules | `(tactic| walk_at "sn room") => `(tactic| ((try show _ < 4096); (try simp only [List.length_cons, List.length_nil]); first | decide | omega))
local macro_rules | `(tactic| walk_at "call type:set nil nil") => `(tactic| (k_extra "o1"; intro d' h' F' N' l1 hs'; (try k_lt l1)))
local macro_rules | `(tactic| walk_at "eval Set") => `(tactic| (k_extra "o2"; intro d' h' F' N' l1 hs'; (try k_lt l1)))
local macro_rules | `(tactic| walk_at "setAdd int") => `(tactic| (k_extra "o3"; intro h' o' ll' b' F' N' hs' hp'; (have hl' := addLen hp'); (try dsimp only at N')))
local macro_rules | `(tactic| walk_at "call builtin:set.add") => `(tactic| (k_extra "o4"; intro h' o' ll' F' N' hs' hp'; (have hl' := addLen hp'); (try dsimp only at N')))
local macro_rules | `(tactic| walk_at "call builtin:set.pop") => `(tactic| (k_extra "o5"; intro h' o' k' tk' ll' d' F' N' hs' hp'; (have hl' := popLen hp'); (try dsimp only at N')))
local macro_rules | `(tactic| walk_at "getMethod ref") => `(tactic| k_extra "o6")
local macro_rules | `(tactic| walk_at "getMethod ref") => `(tactic| k_extra "o7")
local macro_rules | `(tactic| walk_at "truthy ref") => `(tactic| (k_extra "o8"; intro tk'))
local macro_rules | `(tactic| walk_at "compareOp In int ref") => `(tactic| k_extra "o9")
local macro_rules | `(tactic| walk_at "binaryOp RShift int int") => `(tactic| refine shr1 ?_)
local macro_rules | `(tactic| walk_at "binaryOp BitAnd int int") => `(tactic| refine and1 ?_)
local macro_rules | `(tactic| walk_at "call builtin:sorted") => `(tactic| (k_extra "o10"; intro h' r' k' t' vs' ns' e' d' tk' F' N' l1 hi' hp' hs'; (try k_lt l1)))
local macro_rules | `(tactic| walk_at "call builtin:iter") => `(tactic| (k_extra "o11"; intro I' h' io' F' N' l1 hi'; (try k_lt l1)))
local macro_rules | `(tactic| walk_at "call builtin:next") => `(tactic| (k_extra "o12"; intro h' io' F' N' hi'; (try dsimp only at N')))
local macro_rules | `(tactic| walk_at "sn dnew") => `(tactic| first | assumption | (simp; done))
local macro_rules | `(tactic| walk_at "sn dkey") => `(tactic| first | assumption | exact Or.resolve_left (by assumption) (by assumption))
local macro_rules | `(tactic| walk_at "pyIter ref") => `(tactic| k_extra "o13")
local macro_rules | `(tactic| walk_at "compareOp In int ref") => `(tactic| k_extra "o14")
local macro_rules | `(tactic| walk_at "compareOp In int ref") => `(tactic| k_extra "o15")
local macro_rules | `(tactic| walk_at "subscriptTail") => `(tactic| (k_extra "o16"; intro t'; (try dsimp only)))
local macro_rules | `(tactic| walk_at "setItem ref int") => `(tactic| (k_extra "o17"; intro h' o' F' N' hd'; (try dsimp only at N')))
local macro_rules | `(tactic| walk_at $s:str) => if ["binaryOp Pow int int", "exec For Name Name cons nil", "exec While Name cons nil"].contains s.getString then `(tactic| refine Hold.out ?_) else Lean.Macro.throwUnsupported

local macro_rules | `(tactic| bits_by_make) => `(tactic| with_reducible assumption)
set_option maxHeartbeats 4000000 in
set_option pp.deepTerms false in
set_option pp.deepTerms.threshold 5 in
theorem powers_does {prog : Program} {w : World} {p : Program} {loose : List Str} {mean : ExcName → Option Value} {mg mb : Str → Option Value} (n b M : Int) (tn tb tM : Tok) (hn : 0 ≤ n) (hn2 : n ≤ 10000) (hb : Builtin.Int.intBits b ≤ 4) (hM : 2 ≤ M) (hev : M % 2 = 0) :
    Does prog w p loose mean mg mb 2 20 22 [.int n tn, .int b tb, .int M tM] (fun _ => True)
      (fun news news' r => ∃ d o kvs, r = .ref d ∧ news' = (d, o) :: news ∧ (∀ q ∈ news, q.1 < d) ∧ o.IsDictOf (intKind prog w) kvs ∧ (kvs.map (·.1)).Pairwise (· < ·) ∧ (∀ k, k ∈ kvs.map (·.1) ↔ Need n M k) ∧ PowVals b kvs) := by
  unfold Does
  intro dp u gd cn cs a ccd cl outer A₀ base h₀ L m news s Q B F X N T hk hd hu hpre hret
  refine wpAny_call ?_
  k_dflt (refine' code_def ?k1 ?k2 ?k3 ?k4 ?k5 ?kA ?kF ?kK ?k6 ?k7 ?k8 ?k9 ?kB ?_ ?c2 ?c3 ?c4 ?c5; (case kA => exact rfl); (case kF => exact rfl); (case kK => assumption); (case k1 => k_asm); (case k2 => k_asm); (case k3 => k_asm); (case k4 => k_asm); (case k5 => k_asm); (case k6 => k_is); (case k7 => k_is); (case k8 => ktr_room); (case k9 => exact binds_K (by k_in) rfl (by k_is) rfl rfl rfl); (case c5 => decide); (case kB => exact locs rfl); (case c2 => exact rfl); (case c3 => exact rfl); (case c4 => exact rfl); k_whole; intro g' L' h' FG' F' N' B' X' T'; (try dsimp only))
  refine wpAny_mono (E := fun _ _ => False) ?_ (fun _ _ h => h) (fun _ _ h => h.elim)
  try k_fold
  k_steps
  rename_i dS _ lS sS _ dN _ sN lN _ dW _ sW lW _ oW lw _ hW pW _ hh0 F0 N0
  unfold Hold
  have h14 : n < 2 ^ 14 := by omega
  refine while_fr [Str.ofString "w", Str.ofString "lo"] (fun k nx => ∃ oS oN oW lS lN lW, nx = (dW, oW) :: (dN, oN) :: (dS, oS) :: news ∧ SetI (byText w) oS lS ∧ SetI (byText w) oN lN ∧ SetI (byText w) oW lW ∧ NSt n M (· ∈ lS) (· ∈ lN) (· ∈ lW) ∧ k = wgts lW) F0 N0
    ⟨_, _, _, [], [], lw, rfl, sS, sN, hW, (NSt.init n M).congr (fun _ => by simp) (fun _ => by simp) (fun x => by rw [pW.mem_iff]; simp), rfl⟩ ?_
  rintro k u h tk dr nx ⟨oS, oN, oW, lS, lN, lW, rfl, hS, hN, hW, st, rfl⟩ F1 N1
  have b1 := st.seen_len hn h14 hM hS.nodup
  have b2 := st.need_len hn h14 hM hN.nodup
  have b3 := st.todo_len hn h14 hM hW.nodup
  k_steps
  · rename_i dD _ oD loD _ _ hD fi lD _ _ _ _ neN _ kN _ _
    have hW0 : lW = [] := List.isEmpty_iff.mp (by assumption)
    have hN0 : lN = [] := List.isEmpty_iff.mp neN
    have fin := st.done (fun x => by rw [hW0]; exact List.not_mem_nil)
    refine hret _ ((dD, oD) :: news) _ _ _ (by assumption) (fun p hp => kN p (by
      rcases List.mem_cons.mp hp with rfl | hp
      · exact .head _
      · exact .tail _ (.tail _ (.tail _ (.tail _ hp))))) ⟨dD, oD, [], rfl, rfl, ktn_ltOf lD.2.2.2, hD, .nil, fun k => ?_, fun q hq => absurd hq List.not_mem_nil⟩
    rw [← fin k, hN0]
    simp
  · first
      | (rename_i dD _ oD loD _ _ hD fi lD _ _ neN _ rL k0 t0 vs ns eL dr2 _ hI hP hSrt lR itI _ _ _ lI _ _ _ io1 hio _ F2 N2
         have hchk := hP.mem_iff (a := (0 : Int))
         clear hchk)
      | (rename_i dD _ oD loD _ _ hD fi lD _ _ neN _ rL k0 t0 vs ns eL dr2 _ hI hP hSrt lR itI _ _ _ lI _ _ io1 hio _ F2 N2
         have hchk := hP.mem_iff (a := (0 : Int))
         clear hchk)
    have hW0 : lW = [] := List.isEmpty_iff.mp (by assumption)
    have fin := st.done (fun x => by rw [hW0]; exact List.not_mem_nil)
    have hmem : ∀ k, k ∈ k0 :: ns ↔ Need n M k := fun k => (hP.mem_iff).trans (fin k)
    have hrise : (k0 :: ns).Pairwise (· < ·) := rising_of hSrt (hP.nodup_iff.mpr hN.nodup)
    have hk0 : Need n M k0 := (hmem k0).mp (.head _)
    have p0 := hk0.pos hM
    have p1 := hk0.le hn hM
    unfold Hold
    refine pow_int (by omega) (by
      have := Int.mul_le_mul (show (Builtin.Int.intBits b : Int) ≤ 4 by omega) (show k0 ≤ 5000 by omega) (by omega) (by omega)
      omega) ?_
    k_steps
    rename_i _ oD1 F3 N3 hD1
    unfold Hold
    rw [List.nil_append] at hD1
    have hints : IntsAre (.int k0 t0 :: vs) (k0 :: ns) := .cons _ _ hI
    have hlen := hints.length
    have hnl : (k0 :: ns).length ≤ 28 := by rw [hP.length_eq]; exact b2
    refine for_any ?_
    k_steps
    refine forL_at (l := rL) (lo := seqObj "list" (Value.int k0 t0 :: vs).toArray eL) (vs := .int k0 t0 :: vs) [Str.ofString "lo", Str.ofString "hi", Str.ofString "sq"]
      (fun i nx => ∃ oD kvs, nx = (dD, oD) :: (rL, seqObj "list" (Value.int k0 t0 :: vs).toArray eL) :: news ∧ 1 ≤ i ∧ oD.IsDictOf (intKind prog w) kvs ∧ kvs.map (·.1) = (k0 :: ns).take i ∧ PowVals b kvs)
      rfl rfl rfl ⟨rfl, rfl⟩ (by simp) hio F3 (fun p hp => N3 p (by
        rcases List.mem_cons.mp hp with rfl | hp
        · exact .head _
        · rcases List.mem_cons.mp hp with rfl | hp
          · exact .tail _ (.tail _ (.head _))
          · rcases List.mem_cons.mp hp with rfl | hp
            · exact .tail _ (.head _)
            · exact .tail _ (.tail _ (.tail _ (.tail _ (.tail _ (.tail _ hp))))))) ⟨oD1, _, rfl, Nat.le_refl _, hD1, rfl, fun q hq => by
              rw [List.mem_singleton.mp hq]; exact ⟨_, rfl⟩⟩ ?_ ?_ ?_
    · rintro i nx ⟨oD, kvs, rfl, _⟩
      refine ⟨.tail _ (.head _), fun p hp => Nat.ne_of_lt ?_⟩
      rcases List.mem_cons.mp hp with rfl | hp
      · exact lI.2.1
      · rcases List.mem_cons.mp hp with rfl | hp
        · exact lI.1
        · exact ktn_ltOf lI.2.2.2.2.2 p hp
    · rintro i v u h tk dr nx io hv ⟨oD, kvs, rfl, hi1, hD, hkeys, hall⟩ hio F1 N1
      have hil : i < (k0 :: ns).length := by
        have := (List.getElem?_eq_some_iff.mp hv).1
        omega
      obtain ⟨t, ht⟩ := hints.get i (k0 :: ns)[i] (List.getElem?_eq_getElem hil)
      have hvk : v = .int (k0 :: ns)[i] t := by rw [hv] at ht; exact Option.some.inj ht
      have hmi : (k0 :: ns)[i] ∈ k0 :: ns := List.getElem_mem hil
      have hpre : ∀ x, Need n M x → x < (k0 :: ns)[i] → x ∈ kvs.map (·.1) := by
        intro x hx hlt
        rw [hkeys]
        exact (rise_take hil hrise).1 x ((hmem x).mpr hx) hlt
      have hfresh : (k0 :: ns)[i] ∉ kvs.map (·.1) := by
        rw [hkeys]
        exact (rise_take hil hrise).2
      have h0i : k0 < (k0 :: ns)[i] := by
        have := List.pairwise_iff_getElem.mp hrise 0 i (by simp) hil (by omega)
        simpa using this
      have hklen : kvs.length ≤ 1000 := by
        have : (kvs.map (·.1)).length ≤ 28 := by rw [hkeys, List.length_take]; exact Nat.le_trans (Nat.min_le_right _ _) (by assumption)
        simpa using Nat.le_trans this (by decide)
      have hsucc : (k0 :: ns).take (i + 1) = (k0 :: ns).take i ++ [(k0 :: ns)[i]] := by rw [List.take_add_one, List.getElem?_eq_getElem hil]; rfl
      subst hvk
      generalize (k0 :: ns)[i] = k at *
      have hk : Need n M k := (hmem k).mp hmi
      have q0 := hk.pos hM
      have q1 := hk.le hn hM
      have hstep : k - 1 ∈ kvs.map (·.1) ∨ k / 2 ∈ kvs.map (·.1) := (need_step hn hM hev hk hk0 h0i).imp (fun q => hpre _ q (one_less k)) fun q => hpre _ q (half_lt1 q0)
      have hb1 : Builtin.Int.intBits (b ^ (k - 1).toNat) ≤ 50000 := Nat.le_trans (intBits_pow_le hb _) (exp_a hn2 q1)
      have hb2 : Builtin.Int.intBits (b ^ (k / 2).toNat) ≤ 50000 := Nat.le_trans (intBits_pow_le hb _) (exp_b q0 hn2 q1)
      have hnext : ∀ x t, (kvs ++ [(k, Value.int x t)]).map (·.1) = (k0 :: ns).take (i + 1) := fun x t => by rw [List.map_append, hkeys, hsucc]; rfl
      k_steps
      · rename_i o9 F9 N9 d9
        refine ⟨_, _, _, _, _, rfl, F9, fun y hy => ?_, N9, .head _, (dD, o9) :: (rL, _) :: news, fun p hp => .tail _ hp, o9, _, rfl, by omega, d9, hnext _ _, hall.add ?_⟩
        · have hy2 := not_in4 hy
          simp only [hy2.1, hy2.2.1, hy2.2.2.1, hy2.2.2.2, contains_tail hy, if_false, Bool.false_eq_true]
        · exact pow_a b q0
      · rename_i _ hk2 _ _ _ _ o9 F9 N9 d9
        refine ⟨_, _, _, _, _, rfl, F9, fun y hy => ?_, N9, .head _, (dD, o9) :: (rL, _) :: news, fun p hp => .tail _ hp, o9, _, rfl, by omega, d9, hnext _ _, hall.add ?_⟩
        · have hy2 := not_in4 hy
          simp only [hy2.1, hy2.2.1, hy2.2.2.1, hy2.2.2.2, contains_tail hy, if_false, Bool.false_eq_true]
        · exact pow_b b q0 hk2
      · rename_i hk2 _ o9 F9 N9 d9
        refine ⟨_, _, _, _, _, rfl, F9, fun y hy => ?_, N9, .head _, (dD, o9) :: (rL, _) :: news, fun p hp => .tail _ hp, o9, _, rfl, by omega, d9, hnext _ _, hall.add ?_⟩
        · have hy2 := not_in4 hy
          simp only [hy2.1, hy2.2.1, hy2.2.2.1, hy2.2.2.2, contains_tail hy, if_false, Bool.false_eq_true]
        · exact pow_c b q0 hk2
    · rintro u h tk dr nx ⟨oD, kvs, rfl, hi1, hD, hkeys, hall⟩ F1 N1
      k_steps
      rename_i kF kN _ _
      have hkk : kvs.map (·.1) = k0 :: ns := by rw [hkeys, hlen, List.take_length]
      refine hret _ ((dD, oD) :: news) _ _ _ kF (fun p hp => kN p (by
        rcases List.mem_cons.mp hp with rfl | hp
        · exact .head _
        · exact .tail _ (.tail _ hp))) ⟨dD, oD, kvs, rfl, rfl, ktn_ltOf lD.2.2.2, hD, by rw [hkk]; exact hrise, fun k => by rw [hkk]; exact hmem k, hall⟩
  · rename_i o4 k tk4 l4 d4 s4 p4 q4 h4 F4 N4 ks
    obtain ⟨st', hw'⟩ := st_skip st p4 (.inl ks)
    refine ⟨_, _, _, _, _, rfl, F4, fun y hy => ?_, N4, _, hw', oS, oN, _, lS, lN, l4, rfl, hS, hN, s4, st', rfl⟩
    have hy2 := not_in2 hy
    simp only [hy2.1, hy, if_false, Bool.false_eq_true]
  · rename_i o4 k tk4 l4 d4 s4 p4 q4 h4 F4 N4 _ ks
    obtain ⟨st', hw'⟩ := st_skip st p4 (.inr ks)
    refine ⟨_, _, _, _, _, rfl, F4, fun y hy => ?_, N4, _, hw', oS, oN, _, lS, lN, l4, rfl, hS, hN, s4, st', rfl⟩
    have hy2 := not_in2 hy
    simp only [hy2.1, hy, if_false, Bool.false_eq_true]
  · rename_i o4 k tk4 l4 _ s4 p4 q4 _ _ nM _ _ o3 l3 s3 p3 q3 _ _ _ _ o2 l2 _ _ s2 p2 q2 _ o1 l1 _ _ s1 p1 q1 od _ o0 l0 F0' N0' s0 p0 q0
    obtain ⟨st', hw'⟩ := st_take1 hM st p4 nM p3 p2 p1 od p0
    refine ⟨_, _, _, _, _, rfl, F0', fun y hy => ?_, N0', _, hw', _, _, _, _, _, _, rfl, s3, s2, s0, st', rfl⟩
    have hy2 := not_in2 hy
    simp only [hy2.1, hy2.2, hy, if_false, Bool.false_eq_true]
  · rename_i o4 k tk4 l4 _ s4 p4 q4 _ _ nM _ _ o3 l3 s3 p3 q3 _ _ _ _ o2 l2 _ _ s2 p2 q2 _ o1 l1 F0' N0' s1 p1 q1 od
    obtain ⟨st', hw'⟩ := st_take0 hM st p4 nM p3 p2 p1 od
    refine ⟨_, _, _, _, _, rfl, F0', fun y hy => ?_, N0', _, hw', _, _, _, _, _, _, rfl, s3, s2, s1, st', rfl⟩
    have hy2 := not_in2 hy
    simp only [hy2.1, hy2.2, hy, if_false, Bool.false_eq_true]
end Mine
end

section
namespace Mine
example : (1 : Nat) = 1 := by
  k_with_none
  w_top off
  walk1
/-! ## digits, plain -/
noncomputable def dval (b : Int) : List Int → Int
  | [] => 0
  | d :: r => d + b * dval b r
theorem dval_append (b : Int) (xs ys : List Int) : dval b (xs ++ ys) = dval b xs + b ^ xs.length * dval b ys := by
  induction xs with
  | nil => simp [dval]
  | cons x r ih =>
    rw [List.cons_append, dval, ih, dval, List.length_cons, Int.pow_succ, Int.mul_add, Int.add_assoc]
    congr 2
    rw [← Int.mul_assoc, Int.mul_comm (b ^ r.length) b]
theorem dval_bound {b : Int} : ∀ {xs : List Int}, (∀ d ∈ xs, 0 ≤ d ∧ d < b) → 0 ≤ dval b xs ∧ dval b xs < b ^ xs.length
  | [], _ => ⟨Int.le_refl _, by simp [dval]⟩
  | x :: r, h => by
    obtain ⟨h0, h1⟩ := h x (.head _)
    obtain ⟨a, c⟩ := dval_bound fun d hd => h d (.tail _ hd)
    have hb : 0 ≤ b := by omega
    have m := Int.mul_nonneg hb a
    refine ⟨by show 0 ≤ x + b * dval b r; omega, ?_⟩
    show x + b * dval b r < b ^ (r.length + 1)
    have e : b * dval b r + b ≤ b ^ (r.length + 1) := by
      have : b * (dval b r + 1) ≤ b * b ^ r.length := Int.mul_le_mul_of_nonneg_left (by omega) hb
      rw [Int.mul_add, Int.mul_one] at this
      rw [Int.pow_succ, Int.mul_comm _ b]
      exact this
    omega
noncomputable def seg (ds : List Int) (L R : Nat) : List Int := (ds.drop L).take (R - L)
theorem seg_length {ds : List Int} {L R : Nat} (h : R ≤ ds.length) : (seg ds L R).length = R - L := by
  unfold seg; rw [List.length_take, List.length_drop]; omega
theorem seg_split {ds : List Int} {L m R : Nat} (h1 : L ≤ m) (h2 : m ≤ R) : seg ds L R = seg ds L m ++ seg ds m R := by
  unfold seg
  have e : R - L = (m - L) + (R - m) := by omega
  rw [e, List.take_add, List.drop_drop]
  congr 3; omega
theorem seg_one {ds : List Int} {L : Nat} (h : L < ds.length) : seg ds L (L + 1) = [ds[L]] := by
  unfold seg
  have e : L + 1 - L = 1 := by omega
  rw [e, List.drop_eq_getElem_cons h]; rfl
theorem seg_all (ds : List Int) : seg ds 0 ds.length = ds := by
  unfold seg; simp
theorem seg_mem {ds : List Int} {L R : Nat} {d : Int} (h : d ∈ seg ds L R) : d ∈ ds := List.mem_of_mem_drop (List.mem_of_mem_take h)
theorem pow_pow2 (n k : Nat) : ((2 : Int) ^ n) ^ k = 2 ^ (n * k) := by rw [Int.pow_mul]
open PySem in
theorem bits_of_lt {x : Int} {k : Nat} (h0 : 0 ≤ x) (h : x < 2 ^ k) : Builtin.Int.intBits x ≤ k := by
  refine intBits_le_iff.mpr ?_
  have : (x.natAbs : Int) < ((2 ^ k : Nat) : Int) := by
    rw [Int.natAbs_of_nonneg h0, Int.natCast_pow]; exact h
  exact_mod_cast this
end Mine
end

section
open PySem PySem.W PyProof.Rows
set_option Elab.async false
set_option maxRecDepth 100000
namespace Mine
example : (1 : Nat) = 1 := by
  k_with_none
  w_top off
  walk1
noncomputable def bodyOf (i : Nat) : List Stmt := match (PySem.Challenge.pw_wy0066_01.main.body)[i]? with
  | some (.FunctionDef _ _ b _ _ _ _ _ _ _) => b
  | _ => []
noncomputable def defIn (i j : Nat) : Stmt := (bodyOf i).getD j (.Pass ⟨0, 0, 0, 0⟩)
noncomputable def argsOf : Stmt → Arguments
  | .FunctionDef _ a _ _ _ _ _ _ _ _ => a
  | _ => ⟨[], [], none, [], [], none, []⟩
noncomputable def stmtsOf : Stmt → List Stmt
  | .FunctionDef _ _ b _ _ _ _ _ _ _ => b
  | _ => []
noncomputable def scopeOf : Stmt → Scope
  | .FunctionDef _ _ _ _ _ _ s _ _ _ => s
  | _ => default
section
variable {prog : Program} {w : World} {A : Around} {E : Value → Shared → Prop} {s : Shared} {h₀ : Heap} {L l : Addr} {m : Str → Option Value} {news : List (Addr × Obj)} {g : Obj → List (Addr × Obj)} {lo : Obj} {vs : List Value} {e : Nat}
theorem lN_item {k : Int} {u : Tok} {v : Value} {value slice : PySem.Expr} {Q : Value → Shared → Prop} (N : News h₀ L s.heap news) (hm : (l, lo) ∈ news) (hlo : lo.cls = .type "list" ∧ lo.data = .seq vs.toArray e) (h0 : 0 ≤ k) (hx : vs[k.toNat]? = some v) (hsz : k < 2 ^ 63) (h : Q v s)
    (hs : subscripted slice false (.ref l) (.int k u) = operate [.ref l, .int k u] (getItem (.ref l) (.int k u)) := by with_unfolding_all rfl) (hg : ∀ r, letTemporaryGo value (.ref l) r = pure () := by intro _; with_unfolding_all rfl) :
    wpAny (model prog w) A (subscriptTail value slice (.ref l) (.int k u)) Q E s :=
  have hl : s.heap.IsList l vs.toArray := ⟨lo, (N _ hm).1, hlo.1, e, hlo.2⟩
  subscriptTail_builtin hl.typeIs slot_list_getitem.lookup (wpAny_getItem_list hl h0 hsz (by simpa using hx) h) hs hg
end
end Mine
end

section
open PySem PySem.W PyProof.Rows
set_option Elab.async false
set_option maxRecDepth 100000
namespace Mine
example : (1 : Nat) = 1 := by
  k_with_none
  w_top off
  walk1
noncomputable def exArgs : { a : Arguments // a = argsOf (defIn 5 0) } := ⟨_, by conv => rhs; whnf⟩
noncomputable def exBody : { a : List Stmt // a = stmtsOf (defIn 5 0) } := ⟨_, by conv => rhs; whnf⟩
noncomputable def exScope : { a : Scope // a = scopeOf (defIn 5 0) } := ⟨_, by conv => rhs; whnf⟩
local macro_rules | `(tactic| k_call_by "use" $c:term) => `(tactic| (k_dflt (refine' Does.use $c ?k1 ?k2 ?k3 ?k4 ?k5 ?kK ?kd ?ku ?kp ?_; (case k1 => k_asm); (case k2 => k_asm); (case k3 => k_asm); (case k4 => k_asm); (case k5 => k_asm); (case kK => first | exact rfl | assumption))))
local macro_rules | `(tactic| walk_at "binaryOp RShift int int") => `(tactic| refine shr1 ?_)
local macro_rules | `(tactic| walk_at $s:str) => if ["subscriptTail", "call ref", "binaryOp LShift int int"].contains s.getString then `(tactic| refine Hold.out ?_) else Lean.Macro.throwUnsupported
local macro_rules | `(tactic| walk_at "eval Name") => `(tactic| (k_here; k_dflt (refine' nameX_F ?N ?c ?m ?d ?_ ?a ?b; (case a => rfl); (case b => rfl); (case N => k_asm); (case c => rfl); (case m => k_mem); (case d => k_asm); k_whole)))
local macro_rules | `(tactic| bits_by_make) => `(tactic| with_reducible assumption)
set_option maxHeartbeats 4000000 in
set_option pp.deepTerms false in
set_option pp.deepTerms.threshold 5 in
theorem d2i_inner {prog : Program} {w : World} {p : Program} {loose : List Str} {mean : ExcName → Option Value} {mg mb : Str → Option Value} (f cN cI cD l c' : Addr) (doc pm ctv : Value) (oc oN oI oD lo : Obj) (ocvs : Array Value) (tq tn : Tok) (vs : List Value) (e : Nat) (ds : List Int) (n : Nat)
    (hoc : oc.data = .fields ocvs) (hq : ocvs[1]? = some (.str (Str.ofString "_digits2int.<locals>.inner") tq)) (hN : oN.data = .cell (some (.int n tn))) (hI : oI.data = .cell (some (.ref f))) (hD : oD.data = .cell (some (.ref l)))
    (hlo : lo.cls = .type "list" ∧ lo.data = .seq vs.toArray e) (hints : IntsAre vs ds) (hdig : ∀ d ∈ ds, 0 ≤ d ∧ d < 2 ^ n) (hn1 : n ≤ 200) (hbn : n * ds.length ≤ 200) (hlen : ds.length ≤ 200) (d : Nat) : ∀ (L R : Nat) (tL tR : Tok), L < R → R ≤ ds.length → 2 * (R - L) ≤ 2 ^ d →
    Does prog w p loose mean mg mb (d + 1) (8 * (d + 1)) f [.int (L : Int) tL, .int (R : Int) tR]
      (fun news => (f, fnMade (Str.ofString "inner") (Str.ofString "_digits2int.<locals>.inner") exArgs.1 exBody.1 exScope.1 [(Str.ofString "n", cN), (Str.ofString "inner", cI), (Str.ofString "digits", cD)] doc pm c' ctv) ∈ news ∧
        (c', oc) ∈ news ∧ (cN, oN) ∈ news ∧ (cI, oI) ∈ news ∧ (cD, oD) ∈ news ∧ (l, lo) ∈ news)
      (fun news news' r => news' = news ∧ ∃ t, r = .int (dval (2 ^ n) (seg ds L R)) t) := by
  induction d with
  | zero => intro L R tL tR hLR hR hd2; exact absurd hd2 (by rw [Nat.pow_zero]; omega)
  | succ d IH =>
  intro L R tL tR hLR hR hd2
  unfold Does
  intro dp u gd cn cs a ccd cl outer A₀ base h₀ L₀ m news s Q B F X N T hk hdp hu hpre hret
  obtain ⟨mf, mc, mN, mI, mD, ml⟩ := hpre
  have C0 : CodeHd h₀ 49 45 := codeHd_of_K X (by kernel_rfl)
  refine wpAny_call ?_
  dsimp only [exArgs, exBody, exScope] at mf
  k_dflt (refine' code_nest ?k1 ?k2 ?k3 ?k4 ?k5 ?kA ?kF ?kK ?k6 ?k7 ?k8 ?k9 ?kB ?_ ?c2 ?c3 ?c4 ?c5; (case kA => exact rfl); (case kF => exact rfl); (case kK => assumption); (case k1 => k_asm); (case k2 => k_asm); (case k3 => k_asm); (case k4 => k_asm); (case k5 => k_asm); (case k6 => exact mf); (case k7 => exact codeRec_news N mc hoc hq); (case k8 => ktr_room); (case k9 => exact BindsTo.of_eq rfl); (case c5 => decide); (case kB => exact locs rfl); (case c2 => exact rfl); (case c3 => exact rfl); (case c4 => exact rfl); k_whole; intro g' L' h' FG' F' N' B' X' T'; (try dsimp only))
  refine wpAny_mono (E := fun _ _ => False) ?_ (fun _ _ h => h) (fun _ _ h => h.elim)
  try k_fold
  k_steps
  · unfold Hold
    have e1 : R = L + 1 := by omega
    subst e1
    have hL : L < ds.length := by omega
    obtain ⟨t, ht⟩ := hints.get L ds[L] (List.getElem?_eq_getElem hL)
    refine lN_item N' ml hlo (by omega) (by simpa using ht) (by omega) ?_
    dsimp only
    k_steps
    refine hret _ _ _ _ _ (by assumption) (by assumption) ⟨rfl, ktn_int ?_⟩
    rw [seg_one hL]
    simp [dval]
  · have hmid : ((L : Int) + R) / 2 = (((L + R) / 2 : Nat) : Int) := mid_int L R
    have hne : R ≠ L + 1 := by omega
    unfold Hold
    rw [hmid]
    have hp2 : 2 * (R - (L + R) / 2) ≤ 2 ^ d := half_hi hLR hne hd2
    have hp3 : 2 * ((L + R) / 2 - L) ≤ 2 ^ d := half_lo hLR hp2
    k_call_by "use" (IH ((L + R) / 2) R _ _ (mid_hi hLR) hR hp2)
    · show dp + 1 + _ < _; omega
    · show u + 3 + _ < _; omega
    · exact ⟨mf, mc, mN, mI, mD, ml⟩
    · intro r news' h' tk' dr' F9 N9 hp
      obtain ⟨rfl, t, rfl⟩ := hp
      dsimp only
      k_steps
      have b1 := dval_bound (b := (2:Int)^n) (xs := seg ds ((L + R) / 2) R) fun x hx => hdig x (seg_mem hx)
      have b2 := dval_bound (b := (2:Int)^n) (xs := seg ds L ((L + R) / 2)) fun x hx => hdig x (seg_mem hx)
      rw [pow_pow2, seg_length hR] at b1
      rw [pow_pow2, seg_length (mid_le hLR hR)] at b2
      have q1 : n * (R - (L + R) / 2) ≤ 200 := Nat.le_trans (Nat.mul_le_mul_left _ (sub_le' _ hR)) hbn
      have q2 : n * ((L + R) / 2 - L) ≤ 200 := Nat.le_trans (Nat.mul_le_mul_left _ (sub_le' _ (mid_le hLR hR))) hbn
      have c1 := Nat.le_trans (bits_of_lt b1.1 b1.2) q1
      have c2 := Nat.le_trans (bits_of_lt b2.1 b2.2) q2
      have esh : (((L : Int) + R) / 2 - L) * n = ((n * ((L + R) / 2 - L) : Nat) : Int) := by
        rw [hmid, Int.natCast_mul, Int.natCast_sub (mid_lo' hLR), Int.mul_comm]
      unfold Hold
      rw [esh]
      refine lshift_int (Int.natCast_nonneg _) (by omega) ?_
      rw [Int.toNat_natCast, ← pow_pow2]
      dsimp only
      k_steps
      unfold Hold
      rw [hmid]
      k_call_by "use" (IH L ((L + R) / 2) _ _ (mid_lo hLR hne) (mid_le hLR hR) hp3)
      · show dp + 1 + _ < _; omega
      · show u + 3 + _ < _; omega
      · exact ⟨mf, mc, mN, mI, mD, ml⟩
      · intro r news' h' tk' dr' F9 N9 hp
        obtain ⟨rfl, t, rfl⟩ := hp
        dsimp only
        k_steps
        refine hret _ _ _ _ _ (by assumption) (by assumption) ⟨rfl, ktn_int ?_⟩
        rw [seg_split (ds := ds) (L := L) (m := (L + R) / 2) (R := R) (mid_lo' hLR) (mid_hi' hLR), dval_append, seg_length (mid_le hLR hR), Int.add_comm, Int.mul_comm]
end Mine
end

section
open PySem PySem.W PyProof.Rows
set_option Elab.async false
set_option maxRecDepth 100000
namespace Mine
example : (1 : Nat) = 1 := by
  k_with_none
  w_top off
  walk1
section
variable {prog : Program} {w : World} {A : Around} {E : Value → Shared → Prop} {s : Shared} {h₀ : Heap} {L l : Addr} {m : Str → Option Value} {news : List (Addr × Obj)} {g : Obj → List (Addr × Obj)} {lo : Obj} {vs : List Value} {e : Nat}
theorem lN_truthy {Q : Bool → Shared → Prop} (N : News h₀ L s.heap news) (hm : (l, lo) ∈ news) (hlo : lo.cls = .type "list" ∧ lo.data = .seq vs.toArray e) (hz : vs.length ≤ 1048576) (h : ∀ tk, Q (!vs.isEmpty) { s with toks := tk }) :
    wpAny (model prog w) A (truthy (.ref l)) Q E s :=
  wpAny_truthy_list ⟨lo, (N _ hm).1, hlo.1, e, hlo.2⟩ (by simp; omega) (by
    have : vs.toArray.isEmpty = vs.isEmpty := by cases vs <;> rfl
    rw [this]; exact h _)
theorem lN_len {Q : Value → Shared → Prop} (N : News h₀ L s.heap news) (hm : (l, lo) ∈ news) (hlo : lo.cls = .type "list" ∧ lo.data = .seq vs.toArray e) (hz : vs.length ≤ 1048576) (h : ∀ t tk, Q (.int vs.length t) { s with toks := tk }) :
    wpAny (model prog w) A (call (.builtin "len") [.ref l]) Q E s :=
  PySem.Calls.call_len_list ⟨lo, (N _ hm).1, hlo.1, e, hlo.2⟩ (by simp; omega) (by
    simp only [List.size_toArray]
    exact h _ _)
end
theorem all_ne_lt {d a : Addr} {l : List (Addr × Obj)} (h : AllLt d l) (hd : @LE.le Nat _ d a) : ∀ p ∈ l, p.1 ≠ a := fun p hp => Nat.ne_of_lt (Nat.lt_of_lt_of_le (ktn_ltOf h p hp) hd)
end Mine
end

section
open PySem PySem.W PyProof.Rows
set_option Elab.async false
set_option maxRecDepth 100000
namespace Mine
example : (1 : Nat) = 1 := by
  k_with_none
  k_with "o18" => k_here; k_dflt (refine' lN_truthy (by k_asm) (by k_mem) (by assumption) (by omega) ?_)
  k_with "o19" => k_here; k_dflt (refine' lN_len (by k_asm) (by k_mem) (by assumption) (by omega) ?_)
  w_top off
  walk1
noncomputable def posOf : Stmt → Pos
  | .FunctionDef _ _ _ _ _ _ _ _ _ p => p
  | _ => ⟨0, 0, 0, 0⟩
def TabSt (qual : Str) (ln cl : Int) (ps : Array Value) (rest : List (Addr × Obj)) : Prop :=
  ps = #[] ∨ ∃ c' oc ocvs t, ps = #[rawInt ln, rawInt cl, .ref c'] ∧ (c', oc) ∈ rest ∧ oc.data = .fields ocvs ∧ ocvs[1]? = some (.str qual t)
noncomputable def exPos : { a : Pos // a = posOf (defIn 5 0) } := ⟨_, by conv => rhs; whnf⟩

local macro_rules | `(tactic| k_call_by "use" $c:term) => `(tactic| (k_dflt (refine' Does.use $c ?k1 ?k2 ?k3 ?k4 ?k5 ?kK ?kd ?ku ?kp ?_; (case k1 => k_asm); (case k2 => k_asm); (case k3 => k_asm); (case k4 => k_asm); (case k5 => k_asm); (case kK => first | exact rfl | assumption))))
local macro_rules | `(tactic| walk_at "call ref") => `(tactic| refine Hold.out ?_)
local macro_rules | `(tactic| walk_at "eval Name") => `(tactic| (k_here; k_dflt (refine' nameX_F ?N ?c ?m ?d ?_ ?a ?b; (case a => rfl); (case b => rfl); (case N => k_asm); (case c => rfl); (case m => k_mem); (case d => k_asm); k_whole)))
local macro_rules | `(tactic| k_all) => `(tactic| first | assumption | (refine' all_ne_lt ?h ?e; (case h => assumption); (case e => (try dsimp only); omega)))
local macro_rules | `(tactic| walk_at "truthy ref") => `(tactic| (k_extra "o18"; intro tk'))
local macro_rules | `(tactic| walk_at "call builtin:len") => `(tactic| (k_extra "o19"; intro t' tk'))
local macro_rules | `(tactic| k_mem) => `(tactic| assumption)
set_option maxHeartbeats 4000000 in
set_option pp.deepTerms false in
set_option pp.deepTerms.threshold 5 in
theorem d2i_does {prog : Program} {w : World} {p : Program} {loose : List Str} {mean : ExcName → Option Value} {mg mb : Str → Option Value} (l : Addr) (lo : Obj) (tn : Tok) (vs : List Value) (e : Nat) (ds : List Int) (n : Nat) (ps : Array Value) (rest : List (Addr × Obj))
    (hlo : lo.cls = .type "list" ∧ lo.data = .seq vs.toArray e) (hints : IntsAre vs ds) (hdig : ∀ d ∈ ds, 0 ≤ d ∧ d < 2 ^ n) (hn1 : n ≤ 200) (hbn : n * ds.length ≤ 200) (hlen : ds.length ≤ 200)
    (hl : (l, lo) ∈ rest) (h45 : ∀ q ∈ rest, q.1 ≠ 45) (hT : TabSt (Str.ofString "_digits2int.<locals>.inner") 74 4 ps rest) :
    Does prog w p loose mean mg mb 20 200 50 [.ref l, .int (n : Int) tn] (fun news => news = (45, tabObj ps) :: rest)
      (fun news news' r => (∃ t, r = .int (dval (2 ^ n) ds) t) ∧ ∃ ps' ext, news' = (45, tabObj ps') :: (ext ++ rest) ∧ TabSt (Str.ofString "_digits2int.<locals>.inner") 74 4 ps' (ext ++ rest) ∧ ∀ q ∈ ext, ∀ p ∈ news, p.1 < q.1) := by
  have hvl : vs.length = ds.length := hints.length
  unfold Does
  intro dp u gd cn cs a ccd cl outer A₀ base h₀ L₀ m news s Q B F X N T hk hdp hu hpre hret
  subst hpre
  refine wpAny_call ?_
  k_dflt (refine' code_defC ?k1 ?k2 ?k3 ?k4 ?k5 ?kA ?kF ?kK ?k6 ?k7 ?k8 ?k9 ?kB ?kD ?_ ?c2 ?c3 ?c4; (case kA => exact rfl); (case kF => exact rfl); (case kK => assumption); (case k1 => k_asm); (case k2 => k_asm); (case k3 => k_asm); (case k4 => k_asm); (case k5 => k_asm); (case k6 => k_is); (case k7 => k_is); (case k8 => ktr_room); (case k9 => exact BindsTo.of_eq rfl); (case kB => exact rfl); (case kD => decide +kernel); (case c2 => exact rfl); (case c3 => exact rfl); (case c4 => exact rfl); k_whole; intro g' L' h' tk' cells' FG' F' N' Y' B' X' T' l1; (try k_lt l1); k_cells Y'; (try simp only [List.cons_append, List.nil_append] at N'); (try dsimp only))
  refine wpAny_mono (E := fun _ _ => False) ?_ (fun _ _ h => h) (fun _ _ h => h.elim)
  have C1 : CodeHd g' 49 45 := codeHd_of_K X' (by kernel_rfl)
  try k_fold
  have hT0 := hT
  rcases hT with rfl | ⟨c', oc, ocvs, t, rfl, hc, hoc, hq⟩
  · obtain ⟨la, lb⟩ := l1
    k_steps
    · rename_i f' c' oc' vs' t' ct' dc' h1' _ d1' d2' l1 l2 hx1 ox1 F1' N1' dd1 tk1 hE kF kN Tc kX
      have hds : ds = [] := List.eq_nil_of_length_eq_zero (by rw [← hvl, List.isEmpty_iff.mp hE]; rfl)
      subst hds
      refine hret _ ((45, tabObj (#[] ++ #[rawInt 74, rawInt 4, .ref c'])) :: ([(c', oc')] ++ rest)) _ _ _ kF (fun q hq => kN q ?_) ⟨⟨_, rfl⟩, _, [(c', oc')], rfl, .inr ⟨c', oc', vs', t', rfl, .head _, d1', d2'⟩, fun q hq p hp => ?_⟩
      · rcases List.mem_cons.mp hq with rfl | hq
        · k_mem
        · rcases List.mem_append.mp hq with hq | hq
          · rw [List.mem_singleton.mp hq]; k_mem
          · k_mem
      · rw [List.mem_singleton.mp hq]
        exact ktn_ltOf (by simpa only [AllLt] using l1.2.2.2) p hp
    · rename_i f' c' oc' vs' t' ct' dc' h1' _ d1' d2' l1 l2 hx1 ox1 F1' N1' dd1 tk1 hE t2 tk2
      have hne : ds ≠ [] := fun q => by
        rw [q] at hvl
        rw [List.eq_nil_of_length_eq_zero hvl] at hE; cases hE
      have hpos : 0 < ds.length := List.length_pos_iff.mpr hne
      rw [hvl]
      unfold Hold
      k_call_by "use" (d2i_inner f' (L' + 1 + 1) (L' + 1 + 1 + 1) (L' + 1) l c' dc' ((mg (Str.ofString "__name__")).getD Value.none) ct' oc' _ ox1 _ lo vs' t' tn vs e ds n d1' d2' ‹_› dd1 ‹_› hlo hints hdig hn1 hbn hlen 9 0 ds.length _ _ hpos (Nat.le_refl _) (by omega))
      · show dp + 1 + _ < _; omega
      · show u + 3 + _ < _; omega
      · refine ⟨?_, ?_, ?_, ?_, ?_, ?_⟩
        · k_dflt exact .head _
        all_goals k_mem
      · intro r news' h' tk' dr' F9 N9 hp
        obtain ⟨rfl, t, rfl⟩ := hp
        dsimp only
        k_steps
        rename_i kF kN Tc kX
        refine hret _ ((45, tabObj (#[] ++ #[rawInt 74, rawInt 4, .ref c'])) :: ([(c', oc')] ++ rest)) _ _ _ kF (fun q hq => kN q ?_) ⟨⟨_, by rw [seg_all]⟩, _, [(c', oc')], rfl, .inr ⟨c', oc', vs', t', rfl, .head _, d1', d2'⟩, fun q hq p hp => ?_⟩
        · rcases List.mem_cons.mp hq with rfl | hq
          · k_mem
          · rcases List.mem_append.mp hq with hq | hq
            · rw [List.mem_singleton.mp hq]; k_mem
            · k_mem
        · rw [List.mem_singleton.mp hq]
          exact ktn_ltOf (by simpa only [AllLt] using l1.2.2.2) p hp
  · obtain ⟨la, lb⟩ := l1
    k_steps
    · rename_i f' ct' dc' h1' _ l1 hx1 ox1 F1' N1' dd1 tk1 hE kF kN Tc kX
      have hds : ds = [] := List.eq_nil_of_length_eq_zero (by rw [← hvl, List.isEmpty_iff.mp hE]; rfl)
      subst hds
      refine hret _ ((45, tabObj _) :: ([] ++ rest)) _ _ _ kF (fun q hq => kN q ?_) ⟨⟨_, rfl⟩, _, [], rfl, hT0, fun q hq p hp => nomatch hq⟩
      rw [List.nil_append] at hq
      rcases List.mem_cons.mp hq with rfl | hq
      · k_mem
      · k_mem
    · rename_i f' ct' dc' h1' _ l1 hx1 ox1 F1' N1' dd1 tk1 hE t2 tk2
      have hne : ds ≠ [] := fun q => by
        rw [q] at hvl
        rw [List.eq_nil_of_length_eq_zero hvl] at hE; cases hE
      have hpos : 0 < ds.length := List.length_pos_iff.mpr hne
      rw [hvl]
      unfold Hold
      k_call_by "use" (d2i_inner f' (L' + 1 + 1) (L' + 1 + 1 + 1) (L' + 1) l c' dc' ((mg (Str.ofString "__name__")).getD Value.none) ct' oc _ ox1 _ lo ocvs t tn vs e ds n hoc hq ‹_› dd1 ‹_› hlo hints hdig hn1 hbn hlen 9 0 ds.length _ _ hpos (Nat.le_refl _) (by omega))
      · show dp + 1 + _ < _; omega
      · show u + 3 + _ < _; omega
      · refine ⟨?_, ?_, ?_, ?_, ?_, ?_⟩
        · k_dflt exact .head _
        all_goals k_mem
      · intro r news' h' tk' dr' F9 N9 hp
        obtain ⟨rfl, t, rfl⟩ := hp
        dsimp only
        k_steps
        rename_i kF kN Tc kX
        refine hret _ ((45, tabObj _) :: ([] ++ rest)) _ _ _ kF (fun q hq => kN q ?_) ⟨⟨_, by rw [seg_all]⟩, _, [], rfl, hT0, fun q hq p hp => nomatch hq⟩
        rw [List.nil_append] at hq
        rcases List.mem_cons.mp hq with rfl | hq
        · k_mem
        · k_mem
end Mine
end

section
namespace Mine
example : (1 : Nat) = 1 := by
  k_with_none
  w_top off
  walk1
noncomputable def digs (b : Int) : Nat → Int → List Int
  | 0, _ => []
  | k + 1, x => x % b :: digs b k (x / b)
theorem digs_length (b : Int) : ∀ (k : Nat) (x : Int), (digs b k x).length = k
  | 0, _ => rfl
  | k + 1, x => by rw [digs, List.length_cons, digs_length b k]
theorem digs_split {b : Int} (hb : 0 < b) (j : Nat) : ∀ (i : Nat) (x : Int), digs b (i + j) x = digs b i (x % b ^ i) ++ digs b j (x / b ^ i)
  | 0, x => by simp [digs]
  | i + 1, x => by
    have hp : (0 : Int) < b ^ i := Int.pow_pos hb
    rw [Nat.succ_add, digs, digs_split hb j i, digs, List.cons_append]
    have e1 : x % b ^ (i + 1) % b = x % b := Int.emod_emod_of_dvd _ ⟨b ^ i, by rw [Int.pow_succ, Int.mul_comm]⟩
    have e2 : x / b / b ^ i = x / b ^ (i + 1) := by rw [Int.ediv_ediv_of_nonneg (by omega), Int.pow_succ, Int.mul_comm]
    have e3 : x % b ^ (i + 1) / b = x / b % b ^ i := by
      rw [Int.pow_succ, Int.mul_comm]
      have h1 := Int.emod_add_mul_ediv x (b * b ^ i)
      have h2 := Int.emod_add_mul_ediv (x / b) (b ^ i)
      rw [Int.ediv_ediv_of_nonneg (by omega)] at h2
      have h3 : x % (b * b ^ i) = x - b * b ^ i * (x / (b * b ^ i)) := by omega
      rw [h3, Int.mul_assoc, Int.sub_eq_add_neg, ← Int.mul_neg, Int.add_mul_ediv_left _ _ (by omega)]
      omega
    rw [e1, e2, e3]
theorem digs_range {b : Int} (hb : 0 < b) : ∀ (k : Nat) (x : Int), ∀ d ∈ digs b k x, 0 ≤ d ∧ d < b
  | 0, _, _, h => nomatch h
  | k + 1, x, d, h => by
    rcases List.mem_cons.mp h with rfl | h
    · exact ⟨Int.emod_nonneg _ (by omega), Int.emod_lt_of_pos _ hb⟩
    · exact digs_range hb k _ d h
theorem dval_digs {b : Int} (hb : 0 < b) : ∀ (k : Nat) (x : Int), 0 ≤ x → x < b ^ k → dval b (digs b k x) = x
  | 0, x, h0, h1 => by simp at h1; show (0 : Int) = x; omega
  | k + 1, x, h0, h1 => by
    have hd := dval_digs hb k (x / b) (Int.ediv_nonneg h0 (by omega)) (Int.ediv_lt_of_lt_mul hb (by rw [Int.pow_succ] at h1; exact h1))
    rw [digs, dval, hd]
    exact Int.emod_add_mul_ediv x b
theorem digs_one {b x : Int} (h0 : 0 ≤ x) (h1 : x < b) : digs b 1 x = [x] := by
  simp [digs, Int.emod_eq_of_lt h0 h1]
theorem digs_last {b : Int} (hb : 0 < b) : ∀ (k : Nat) (x : Int), 0 ≤ x → b ^ k ≤ x → x < b ^ (k + 1) → ∃ c, (digs b (k + 1) x)[k]? = some c ∧ c ≠ 0
  | 0, x, h0, h1, h2 => by
    rw [Int.pow_zero] at h1
    rw [Int.pow_succ, Int.pow_zero, Int.one_mul] at h2
    exact ⟨x, by rw [digs_one h0 h2]; rfl, by omega⟩
  | k + 1, x, h0, h1, h2 => by
    obtain ⟨c, e, hc⟩ := digs_last hb k (x / b) (Int.ediv_nonneg h0 (by omega)) (Int.le_ediv_of_mul_le hb (by rw [Int.pow_succ] at h1; exact h1)) (Int.ediv_lt_of_lt_mul hb (by rw [Int.pow_succ] at h2; exact h2))
    exact ⟨c, by rw [digs, List.getElem?_cons_succ]; exact e, hc⟩
open PySem PyProof.Rows in
theorem xor_low {x : Int} (hx : 0 ≤ x) (s : Nat) : Builtin.bitXor x (x / 2 ^ s * 2 ^ s) = x % 2 ^ s := by
  obtain ⟨y, rfl⟩ := Int.eq_ofNat_of_zero_le hx
  have hy : ((y : Int) / 2 ^ s * 2 ^ s) = ((y / 2 ^ s * 2 ^ s : Nat) : Int) := by
    rw [Int.natCast_mul, Int.natCast_ediv, Int.natCast_pow]; rfl
  rw [bitXor_and, hy, bitAnd_pp (Int.natCast_nonneg _) (Int.natCast_nonneg _), Int.toNat_natCast, Int.toNat_natCast]
  have key : y &&& (y / 2 ^ s * 2 ^ s) = y / 2 ^ s * 2 ^ s := by
    rw [← Nat.shiftRight_eq_div_pow, ← Nat.shiftLeft_eq]
    refine Nat.eq_of_testBit_eq fun i => ?_
    rw [Nat.testBit_and, Nat.testBit_shiftLeft, Nat.testBit_shiftRight]
    by_cases h : s ≤ i
    · have e : s + (i - s) = i := by omega
      simp [h, e]
    · simp [h]
  rw [key, ← hy]
  have := Int.emod_add_mul_ediv (y : Int) (2 ^ s)
  rw [Int.mul_comm] at this
  omega
theorem put_two {ds : List Int} {L m R : Nat} {a b : List Int} (h1 : L ≤ m) (h2 : m ≤ R) (hR : R ≤ ds.length) (ha : a.length = m - L) :
    (ds.take L ++ a ++ ds.drop m).take m ++ b ++ (ds.take L ++ a ++ ds.drop m).drop R = ds.take L ++ (a ++ b) ++ ds.drop R := by
  have hl : (ds.take L ++ a).length = m := by rw [List.length_append, List.length_take]; omega
  have e1 : (ds.take L ++ a ++ ds.drop m).take m = ds.take L ++ a := List.take_left' hl
  have e2 : (ds.take L ++ a ++ ds.drop m).drop R = ds.drop R := by
    rw [List.drop_append, hl, List.drop_eq_nil_of_le (by omega), List.nil_append, List.drop_drop]
    congr 1; omega
  rw [e1, e2]
  simp [List.append_assoc]
theorem put_one {ds : List Int} {L : Nat} {x : Int} (h : L < ds.length) : ds.set L x = ds.take L ++ [x] ++ ds.drop (L + 1) := by
  rw [List.set_eq_take_append_cons_drop, if_pos h]; simp
open PySem PyProof.Rows in
theorem ints_set {x : Int} {t : Tok} : ∀ {vs : List Value} {ds : List Int}, IntsAre vs ds → ∀ i, IntsAre (vs.set i (.int x t)) (ds.set i x)
  | _, _, .nil, _ => .nil
  | _, _, .cons n u h, 0 => .cons x t h
  | _, _, .cons n u h, i + 1 => .cons n u (ints_set h i)
open PySem PyProof.Rows in
theorem ints_rep0 (t : Tok) : ∀ k, IntsAre (List.replicate k (.int 0 t)) (List.replicate k 0)
  | 0 => .nil
  | k + 1 => .cons 0 t (ints_rep0 t k)
end Mine
end

section
open PySem PySem.W PyProof.Rows
set_option Elab.async false
set_option maxRecDepth 100000
namespace Mine
example : (1 : Nat) = 1 := by
  k_with_none
  w_top off
  walk1
section
variable {prog : Program} {w : World} {A : Around} {E : Value → Shared → Prop} {s : Shared} {h₀ : Heap} {L l : Addr} {m : Str → Option Value} {news : List (Addr × Obj)} {g : Obj → List (Addr × Obj)} {lo : Obj} {vs : List Value} {e : Nat}
theorem lN_set {k : Int} {u : Tok} {v : Value} {Q : Unit → Shared → Prop} (F : Fr h₀ L s.heap m) (N : News h₀ L s.heap news) (U : UpdF l lo news g) (hlo : lo.cls = .type "list" ∧ lo.data = .seq vs.toArray e) (h0 : 0 ≤ k) (hn : k < vs.length) (hz : k < 2 ^ 63)
    (h : ∀ h' o' e', Fr h₀ L h' m → News h₀ L h' (g o') → (o'.cls = .type "list" ∧ o'.data = .seq (vs.set k.toNat v).toArray e') → Q () { s with heap := h' }) :
    wpAny (model prog w) A (setItem (.ref l) (.int k u) v) Q E s := by
  obtain ⟨pre, post, rfl, hg, x, y⟩ := U.split
  have hm := N (l, lo) (List.mem_append_right _ (.head _))
  refine wpAny_setItem_list ⟨lo, hm.1, hlo.1, e, hlo.2⟩ h0 hz (by simpa using hn) fun h' hl q1 => ?_
  obtain ⟨o', q2, q3, e', q4⟩ := hl
  refine h h' o' e' (F.change q1 hm.2.1 hm.2.2) (hg o' ▸ N.setIn x y q1 q2) ⟨q3, ?_⟩
  rw [q4]
  simp
end
noncomputable def exArgsA : { a : Arguments // a = argsOf (defIn 4 1) } := ⟨_, by conv => rhs; whnf⟩
noncomputable def exBodyA : { a : List Stmt // a = stmtsOf (defIn 4 1) } := ⟨_, by conv => rhs; whnf⟩
noncomputable def exScopeA : { a : Scope // a = scopeOf (defIn 4 1) } := ⟨_, by conv => rhs; whnf⟩
local macro_rules | `(tactic| k_call_by "use" $c:term) => `(tactic| (k_dflt (refine' Does.use $c ?k1 ?k2 ?k3 ?k4 ?k5 ?kK ?kd ?ku ?kp ?_; (case k1 => k_asm); (case k2 => k_asm); (case k3 => k_asm); (case k4 => k_asm); (case k5 => k_asm); (case kK => first | exact rfl | assumption))))
local macro_rules | `(tactic| walk_at "binaryOp RShift int int") => `(tactic| refine Hold.out ?_)
local macro_rules | `(tactic| walk_at "binaryOp RShift int int") => `(tactic| refine shr1 ?_)
local macro_rules | `(tactic| walk_at $s:str) => if ["setItem ref int", "call ref", "binaryOp LShift int int", "binaryOp BitXor int int"].contains s.getString then `(tactic| refine Hold.out ?_) else Lean.Macro.throwUnsupported
local macro_rules | `(tactic| walk_at "eval Name") => `(tactic| (k_here; k_dflt (refine' nameX_F ?N ?c ?m ?d ?_ ?a ?b; (case a => rfl); (case b => rfl); (case N => k_asm); (case c => rfl); (case m => k_mem); (case d => k_asm); k_whole)))
local macro_rules | `(tactic| bits_by_make) => `(tactic| with_reducible assumption)
local macro_rules | `(tactic| k_mem) => `(tactic| assumption)
set_option maxHeartbeats 4000000 in
set_option pp.deepTerms false in
set_option pp.deepTerms.threshold 5 in
theorem i2d_inner {prog : Program} {w : World} {p : Program} {loose : List Str} {mean : ExcName → Option Value} {mg mb : Str → Option Value} (f cN cI cD l c' : Addr) (doc pm ctv : Value) (oc oN oI oD : Obj) (ocvs : Array Value) (tq tn : Tok) (n : Nat) (rest : List (Addr × Obj))
    (hoc : oc.data = .fields ocvs) (hq : ocvs[1]? = some (.str (Str.ofString "_int2digits.<locals>.inner") tq)) (hN : oN.data = .cell (some (.int n tn))) (hI : oI.data = .cell (some (.ref f))) (hD : oD.data = .cell (some (.ref l)))
    (mf : (f, fnMade (Str.ofString "inner") (Str.ofString "_int2digits.<locals>.inner") exArgsA.1 exBodyA.1 exScopeA.1 [(Str.ofString "n", cN), (Str.ofString "inner", cI), (Str.ofString "a_digits", cD)] doc pm c' ctv) ∈ rest)
    (mc : (c', oc) ∈ rest) (mN : (cN, oN) ∈ rest) (mI : (cI, oI) ∈ rest) (mD : (cD, oD) ∈ rest) (hoff : ∀ q ∈ rest, q.1 ≠ l) (hn1 : n ≤ 200) (hn0 : 0 < n) (d : Nat) : ∀ (x : Int) (L R : Nat) (tx tL tR : Tok) (lo : Obj) (vs : List Value) (e : Nat) (ds : List Int),
      lo.cls = .type "list" ∧ lo.data = .seq vs.toArray e → IntsAre vs ds → n * ds.length ≤ 200 → ds.length ≤ 200 → L < R → R ≤ ds.length → 2 * (R - L) ≤ 2 ^ d → 0 ≤ x → x < (2 ^ n) ^ (R - L) →
    Does prog w p loose mean mg mb (d + 1) (8 * (d + 1)) f [.int x tx, .int (L : Int) tL, .int (R : Int) tR]
      (fun news => news = (l, lo) :: rest)
      (fun _ news' r => r = .none ∧ ∃ lo' vs' e', news' = (l, lo') :: rest ∧ (lo'.cls = .type "list" ∧ lo'.data = .seq vs'.toArray e') ∧ IntsAre vs' (ds.take L ++ digs (2 ^ n) (R - L) x ++ ds.drop R)) := by
  induction d with
  | zero => intro x L R tx tL tR lo vs e ds hlo hints hbn hlen hLR hR hd2 hx0 hx1; exact absurd hd2 (by rw [Nat.pow_zero]; omega)
  | succ d IH =>
  intro x L R tx tL tR lo vs e ds hlo hints hbn hlen hLR hR hd2 hx0 hx1
  have hvl : vs.length = ds.length := hints.length
  unfold Does
  intro dp u gd cn cs a ccd cl outer A₀ base h₀ L₀ m news s Q B F X N T hk hdp hu hpre hret
  subst hpre
  have C0 : CodeHd h₀ 42 38 := codeHd_of_K X (by kernel_rfl)
  refine wpAny_call ?_
  dsimp only [exArgsA, exBodyA, exScopeA] at mf
  k_dflt (refine' code_nest ?k1 ?k2 ?k3 ?k4 ?k5 ?kA ?kF ?kK ?k6 ?k7 ?k8 ?k9 ?kB ?_ ?c2 ?c3 ?c4 ?c5; (case kA => exact rfl); (case kF => exact rfl); (case kK => assumption); (case k1 => k_asm); (case k2 => k_asm); (case k3 => k_asm); (case k4 => k_asm); (case k5 => k_asm); (case k6 => k_mem); (case k7 => exact codeRec_news N (.tail _ mc) hoc hq); (case k8 => ktr_room); (case k9 => exact BindsTo.of_eq rfl); (case c5 => decide); (case kB => exact locs rfl); (case c2 => exact rfl); (case c3 => exact rfl); (case c4 => exact rfl); k_whole; intro g' L' h' FG' F' N' B' X' T'; (try dsimp only))
  refine wpAny_mono (E := fun _ _ => False) ?_ (fun _ _ h => h) (fun _ _ h => h.elim)
  try k_fold
  k_steps
  · unfold Hold
    have e1 : R = L + 1 := by omega
    subst e1
    have hL : L < ds.length := by omega
    refine lN_set F' N' (.head hoff) hlo (by omega) (by omega) (by omega) fun h1 o1 e1 F1 N1 hlo1 => ?_
    dsimp only
    k_steps
    refine hret _ ((l, o1) :: rest) _ _ _ (by assumption) (by assumption) ⟨rfl, o1, _, _, rfl, hlo1, ?_⟩
    have e2 : L + 1 - L = 1 := by omega
    rw [e2, Int.pow_succ, Int.pow_zero, Int.one_mul] at hx1
    rw [e2, digs_one hx0 hx1, ← put_one hL, Int.toNat_natCast]
    exact ints_set hints L
  · have hmid : ((L : Int) + R) / 2 = (((L + R) / 2 : Nat) : Int) := mid_int L R
    have hne : R ≠ L + 1 := by omega
    have esh : (((L : Int) + R) / 2 - L) * n = ((n * ((L + R) / 2 - L) : Nat) : Int) := by
      rw [hmid, Int.natCast_mul, Int.natCast_sub (mid_lo' hLR), Int.mul_comm]
    have hp2 : 2 * (R - (L + R) / 2) ≤ 2 ^ d := half_hi hLR hne hd2
    have hp3 : 2 * ((L + R) / 2 - L) ≤ 2 ^ d := half_lo hLR hp2
    have hb0 : (0 : Int) < 2 ^ n := Int.pow_pos (by decide)
    have q1 : n * (R - L) ≤ 200 := Nat.le_trans (Nat.mul_le_mul_left _ (sub_le' _ hR)) hbn
    have q2 : n * ((L + R) / 2 - L) ≤ 200 := Nat.le_trans (Nat.mul_le_mul_left _ (sub_le' _ (mid_le hLR hR))) hbn
    have hpS : (0 : Int) < 2 ^ (n * ((L + R) / 2 - L)) := Int.pow_pos (by decide)
    have hup0 : 0 ≤ x / 2 ^ (n * ((L + R) / 2 - L)) := Int.ediv_nonneg hx0 (by omega)
    have hsum : R - L = (R - (L + R) / 2) + ((L + R) / 2 - L) := mid_sum hLR
    have hsum' : R - L = ((L + R) / 2 - L) + (R - (L + R) / 2) := hsum.trans (Nat.add_comm _ _)
    have hup1 : x / 2 ^ (n * ((L + R) / 2 - L)) < (2 ^ n) ^ (R - (L + R) / 2) := by
      refine Int.ediv_lt_of_lt_mul hpS ?_
      rw [← pow_pow2, ← Int.pow_add, ← hsum]
      exact hx1
    have hlo0 : 0 ≤ x % 2 ^ (n * ((L + R) / 2 - L)) := Int.emod_nonneg _ (by omega)
    have hlo1 : x % 2 ^ (n * ((L + R) / 2 - L)) < (2 ^ n) ^ ((L + R) / 2 - L) := by
      rw [pow_pow2]
      exact Int.emod_lt_of_pos _ hpS
    have hub : Builtin.Int.intBits (x / 2 ^ (n * ((L + R) / 2 - L))) ≤ 200 := by
      rw [pow_pow2] at hup1
      exact Nat.le_trans (bits_of_lt hup0 hup1) (Nat.le_trans (Nat.mul_le_mul_left _ (sub_le' _ hR)) hbn)
    unfold Hold
    rw [esh]
    refine rshift_int (Int.natCast_nonneg _) ?_
    rw [Int.toNat_natCast, Int.fdiv_eq_ediv_of_nonneg _ (by omega)]
    dsimp only
    k_steps
    unfold Hold
    rw [esh]
    refine lshift_int (Int.natCast_nonneg _) (by omega) ?_
    rw [Int.toNat_natCast]
    dsimp only
    k_steps
    unfold Hold
    refine xor_int ?_
    rw [xor_low hx0]
    dsimp only
    k_steps
    unfold Hold
    rw [hmid]
    k_call_by "use" (IH (x % 2 ^ (n * ((L + R) / 2 - L))) L ((L + R) / 2) _ _ _ lo vs e ds hlo hints hbn hlen (mid_lo hLR hne) (mid_le hLR hR) hp3 hlo0 hlo1)
    · show dp + 1 + _ < _; omega
    · show u + 3 + _ < _; omega
    · rfl
    · rintro _ news' h' tk' dr' F9 N9 ⟨rfl, lo1, vs1, e1, rfl, hlo1', hints1⟩
      dsimp only
      k_steps
      unfold Hold
      rw [hmid]
      have hlen1 : (ds.take L ++ digs (2 ^ n) ((L + R) / 2 - L) (x % 2 ^ (n * ((L + R) / 2 - L))) ++ ds.drop ((L + R) / 2)).length = ds.length := by
        rw [List.length_append, List.length_append, List.length_take, digs_length, List.length_drop]; exact cut_len hLR hR
      k_call_by "use" (IH (x / 2 ^ (n * ((L + R) / 2 - L))) ((L + R) / 2) R _ _ _ lo1 vs1 e1 _ hlo1' hints1 (by rw [hlen1]; exact hbn) (by rw [hlen1]; exact hlen) (mid_hi hLR) (by rw [hlen1]; exact hR) hp2 hup0 hup1)
      · show dp + 1 + _ < _; omega
      · show u + 3 + _ < _; omega
      · rfl
      · rintro _ news' h' tk' dr' F9 N9 ⟨rfl, lo2, vs2, e2, rfl, hlo2', hints2⟩
        dsimp only
        k_steps
        refine hret _ ((l, lo2) :: rest) _ _ _ (by assumption) (by assumption) ⟨rfl, lo2, _, _, rfl, hlo2', ?_⟩
        rw [put_two (mid_lo' hLR) (mid_hi' hLR) hR (digs_length _ _ _)] at hints2
        rw [hsum', digs_split hb0, pow_pow2]
        exact hints2
end Mine
end

section
open PySem PySem.W PyProof.Rows
set_option Elab.async false
set_option maxRecDepth 100000
namespace Mine
example : (1 : Nat) = 1 := by
  k_with_none
  w_top off
  walk1
section
variable {M : Model} {A : Around} {E : Value → Shared → Prop} {s : Shared} {h₀ : Heap} {L a c P : Addr} {m mg mb : Str → Option Value} {cn : Str} {cs : Scope} {ccd : Value} {cl : List (Str × Addr)} {news rest : List (Addr × Obj)} {g : Obj → List (Addr × Obj)}
  {p : Program} {loose : List Str} {mean : ExcName → Option Value} {name qual : Str} {params : Arguments} {body : List Stmt} {scope : Scope} {ps : Array Value} {pos : Pos} {firstLine : Nat} {clos : List (Str × Addr)}
theorem nest_any {Q : Value → Shared → Prop} (F : Fr h₀ L s.heap m) (N : News h₀ L s.heap news) (T : Top p loose mean mg mb h₀) (C : CodeHd h₀ c P) (hcd : ccd = .ref c) (U : UpdF P (tabObj ps) news g) (hT : TabSt qual pos.line pos.col ps rest) (hsub : ∀ q ∈ rest, q ∈ news)
    (hcl : closureFor scope (envX cn cs L a ccd cl) = pure clos)
    (h : ∀ f c' oc vs t ctv doc h' tk, Fr h₀ L h' m →
      News h₀ L h' ((f, fnMade name qual params body scope clos doc ((mg "__name__").getD .none) c' ctv) :: (c', oc) :: g (tabObj #[rawInt pos.line, rawInt pos.col, .ref c'])) →
      oc.data = .fields vs → vs[1]? = some (.str qual t) → ((c', oc) ∈ rest ∨ ∀ q ∈ news, q.1 < c') → (∀ q ∈ news, q.1 < f) → Q (.ref f) { s with heap := h', toks := tk }) :
    wpAny M A (makeFunction name qual params (.stmts body) scope (envX cn cs L a ccd cl) [] [] [] pos firstLine) Q E s := by
  rcases hT with rfl | ⟨c', oc, vs, t, rfl, hc, hd, hv⟩
  · refine nest_K F N T C hcd U trivial rfl hcl fun f c' oc vs t ctv doc h' tk F' N' d1 d2 l1 l2 => ?_
    refine h f c' oc vs t ctv doc h' tk F' (fun q hq => N' q ?_) d1 d2 (.inr l1) fun q hq => Nat.lt_trans (l1 q hq) l2
    exact hq
  · obtain ⟨pre, post, e1, e2, h1, h2⟩ := U.split
    have hm : (P, tabObj #[rawInt pos.line, rawInt pos.col, .ref c']) ∈ news := by rw [e1]; exact List.mem_append_right _ (.head _)
    refine nestHit_K (c' := c') F N T C hcd hm ?_ ?_ hcl fun f ctv doc h' tk F' N' l1 => ?_
    · simp [TriplesOk, rawInt]
    · simp [codeAmong, rawInt]
    · refine h f c' oc vs t ctv doc h' tk F' (fun q hq => N' q ?_) hd hv (.inl hc) l1
      rcases List.mem_cons.mp hq with rfl | hq
      · exact .head _
      · rcases List.mem_cons.mp hq with rfl | hq
        · exact .tail _ (hsub _ hc)
        · rw [e2, ← e1] at hq
          exact .tail _ hq
theorem allLt_mono {d d' : Addr} {l : List (Addr × Obj)} (h : AllLt d l) (hd : @LE.le Nat _ d d') : AllLt d' l := allLt_of fun p hp => Nat.lt_of_lt_of_le (ktn_ltOf h p hp) hd
end
end Mine
end

section
open PySem PySem.W PyProof.Rows
set_option Elab.async false
set_option maxRecDepth 100000
namespace Mine
example : (1 : Nat) = 1 := by
  k_with_none
  k_with "o18" => k_here; k_dflt (refine' lN_truthy (by k_asm) (by k_mem) (by assumption) (by omega) ?_)
  k_with "o20" => k_dflt (refine' nestDef_K (by exact rfl) (by exact rfl) (by exact rfl) ?_)
  w_top off
  walk1
theorem mem_rot {a b c q : Addr × Obj} {l : List (Addr × Obj)} (h : q ∈ c :: a :: b :: l) : q ∈ a :: b :: c :: l := by
  rcases List.mem_cons.mp h with rfl | h
  · exact .tail _ (.tail _ (.head _))
  · rcases List.mem_cons.mp h with rfl | h
    · exact .head _
    · rcases List.mem_cons.mp h with rfl | h
      · exact .tail _ (.head _)
      · exact .tail _ (.tail _ (.tail _ h))
theorem rep_zero : ∀ k : Nat, (List.replicate k [(0 : Int)]).flatten = List.replicate k 0
  | 0 => rfl
  | k + 1 => by rw [List.replicate_succ, List.flatten_cons, rep_zero k, List.replicate_succ]; rfl
local macro_rules | `(tactic| walk_at $s:str) => if ["call ref", "call builtin:len", "binaryOp Mult ref int"].contains s.getString then `(tactic| refine Hold.out ?_) else Lean.Macro.throwUnsupported
local macro_rules | `(tactic| walk_at "eval Name") => `(tactic| (k_here; k_dflt (refine' nameX_F ?N ?c ?m ?d ?_ ?a ?b; (case a => rfl); (case b => rfl); (case N => k_asm); (case c => rfl); (case m => k_mem); (case d => k_asm); k_whole)))
local macro_rules | `(tactic| k_all) => `(tactic| first | assumption | (refine' all_ne_lt ?h ?e; (case h => assumption); (case e => (try dsimp only); omega)))
local macro_rules | `(tactic| walk_at "truthy ref") => `(tactic| (k_extra "o18"; intro tk'))
local macro_rules | `(tactic| k_mem) => `(tactic| assumption)
local macro_rules | `(tactic| walk_at "exec FunctionDef") => `(tactic| (k_extra "o20"; refine Hold.out ?_))
set_option maxHeartbeats 4000000 in
set_option pp.deepTerms false in
set_option pp.deepTerms.threshold 5 in
theorem i2d_does {prog : Program} {w : World} {p : Program} {loose : List Str} {mean : ExcName → Option Value} {mg mb : Str → Option Value} (x : Int) (n : Nat) (tx tn : Tok) (ps : Array Value) (rest : List (Addr × Obj))
    (hx0 : 0 ≤ x) (hx : Builtin.Int.intBits x ≤ 120) (hn1 : 1 ≤ n) (hn2 : n ≤ 30) (h38 : ∀ q ∈ rest, q.1 ≠ 38) (hT : TabSt (Str.ofString "_int2digits.<locals>.inner") 59 4 ps rest) :
    Does prog w p loose mean mg mb 20 200 43 [.int x tx, .int (n : Int) tn] (fun news => news = (38, tabObj ps) :: rest)
      (fun news news' r => ∃ l lo vs e ps' ext, r = .ref l ∧ news' = (38, tabObj ps') :: (l, lo) :: (ext ++ rest) ∧ (lo.cls = .type "list" ∧ lo.data = .seq vs.toArray e) ∧ IntsAre vs (digs (2 ^ n) ((Builtin.Int.intBits x + n - 1) / n) x) ∧
        TabSt (Str.ofString "_int2digits.<locals>.inner") 59 4 ps' (ext ++ rest) ∧ (∀ p ∈ news, p.1 < l) ∧ (∀ q ∈ ext, q.1 ≠ l ∧ (q ∈ rest ∨ ∀ p ∈ news, p.1 < q.1))) := by
  unfold Does
  intro dp u gd cn cs a ccd cl outer A₀ base h₀ L₀ m news s Q B F X N T hk hdp hu hpre hret
  subst hpre
  refine wpAny_call ?_
  k_dflt (refine' code_defC ?k1 ?k2 ?k3 ?k4 ?k5 ?kA ?kF ?kK ?k6 ?k7 ?k8 ?k9 ?kB ?kD ?_ ?c2 ?c3 ?c4; (case kA => exact rfl); (case kF => exact rfl); (case kK => assumption); (case k1 => k_asm); (case k2 => k_asm); (case k3 => k_asm); (case k4 => k_asm); (case k5 => k_asm); (case k6 => k_is); (case k7 => k_is); (case k8 => ktr_room); (case k9 => exact BindsTo.of_eq rfl); (case kB => exact rfl); (case kD => decide +kernel); (case c2 => exact rfl); (case c3 => exact rfl); (case c4 => exact rfl); k_whole; intro g' L' h' tk' cells' FG' F' N' Y' B' X' T' l1; (try k_lt l1); k_cells Y'; (try simp only [List.cons_append, List.nil_append] at N'); (try dsimp only))
  rename_i co1 co2 co3 cd1 cd2 cd3
  refine wpAny_mono (E := fun _ _ => False) ?_ (fun _ _ h => h) (fun _ _ h => h.elim)
  have C1 : CodeHd g' 42 38 := codeHd_of_K X' (by kernel_rfl)
  obtain ⟨la, lb⟩ := l1
  try k_fold
  k_steps
  rename_i l0 h1 F1 N1 lz
  have hk : ((Builtin.Int.intBits x : Int) + n - 1).fdiv n = (((Builtin.Int.intBits x + n - 1) / n : Nat) : Int) := by
    rw [Int.fdiv_eq_ediv_of_nonneg _ (by omega)]
    have e : (Builtin.Int.intBits x : Int) + n - 1 = ((Builtin.Int.intBits x + n - 1 : Nat) : Int) := by omega
    rw [e]; rfl
  have hK1 : n * ((Builtin.Int.intBits x + n - 1) / n) ≤ Builtin.Int.intBits x + n - 1 := Nat.mul_div_le _ _
  have hK2 : Builtin.Int.intBits x ≤ n * ((Builtin.Int.intBits x + n - 1) / n) := by
    have := Nat.lt_mul_div_succ (Builtin.Int.intBits x + n - 1) (show 0 < n by omega)
    rw [Nat.mul_succ] at this
    omega
  have hK3 : (Builtin.Int.intBits x + n - 1) / n ≤ 149 := by
    have := Nat.le_mul_of_pos_left ((Builtin.Int.intBits x + n - 1) / n) (show 0 < n by omega)
    omega
  have hx1 : x < (2 ^ n) ^ ((Builtin.Int.intBits x + n - 1) / n) := by
    rw [pow_pow2]
    have h1 := intBits_le_iff.mp hK2
    have h2 : (x.natAbs : Int) < ((2 ^ (n * ((Builtin.Int.intBits x + n - 1) / n)) : Nat) : Int) := by exact_mod_cast h1
    rw [Int.natAbs_of_nonneg hx0, Int.natCast_pow] at h2
    exact h2
  rw [hk]
  have hK0 : x ≠ 0 → 0 < (Builtin.Int.intBits x + n - 1) / n := fun hne => by
    rcases Nat.eq_zero_or_pos ((Builtin.Int.intBits x + n - 1) / n) with e | e
    · rw [e, Int.pow_zero] at hx1; omega
    · exact e
  generalize hKK : (Builtin.Int.intBits x + n - 1) / n = K at *
  unfold Hold
  refine KM.mul F1 N1 (N1.isList (.head _)) (.cons 0 _ .nil) (by omega) (by omega) (by simp; omega) fun D h2 F2 N2 lD hi _ _ _ _ _ => ?_
  dsimp only
  rw [Int.toNat_natCast] at N2 hi
  rw [rep_zero] at hi
  generalize hvs : (List.replicate K [Value.int 0 _]).flatten = vs0 at *
  obtain ⟨lo, hloe⟩ : ∃ lo, lo = W.listOf vs0.toArray 0 := ⟨_, rfl⟩
  have hlo : lo.cls = .type "list" ∧ lo.data = .seq vs0.toArray 0 := by rw [hloe]; exact ⟨rfl, rfl⟩
  rw [← hloe] at N2
  clear hloe
  have hvl : vs0.length = K := by rw [hi.length, List.length_replicate]
  k_lt lD
  have lD1 := ktn_ltOf lD.2.2.2.2.2
  have N3 : News g' L' h2 ((D, lo) :: _) := fun q hq => N2 q (by
    rcases List.mem_cons.mp hq with rfl | hq
    · exact .head _
    · exact .tail _ (.tail _ hq))
  clear N2
  k_steps
  rename_i h3 o3 F3 N4 d3
  unfold Hold
  k_dflt (refine' nest_any (rest := rest) (qual := Str.ofString "_int2digits.<locals>.inner") ?F ?N ?T ?C ?cd ?U ?t ?n ?cl ?_; (case F => exact F3); (case N => exact N4); (case T => k_asm); (case cd => exact rfl); (case C => exact C1))
  case U => k_updF
  case t => exact hT
  case n => intro q hq; k_mem
  case cl => exact rfl
  k_whole
  intro f c' oc ovs t ctv doc h4 tk4 F4 N5 d4 d5 hcc lf
  k_lt lf
  try dsimp only at N5
  have hc5 : @LT.lt Nat _ c' L' ∨ @LT.lt Nat _ D c' := hcc.elim (fun q => .inl (ktn_ltOf lb _ q)) fun q => .inr (q (D, lo) (.head _))
  have hrD : ∀ q ∈ rest, q.1 ≠ D := fun q hq => Nat.ne_of_lt (lD1 q hq)
  have hcD : ∀ q ∈ [(c', oc)], q.1 ≠ D ∧ (q ∈ rest ∨ ∀ p ∈ (38, tabObj ps) :: rest, p.1 < q.1) := by
    intro q hq
    rw [List.mem_singleton.mp hq]
    refine ⟨neN (by dsimp only; omega), hcc.imp id fun h p hp => ?_⟩
    rcases List.mem_cons.mp hp with rfl | hp
    · exact h _ (by k_mem)
    · exact h _ (by k_mem)
  have hlD : ∀ p ∈ (38, tabObj ps) :: rest, p.1 < D := by
    intro p hp
    rcases List.mem_cons.mp hp with rfl | hp
    · exact lD.2.2.2.2.1
    · exact lD1 p hp
  k_steps
  · rename_i h5 o5 F5 N6 d6 hxne
    unfold Hold
    refine lN_len N6 (.tail _ (.tail _ (.head _))) hlo (by omega) fun t7 tk7 => ?_
    rw [hvl]
    dsimp only
    k_steps
    unfold Hold
    k_dflt (refine' Does.use (i2d_inner f (L' + 1) (L' + 1 + 1 + 1) (L' + 1 + 1) D c' doc ((mg (Str.ofString "__name__")).getD Value.none) ctv oc co3 o5 o3 ovs t tn n ((f, _) :: (c', oc) :: (L' + 1 + 1 + 1, o5) :: (L' + 1 + 1, o3) :: (L' + 1, co3) :: (38, tabObj #[rawInt 59, rawInt 4, .ref c']) :: rest) d4 d5 cd3 d6 d3 (.head _) (.tail _ (.head _)) ?_ ?_ ?_ ?_ (by omega) (by omega) 9 x 0 K _ _ _ lo vs0 0 (List.replicate K 0) hlo hi ?_ ?_ (hK0 hxne) ?_ (by omega) hx0 hx1) ?k1 ?k2 ?k3 ?k4 ?k5 ?kK ?kd ?ku ?kp ?_; (case k1 => k_asm); (case k2 => k_asm); (case k3 => k_asm); (case k5 => k_asm); (case kK => first | exact rfl | assumption))
    case kp => exact rfl
    case k4 => exact fun q hq => N6 q (mem_rot hq)
    case kd => show dp + 1 + _ < _; omega
    case ku => show u + 3 + _ < _; omega
    · k_mem
    · k_mem
    · k_mem
    · intro q hq
      rcases List.mem_cons.mp hq with rfl | hq
      · k_ne
      · rcases List.mem_cons.mp hq with rfl | hq
        · k_ne
        · rcases List.mem_cons.mp hq with rfl | hq
          · k_ne
          · rcases List.mem_cons.mp hq with rfl | hq
            · k_ne
            · rcases List.mem_cons.mp hq with rfl | hq
              · k_ne
              · rcases List.mem_cons.mp hq with rfl | hq
                · k_ne
                · exact hrD q hq
    · rw [List.length_replicate]; omega
    · rw [List.length_replicate]; omega
    · rw [List.length_replicate]; exact Nat.le_refl _
    · rintro r news' h' tk' dr' F9 N9 ⟨rfl, lo2, vs2, e2, rfl, hlo2, hi2⟩
      dsimp only
      k_steps
      rename_i kF kN Tc kX
      refine hret _ ((38, tabObj #[rawInt 59, rawInt 4, .ref c']) :: (D, lo2) :: ([(c', oc)] ++ rest)) _ _ _ kF (fun q hq => kN q ?_) ⟨D, lo2, vs2, e2, _, [(c', oc)], rfl, rfl, hlo2, ?_, .inr ⟨c', oc, ovs, t, rfl, .head _, d4, d5⟩, hlD, hcD⟩
      · rcases List.mem_cons.mp hq with rfl | hq
        · k_mem
        · rcases List.mem_cons.mp hq with rfl | hq
          · k_mem
          · rcases List.mem_append.mp hq with hq | hq
            · rw [List.mem_singleton.mp hq]; k_mem
            · k_mem
      · simpa using hi2
  · rename_i h5 o5 F5 N6 d6 hxe kF kN Tc kX
    have hKz : K = 0 := by
      rw [← hKK, hxe]
      have : Builtin.Int.intBits 0 = 0 := rfl
      rw [this]
      exact Nat.div_eq_of_lt (by omega)
    subst hKz
    refine hret _ ((38, tabObj #[rawInt 59, rawInt 4, .ref c']) :: (D, lo) :: ([(c', oc)] ++ rest)) _ _ _ kF (fun q hq => kN q ?_) ⟨D, lo, vs0, 0, _, [(c', oc)], rfl, rfl, hlo, hi, .inr ⟨c', oc, ovs, t, rfl, .head _, d4, d5⟩, hlD, hcD⟩
    rcases List.mem_cons.mp hq with rfl | hq
    · k_mem
    · rcases List.mem_cons.mp hq with rfl | hq
      · k_mem
      · rcases List.mem_append.mp hq with hq | hq
        · rw [List.mem_singleton.mp hq]; k_mem
        · k_mem
end Mine
end

section
open PySem PySem.Calls PySem.NumText PySem.W PyProof.Rows
set_option Elab.async false
set_option maxRecDepth 100000
namespace Mine
example : (1 : Nat) = 1 := by
  k_with_none
  w_top off
  walk1
theorem wp_max {M : Model} {A : Around} {E : Value → Shared → Prop} {s : Shared} {Q : Nat → Shared → Prop} (hn : s.heap.NoDigits) (h : Q 4300 s) : wpAny M A Builtin.intMaxStrDigits Q E s := by
  obtain ⟨mc, hns, hnone⟩ := hn
  unfold Builtin.intMaxStrDigits
  refine wpAny_bind (wpAny_nsGet hns ?_)
  rw [hnone]
  exact wpAny_pure h
theorem wp_text2 {M : Model} {A : Around} {E : Value → Shared → Prop} {s : Shared} {Q : Value → Shared → Prop} {v : Value} {text : List Nat} {n : Int} (hd : s.heap.NoDigits)
    (hs : ¬ (text.takeWhile (· != 0)).length ≤ 640) (hr : (int_private% "readNumeral") 4300 10 (text.takeWhile (· != 0)) = (int_private% "Numeral.value") n)
    (ha : ((text.takeWhile (· != 0)).length == text.length) = true) (h : Q (.int n s.toks) { s with toks := s.toks + 1 }) :
    wpAny M A ((int_private% "intFromText") v text 10) Q E s := by
  obtain ⟨hp, g, d, tk, os⟩ := s
  repeat (any_goals (first
    | assumption
    | (with_reducible refine wpAny_ite_false (decide_eq_false hs) ?_)
    | (with_reducible refine wpAny_ite_true (decide_eq_true ha) ?_)
    | (with_reducible refine wp_max hd ?_)
    | wp_step))
  all_goals (try rw [hr])
  all_goals (try dsimp only)
  repeat (any_goals (first
    | assumption
    | (with_reducible refine wpAny_ite_false (decide_eq_false hs) ?_)
    | (with_reducible refine wpAny_ite_true (decide_eq_true ha) ?_)
    | wp_step))

structure Hid (p : Prop) : Prop where
  out : p
set_option maxHeartbeats 4000000 in
theorem meets_text {x : PySem.Str} {u : Tok} {n : Int} (hl : x.length ≤ 4300) (hn : PySem.intText? x = some n) : Meets (Builtin.«int.__new__» ⟨[.type "int", .str x u], []⟩) (fun A R s => s.heap.NoDigits ∧ R (.ok (.ret (.int n s.toks))) { s with toks := s.toks + 1 }) := by
  intro prog w A R s ⟨hd, h⟩
  by_cases hs0 : (numSeenOf x).length ≤ 640
  · have f1 := F.conv_sub_int
    have f2 := F.madeHere_int
    have f3 := KIN.str_int
    have f4 := KIN.str_idx
    have f5 := KIN.str_trunc
    have f6 : typeOf (.str x u) = pure (.type "str") := rfl
    have hr : (int_private% "readNumeral") 0 10 (numSeenOf x) = (int_private% "Numeral.value") n ∧ ((numSeenOf x).length == (numTextOf x).length) = true := by
      rcases read0 x hs0 with ⟨m, h1, h2, h3⟩ | ⟨h1, _⟩
      · rw [hn] at h1
        injection h1 with h1
        subst h1
        exact ⟨h3, h2⟩
      · rw [hn] at h1
        cases h1
    have hk := Hid.mk (And.intro hs0 hr)
    clear hs0 hr hl hn
    refine wpAny_mono (Q := fun fin s' => ∃ v, fin = .done (.ret v) ∧ R (.ok (.ret v)) s') (E := fun e s' => R (.error e) s') ?_ (fun fin s' h' => by obtain ⟨v, rfl, hv⟩ := h'; exact hv) fun _ _ x => x
    obtain ⟨hp, g, d, tk, os⟩ := s
    repeat (any_goals (first
      | assumption
      | ((with_reducible show wpAny _ _ ((int_private% "intFromText") _ _ _) _ _ _); refine KIN.wp_text hk.out.1 hk.out.2.1 hk.out.2.2 ?_)
      | wp_step))
    all_goals first | exact ⟨_, rfl, h⟩ | skip
  · have f1 := F.conv_sub_int
    have f2 := F.madeHere_int
    have f3 := KIN.str_int
    have f4 := KIN.str_idx
    have f5 := KIN.str_trunc
    have f6 : typeOf (.str x u) = pure (.type "str") := rfl
    have hr : (int_private% "readNumeral") 4300 10 (numSeenOf x) = (int_private% "Numeral.value") n ∧ ((numSeenOf x).length == (numTextOf x).length) = true := by
      rcases read4300 x (Nat.le_trans hl (by rw [sizeLine_eq]; decide)) with ⟨m, h1, h2, h3⟩ | ⟨h1, _⟩
      · rw [hn] at h1
        injection h1 with h1
        subst h1
        exact ⟨h3, h2⟩
      · rw [hn] at h1
        cases h1
    have hk := Hid.mk (And.intro hs0 (And.intro hr hd))
    clear hs0 hr hl hn hd
    refine wpAny_mono (Q := fun fin s' => ∃ v, fin = .done (.ret v) ∧ R (.ok (.ret v)) s') (E := fun e s' => R (.error e) s') ?_ (fun fin s' h' => by obtain ⟨v, rfl, hv⟩ := h'; exact hv) fun _ _ x => x
    obtain ⟨hp, g, d, tk, os⟩ := s
    repeat (any_goals (first
      | assumption
      | ((with_reducible show wpAny _ _ ((int_private% "intFromText") _ _ _) _ _ _); refine wp_text2 hk.out.2.2 hk.out.1 hk.out.2.1.1 hk.out.2.1.2 ?_)
      | wp_step))
    all_goals first | exact ⟨_, rfl, h⟩ | skip
theorem call_int_text {prog : Program} {w : World} {A : Around} {E : Value → Shared → Prop} {s : Shared} {Q : Value → Shared → Prop} {x : PySem.Str} {t : Tok} {n : Int} (hd : s.heap.NoDigits) (hn : PySem.intText? x = some n) (hl : x.length ≤ 4300) (h : Q (.int n s.toks) { s with toks := s.toks + 1 }) :
    wpAny (model prog w) A (call (.type "int") [.str x t]) Q E s :=
  call_int_1 (meets_text hl hn) ⟨hd, rfl, h⟩
end Mine
end

section
open PySem PySem.NumText PyProof.Rows
namespace Mine
example : (1 : Nat) = 1 := by
  k_with_none
  w_top off
  walk1
theorem dvFold : ∀ (cs : List Nat) (a : Nat), cs.foldl (fun acc c => acc * 10 + (c - 48)) a = a * 10 ^ cs.length + digitsVal cs
  | [], a => by simp [digitsVal]
  | c :: cs, a => by
    show cs.foldl _ (a * 10 + (c - 48)) = a * 10 ^ (cs.length + 1) + cs.foldl _ (0 * 10 + (c - 48))
    rw [dvFold cs, dvFold cs, Nat.pow_succ, Nat.add_mul, Nat.add_mul, Nat.mul_assoc, Nat.mul_comm 10]
    simp
    omega
theorem digitsVal_append (xs ys : List Nat) : digitsVal (xs ++ ys) = digitsVal xs * 10 ^ ys.length + digitsVal ys := by
  rw [← dvFold]
  unfold digitsVal
  rw [List.foldl_append]
theorem digitsVal_lt : ∀ {cs : List Nat}, AllDigits cs → digitsVal cs < 10 ^ cs.length
  | [], _ => by simp [digitsVal]
  | c :: cs, h => by
    have h1 := digitsVal_lt h.tail
    have h2 := h.head
    have e : digitsVal (c :: cs) = (0 * 10 + (c - 48)) * 10 ^ cs.length + digitsVal cs := dvFold cs _
    rw [e, List.length_cons, Nat.pow_succ]
    have h3 : (0 * 10 + (c - 48)) * 10 ^ cs.length ≤ 9 * 10 ^ cs.length := Nat.mul_le_mul_right _ (by omega)
    omega
noncomputable def dvs (x : PySem.Str) (a b : Nat) : Nat := digitsVal ((x.cps.toList.drop a).take (b - a))
theorem sub_len {x : PySem.Str} {a b : Nat} (hb : b ≤ x.length) : ((x.cps.toList.drop a).take (b - a)).length = b - a := by
  rw [List.length_take, List.length_drop, Array.length_toList]
  show min (b - a) (x.length - a) = b - a
  omega
theorem sub_digits {x : PySem.Str} (h : AllDigits x.cps.toList) (a k : Nat) : AllDigits ((x.cps.toList.drop a).take k) := fun c hc => h c (List.mem_of_mem_drop (List.mem_of_mem_take hc))
theorem slice_nat (x : PySem.Str) {a b : Nat} (hab : a ≤ b) (hb : b ≤ x.length) : Txt.slice x (some (a : Int)) (some (b : Int)) = ⟨((x.cps.toList.drop a).take (b - a)).toArray⟩ := StrLaws.sliceText_nat x hab hb
theorem slice_reads {x : PySem.Str} (h : AllDigits x.cps.toList) {a b : Nat} (hab : a < b) (hb : b ≤ x.length) (hk : b - a ≤ 4300) :
    intText? (Txt.slice x (some (a : Int)) (some (b : Int))) = some ((dvs x a b : Nat) : Int) ∧ (Txt.slice x (some (a : Int)) (some (b : Int))).length ≤ 4300 := by
  rw [slice_nat x (Nat.le_of_lt hab) hb]
  have hl := sub_len (x := x) (a := a) hb
  have hlen : (⟨((x.cps.toList.drop a).take (b - a)).toArray⟩ : PySem.Str).length ≤ 4300 := by
    show (List.toArray _).size ≤ 4300
    rw [List.size_toArray, hl]; exact hk
  refine ⟨?_, hlen⟩
  exact intText_digits (x := ⟨((x.cps.toList.drop a).take (b - a)).toArray⟩) (sub_digits h a _) (by
    intro e
    have e' : ((x.cps.toList.drop a).take (b - a)) = [] := e
    rw [e'] at hl
    simp at hl
    omega) hlen
theorem dvs_split {x : PySem.Str} {a m b : Nat} (h1 : a ≤ m) (h2 : m ≤ b) (hb : b ≤ x.length) : dvs x a b = dvs x a m * 10 ^ (b - m) + dvs x m b := by
  unfold dvs
  have e : b - a = (m - a) + (b - m) := by omega
  rw [e, List.take_add, List.drop_drop, digitsVal_append]
  have e2 : a + (m - a) = m := by omega
  rw [e2, sub_len hb]
theorem dvs_lt {x : PySem.Str} (h : AllDigits x.cps.toList) {a b : Nat} (hb : b ≤ x.length) : dvs x a b < 10 ^ (b - a) := by
  have := digitsVal_lt (sub_digits h a (b - a))
  rw [sub_len hb] at this
  exact this
theorem bits_of_dec {n k : Nat} (h : n < 10 ^ k) : Builtin.Int.intBits (n : Int) ≤ 4 * k := by
  refine bits_of_lt (Int.natCast_nonneg _) ?_
  have h1 : (10 : Nat) ^ k ≤ 16 ^ k := Nat.pow_le_pow_left (by decide) k
  have h2 : (16 : Nat) ^ k = 2 ^ (4 * k) := by rw [Nat.pow_mul]
  have h3 : n < 2 ^ (4 * k) := by omega
  have h4 : (n : Int) < ((2 ^ (4 * k) : Nat) : Int) := by exact_mod_cast h3
  rw [Int.natCast_pow] at h4
  exact h4
theorem five_two (x y : Int) (k : Nat) : y + x * 5 ^ k * 2 ^ k = x * ((10 : Nat) : Int) ^ k + y := by
  rw [Int.mul_assoc, ← Int.mul_pow, Int.add_comm]
  rfl
end Mine
end

section
open PySem PySem.NumText PySem.W PyProof.Rows
set_option Elab.async false
set_option maxRecDepth 100000
namespace Mine
example : (1 : Nat) = 1 := by
  k_with_none
  w_top off
  walk1
noncomputable def exArgsB : { a : Arguments // a = argsOf (defIn 2 1) } := ⟨_, by conv => rhs; whnf⟩
noncomputable def exBodyB : { a : List Stmt // a = stmtsOf (defIn 2 1) } := ⟨_, by conv => rhs; whnf⟩
noncomputable def exScopeB : { a : Scope // a = scopeOf (defIn 2 1) } := ⟨_, by conv => rhs; whnf⟩
local macro_rules | `(tactic| k_call_by "use" $c:term) => `(tactic| (k_dflt (refine' Does.use $c ?k1 ?k2 ?k3 ?k4 ?k5 ?kK ?kd ?ku ?kp ?_; (case k1 => k_asm); (case k2 => k_asm); (case k3 => k_asm); (case k4 => k_asm); (case k5 => k_asm); (case kK => first | exact rfl | assumption))))
local macro_rules | `(tactic| walk_at "binaryOp RShift int int") => `(tactic| refine shr1 ?_)
local macro_rules | `(tactic| walk_at $s:str) => if ["call ref", "call type:int", "subscriptTail", "binaryOp LShift int int"].contains s.getString then `(tactic| refine Hold.out ?_) else Lean.Macro.throwUnsupported
local macro_rules | `(tactic| walk_at "eval Name") => `(tactic| (k_here; k_dflt (refine' nameX_F ?N ?c ?m ?d ?_ ?a ?b; (case a => rfl); (case b => rfl); (case N => k_asm); (case c => rfl); (case m => k_mem); (case d => k_asm); k_whole)))
local macro_rules | `(tactic| bits_by_make) => `(tactic| with_reducible assumption)
local macro_rules | `(tactic| k_mem) => `(tactic| assumption)
set_option maxHeartbeats 4000000 in
set_option pp.deepTerms false in
set_option pp.deepTerms.threshold 5 in
theorem s2i_inner {prog : Program} {w : World} {p : Program} {loose : List Str} {mean : ExcName → Option Value} {mg mb : Str → Option Value} (f cW cS cI cL l c' : Addr) (doc pm ctv : Value) (oc oW oS oI oL lo : Obj) (ocvs : Array Value) (tq t1 t2 : Tok) (x : PySem.Str) (kvs : List (Int × Value)) (rest : List (Addr × Obj))
    (hoc : oc.data = .fields ocvs) (hq : ocvs[1]? = some (.str (Str.ofString "_str_to_int_inner.<locals>.inner") tq)) (hW : oW.data = .cell (some (.ref l))) (hS : oS.data = .cell (some (.str x t1))) (hI : oI.data = .cell (some (.ref f))) (hL : oL.data = .cell (some (.int 2048 t2)))
    (mf : (f, fnMade (Str.ofString "inner") (Str.ofString "_str_to_int_inner.<locals>.inner") exArgsB.1 exBodyB.1 exScopeB.1 [(Str.ofString "w5pow", cW), (Str.ofString "s", cS), (Str.ofString "inner", cI), (Str.ofString "DIGLIM", cL)] doc pm c' ctv) ∈ rest)
    (mc : (c', oc) ∈ rest) (mW : (cW, oW) ∈ rest) (mS : (cS, oS) ∈ rest) (mI : (cI, oI) ∈ rest) (mL : (cL, oL) ∈ rest) (ml : (l, lo) ∈ rest)
    (hd : lo.IsDictOf (intKind prog w) kvs) (hk : ∀ k, k ∈ kvs.map (·.1) ↔ Need x.length 2048 k) (hp : PowVals 5 kvs) (hx : AllDigits x.cps.toList) (hlen : x.length ≤ 5000) (d : Nat) : ∀ (a b : Nat) (ta tb : Tok),
      a < b → b ≤ x.length → 2 * (b - a) ≤ 2 ^ d → (∃ j, Got x.length 2048 j ((b - a : Nat) : Int)) →
    Does prog w p loose mean mg mb (d + 1) (8 * (d + 1)) f [.int (a : Int) ta, .int (b : Int) tb]
      (fun news => news = rest)
      (fun _ news' r => news' = rest ∧ ∃ t, r = .int (dvs x a b) t) := by
  induction d with
  | zero => intro a b ta tb hab hb hd2 hgot; exact absurd hd2 (by rw [Nat.pow_zero]; omega)
  | succ d IH =>
  intro a b ta tb hab hb hd2 hgot
  unfold Does
  intro dp u gd cn cs ad ccd cl outer A₀ base h₀ L₀ m news s Q B F X N T hkind hdp hu hpre hret
  subst hpre
  have C0 : CodeHd h₀ 28 24 := codeHd_of_K X (by kernel_rfl)
  refine wpAny_call ?_
  dsimp only [exArgsB, exBodyB, exScopeB] at mf
  k_dflt (refine' code_nest ?k1 ?k2 ?k3 ?k4 ?k5 ?kA ?kF ?kK ?k6 ?k7 ?k8 ?k9 ?kB ?_ ?c2 ?c3 ?c4 ?c5; (case kA => exact rfl); (case kF => exact rfl); (case kK => assumption); (case k1 => k_asm); (case k2 => k_asm); (case k3 => k_asm); (case k4 => k_asm); (case k5 => k_asm); (case k6 => k_mem); (case k7 => exact codeRec_news N mc hoc hq); (case k8 => ktr_room); (case k9 => exact BindsTo.of_eq rfl); (case c5 => decide); (case kB => exact locs rfl); (case c2 => exact rfl); (case c3 => exact rfl); (case c4 => exact rfl); k_whole; intro g' L' h' FG' F' N' B' X' T'; (try dsimp only))
  refine wpAny_mono (E := fun _ _ => False) ?_ (fun _ _ h => h) (fun _ _ h => h.elim)
  try k_fold
  k_steps
  · rename_i hle h1 t1' k1 F1 N1 hsl
    obtain ⟨hr, hln⟩ := slice_reads hx hab hb (by omega)
    unfold Hold
    refine call_int_text (Heap.NoDigits.keeps (Top.nodigits T') (Fr.keep F1)) hr hln ?_
    dsimp only
    k_steps
    exact hret _ _ _ _ _ (by assumption) (by assumption) ⟨rfl, _, rfl⟩
  · rename_i tk0 hgt h2 F1 N1
    have hmid : ((a : Int) + b + 1) / 2 = (((a + b + 1) / 2 : Nat) : Int) := midS_int a b
    have hgt' : ¬ ((b : Int) - a ≤ 2048) := hgt
    have hp2 : 2 * (b - (a + b + 1) / 2) ≤ 2 ^ d := halfS_hi hd2
    have hp3 : 2 * ((a + b + 1) / 2 - a) ≤ 2 ^ d := halfS_lo hgt' hd2
    obtain ⟨j, hj⟩ := hgot
    have hbig : (2048 : Int) < ((b - a : Nat) : Int) := bigS hgt'
    have hneed : Need x.length 2048 ((b - (a + b + 1) / 2 : Nat) : Int) := ⟨j, _, hj, hbig, subS a b⟩
    have hg1 : ∃ j, Got x.length 2048 j ((b - (a + b + 1) / 2 : Nat) : Int) := by
      refine ⟨j + 1, ?_⟩
      have e : ((b - (a + b + 1) / 2 : Nat) : Int) = ((b - a : Nat) : Int) / 2 := subS a b
      rw [e]; exact .lo hj hbig
    have hg2 : ∃ j, Got x.length 2048 j (((a + b + 1) / 2 - a : Nat) : Int) := by
      refine ⟨j + 1, ?_⟩
      rcases Int.emod_two_eq ((b - a : Nat) : Int) with ho | ho
      · have e : (((a + b + 1) / 2 - a : Nat) : Int) = ((b - a : Nat) : Int) / 2 := subS0 ho
        rw [e]; exact .lo hj hbig
      · have e : (((a + b + 1) / 2 - a : Nat) : Int) = ((b - a : Nat) : Int) / 2 + 1 := subS1 ho
        rw [e]; exact .hi hj hbig ho
    unfold Hold
    rw [hmid]
    k_call_by "use" (IH ((a + b + 1) / 2) b _ _ (hiS hgt') hb hp2 hg1)
    · show dp + 1 + _ < _; omega
    · show u + 3 + _ < _; omega
    · rfl
    · intro r news' h' tk' dr' F9 N9 hp
      obtain ⟨rfl, t, rfl⟩ := hp
      dsimp only
      k_steps
      unfold Hold
      rw [hmid]
      k_call_by "use" (IH a ((a + b + 1) / 2) _ _ (loS hgt') (Nat.le_trans (Nat.le_of_lt (hiS hgt')) hb) hp3 hg2)
      · show dp + 1 + _ < _; omega
      · show u + 3 + _ < _; omega
      · rfl
      · intro r news' h' tk' dr' F9 N9 hp
        obtain ⟨rfl, t, rfl⟩ := hp
        dsimp only
        k_steps
        have hbm : (b : Int) - ((a : Int) + b + 1) / 2 = ((b - (a + b + 1) / 2 : Nat) : Int) := diffS hgt'
        have hv1 := bits_of_dec (dvs_lt hx (a := a) (b := (a + b + 1) / 2) (Nat.le_trans (Nat.le_of_lt (hiS hgt')) hb))
        have hv2 : Builtin.Int.intBits ((5 : Int) ^ (b - (a + b + 1) / 2)) ≤ 3 * (b - (a + b + 1) / 2) + 1 := intBits_pow_le (by decide) _
        have hv3 : Builtin.Int.intBits ((dvs x a ((a + b + 1) / 2) : Nat) : Int) ≤ 20000 := Nat.le_trans hv1 (boundS hb _ (by assumption) (Nat.le_of_lt (hiS hgt')))
        have hv4 : Builtin.Int.intBits ((5 : Int) ^ (b - (a + b + 1) / 2)) ≤ 20001 := Nat.le_trans hv2 (boundS' hb _ (by assumption))
        unfold Hold
        rw [hbm]
        refine dN_item (by assumption) ml hd hp ((hk _).mpr hneed) fun t5 => ?_
        rw [Int.toNat_natCast]
        dsimp only
        k_steps
        unfold Hold
        rw [hbm]
        refine lshift_int (Int.natCast_nonneg _) (by
          have := intBits_mul_le hv3 hv4
          omega) ?_
        rw [Int.toNat_natCast]
        dsimp only
        k_steps
        refine hret _ _ _ _ _ (by assumption) (by assumption) ⟨rfl, ktn_int ?_⟩
        rw [dvs_split (a := a) (m := (a + b + 1) / 2) (b := b) (Nat.le_of_lt (loS hgt')) (Nat.le_of_lt (hiS hgt')) hb, Int.natCast_add, Int.natCast_mul, Int.natCast_pow, five_two]
end Mine
end

section
open PySem PySem.NumText PySem.W PyProof.Rows
set_option Elab.async false
set_option maxRecDepth 100000
namespace Mine
example : (1 : Nat) = 1 := by
  k_with_none
  k_with "o20" => k_dflt (refine' nestDef_K (by exact rfl) (by exact rfl) (by exact rfl) ?_)
  w_top off
  walk1
local macro_rules | `(tactic| k_call_by "use" $c:term) => `(tactic| (k_dflt (refine' Does.use $c ?k1 ?k2 ?k3 ?k4 ?k5 ?kK ?kd ?ku ?kp ?_; (case k1 => k_asm); (case k2 => k_asm); (case k3 => k_asm); (case k4 => k_asm); (case k5 => k_asm); (case kK => first | exact rfl | assumption))))
local macro_rules | `(tactic| walk_at "call ref") => `(tactic| refine Hold.out ?_)
local macro_rules | `(tactic| walk_at "eval Name") => `(tactic| (k_here; k_dflt (refine' nameX_F ?N ?c ?m ?d ?_ ?a ?b; (case a => rfl); (case b => rfl); (case N => k_asm); (case c => rfl); (case m => k_mem); (case d => k_asm); k_whole)))
local macro_rules | `(tactic| k_all) => `(tactic| first | assumption | (refine' all_ne_lt ?h ?e; (case h => assumption); (case e => (try dsimp only); omega)))
local macro_rules | `(tactic| k_mem) => `(tactic| assumption)
local macro_rules | `(tactic| walk_at "exec FunctionDef") => `(tactic| (k_extra "o20"; refine Hold.out ?_))
set_option maxHeartbeats 4000000 in
set_option pp.deepTerms false in
set_option pp.deepTerms.threshold 5 in
theorem s2i_does {prog : Program} {w : World} {p : Program} {loose : List Str} {mean : ExcName → Option Value} {mg mb : Str → Option Value} (x : PySem.Str) (tx : Tok) (ps : Array Value) (rest : List (Addr × Obj))
    (hx : AllDigits x.cps.toList) (hlen0 : 0 < x.length) (hlen : x.length ≤ 5000) (h24 : ∀ q ∈ rest, q.1 ≠ 24) (hT : TabSt (Str.ofString "_str_to_int_inner.<locals>.inner") 46 4 ps rest) :
    Does prog w p loose mean mg mb 30 300 29 [.str x tx] (fun news => news = (24, tabObj ps) :: rest)
      (fun news news' r => (∃ t, r = .int ((digitsVal x.cps.toList : Nat) : Int) t) ∧ ∃ ps' ext, news' = (24, tabObj ps') :: (ext ++ rest) ∧
        TabSt (Str.ofString "_str_to_int_inner.<locals>.inner") 46 4 ps' (ext ++ rest) ∧ (∀ q ∈ ext, q ∈ rest ∨ ∀ p ∈ news, p.1 < q.1)) := by
  unfold Does
  intro dp u gd cn cs a ccd cl outer A₀ base h₀ L₀ m news s Q B F X N T hk hdp hu hpre hret
  subst hpre
  refine wpAny_call ?_
  k_dflt (refine' code_defC ?k1 ?k2 ?k3 ?k4 ?k5 ?kA ?kF ?kK ?k6 ?k7 ?k8 ?k9 ?kB ?kD ?_ ?c2 ?c3 ?c4; (case kA => exact rfl); (case kF => exact rfl); (case kK => assumption); (case k1 => k_asm); (case k2 => k_asm); (case k3 => k_asm); (case k4 => k_asm); (case k5 => k_asm); (case k6 => k_is); (case k7 => k_is); (case k8 => ktr_room); (case k9 => exact BindsTo.of_eq rfl); (case kB => exact rfl); (case kD => decide +kernel); (case c2 => exact rfl); (case c3 => exact rfl); (case c4 => exact rfl); k_whole; intro g' L' h' tk' cells' FG' F' N' Y' B' X' T' l1; (try k_lt l1); k_cells Y'; (try simp only [List.cons_append, List.nil_append] at N'); (try dsimp only))
  rename_i co1 co2 co3 co4 cd1 cd2 cd3 cd4
  refine wpAny_mono (E := fun _ _ => False) ?_ (fun _ _ h => h) (fun _ _ h => h.elim)
  have C1 : CodeHd g' 28 24 := codeHd_of_K X' (by kernel_rfl)
  obtain ⟨la, lb⟩ := l1
  try k_fold
  k_steps
  rename_i h3 o3 F3 N4 d3
  unfold Hold
  k_dflt (refine' nest_any (rest := rest) (qual := Str.ofString "_str_to_int_inner.<locals>.inner") ?F ?N ?T ?C ?cd ?U ?t ?n ?cl ?_; (case F => exact F3); (case N => exact N4); (case T => k_asm); (case cd => exact rfl); (case C => exact C1))
  case U => k_updF
  case t => exact hT
  case n => intro q hq; k_mem
  case cl => exact rfl
  k_whole
  intro f c' oc ovs t ctv doc h4 tk4 F4 N5 d4 d5 hcc lf
  k_lt lf
  try dsimp only at N5
  have hc5 : @LT.lt Nat _ c' L' ∨ @LT.lt Nat _ (L' + 4) c' := hcc.elim (fun q => .inl (ktn_ltOf lb _ q)) fun q => .inr (q (L' + 1 + 1 + 1 + 1, co1) (.head _))
  have hcD : ∀ q ∈ [(c', oc)], q ∈ rest ∨ ∀ p ∈ (24, tabObj ps) :: rest, p.1 < q.1 := by
    intro q hq
    rw [List.mem_singleton.mp hq]
    refine hcc.imp id fun h p hp => ?_
    rcases List.mem_cons.mp hp with rfl | hp
    · exact h _ (by k_mem)
    · exact h _ (by k_mem)
  k_steps
  rename_i h5 o5 F5 N6 d6
  unfold Hold
  k_call_by "use" (powers_does (x.length : Int) 5 2048 _ _ _ (by omega) (by omega) (by decide) (by decide) (by decide))
  · show dp + 1 + _ < _; omega
  · show u + 3 + _ < _; omega
  · trivial
  · rintro r news' h' tk' dr' F9 N9 ⟨l, lo, kvs, rfl, rfl, lD, hdict, hsort, hkeys, hpow⟩
    k_lt lD
    dsimp only
    k_steps
    rename_i h6 o6 F6 N7 d7
    unfold Hold
    k_call_by "use" (s2i_inner f (L' + 1 + 1 + 1 + 1) (L' + 1) (L' + 1 + 1 + 1) (L' + 1 + 1) l c' doc ((mg (Str.ofString "__name__")).getD Value.none) ctv oc o6 co4 o5 o3 lo ovs t tx _ x kvs _ d4 d5 d7 cd4 d6 d3 ?_ ?_ ?_ ?_ ?_ ?_ ?_ hdict hkeys hpow hx hlen 14 0 x.length _ _ hlen0 (Nat.le_refl _) (by omega) ⟨0, .base⟩)
    case kp => exact rfl
    case kd => show dp + 1 + _ < _; omega
    case ku => show u + 3 + _ < _; omega
    · k_dflt k_mem
    · k_mem
    · k_mem
    · k_mem
    · k_mem
    · k_mem
    · k_mem
    · rintro r news' h' tk' dr' F9 N9 ⟨rfl, t9, rfl⟩
      dsimp only
      k_steps
      rename_i kF kN Tc kX
      refine hret _ ((24, tabObj #[rawInt 46, rawInt 4, .ref c']) :: ([(c', oc)] ++ rest)) _ _ _ kF (fun q hq => kN q ?_) ⟨?_, _, [(c', oc)], rfl, .inr ⟨c', oc, ovs, t, rfl, .head _, d4, d5⟩, hcD⟩
      · rcases List.mem_cons.mp hq with rfl | hq
        · k_mem
        · rcases List.mem_append.mp hq with hq | hq
          · rw [List.mem_singleton.mp hq]; k_mem
          · k_mem
      · refine ktn_int ?_
        unfold dvs
        rw [Nat.sub_zero, List.drop_zero]
        have : x.cps.toList.take x.length = x.cps.toList := List.take_of_length_le (by rw [Array.length_toList]; exact Nat.le_refl _)
        rw [this]
end Mine
end

section
open PySem PySem.NumText PySem.W PyProof.Rows PySem.Builtin PySem.Builtin.Str
set_option Elab.async false
set_option maxRecDepth 100000
namespace Mine
example : (1 : Nat) = 1 := by
  k_with_none
  w_top off
  walk1
theorem getD_in {l : List Nat} {i : Nat} (h : i < l.length) : l.getD i 0 = l[i] := by
  simp [List.getD, h]
theorem rstrip_core {x : PySem.Str} {core tail : List Nat} (hx : x.cps.toList = core ++ tail) (hne : core ≠ []) (hlast : Unicode.isSpace (core.getLast hne) = false) (htail : ∀ c ∈ tail, Unicode.isSpace c = true) : (Txt.rstrip x).cps.toList = core := by
  have hlen : x.length = core.length + tail.length := by
    show x.cps.size = _
    rw [← Array.length_toList, hx, List.length_append]
  have hc0 : 0 < core.length := List.length_pos_iff.mpr hne
  obtain ⟨_, h0, h1, h2⟩ := hi_facts Unicode.isSpace x 0 (Nat.zero_le _)
  unfold Txt.rstrip
  rw [PyProof.Rows.stripBy_eq]
  have elo : stripLo Unicode.isSpace false x = 0 := rfl
  rw [elo, StrLaws.strSub_toList]
  have hhi : stripHi Unicode.isSpace true x 0 = core.length := by
    generalize stripHi Unicode.isSpace true x 0 = hi at h0 h1 h2
    have a1 : hi ≤ core.length := by
      rcases Nat.lt_or_ge core.length hi with h | h
      · rcases h2 with e | e
        · omega
        · rw [← getD_list, hx] at e
          have hm : (core ++ tail).getD (hi - 1) 0 ∈ tail := by
            rw [getD_in (by rw [List.length_append]; omega), List.getElem_append_right (by omega)]
            exact List.getElem_mem _
          rw [htail _ hm] at e
          cases e
      · exact h
    have a2 : core.length ≤ hi := by
      rcases Nat.lt_or_ge hi core.length with h | h
      · have e := h1 (core.length - 1) (by omega) (by omega)
        rw [← getD_list, hx, getD_in (by rw [List.length_append]; omega), List.getElem_append_left (by omega)] at e
        rw [List.getLast_eq_getElem] at hlast
        rw [hlast] at e
        cases e
      · exact h
    omega
  rw [hhi, hx]
  simp
section
variable {prog : Program} {w : World} {A : Around} {E : Value → Shared → Prop} {s : Shared} {x y z : PySem.Str} {t u v : Tok} {Q : Value → Shared → Prop}
theorem rstripT (h : ∀ t' k, s.toks ≤ k → Q (.str (Txt.rstrip x) t') { s with toks := k }) (hsz : x.length ≤ 100000) : wpAny (model prog w) A (call (.builtin "str.rstrip") [.str x t]) Q E s := by
  refine call_gives F.slot_str_rstrip (typeIs_str _ _ _) F.entry_str_rstrip (F.args_str_rstrip_1 _) (gives_str_rstrip x t) ?_
  have h' : ∀ t' k, s.toks ≤ k → Q (.str (if stripSame Unicode.isSpace false true x then x else PySem.stripped Unicode.isSpace false true x) t') { s with toks := k } := h
  by_cases hc : stripSame Unicode.isSpace false true x = true
  · rw [if_pos hc]
    have h2 := h' t s.toks (Nat.le_refl _)
    rw [if_pos hc] at h2
    exact h2
  · rw [if_neg hc]
    have h2 := h' s.toks (s.toks + 1) (Nat.le_succ _)
    rw [if_neg hc] at h2
    exact ⟨fits_stripped _ _ _ (by rw [sizeLine_eq]; omega), h2⟩
end
end Mine
end

section
open PySem PySem.NumText PySem.W PyProof.Rows
set_option Elab.async false
set_option maxRecDepth 100000
namespace Mine
example : (1 : Nat) = 1 := by
  k_with_none
  w_top off
  walk1
/-- as Does, where the counter of tokens has begun -/
def DoesT (prog : Program) (w : World) (p : Program) (loose : List Str) (mean : ExcName → Option Value) (mg mb : Str → Option Value) (dn un : Nat) (f : Addr) (vs : List Value)
    (pre : List (Addr × Obj) → Prop) (post : List (Addr × Obj) → List (Addr × Obj) → Value → Prop) : Prop :=
  ∀ (dp u : Nat) (gd : Option (List Code)) (cn : Str) (cs : Scope) (a : Addr) (ccd : Value) (cl : List (Str × Addr)) (outer : List Env) (A₀ : Around) (base h₀ : Heap) (L : Addr) (m : Str → Option Value) (news : List (Addr × Obj)) (s : Shared)
    (Q : Value → Shared → Prop),
    0 < s.toks → Below A₀ base outer h₀ → Fr h₀ L s.heap m → (Mine.hd.heap_39 w.params).In h₀ → News h₀ L s.heap news → Top p loose mean mg mb h₀ → cs.kind = .function → dp + dn < recursionLimit → u + un < cLine → pre news →
    (∀ r news' h' tk' dr', Fr h₀ L h' m → News h₀ L h' news' → post news news' r → Q r { s with heap := h', toks := tk', drawn := dr' }) →
    wpAny (model prog w) (ktrTop dp u gd cn cs L a ccd cl outer) (call (.ref f) vs) Q (fun _ _ => False) s
section
variable {prog : Program} {w : World} {p : Program} {loose : List Str} {mean : ExcName → Option Value} {mg mb : Str → Option Value} {dn un : Nat} {f : Addr} {vs : List Value}
    {pre : List (Addr × Obj) → Prop} {post : List (Addr × Obj) → List (Addr × Obj) → Value → Prop}
theorem DoesT.use (C : DoesT prog w p loose mean mg mb dn un f vs pre post) {dp u : Nat} {gd : Option (List Code)} {cn : Str} {cs : Scope} {a : Addr} {ccd : Value} {cl : List (Str × Addr)} {outer : List Env} {A₀ : Around} {base h₀ : Heap} {L : Addr} {m : Str → Option Value} {news : List (Addr × Obj)} {s : Shared}
    {Q E : Value → Shared → Prop} (htk : 0 < s.toks)
    (B : Below A₀ base outer h₀) (F : Fr h₀ L s.heap m) (X : (Mine.hd.heap_39 w.params).In h₀) (N : News h₀ L s.heap news) (T : Top p loose mean mg mb h₀) (hk : cs.kind = .function) (hd : dp + dn < recursionLimit) (hu : u + un < cLine) (hpre : pre news)
    (ret : ∀ r news' h' tk' dr', Fr h₀ L h' m → News h₀ L h' news' → post news news' r → Q r { s with heap := h', toks := tk', drawn := dr' }) :
    wpAny (model prog w) (ktrTop dp u gd cn cs L a ccd cl outer) (call (.ref f) vs) Q E s :=
  wpAny_mono (C dp u gd cn cs a ccd cl outer A₀ base h₀ L m news s Q htk B F X N T hk hd hu hpre ret) (fun _ _ h => h) fun _ _ h => h.elim
end
local macro_rules | `(tactic| k_call_by "use" $c:term) => `(tactic| (k_dflt (refine' Does.use $c ?k1 ?k2 ?k3 ?k4 ?k5 ?kK ?kd ?ku ?kp ?_; (case k1 => k_asm); (case k2 => k_asm); (case k3 => k_asm); (case k4 => k_asm); (case k5 => k_asm); (case kK => first | exact rfl | assumption))))
local macro_rules | `(tactic| walk_at $s:str) => if ["call ref", "call builtin:str.rstrip", "call builtin:str.replace"].contains s.getString then `(tactic| refine Hold.out ?_) else Lean.Macro.throwUnsupported
set_option maxHeartbeats 4000000 in
set_option pp.deepTerms false in
set_option pp.deepTerms.threshold 8 in
theorem ifs_does {prog : Program} {w : World} {p : Program} {loose : List Str} {mean : ExcName → Option Value} {mg mb : Str → Option Value} (x : PySem.Str) (tx : Tok) (ps : Array Value) (rest : List (Addr × Obj)) (core tail : List Nat)
    (hx : x.cps.toList = core ++ tail) (hne : core ≠ []) (hlast : Unicode.isSpace (core.getLast hne) = false) (htail : ∀ c ∈ tail, Unicode.isSpace c = true) (hdig : AllDigits (core.filter (· != 95))) (hdn : 0 < (core.filter (· != 95)).length)
    (hlen : x.length ≤ 5000) (h24 : ∀ q ∈ rest, q.1 ≠ 24) (hT : TabSt (Str.ofString "_str_to_int_inner.<locals>.inner") 46 4 ps rest) :
    DoesT prog w p loose mean mg mb 40 400 36 [.str x tx] (fun news => news = (24, tabObj ps) :: rest)
      (fun news news' r => (∃ t, r = .int ((digitsVal (core.filter (· != 95)) : Nat) : Int) t) ∧ ∃ ps' ext, news' = (24, tabObj ps') :: (ext ++ rest) ∧
        TabSt (Str.ofString "_str_to_int_inner.<locals>.inner") 46 4 ps' (ext ++ rest) ∧ (∀ q ∈ ext, q ∈ rest ∨ ∀ p ∈ news, p.1 < q.1)) := by
  unfold DoesT
  intro dp u gd cn cs a ccd cl outer A₀ base h₀ L₀ m news s Q htk B F X N T hk hdp hu hpre hret
  subst hpre
  obtain ⟨sh, sg, sd, tk0, so⟩ := s
  dsimp only at htk F N hret
  refine wpAny_call ?_
  k_dflt ktr_enter
  refine wpAny_mono (E := fun _ _ => False) ?_ (fun _ _ h => h) (fun _ _ h => h.elim)
  generalize hgt : tk0 + List.length _ = tkS
  have htk' : 0 < tkS := by omega
  try k_fold
  k_steps
  unfold Hold
  refine rstripT (fun t1 k1 hk1 => ?_) (by omega)
  dsimp only
  k_steps
  unfold Hold
  have hl1 : (Txt.rstrip x).length ≤ x.length := len_rstrip x
  have hk0 : 0 < k1 := Nat.lt_of_lt_of_le htk' hk1
  have hrep : (Txt.replace (Txt.rstrip x) (Str.ofString "_") (Str.ofString "")).cps.toList = core.filter (· != 95) := by
    have e := replace_strikes (Txt.rstrip x) 95
    rw [rstrip_core hx hne hlast htail] at e
    exact e
  have hrl : (Txt.replace (Txt.rstrip x) (Str.ofString "_") (Str.ofString "")).length = (core.filter (· != 95)).length := by
    rw [← hrep, Array.length_toList]; rfl
  have hrl2 : (core.filter (· != 95)).length ≤ core.length := List.length_filter_le _ _
  have hxl : x.length = core.length + tail.length := by
    show x.cps.size = _
    rw [← Array.length_toList, hx, List.length_append]
  refine SC.replace (Nat.ne_of_gt hk0) (Nat.succ_ne_zero _) (Nat.ne_of_lt (Nat.lt_succ_self _)) (by decide) ?_ fun t2 k2 => ?_
  · have e0 : (Str.ofString "").length = 0 := by decide
    rw [e0]; omega
  dsimp only
  k_steps
  unfold Hold
  k_call_by "use" (s2i_does (Txt.replace (Txt.rstrip x) (Str.ofString "_") (Str.ofString "")) _ ps rest (by rw [hrep]; exact hdig) (by rw [hrl]; exact hdn) (by rw [hrl]; omega) h24 hT)
  · show dp + 1 + _ < _; omega
  · show u + 3 + _ < _; omega
  · rfl
  · rintro r news' h' tk' dr' F9 N9 hp
    dsimp only
    k_steps
    obtain ⟨⟨t, rfl⟩, hp2⟩ := hp
    exact hret _ _ _ _ _ (by assumption) (by assumption) ⟨⟨_, by rw [hrep]⟩, hp2⟩
end Mine
end

section
open PySem PySem.W PyProof.Rows
set_option Elab.async false
set_option maxRecDepth 100000
namespace Mine
example : (1 : Nat) = 1 := by
  k_with_none
  w_top off
  walk1
section
variable {prog : Program} {w : World} {A : Around} {s : Shared} {env : Env}
/-- a turn's end: only the names xs may have turned; J of the names and the ledger -/
def LEndM (g : Heap) (L : Addr) (xs : List Str) (m₀ : Str → Option Value) (s : Shared) (J : (Str → Option Value) → List (Addr × Obj) → Prop) (s₃ : Shared) : Prop :=
  ∃ h tk dr m₁ news₁, s₃ = { s with heap := h, toks := tk, drawn := dr } ∧ Fr g L h m₁ ∧ (∀ y, xs.contains y = false → m₁ y = m₀ y) ∧ News g L h news₁ ∧ J m₁ news₁
theorem fr_pin {g h : Heap} {L : Addr} {m : Str → Option Value} {x : Str} {v : Option Value} (F : Fr g L h m) (e : m x = v) : Fr g L h (fun y => if y = x then v else m y) := by
  have : (fun y => if y = x then v else m y) = m := by
    funext y
    by_cases hy : y = x
    · rw [if_pos hy, hy, e]
    · rw [if_neg hy]
  rw [this]; exact F
theorem fr_pinx {g h : Heap} {L : Addr} {m₀ u : Str → Option Value} {xs : List Str} {x : Str} {v : Option Value} (F : Fr g L h (fun y => if xs.contains y = true then u y else m₀ y)) (e : u x = v) (hc : xs.contains x = true := by decide) : Fr g L h (fun y => if y = x then v else if xs.contains y = true then u y else m₀ y) :=
  fr_pin F (by rw [if_pos hc]; exact e)
theorem while_frm {test : Expr} {body : List Stmt} {pos : Pos} {Q : Flow → Shared → Prop} {g : Heap} {L : Addr} {m₀ : Str → Option Value} {news₀ : List (Addr × Obj)} (xs : List Str) (J : Nat → (Str → Option Value) → List (Addr × Obj) → Prop) {n₀ : Nat}
    (F : Fr g L s.heap m₀) (N : News g L s.heap news₀) (hJ : J n₀ m₀ news₀)
    (turn : ∀ n (u : Str → Option Value) h tk dr news₁, J n u news₁ → Fr g L h (fun y => if xs.contains y = true then u y else m₀ y) → News g L h news₁ →
      wpAny (model prog w) A (isTrue test env (eval test env)) (fun b s₂ => if b = true then wpAny (model prog w) A (execs body env) (fun f s₃ => match f with
        | .next | .cont => LEndM g L xs m₀ s (fun mm nx => ∃ k, k < n ∧ J k mm nx) s₃
        | .brk => Q .next s₃
        | .ret v => Q (.ret v) s₃) (fun _ _ => False) s₂ else Q .next s₂) (fun _ _ => False) { s with heap := h, toks := tk, drawn := dr }) :
    wpAny (model prog w) A (exec (.While test body [] pos) env) Q (fun _ _ => False) s := by
  refine while_any (fun n s' => LEndM g L xs m₀ s (fun mm nx => J n mm nx) s') (fun n s' hI => ?_) n₀ ⟨s.heap, s.toks, s.drawn, m₀, news₀, rfl, F, fun _ _ => rfl, N, hJ⟩
  obtain ⟨h, tk, dr, m₁, news₁, rfl, F₁, e₁, N₁, J₁⟩ := hI
  refine wpAny_mono (turn n m₁ h tk dr news₁ J₁ (fr_over F₁ e₁) N₁) (fun b s₂ h₂ => ?_) fun _ _ x => x
  cases b with
  | false => simpa using h₂
  | true =>
    simp only [if_true] at h₂ ⊢
    refine wpAny_mono h₂ (fun f s₃ h₃ => ?_) fun _ _ x => x
    have fin : LEndM g L xs m₀ s (fun mm nx => ∃ k, k < n ∧ J k mm nx) s₃ → ∃ m, m < n ∧ LEndM g L xs m₀ s (fun mm nx => J m mm nx) s₃ := by
      rintro ⟨h, tk, dr, m₂, news₂, e, F₂, e₂, N₂, k, hk, hJk⟩
      exact ⟨k, hk, h, tk, dr, m₂, news₂, e, F₂, e₂, N₂, hJk⟩
    cases f with
    | next => exact fin h₃
    | cont => exact fin h₃
    | brk => exact h₃
    | ret v => exact h₃

/-- a for over a list of the ledger, its iterator made and in the ledger -/
theorem forL_atm {x : Str} {body : List Stmt} {Q : Flow → Shared → Prop} {g : Heap} {m₀ : Str → Option Value} {news₀ : List (Addr × Obj)} {I l : Addr} {lo io₀ : Obj} {vs : List Value} {e i₀ : Nat} (xs : List Str) (J : Nat → (Str → Option Value) → List (Addr × Obj) → Prop)
    (hh : A.handled = none) (hx : env.kindOf x = some .local) (hp : (env.scope.kind == .class || (env.scope.kind == .module && env.locals != env.globals)) = false) (hlo : lo.cls = .type "list" ∧ lo.data = .seq vs.toArray e) (hi₀ : i₀ ≤ vs.length) (hio : IsIt io₀ l i₀)
    (F : Fr g env.locals s.heap m₀) (N : News g env.locals s.heap ((I, io₀) :: news₀)) (hJ : J i₀ m₀ news₀) (hJl : ∀ i mm nx, J i mm nx → (l, lo) ∈ nx ∧ ∀ p ∈ nx, p.1 ≠ I)
    (turn : ∀ i v (u : Str → Option Value) h tk dr news₁ io, vs[i]? = some v → J i u news₁ → IsIt io l (i + 1) → Fr g env.locals h (fun y => if y = x then some v else if xs.contains y = true then u y else m₀ y) → News g env.locals h ((I, io) :: news₁) →
      wpAny (model prog w) A (execs body env) (fun f s₃ => match f with
        | .next | .cont => LEndM g env.locals (x :: xs) m₀ s (fun mm nx => (I, io) ∈ nx ∧ ∃ nx', (∀ p ∈ nx', p ∈ nx) ∧ J (i + 1) mm nx') s₃
        | .brk => Q .next s₃
        | .ret v => Q (.ret v) s₃) (fun _ _ => False) { s with heap := h, toks := tk, drawn := dr })
    (done : ∀ (u : Str → Option Value) h tk dr news₁, J vs.length u news₁ → Fr g env.locals h (fun y => if (x :: xs).contains y = true then u y else m₀ y) → News g env.locals h news₁ → Q .next { s with heap := h, toks := tk, drawn := dr }) :
    ForAt prog w A env x body Q (.ref I) s := by
  refine ⟨fun n s' => ∃ i, n = vs.length - i ∧ i ≤ vs.length ∧ LEndM g env.locals (x :: xs) m₀ s (fun mm nx => (∃ io, IsIt io l i ∧ (I, io) ∈ nx) ∧ ∃ nx', (∀ p ∈ nx', p ∈ nx) ∧ J i mm nx') s', _,
    ⟨i₀, rfl, hi₀, s.heap, s.toks, s.drawn, m₀, _, rfl, F, fun _ _ => rfl, N, ⟨io₀, hio, .head _⟩, news₀, fun p hp => .tail _ hp, hJ⟩, fun n s' hI => ?_⟩
  obtain ⟨i, rfl, hi, h, tk, dr, m₁, nx, rfl, F₁, e₁, N₁, ⟨io, hio, hIn⟩, nx', hsub, J₁⟩ := hI
  obtain ⟨hln, hoff⟩ := hJl i m₁ nx' J₁
  have hit : h.IsListIter I l i := ⟨_, (N₁ _ hIn).1, hio.1, hio.2⟩
  have hlist : h.IsList l vs.toArray := ⟨lo, (N₁ _ (hsub _ hln)).1, hlo.1, e, hlo.2⟩
  by_cases hlt : i < vs.length
  · refine wpAny_pyNext_list_item (s := { s with heap := h, toks := tk, drawn := dr }) hit hlist (x := vs[i]) (by simp [hlt]) fun h' hit' hs => ?_
    have F₂ : Fr g env.locals h' m₁ := F₁.change hs (N₁ _ hIn).2.1 (N₁ _ hIn).2.2
    refine wpAny_storeName_local hx F₂.ns (fun h'' hn hsb => ?_) hp
    have F₃ := F₂.set hn hsb
    have hIL : I ≠ env.locals := (N₁ _ hIn).2.1
    obtain ⟨io', hio1, hio2, hio3⟩ := hit'
    have N₃ : News g env.locals h'' ((I, io') :: nx') := by
      intro p hp
      rcases List.mem_cons.mp hp with rfl | hp
      · exact ⟨(hsb.2 I hIL).trans hio1, (N₁ _ hIn).2⟩
      · have q := N₁ p (hsub p hp)
        exact ⟨(hsb.2 p.1 q.2.1).trans ((hs.2 p.1 (hoff p hp)).trans q.1), q.2⟩
    have hmap : (fun y => if y = x then some vs[i] else m₁ y) = fun y => if y = x then some vs[i] else if xs.contains y = true then m₁ y else m₀ y := by
      funext y
      by_cases hy : y = x
      · simp [hy]
      · rw [if_neg hy, if_neg hy]
        cases hc : xs.contains y with
        | true => simp
        | false =>
          simp only [Bool.false_eq_true, if_false]
          refine e₁ y ?_
          rw [List.contains_cons, hc]
          simp [hy]
    rw [hmap] at F₃
    refine wpAny_mono (turn i vs[i] m₁ h'' _ dr nx' io' (List.getElem?_eq_getElem hlt) J₁ ⟨hio2, hio3⟩ F₃ N₃) (fun f s₃ h₃ => ?_) fun _ _ x => x
    have fin : LEndM g env.locals (x :: xs) m₀ s (fun mm nx => (I, io') ∈ nx ∧ ∃ nx', (∀ p ∈ nx', p ∈ nx) ∧ J (i + 1) mm nx') s₃ → ∃ m, m < vs.length - i ∧ ∃ i', m = vs.length - i' ∧ i' ≤ vs.length ∧ LEndM g env.locals (x :: xs) m₀ s (fun mm nx => (∃ io, IsIt io l i' ∧ (I, io) ∈ nx) ∧ ∃ nx', (∀ p ∈ nx', p ∈ nx) ∧ J i' mm nx') s₃ := by
      rintro ⟨h, tk, dr, m₂, news₂, e, F₂, e₂, N₂, k1, k2⟩
      exact ⟨vs.length - (i + 1), by omega, i + 1, rfl, hlt, h, tk, dr, m₂, news₂, e, F₂, e₂, N₂, ⟨io', ⟨hio2, hio3⟩, k1⟩, k2⟩
    cases f with
    | next => exact fin h₃
    | cont => exact fin h₃
    | brk => exact h₃
    | ret v => exact h₃
  · have hil : i = vs.length := by omega
    subst hil
    refine wpAny_pyNext_list_end (s := { s with heap := h, toks := tk, drawn := dr }) hh hit hlist (by simp) fun h' hs => ?_
    have hIL : I ≠ env.locals := (N₁ _ hIn).2.1
    obtain ⟨oL, a1, a2, hL, a3⟩ := F₁.ns
    have F₂ : Fr g env.locals h' m₁ := ⟨⟨oL, a1, a2, hs _ _ (Ne.symm hIL) hL, a3⟩, fun b o eb => hs b o (fun q => by have := (N₁ _ hIn).2.2; rw [← q, eb] at this; cases this) (F₁.keep b o eb), F₁.above⟩
    refine done m₁ h' tk dr nx' J₁ (fr_over F₂ e₁) fun p hp => ?_
    have q := N₁ p (hsub p hp)
    exact ⟨hs _ _ (hoff p hp) q.1, q.2⟩
end
end Mine
end

section
open PySem PySem.W PyProof.Rows
set_option Elab.async false
set_option maxRecDepth 100000
namespace Mine
example : (1 : Nat) = 1 := by
  k_with_none
  w_top off
  walk1
theorem datInts : ∀ {vs : List Value} {ns : List Int}, IntsAre vs ns → DatAll [] vs (ns.map Dat.int)
  | _, _, .nil => .nil
  | _, _, .cons n t h => .cons (.int n t) (datInts h)
theorem kqdInts (ns : List Int) : ∀ d ∈ ns.map Dat.int, kqdOk 8 d = true := by
  intro d hd
  obtain ⟨x, _, rfl⟩ := List.mem_map.mp hd
  rfl
theorem map_int_inj : ∀ {ns ms : List Int}, ns.map Dat.int = ms.map Dat.int → ns = ms
  | [], [], _ => rfl
  | [], _ :: _, h => by cases h
  | _ :: _, [], h => by cases h
  | x :: ns, y :: ms, h => by
    rw [List.map_cons, List.map_cons] at h
    injection h with h1 h2
    injection h1 with h1
    rw [h1, map_int_inj h2]
theorem map_int_eq {ns ms : List Int} : (ns.map Dat.int = ms.map Dat.int) ↔ ns = ms := ⟨map_int_inj, fun h => h ▸ rfl⟩
theorem dec_iff {p q : Prop} {i : Decidable p} {j : Decidable q} (h : p ↔ q) : decide p = decide q := by
  by_cases hq : q
  · rw [decide_eq_true hq, decide_eq_true (h.mpr hq)]
  · rw [decide_eq_false hq, decide_eq_false fun hp => hq (h.mp hp)]
theorem map_int_mem {x : Int} {ms : List Int} : (Dat.int x ∈ ms.map Dat.int) ↔ x ∈ ms := by
  constructor
  · intro h
    obtain ⟨y, hy, e⟩ := List.mem_map.mp h
    injection e with e
    exact e ▸ hy
  · exact fun h => List.mem_map.mpr ⟨x, h, rfl⟩
section
variable {prog : Program} {w : World} {A : Around} {E : Value → Shared → Prop} {s : Shared} {h₀ : Heap} {L a b : Addr} {m : Str → Option Value} {news : List (Addr × Obj)} {oa ob : Obj} {vs ws : List Value} {ns ms : List Int} {ka kb : Nat}
theorem lN_ne {Q : Value → Shared → Prop} (N : News h₀ L s.heap news) (ma : (a, oa) ∈ news) (ha : oa.cls = .type "list" ∧ oa.data = .seq vs.toArray ka) (ia : IntsAre vs ns) (mb : (b, ob) ∈ news) (hb : ob.cls = .type "list" ∧ ob.data = .seq ws.toArray kb) (ib : IntsAre ws ms)
    (hu : A.units + 64 < cLine) (h : Q (.bool (!decide (ns = ms))) s) : wpAny (model prog w) A (compareOp .NotEq (.ref a) (.ref b)) Q E s :=
  kqd_ne N ma ha.1 ha.2 (datInts ia) (fun _ h => nomatch h) mb hb.1 hb.2 (datInts ib) (fun _ h => nomatch h) (kqdInts _) (kqdInts _) hu (by
    refine Eq.mp ?_ h
    congr 3
    exact dec_iff map_int_eq.symm)
theorem lN_notIn {x : Int} {t : Tok} {Q : Value → Shared → Prop} (N : News h₀ L s.heap news) (ma : (a, oa) ∈ news) (ha : oa.cls = .type "list" ∧ oa.data = .seq vs.toArray ka) (ia : IntsAre vs ns)
    (hu : A.units + 64 < cLine) (h : Q (.bool (!decide (x ∈ ns))) s) : wpAny (model prog w) A (compareOp .NotIn (.int x t) (.ref a)) Q E s :=
  kqd_notIn N ma ha.1 ha.2 (datInts ia) (fun _ h => nomatch h) (n₂ := []) (.int x t) (fun _ h => nomatch h) (kqdInts _) rfl hu (by
    refine Eq.mp ?_ h
    congr 3
    exact dec_iff map_int_mem.symm)
end
end Mine
end

section
open PySem PySem.W PyProof.Rows PyProof.Rows.LCg PyProof.Rows.LCt
set_option Elab.async false
set_option maxRecDepth 100000
namespace Mine
example : (1 : Nat) = 1 := by
  k_with_none
  w_top off
  walk1
section
variable {prog : Program} {w : World} {A : Around} {s : Shared} {h₀ : Heap} {L : Addr} {m : Str → Option Value} {env : Env}
theorem rest_pick {ct elt : Expr} {x : Str} {scope : Scope} {cl : List (Str × Addr)} {S : List (Addr × Obj) → Prop} {Fin : List Value → List (Addr × Obj) → Prop} {vs : List Value} {ls : List Int} {news : List (Addr × Obj)} (p : Int → Bool) (hi : IntsAre vs ls) (hS : S news)
    (turn : ∀ (n : Int) (t : Tok) (ys : List Value) (I : Addr) (oI : Obj) (C : Addr) (oC : Obj) (D : Addr) (m₂ : Str → Option Value) (h : Heap) (tk : Nat) (E' : Value → Shared → Prop) (Q' : Bool → Shared → Prop),
      n ∈ ls → NsObj oC m₂ → m₂ x = some (.int n t) → Fr h₀ L h m → News h₀ L h ((I, oI) :: (C, oC) :: (D, lst ys) :: news) → Off3 I C D news → ((@Ne Nat I C) ∧ (@Ne Nat I D) ∧ (@Ne Nat C D)) →
      (∀ h' tk', Fr h₀ L h' m → News h₀ L h' ((I, oI) :: (C, oC) :: (D, lst ys) :: news) → Q' (p n) { s with heap := h', toks := tk' }) →
      wpAny (model prog w) A (isTrue ct (compEnvC scope cl C env) (eval ct (compEnvC scope cl C env))) Q' E' { s with heap := h, toks := tk })
    (helt : ∀ (n : Int) (t : Tok) (ys : List Value) (I : Addr) (oI : Obj) (C : Addr) (oC : Obj) (D : Addr) (m₂ : Str → Option Value) (h : Heap) (tk : Nat) (E' : Value → Shared → Prop) (Q' : Value → Shared → Prop),
      n ∈ ls → NsObj oC m₂ → m₂ x = some (.int n t) → Fr h₀ L h m → News h₀ L h ((I, oI) :: (C, oC) :: (D, lst ys) :: news) → Off3 I C D news → ((@Ne Nat I C) ∧ (@Ne Nat I D) ∧ (@Ne Nat C D)) →
      (∀ h' tk', Fr h₀ L h' m → News h₀ L h' ((I, oI) :: (C, oC) :: (D, lst ys) :: news) → Q' (.int n t) { s with heap := h', toks := tk' }) →
      wpAny (model prog w) A (eval elt (compEnvC scope cl C env)) Q' E' { s with heap := h, toks := tk })
    (fin : ∀ ys, IntsAre ys (ls.filter p) → Fin ys news) :
    CompRestT prog w A h₀ L m env ct elt x scope cl s S (fun i v => vs.toArray[i]? = some v) Fin vs.toArray.size 0 [] news := by
  have hl := hi.length
  have key : ∀ k i ys, k + i = vs.length → IntsAre ys ((ls.take i).filter p) → CompRestT prog w A h₀ L m env ct elt x scope cl s S (fun i v => vs.toArray[i]? = some v) Fin k i ys news := by
    intro k
    induction k with
    | zero =>
      intro i ys hk hy
      refine CompRestT.zero (fin ys ?_)
      rw [List.take_of_length_le (by omega)] at hy
      exact hy
    | succ k ih =>
      intro i ys hk hy
      have hil : i < ls.length := by omega
      refine CompRestT.succ fun v I oI C oC D m₂ h tk E' hv hC hx F N off ne => ?_
      obtain ⟨t, ht⟩ := hi.get i ls[i] (List.getElem?_eq_getElem hil)
      have hv' : v = .int ls[i] t := by
        have : vs[i]? = some v := by simpa using hv
        rw [ht] at this
        exact (Option.some.inj this).symm
      subst hv'
      have hm : ls[i] ∈ ls := List.getElem_mem hil
      have htake : ls.take (i + 1) = ls.take i ++ [ls[i]] := by rw [List.take_succ, List.getElem?_eq_getElem hil]; rfl
      refine turn ls[i] t ys I oI C oC D m₂ h tk E' _ hm hC hx F N off ne fun h' tk' F' N' => ?_
      cases hp : p ls[i] with
      | true =>
        simp only [if_true]
        refine helt ls[i] t ys I oI C oC D m₂ h' tk' E' _ hm hC hx F' N' off ne fun h'' tk'' F'' N'' => ?_
        refine ⟨h'', tk'', news, rfl, F'', N'', off, hS, ih (i + 1) _ (by omega) ?_⟩
        rw [htake, List.filter_append]
        refine IntsAre.append hy ?_
        simp only [List.filter_cons, hp, if_true, List.filter_nil]
        exact .cons _ _ .nil
      | false =>
        simp only [Bool.false_eq_true, if_false]
        refine ⟨h', tk', news, rfl, F', N', off, hS, ih (i + 1) _ (by omega) ?_⟩
        rw [htake, List.filter_append]
        simp only [List.filter_cons, hp, Bool.false_eq_true, if_false, List.filter_nil, List.append_nil]
        exact hy
  rw [List.size_toArray]
  exact key vs.length 0 [] rfl (by simpa using IntsAre.nil)
end
end Mine
end

section
namespace Mine
example : (1 : Nat) = 1 := by
  k_with_none
  w_top off
  walk1
theorem wgts_filter {p : Int → Bool} {b : Int} (hp : p b = false) : ∀ {l : List Int}, b ∈ l → wgts (l.filter p) + wgt b ≤ wgts l
  | x :: r, h => by
    have hle : ∀ l : List Int, wgts (l.filter p) ≤ wgts l := by
      intro l
      induction l with
      | nil => exact Nat.le_refl _
      | cons y r ih =>
        rw [List.filter_cons]
        split
        · rw [wgts_cons, wgts_cons]; omega
        · rw [wgts_cons]; omega
    rw [List.filter_cons, wgts_cons]
    rcases List.mem_cons.mp h with rfl | h
    · rw [hp]
      simp only [Bool.false_eq_true, if_false]
      have := hle r
      omega
    · have ih := wgts_filter hp h
      split
      · rw [wgts_cons]; omega
      · omega
theorem filter_len_lt {p : Int → Bool} {b : Int} (hp : p b = false) : ∀ {l : List Int}, b ∈ l → (l.filter p).length + 1 ≤ l.length
  | x :: r, h => by
    rw [List.filter_cons, List.length_cons]
    rcases List.mem_cons.mp h with rfl | h
    · rw [hp]
      simp only [Bool.false_eq_true, if_false]
      have := List.length_filter_le p r
      omega
    · have ih := filter_len_lt hp h
      split
      · rw [List.length_cons]; omega
      · omega
theorem mem_below {big : Int} {ls : List Int} (hm : big ∈ ls) (hmax : ∀ a ∈ ls, a ≤ big) (x : Int) : x ∈ ls ↔ x = big ∨ x ∈ ls.filter (fun x => decide (x < big)) := by
  rw [List.mem_filter, decide_eq_true_iff]
  constructor
  · intro hx
    have := hmax x hx
    by_cases e : x = big
    · exact .inl e
    · exact .inr ⟨hx, by omega⟩
  · rintro (rfl | ⟨h, _⟩)
    · exact hm
    · exact h
theorem ln_skip {n M big : Int} {lS ks ls : List Int} (st : NSt n M (· ∈ lS) (· ∈ ks) (· ∈ ls)) (hm : big ∈ ls) (hmax : ∀ a ∈ ls, a ≤ big) (hle : ¬ M < big) :
    NSt n M (· ∈ lS) (· ∈ ks) (· ∈ ls.filter (fun x => decide (x < big))) ∧ wgts (ls.filter (fun x => decide (x < big))) < wgts ls := by
  refine ⟨st.skip (v := big) (mem_below hm hmax) (.inr (by omega)), ?_⟩
  have := wgts_filter (p := fun x => decide (x < big)) (b := big) (by simp) hm
  have := wgt_pos big
  omega
theorem ln_take {n M big : Int} {lS ks ls : List Int} (hM : 2 ≤ M) (st : NSt n M (· ∈ lS) (· ∈ ks) (· ∈ ls)) (hm : big ∈ ls) (hmax : ∀ a ∈ ls, a ≤ big) (hlt : M < big) :
    NSt n M (· ∈ big :: lS) (· ∈ ks ++ [big / 2]) (· ∈ ls.filter (fun x => decide (x < big)) ++ [big / 2, big - big / 2]) ∧ wgts (ls.filter (fun x => decide (x < big)) ++ [big / 2, big - big / 2]) < wgts ls := by
  refine ⟨st.take (v := big) (todo' := (· ∈ ls.filter (fun x => decide (x < big)))) (mem_below hm hmax) (by omega) (fun x => List.mem_cons) (fun x => ?_) (fun x => ?_), ?_⟩
  · rw [List.mem_append, List.mem_singleton]; exact Or.comm
  · rw [List.mem_append, List.mem_cons, List.mem_singleton]
    constructor
    · rintro (h | h | h)
      · exact .inr (.inr h)
      · exact .inl h
      · rcases Int.emod_two_eq big with o | o
        · exact .inl (by omega)
        · exact .inr (.inl ⟨o, by omega⟩)
    · rintro (h | ⟨o, h⟩ | h)
      · exact .inr (.inl h)
      · exact .inr (.inr (by omega))
      · exact .inl h
  · have h1 := wgts_filter (p := fun x => decide (x < big)) (b := big) (by simp) hm
    have h2 := wgt_halves (v := big) (by omega)
    have h3 : wgts [big / 2, big - big / 2] = wgt (big / 2) + wgt (big - big / 2) := by rw [wgts_cons, wgts_cons]; rfl
    rw [wgts_append, h3]
    omega
theorem ln_below {big : Int} {lS ls : List Int} (hM : 2 < big) (hb : ∀ s ∈ lS, ∀ x ∈ ls, x < s) (hm : big ∈ ls) (hmax : ∀ a ∈ ls, a ≤ big) :
    ∀ s ∈ big :: lS, ∀ x ∈ ls.filter (fun x => decide (x < big)) ++ [big / 2, big - big / 2], x < s := by
  intro s hs x hx
  have hxb : x < big := by
    rcases List.mem_append.mp hx with h | h
    · exact of_decide_eq_true (List.mem_filter.mp h).2
    · rcases List.mem_cons.mp h with rfl | h
      · omega
      · rw [List.mem_singleton.mp h]; omega
  rcases List.mem_cons.mp hs with rfl | hs
  · exact hxb
  · have := hb s hs big hm; omega
theorem ln_fresh {big : Int} {lS ls : List Int} (hb : ∀ s ∈ lS, ∀ x ∈ ls, x < s) (hm : big ∈ ls) : big ∉ lS := fun h => by
  have := hb big h big hm; omega
theorem any_notMem {l : List Int} {n : Int} : (!(l.any fun x => x == n)) = decide (n ∉ l) := by
  by_cases h : n ∈ l
  · have : (l.any fun x => x == n) = true := List.any_eq_true.mpr ⟨n, h, by simp⟩
    rw [this]; simp [h]
  · have : (l.any fun x => x == n) = false := by
      rw [List.any_eq_false]
      intro x hx e
      exact h ((by simpa using e : x = n) ▸ hx)
    rw [this]; simp [h]
theorem dd_step {ks : List Int} {i : Nat} {out : List Int} (hi : i < ks.length) (h : out.Nodup ∧ ∀ x, x ∈ out ↔ x ∈ ks.take i) :
    (if decide (ks[i] ∉ ks.take i) = true then out ++ [ks[i]] else out).Nodup ∧ ∀ x, x ∈ (if decide (ks[i] ∉ ks.take i) = true then out ++ [ks[i]] else out) ↔ x ∈ ks.take (i + 1) := by
  have htake : ks.take (i + 1) = ks.take i ++ [ks[i]] := by rw [List.take_add_one, List.getElem?_eq_getElem hi]; rfl
  by_cases hm : ks[i] ∈ ks.take i
  · rw [if_neg (by simpa using hm), htake]
    refine ⟨h.1, fun x => ?_⟩
    rw [h.2, List.mem_append, List.mem_singleton]
    constructor
    · exact .inl
    · rintro (q | rfl)
      · exact q
      · exact hm
  · rw [if_pos (by simpa using hm), htake]
    refine ⟨?_, fun x => ?_⟩
    · rw [List.nodup_append]
      refine ⟨h.1, by simp, fun a ha b hb => ?_⟩
      rw [List.mem_singleton.mp hb]
      intro e
      rw [e] at ha
      exact hm ((h.2 _).mp ha)
    · rw [List.mem_append, List.mem_append, h.2]
end Mine
end

section
open PySem PySem.Calls PySem.W PyProof.Rows PyProof.Rows.LCg PyProof.V PySem.Spec
set_option Elab.async false
set_option maxRecDepth 100000
namespace Mine
example : (1 : Nat) = 1 := by
  k_with_none
  w_top off
  walk1
section
variable {prog : Program} {w : World} {A : Around} {E : Value → Shared → Prop} {s : Shared} {h₀ : Heap} {L : Addr} {m : Str → Option Value} {env : Env}
theorem enum_loop {iter c : PySem.Expr} {a b : Str} {pa pb tp px : Pos} {kk : Nat} {scope : Scope} {cl : List (Str × Addr)} {pos : Pos} {s₂ : Shared} {e it l D C : Addr} {lo : Obj} {vs : List Value} {k : Nat} {ls : List Int} {news : List (Addr × Obj)} {p : Nat → Int → Bool} {G : Nat → List Int → Prop}
    {R : Result → Shared → Prop} {m₁ : Str → Option Value}
    (hh : A.handled = none) (hkind : scope.kind = .function) (hxa : scope.names.lookup a = some .local) (hxb : scope.names.lookup b = some .local) (hab : ¬ a = b)
    (helt : ∀ (n : Int) (t : Tok) (ys : List Value) (oE oT : Obj) (oC : Obj) (m₂ : Str → Option Value) (h : Heap) (tk : Nat) (E' : Value → Shared → Prop) (Q' : Value → Shared → Prop), NsObj oC m₂ → m₂ b = some (.int n t) → Fr h₀ L h m → News h₀ L h ((e, oE) :: (it, oT) :: (C, oC) :: (D, lst ys) :: news) → Q' (.int n t) { s₂ with heap := h, toks := tk } → wpAny (model prog w) A (eval (.Name b px) (compEnvC scope cl C env)) Q' E' { s₂ with heap := h, toks := tk })
    (F : Fr h₀ L s₂.heap m) (N : News h₀ L s₂.heap ((D, lst []) :: news)) (hE : IsEnum s₂.heap e it 0 .none) (hT : s₂.heap.IsListIter it l 0) (hC : s₂.heap.Ns C m₁) (hl : (l, lo) ∈ news) (hlo : lo.cls = .type "list" ∧ lo.data = .seq vs.toArray k) (hints : IntsAre vs ls)
    (d1 : e ≠ it) (d2 : L ≠ e) (d3 : L ≠ it) (d4 : h₀.get? e = none) (d5 : h₀.get? it = none) (off : ∀ q ∈ news, q.1 ≠ e ∧ q.1 ≠ it ∧ q.1 ≠ C ∧ q.1 ≠ D) (d6 : C ≠ L) (d7 : h₀.get? C = none) (d8 : C ≠ e) (d9 : C ≠ it) (d10 : C ≠ D) (d11 : D ≠ e) (d12 : D ≠ it) (hsz : vs.length ≤ 1000)
    (hG0 : G 0 []) (hG : ∀ i out (hi : i < ls.length), G i out → G (i + 1) (if p i ls[i] then out ++ [ls[i]] else out))
    (turn : ∀ (i : Nat) (n : Int) (t ti : Tok) (ys : List Value) (oE oT : Obj) (oC : Obj) (m₂ : Str → Option Value) (h : Heap) (tk : Nat) (E' : Value → Shared → Prop) (Q' : Bool → Shared → Prop),
      ls[i]? = some n → NsObj oC m₂ → m₂ a = some (.int i ti) → m₂ b = some (.int n t) → Fr h₀ L h m → News h₀ L h ((e, oE) :: (it, oT) :: (C, oC) :: (D, lst ys) :: news) →
      (∀ h' tk', Fr h₀ L h' m → News h₀ L h' ((e, oE) :: (it, oT) :: (C, oC) :: (D, lst ys) :: news) → Q' (p i n) { s₂ with heap := h', toks := tk' }) →
      wpAny (model prog w) A (isTrue c (compEnvC scope cl C env) (eval c (compEnvC scope cl C env))) Q' E' { s₂ with heap := h, toks := tk })
    (fin : ∀ (h : Heap) (tk : Nat) (ys : List Value) (out : List Int) m', Fr h₀ L h m → News h₀ L h ((D, lst ys) :: news) → h.Ns C m' → IntsAre ys out → G ls.length out → R (.ok .next) { s₂ with heap := h, toks := tk }) :
    codeAny (model prog w) A (.compLoop (.ListComp (.Name b px) [⟨.Tuple [.Name a pa, .Name b pb] kk tp, iter, [c], 0⟩] scope pos) 0 (.ref e) (.ref D) (compEnvC scope cl C env)) R s₂ := by
  have hvl : vs.length = ls.length := hints.length
  have W := WalksT.enumerate (prog := prog) (w := w) hh e it l d1 (off _ hl).1 (off _ hl).2.1 vs.toArray
  refine kct_loop (fun q s' => ∃ h' tk i ys out m', s' = { s₂ with heap := h', toks := tk } ∧ i ≤ vs.length ∧ q = vs.length + 1 - i ∧ ys.length ≤ i ∧ (∃ old, IsEnum h' e it i old) ∧ h'.IsListIter it l i ∧ Fr h₀ L h' m ∧ h'.Ns C m' ∧ News h₀ L h' ((D, lst ys) :: news) ∧ IntsAre ys out ∧ G i out) ?_ (vs.length + 1)
    ⟨s₂.heap, s₂.toks, 0, [], [], _, rfl, Nat.zero_le _, rfl, Nat.le_refl _, ⟨_, hE⟩, hT, F, hC, N, .nil, hG0⟩
  rintro q s' ⟨h', tk, i, ys, out, m', rfl, hi, rfl, hyl, hE', hT', F', hC', N', hio, hGi⟩
  have hlist : h'.IsList l vs.toArray := ⟨lo, (N' _ (.tail _ hl)).1, hlo.1, k, hlo.2⟩
  have offD : ∀ q ∈ (D, lst ys) :: news, q.1 ≠ e ∧ q.1 ≠ it ∧ q.1 ≠ C := fun q hq => by
    rcases List.mem_cons.mp hq with rfl | hq
    · exact ⟨d11, d12, Ne.symm d10⟩
    · exact ⟨(off q hq).1, (off q hq).2.1, (off q hq).2.2.1⟩
  by_cases hlt : i < vs.length
  · refine W.item i _ _ _ (by simpa using hlt) ⟨hE', hT', hlist⟩ fun T vals h₂ tk₂ hP hTn hTup hMid hk₂ => ?_
    refine W.go _ _ _ i T _ _ _ hMid fun h₃ hst₃ hk₃ => ?_
    obtain ⟨ti, x, hx, rfl⟩ := hP
    have up₃ : ∀ c o, c ≠ e → c ≠ it → h'.get? c = some o → h₃.get? c = some o := fun c o h1 h2 g => hk₃ c o (by simp [h1, h2]) (hk₂ c o (by simp [h1, h2]) g)
    have hap := W.apart i T _ hMid
    have hTup₃ : h₃.IsTuple T #[.int i ti, x] := by
      obtain ⟨o, ho, r⟩ := hTup
      exact ⟨o, hk₃ _ _ hap ho, r⟩
    refine kcp_assign (env := compEnvC scope cl C env) hh hTup₃ (lookup_relabel_local hxa) (lookup_relabel_local hxb) (by simp [compEnvC, relabel, hkind]) (hC'.at' fun o g => up₃ _ o d8 d9 g) fun h₄ tk₄ hn₄ hs₄ => ?_
    have up : ∀ c o, c ≠ e → c ≠ it → c ≠ C → h'.get? c = some o → h₄.get? c = some o := fun c o h1 h2 h3 g => hs₄ c o h3 (up₃ c o h1 h2 g)
    obtain ⟨⟨old, hE₃⟩, ⟨oT, hoT, hT₃⟩, _⟩ := hst₃
    obtain ⟨oE, hoE, hE₅⟩ : ∃ oE : Obj, h₄.get? e = some oE ∧ ∀ h : Heap, h.get? e = some oE → IsEnum h e it ((i + 1 : Nat) : Int) old := ⟨_, hs₄ e _ (Ne.symm d8) hE₃, fun _ g => g⟩
    have hT₄ : h₄.get? it = some oT := hs₄ it _ (Ne.symm d9) hoT
    obtain ⟨oC, heC, hoC⟩ := ns_obj hn₄
    have F₄ : Fr h₀ L h₄ m := ⟨F'.ns.at' fun o g => up _ o d2 d3 (Ne.symm d6) g, fun c o g => up c o (fun q => by rw [q, d4] at g; cases g) (fun q => by rw [q, d5] at g; cases g) (fun q => by rw [q, d7] at g; cases g) (F'.keep c o g), F'.above⟩
    have N₄ : News h₀ L h₄ ((e, oE) :: (it, oT) :: (C, oC) :: (D, lst ys) :: news) := fun q hq => by
      rcases List.mem_cons.mp hq with rfl | hq
      · exact ⟨hoE, Ne.symm d2, d4⟩
      · rcases List.mem_cons.mp hq with rfl | hq
        · exact ⟨hT₄, Ne.symm d3, d5⟩
        · rcases List.mem_cons.mp hq with rfl | hq
          · exact ⟨heC, d6, d7⟩
          · have z := N' q hq
            have o := offD q hq
            exact ⟨up _ _ o.1 o.2.1 o.2.2 z.1, z.2⟩
    have hil : i < ls.length := by omega
    obtain ⟨t, ht⟩ := hints.get i ls[i] (List.getElem?_eq_getElem hil)
    have hxv : x = .int ls[i] t := by
      have : vs[i]? = some x := by simpa using hx
      rw [ht] at this
      exact (Option.some.inj this).symm
    subst hxv
    have close : ∀ (ys' : List Value) (out' : List Int) (h₅ : Heap) (tk₅ : Nat), ys'.length ≤ i + 1 → Fr h₀ L h₅ m → News h₀ L h₅ ((e, oE) :: (it, oT) :: (C, oC) :: (D, lst ys') :: news) → IntsAre ys' out' → G (i + 1) out' →
        ∃ q', q' < vs.length + 1 - i ∧ ∃ h' tk i ys out m', ({ s₂ with heap := h₅, toks := tk₅ } : Shared) = { s₂ with heap := h', toks := tk } ∧ i ≤ vs.length ∧ q' = vs.length + 1 - i ∧ ys.length ≤ i ∧ (∃ old, IsEnum h' e it i old) ∧ h'.IsListIter it l i ∧ Fr h₀ L h' m ∧ h'.Ns C m' ∧ News h₀ L h' ((D, lst ys) :: news) ∧ IntsAre ys out ∧ G i out := by
      intro ys' out' h₅ tk₅ hl5 F₅ N₅ hi5 hG5
      exact ⟨vs.length + 1 - (i + 1), by omega, h₅, tk₅, i + 1, ys', out', _, rfl, hlt, rfl, hl5, ⟨_, hE₅ _ (N₅ _ (.head _)).1⟩, ⟨oT, (N₅ _ (.tail _ (.head _))).1, hT₃⟩, F₅, hoC.ns (N₅ _ (.tail _ (.tail _ (.head _)))).1, fun q hq => N₅ q (.tail _ (.tail _ (.tail _ hq))), hi5, hG5⟩
    have hGn := hG i out hil hGi
    refine turn i ls[i] t ti ys oE oT oC _ h₄ tk₄ _ _ (List.getElem?_eq_getElem hil) hoC (by simp [hab]) (by simp) F₄ N₄ fun h₅ tk₅ F₅ N₅ => ?_
    cases hp : p i ls[i] with
    | false =>
      rw [hp] at hGn
      simp only [Bool.false_eq_true, if_false] at hGn ⊢
      exact close ys out h₅ tk₅ (by omega) F₅ N₅ hio hGn
    | true =>
      rw [hp] at hGn
      simp only [if_true] at hGn ⊢
      refine helt ls[i] t ys oE oT oC _ h₅ tk₅ _ _ hoC (by simp) F₅ N₅ ?_
      have zD := (N₅ (D, lst ys) (.tail _ (.tail _ (.tail _ (.head _))))).1
      refine append_at (hsz := by show ys.toArray.size ≤ sizeLine; rw [List.size_toArray, sizeLine_eq]; omega) zD fun h₆ hs₆ hD₆ => ?_
      have nD := (N₅ (D, lst ys) (.tail _ (.tail _ (.tail _ (.head _))))).2
      refine close (ys ++ [.int ls[i] t]) (out ++ [ls[i]]) h₆ _ (by rw [List.length_append, List.length_singleton]; omega) (F₅.change hs₆ nD.1 nD.2) (fun q hq => ?_) (hio.append (.cons _ _ .nil)) hGn
      rcases List.mem_cons.mp hq with rfl | hq
      · have z := N₅ _ (.head _); exact ⟨hs₆.extBut _ _ (Ne.symm d11) z.1, z.2⟩
      · rcases List.mem_cons.mp hq with rfl | hq
        · have z := N₅ _ (.tail _ (.head _)); exact ⟨hs₆.extBut _ _ (Ne.symm d12) z.1, z.2⟩
        · rcases List.mem_cons.mp hq with rfl | hq
          · have z := N₅ _ (.tail _ (.tail _ (.head _))); exact ⟨hs₆.extBut _ _ d10 z.1, z.2⟩
          · rcases List.mem_cons.mp hq with rfl | hq
            · exact ⟨hD₆.trans (congrArg some (lst_snoc ys _)), nD⟩
            · have z := N₅ q (.tail _ (.tail _ (.tail _ (.tail _ hq))))
              exact ⟨hs₆.extBut _ _ (off q hq).2.2.2 z.1, z.2⟩
  · have hin : i = vs.length := by omega
    subst hin
    refine W.done _ _ _ ⟨by simpa using hE', by simpa using hT', hlist⟩ fun h₂ tk₂ hk₂ => ?_
    have up : ∀ c o, c ≠ e → c ≠ it → h'.get? c = some o → h₂.get? c = some o := fun c o h1 h2 g => hk₂ c o (by simp [h1, h2]) g
    exact fin h₂ tk₂ ys out _ ⟨F'.ns.at' fun o g => up _ o d2 d3 g, fun c o g => up c o (fun q => by rw [q, d4] at g; cases g) (fun q => by rw [q, d5] at g; cases g) (F'.keep c o g), F'.above⟩ (fun q hq => ⟨up _ _ (offD q hq).1 (offD q hq).2.1 (N' q hq).1, (N' q hq).2⟩) (hC'.at' fun o g => up _ o d8 d9 g) hio (hvl ▸ hGi)
/-- `[b for a, b in enumerate(l) if c]`, l a list of ints of the ledger, at its source -/
inductive EnumSrc (prog : Program) (w : World) (A : Around) (h₀ : Heap) (L : Addr) (m : Str → Option Value) (env : Env) (c : PySem.Expr) (a b : Str) (px : Pos) (scope : Scope) (cl : List (Str × Addr)) (Q : Value → Shared → Prop) (xv : Value) (s₁ : Shared) : Prop
  | mk (e it l : Addr) (lo : Obj) (vs : List Value) (k : Nat) (ls : List Int) (news : List (Addr × Obj)) (p : Nat → Int → Bool) (G : Nat → List Int → Prop)
    (_ : xv = .ref e)
    (_ : A.handled = none)
    (_ : Fr h₀ L s₁.heap m)
    (_ : News h₀ L s₁.heap news)
    (_ : IsEnum s₁.heap e it 0 .none)
    (_ : s₁.heap.IsListIter it l 0)
    (_ : (l, lo) ∈ news)
    (_ : (lo.cls = .type "list" ∧ lo.data = .seq vs.toArray k))
    (_ : IntsAre vs ls)
    (_ : e ≠ it)
    (_ : L ≠ e)
    (_ : L ≠ it)
    (_ : h₀.get? e = none)
    (_ : h₀.get? it = none)
    (_ : (∀ q ∈ news, q.1 ≠ e ∧ q.1 ≠ it))
    (_ : vs.length ≤ 1000)
    (_ : G 0 [])
    (_ : (∀ i out (hi : i < ls.length), G i out → G (i + 1) (if p i ls[i] then out ++ [ls[i]] else out)))
    (_ : (∀ (n : Int) (t : Tok) (ys : List Value) (oE oT : Obj) (C : Addr) (oC : Obj) (D : Addr) (m₂ : Str → Option Value) (h : Heap) (tk : Nat) (E' : Value → Shared → Prop) (Q' : Value → Shared → Prop),
      NsObj oC m₂ → m₂ b = some (.int n t) → Fr h₀ L h m → News h₀ L h ((e, oE) :: (it, oT) :: (C, oC) :: (D, lst ys) :: news) → Q' (.int n t) { s₁ with heap := h, toks := tk } → wpAny (model prog w) A (eval (.Name b px) (compEnvC scope cl C env)) Q' E' { s₁ with heap := h, toks := tk }))
    (_ : (∀ (i : Nat) (n : Int) (t ti : Tok) (ys : List Value) (oE oT : Obj) (C : Addr) (oC : Obj) (D : Addr) (m₂ : Str → Option Value) (h : Heap) (tk : Nat) (E' : Value → Shared → Prop) (Q' : Bool → Shared → Prop),
      ls[i]? = some n → NsObj oC m₂ → m₂ a = some (.int i ti) → m₂ b = some (.int n t) → Fr h₀ L h m → News h₀ L h ((e, oE) :: (it, oT) :: (C, oC) :: (D, lst ys) :: news) →
      (∀ h' tk', Fr h₀ L h' m → News h₀ L h' ((e, oE) :: (it, oT) :: (C, oC) :: (D, lst ys) :: news) → Q' (p i n) { s₁ with heap := h', toks := tk' }) →
      wpAny (model prog w) A (isTrue c (compEnvC scope cl C env) (eval c (compEnvC scope cl C env))) Q' E' { s₁ with heap := h, toks := tk }))
    (_ : (∀ (D : Addr) (h : Heap) (tk : Nat) (ys : List Value) (out : List Int), Fr h₀ L h m → News h₀ L h ((D, lst ys) :: news) → IntsAre ys out → G ls.length out → Q (.ref D) { s₁ with heap := h, toks := tk })) : EnumSrc prog w A h₀ L m env c a b px scope cl Q xv s₁
theorem enum_comp {iter c : PySem.Expr} {a b : Str} {pa pb tp px : Pos} {kk : Nat} {scope : Scope} {cl : List (Str × Addr)} {pos : Pos} {Q : Value → Shared → Prop} (_F₀ : Fr h₀ L s.heap m)
    (hclos : closureFor scope env = pure cl) (hcell : ∀ y ∈ scope.names, y.2 ≠ .cell) (hkind : scope.kind = .function)
    (hnames : ∀ y ∈ scope.names, y.2 = .local → scope.names.lookup y.1 = some .local) (hxa : scope.names.lookup a = some .local) (hxb : scope.names.lookup b = some .local) (hab : ¬ a = b)
    (h : wpAny (model prog w) A (eval iter env) (EnumSrc prog w A h₀ L m env c a b px scope cl Q) E s)
    (hs : ∀ x, foldedSetIterable iter env x = pure x := by intro _; rfl) :
    wpAny (model prog w) A (eval (.ListComp (.Name b px) [⟨.Tuple [.Name a pa, .Name b pb] kk tp, iter, [c], 0⟩] scope pos) env) Q E s := by
  rw [eval_ListComp]
  refine wpAny_comprehension_free (use := none) rfl hs hclos hkind hnames (wpAny_mono h (fun xv s₁ h₁ => ?_) fun _ _ e => e)
  obtain ⟨e, it, l, lo, vs, k, ls, news, p, G, rfl, hh, F, N, hE, hT, hl, hlo, hints, d1, d2, d3, d4, d5, off, hsz, hG0, hG, helt, turn, fin⟩ := h₁
  refine wpAny_pyIter_enum hE ?_
  refine wpAny_newObj_type (wpAny_newFunctionEnv hcell (by intro y hy; simp at hy) (fun h₁ hns₁ hsb₁ => ?_) hkind)
  dsimp only at hns₁ hsb₁ ⊢
  generalize hH2 : s₁.heap.push { cls := .type "list", dict := none, data := .seq ([] : List Value).toArray } = H2 at hns₁ hsb₁ ⊢
  have hC : H2.objs.size = s₁.heap.objs.size + 1 := by rw [← hH2, Heap.size_push]
  have hDC : s₁.heap.objs.size ≠ H2.objs.size := by rw [hC]; exact Nat.ne_of_lt (Nat.lt_succ_self _)
  have below : ∀ b, b < s₁.heap.objs.size → b ≠ H2.objs.size ∧ b ≠ s₁.heap.objs.size := fun b hb => ⟨by rw [hC]; exact Nat.ne_of_lt (Nat.lt_succ_of_lt hb), Nat.ne_of_lt hb⟩
  have hElt : e < s₁.heap.objs.size := Heap.lt_size hE
  have hTlt : it < s₁.heap.objs.size := by obtain ⟨_, x, _⟩ := id hT; exact Heap.lt_size x
  have old : ∀ b o, s₁.heap.get? b = some o → h₁.get? b = some o := fun b o e => hsb₁.extBut b o (below b (Heap.lt_size e)).1 (Heap.get?_push_of_some _ (hH2 ▸ Heap.get?_push_of_some _ e))
  have hacc : h₁.get? s₁.heap.objs.size = some (lst []) := hsb₁.extBut _ _ hDC (Heap.get?_push_of_some _ (hH2 ▸ Heap.get?_push_size _ rfl))
  have fresh : ∀ a, s₁.heap.objs.size ≤ a → s₁.heap.get? a = none := fun a ha => by
    cases e : s₁.heap.get? a with
    | none => rfl
    | some o' => exact absurd (Heap.lt_size e) (Nat.not_lt.mpr ha)
  have fresh₀ : ∀ a, s₁.heap.objs.size ≤ a → h₀.get? a = none := fun a ha => by
    cases e : h₀.get? a with
    | none => rfl
    | some o' => have := F.keep a o' e; rw [fresh a ha] at this; cases this
  have hD₀ : h₀.get? s₁.heap.objs.size = none := fresh₀ _ (Nat.le_refl _)
  have hC₀ : h₀.get? H2.objs.size = none := fresh₀ _ (by rw [hC]; exact Nat.le_succ _)
  have hLlt : L < s₁.heap.objs.size := F.ns.lt
  have hDL : s₁.heap.objs.size ≠ L := Ne.symm (below L hLlt).2
  have hCL : H2.objs.size ≠ L := Ne.symm (below L hLlt).1
  obtain ⟨oT, hoT, hT'⟩ := hT
  have N₁ : News h₀ L h₁ ((s₁.heap.objs.size, lst []) :: news) := fun q hq => by
    rcases List.mem_cons.mp hq with rfl | hq
    · exact ⟨hacc, hDL, hD₀⟩
    · exact ⟨old _ _ (N q hq).1, (N q hq).2⟩
  refine codeAny_compStart_list ?_ (wpAny_pyIter_enum (old _ _ hE) ?_)
  all_goals
    refine enum_loop hh hkind hxa hxb hab (fun n t ys oE oT oC m₂ h tk E' Q' => helt n t ys oE oT _ oC _ m₂ h tk E' Q') (F.keeps old) N₁ (old _ _ hE) ⟨oT, old _ _ hoT, hT'⟩ hns₁ hl hlo hints d1 d2 d3 d4 d5
      (fun q hq => ⟨(off q hq).1, (off q hq).2, (below _ (Heap.lt_size (N q hq).1)).1, (below _ (Heap.lt_size (N q hq).1)).2⟩) hCL hC₀ (Ne.symm (below e hElt).1) (Ne.symm (below it hTlt).1) (Ne.symm hDC) (Ne.symm (below e hElt).2) (Ne.symm (below it hTlt).2) hsz hG0 hG
      (fun i n t ti ys oE oT oC m₂ h tk E' Q' => turn i n t ti ys oE oT _ oC _ m₂ h tk E' Q') ?_
    intro h tk ys out m' F' N' hn hio hGo
    refine ⟨m', hn, fun h'' hs'' => fin _ h'' tk ys out (F'.change hs'' hCL hC₀) (fun q hq => ?_) hio hGo⟩
    refine ⟨hs''.extBut _ _ ?_ (N' q hq).1, (N' q hq).2⟩
    rcases List.mem_cons.mp hq with rfl | hq
    · exact hDC
    · exact (below _ (Heap.lt_size (N q hq).1)).1
end
end Mine
end

section
open PySem PySem.NumText PySem.W PyProof.Rows
set_option Elab.async false
set_option maxRecDepth 100000
namespace Mine
example : (1 : Nat) = 1 := by
  k_with_none
  k_with "o21" => k_here; k_dflt (refine' lN_ne (by k_asm) (by k_mem) (by exact ⟨rfl, rfl⟩) (by assumption) (by k_mem) (by exact ⟨rfl, rfl⟩) (by first | exact .nil | assumption) (by ke_room) ?_)
  w_top off
  walk1
local macro_rules | `(tactic| k_all) => `(tactic| first | assumption | (refine' all_ne_lt ?h ?e; (case h => assumption); (case e => (try dsimp only); omega)))
local macro_rules | `(tactic| k_mem) => `(tactic| assumption)
local macro_rules | `(tactic| walk_at $s:str) => if ["exec While Compare cons nil", "binaryOp Add ref ref", "call type:enumerate", "call builtin:sorted", "call builtin:max", "exec Assign cons ListComp", "eval ListComp"].contains s.getString then `(tactic| refine Hold.out ?_) else Lean.Macro.throwUnsupported
local macro_rules | `(tactic| walk_at "compareOp NotEq ref ref") => `(tactic| k_extra "o21")
set_option maxHeartbeats 400000 in
set_option pp.deepTerms false in
set_option pp.deepTerms.threshold 8 in
theorem need_does {prog : Program} {w : World} {p : Program} {loose : List Str} {mean : ExcName → Option Value} {mg mb : Str → Option Value} (n M : Int) (tn tM : Tok) (hn : 0 ≤ n) (hn2 : n ≤ 10000) (hM : 2 ≤ M) :
    Does prog w p loose mean mg mb 10 300 62 [.int n tn, .int M tM] (fun _ => True)
      (fun news news' r => ∃ l vs e ks, r = .ref l ∧ news' = (l, seqObj "list" vs.toArray e) :: news ∧ (∀ q ∈ news, q.1 < l) ∧ IntsAre vs ks ∧ ks.Pairwise (· < ·) ∧ (∀ k, k ∈ ks ↔ Need n M k)) := by
  unfold Does
  intro dp u gd cn cs a ccd cl outer A₀ base h₀ L m news s Q B F X N T hk hd hu hpre hret
  refine wpAny_call ?_
  k_dflt (refine' code_defC ?k1 ?k2 ?k3 ?k4 ?k5 ?kA ?kF ?kK ?k6 ?k7 ?k8 ?k9 ?kB ?kD ?_ ?c2 ?c3 ?c4; (case kA => exact rfl); (case kF => exact rfl); (case kK => assumption); (case k1 => k_asm); (case k2 => k_asm); (case k3 => k_asm); (case k4 => k_asm); (case k5 => k_asm); (case k6 => k_is); (case k7 => k_is); (case k8 => ktr_room); (case k9 => exact BindsTo.of_eq rfl); (case kB => exact rfl); (case kD => decide +kernel); (case c2 => exact rfl); (case c3 => exact rfl); (case c4 => exact rfl); k_whole; intro g' L' h' tk' cells' FG' F' N' Y' B' X' T' l1; (try k_lt l1); k_cells Y'; (try simp only [List.cons_append, List.nil_append] at N'); (try dsimp only))
  rename_i co1 co2 cd1 cd2
  have lb := allLt_of l1
  refine wpAny_mono (E := fun _ _ => False) ?_ (fun _ _ h => h) (fun _ _ h => h.elim)
  try k_fold
  k_steps
  rename_i lL h1 l1L h2 tk0 lN h3 l1N h4 o4 F4 N4 d4
  unfold Hold
  refine while_frm [Str.ofString "lengths", Str.ofString "low"] (fun k mm nx => ∃ lL vs e ls lN vN eN lN' lS oL cL oN, mm (Str.ofString "lengths") = some (.ref lL) ∧
      nx = (lL, listOf vs.toArray e) :: (lN, listOf vN.toArray eN) :: (L' + 1 + 1, oL) :: (L' + 1, oN) :: news ∧ oL.data = .cell cL ∧ oN.data = .cell (some (.ref lN)) ∧ @Ne Nat lL lN ∧ @LT.lt Nat _ (L' + 2) lN ∧ (@Ne Nat lL (L' + 2) ∧ @Ne Nat lL (L' + 1)) ∧
      IntsAre vs ls ∧ IntsAre vN lN' ∧ NSt n M (· ∈ lS) (· ∈ lN') (· ∈ ls) ∧ lS.Nodup ∧ (∀ s ∈ lS, ∀ x ∈ ls, x < s) ∧ lN'.length = lS.length ∧ ls.length ≤ lS.length + 1 ∧ k = wgts ls) F4 (news₀ := (lL, listOf [.int n tn].toArray 0) :: (lN, listOf [].toArray 0) :: (L' + 1 + 1, co1) :: (L' + 1, o4) :: news)
      (fun q hq => N4 q ?_) ⟨lL, [.int n tn], 0, [n], lN, [], 0, [], [], co1, _, o4, rfl, rfl, cd1, d4, by omega, by omega, ⟨by omega, by omega⟩, .cons _ _ .nil, .nil, (NSt.init n M).congr (fun _ => by simp) (fun _ => by simp) (fun x => by simp), .nil, (fun _ h => nomatch h), rfl, Nat.le_refl _, rfl⟩ ?_
  · rcases List.mem_cons.mp hq with rfl | hq
    · k_mem
    · rcases List.mem_cons.mp hq with rfl | hq
      · k_mem
      · exact .tail _ (.tail _ hq)
  rintro k u h tk dr nx ⟨lL, vs, e, ls, lN, vN, eN, ks, lS, oL, cL, oN, hmm, rfl, hoL, hoN, hne, hlt1, hlt2, hints, hintN, st, hnd, hbelow, hlenN, hlenL, rfl⟩ F1 N1
  have F1 := fr_pinx F1 hmm
  clear F4 N4 cd1 d4 l1L l1N
  have b1 := st.seen_len hn (by omega) hM hnd
  have lsn : ls ≠ [] → 0 < ls.length := List.length_pos_iff.mpr
  k_steps
  · rename_i l9 h9 F9 N9 l9a hne9
    have hls0 : ls = [] := by
      simpa using hne9
    have fin := st.done (fun x => by rw [hls0]; exact List.not_mem_nil)
    have hvN : vN.length = ks.length := hintN.length
    unfold Hold
    k_dflt (refine enum_comp (_F₀ := by k_asm) (by with_unfolding_all rfl) (by decide) (by rfl) (by decide) (by rfl) (by rfl) (by decide) ?_)
    k_steps
    unfold Hold
    refine call_enumerate_list (News.isList N9 (by k_mem)) fun h10 hE hT hsz hk10 => ?_
    dsimp only at hE hT hsz hk10
    have hL9 : L' < h9.objs.size := F9.ns.lt
    have fr9 : ∀ q, h9.objs.size ≤ q → g'.get? q = none := fun q hq => Heap.get?_none_of_le (Nat.le_trans F9.above (Nat.le_trans (Nat.le_of_lt hL9) hq))
    refine ⟨_, _, lN, listOf vN.toArray eN, vN, eN, ks, _, fun i n => decide (n ∉ ks.take i), fun i out => out.Nodup ∧ ∀ x, x ∈ out ↔ x ∈ ks.take i, rfl, rfl, F9.keeps hk10, fun q hq => ⟨hk10 _ _ (N9 q hq).1, (N9 q hq).2⟩, hE, hT, by k_mem, ⟨rfl, rfl⟩, hintN, Nat.succ_ne_self _, Nat.ne_of_lt (Nat.lt_succ_of_lt hL9), Nat.ne_of_lt hL9, fr9 _ (Nat.le_succ _), fr9 _ (Nat.le_refl _),
      fun q hq => ⟨Nat.ne_of_lt (Nat.lt_succ_of_lt (Heap.lt_size (N9 q hq).1)), Nat.ne_of_lt (Heap.lt_size (N9 q hq).1)⟩, by omega, ⟨.nil, fun x => by rw [List.take_zero]⟩, fun i out hi h => dd_step hi h, ?_, ?_, ?_⟩
    · intro n1 t1 ys oE oT C oC D m₂ h11 tk11 E' Q' hC hx F11 N11 hq
      k_steps
      exact hq
    · intro i n1 t1 ti ys oE oT C oC D m₂ h11 tk11 E' Q' hin hC hxa hxb F11 N11 hq
      k_steps
      rename_i D15 w15 h15 F15 N15 a1 a2 a3 a4 a5 a6
      rw [Int.toNat_natCast, any_notMem]
      exact hq _ _ F15 (fun q hq => N15 q (.tail _ hq))
    · intro D h11 tk11 ys out F11 N11 hio hG
      rw [List.take_of_length_le (Nat.le_refl _)] at hG
      have hout : out.length ≤ ks.length := length_le_of_nodup hG.1 fun x hx => (hG.2 x).mp hx
      dsimp only
      k_steps
      unfold Hold
      refine kso_sorted F11 N11 (News.isList N11 (.head _)) hio (by omega) fun D12 vs12 ns12 c12 h12 F12 N12 l12 hi12 hl12 hp12 hs12 _ => ?_
      dsimp only
      k_steps
      rename_i kF kN kT kX
      refine hret _ ((D12, seqObj "list" vs12.toArray c12) :: news) _ _ _ (by assumption) (fun q hq => ?_) ⟨D12, vs12, c12, ns12, rfl, rfl, fun q hq => l12 q (by k_mem), hi12, rising_of hs12 (hp12.nodup_iff.mpr hG.1), fun k => ?_⟩
      · exact kN q (by
          rcases List.mem_cons.mp hq with rfl | hq
          · exact .head _
          · k_mem)
      · rw [hp12.mem_iff, hG.2, fin]
  · rename_i l9 h9 F9 N9 l9a hne9
    unfold Hold
    refine kso_max (by assumption) (by assumption) (vs := vs) (News.isList (by assumption) (by k_mem)) hints (lsn (by simpa using hne9)) rfl fun h10 big tb tk10 F10 N10 hbig hmax => ?_
    dsimp only
    k_steps
    rename_i h99 o9 F99 N99 d9
    unfold Hold
    k_dflt (refine LCt.Assign_ListComp_T (F₀ := by k_asm) (by rfl) (by with_unfolding_all rfl) (by with_unfolding_all rfl) (by decide) (by rfl) (by decide) (by rfl) (by rfl) (by rfl) ?_)
    k_dflt walk1
    have hvl : vs.length = ls.length := hints.length
    refine LCt.CompSrcT.ledger (by rfl) (by assumption) (by assumption) (ax := lL) (its := vs.toArray) (k := e) (by k_mem) (by rw [List.size_toArray, sizeLine_eq]; omega) fun g9 => ?_
    refine rest_pick (fun x => decide (x < big)) hints ?_ ?_ ?_ ?_
    · exact .inr ⟨_, by k_mem, rfl, _, rfl⟩
    · intro n1 t1 ys I oI C oC D m₂ h11 tk11 E' Q' hn1 hC hx F11 N11 off ne hq
      k_steps
      exact hq _ _ F11 N11
    · intro n1 t1 ys I oI C oC D m₂ h11 tk11 E' Q' hn1 hC hx F11 N11 off ne hq
      k_steps
      exact hq _ _ F11 N11
    · intro ys hys D12 h12 tk12 F12 N12 off12
      simp only [LCg.Off1] at off12
      dsimp only
      have hlf := filter_len_lt (p := fun x => decide (x < big)) (b := big) (by simp) hbig
      k_steps
      · rename_i tkx hMb h13 h13b l14 h14 F14 N14 l14a
        have hfd : big.fdiv 2 = big / 2 := Int.fdiv_eq_ediv_of_nonneg _ (by decide)
        obtain ⟨st', hw⟩ := ln_take hM st hbig hmax hMb
        unfold Hold
        refine kmk_add_ints F14 N14 (News.isList N14 (by k_mem)) (News.isList N14 (.head _)) hys (.cons _ _ (.cons _ _ .nil)) (fun D15 us h15 F15 N15 l15 hi15 => ?_) (by rw [sizeLine_eq]; simp only [List.length_cons, List.length_nil]; omega)
        rw [hfd] at hi15
        k_lt l15
        dsimp only
        k_steps
        rename_i h16 F16 N16
        obtain ⟨e2, t2, hp2⟩ : ∃ e2 t2, News g' L' h16 [(lN, listOf (vN ++ [Value.int (big / 2) t2]).toArray e2)] := ⟨_, _, fun q hq => N16 q (by rw [List.mem_singleton.mp hq, ← hfd, ← List.push_toArray]; k_mem)⟩
        refine ⟨h16, tk, _, _, (D15, listOf us.toArray 0) :: (lN, listOf (vN ++ [Value.int (big / 2) t2]).toArray e2) :: (L' + 1 + 1, o9) :: (L' + 1, oN) :: news, rfl, F16, fun y hy => ?_, fun q hq => ?_, _, hw, D15, us, 0, _, lN, _, _, ks ++ [big / 2], big :: lS, _, _, oN, rfl, rfl, d9, hoN, by omega, hlt1, ⟨by omega, by omega⟩, hi15, hintN.append (.cons _ _ .nil), st', List.nodup_cons.mpr ⟨ln_fresh hbelow hbig, hnd⟩, ln_below (by omega) hbelow hbig hmax, ?_, ?_, rfl⟩
        · have hy2 := not_in2 hy
          simp only [hy2.1, hy2.2, hy, if_false, Bool.false_eq_true]
        · rcases List.mem_cons.mp hq with rfl | hq
          · exact N16 _ (by k_mem)
          · rcases List.mem_cons.mp hq with rfl | hq
            · exact hp2 _ (.head _)
            · rcases List.mem_cons.mp hq with rfl | hq
              · exact N16 _ (by k_mem)
              · rcases List.mem_cons.mp hq with rfl | hq
                · exact N16 _ (by k_mem)
                · exact N16 _ (by k_mem)
        · rw [List.length_append, List.length_cons, hlenN]; rfl
        · simp only [List.length_append, List.length_cons, List.length_nil]; omega
      · rename_i hMb
        obtain ⟨st', hw⟩ := ln_skip st hbig hmax hMb
        refine ⟨h12, tk12, _, _, (D12, listOf ys.toArray ys.length) :: (lN, listOf vN.toArray eN) :: (L' + 1 + 1, o9) :: (L' + 1, oN) :: news, rfl, F12, fun y hy => ?_, fun q hq => N12 q ?_, _, hw, D12, ys, _, _, lN, _, _, ks, lS, _, _, oN, rfl, rfl, d9, hoN, by omega, hlt1, ⟨by omega, by omega⟩, hys, hintN, st', hnd, fun s hs x hx => hbelow s hs x (List.mem_filter.mp hx).1, hlenN, by omega, rfl⟩
        · have hy2 := not_in2 hy
          simp only [hy2.1, hy, if_false, Bool.false_eq_true]
        · rcases List.mem_cons.mp hq with rfl | hq
          · k_mem
          · rcases List.mem_cons.mp hq with rfl | hq
            · k_mem
            · rcases List.mem_cons.mp hq with rfl | hq
              · k_mem
              · rcases List.mem_cons.mp hq with rfl | hq
                · k_mem
                · k_mem
end Mine
end

section
open PySem PySem.NumText PySem.W PyProof.Rows
namespace Mine
example : (1 : Nat) = 1 := by
  k_with_none
  w_top off
  walk1
/-- the law's text and its value -/
structure TInv (x : PySem.Str) (v : Int) : Prop where
  chars : ∀ c ∈ x.cps.toList, c = 95 ∨ (48 ≤ c ∧ c ≤ 57)
  last : x.cps.toList = [] ∨ ∃ pre c, x.cps.toList = pre ++ [c] ∧ 48 ≤ c ∧ c ≤ 57
  val : v = ((digitsVal (x.cps.toList.filter (· != 95)) : Nat) : Int)
theorem TInv.empty : TInv (Str.ofString "") 0 := by
  have e : (Str.ofString "").cps.toList = [] := by decide
  exact ⟨(fun c h => by rw [e] at h; exact nomatch h), .inl e, by rw [e]; rfl⟩
theorem TInv.digits {x : PySem.Str} {v : Int} (h : TInv x v) : AllDigits (x.cps.toList.filter (· != 95)) := fun c hc => by
  obtain ⟨h1, h2⟩ := List.mem_filter.mp hc
  rcases h.chars c h1 with q | q
  · rw [q] at h2; cases h2
  · exact q
theorem TInv.nonneg {x : PySem.Str} {v : Int} (h : TInv x v) : 0 ≤ v := by rw [h.val]; exact Int.natCast_nonneg _
theorem TInv.bits {x : PySem.Str} {v : Int} (h : TInv x v) : Builtin.Int.intBits v ≤ 4 * x.length := by
  rw [h.val]
  refine Nat.le_trans (bits_of_dec (digitsVal_lt h.digits)) (Nat.mul_le_mul_left _ ?_)
  have := List.length_filter_le (· != 95) x.cps.toList
  rw [Array.length_toList] at this
  exact this
/-- a run's worth -/
noncomputable def rep (t : Nat) (Fd : List Nat) : List Nat := (List.replicate t Fd).flatten
theorem rep_succ (t : Nat) (Fd : List Nat) : rep (t + 1) Fd = Fd ++ rep t Fd := by unfold rep; rw [List.replicate_succ, List.flatten_cons]
theorem rep_len (Fd : List Nat) : ∀ t, (rep t Fd).length = t * Fd.length
  | 0 => by simp [rep]
  | t + 1 => by rw [rep_succ, List.length_append, rep_len Fd t, Nat.succ_mul]; omega
theorem rep_digits {Fd : List Nat} (h : AllDigits Fd) : ∀ t, AllDigits (rep t Fd)
  | 0 => fun _ h => by simp [rep] at h
  | t + 1 => fun c hc => by
    rw [rep_succ] at hc
    rcases List.mem_append.mp hc with hc | hc
    · exact h c hc
    · exact rep_digits h t c hc
noncomputable def geo (b : Int) : Nat → Int
  | 0 => 0
  | t + 1 => b ^ t + geo b t
theorem geo_mul (b : Int) : ∀ t, geo b t * (b - 1) = b ^ t - 1
  | 0 => by simp [geo]
  | t + 1 => by
    rw [geo, Int.add_mul, geo_mul b t, Int.pow_succ, Int.mul_sub, Int.mul_one]
    omega
theorem geo_bounds {b : Int} (hb : 2 ≤ b) : ∀ t, 0 ≤ geo b t ∧ geo b t < b ^ t
  | 0 => by simp [geo]
  | t + 1 => by
    obtain ⟨h0, h1⟩ := geo_bounds hb t
    have hp : 0 < b ^ t := Int.pow_pos (by omega)
    refine ⟨by rw [geo]; omega, ?_⟩
    rw [geo, Int.pow_succ]
    have : b ^ t * 2 ≤ b ^ t * b := Int.mul_le_mul_of_nonneg_left hb (by omega)
    omega
theorem geo_bits {b : Int} {t k : Nat} (hb : 2 ≤ b) (h : Builtin.Int.intBits (b ^ t) ≤ k) : Builtin.Int.intBits (geo b t) ≤ k := by
  have h1 := intBits_le_iff.mp h
  obtain ⟨h2, h3⟩ := geo_bounds hb t
  refine intBits_le_iff.mpr (Nat.lt_of_le_of_lt ?_ h1)
  omega
theorem ten_pow {k : Nat} (h1 : 1 ≤ k) (h4 : k ≤ 4) : (10 : Int) ≤ 10 ^ k ∧ (10 : Int) ^ k ≤ 10000 := by
  have : k = 1 ∨ k = 2 ∨ k = 3 ∨ k = 4 := by omega
  rcases this with e | e | e | e <;> subst e <;> decide
theorem geo_div {b : Int} (hb : 2 ≤ b) (t : Nat) : (b ^ t - 1).fdiv (b - 1) = geo b t := by
  rw [Int.fdiv_eq_ediv_of_nonneg _ (by omega), ← geo_mul b t, Int.mul_ediv_cancel _ (by omega)]
theorem rep_val (Fd : List Nat) : ∀ t, ((digitsVal (rep t Fd) : Nat) : Int) = (digitsVal Fd : Nat) * geo (10 ^ Fd.length) t
  | 0 => by simp [rep, geo, digitsVal]
  | t + 1 => by
    rw [rep_succ, digitsVal_append, rep_len, geo, Int.mul_add, ← rep_val Fd t, Int.natCast_add, Int.natCast_mul, Int.natCast_pow, ← Int.pow_mul, Nat.mul_comm t]
    rfl
theorem filter_digits {l : List Nat} (h : AllDigits l) : l.filter (· != 95) = l := by
  refine List.filter_eq_self.mpr fun c hc => ?_
  have := h c hc
  simp only [bne_iff_ne, ne_eq]
  omega
theorem TInv.step {x y : PySem.Str} {v : Int} {Fd : List Nat} {t : Nat} {sep : List Nat} (h : TInv x v) (hF : AllDigits Fd) (hne : Fd ≠ []) (ht : 1 ≤ t) (hsep : sep = [] ∨ sep = [95]) (hy : y.cps.toList = x.cps.toList ++ sep ++ rep t Fd) :
    TInv y (v * (10 ^ Fd.length) ^ t + (digitsVal Fd : Nat) * geo (10 ^ Fd.length) t) where
  chars := fun c hc => by
    rw [hy] at hc
    rcases List.mem_append.mp hc with hc | hc
    · rcases List.mem_append.mp hc with hc | hc
      · exact h.chars c hc
      · rcases hsep with e | e
        · rw [e] at hc; exact nomatch hc
        · rw [e] at hc; exact .inl (List.mem_singleton.mp hc)
    · exact .inr (rep_digits hF t c hc)
  last := by
    have hr : rep t Fd ≠ [] := fun e => by
      have := rep_len Fd t
      rw [e] at this
      have h1 := List.length_pos_iff.mpr hne
      have h2 : 0 < t * Fd.length := Nat.mul_pos ht h1
      simp at this
      omega
    have hd := rep_digits hF t _ (List.getLast_mem hr)
    refine .inr ⟨x.cps.toList ++ sep ++ (rep t Fd).dropLast, (rep t Fd).getLast hr, ?_, hd.1, hd.2⟩
    rw [List.append_assoc, List.dropLast_concat_getLast, hy]
  val := by
    rw [hy, List.filter_append, List.filter_append, filter_digits (rep_digits hF t)]
    have hs : sep.filter (· != 95) = [] := by rcases hsep with e | e <;> rw [e] <;> rfl
    rw [hs, List.append_nil, digitsVal_append, rep_len, Int.natCast_add, Int.natCast_mul, rep_val, ← h.val, Int.natCast_pow, ← Int.pow_mul, Nat.mul_comm t]
    rfl
theorem fold_rep (a : Array Nat) : ∀ (n : Nat) (acc : Array Nat), ((List.replicate n a).foldl (· ++ ·) acc).toList = acc.toList ++ rep n a.toList
  | 0, acc => by simp [rep]
  | n + 1, acc => by
    rw [List.replicate_succ, List.foldl_cons, fold_rep a n, rep_succ, Array.toList_append, List.append_assoc]
theorem mul_rep (x : PySem.Str) {n : Nat} (hn : 1 ≤ n) : (Txt.mul x (n : Int)).cps.toList = rep n x.cps.toList := by
  unfold Txt.mul
  rw [if_neg (by omega)]
  by_cases h1 : n = 1
  · subst h1
    rw [if_pos (by simp), rep_succ]
    simp [rep]
  · by_cases h0 : x.length = 0
    · rw [if_pos (by simp [h0])]
      have e : x.cps.toList = [] := List.eq_nil_of_length_eq_zero (by rw [Array.length_toList]; exact h0)
      rw [e]
      simp [rep]
    · rw [if_neg (by simp only [Bool.or_eq_true, beq_iff_eq]; omega), Int.toNat_natCast]
      show ((List.replicate n x.cps).foldl (· ++ ·) #[]).toList = _
      rw [fold_rep]
      simp
/-- figures -/
theorem figs (m : Nat) (hm : m < 10000) : ∃ Fd, (Str.ofString (toString ((m : Nat) : Int))).cps.toList = Fd ∧ AllDigits Fd ∧ Fd ≠ [] ∧ Fd.length ≤ 4 ∧ digitsVal Fd = m := by
  refine ⟨_, KIN.signs_num m, ?_, ?_, ?_, KIN.val_back m⟩
  · intro c hc
    obtain ⟨ch, hch, e⟩ := List.mem_map.mp hc
    have r := digit_range (Nat.isDigit_of_mem_toDigits (by decide) (by decide) hch)
    rw [← e]
    exact r
  · intro e
    have h := toDigits_len_ge 10 m
    rw [List.map_eq_nil_iff.mp e] at h
    exact absurd h (by decide)
  · rw [List.length_map]
    exact (Nat.length_toDigits_le_iff (by decide) (by decide)).mpr hm
end Mine
end

section
open PySem PySem.NumText PySem.W PyProof.Rows
set_option Elab.async false
set_option maxRecDepth 100000
namespace Mine
example : (1 : Nat) = 1 := by
  k_with_none
  w_top off
  walk1
theorem not_in7 {y a b c d e f g : Str} (h : [a, b, c, d, e, f, g].contains y = false) : y ≠ a ∧ y ≠ b ∧ y ≠ c ∧ y ≠ d ∧ y ≠ e ∧ y ≠ f ∧ y ≠ g := by
  simp only [List.contains_cons] at h
  simp at h
  exact ⟨h.1, h.2.1, h.2.2.1, h.2.2.2.1, h.2.2.2.2.1, h.2.2.2.2.2.1, h.2.2.2.2.2.2⟩
noncomputable def lawStmt : Stmt := (PySem.Challenge.pw_wy0066_01.main.body).getD 9 (.Pass ⟨0, 0, 0, 0⟩)
noncomputable def lawBody : { a : List Stmt // a = stmtsOf lawStmt } := ⟨_, by conv => rhs; whnf⟩
noncomputable def lawScope : { a : Scope // a = scopeOf lawStmt } := ⟨_, by conv => rhs; whnf⟩
local macro_rules | `(tactic| walk_at $s:str) => if ["exec For Name Subscript cons nil", "exec For Name BinOp cons nil", "call ref", "binaryOp FloorDiv int int", "pyIter ref"].contains s.getString then `(tactic| refine Hold.out ?_) else Lean.Macro.throwUnsupported
local macro_rules | `(tactic| k_call_by "use" $c:term) => `(tactic| (k_dflt (refine' Does.use $c ?k1 ?k2 ?k3 ?k4 ?k5 ?kK ?kd ?ku ?kp ?_; (case k1 => k_asm); (case k2 => k_asm); (case k3 => k_asm); (case k4 => k_asm); (case k5 => k_asm); (case kK => first | exact rfl | assumption))))
local macro_rules | `(tactic| bits_by_make) => `(tactic| with_reducible assumption)
noncomputable def lawFor1 : { a : Stmt // a = (stmtsOf lawStmt).getD 2 (.Pass ⟨0, 0, 0, 0⟩) } := ⟨_, by conv => rhs; whnf⟩
set_option maxHeartbeats 8000000 in
set_option pp.deepTerms false in
set_option pp.deepTerms.threshold 8 in
theorem law_loop1 {prog : Program} {w : World} {p : Program} {loose : List Str} {mean : ExcName → Option Value} {mg mb : Str → Option Value} {g : Heap} {L fa : Addr} {cd : Value} {s : Shared} {m : Str → Option Value} {o1 o2 o3 : Obj} {lS : Addr} {vs : List Value} {ns : List Int} {t0 t1 : Tok} {Q : Flow → Shared → Prop}
    (F : Fr g L s.heap (fun y => if y = Str.ofString "value" then some (.int 0 t0) else if y = Str.ofString "text" then some (.str (Str.ofString "") t1) else if y = Str.ofString "script" then some (.ref lS) else m y))
    (N : News g L s.heap [(L + 1 + 1 + 1, o1), (L + 1 + 1, o2), (L + 1, o3), (45, tabObj #[]), (38, tabObj #[]), (24, tabObj #[])]) (X : (Mine.hd.heap_39 w.params).In g) (T : Top p loose mean mg mb g) (K : Below callerA g [] g)
    (hl0 : @LT.lt Nat _ 45 L) (hl : g.IsList lS vs.toArray) (hi : IntsAre vs ns) (h63 : ns.length ≤ 63) (hbits : ∀ x ∈ ns, Builtin.Int.intBits x ≤ 1048576)
    (hQ : ∀ (h' : Heap) (tk : Nat) (dr : Drawn) (u : Str → Option Value) (x : Str) (v : Int) (tx tv : Tok), Fr g L h' (fun y => if y = Str.ofString "text" then some (.str x tx) else if y = Str.ofString "value" then some (.int v tv) else if y = Str.ofString "script" then some (.ref lS) else u y) →
      News g L h' [(L + 1 + 1 + 1, o1), (L + 1 + 1, o2), (L + 1, o3), (45, tabObj #[]), (38, tabObj #[]), (24, tabObj #[])] → TInv x v → x.length ≤ 4788 → Q .next { s with heap := h', toks := tk, drawn := dr }) :
    wpAny (model prog w) (callerA.deeper (envOfC (Str.ofString "law") lawScope.1 L fa cd)) (exec lawFor1.1 (envOfC (Str.ofString "law") lawScope.1 L fa cd)) Q (fun _ _ => False) s := by
  have C1 : CodeHd g 49 45 := codeHd_of_K X (by kernel_rfl)
  dsimp only [lawFor1, lawScope]
  refine for_any ?_
  k_steps
  rename_i D1 ws1 hC F1 N1 hi1 hc1 hle1 l1
  unfold Hold
  refine sN_pyIterL F1 N1 (.head _) ⟨rfl, rfl⟩ fun I1 h2 io1 F2 N2 lI hio => ?_
  k_lt lI
  dsimp only
  refine forL_atm (l := D1) (lo := listOf ws1.toArray 0) (vs := ws1) (e := 0) [Str.ofString "figures", Str.ofString "times", Str.ofString "size", Str.ofString "sums", Str.ofString "value", Str.ofString "text"]
    (fun i mm nx => ∃ x v tx tv, mm (Str.ofString "text") = some (.str x tx) ∧ mm (Str.ofString "value") = some (.int v tv) ∧ TInv x v ∧ x.length ≤ 1197 * i ∧
      nx = [(D1, listOf ws1.toArray 0), (L + 1 + 1 + 1, o1), (L + 1 + 1, o2), (L + 1, o3), (45, tabObj #[]), (38, tabObj #[]), (24, tabObj #[])]) rfl rfl rfl ⟨rfl, rfl⟩ (Nat.zero_le _) hio F2 N2 ⟨_, _, _, _, rfl, rfl, TInv.empty, by decide, rfl⟩ ?_ ?_ ?_
  · rintro i mm nx ⟨x, v, tx, tv, _, _, _, _, rfl⟩
    refine ⟨.head _, ?_⟩
    k_all
  · rintro i nv u h tk dr nx io hnv ⟨x, v, tx, tv, hmt, hmv, hT, hxl, rfl⟩ hio F N
    have hil : i < (ns.take 4).length := by rw [← hi1.length]; exact (List.getElem?_eq_some_iff.mp hnv).1
    obtain ⟨t1, ht1⟩ := hi1.get i (ns.take 4)[i] (List.getElem?_eq_getElem hil)
    have hnv' : nv = .int (ns.take 4)[i] t1 := by rw [hnv] at ht1; exact Option.some.inj ht1
    have hmem : (ns.take 4)[i] ∈ ns := List.mem_of_mem_take (List.getElem_mem hil)
    have hb := hbits _ hmem
    generalize (ns.take 4)[i] = n at hnv' hb
    subst hnv'
    have hi4 : i < 4 := by rw [List.length_take] at hil; omega
    have F := fr_pin F (x := Str.ofString "text") (v := some (.str x tx)) (by rw [if_neg (by decide), if_pos (by decide)]; exact hmt)
    have F := fr_pin F (x := Str.ofString "value") (v := some (.int v tv)) (by rw [if_neg (by decide), if_neg (by decide), if_pos (by decide)]; exact hmv)
    k_steps
    generalize hab : (if n < 0 then -n else n) = ab at *
    have hab0 : 0 ≤ ab := by rw [← hab]; split <;> omega
    have hf : ab.fmod 10000 = (((ab.fmod 10000).toNat : Nat) : Int) := by rw [Int.toNat_of_nonneg (Int.fmod_nonneg hab0 (by decide))]
    have hT0 : 1 + (31 * ab).fmod 299 = (((1 + (31 * ab).fmod 299).toNat : Nat) : Int) := by
      have := Int.fmod_nonneg (a := 31 * ab) (b := 299) (by omega) (by decide)
      omega
    have hT1 : 1 ≤ (1 + (31 * ab).fmod 299).toNat := by
      have := Int.fmod_nonneg (a := 31 * ab) (b := 299) (by omega) (by decide)
      omega
    have hT2 : (1 + (31 * ab).fmod 299).toNat ≤ 299 := by
      have := Int.fmod_lt_of_pos (31 * ab) (b := 299) (by decide)
      omega
    obtain ⟨Fd, hFd, hFdig, hFne, hF4, hFv⟩ := figs (ab.fmod 10000).toNat (by
      have := Int.fmod_lt_of_pos ab (b := 10000) (by decide)
      omega)
    rw [← hf] at hFd
    have hflen : (Str.ofString (toString (ab.fmod 10000))).length = Fd.length := by rw [← hFd, Array.length_toList]; rfl
    generalize hTT : (1 + (31 * ab).fmod 299).toNat = TT at *
    rw [hflen]
    have hsb : Builtin.Int.intBits ((10 : Int) ^ Fd.length) ≤ 17 := Nat.le_trans (intBits_pow_le (m := 4) (by decide) _) (by omega)
    have hPb : Builtin.Int.intBits (((10 : Int) ^ Fd.length) ^ TT) ≤ 6000 := Nat.le_trans (intBits_pow_le hsb _) (by omega)
    have hvb : Builtin.Int.intBits v ≤ 20000 := Nat.le_trans hT.bits (by omega)
    unfold Hold
    k_call_by "use" (law_power_does 10 4 (by decide) 3 Fd.length (by omega) (by omega) (by omega) _ _)
    · show callerA.depth + 1 + _ < _; decide
    · show callerA.units + 3 + _ < _; decide
    · trivial
    · intro r news' h' tk' dr' F9 N9 hp
      obtain ⟨rfl, t9, rfl⟩ := hp
      dsimp only
      k_steps
      have hten := ten_pow (List.length_pos_iff.mpr hFne) hF4
      have hgb := geo_bits (t := TT) (show (2 : Int) ≤ 10 ^ Fd.length by omega) hPb
      have hfb : Builtin.Int.intBits (ab.fmod 10000) ≤ 14 := bits_of_lt (Int.fmod_nonneg hab0 (by decide)) (by
        have := Int.fmod_lt_of_pos ab (b := 10000) (by decide)
        omega)
      unfold Hold
      rw [hT0]
      k_call_by "use" (law_power_does (10 ^ Fd.length) 17 hsb 9 TT (by omega) (by omega) (by omega) _ _)
      · show callerA.depth + 1 + _ < _; decide
      · show callerA.units + 3 + _ < _; decide
      · trivial
      · intro r news' h' tk' dr' F9 N9 hp
        obtain ⟨rfl, t9, rfl⟩ := hp
        dsimp only
        k_steps
        unfold Hold
        refine floordiv_int (by omega) ?_ (.inl (PyProof.noPylong_small (by omega)))
        rw [geo_div (by omega)]
        dsimp only
        k_steps
        unfold Hold
        rw [hT0]
        k_call_by "use" (law_power_does (10 ^ Fd.length) 17 hsb 9 TT (by omega) (by omega) (by omega) _ _)
        · show callerA.depth + 1 + _ < _; decide
        · show callerA.units + 3 + _ < _; decide
        · trivial
        · intro r news' h' tk' dr' F9 N9 hp
          obtain ⟨rfl, t9, rfl⟩ := hp
          dsimp only
          k_steps
          · rename_i hxe t2 k2 hl2 t3 k3
            have hml : (Txt.mul (Str.ofString (toString (ab.fmod 10000))) (1 + (31 * ab).fmod 299)).cps.toList = rep TT Fd := by
              rw [hT0, mul_rep _ hT1, hFd]
            have hmlen : (Txt.mul (Str.ofString (toString (ab.fmod 10000))) (1 + (31 * ab).fmod 299)).length = TT * Fd.length := by
              rw [← rep_len, ← hml, Array.length_toList]; rfl
            have hle : TT * Fd.length ≤ 299 * 4 := Nat.mul_le_mul hT2 hF4
            have h1 : (Str.ofString "_").length = 1 := by decide
            refine SBL.add (fun t' c hg => ?_) (by rw [sizeLine_eq]; exact room_a (by assumption) hi4 (by assumption) h1 (by decide) hmlen hle)
            dsimp only
            k_steps
            rename_i h99 F99 N99
            have hval : ab.fmod 10000 = ((digitsVal Fd : Nat) : Int) := by rw [hFv]; exact hf
            have hstep := hT.step (y := x ++ Str.ofString "_" ++ Txt.mul (Str.ofString (toString (ab.fmod 10000))) (1 + (31 * ab).fmod 299)) (sep := [95]) hFdig hFne hT1 (.inr rfl) (by
              rw [PySem.W.KT.app_list, PySem.W.KT.app_list, hml]; rfl)
            rw [← hval] at hstep
            refine ⟨h99, tk, dr', _, _, rfl, F99, fun y hy => ?_, N99, .head _, _, fun q hq => .tail _ hq, _, _, _, _, rfl, rfl, hstep, step_len (by assumption) (by assumption) h1 (by decide) hmlen hle (by assumption), rfl⟩
            have hy2 := not_in7 hy
            simp only [hy2.1, hy2.2.1, hy2.2.2.1, hy2.2.2.2.1, hy2.2.2.2.2.1, hy2.2.2.2.2.2.1, hy2.2.2.2.2.2.2, contains_tail hy, if_false, Bool.false_eq_true]
          · rename_i hxe t2 k2 hl2 t3 k3
            have hml : (Txt.mul (Str.ofString (toString (ab.fmod 10000))) (1 + (31 * ab).fmod 299)).cps.toList = rep TT Fd := by
              rw [hT0, mul_rep _ hT1, hFd]
            have hmlen : (Txt.mul (Str.ofString (toString (ab.fmod 10000))) (1 + (31 * ab).fmod 299)).length = TT * Fd.length := by
              rw [← rep_len, ← hml, Array.length_toList]; rfl
            have hle : TT * Fd.length ≤ 299 * 4 := Nat.mul_le_mul hT2 hF4
            have h1 : (Str.ofString "").length = 0 := by decide
            refine SBL.add (fun t' c hg => ?_) (by rw [sizeLine_eq]; exact room_a (by assumption) hi4 (by assumption) h1 (by decide) hmlen hle)
            dsimp only
            k_steps
            rename_i h99 F99 N99
            have hval : ab.fmod 10000 = ((digitsVal Fd : Nat) : Int) := by rw [hFv]; exact hf
            have hstep := hT.step (y := x ++ Str.ofString "" ++ Txt.mul (Str.ofString (toString (ab.fmod 10000))) (1 + (31 * ab).fmod 299)) (sep := []) hFdig hFne hT1 (.inl rfl) (by
              rw [PySem.W.KT.app_list, PySem.W.KT.app_list, hml]; rfl)
            rw [← hval] at hstep
            refine ⟨h99, tk, dr', _, _, rfl, F99, fun y hy => ?_, N99, .head _, _, fun q hq => .tail _ hq, _, _, _, _, rfl, rfl, hstep, step_len (by assumption) (by assumption) h1 (by decide) hmlen hle (by assumption), rfl⟩
            have hy2 := not_in7 hy
            simp only [hy2.1, hy2.2.1, hy2.2.2.1, hy2.2.2.2.1, hy2.2.2.2.2.1, hy2.2.2.2.2.2.1, hy2.2.2.2.2.2.2, contains_tail hy, if_false, Bool.false_eq_true]
  · rintro u h tk dr nx ⟨x, v, tx, tv, hmt, hmv, hT, hxl, rfl⟩ F N
    have F := fr_pin F (x := Str.ofString "script") (v := some (.ref lS)) (by rw [if_neg (by decide)]; rfl)
    have F := fr_pin F (x := Str.ofString "value") (v := some (.int v tv)) (by rw [if_neg (by decide), if_pos (by decide)]; exact hmv)
    have F := fr_pin F (x := Str.ofString "text") (v := some (.str x tx)) (by rw [if_neg (by decide), if_neg (by decide), if_pos (by decide)]; exact hmt)
    have hw4 : ws1.length ≤ 4 := by rw [hi1.length, List.length_take]; omega
    exact hQ h tk dr _ x v tx tv F (fun q hq => N q (.tail _ hq)) hT (by omega)
end Mine
end

section
open PySem PySem.NumText PySem.W PyProof.Rows
set_option Elab.async false
set_option maxRecDepth 100000
namespace Mine
example : (1 : Nat) = 1 := by
  k_with_none
  w_top off
  walk1
section
variable {prog : Program} {w : World} {A : Around} {E : Value → Shared → Prop} {s : Shared} {x y : PySem.Str} {t u : Tok} {Q : Value → Shared → Prop}
theorem addT (h : ∀ t' k, s.toks ≤ k → Q (.str (x ++ y) t') { s with toks := k }) (hsz : x.length + y.length ≤ 100000) : wpAny (model prog w) A (binaryOp .Add (.str x t) (.str y u)) Q E s := by
  refine P.add_str ?_
  by_cases hx : (x.length == 0) = true
  · rw [if_pos hx]
    have h2 := h u s.toks (Nat.le_refl _)
    rw [PySem.Str.append_left_empty hx] at h2
    exact h2
  · rw [if_neg hx]
    by_cases hy : (y.length == 0) = true
    · rw [if_pos hy]
      have h2 := h t s.toks (Nat.le_refl _)
      rw [PySem.Str.append_right_empty hy] at h2
      exact h2
    · rw [if_neg hy]
      exact ⟨by rw [PySem.Str.length_append, sizeLine_eq]; omega, h s.toks (s.toks + 1) (Nat.le_succ _)⟩
end
theorem digit_noSpace : ∀ c, c < 58 → 48 ≤ c → Unicode.isSpace c = false := by decide +kernel
theorem TInv.core {x : PySem.Str} {v : Int} (h : TInv x v) (hne : x.cps.toList ≠ []) : Unicode.isSpace (x.cps.toList.getLast hne) = false ∧ 0 < (x.cps.toList.filter (· != 95)).length := by
  rcases h.last with e | ⟨pre, c, e, h1, h2⟩
  · exact absurd e hne
  · have hl : x.cps.toList.getLast hne = c := by simp [e]
    refine ⟨by rw [hl]; exact digit_noSpace c (by omega) h1, List.length_pos_iff.mpr ?_⟩
    intro e2
    have : c ∈ x.cps.toList.filter (· != 95) := List.mem_filter.mpr ⟨by rw [e]; simp, by simp only [bne_iff_ne, ne_eq]; omega⟩
    rw [e2] at this
    exact nomatch this
theorem ne_empty {x : PySem.Str} (h : (x != Str.ofString "") = true) : x.cps.toList ≠ [] := fun e => by
  have : x = Str.ofString "" := by
    have e1 : x.cps = #[] := by rw [← Array.toArray_toList (xs := x.cps), e]
    have : x = PySem.Str.mk #[] := by cases x; cases e1; rfl
    rw [this]; decide
  rw [this] at h
  simp at h
noncomputable def lawIf1 : { a : Stmt // a = (stmtsOf lawStmt).getD 4 (.Pass ⟨0, 0, 0, 0⟩) } := ⟨_, by conv => rhs; whnf⟩
local macro_rules | `(tactic| walk_at $s:str) => if ["call ref", "binaryOp Add str str"].contains s.getString then `(tactic| refine Hold.out ?_) else Lean.Macro.throwUnsupported
set_option maxHeartbeats 8000000 in
set_option pp.deepTerms false in
set_option pp.deepTerms.threshold 8 in
theorem law_if {prog : Program} {w : World} {p : Program} {loose : List Str} {mean : ExcName → Option Value} {mg mb : Str → Option Value} {g : Heap} {L fa : Addr} {cd : Value} {s : Shared} {m : Str → Option Value} {o1 o2 o3 : Obj} {lS : Addr} {x y : Str} {v : Int} {tx ty tv : Tok} {tl : List Nat} {Q : Flow → Shared → Prop}
    (F : Fr g L s.heap (fun z => if z = Str.ofString "behind" then some (.str y ty) else if z = Str.ofString "text" then some (.str x tx) else if z = Str.ofString "value" then some (.int v tv) else if z = Str.ofString "script" then some (.ref lS) else m z))
    (N : News g L s.heap [(L + 1 + 1 + 1, o1), (L + 1 + 1, o2), (L + 1, o3), (45, tabObj #[]), (38, tabObj #[]), (24, tabObj #[])]) (X : (Mine.hd.heap_39 w.params).In g) (T : Top p loose mean mg mb g) (K : Below callerA g [] g)
    (hl0 : @LT.lt Nat _ 45 L) (hT : TInv x v) (hxl : x.length ≤ 4788) (hy : y.cps.toList = tl) (hyl : y.length ≤ 2) (htl : ∀ c ∈ tl, Unicode.isSpace c = true)
    (hQ : ∀ (h' : Heap) (tk : Nat) (dr : Drawn) (p3 : Array Value), Fr g L h' (fun z => if z = Str.ofString "behind" then some (.str y ty) else if z = Str.ofString "text" then some (.str x tx) else if z = Str.ofString "value" then some (.int v tv) else if z = Str.ofString "script" then some (.ref lS) else m z) →
      News g L h' [(L + 1 + 1 + 1, o1), (L + 1 + 1, o2), (L + 1, o3), (45, tabObj #[]), (38, tabObj #[]), (24, tabObj p3)] → Q .next { s with heap := h', toks := tk, drawn := dr }) :
    wpAny (model prog w) (callerA.deeper (envOfC (Str.ofString "law") lawScope.1 L fa cd)) (exec lawIf1.1 (envOfC (Str.ofString "law") lawScope.1 L fa cd)) Q (fun _ _ => False) s := by
  have C1 : CodeHd g 49 45 := codeHd_of_K X (by kernel_rfl)
  dsimp only [lawIf1, lawScope]
  k_steps
  · rename_i hxe
    have hne := ne_empty hxe
    obtain ⟨hcl, hcn⟩ := hT.core hne
    unfold Hold
    refine addT (fun t2 k2 hk2 => ?_) (by omega)
    dsimp only
    k_steps
    unfold Hold
    k_dflt (refine' DoesT.use (ifs_does (x ++ y) t2 #[] [(L + 1 + 1 + 1, o1), (L + 1 + 1, o2), (L + 1, o3), (45, tabObj #[]), (38, tabObj #[])] x.cps.toList tl (by rw [PySem.W.KT.app_list, hy]) hne hcl htl hT.digits hcn (by rw [PySem.Str.length_append]; omega) ?_ (.inl rfl)) ?ht ?k1 ?k2 ?k3 ?k4 ?k5 ?kK ?kd ?ku ?kp ?_; (case k1 => k_asm); (case k2 => k_asm); (case k3 => k_asm); (case k5 => k_asm); (case kK => first | exact rfl | assumption))
    case kp => exact rfl
    case k4 => exact fun q hq => N q (by
      rcases List.mem_cons.mp hq with rfl | hq
      · k_mem
      · exact List.mem_append_left [(24, tabObj #[])] hq)
    case ht => exact Nat.lt_of_lt_of_le (Nat.succ_pos _) hk2
    case kd => show callerA.depth + 1 + _ < _; decide
    case ku => show callerA.units + 3 + _ < _; decide
    · k_all
    · rintro r news' h' tk' dr' F9 N9 ⟨⟨t9, rfl⟩, p3, ext, rfl, _, _⟩
      have hv := hT.val
      dsimp only
      k_steps
      · exact absurd hv.symm (by assumption)
      · refine hQ _ _ _ p3 (by assumption) (fun q hq => N9 q ?_)
        have hq2 : q ∈ [(L + 1 + 1 + 1, o1), (L + 1 + 1, o2), (L + 1, o3), (45, tabObj #[]), (38, tabObj #[])] ++ [(24, tabObj p3)] := hq
        rcases List.mem_append.mp hq2 with hq | hq
        · exact .tail _ (List.mem_append_right _ hq)
        · rw [List.mem_singleton.mp hq]; exact .head _
  · exact hQ _ _ _ _ F N
end Mine
end

section
open PySem PySem.NumText PySem.W PyProof.Rows
set_option Elab.async false
set_option maxRecDepth 100000
namespace Mine
example : (1 : Nat) = 1 := by
  k_with_none
  k_with "o21" => k_here; k_dflt (refine' lN_ne (by k_asm) (by k_mem) (by exact ⟨rfl, rfl⟩) (by assumption) (by k_mem) (by exact ⟨rfl, rfl⟩) (by first | exact .nil | assumption) (by ke_room) ?_)
  k_with "o19" => k_here; k_dflt (refine' lN_len (by k_asm) (by k_mem) (by assumption) (by omega) ?_)
  w_top off
  walk1
open PyProof.Rows.LCg PyProof.Rows.LCt in
theorem comp_led {prog : Program} {w : World} {A : Around} {h₀ : Heap} {L : Addr} {m : Str → Option Value} {env : Env} {ct elt : Expr} {x : Str} {scope : Scope} {cl : List (Str × Addr)} {Fin : Shared → List Value → List (Addr × Obj) → Prop} {ax : Addr} {lo : Obj} {its : Array Value} {k : Nat} {news : List (Addr × Obj)} {s₁ : Shared}
    (hh : A.handled = none) (F : Fr h₀ L s₁.heap m) (N : News h₀ L s₁.heap news) (hm : (ax, lo) ∈ news) (hlo : lo.cls = .type "list" ∧ lo.data = .seq its k) (hsz : its.size ≤ sizeLine)
    (h : ∀ g, CompRestT prog w A h₀ L m env ct elt x scope cl { s₁ with heap := g } (SrcAt h₀ ax its) (fun i v => its[i]? = some v) (Fin { s₁ with heap := g }) its.size 0 [] news) :
    CompSrcT prog w A h₀ L m env ct elt x scope cl Fin (.ref ax) s₁ := .inl ⟨ax, its, news, rfl, hh, F, N, .inr ⟨lo, hm, hlo.1, k, hlo.2⟩, hsz, fun _ ⟨g, e⟩ => e ▸ h g⟩
noncomputable def forBody : Stmt → List Stmt
  | .For _ _ b _ _ => b
  | _ => []
noncomputable def loop2 : List Stmt := forBody ((stmtsOf lawStmt).getD 5 (.Pass ⟨0, 0, 0, 0⟩))
noncomputable def lawIfA : { a : Stmt // a = loop2.getD 3 (.Pass ⟨0, 0, 0, 0⟩) } := ⟨_, by conv => rhs; whnf⟩
local macro_rules | `(tactic| k_mem) => `(tactic| assumption)
local macro_rules | `(tactic| walk_at "eval ListComp") => `(tactic| (refine Hold.out ?_))
local macro_rules | `(tactic| walk_at "compareOp NotEq ref ref") => `(tactic| k_extra "o21")
local macro_rules | `(tactic| walk_at "call builtin:len") => `(tactic| (k_extra "o19"; intro t' tk'))
local macro_rules | `(tactic| bits_by_make) => `(tactic| with_reducible assumption)
set_option maxHeartbeats 8000000 in
set_option pp.deepTerms false in
set_option pp.deepTerms.threshold 8 in
theorem law_ifA {prog : Program} {w : World} {p : Program} {loose : List Str} {mean : ExcName → Option Value} {mg mb : Str → Option Value} {g : Heap} {L fa lA : Addr} {cd : Value} {s : Shared} {m : Str → Option Value} {oC lo : Obj} {news : List (Addr × Obj)} {vs : List Value} {e n : Nat} {pt : Int} {tp tn : Tok} {Q : Flow → Shared → Prop}
    (F : Fr g L s.heap (fun z => if z = Str.ofString "laid" then some (.ref lA) else if z = Str.ofString "part" then some (.int pt tp) else m z)) (N : News g L s.heap news) (X : (Mine.hd.heap_39 w.params).In g) (T : Top p loose mean mg mb g) (K : Below callerA g [] g)
    (hmC : (L + 1, oC) ∈ news) (dC : oC.data = .cell (some (.int (n : Int) tn))) (hml : (lA, lo) ∈ news) (hlo : lo.cls = .type "list" ∧ lo.data = .seq vs.toArray e) (hints : IntsAre vs (digs (2 ^ n) ((Builtin.Int.intBits pt + n - 1) / n) pt))
    (h0 : 0 ≤ pt) (hpb : Builtin.Int.intBits pt ≤ 120) (hn1 : 1 ≤ n) (hn2 : n ≤ 30)
    (hQ : ∀ (h' : Heap) (tk : Nat), Fr g L h' (fun z => if z = Str.ofString "laid" then some (.ref lA) else if z = Str.ofString "part" then some (.int pt tp) else m z) → News g L h' news → Q .next { s with heap := h', toks := tk }) :
    wpAny (model prog w) (callerA.deeper (envOfC (Str.ofString "law") lawScope.1 L fa cd)) (exec lawIfA.1 (envOfC (Str.ofString "law") lawScope.1 L fa cd)) Q (fun _ _ => False) s := by
  have C1 : CodeHd g 49 45 := codeHd_of_K X (by kernel_rfl)
  have hvl : vs.length = (Builtin.Int.intBits pt + n - 1) / n := by rw [hints.length, digs_length]
  have hkle : (Builtin.Int.intBits pt + n - 1) / n ≤ 149 := Nat.le_trans (Nat.div_le_self _ _) (by omega)
  dsimp only [lawIfA, lawScope]
  k_steps
  unfold Hold
  k_dflt (refine LCt.ListComp_T (F₀ := by k_asm) (by with_unfolding_all rfl) (by decide) (by rfl) (by decide) (by rfl) ?_)
  k_dflt walk1
  refine comp_led (by rfl) F N hml hlo (by rw [List.size_toArray, sizeLine_eq]; omega) fun g9 => ?_
  refine rest_pick (fun _ => false) hints (.inr ⟨lo, hml, hlo.1, e, hlo.2⟩) ?_ ?_ ?_
  · intro d1 t1 ys I oI C oC' D m₂ h11 tk11 E' Q' hd1 hC hx F11 N11 off ne hq
    have hr := digs_range (b := 2 ^ n) (Int.pow_pos (by decide)) _ _ d1 hd1
    k_steps
    have e1 : (!decide (d1 < 1 * 2 ^ ((n : Int)).toNat)) = false := by rw [Int.toNat_natCast, Int.one_mul, decide_eq_true hr.2]; rfl
    rw [e1]
    exact hq _ _ F11 N11
  · intro d1 t1 ys I oI C oC' D m₂ h11 tk11 E' Q' hd1 hC hx F11 N11 off ne hq
    k_steps
    exact hq _ _ F11 N11
  · intro ys hys D12 h12 tk12 F12 N12 off12
    have hys0 : ys = [] := by
      have := hys.length
      rw [List.filter_eq_nil_iff.mpr (by simp)] at this
      exact List.eq_nil_of_length_eq_zero this
    subst hys0
    have hfil : List.filter (fun _ : Int => false) (digs (2 ^ n) ((Builtin.Int.intBits pt + n - 1) / n) pt) = [] := List.filter_eq_nil_iff.mpr (by simp)
    have hk : ((Builtin.Int.intBits pt : Int) + n - 1).fdiv n = (((Builtin.Int.intBits pt + n - 1) / n : Nat) : Int) := by
      rw [Int.fdiv_eq_ediv_of_nonneg _ (by omega)]
      have e2 : (Builtin.Int.intBits pt : Int) + n - 1 = ((Builtin.Int.intBits pt + n - 1 : Nat) : Int) := by omega
      rw [e2]; rfl
    dsimp only
    k_steps
    · rename_i hne
      rw [hvl, hk] at hne
      exact absurd rfl hne
    · exact hQ _ _ (by assumption) (fun q hq => (by assumption : News g L _ (_ :: _ :: news)) q (.tail _ (.tail _ hq)))
end Mine
end

section
open PySem PySem.NumText PySem.W PyProof.Rows
set_option Elab.async false
set_option maxRecDepth 100000
namespace Mine
example : (1 : Nat) = 1 := by
  k_with_none
  k_with "o22" => k_here; k_dflt (refine' lN_ne (by k_asm) (by k_mem) (by assumption) (by assumption) (by k_mem) (by exact ⟨rfl, rfl⟩) (by first | exact .nil | assumption) (by ke_room) ?_)
  k_with "o19" => k_here; k_dflt (refine' lN_len (by k_asm) (by k_mem) (by assumption) (by omega) ?_)
  w_top off
  walk1
/-- K figures of n bits hold x, and not fewer -/
theorem kdig {x : Int} {n : Nat} (h0 : 0 ≤ x) (hn1 : 1 ≤ n) : x < (2 ^ n) ^ ((Builtin.Int.intBits x + n - 1) / n) ∧ (1 ≤ (Builtin.Int.intBits x + n - 1) / n → (2 ^ n) ^ ((Builtin.Int.intBits x + n - 1) / n - 1) ≤ x) := by
  have hK1 : n * ((Builtin.Int.intBits x + n - 1) / n) ≤ Builtin.Int.intBits x + n - 1 := Nat.mul_div_le _ _
  have hK2 : Builtin.Int.intBits x ≤ n * ((Builtin.Int.intBits x + n - 1) / n) := by
    have := Nat.lt_mul_div_succ (Builtin.Int.intBits x + n - 1) (show 0 < n by omega)
    rw [Nat.mul_succ] at this
    omega
  generalize (Builtin.Int.intBits x + n - 1) / n = K at *
  constructor
  · rw [pow_pow2]
    have h1 := intBits_le_iff.mp hK2
    have h2 : (x.natAbs : Int) < ((2 ^ (n * K) : Nat) : Int) := by exact_mod_cast h1
    rw [Int.natAbs_of_nonneg h0, Int.natCast_pow] at h2
    exact h2
  · intro hk
    rw [pow_pow2]
    have h3 : n * (K - 1) + n = n * K := by
      rw [← Nat.mul_succ]; congr 1; omega
    have h4 : ¬ Builtin.Int.intBits x ≤ n * (K - 1) := by omega
    have h5 : ¬ x.natAbs < 2 ^ (n * (K - 1)) := fun q => h4 (intBits_le_iff.mpr q)
    have h6 : ((2 ^ (n * (K - 1)) : Nat) : Int) ≤ (x.natAbs : Int) := by
      have : 2 ^ (n * (K - 1)) ≤ x.natAbs := Nat.le_of_not_lt h5
      exact_mod_cast this
    rw [Int.natAbs_of_nonneg h0, Int.natCast_pow] at h6
    exact h6
noncomputable def lawIfB : { a : Stmt // a = loop2.getD 4 (.Pass ⟨0, 0, 0, 0⟩) } := ⟨_, by conv => rhs; whnf⟩
local macro_rules | `(tactic| k_mem) => `(tactic| assumption)
local macro_rules | `(tactic| walk_at "subscriptTail") => `(tactic| refine Hold.out ?_)
local macro_rules | `(tactic| walk_at "compareOp NotEq ref ref") => `(tactic| k_extra "o22")
local macro_rules | `(tactic| walk_at "call builtin:len") => `(tactic| (k_extra "o19"; intro t' tk'))
set_option maxHeartbeats 8000000 in
set_option pp.deepTerms false in
set_option pp.deepTerms.threshold 8 in
theorem law_ifB {prog : Program} {w : World} {p : Program} {loose : List Str} {mean : ExcName → Option Value} {mg mb : Str → Option Value} {g : Heap} {L fa lA : Addr} {cd : Value} {s : Shared} {m : Str → Option Value} {lo : Obj} {news : List (Addr × Obj)} {vs : List Value} {e n : Nat} {pt : Int} {tp : Tok} {Q : Flow → Shared → Prop}
    (F : Fr g L s.heap (fun z => if z = Str.ofString "laid" then some (.ref lA) else if z = Str.ofString "part" then some (.int pt tp) else m z)) (N : News g L s.heap news) (X : (Mine.hd.heap_39 w.params).In g) (T : Top p loose mean mg mb g) (K : Below callerA g [] g)
    (hml : (lA, lo) ∈ news) (hlo : lo.cls = .type "list" ∧ lo.data = .seq vs.toArray e) (hints : IntsAre vs (digs (2 ^ n) ((Builtin.Int.intBits pt + n - 1) / n) pt))
    (h0 : 0 ≤ pt) (hpb : Builtin.Int.intBits pt ≤ 120) (hn1 : 1 ≤ n) (hn2 : n ≤ 30)
    (hQ : ∀ (h' : Heap) (tk : Nat), Fr g L h' (fun z => if z = Str.ofString "laid" then some (.ref lA) else if z = Str.ofString "part" then some (.int pt tp) else m z) → News g L h' news → Q .next { s with heap := h', toks := tk }) :
    wpAny (model prog w) (callerA.deeper (envOfC (Str.ofString "law") lawScope.1 L fa cd)) (exec lawIfB.1 (envOfC (Str.ofString "law") lawScope.1 L fa cd)) Q (fun _ _ => False) s := by
  have C1 : CodeHd g 49 45 := codeHd_of_K X (by kernel_rfl)
  have hvl : vs.length = (Builtin.Int.intBits pt + n - 1) / n := by rw [hints.length, digs_length]
  have hkle : (Builtin.Int.intBits pt + n - 1) / n ≤ 149 := Nat.le_trans (Nat.div_le_self _ _) (by omega)
  dsimp only [lawIfB, lawScope]
  k_steps
  · exact hQ _ _ (by assumption) (fun q hq => (by assumption : News g L _ (_ :: news)) q (.tail _ hq))
  · rename_i l9 h9 F9 N9 l9a hne9 t9 tk9
    obtain ⟨k1, k2⟩ := kdig h0 hn1
    have hne : digs (2 ^ n) ((Builtin.Int.intBits pt + n - 1) / n) pt ≠ [] := of_decide_eq_false hne9
    generalize (Builtin.Int.intBits pt + n - 1) / n = KK at *
    have hK1 : 1 ≤ KK := by
      rcases Nat.eq_zero_or_pos KK with q | q
      · rw [q] at hne; exact absurd rfl hne
      · exact q
    obtain ⟨c, hc, hc0⟩ := digs_last (b := 2 ^ n) (Int.pow_pos (by decide)) (KK - 1) pt h0 (k2 hK1) (by rw [Nat.sub_add_cancel hK1]; exact k1)
    rw [Nat.sub_add_cancel hK1] at hc
    obtain ⟨t8, ht8⟩ := hints.get (KK - 1) c hc
    have hidx : ((vs.length : Int) - 1).toNat = KK - 1 := by omega
    unfold Hold
    refine lN_item N9 (.tail _ hml) hlo (by omega) (by rw [hidx]; exact ht8) (by omega) ?_
    dsimp only
    k_steps
    · exact absurd (by assumption) hc0
    · exact hQ _ _ (by assumption) (fun q hq => (by assumption : News g L _ (_ :: news)) q (.tail _ hq))
end Mine
end

section
open PySem PySem.W PyProof.Rows
set_option Elab.async false
set_option maxRecDepth 100000
namespace Mine
example : (1 : Nat) = 1 := by
  k_with_none
  w_top off
  walk1
section
variable {prog : Program} {w : World} {A : Around} {s : Shared} {env : Env}
noncomputable def rit (i n : Nat) : Obj := { cls := .type "range_iterator", dict := none, data := .fields #[rawInt i, rawInt ((n : Int) - i), rawInt 1], slots := #[] }
theorem forR_atm {x : Str} {body : List Stmt} {Q : Flow → Shared → Prop} {g : Heap} {m₀ : Str → Option Value} {news₀ : List (Addr × Obj)} {I : Addr} {n : Nat} (xs : List Str) (J : Nat → (Str → Option Value) → List (Addr × Obj) → Prop)
    (hh : A.handled = none) (hx : env.kindOf x = some .local) (hp : (env.scope.kind == .class || (env.scope.kind == .module && env.locals != env.globals)) = false)
    (F : Fr g env.locals s.heap m₀) (N : News g env.locals s.heap ((I, rit 0 n) :: news₀)) (hJ : J 0 m₀ news₀) (hJl : ∀ i mm nx, J i mm nx → ∀ p ∈ nx, p.1 ≠ I)
    (turn : ∀ i t (u : Str → Option Value) h tk dr news₁, i < n → J i u news₁ → Fr g env.locals h (fun y => if y = x then some (.int i t) else if xs.contains y = true then u y else m₀ y) → News g env.locals h ((I, rit (i + 1) n) :: news₁) →
      wpAny (model prog w) A (execs body env) (fun f s₃ => match f with
        | .next | .cont => LEndM g env.locals (x :: xs) m₀ s (fun mm nx => (I, rit (i + 1) n) ∈ nx ∧ ∃ nx', (∀ p ∈ nx', p ∈ nx) ∧ J (i + 1) mm nx') s₃
        | .brk => Q .next s₃
        | .ret v => Q (.ret v) s₃) (fun _ _ => False) { s with heap := h, toks := tk, drawn := dr })
    (done : ∀ (u : Str → Option Value) h tk dr news₁, J n u news₁ → Fr g env.locals h (fun y => if (x :: xs).contains y = true then u y else m₀ y) → News g env.locals h news₁ → Q .next { s with heap := h, toks := tk, drawn := dr }) :
    ForAt prog w A env x body Q (.ref I) s := by
  refine ⟨fun k s' => ∃ i, k = n - i ∧ i ≤ n ∧ LEndM g env.locals (x :: xs) m₀ s (fun mm nx => (I, rit i n) ∈ nx ∧ ∃ nx', (∀ p ∈ nx', p ∈ nx) ∧ J i mm nx') s', _,
    ⟨0, rfl, Nat.zero_le _, s.heap, s.toks, s.drawn, m₀, _, rfl, F, fun _ _ => rfl, N, .head _, news₀, fun p hp => .tail _ hp, hJ⟩, fun k s' hI => ?_⟩
  obtain ⟨i, rfl, hi, h, tk, dr, m₁, nx, rfl, F₁, e₁, N₁, hIn, nx', hsub, J₁⟩ := hI
  have hoff := hJl i m₁ nx' J₁
  have hit : IsRangeIter h I (i : Int) ((n : Int) - i) 1 := (N₁ _ hIn).1
  have hIL : I ≠ env.locals := (N₁ _ hIn).2.1
  by_cases hlt : i < n
  · refine wpAny_pyNext_range_item (s := { s with heap := h, toks := tk, drawn := dr }) hit (by omega) fun h' hit' hs => ?_
    have F₂ : Fr g env.locals h' m₁ := F₁.change hs (N₁ _ hIn).2.1 (N₁ _ hIn).2.2
    refine wpAny_storeName_local hx F₂.ns (fun h'' hn hsb => ?_) hp
    have F₃ := F₂.set hn hsb
    have hit2 : h'.get? I = some (rit (i + 1) n) := by
      have e1 : (i : Int) + 1 = ((i + 1 : Nat) : Int) := by omega
      have e2 : (n : Int) - i - 1 = (n : Int) - ((i + 1 : Nat) : Int) := by omega
      rw [e1, e2] at hit'
      exact hit'
    have N₃ : News g env.locals h'' ((I, rit (i + 1) n) :: nx') := by
      intro p hp
      rcases List.mem_cons.mp hp with rfl | hp
      · exact ⟨(hsb.2 I hIL).trans hit2, (N₁ _ hIn).2⟩
      · have q := N₁ p (hsub p hp)
        exact ⟨(hsb.2 p.1 q.2.1).trans ((hs.2 p.1 (hoff p hp)).trans q.1), q.2⟩
    have hmap : (fun y => if y = x then some (.int i tk) else m₁ y) = fun y => if y = x then some (.int i tk) else if xs.contains y = true then m₁ y else m₀ y := by
      funext y
      by_cases hy : y = x
      · simp [hy]
      · rw [if_neg hy, if_neg hy]
        cases hc : xs.contains y with
        | true => simp
        | false =>
          simp only [Bool.false_eq_true, if_false]
          refine e₁ y ?_
          rw [List.contains_cons, hc]
          simp [hy]
    dsimp only at F₃
    rw [hmap] at F₃
    refine wpAny_mono (turn i tk m₁ h'' _ dr nx' hlt J₁ F₃ N₃) (fun f s₃ h₃ => ?_) fun _ _ x => x
    have fin : LEndM g env.locals (x :: xs) m₀ s (fun mm nx => (I, rit (i + 1) n) ∈ nx ∧ ∃ nx', (∀ p ∈ nx', p ∈ nx) ∧ J (i + 1) mm nx') s₃ → ∃ k, k < n - i ∧ ∃ i', k = n - i' ∧ i' ≤ n ∧ LEndM g env.locals (x :: xs) m₀ s (fun mm nx => (I, rit i' n) ∈ nx ∧ ∃ nx', (∀ p ∈ nx', p ∈ nx) ∧ J i' mm nx') s₃ := by
      rintro ⟨h, tk, dr, m₂, news₂, e, F₂, e₂, N₂, k1, k2⟩
      exact ⟨n - (i + 1), by omega, i + 1, rfl, hlt, h, tk, dr, m₂, news₂, e, F₂, e₂, N₂, k1, k2⟩
    cases f with
    | next => exact fin h₃
    | cont => exact fin h₃
    | brk => exact h₃
    | ret v => exact h₃
  · have hil : i = n := by omega
    subst hil
    refine wpAny_pyNext_range_end (s := { s with heap := h, toks := tk, drawn := dr }) hh hit (by omega) fun h' hs => ?_
    obtain ⟨oL, a1, a2, hL, a3⟩ := F₁.ns
    have F₂ : Fr g env.locals h' m₁ := ⟨⟨oL, a1, a2, hs _ _ (Ne.symm hIL) hL, a3⟩, fun b o eb => hs b o (fun q => by have := (N₁ _ hIn).2.2; rw [← q, eb] at this; cases this) (F₁.keep b o eb), F₁.above⟩
    refine done m₁ h' tk dr nx' J₁ (fr_over F₂ e₁) fun p hp => ?_
    have q := N₁ p (hsub p hp)
    exact ⟨hs _ _ (hoff p hp) q.1, q.2⟩
end
end Mine
end

section
open PySem PySem.NumText PySem.W PyProof.Rows
set_option Elab.async false
set_option maxRecDepth 100000
namespace Mine
example : (1 : Nat) = 1 := by
  k_with_none
  k_with "o19" => k_here; k_dflt (refine' lN_len (by k_asm) (by k_mem) (by assumption) (by omega) ?_)
  w_top off
  walk1
theorem rsize (n : Nat) : Builtin.Range.rangeSize 0 (n : Int) 1 = (n : Int) := by
  unfold Builtin.Range.rangeSize
  rw [if_pos (by decide)]
  split
  · rw [Int.ediv_one]; omega
  · omega
theorem rfits {x : Int} (a : -1 ≤ x) (b : x ≤ 2000) : Builtin.Range.rangeFitsLong x = true := by
  unfold Builtin.Range.rangeFitsLong
  rw [Bool.and_eq_true, decide_eq_true_eq, decide_eq_true_eq]
  constructor <;> omega
theorem rsmall (n : Nat) (h : n ≤ 1000) : Builtin.Range.small 0 (n : Int) 1 = true := by
  unfold Builtin.Range.small
  rw [rsize, if_pos (by decide), rfits (by omega) (by omega), rfits (x := n) (by omega) (by omega), rfits (x := 1) (by omega) (by omega), rfits (x := (n : Int) + (1 - 1)) (by omega) (by omega)]
  simp
theorem dval_step {b : Int} {ds : List Int} {i : Nat} (h : i < ds.length) : dval b (ds.take i) + ds[i] * b ^ i = dval b (ds.take (i + 1)) := by
  have htake : ds.take (i + 1) = ds.take i ++ [ds[i]] := by rw [List.take_add_one, List.getElem?_eq_getElem h]; rfl
  rw [htake, dval_append, List.length_take, Nat.min_eq_left (by omega)]
  simp [dval, Int.mul_comm]
noncomputable def lawFor3 : { a : Stmt // a = loop2.getD 6 (.Pass ⟨0, 0, 0, 0⟩) } := ⟨_, by conv => rhs; whnf⟩
local macro_rules | `(tactic| k_mem) => `(tactic| assumption)
local macro_rules | `(tactic| walk_at $s:str) => if ["subscriptTail", "pyIter ref", "call type:range", "binaryOp LShift int int"].contains s.getString then `(tactic| refine Hold.out ?_) else Lean.Macro.throwUnsupported
local macro_rules | `(tactic| walk_at "call builtin:len") => `(tactic| (k_extra "o19"; intro t' tk'))
local macro_rules | `(tactic| bits_by_make) => `(tactic| with_reducible assumption)
set_option maxHeartbeats 8000000 in
set_option pp.deepTerms false in
set_option pp.deepTerms.threshold 8 in
theorem law_for3 {prog : Program} {w : World} {p : Program} {loose : List Str} {mean : ExcName → Option Value} {mg mb : Str → Option Value} {g : Heap} {L fa lA : Addr} {cd : Value} {s : Shared} {m : Str → Option Value} {oC lo : Obj} {news : List (Addr × Obj)} {vs : List Value} {e n : Nat} {ds : List Int} {pt : Int} {tb tp tn : Tok} {Q : Flow → Shared → Prop}
    (F : Fr g L s.heap (fun z => if z = Str.ofString "back" then some (.int 0 tb) else if z = Str.ofString "laid" then some (.ref lA) else if z = Str.ofString "part" then some (.int pt tp) else m z)) (N : News g L s.heap news) (X : (Mine.hd.heap_39 w.params).In g) (T : Top p loose mean mg mb g) (K : Below callerA g [] g)
    (hmC : (L + 1, oC) ∈ news) (dC : oC.data = .cell (some (.int (n : Int) tn))) (hml : (lA, lo) ∈ news) (hlo : lo.cls = .type "list" ∧ lo.data = .seq vs.toArray e) (hints : IntsAre vs ds) (hdig : ∀ d ∈ ds, 0 ≤ d ∧ d < 2 ^ n)
    (hn1 : 1 ≤ n) (hn2 : n ≤ 30) (hlen : ds.length ≤ 149)
    (hQ : ∀ (h' : Heap) (tk : Nat) (dr : Drawn) (u : Str → Option Value) (tb' : Tok), (∀ z, z ≠ Str.ofString "k" → z ≠ Str.ofString "back" → z ≠ Str.ofString "laid" → z ≠ Str.ofString "part" → u z = m z) → Fr g L h' (fun z => if z = Str.ofString "back" then some (.int (dval (2 ^ n) ds) tb') else if z = Str.ofString "laid" then some (.ref lA) else if z = Str.ofString "part" then some (.int pt tp) else u z) → News g L h' news → Q .next { s with heap := h', toks := tk, drawn := dr }) :
    wpAny (model prog w) (callerA.deeper (envOfC (Str.ofString "law") lawScope.1 L fa cd)) (exec lawFor3.1 (envOfC (Str.ofString "law") lawScope.1 L fa cd)) Q (fun _ _ => False) s := by
  have C1 : CodeHd g 49 45 := codeHd_of_K X (by kernel_rfl)
  have hvl : vs.length = ds.length := hints.length
  dsimp only [lawFor3, lawScope]
  refine for_any ?_
  k_steps
  rename_i t8 tk8
  unfold Hold
  refine range1_rows F N fun h9 tk9 t1 u1 v1 hr F9 N9 hk9 => ?_
  dsimp only
  rw [hvl] at hr
  refine wpAny_pyIter_range hr (rsmall _ (by omega)) ?_
  rw [rsize]
  refine forR_atm (n := ds.length) (news₀ := news) [Str.ofString "back"] (fun i mm nx => (∃ tb, mm (Str.ofString "back") = some (.int (dval (2 ^ n) (ds.take i)) tb)) ∧ nx = news) rfl rfl rfl (F9.push _) (News.push F9 N9 _) ⟨⟨_, rfl⟩, rfl⟩ ?_ ?_ ?_
  · rintro i mm nx ⟨_, rfl⟩ q hq
    exact Nat.ne_of_lt (Heap.lt_size (N9 q hq).1)
  · rintro i t u h tk dr nx hi ⟨⟨tb1, hb⟩, rfl⟩ F N
    have F := fr_pin F (x := Str.ofString "back") (v := some (.int (dval (2 ^ n) (ds.take i)) tb1)) (by rw [if_neg (by decide), if_pos (by decide)]; exact hb)
    obtain ⟨td, htd⟩ := hints.get i ds[i] (List.getElem?_eq_getElem hi)
    have hdi := hdig _ (List.getElem_mem hi)
    k_steps
    unfold Hold
    refine lN_item N (.tail _ hml) hlo (by omega) (by rw [Int.toNat_natCast]; exact htd) (by omega) ?_
    dsimp only
    k_steps
    unfold Hold
    have esh : (n : Int) * (i : Int) = ((n * i : Nat) : Int) := by rw [Int.natCast_mul]
    have hni : n * i ≤ 30 * 149 := Nat.mul_le_mul hn2 (by omega)
    have hdb : Builtin.Int.intBits ds[i] ≤ 30 := Nat.le_trans (bits_of_lt hdi.1 hdi.2) hn2
    rw [esh]
    refine lshift_int (Int.natCast_nonneg _) (by omega) ?_
    rw [Int.toNat_natCast, ← pow_pow2]
    dsimp only
    k_steps
    rename_i h99 F99 N99
    refine ⟨h99, tk, dr, _, _, rfl, F99, fun y hy => ?_, N99, .head _, nx, fun q hq => .tail _ hq, ⟨_, by rw [← dval_step hi]; rfl⟩, rfl⟩
    have hy2 := not_in2 hy
    simp only [hy2.1, hy2.2, contains_tail hy, if_false, Bool.false_eq_true]
  · rintro u h tk dr nx ⟨⟨tb1, hb⟩, rfl⟩ F N
    rw [List.take_length] at hb
    have F := fr_pin F (x := Str.ofString "part") (v := some (.int pt tp)) (by rw [if_neg (by decide)]; rfl)
    have F := fr_pin F (x := Str.ofString "laid") (v := some (.ref lA)) (by rw [if_neg (by decide), if_neg (by decide)]; rfl)
    have F := fr_pin F (x := Str.ofString "back") (v := some (.int (dval (2 ^ n) ds) tb1)) (by rw [if_neg (by decide), if_neg (by decide), if_pos (by decide)]; exact hb)
    refine hQ h tk dr _ tb1 (fun z h1 h2 h3 h4 => ?_) F N
    have hc : [Str.ofString "k", Str.ofString "back"].contains z = false := by
      simp only [List.contains_cons, List.contains_nil, Bool.or_false, Bool.or_eq_false_iff, beq_eq_false_iff_ne]
      exact ⟨h1, h2⟩
    simp only [hc, h2, h3, h4, if_false, Bool.false_eq_true]
end Mine
end

section
open PySem PySem.NumText PySem.W PyProof.Rows
set_option Elab.async false
set_option maxRecDepth 100000
namespace Mine
example : (1 : Nat) = 1 := by
  k_with_none
  w_top off
  walk1
noncomputable def lawIfC : { a : Stmt // a = loop2.getD 7 (.Pass ⟨0, 0, 0, 0⟩) } := ⟨_, by conv => rhs; whnf⟩
local macro_rules | `(tactic| k_call_by "use" $c:term) => `(tactic| (k_dflt (refine' Does.use $c ?k1 ?k2 ?k3 ?k4 ?k5 ?kK ?kd ?ku ?kp ?_; (case k1 => k_asm); (case k2 => k_asm); (case k3 => k_asm); (case k4 => k_asm); (case k5 => k_asm); (case kK => first | exact rfl | assumption))))
local macro_rules | `(tactic| k_mem) => `(tactic| assumption)
local macro_rules | `(tactic| walk_at "call ref") => `(tactic| refine Hold.out ?_)
set_option maxHeartbeats 8000000 in
set_option pp.deepTerms false in
set_option pp.deepTerms.threshold 8 in
theorem law_ifC {prog : Program} {w : World} {p : Program} {loose : List Str} {mean : ExcName → Option Value} {mg mb : Str → Option Value} {g : Heap} {L fa lA : Addr} {cd : Value} {s : Shared} {m : Str → Option Value} {oC lo : Obj} {rest : List (Addr × Obj)} {vs : List Value} {e n : Nat} {ds : List Int} {pt : Int} {tb tp tn : Tok} {pa : Array Value} {Q : Flow → Shared → Prop}
    (F : Fr g L s.heap (fun z => if z = Str.ofString "back" then some (.int pt tb) else if z = Str.ofString "laid" then some (.ref lA) else if z = Str.ofString "part" then some (.int pt tp) else m z)) (N : News g L s.heap ((45, tabObj pa) :: rest)) (X : (Mine.hd.heap_39 w.params).In g) (T : Top p loose mean mg mb g) (K : Below callerA g [] g)
    (hmC : (L + 1, oC) ∈ rest) (dC : oC.data = .cell (some (.int (n : Int) tn))) (hml : (lA, lo) ∈ rest) (hlo : lo.cls = .type "list" ∧ lo.data = .seq vs.toArray e) (hints : IntsAre vs ds) (hdig : ∀ d ∈ ds, 0 ≤ d ∧ d < 2 ^ n)
    (hn1 : 1 ≤ n) (hn2 : n ≤ 30) (hlen : ds.length ≤ 149) (hbn : n * ds.length ≤ 200) (hval : dval (2 ^ n) ds = pt) (h45 : ∀ q ∈ rest, q.1 ≠ 45) (hT : TabSt (Str.ofString "_digits2int.<locals>.inner") 74 4 pa rest)
    (hQ : ∀ (h' : Heap) (tk : Nat) (dr : Drawn) (pa' : Array Value) (ext : List (Addr × Obj)), Fr g L h' (fun z => if z = Str.ofString "back" then some (.int pt tb) else if z = Str.ofString "laid" then some (.ref lA) else if z = Str.ofString "part" then some (.int pt tp) else m z) →
      News g L h' ((45, tabObj pa') :: (ext ++ rest)) → TabSt (Str.ofString "_digits2int.<locals>.inner") 74 4 pa' (ext ++ rest) → (∀ q ∈ ext, ∀ p ∈ (45, tabObj pa) :: rest, p.1 < q.1) → Q .next { s with heap := h', toks := tk, drawn := dr }) :
    wpAny (model prog w) (callerA.deeper (envOfC (Str.ofString "law") lawScope.1 L fa cd)) (exec lawIfC.1 (envOfC (Str.ofString "law") lawScope.1 L fa cd)) Q (fun _ _ => False) s := by
  have C1 : CodeHd g 49 45 := codeHd_of_K X (by kernel_rfl)
  dsimp only [lawIfC, lawScope]
  k_steps
  · exact absurd rfl (by assumption)
  unfold Hold
  k_call_by "use" (d2i_does lA lo _ vs e ds n pa rest hlo hints hdig (by omega) hbn (by omega) hml h45 hT)
  · show callerA.depth + 1 + _ < _; decide
  · show callerA.units + 3 + _ < _; decide
  · rfl
  · rintro r news' h' tk' dr' F9 N9 ⟨⟨t9, rfl⟩, pa', ext, rfl, hT', hext⟩
    rw [hval]
    k_steps
    · exact absurd rfl (by assumption)
    exact hQ _ _ _ pa' ext F9 N9 hT' hext
end Mine
end

section
open PySem PySem.Calls PySem.W PyProof.Rows PyProof.V PySem.Spec
set_option Elab.async false
set_option maxRecDepth 100000
namespace Mine
example : (1 : Nat) = 1 := by
  k_with_none
  w_top off
  walk1
theorem ints_ofAt : ∀ {vs : List Value} {ks : List Int}, vs.length = ks.length → (∀ (j : Nat) (v : Value), vs[j]? = some v → ∃ k t, ks[j]? = some k ∧ v = .int k t) → IntsAre vs ks
  | [], [], _, _ => .nil
  | [], _ :: _, h, _ => by cases h
  | _ :: _, [], h, _ => by cases h
  | v :: vs, k :: ks, h, hv => by
    obtain ⟨k', t, e, rfl⟩ := hv 0 v rfl
    have : k = k' := by simpa using e
    subst this
    exact .cons k t (ints_ofAt (by simpa using h) fun j u hu => hv (j + 1) u (by simpa using hu))
section
variable {prog : Program} {w : World} {A : Around} {E : Value → Shared → Prop} {s : Shared} {h₀ : Heap} {L d : Addr} {m : Str → Option Value} {news : List (Addr × Obj)} {od : Obj} {kvs : List (Int × Value)}
theorem dN_sorted {Q : Value → Shared → Prop} (hh : A.handled = none) (F : Fr h₀ L s.heap m) (N : News h₀ L s.heap news) (hm : (d, od) ∈ news) (hd : od.IsDictOf (intKind prog w) kvs) (lo : (d == sysModules) = false) (hlen : kvs.length < 64)
    (h : ∀ h' B vs ks e tk, Fr h₀ L h' m → News h₀ L h' ((B, seqObj "list" vs.toArray e) :: news) → (∀ q ∈ news, q.1 < B) → IntsAre vs ks → ks.Perm (kvs.map (·.1)) → ks.Pairwise (· ≤ ·) → Q (.ref B) { s with heap := h', toks := tk }) :
    wpAny (model prog w) A (call (.builtin "sorted") [.ref d]) Q E s := by
  obtain ⟨ep, hat⟩ := KdkAt.of hd
  refine kdu_sorted (kdl_dict (knd := intKind prog w) (kvs := kvs) (ep := ep) lo) hh F N (hat.dictAt (N _ hm).1) (by rw [sizeLine_eq]; omega) fun B h' tk vs F' N' l1 hl hv => ?_
  have hints : IntsAre vs (kvs.map (·.1)) := ints_ofAt (by rw [hl, List.length_map]) fun j v hj => by
    obtain ⟨k, x, hx, hk⟩ := hv j v hj
    obtain ⟨t, rfl⟩ := Flat.int_inv (kdl_flat_int hk)
    exact ⟨k, t, by rw [List.getElem?_map, hx]; rfl, rfl⟩
  have hoL : h'.get? B = some (seqObj "list" vs.toArray 0) := (N' _ (.head _)).1
  refine wpAny_call_entry slot_list_sort ⟨_, hoL, rfl⟩ entry_list_sort (list_sort_tree hoL hints (by omega) fun out ns' a1 a2 a3 => ⟨_, rfl, ?_⟩) (args_list_sort _)
  obtain ⟨e, he⟩ := sortedHeap_at (vs := vs) (out := out) hoL
  have hBn := (N' _ (.head _)).2
  have up : ∀ b o, b ≠ B → h'.get? b = some o → (sortedHeap h' B vs out).get? b = some o := fun b o hb g => by
    rw [sortedHeap_old hb (Heap.lt_size g)]; exact g
  refine h _ B out.toList ns' e tk ⟨F'.ns.at' fun o g => up _ o (Ne.symm hBn.1) g, fun b o g => up b o (fun q => by rw [q, hBn.2] at g; cases g) (F'.keep b o g), F'.above⟩ (fun q hq => ?_) l1 a1 a2 a3
  rcases List.mem_cons.mp hq with rfl | hq
  · exact ⟨he, hBn⟩
  · have z := N' q (.tail _ hq)
    exact ⟨up _ _ (Nat.ne_of_lt (l1 q hq)) z.1, z.2⟩
end
end Mine
end

section
open PySem PySem.NumText PySem.W PyProof.Rows
set_option Elab.async false
set_option maxRecDepth 100000
namespace Mine
example : (1 : Nat) = 1 := by
  k_with_none
  k_with "o21" => k_here; k_dflt (refine' lN_ne (by k_asm) (by k_mem) (by exact ⟨rfl, rfl⟩) (by assumption) (by k_mem) (by exact ⟨rfl, rfl⟩) (by first | exact .nil | assumption) (by ke_room) ?_)
  w_top off
  walk1
theorem keys_len {n M : Int} {kvs : List (Int × Value)} (hn : 0 ≤ n) (hn2 : n ≤ 10000) (hM : 2 ≤ M) (hs : (kvs.map (·.1)).Pairwise (· < ·)) (hk : ∀ k, k ∈ kvs.map (·.1) ↔ Need n M k) : kvs.length ≤ 28 := by
  have hnd : (kvs.map (·.1)).Nodup := hs.imp fun h => by omega
  have := length_le_of_nodup hnd (l' := lvs n) fun x hx => let ⟨_, hg⟩ := ((hk x).mp hx).got; hg.mem_lvs hn (by omega) hM
  rw [lvs_length, List.length_map] at this
  exact this
noncomputable def lawIfD : { a : Stmt // a = loop2.getD 10 (.Pass ⟨0, 0, 0, 0⟩) } := ⟨_, by conv => rhs; whnf⟩
local macro_rules | `(tactic| k_call_by "use" $c:term) => `(tactic| (k_dflt (refine' Does.use $c ?k1 ?k2 ?k3 ?k4 ?k5 ?kK ?kd ?ku ?kp ?_; (case k1 => k_asm); (case k2 => k_asm); (case k3 => k_asm); (case k4 => k_asm); (case k5 => k_asm); (case kK => first | exact rfl | assumption))))
local macro_rules | `(tactic| k_mem) => `(tactic| assumption)
local macro_rules | `(tactic| walk_at $s:str) => if ["call ref", "call builtin:sorted"].contains s.getString then `(tactic| refine Hold.out ?_) else Lean.Macro.throwUnsupported
local macro_rules | `(tactic| walk_at "compareOp NotEq ref ref") => `(tactic| k_extra "o21")
set_option maxHeartbeats 8000000 in
set_option pp.deepTerms false in
set_option pp.deepTerms.threshold 8 in
theorem law_ifD {prog : Program} {w : World} {p : Program} {loose : List Str} {mean : ExcName → Option Value} {mg mb : Str → Option Value} {g : Heap} {L fa d : Addr} {cd : Value} {s : Shared} {m : Str → Option Value} {oP od : Obj} {news : List (Addr × Obj)} {n M : Int} {tn tM : Tok} {kvs : List (Int × Value)} {Q : Flow → Shared → Prop}
    (F : Fr g L s.heap (fun z => if z = Str.ofString "bound" then some (.int M tM) else if z = Str.ofString "length" then some (.int n tn) else m z)) (N : News g L s.heap news) (X : (Mine.hd.heap_39 w.params).In g) (T : Top p loose mean mg mb g) (K : Below callerA g [] g)
    (hmP : (L + 1 + 1 + 1, oP) ∈ news) (dP : oP.data = .cell (some (.ref d))) (hmd : (d, od) ∈ news) (hd : od.IsDictOf (intKind prog w) kvs) (hsort : (kvs.map (·.1)).Pairwise (· < ·)) (hkeys : ∀ k, k ∈ kvs.map (·.1) ↔ Need n M k) (hds : (d == sysModules) = false)
    (hn : 0 ≤ n) (hn2 : n ≤ 10000) (hM : 2 ≤ M)
    (hQ : ∀ (h' : Heap) (tk : Nat) (dr : Drawn), Fr g L h' (fun z => if z = Str.ofString "bound" then some (.int M tM) else if z = Str.ofString "length" then some (.int n tn) else m z) → News g L h' news → Q .next { s with heap := h', toks := tk, drawn := dr }) :
    wpAny (model prog w) (callerA.deeper (envOfC (Str.ofString "law") lawScope.1 L fa cd)) (exec lawIfD.1 (envOfC (Str.ofString "law") lawScope.1 L fa cd)) Q (fun _ _ => False) s := by
  have C1 : CodeHd g 49 45 := codeHd_of_K X (by kernel_rfl)
  have hkl := keys_len hn hn2 hM hsort hkeys
  dsimp only [lawIfD, lawScope]
  k_steps
  unfold Hold
  refine dN_sorted rfl F N hmd hd hds (by omega) fun h2 B vs2 ks2 e2 tk2 F2 N2 l2 hi2 hp2 hs2 => ?_
  have hks2 : ks2.Pairwise (· < ·) := rising_of hs2 (hp2.nodup_iff.mpr (hsort.imp fun h => by omega))
  k_steps
  unfold Hold
  k_call_by "use" (need_does n M _ _ hn hn2 hM)
  · show callerA.depth + 1 + _ < _; decide
  · show callerA.units + 3 + _ < _; decide
  · trivial
  · rintro r news' h' tk' dr' F9 N9 ⟨l, vs3, e3, ks3, rfl, rfl, l3, hi3, hs3, hk3⟩
    have heq : ks2 = ks3 := eq_of_rising hks2 hs3 fun x => by rw [hp2.mem_iff, hkeys, hk3]
    subst heq
    try dsimp only
    k_steps
    · exact hQ _ _ _ F9 (fun q hq => N9 q (.tail _ (.tail _ hq)))
    · exact absurd rfl (by assumption)
end Mine
end

section
open PySem PySem.Calls PySem.W PyProof.Rows PyProof.Rows.LCg PyProof.Rows.LCt PyProof.V PySem.Spec
set_option Elab.async false
set_option maxRecDepth 100000
namespace Mine
example : (1 : Nat) = 1 := by
  k_with_none
  w_top off
  walk1
section
variable {prog : Program} {w : World} {A : Around} {E : Value → Shared → Prop} {s : Shared} {h₀ : Heap} {L : Addr} {m : Str → Option Value} {env : Env}
def KeyP (prog : Program) (w : World) (kvs : List (Int × Value)) (i : Nat) (v : Value) : Prop := ∃ k x, kvs[i]? = some (k, x) ∧ (intKind prog w).is k v = true
theorem rest_noneD {ct elt : Expr} {x : Str} {scope : Scope} {cl : List (Str × Addr)} {S : List (Addr × Obj) → Prop} {Fin : List Value → List (Addr × Obj) → Prop} {kvs : List (Int × Value)} {news : List (Addr × Obj)} (hS : S news)
    (turn : ∀ (k : Int) (t : Tok) (ys : List Value) (I : Addr) (oI : Obj) (C : Addr) (oC : Obj) (D : Addr) (m₂ : Str → Option Value) (h : Heap) (tk : Nat) (E' : Value → Shared → Prop) (Q' : Bool → Shared → Prop),
      k ∈ kvs.map (·.1) → NsObj oC m₂ → m₂ x = some (.int k t) → Fr h₀ L h m → News h₀ L h ((I, oI) :: (C, oC) :: (D, lst ys) :: news) → Off3 I C D news → ((@Ne Nat I C) ∧ (@Ne Nat I D) ∧ (@Ne Nat C D)) →
      (∀ h' tk', Fr h₀ L h' m → News h₀ L h' ((I, oI) :: (C, oC) :: (D, lst ys) :: news) → Q' false { s with heap := h', toks := tk' }) →
      wpAny (model prog w) A (isTrue ct (compEnvC scope cl C env) (eval ct (compEnvC scope cl C env))) Q' E' { s with heap := h, toks := tk })
    (fin : Fin [] news) :
    CompRestT prog w A h₀ L m env ct elt x scope cl s S (KeyP prog w kvs) Fin kvs.length 0 [] news := by
  have key : ∀ k i, k + i = kvs.length → CompRestT prog w A h₀ L m env ct elt x scope cl s S (KeyP prog w kvs) Fin k i [] news := by
    intro k
    induction k with
    | zero => intro i _; exact CompRestT.zero fin
    | succ k ih =>
      intro i hk
      refine CompRestT.succ fun v I oI C oC D m₂ h tk E' hv hC hx F N off ne => ?_
      obtain ⟨kk, y, hky, his⟩ := hv
      obtain ⟨t, rfl⟩ := Flat.int_inv (kdl_flat_int his)
      refine turn kk t [] I oI C oC D m₂ h tk E' _ (List.mem_map.mpr ⟨_, List.mem_of_getElem? hky, rfl⟩) hC hx F N off ne fun h' tk' F' N' => ?_
      simp only [Bool.false_eq_true, if_false]
      exact ⟨h', tk', news, rfl, F', N', off, hS, ih (i + 1) (by omega)⟩
  exact key kvs.length 0 rfl
theorem ListComp_dict {ct elt iter : Expr} {x : Str} {px : Pos} {scope : Scope} {cl : List (Str × Addr)} {pos : Pos} {Q : Value → Shared → Prop} (_F₀ : Fr h₀ L s.heap m)
    (hclos : closureFor scope env = pure cl) (hcell : ∀ y ∈ scope.names, y.2 ≠ .cell) (hkind : scope.kind = .function)
    (hnames : ∀ y ∈ scope.names, y.2 = .local → scope.names.lookup y.1 = some .local) (hx : scope.names.lookup x = some .local)
    (h : wpAny (model prog w) A (eval iter env) (fun xv s₁ => ∃ (d : Addr) (od : Obj) (kvs : List (Int × Value)) (news : List (Addr × Obj)), xv = .ref d ∧ A.handled = none ∧ Fr h₀ L s₁.heap m ∧ News h₀ L s₁.heap news ∧ (d, od) ∈ news ∧ od.IsDictOf (intKind prog w) kvs ∧ (d == sysModules) = false ∧ kvs.length ≤ 1000 ∧
      ∀ g, CompRestT prog w A h₀ L m env ct elt x scope cl { s₁ with heap := g } (fun nw => (d, od) ∈ nw) (KeyP prog w kvs) (FinE h₀ L m { s₁ with heap := g } Q) kvs.length 0 [] news) E s)
    (hs : ∀ x, foldedSetIterable iter env x = pure x := by intro _; rfl) :
    wpAny (model prog w) A (eval (.ListComp elt [⟨.Name x px, iter, [ct], 0⟩] scope pos) env) Q E s := by
  rw [eval_ListComp]
  refine wpAny_comprehension_free (use := none) rfl hs hclos hkind hnames (wpAny_mono h (fun xv s₁ h₁ => ?_) fun _ _ e => e)
  obtain ⟨d, od, kvs, news, rfl, hh, F, N, hm, hd, lo, hsz, R⟩ := h₁
  obtain ⟨ep, hat⟩ := KdkAt.of hd
  have hlt : d < s₁.heap.objs.size := Heap.lt_size (N _ hm).1
  refine wpAny_pyIter_dict lo (hat.dictAt (N _ hm).1) ?_
  have up : ∀ b o, s₁.heap.get? b = some o → (s₁.heap.push { cls := .type "dict_keyiterator", data := .fields #[.ref d, .int 0 0, .int kvs.length 0, .int ep 0] }).get? b = some o := fun b o e => Heap.get?_push_of_some _ e
  refine block_T (Walks.dictKeys (knd := intKind prog w) hh s₁.heap.objs.size d (Nat.ne_of_lt hlt) kvs ep) (by rw [sizeLine_eq]; omega) (fun i h st => by obtain ⟨o, e, _⟩ := st.1; exact ⟨o, e⟩)
    (fun i h h' o nw st e e' k N S => ⟨by obtain ⟨o', q, r⟩ := st.1; rw [e] at q; cases q; exact ⟨o, e', r⟩, hat.dictAt (N _ S).1⟩) hcell hkind hx ⟨⟨_, Heap.get?_push_size _ rfl, rfl, rfl⟩, hat.dictAt (up _ _ (N _ hm).1)⟩ (fun b hb => ?_)
    (F.keeps up) (N.grown up) (Nat.ne_of_lt F.ns.lt) (next_is_new F) (fun p hp => Nat.ne_of_lt (Heap.lt_size (N p hp).1)) hm (R _) ?_
  · show b < (s₁.heap.push _).objs.size
    rw [Heap.size_push]
    rcases List.mem_cons.mp hb with rfl | hb
    · exact Nat.lt_succ_self _
    · rw [List.mem_singleton.mp hb]; exact Nat.lt_succ_of_lt hlt
  · intro D C h tk m' ys news' F' N' o1 hn hC₀ hD₀ hCL hDL hCD offC fin
    refine ⟨m', hn, fun h'' hs'' => fin D h'' tk (F'.change hs'' hCL hC₀) (fun p hp => ?_) o1⟩
    refine ⟨hs''.extBut _ _ ?_ (N' p hp).1, (N' p hp).2⟩
    rcases List.mem_cons.mp hp with rfl | hp
    · exact Ne.symm hCD
    · exact offC p hp
end
end Mine
end

section
open PySem PySem.W PyProof.Rows
set_option Elab.async false
set_option maxRecDepth 100000
namespace Mine
example : (1 : Nat) = 1 := by
  k_with_none
  w_top off
  walk1
/-- as Does, the drawn kept -/
def DoesK (prog : Program) (w : World) (p : Program) (loose : List Str) (mean : ExcName → Option Value) (mg mb : Str → Option Value) (dn un : Nat) (f : Addr) (vs : List Value)
    (pre : List (Addr × Obj) → Prop) (post : List (Addr × Obj) → List (Addr × Obj) → Value → Prop) : Prop :=
  ∀ (dp u : Nat) (gd : Option (List Code)) (cn : Str) (cs : Scope) (a : Addr) (ccd : Value) (cl : List (Str × Addr)) (outer : List Env) (A₀ : Around) (base h₀ : Heap) (L : Addr) (m : Str → Option Value) (news : List (Addr × Obj)) (s : Shared)
    (Q : Value → Shared → Prop),
    Below A₀ base outer h₀ → Fr h₀ L s.heap m → (Mine.hd.heap_39 w.params).In h₀ → News h₀ L s.heap news → Top p loose mean mg mb h₀ → cs.kind = .function → dp + dn < recursionLimit → u + un < cLine → pre news →
    (∀ r news' h' tk', Fr h₀ L h' m → News h₀ L h' news' → post news news' r → Q r { s with heap := h', toks := tk' }) →
    wpAny (model prog w) (ktrTop dp u gd cn cs L a ccd cl outer) (call (.ref f) vs) Q (fun _ _ => False) s

section
variable {prog : Program} {w : World} {p : Program} {loose : List Str} {mean : ExcName → Option Value} {mg mb : Str → Option Value} {dn un : Nat} {f : Addr} {vs : List Value}
    {pre : List (Addr × Obj) → Prop} {post : List (Addr × Obj) → List (Addr × Obj) → Value → Prop}
theorem DoesK.use (C : DoesK prog w p loose mean mg mb dn un f vs pre post) {dp u : Nat} {gd : Option (List Code)} {cn : Str} {cs : Scope} {a : Addr} {ccd : Value} {cl : List (Str × Addr)} {outer : List Env} {A₀ : Around} {base h₀ : Heap} {L : Addr} {m : Str → Option Value} {news : List (Addr × Obj)} {s : Shared}
    {Q E : Value → Shared → Prop}
    (B : Below A₀ base outer h₀) (F : Fr h₀ L s.heap m) (X : (Mine.hd.heap_39 w.params).In h₀) (N : News h₀ L s.heap news) (T : Top p loose mean mg mb h₀) (hk : cs.kind = .function) (hd : dp + dn < recursionLimit) (hu : u + un < cLine) (hpre : pre news)
    (ret : ∀ r news' h' tk', Fr h₀ L h' m → News h₀ L h' news' → post news news' r → Q r { s with heap := h', toks := tk' }) :
    wpAny (model prog w) (ktrTop dp u gd cn cs L a ccd cl outer) (call (.ref f) vs) Q E s :=
  wpAny_mono (C dp u gd cn cs a ccd cl outer A₀ base h₀ L m news s Q B F X N T hk hd hu hpre ret) (fun _ _ h => h) fun _ _ h => h.elim
end
local macro_rules | `(tactic| k_call_by "use" $c:term) => `(tactic| (k_dflt (refine' DoesK.use $c ?k1 ?k2 ?k3 ?k4 ?k5 ?kK ?kd ?ku ?kp ?_; (case k1 => k_asm); (case k2 => k_asm); (case k3 => k_asm); (case k4 => k_asm); (case k5 => k_asm); (case kK => first | exact rfl | assumption))))
local macro_rules | `(tactic| bits_by_make) => `(tactic| with_reducible assumption)
set_option maxHeartbeats 4000000 in
set_option pp.deepTerms false in
set_option pp.deepTerms.threshold 5 in
theorem law_power_doesK {prog : Program} {w : World} {p : Program} {loose : List Str} {mean : ExcName → Option Value} {mg mb : Str → Option Value} (b : Int) (k : Nat) (hb : Builtin.Int.intBits b ≤ k) (d n : Nat) (hd2 : n < 2 ^ d) (hn : k * n ≤ 100000) (hk1 : k ≤ 100000) (tb tn : Tok) :
    DoesK prog w p loose mean mg mb (d + 1) (8 * (d + 1)) 57 [.int b tb, .int (n : Int) tn] (fun _ => True) (fun news news' r => news' = news ∧ ∃ t, r = .int (b ^ n) t) := by
  induction d generalizing n tb tn with
  | zero =>
    have hn : n = 0 := by simpa using hd2
    subst hn
    unfold DoesK
    intro dp u gd cn cs a ccd cl outer A₀ base h₀ L m news s Q B F X N T hk hd hu hpre hret
    refine wpAny_call ?_
    k_dflt ktr_enter
    k_steps
    exact hret _ _ _ _ (by assumption) (by assumption) ⟨rfl, _, by rw [Int.pow_zero]⟩
  | succ d IH =>
  unfold DoesK
  intro dp u gd cn cs a ccd cl outer A₀ base h₀ L m news s Q B F X N T hk hd hu hpre hret
  refine wpAny_call ?_
  k_dflt ktr_enter
  k_steps
  · have hn : n = 0 := by omega
    subst hn
    exact hret _ _ _ _ (by assumption) (by assumption) ⟨rfl, _, by rw [Int.pow_zero]⟩
  · have hfd : ((n : Int)).fdiv 2 = ((n / 2 : Nat) : Int) := by
      rw [Int.fdiv_eq_ediv_of_nonneg _ (by omega)]; omega
    rw [hfd]
    have hn2 : k * (n / 2) ≤ 100000 := Nat.le_trans (Nat.mul_le_mul_left _ (Nat.div_le_self _ _)) hn
    have hp2 : n / 2 < 2 ^ d := by rw [Nat.pow_succ] at hd2; omega
    k_call_by "use" (IH (n / 2) hp2 hn2 _ _)
    · show dp + 1 + _ < _; omega
    · show u + 3 + _ < _; omega
    · trivial
    · intro r news' h' tk' F9 N9 hp
      obtain ⟨rfl, t, rfl⟩ := hp
      dsimp only
      have hbb : Builtin.Int.intBits b ≤ 100000 := Nat.le_trans hb hk1
      have hbp : Builtin.Int.intBits (b ^ (n / 2)) ≤ 100001 := Nat.le_trans (intBits_pow_le hb _) (by omega)
      k_steps
      all_goals refine hret _ _ _ _ (by assumption) (by assumption) ⟨rfl, ktn_int ?_⟩
      · exact pow_half b n (by assumption)
      · exact pow_half0 b n (by assumption)
end Mine
end

section
open PySem PySem.NumText PySem.W PyProof.Rows
set_option Elab.async false
set_option maxRecDepth 100000
namespace Mine
example : (1 : Nat) = 1 := by
  k_with_none
  k_with "o23" => k_here; k_dflt (refine' lN_ne (by k_asm) (by k_mem) (by exact ⟨rfl, rfl⟩) (by first | exact .nil | assumption) (by k_mem) (by exact ⟨rfl, rfl⟩) (by first | exact .nil | assumption) (by ke_room) ?_)
  w_top off
  walk1
noncomputable def lawIfE : { a : Stmt // a = loop2.getD 11 (.Pass ⟨0, 0, 0, 0⟩) } := ⟨_, by conv => rhs; whnf⟩
local macro_rules | `(tactic| k_mem) => `(tactic| assumption)
local macro_rules | `(tactic| walk_at $s:str) => if ["call ref", "subscriptTail", "eval ListComp"].contains s.getString then `(tactic| refine Hold.out ?_) else Lean.Macro.throwUnsupported
local macro_rules | `(tactic| walk_at "compareOp NotEq ref ref") => `(tactic| k_extra "o23")
set_option maxHeartbeats 8000000 in
set_option pp.deepTerms false in
set_option pp.deepTerms.threshold 8 in
theorem law_ifE {prog : Program} {w : World} {p : Program} {loose : List Str} {mean : ExcName → Option Value} {mg mb : Str → Option Value} {g : Heap} {L fa d : Addr} {cd : Value} {s : Shared} {m : Str → Option Value} {oP oB od : Obj} {news : List (Addr × Obj)} {b : Int} {tb : Tok} {kvs : List (Int × Value)} {Q : Flow → Shared → Prop}
    (F : Fr g L s.heap m) (N : News g L s.heap news) (X : (Mine.hd.heap_39 w.params).In g) (T : Top p loose mean mg mb g) (K : Below callerA g [] g)
    (hmP : (L + 1 + 1 + 1, oP) ∈ news) (dP : oP.data = .cell (some (.ref d))) (hmB : (L + 1 + 1, oB) ∈ news) (dB : oB.data = .cell (some (.int b tb))) (hmd : (d, od) ∈ news) (hd : od.IsDictOf (intKind prog w) kvs) (hpow : PowVals b kvs) (hk : ∀ k ∈ kvs.map (·.1), 1 ≤ k ∧ k ≤ 5000) (hds : (d == sysModules) = false) (hlen : kvs.length ≤ 28) (hb : Builtin.Int.intBits b ≤ 4)
    (hQ : ∀ (h' : Heap) (tk : Nat), Fr g L h' m → News g L h' news → Q .next { s with heap := h', toks := tk }) :
    wpAny (model prog w) (callerA.deeper (envOfC (Str.ofString "law") lawScope.1 L fa cd)) (exec lawIfE.1 (envOfC (Str.ofString "law") lawScope.1 L fa cd)) Q (fun _ _ => False) s := by
  have C1 : CodeHd g 49 45 := codeHd_of_K X (by kernel_rfl)
  dsimp only [lawIfE, lawScope]
  k_steps
  unfold Hold
  k_dflt (refine ListComp_dict (_F₀ := by k_asm) (by with_unfolding_all rfl) (by decide) (by rfl) (by decide) (by rfl) ?_)
  k_dflt walk1
  refine ⟨d, od, kvs, news, rfl, rfl, F, N, hmd, hd, hds, by omega, fun g9 => rest_noneD hmd ?_ ?_⟩
  · intro k1 t1 ys I oI C oC D m₂ h11 tk11 E' Q' hk1 hC hx F11 N11 off ne hq
    obtain ⟨q0, q1⟩ := hk k1 hk1
    obtain ⟨kn, rfl⟩ := Int.eq_ofNat_of_zero_le (show 0 ≤ k1 by omega)
    k_steps
    unfold Hold
    refine dN_item N11 (.tail _ (.tail _ (.tail _ hmd))) hd hpow hk1 fun t5 => ?_
    dsimp only
    k_steps
    rw [Int.toNat_natCast]
    unfold Hold
    k_dflt (refine' DoesK.use (law_power_doesK b 4 hb 13 kn (by omega) (by omega) (by omega) _ _) ?k1 ?k2 ?k3 ?k4 ?k5 ?kK ?kd ?ku ?kp ?_; (case k1 => k_asm); (case k2 => k_asm); (case k3 => k_asm); (case k4 => k_asm); (case k5 => k_asm); (case kK => first | exact rfl | assumption))
    · show callerA.depth + 1 + _ < _; decide
    · show callerA.units + 3 + _ < _; decide
    · trivial
    · intro r news' h' tk' F9 N9 hp
      obtain ⟨rfl, t9, rfl⟩ := hp
      dsimp only
      k_steps
      have e1 : (b ^ kn != b ^ kn) = false := by simp
      rw [e1]
      exact hq _ _ F9 N9
  · intro D12 h12 tk12 F12 N12 off12
    dsimp only
    k_steps
    exact hQ _ _ (by assumption) (fun q hq => (by assumption : News g L _ (_ :: _ :: news)) q (.tail _ (.tail _ hq)))
end Mine
end

section
open PySem PySem.NumText PySem.W PyProof.Rows
set_option Elab.async false
set_option maxRecDepth 100000
namespace Mine
example : (1 : Nat) = 1 := by
  k_with_none
  w_top off
  walk1
theorem TabSt.mono {qual : Str} {ln cl : Int} {ps : Array Value} {l l' : List (Addr × Obj)} (h : TabSt qual ln cl ps l) (hs : ∀ q ∈ l, q ∈ l') : TabSt qual ln cl ps l' := by
  rcases h with rfl | ⟨c', oc, ocvs, t, e, hm, r⟩
  · exact .inl rfl
  · exact .inr ⟨c', oc, ocvs, t, e, hs _ hm, r⟩
theorem tab_norm {qual : Str} {ln cl : Int} {ps : Array Value} {own rest ext : List (Addr × Obj)} {P : Addr × Obj → Prop} (hT : TabSt qual ln cl ps (ext ++ (own ++ rest))) (hown : ∀ q ∈ own, ∀ vs t, q.2.data = .fields vs → vs[1]? ≠ some (.str qual t)) (hext : ∀ q ∈ ext, q ∈ own ++ rest ∨ P q) :
    ∃ ext', (∀ q ∈ ext', q ∈ ext ∧ P q) ∧ TabSt qual ln cl ps (ext' ++ rest) := by
  rcases hT with rfl | ⟨c', oc, ocvs, t, e, hm, hd, r⟩
  · exact ⟨[], fun _ h => (nomatch h), .inl rfl⟩
  · have hcase : (c', oc) ∈ own ++ rest → ∃ ext', (∀ q ∈ ext', q ∈ ext ∧ P q) ∧ TabSt qual ln cl ps (ext' ++ rest) := fun h => by
      rcases List.mem_append.mp h with h | h
      · exact absurd r (hown _ h _ _ hd)
      · exact ⟨[], fun _ h => (nomatch h), .inr ⟨c', oc, ocvs, t, e, h, hd, r⟩⟩
    rcases List.mem_append.mp hm with h | h
    · rcases hext _ h with q | q
      · exact hcase q
      · exact ⟨[(c', oc)], fun x hx => by rw [List.mem_singleton.mp hx]; exact ⟨h, q⟩, .inr ⟨c', oc, ocvs, t, e, .head _, hd, r⟩⟩
    · exact hcase h
theorem tab_noStr {q q' : Str} {ln cl : Int} {ps vs : Array Value} {l : List (Addr × Obj)} {t : Tok} (h : TabSt q ln cl ps l) (e : (tabObj ps).data = .fields vs) : vs[1]? ≠ some (.str q' t) := by
  have e2 : vs = ps := by cases e; rfl
  subst e2
  rcases h with rfl | ⟨c', oc, ocvs, t', rfl, _⟩
  · simp
  · simp [rawInt]
theorem and_low {x : Int} (hx : 0 ≤ x) (k : Nat) : Builtin.bitAnd x (2 ^ k - 1) = x % 2 ^ k := by
  obtain ⟨y, rfl⟩ := Int.eq_ofNat_of_zero_le hx
  have hp : (0 : Int) < 2 ^ k := Int.pow_pos (by decide)
  have e : ((2 : Int) ^ k - 1) = ((2 ^ k - 1 : Nat) : Int) := by
    rw [Int.natCast_sub (Nat.one_le_two_pow), Int.natCast_pow]; rfl
  rw [e, bitAnd_pp (Int.natCast_nonneg _) (Int.natCast_nonneg _), Int.toNat_natCast, Int.toNat_natCast, Nat.and_two_pow_sub_one_eq_mod, Int.natCast_emod, Int.natCast_pow]
  rfl
noncomputable def lawBody2 : { a : List Stmt // a = loop2 } := ⟨_, by conv => rhs; whnf⟩
local macro_rules | `(tactic| k_call_by "use" $c:term) => `(tactic| (k_dflt (refine' Does.use $c ?k1 ?k2 ?k3 ?k4 ?k5 ?kK ?kd ?ku ?kp ?_; (case k1 => k_asm); (case k2 => k_asm); (case k3 => k_asm); (case k4 => k_asm); (case k5 => k_asm); (case kK => first | exact rfl | assumption))))
local macro_rules | `(tactic| k_all) => `(tactic| assumption)
local macro_rules | `(tactic| k_mem) => `(tactic| assumption)
local macro_rules | `(tactic| walk_at $s:str) => if ["call ref", "exec If", "exec For Name Call cons nil", "binaryOp BitAnd int int"].contains s.getString then `(tactic| refine Hold.out ?_) else Lean.Macro.throwUnsupported
local macro_rules | `(tactic| bits_by_make) => `(tactic| with_reducible assumption)
set_option maxHeartbeats 8000000 in
set_option pp.deepTerms false in
set_option pp.deepTerms.threshold 8 in
theorem law_turn2 {prog : Program} {w : World} {p : Program} {loose : List Str} {mean : ExcName → Option Value} {mg mb : Str → Option Value} {g : Heap} {L fa : Addr} {cd : Value} {s : Shared} {m : Str → Option Value} {oP oB oC : Obj} {cP cB cC : Option Value} {rest : List (Addr × Obj)} {x : Str} {v n : Int} {tx tv tn : Tok} {pa pb : Array Value} {Q : Flow → Shared → Prop}
    (F : Fr g L s.heap m) (hmt : m (Str.ofString "text") = some (.str x tx)) (hmv : m (Str.ofString "value") = some (.int v tv)) (hmn : m (Str.ofString "number") = some (.int n tn))
    (N : News g L s.heap ((L + 1 + 1 + 1, oP) :: (L + 1 + 1, oB) :: (L + 1, oC) :: (45, tabObj pa) :: (38, tabObj pb) :: rest)) (X : (Mine.hd.heap_39 w.params).In g) (T : Top p loose mean mg mb g) (K : Below callerA g [] g)
    (hl0 : @LT.lt Nat _ 45 L) (dP : oP.data = .cell cP) (dB : oB.data = .cell cB) (dC : oC.data = .cell cC)
    (r1 : ∀ q ∈ rest, q.1 ≠ L + 1) (r2 : ∀ q ∈ rest, q.1 ≠ L + 1 + 1) (r3 : ∀ q ∈ rest, q.1 ≠ L + 1 + 1 + 1) (r4 : ∀ q ∈ rest, q.1 ≠ 45) (r5 : ∀ q ∈ rest, q.1 ≠ 38)
    (hTa : TabSt (Str.ofString "_digits2int.<locals>.inner") 74 4 pa rest) (hTb : TabSt (Str.ofString "_int2digits.<locals>.inner") 59 4 pb rest)
    (hT : TInv x v) (hxl : x.length ≤ 4788) (hnb : Builtin.Int.intBits n ≤ 1048576)
    (hQ : ∀ (h' : Heap) (tk : Nat) (dr : Drawn) (u : Str → Option Value) (oP' oB' oC' : Obj) (cP' cB' cC' : Option Value) (pa' pb' : Array Value) (ext : List (Addr × Obj)), Fr g L h' u →
      (∀ z, [Str.ofString "part", Str.ofString "laid", Str.ofString "back", Str.ofString "k", Str.ofString "length", Str.ofString "bound"].contains z = false → u z = m z) →
      News g L h' ((L + 1 + 1 + 1, oP') :: (L + 1 + 1, oB') :: (L + 1, oC') :: (45, tabObj pa') :: (38, tabObj pb') :: (ext ++ rest)) → oP'.data = .cell cP' → oB'.data = .cell cB' → oC'.data = .cell cC' →
      TabSt (Str.ofString "_digits2int.<locals>.inner") 74 4 pa' (ext ++ rest) → TabSt (Str.ofString "_int2digits.<locals>.inner") 59 4 pb' (ext ++ rest) →
      (∀ q ∈ ext, ∀ p ∈ (L + 1 + 1 + 1, oP) :: (L + 1 + 1, oB) :: (L + 1, oC) :: (45, tabObj pa) :: (38, tabObj pb) :: rest, p.1 < q.1) → Q .next { s with heap := h', toks := tk, drawn := dr }) :
    wpAny (model prog w) (callerA.deeper (envOfC (Str.ofString "law") lawScope.1 L fa cd)) (execs lawBody2.1 (envOfC (Str.ofString "law") lawScope.1 L fa cd)) Q (fun _ _ => False) s := by
  have C1 : CodeHd g 49 45 := codeHd_of_K X (by kernel_rfl)
  have F0 := fr_pin F hmv
  have F1 := fr_pin F0 (x := Str.ofString "text") (v := some (.str x tx)) (by rw [if_neg (by decide)]; exact hmt)
  have F2 := fr_pin F1 (x := Str.ofString "number") (v := some (.int n tn)) (by rw [if_neg (by decide), if_neg (by decide)]; exact hmn)
  clear F F0 F1
  dsimp only [lawBody2, lawScope]
  k_steps
  rename_i h1 oC1 F3 N3 dC1
  have hfm : n.fmod 30 = n % 30 := Int.fmod_eq_emod_of_nonneg _ (by decide)
  have hfm0 : 0 ≤ n.fmod 30 := fm_lo n (by decide)
  have hfm1 : n.fmod 30 < 30 := Int.fmod_lt_of_pos n (by decide)
  have hnn : 1 + n.fmod 30 = (((1 + n.fmod 30).toNat : Nat) : Int) := one_nat hfm0
  generalize (1 + n.fmod 30).toNat = nn at hnn
  rw [hnn] at dC1
  have hnn1 : 1 ≤ nn := nn_lo hnn hfm0
  have hnn2 : nn ≤ 30 := nn_hi hnn hfm1
  have hv0 := hT.nonneg
  have hba : Builtin.bitAnd v (1 * 2 ^ Int.toNat 120 - 1) = v % 2 ^ 120 := by
    rw [Int.one_mul]; exact and_low hv0 120
  have hp0 : 0 ≤ v % 2 ^ 120 := Int.emod_nonneg _ (by decide)
  have hp1 : v % 2 ^ 120 < 2 ^ 120 := Int.emod_lt_of_pos _ (by decide)
  have hpb := bits_of_lt hp0 hp1
  unfold Hold
  refine and_int ?_
  rw [hba]
  generalize v % 2 ^ 120 = pt at *
  dsimp only
  k_steps
  rename_i h2 F4 N4
  unfold Hold
  k_dflt (refine' Does.use (i2d_does pt nn _ _ pb ((L + 1 + 1 + 1, oP) :: (L + 1 + 1, oB) :: (L + 1, oC1) :: (45, tabObj pa) :: rest) hp0 hpb hnn1 hnn2 ?_ (hTb.mono fun q hq => .tail _ (.tail _ (.tail _ (.tail _ hq))))) ?k1 ?k2 ?k3 ?k4 ?k5 ?kK ?kd ?ku ?kp ?_; (case k1 => k_asm); (case k2 => k_asm); (case k3 => k_asm); (case k5 => k_asm); (case kK => first | exact rfl | assumption))
  case kp => exact rfl
  case k4 => exact fun q hq => N4 q (by
    rcases List.mem_cons.mp hq with rfl | hq
    · exact .tail _ (.tail _ (.tail _ (.tail _ (.head _))))
    · rcases List.mem_cons.mp hq with rfl | hq
      · exact .head _
      · rcases List.mem_cons.mp hq with rfl | hq
        · exact .tail _ (.head _)
        · rcases List.mem_cons.mp hq with rfl | hq
          · exact .tail _ (.tail _ (.head _))
          · rcases List.mem_cons.mp hq with rfl | hq
            · exact .tail _ (.tail _ (.tail _ (.head _)))
            · exact .tail _ (.tail _ (.tail _ (.tail _ (.tail _ hq)))))
  case kd => show callerA.depth + 1 + _ < _; decide
  case ku => show callerA.units + 3 + _ < _; decide
  · intro q hq
    rcases List.mem_cons.mp hq with rfl | hq
    · k_ne
    · rcases List.mem_cons.mp hq with rfl | hq
      · k_ne
      · rcases List.mem_cons.mp hq with rfl | hq
        · k_ne
        · rcases List.mem_cons.mp hq with rfl | hq
          · k_ne
          · exact r5 q hq
  rintro r news' h' tk' dr' F9 N9 ⟨lA, lo, vs, e, pb', ext, rfl, rfl, hlo, hints, hTb', hlA, hext⟩
  obtain ⟨ext1, hx1, hTb1⟩ := tab_norm (own := [(L + 1 + 1 + 1, oP), (L + 1 + 1, oB), (L + 1, oC1), (45, tabObj pa)]) (rest := rest) hTb' (fun q hq ws t hws => by
      simp only [List.mem_cons, List.not_mem_nil, or_false] at hq
      rcases hq with rfl | rfl | rfl | rfl
      · rw [dP] at hws; cases hws
      · rw [dB] at hws; cases hws
      · rw [dC1] at hws; cases hws
      · exact tab_noStr hTa hws) fun q hq => (hext q hq).2
  try dsimp only
  k_steps
  rename_i h3 F5 N5'
  have N5 : News g L h3 ((L + 1 + 1 + 1, oP) :: (L + 1 + 1, oB) :: (L + 1, oC1) :: (45, tabObj pa) :: (38, tabObj pb') :: (lA, lo) :: (ext1 ++ rest)) := fun q hq => N5' q (by
    rcases List.mem_cons.mp hq with rfl | hq
    · exact .tail _ (.tail _ (List.mem_append_right _ (.head _)))
    · rcases List.mem_cons.mp hq with rfl | hq
      · exact .tail _ (.tail _ (List.mem_append_right _ (.tail _ (.head _))))
      · rcases List.mem_cons.mp hq with rfl | hq
        · exact .tail _ (.tail _ (List.mem_append_right _ (.tail _ (.tail _ (.head _)))))
        · rcases List.mem_cons.mp hq with rfl | hq
          · exact .tail _ (.tail _ (List.mem_append_right _ (.tail _ (.tail _ (.tail _ (.head _))))))
          · rcases List.mem_cons.mp hq with rfl | hq
            · exact .head _
            · rcases List.mem_cons.mp hq with rfl | hq
              · exact .tail _ (.head _)
              · rcases List.mem_append.mp hq with hq | hq
                · exact .tail _ (.tail _ (List.mem_append_left _ (hx1 q hq).1))
                · exact .tail _ (.tail _ (List.mem_append_right _ (.tail _ (.tail _ (.tail _ (.tail _ hq)))))))
  clear N5' hTb'
  obtain ⟨kd1, kd2⟩ := kdig hp0 hnn1
  have hdg := digs_range (b := 2 ^ nn) (Int.pow_pos (by decide)) ((Builtin.Int.intBits pt + nn - 1) / nn) pt
  have hdl : (digs (2 ^ nn) ((Builtin.Int.intBits pt + nn - 1) / nn) pt).length ≤ 149 := by
    rw [digs_length]; exact Nat.le_trans (Nat.div_le_self _ _) (bn_hi hpb hnn2 (by decide))
  have hdn : nn * (digs (2 ^ nn) ((Builtin.Int.intBits pt + nn - 1) / nn) pt).length ≤ 200 := by
    rw [digs_length]; exact Nat.le_trans (Nat.mul_div_le _ _) (bn_hi hpb hnn2 (by decide))
  have hdv : dval (2 ^ nn) (digs (2 ^ nn) ((Builtin.Int.intBits pt + nn - 1) / nn) pt) = pt := dval_digs (Int.pow_pos (by decide)) _ _ hp0 kd1
  unfold Hold
  refine law_ifA F5 N5 X T K (.tail _ (.tail _ (.head _))) dC1 (.tail _ (.tail _ (.tail _ (.tail _ (.tail _ (.head _)))))) hlo hints hp0 hpb hnn1 hnn2 ?_
  intro h4 tk4 F6 N6
  try dsimp only
  k_steps
  unfold Hold
  refine law_ifB F6 N6 X T K (.tail _ (.tail _ (.tail _ (.tail _ (.tail _ (.head _)))))) hlo hints hp0 hpb hnn1 hnn2 ?_
  intro h5 tk5 F7 N7
  try dsimp only
  k_steps
  rename_i h6 F8 N8
  unfold Hold
  refine law_for3 F8 N8 X T K (.tail _ (.tail _ (.head _))) dC1 (.tail _ (.tail _ (.tail _ (.tail _ (.tail _ (.head _)))))) hlo hints hdg hnn1 hnn2 hdl ?_
  intro h7 tk7 dr7 u7 tb7 hu7 F10 N10
  rw [hdv] at F10
  try dsimp only
  k_steps
  unfold Hold
  have N11 : News g L h7 ((45, tabObj pa) :: (L + 1 + 1 + 1, oP) :: (L + 1 + 1, oB) :: (L + 1, oC1) :: (38, tabObj pb') :: (lA, lo) :: (ext1 ++ rest)) := fun q hq => N10 q (by
    rcases List.mem_cons.mp hq with rfl | hq
    · exact .tail _ (.tail _ (.tail _ (.head _)))
    · rcases List.mem_cons.mp hq with rfl | hq
      · exact .head _
      · rcases List.mem_cons.mp hq with rfl | hq
        · exact .tail _ (.head _)
        · rcases List.mem_cons.mp hq with rfl | hq
          · exact .tail _ (.tail _ (.head _))
          · exact .tail _ (.tail _ (.tail _ (.tail _ hq))))
  refine law_ifC F10 N11 X T K (.tail _ (.tail _ (.head _))) dC1 (.tail _ (.tail _ (.tail _ (.tail _ (.head _))))) hlo hints hdg hnn1 hnn2 hdl hdn hdv ?_ (hTa.mono fun q hq => .tail _ (.tail _ (.tail _ (.tail _ (.tail _ (List.mem_append_right _ hq)))))) ?_
  · intro q hq
    have hlt := hlA (45, tabObj pa) (.tail _ (.tail _ (.tail _ (.tail _ (.head _)))))
    dsimp only at hlt
    rcases List.mem_cons.mp hq with rfl | hq
    · k_ne
    · rcases List.mem_cons.mp hq with rfl | hq
      · k_ne
      · rcases List.mem_cons.mp hq with rfl | hq
        · k_ne
        · rcases List.mem_cons.mp hq with rfl | hq
          · show (38 : Nat) ≠ 45; decide
          · rcases List.mem_cons.mp hq with rfl | hq
            · exact Nat.ne_of_gt hlt
            · rcases List.mem_append.mp hq with hq | hq
              · exact Nat.ne_of_gt ((hx1 q hq).2 (45, tabObj pa) (.tail _ (.tail _ (.tail _ (.tail _ (.head _))))))
              · exact r4 q hq
  intro h8 tk8 dr8 pa' ext2 F12 N12 hTa2 hx2
  obtain ⟨ext2', hx2', hTa3⟩ := tab_norm (own := [(L + 1 + 1 + 1, oP), (L + 1 + 1, oB), (L + 1, oC1), (38, tabObj pb'), (lA, lo)]) (rest := ext1 ++ rest) hTa2 (fun q hq ws t hws => by
      simp only [List.mem_cons, List.not_mem_nil, or_false] at hq
      rcases hq with rfl | rfl | rfl | rfl | rfl
      · rw [dP] at hws; cases hws
      · rw [dB] at hws; cases hws
      · rw [dC1] at hws; cases hws
      · exact tab_noStr hTb1 hws
      · rw [hlo.2] at hws; cases hws) fun q hq => .inr (hx2 q hq)
  obtain ⟨rX, hrX⟩ : ∃ r, r = (ext2' ++ ext1) ++ rest := ⟨_, rfl⟩
  have hTaX : TabSt (Str.ofString "_digits2int.<locals>.inner") 74 4 pa' rX := by rw [hrX, List.append_assoc]; exact hTa3
  have hTbX : TabSt (Str.ofString "_int2digits.<locals>.inner") 59 4 pb' rX := by rw [hrX, List.append_assoc]; exact hTb1.mono fun q hq => List.mem_append_right _ hq
  have hfX : ∀ q ∈ ext2' ++ ext1, ∀ p ∈ (L + 1 + 1 + 1, oP) :: (L + 1 + 1, oB) :: (L + 1, oC) :: (45, tabObj pa) :: (38, tabObj pb) :: rest, p.1 < q.1 := by
    intro q hq p hp
    rcases List.mem_append.mp hq with hq | hq
    · have hh := (hx2' q hq).2
      rcases List.mem_cons.mp hp with rfl | hp
      · exact hh (L + 1 + 1 + 1, oP) (.tail _ (.head _))
      · rcases List.mem_cons.mp hp with rfl | hp
        · exact hh (L + 1 + 1, oB) (.tail _ (.tail _ (.head _)))
        · rcases List.mem_cons.mp hp with rfl | hp
          · exact hh (L + 1, oC1) (.tail _ (.tail _ (.tail _ (.head _))))
          · rcases List.mem_cons.mp hp with rfl | hp
            · exact hh (45, tabObj pa) (.head _)
            · rcases List.mem_cons.mp hp with rfl | hp
              · exact hh (38, tabObj pb') (.tail _ (.tail _ (.tail _ (.tail _ (.head _)))))
              · exact hh p (.tail _ (.tail _ (.tail _ (.tail _ (.tail _ (.tail _ (List.mem_append_right _ hp)))))))
    · have hh := (hx1 q hq).2
      rcases List.mem_cons.mp hp with rfl | hp
      · exact hh (L + 1 + 1 + 1, oP) (.tail _ (.head _))
      · rcases List.mem_cons.mp hp with rfl | hp
        · exact hh (L + 1 + 1, oB) (.tail _ (.tail _ (.head _)))
        · rcases List.mem_cons.mp hp with rfl | hp
          · exact hh (L + 1, oC1) (.tail _ (.tail _ (.tail _ (.head _))))
          · rcases List.mem_cons.mp hp with rfl | hp
            · exact hh (45, tabObj pa) (.tail _ (.tail _ (.tail _ (.tail _ (.head _)))))
            · rcases List.mem_cons.mp hp with rfl | hp
              · exact hh (38, tabObj pb) (.head _)
              · exact hh p (.tail _ (.tail _ (.tail _ (.tail _ (.tail _ hp)))))
  have N13 : News g L h8 ((L + 1 + 1 + 1, oP) :: (L + 1 + 1, oB) :: (L + 1, oC1) :: (45, tabObj pa') :: (38, tabObj pb') :: rX) := fun q hq => N12 q (by
    rcases List.mem_cons.mp hq with rfl | hq
    · exact .tail _ (List.mem_append_right _ (.head _))
    · rcases List.mem_cons.mp hq with rfl | hq
      · exact .tail _ (List.mem_append_right _ (.tail _ (.head _)))
      · rcases List.mem_cons.mp hq with rfl | hq
        · exact .tail _ (List.mem_append_right _ (.tail _ (.tail _ (.head _))))
        · rcases List.mem_cons.mp hq with rfl | hq
          · exact .head _
          · rcases List.mem_cons.mp hq with rfl | hq
            · exact .tail _ (List.mem_append_right _ (.tail _ (.tail _ (.tail _ (.head _)))))
            · rw [hrX, List.append_assoc] at hq
              rcases List.mem_append.mp hq with hq | hq
              · exact .tail _ (List.mem_append_left _ (hx2' q hq).1)
              · exact .tail _ (List.mem_append_right _ (.tail _ (.tail _ (.tail _ (.tail _ (.tail _ hq)))))))
  have r2X : ∀ q ∈ rX, q.1 ≠ L + 1 + 1 := fun q hq => by
    rw [hrX] at hq
    rcases List.mem_append.mp hq with hq | hq
    · exact Nat.ne_of_gt (hfX q hq (L + 1 + 1, oB) (.tail _ (.head _)))
    · exact r2 q hq
  have r3X : ∀ q ∈ rX, q.1 ≠ L + 1 + 1 + 1 := fun q hq => by
    rw [hrX] at hq
    rcases List.mem_append.mp hq with hq | hq
    · exact Nat.ne_of_gt (hfX q hq (L + 1 + 1 + 1, oP) (.head _))
    · exact r3 q hq
  clear N11 N12 hTa2 hx2 hTa3 hx2' hlA hext hx1 hTb1 r1 r2 r3 r4 r5 hTa hTb
  have G0 := fr_pin F12 (x := Str.ofString "value") (v := some (.int v tv)) (by
    rw [if_neg (by decide), if_neg (by decide), if_neg (by decide), hu7 _ (by decide) (by decide) (by decide) (by decide)]; rfl)
  have G1 := fr_pin G0 (x := Str.ofString "text") (v := some (.str x tx)) (by
    rw [if_neg (by decide), if_neg (by decide), if_neg (by decide), if_neg (by decide), hu7 _ (by decide) (by decide) (by decide) (by decide)]; rfl)
  have G2 := fr_pin G1 (x := Str.ofString "number") (v := some (.int n tn)) (by
    rw [if_neg (by decide), if_neg (by decide), if_neg (by decide), if_neg (by decide), if_neg (by decide), hu7 _ (by decide) (by decide) (by decide) (by decide)]; rfl)
  have hG : ∀ z, [Str.ofString "part", Str.ofString "laid", Str.ofString "back", Str.ofString "k"].contains z = false → u7 z = m z := fun z hz => by
    have hz2 : z ≠ Str.ofString "part" ∧ z ≠ Str.ofString "laid" ∧ z ≠ Str.ofString "back" ∧ z ≠ Str.ofString "k" := by
      simpa [List.contains_cons, List.contains_nil, Bool.or_false, Bool.or_eq_false_iff, beq_eq_false_iff_ne] using hz
    rw [hu7 z hz2.2.2.2 hz2.2.2.1 hz2.2.1 hz2.1]
    split
    · rename_i h; rw [h, hmn]
    · split
      · rename_i h; rw [h, hmt]
      · split
        · rename_i h; rw [h, hmv]
        · rfl
  clear G0 G1
  try dsimp only
  k_steps
  have hf9 : n.fmod 9 = n % 9 := Int.fmod_eq_emod_of_nonneg _ (by decide)
  have hf150 : n.fmod 150 = n % 150 := Int.fmod_eq_emod_of_nonneg _ (by decide)
  have hf5 : (if n < 0 then -n else n).fmod 5000 = (if n < 0 then -n else n) % 5000 := Int.fmod_eq_emod_of_nonneg _ (by decide)
  have hln0 : 0 ≤ (x.length : Int) + (if n < 0 then -n else n).fmod 5000 := by rw [hf5]; exact Int.add_nonneg (Int.natCast_nonneg _) (Int.emod_nonneg _ (by decide))
  have hln1 : (x.length : Int) + (if n < 0 then -n else n).fmod 5000 ≤ 10000 := by rw [hf5]; exact ln_hi _ (by assumption)
  have hb4 : Builtin.Int.intBits (2 + n.fmod 9) ≤ 4 := bits_of_lt (two_lo (fm_lo n (by decide))) (show 2 + n.fmod 9 < 2 ^ 4 from two_hi (Int.fmod_lt_of_pos n (by decide)))
  have hM2 : 2 ≤ 20 + 2 * n.fmod 150 := lim_lo (fm_lo n (by decide))
  have hMe : (20 + 2 * n.fmod 150) % 2 = 0 := lim_even _
  rename_i D1 g4 l1 g3 g2 g1 oB1 dB1 g0 F14 N14
  generalize (x.length : Int) + (if n < 0 then -n else n).fmod 5000 = len at *
  generalize 2 + n.fmod 9 = bs at *
  generalize 20 + 2 * n.fmod 150 = bd at *
  unfold Hold
  k_call_by "use" (powers_does len bs bd _ _ _ hln0 hln1 hb4 hM2 hMe)
  · show callerA.depth + 1 + _ < _; decide
  · show callerA.units + 3 + _ < _; decide
  · trivial
  rintro r news' h15 tk15 dr15 F15 N15 ⟨d, od, kvs, rfl, rfl, hdlt, hdict, hsort, hkeys, hpow⟩
  have hd1 : @LT.lt Nat _ (L + 1 + 1 + 1) d := hdlt (L + 1 + 1 + 1, oP) (.tail _ (.head _))
  try dsimp only
  k_steps
  rename_i h16 oP1 F16 N16 dP1
  have hds : (d == sysModules) = false := by
    rw [beq_eq_false_iff_ne]
    intro h
    have : @Eq Nat d 1 := h
    omega
  unfold Hold
  refine law_ifD F16 N16 X T K (.tail _ (.tail _ (.head _))) dP1 (.head _) hdict hsort hkeys hds hln0 hln1 hM2 ?_
  intro h17 tk17 dr17 F17 N17
  try dsimp only
  k_steps
  unfold Hold
  refine law_ifE F17 N17 X T K (.tail _ (.tail _ (.head _))) dP1 (.tail _ (.tail _ (.tail _ (.head _)))) dB1 (.head _) hdict hpow (fun k hk => ?_) hds (keys_len hln0 hln1 hM2 hsort hkeys) hb4 ?_
  · have hk2 := (hkeys k).mp hk
    have h1 := hk2.pos hM2
    have h2 := hk2.le hln0 hM2
    omega
  intro h18 tk18 F18 N18
  try dsimp only
  k_steps
  subst hrX
  refine hQ _ _ _ _ oP1 oB1 oC1 _ _ _ pa' pb' (ext2' ++ ext1) F18 (fun z hz => ?_) (fun q hq => N18 q (.tail _ (.tail _ hq))) dP1 dB1 dC1 hTaX hTbX hfX
  have hz2 : z ≠ Str.ofString "part" ∧ z ≠ Str.ofString "laid" ∧ z ≠ Str.ofString "back" ∧ z ≠ Str.ofString "k" ∧ z ≠ Str.ofString "length" ∧ z ≠ Str.ofString "bound" := by
    simpa [List.contains_cons, List.contains_nil, Bool.or_false, Bool.or_eq_false_iff, beq_eq_false_iff_ne] using hz
  rw [if_neg hz2.2.2.2.2.2, if_neg hz2.2.2.2.2.1]
  split
  · rename_i h; rw [h, hmn]
  · split
    · rename_i h; rw [h, hmt]
    · split
      · rename_i h; rw [h, hmv]
      · rw [if_neg hz2.2.2.1, if_neg hz2.2.1, if_neg hz2.1]
        refine hG z ?_
        simp only [List.contains_cons, List.contains_nil, Bool.or_false, Bool.or_eq_false_iff, beq_eq_false_iff_ne]
        exact ⟨hz2.1, hz2.2.1, hz2.2.2.1, hz2.2.2.2.1⟩
end Mine
end

section
open PySem PySem.NumText PySem.W PyProof.Rows
set_option Elab.async false
set_option maxRecDepth 100000
namespace Mine
example : (1 : Nat) = 1 := by
  k_with_none
  w_top off
  walk1
noncomputable def lawFor2 : { a : Stmt // a = (stmtsOf lawStmt).getD 5 (.Pass ⟨0, 0, 0, 0⟩) } := ⟨_, by conv => rhs; whnf⟩
local macro_rules | `(tactic| walk_at "pyIter ref") => `(tactic| refine Hold.out ?_)
set_option maxHeartbeats 8000000 in
set_option pp.deepTerms false in
set_option pp.deepTerms.threshold 8 in
theorem law_loop2 {prog : Program} {w : World} {p : Program} {loose : List Str} {mean : ExcName → Option Value} {mg mb : Str → Option Value} {g : Heap} {L fa : Addr} {cd : Value} {s : Shared} {m : Str → Option Value} {o1 o2 o3 : Obj} {c1 c2 c3 : Option Value} {lS : Addr} {vs : List Value} {ns : List Int} {x y : Str} {v : Int} {tx ty tv : Tok} {p3 : Array Value} {Q : Flow → Shared → Prop}
    (F : Fr g L s.heap (fun z => if z = Str.ofString "behind" then some (.str y ty) else if z = Str.ofString "text" then some (.str x tx) else if z = Str.ofString "value" then some (.int v tv) else if z = Str.ofString "script" then some (.ref lS) else m z))
    (N : News g L s.heap [(L + 1 + 1 + 1, o1), (L + 1 + 1, o2), (L + 1, o3), (45, tabObj #[]), (38, tabObj #[]), (24, tabObj p3)]) (X : (Mine.hd.heap_39 w.params).In g) (T : Top p loose mean mg mb g) (K : Below callerA g [] g)
    (d1 : o1.data = .cell c1) (d2 : o2.data = .cell c2) (d3 : o3.data = .cell c3) (hl0 : @LT.lt Nat _ 45 L) (hl : g.IsList lS vs.toArray) (hi : IntsAre vs ns) (h63 : ns.length ≤ 63) (hbits : ∀ x ∈ ns, Builtin.Int.intBits x ≤ 1048576)
    (hT : TInv x v) (hxl : x.length ≤ 4788)
    (hQ : ∀ (h' : Heap) (tk : Nat) (dr : Drawn) (u : Str → Option Value) (news' : List (Addr × Obj)), Fr g L h' u → News g L h' news' → (∃ p1 p2 p3, (45, tabObj p1) ∈ news' ∧ (38, tabObj p2) ∈ news' ∧ (24, tabObj p3) ∈ news') → Q .next { s with heap := h', toks := tk, drawn := dr }) :
    wpAny (model prog w) (callerA.deeper (envOfC (Str.ofString "law") lawScope.1 L fa cd)) (exec lawFor2.1 (envOfC (Str.ofString "law") lawScope.1 L fa cd)) Q (fun _ _ => False) s := by
  dsimp only [lawFor2, lawScope]
  refine for_any ?_
  k_steps
  rename_i D1 ws1 g1 hi1 hc1 hle1 l1 D2 g2 l2 D3 ws3 g3 F3 N3 hi3 l3
  unfold Hold
  refine sN_pyIterL F3 N3 (.head _) ⟨rfl, rfl⟩ fun I h4 io F4 N4 lI hio => ?_
  have eP : L + 1 + 1 + 1 ≠ I := Nat.ne_of_lt (lI (L + 1 + 1 + 1, o1) (.tail _ (.tail _ (.tail _ (.head _)))))
  have eB : L + 1 + 1 ≠ I := Nat.ne_of_lt (lI (L + 1 + 1, o2) (.tail _ (.tail _ (.tail _ (.tail _ (.head _))))))
  have eC : L + 1 ≠ I := Nat.ne_of_lt (lI (L + 1, o3) (.tail _ (.tail _ (.tail _ (.tail _ (.tail _ (.head _)))))))
  have e45 : 45 ≠ I := Nat.ne_of_lt (lI (45, tabObj #[]) (.tail _ (.tail _ (.tail _ (.tail _ (.tail _ (.tail _ (.head _))))))))
  have e38 : 38 ≠ I := Nat.ne_of_lt (lI (38, tabObj #[]) (.tail _ (.tail _ (.tail _ (.tail _ (.tail _ (.tail _ (.tail _ (.head _)))))))))
  have e24 : 24 ≠ I := Nat.ne_of_lt (lI (24, tabObj p3) (.tail _ (.tail _ (.tail _ (.tail _ (.tail _ (.tail _ (.tail _ (.tail _ (.head _))))))))))
  have eD : D3 ≠ I := Nat.ne_of_lt (lI (D3, _) (.head _))
  k_lt lI
  dsimp only
  refine forL_atm (l := D3) (lo := listOf ws3.toArray 0) (vs := ws3) (e := 0) (news₀ := [(L + 1 + 1 + 1, o1), (L + 1 + 1, o2), (L + 1, o3), (45, tabObj #[]), (38, tabObj #[]), (D3, listOf ws3.toArray 0), (24, tabObj p3)])
    [Str.ofString "part", Str.ofString "laid", Str.ofString "back", Str.ofString "k", Str.ofString "length", Str.ofString "bound"]
    (fun _ _ nx => ∃ (oP oB oC : Obj) (cP cB cC : Option Value) (pa pb : Array Value) (rest : List (Addr × Obj)), oP.data = .cell cP ∧ oB.data = .cell cB ∧ oC.data = .cell cC ∧
      TabSt (Str.ofString "_digits2int.<locals>.inner") 74 4 pa rest ∧ TabSt (Str.ofString "_int2digits.<locals>.inner") 59 4 pb rest ∧ (D3, listOf ws3.toArray 0) ∈ rest ∧ (24, tabObj p3) ∈ rest ∧
      (∀ q ∈ rest, q.1 ≠ I ∧ q.1 ≠ L + 1 ∧ q.1 ≠ L + 1 + 1 ∧ q.1 ≠ L + 1 + 1 + 1 ∧ q.1 ≠ 45 ∧ q.1 ≠ 38) ∧
      nx = (L + 1 + 1 + 1, oP) :: (L + 1 + 1, oB) :: (L + 1, oC) :: (45, tabObj pa) :: (38, tabObj pb) :: rest) rfl rfl rfl ⟨rfl, rfl⟩ (Nat.zero_le _) hio F4 ?_ ?_ ?_ ?_ ?_
  · intro q hq
    refine N4 q ?_
    simp only [List.mem_cons, List.not_mem_nil, or_false] at hq ⊢
    rcases hq with rfl | rfl | rfl | rfl | rfl | rfl | rfl | rfl <;> simp
  · refine ⟨o1, o2, o3, c1, c2, c3, #[], #[], [(D3, listOf ws3.toArray 0), (24, tabObj p3)], d1, d2, d3, .inl rfl, .inl rfl, .head _, .tail _ (.head _), ?_, rfl⟩
    intro q hq
    simp only [List.mem_cons, List.not_mem_nil, or_false] at hq
    rcases hq with rfl | rfl
    · refine ⟨eD, ?_, ?_, ?_, ?_, ?_⟩ <;> k_ne
    · refine ⟨e24, ?_, ?_, ?_, ?_, ?_⟩ <;> k_ne
  · rintro i mm nx ⟨oP, oB, oC, cP, cB, cC, pa, pb, rest, dP, dB, dC, hTa, hTb, hmD, hm24, hr, rfl⟩
    refine ⟨.tail _ (.tail _ (.tail _ (.tail _ (.tail _ hmD)))), fun q hq => ?_⟩
    rcases List.mem_cons.mp hq with rfl | hq
    · exact eP
    · rcases List.mem_cons.mp hq with rfl | hq
      · exact eB
      · rcases List.mem_cons.mp hq with rfl | hq
        · exact eC
        · rcases List.mem_cons.mp hq with rfl | hq
          · exact e45
          · rcases List.mem_cons.mp hq with rfl | hq
            · exact e38
            · exact (hr q hq).1
  · rintro i nv u h tk dr nx io hnv ⟨oP, oB, oC, cP, cB, cC, pa, pb, rest, dP, dB, dC, hTa, hTb, hmD, hm24, hr, rfl⟩ hio F N
    have hil : i < (ns.take 2 ++ [0]).length := by rw [← hi3.length]; exact (List.getElem?_eq_some_iff.mp hnv).1
    obtain ⟨t1, ht1⟩ := hi3.get i (ns.take 2 ++ [0])[i] (List.getElem?_eq_getElem hil)
    have hnv' : nv = .int (ns.take 2 ++ [0])[i] t1 := by rw [hnv] at ht1; exact Option.some.inj ht1
    have hb : Builtin.Int.intBits (ns.take 2 ++ [0])[i] ≤ 1048576 := by
      rcases List.mem_append.mp (List.getElem_mem hil) with h | h
      · exact hbits _ (List.mem_of_mem_take h)
      · rw [List.mem_singleton.mp h]; exact Nat.le_trans (show Builtin.Int.intBits 0 ≤ 1 by decide) (by omega)
    generalize (ns.take 2 ++ [0])[i] = n at hnv' hb
    subst hnv'
    have N' : News g L h ((L + 1 + 1 + 1, oP) :: (L + 1 + 1, oB) :: (L + 1, oC) :: (45, tabObj pa) :: (38, tabObj pb) :: (I, io) :: rest) := fun q hq => N q (by
      rcases List.mem_cons.mp hq with rfl | hq
      · exact .tail _ (.head _)
      · rcases List.mem_cons.mp hq with rfl | hq
        · exact .tail _ (.tail _ (.head _))
        · rcases List.mem_cons.mp hq with rfl | hq
          · exact .tail _ (.tail _ (.tail _ (.head _)))
          · rcases List.mem_cons.mp hq with rfl | hq
            · exact .tail _ (.tail _ (.tail _ (.tail _ (.head _))))
            · rcases List.mem_cons.mp hq with rfl | hq
              · exact .tail _ (.tail _ (.tail _ (.tail _ (.tail _ (.head _)))))
              · rcases List.mem_cons.mp hq with rfl | hq
                · exact .head _
                · exact .tail _ (.tail _ (.tail _ (.tail _ (.tail _ (.tail _ hq))))))
    refine law_turn2 F (by rw [if_neg (by decide)]; rfl) (by rw [if_neg (by decide)]; rfl) (by rw [if_pos rfl]) N' X T K hl0 dP dB dC ?_ ?_ ?_ ?_ ?_
      (hTa.mono fun q hq => .tail _ hq) (hTb.mono fun q hq => .tail _ hq) hT hxl hb ?_
    · intro q hq
      rcases List.mem_cons.mp hq with rfl | hq
      · exact Ne.symm eC
      · exact (hr q hq).2.1
    · intro q hq
      rcases List.mem_cons.mp hq with rfl | hq
      · exact Ne.symm eB
      · exact (hr q hq).2.2.1
    · intro q hq
      rcases List.mem_cons.mp hq with rfl | hq
      · exact Ne.symm eP
      · exact (hr q hq).2.2.2.1
    · intro q hq
      rcases List.mem_cons.mp hq with rfl | hq
      · exact Ne.symm e45
      · exact (hr q hq).2.2.2.2.1
    · intro q hq
      rcases List.mem_cons.mp hq with rfl | hq
      · exact Ne.symm e38
      · exact (hr q hq).2.2.2.2.2
    intro h' tk' dr' u' oP' oB' oC' cP' cB' cC' pa' pb' ext F' hu' Ne' dP' dB' dC' hTa' hTb' hx
    obtain ⟨xa, hxa, hTa2⟩ := tab_norm (own := [(I, io)]) (rest := rest) (P := fun q => q ∈ ext) hTa' (fun q hq ws t hws => by
      rw [List.mem_singleton.mp hq, hio.2] at hws
      cases hws
      simp [rawInt]) fun q hq => .inr hq
    obtain ⟨xb, hxb, hTb2⟩ := tab_norm (own := [(I, io)]) (rest := rest) (P := fun q => q ∈ ext) hTb' (fun q hq ws t hws => by
      rw [List.mem_singleton.mp hq, hio.2] at hws
      cases hws
      simp [rawInt]) fun q hq => .inr hq
    refine ⟨h', tk', dr', u', _, rfl, F', fun z hz => ?_, Ne', .tail _ (.tail _ (.tail _ (.tail _ (.tail _ (List.mem_append_right _ (.head _)))))), _, fun q hq => ?_,
      oP', oB', oC', cP', cB', cC', pa', pb', ext ++ rest, dP', dB', dC', ?_, ?_, List.mem_append_right _ hmD, List.mem_append_right _ hm24, fun q hq => ?_, rfl⟩
    · rw [List.contains_cons, Bool.or_eq_false_iff, beq_eq_false_iff_ne] at hz
      rw [hu' z hz.2, if_neg hz.1, hz.2]
      rfl
    · rcases List.mem_cons.mp hq with rfl | hq
      · exact .head _
      · rcases List.mem_cons.mp hq with rfl | hq
        · exact .tail _ (.head _)
        · rcases List.mem_cons.mp hq with rfl | hq
          · exact .tail _ (.tail _ (.head _))
          · rcases List.mem_cons.mp hq with rfl | hq
            · exact .tail _ (.tail _ (.tail _ (.head _)))
            · rcases List.mem_cons.mp hq with rfl | hq
              · exact .tail _ (.tail _ (.tail _ (.tail _ (.head _))))
              · rcases List.mem_append.mp hq with hq | hq
                · exact .tail _ (.tail _ (.tail _ (.tail _ (.tail _ (List.mem_append_left _ hq)))))
                · exact .tail _ (.tail _ (.tail _ (.tail _ (.tail _ (List.mem_append_right _ (.tail _ hq))))))
    · exact hTa2.mono fun q hq => by
        rcases List.mem_append.mp hq with hq | hq
        · exact List.mem_append_left _ (hxa q hq).1
        · exact List.mem_append_right _ hq
    · exact hTb2.mono fun q hq => by
        rcases List.mem_append.mp hq with hq | hq
        · exact List.mem_append_left _ (hxb q hq).1
        · exact List.mem_append_right _ hq
    · rcases List.mem_append.mp hq with hq | hq
      · have hh := hx q hq
        exact ⟨Nat.ne_of_gt (hh (I, io) (.tail _ (.tail _ (.tail _ (.tail _ (.tail _ (.head _))))))), Nat.ne_of_gt (hh (L + 1, oC) (.tail _ (.tail _ (.head _)))), Nat.ne_of_gt (hh (L + 1 + 1, oB) (.tail _ (.head _))), Nat.ne_of_gt (hh (L + 1 + 1 + 1, oP) (.head _)), Nat.ne_of_gt (hh (45, tabObj pa) (.tail _ (.tail _ (.tail _ (.head _))))), Nat.ne_of_gt (hh (38, tabObj pb) (.tail _ (.tail _ (.tail _ (.tail _ (.head _))))))⟩
      · exact hr q hq
  · rintro u h tk dr nx ⟨oP, oB, oC, cP, cB, cC, pa, pb, rest, dP, dB, dC, hTa, hTb, hmD, hm24, hr, rfl⟩ F N
    exact hQ h tk dr _ _ F N ⟨pa, pb, p3, .tail _ (.tail _ (.tail _ (.head _))), .tail _ (.tail _ (.tail _ (.tail _ (.head _)))), .tail _ (.tail _ (.tail _ (.tail _ (.tail _ hm24))))⟩
end Mine
end

section
open PySem PySem.NumText PySem.W PyProof.Rows
set_option Elab.async false
set_option maxRecDepth 100000
namespace Mine
example : (1 : Nat) = 1 := by
  k_with_none
  w_top off
  walk1
local macro_rules | `(tactic| walk_at $s:str) => if ["exec For Name Subscript cons nil", "exec For Name BinOp cons nil", "call ref", "exec If"].contains s.getString then `(tactic| refine Hold.out ?_) else Lean.Macro.throwUnsupported
local macro_rules | `(tactic| k_call_by "use" $c:term) => `(tactic| (k_dflt (refine' Does.use $c ?k1 ?k2 ?k3 ?k4 ?k5 ?kK ?kd ?ku ?kp ?_; (case k1 => k_asm); (case k2 => k_asm); (case k3 => k_asm); (case k4 => k_asm); (case k5 => k_asm); (case kK => first | exact rfl | assumption))))
local macro_rules | `(tactic| bits_by_make) => `(tactic| with_reducible assumption)
set_option maxHeartbeats 8000000 in
set_option pp.deepTerms false in
set_option pp.deepTerms.threshold 8 in
theorem law_body {prog : Program} {w : World} {p : Program} {loose : List Str} {mean : ExcName → Option Value} {mg mb : Str → Option Value} {g : Heap} {L fa : Addr} {cd : Value} {s : Shared} {m : Str → Option Value} {o1 o2 o3 : Obj} {lS : Addr} {vs : List Value} {ns : List Int} {c1 c2 c3 : Option Value} {Q : Flow → Shared → Prop}
    (F : Fr g L s.heap m) (N : News g L s.heap [(L + 1 + 1 + 1, o1), (L + 1 + 1, o2), (L + 1, o3), (45, tabObj #[]), (38, tabObj #[]), (24, tabObj #[])]) (X : (Mine.hd.heap_39 w.params).In g) (T : Top p loose mean mg mb g) (K : Below callerA g [] g)
    (d1 : o1.data = .cell c1) (d2 : o2.data = .cell c2) (d3 : o3.data = .cell c3) (hl0 : @LT.lt Nat _ 45 L) (hm : m (Str.ofString "script") = some (.ref lS)) (hl : g.IsList lS vs.toArray) (hi : IntsAre vs ns) (h63 : ns.length ≤ 63) (hbits : ∀ x ∈ ns, Builtin.Int.intBits x ≤ 1048576)
    (hQ : ∀ (h' : Heap) (tk : Nat) (dr : Drawn) (u : Str → Option Value) (news' : List (Addr × Obj)), Fr g L h' u → News g L h' news' → (∃ p1 p2 p3, (45, tabObj p1) ∈ news' ∧ (38, tabObj p2) ∈ news' ∧ (24, tabObj p3) ∈ news') → Q (.ret (.bool true)) { s with heap := h', toks := tk, drawn := dr }) :
    wpAny (model prog w) (callerA.deeper (envOfC (Str.ofString "law") lawScope.1 L fa cd)) (execs lawBody.1 (envOfC (Str.ofString "law") lawScope.1 L fa cd)) Q (fun _ _ => False) s := by
  have C1 : CodeHd g 49 45 := codeHd_of_K X (by kernel_rfl)
  have F := fr_pin F hm
  dsimp only [lawBody, lawScope]
  k_steps
  rename_i hA hC F1 N1
  unfold Hold
  refine law_loop1 F1 N1 X T K hl0 hl hi h63 hbits ?_
  intro h2 tk2 dr2 u2 x v tx tv F2 N2 hT hxl
  dsimp only
  clear F1 N1
  k_steps
  all_goals
    rename_i F5 N5
    unfold Hold
    refine law_if F5 (fun q hq => N5 q (.tail _ (.tail _ hq))) X T K hl0 hT hxl rfl (by decide) (by decide +kernel) ?_
    intro h6 tk6 dr6 p3 F6 N6
    dsimp only
    k_steps
    unfold Hold
    refine law_loop2 F6 N6 X T K d1 d2 d3 hl0 hl hi h63 hbits hT hxl ?_
    intro h7 tk7 dr7 u7 nx F7 N7 hx
    dsimp only
    k_steps
    exact hQ _ _ _ _ nx F7 N7 hx
end Mine
end

section
open PySem PySem.W PyProof.Rows
set_option Elab.async false
set_option maxRecDepth 100000
namespace Mine
example : (1 : Nat) = 1 := by
  k_with_none
  w_top off
  walk1
set_option maxHeartbeats 8000000 in
set_option pp.deepTerms false in
set_option pp.deepTerms.threshold 6 in
set_option pp.maxSteps 200000 in
theorem gl : PySem.Challenge.rw_wy0066_01.Holds := Mine.hd (by
  k_go0
  rename_i hl0
  refine' wpAny_mono (law_body ?F ?N ?X ?T ?K ?d1 ?d2 ?d3 ?l0 ?hm ?hl ?hi ?h63 ?hb ?hQ) (fun _ _ h => h) (fun _ _ h => h.elim)
  case F => assumption
  case N => assumption
  case X => assumption
  case T => assumption
  case K => assumption
  case l0 => exact hl0.1
  case hl => assumption
  case hi => assumption
  case d1 => assumption
  case d2 => assumption
  case d3 => assumption
  case h63 =>
    have h := ‹¬ _ < _›
    omega
  case hb => exact fun x hx => intBits_le_of_item hx (by assumption)
  case hm => first | (with_reducible rfl) | (simp only [Mine.lawScope]; done) | kernel_rfl
  intro h9 tk9 dr9 u9 nx F9 N9 hx9
  obtain ⟨p1, p2, p3, m1, m2, m3⟩ := hx9
  refine ⟨?_, GrownAt.of N9 m1, GrownAt.of N9 m2, GrownAt.of N9 m3, True.intro⟩
  dsimp only
  clear m1 m2 m3
  k_steps)
end Mine
end
theorem PySem.Challenge.cw_wy0066_01_holds : PySem.Challenge.rw_wy0066_01.Holds :=
  Mine.gl
