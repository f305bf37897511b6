import PyProof.Rows.All
import Wide.All
import OpenK.AllK
import Wide.FinOn
import PySem.Challenge.RW_jb0003_01
open PySem PySem.Spec PySem.Calls PySem.W PyProof.Rows
set_option Elab.async false
set_option maxRecDepth 100000
set_option linter.unusedVariables false

namespace Mine

/-- marks what the walk must show of the range that is run over -/
def FarPack (P : Prop) : Prop := P
theorem FarPack.intro {P : Prop} (h : P) : FarPack P := h
theorem farPack {α : Type} {M : Model} {A : Around} {E : Value → Shared → Prop} {s : Shared} {t : Sem α} {Q : α → Shared → Prop} (h : wpAny M A t (fun a s' => FarPack (Q a s')) E s) : wpAny M A t Q E s := h

def FarEnd (P : Prop) : Prop := P
theorem FarEnd.intro {P : Prop} (h : P) : FarEnd P := h

/-- a is the first of the n ints from a₀ on that pass -/
def FirstOf (pz : Int → Bool) (a₀ : Int) (n : Nat) (a : Int) : Prop := ((rangeInts a₀ 1 n).filter pz).head? = some a

theorem filter_paired {pz : Int → Bool} : ∀ {vs : List Value} {as : List Int} {ys : List Value}, AreOf .int vs as →
    Paired (fun v y => ∃ a, ItemKind.int.is a v ∧ Carried y (PyData.int a)) (vs.filter (ItemKind.int.lift pz)) ys → CarriedAll ys ((as.filter pz).map PyData.int)
  | _, _, _, hi, hp => hi.paired pz PyData.int _ hp

theorem size_far {a₀ : Int} {n : Nat} (hn : 0 < n) : Builtin.Range.rangeSize a₀ (a₀ + n) 1 = (n : Int) := by
  unfold Builtin.Range.rangeSize
  rw [if_pos (by omega), if_pos (by omega)]
  omega

/-- the law's test of a day number -/
def dayTest (d : Int) : Int → Bool := fun a => (a - 2451545 + 5).fmod 7 == d

section
variable {prog : Program} {w : World} {A : Around} {E : Value → Shared → Prop} {s : Shared} {h₀ : Heap} {L : Addr} {m : Str → Option Value} {env : Env}

/-- the list of those of the n ints from a₀ on that pass, wherever they lie -/
theorem comp_far {x : Str} {iter : Expr} {pe px : Pos} {ifs : List Expr} {scope : Scope} {cl : List (Str × Addr)} {pos : Pos} {Q : Value → Shared → Prop}
    (F₀ : Fr h₀ L s.heap m) (hh : A.handled = none) (hclos : closureFor scope env = pure cl) (hcell : ∀ y ∈ scope.names, y.2 ≠ .cell) (hkind : scope.kind = .function)
    (hnames : ∀ y ∈ scope.names, y.2 = .local → scope.names.lookup y.1 = some .local) (hx : scope.names.lookup x = some .local) (hdbg : (x == ("__debug__" : Str)) = false)
    (h : wpAny (model prog w) A (eval iter env) (fun xv s₁ => FarPack (∃ news : List (Addr × Obj), ∃ r a₀ b₀ t₀ u₀ v₀, ∃ n : Nat, xv = .ref r ∧ IsRange s₁.heap r a₀ b₀ 1 t₀ u₀ v₀ ∧ b₀ = a₀ + n ∧ 0 < n ∧ n ≤ sizeLine ∧ Fr h₀ L s₁.heap m ∧ News h₀ L s₁.heap news ∧
      ∃ pz : Int → Bool, (∀ C a v s₂ m₂ E', s₁.heap.objs.size ≤ C → a ∈ rangeInts a₀ 1 n → ItemKind.int.is a v → s₂.heap.Ns (compEnvC scope cl C env).locals m₂ → m₂ x = some v → (∀ b o, s₁.heap.get? b = some o → s₂.heap.get? b = some o) →
        wpAny (model prog w) A (forIn ifs true fun c r => if r = true then do let ok ← isTrue c (compEnvC scope cl C env) (eval c (compEnvC scope cl C env)); pure (ForInStep.yield ok) else pure (ForInStep.yield r))
          (fun ok s₃ => ok = pz a ∧ Keeps s₂ s₃) E' s₂) ∧
      (∀ D (ys : List Value) h' tk, Fr h₀ L h' m → News h₀ L h' news → h₀.get? D = none → h'.IsList D ys.toArray → NewPlain h' news D ys.toArray → CarriedAll ys (((rangeInts a₀ 1 n).filter pz).map PyData.int) → Q (.ref D) { s₁ with heap := h', toks := tk }))) E s)
    (hs : ∀ x, foldedSetIterable iter env x = pure x) :
    wpAny (model prog w) A (eval (.ListComp (.Name x pe) [⟨.Name x px, iter, ifs, 0⟩] scope pos) env) Q E s := by
  clear F₀
  rw [eval_ListComp]
  refine wpAny_comprehension_free (use := none) rfl hs hclos hkind hnames (wpAny_mono h (fun xv s₁ h₁ => ?_) fun _ _ e => e)
  obtain ⟨news, r, a₀, b₀, t₀, u₀, v₀, n, rfl, hr, rfl, hn0, hsz, F, N, pz, htests, hQ⟩ := h₁
  have hn : Builtin.Range.rangeSize a₀ (a₀ + n) 1 = (n : Int) := size_far hn0
  have core : ∀ (ito : Obj) (St : Nat → Heap → Prop), Walks prog w A s₁.heap.objs.size [s₁.heap.objs.size] [s₁.heap.objs.size] n (fun i v => ∃ t, v = .int (a₀ + i * 1) t) St → St 0 (s₁.heap.push ito) →
      ∃ I fp wr n' P St', Value.ref s₁.heap.objs.size = .ref I ∧ Walks prog w A I fp wr n' P St' ∧ n' ≤ sizeLine ∧ St' 0 (s₁.heap.push ito) ∧ (∀ b ∈ fp, b < (s₁.heap.push ito).objs.size) ∧
        QuietOnC prog w A env scope cl x ifs (.Name x pe) wr P (ItemKind.int.lift pz) (fun v y => ∃ a, ItemKind.int.is a v ∧ Carried y (PyData.int a)) { s₁ with heap := s₁.heap.push ito } ∧
        (∀ D h' tk ys (vs : List Value), (s₁.heap.push ito).get? D = none → h'.IsList D ys → h'.PlainList D ys → vs.length = n' → (∀ j v, vs[j]? = some v → P j v) →
          Paired (fun v y => ∃ a, ItemKind.int.is a v ∧ Carried y (PyData.int a)) (vs.filter (ItemKind.int.lift pz)) ys.toList →
          (∀ b o, b ∉ wr → (s₁.heap.push ito).get? b = some o → h'.get? b = some o) → Q (.ref D) { s₁ with heap := h', toks := tk }) := by
    intro ito St W hst
    have up : ∀ (s₃ : Shared), (∀ b o, b ∉ [s₁.heap.objs.size] → (s₁.heap.push ito).get? b = some o → s₃.heap.get? b = some o) → ∀ b o, s₁.heap.get? b = some o → s₃.heap.get? b = some o :=
      fun s₃ hk b o e => hk b o (fun hm => by rcases List.mem_cons.mp hm with rfl | hm; exact Nat.lt_irrefl _ (Heap.lt_size e); cases hm) (Heap.get?_push_of_some _ e)
    refine ⟨s₁.heap.objs.size, [s₁.heap.objs.size], [s₁.heap.objs.size], n, _, St, rfl, W.bound, hsz, hst, ?_, ⟨?_, ?_⟩, ?_⟩
    · intro b hb
      have e : b = s₁.heap.objs.size := by simpa using hb
      subst e
      show _ < (s₁.heap.push _).objs.size
      rw [Heap.size_push]
      exact Nat.lt_succ_self _
    · intro C i v s₃ m₃ E' hC hP hn' hm hk _
      have ha : ItemKind.int.is (a₀ + (i : Nat) * 1) v := hP.2
      rw [ItemKind.lift_is ha]
      exact htests C _ v s₃ m₃ E' (Nat.le_of_succ_le (by simpa [Heap.size_push] using hC)) (List.mem_of_getElem? (rangeInts_get hP.1)) ha hn' hm (up s₃ hk)
    · intro C i v s₃ m₃ E' hC hP hp hn' hm hk _
      have ha : ItemKind.int.is (a₀ + (i : Nat) * 1) v := hP.2
      have hns : s₃.heap.Ns (compEnvC scope cl C env).locals m₃ := hn'
      refine ldVarK hns hm ⟨⟨_, ha, ?_⟩, s₃.heap, s₃.toks, rfl, fun _ _ e => e⟩ (by exact hkind) ?_ hdbg
      · obtain ⟨t, rfl⟩ := ItemKind.int_is ha
        exact .int _ _
      · exact lookup_relabel_local hx
    · intro D h' tk ys vs' hnew hlD hplD hlen hP hF hk
      have hi : AreOf .int vs' (rangeInts a₀ 1 n) := AreOf.of_get (hlen.trans (rangeInts_length _ _ _).symm) fun j v hv => ⟨_, rangeInts_get (hP j v hv).1, (hP j v hv).2⟩
      have keep : ∀ b o, s₁.heap.get? b = some o → h'.get? b = some o := up { s₁ with heap := h' } hk
      refine hQ D ys.toList h' tk (F.keeps keep) (N.grown keep) ?_ (by rw [Array.toArray_toList]; exact hlD) ⟨by rw [Array.toArray_toList]; exact hplD, fun p hp e => by rw [← e, Heap.get?_push_of_some _ (N p hp).1] at hnew; cases hnew⟩ (filter_paired hi hF)
      cases e : h₀.get? D with
      | none => rfl
      | some o' => rw [Heap.get?_push_of_some _ (F.keep _ _ e)] at hnew; cases hnew
  have key : wpAny (model prog w) A (pyIter (.ref r)) (fun it s₂ => ∃ I fp wr n P St, it = .ref I ∧ Walks prog w A I fp wr n P St ∧ n ≤ sizeLine ∧ St 0 s₂.heap ∧ (∀ b ∈ fp, b < s₂.heap.objs.size) ∧
      QuietOnC prog w A env scope cl x ifs (.Name x pe) wr P (ItemKind.int.lift pz) (fun v y => ∃ a, ItemKind.int.is a v ∧ Carried y (PyData.int a)) s₂ ∧
      (∀ D h' tk ys (vs : List Value), s₂.heap.get? D = none → h'.IsList D ys → h'.PlainList D ys → vs.length = n → (∀ j v, vs[j]? = some v → P j v) → Paired (fun v y => ∃ a, ItemKind.int.is a v ∧ Carried y (PyData.int a)) (vs.filter (ItemKind.int.lift pz)) ys.toList →
        (∀ b o, b ∉ wr → s₂.heap.get? b = some o → h'.get? b = some o) → Q (.ref D) { s₂ with heap := h', toks := tk })) E s₁ := by
   by_cases hsm : Builtin.Range.small a₀ (a₀ + n) 1 = true
   · exact wpAny_pyIter_range hr hsm (core _ _ (Walks.range hh _ a₀ 1 n) (by show IsRangeIter _ _ _ _ _; rw [hn]; simpa using Heap.get?_push_size _ rfl))
   · exact wpAny_pyIter_longrange hr (by simpa using hsm) (core _ _ (Walks.longrange hh _ a₀ 1 n) (by show IsLongIter _ _ _ _ _; rw [hn]; simpa using Heap.get?_push_size _ rfl))
  refine wpAny_mono key (fun it s₂ h₂ => ?_) fun _ _ e => e
  obtain ⟨I, fp, wr, n, P, St, rfl, W, hsz, hst, hfp, hq, hQ⟩ := h₂
  refine comp_block_walkC (RR := fun acc C => compPost (model prog w) A E none Q acc C) W hsz (ItemKind.int.lift pz) (fun v y => ∃ a, ItemKind.int.is a v ∧ Carried y (PyData.int a)) hcell hkind hx hst hfp hq ?_
  intro D C h' tk m' ys vs hD hC hDC hn hl hpl hlen hP hF hk
  exact ⟨m', hn, fun h'' hs'' => hQ D h'' tk ys vs hD (hl.extBut hs''.extBut hDC) (hpl.extBut hs''.extBut hDC) hlen hP hF fun b o hbf e => hs''.extBut b o (by rintro rfl; rw [hC] at e; cases e) (hk b o hbf e)⟩

theorem with_test {P : (Int → Bool) → Prop} {d : Int} (h : P (dayTest d)) : ∃ pz, P pz := ⟨_, h⟩

/-- its first item -/
theorem first_far {x : Str} {iter : Expr} {pe px pc ps : Pos} {kk : Nat} {ifs : List Expr} {scope : Scope} {cl : List (Str × Addr)} {pos : Pos} {Q : Value → Shared → Prop}
    (F₀ : Fr h₀ L s.heap m) (hh : A.handled = none) (hclos : closureFor scope env = pure cl) (hcell : ∀ y ∈ scope.names, y.2 ≠ .cell) (hkind : scope.kind = .function)
    (hnames : ∀ y ∈ scope.names, y.2 = .local → scope.names.lookup y.1 = some .local) (hx : scope.names.lookup x = some .local) (hdbg : (x == ("__debug__" : Str)) = false)
    (h : wpAny (model prog w) A (eval iter env) (fun xv s₁ => FarPack (∃ news : List (Addr × Obj), ∃ r a₀ b₀ t₀ u₀ v₀, ∃ n : Nat, xv = .ref r ∧ IsRange s₁.heap r a₀ b₀ 1 t₀ u₀ v₀ ∧ b₀ = a₀ + n ∧ 0 < n ∧ n ≤ sizeLine ∧ Fr h₀ L s₁.heap m ∧ News h₀ L s₁.heap news ∧
      ∃ pz : Int → Bool, (∀ C a v s₂ m₂ E', s₁.heap.objs.size ≤ C → a ∈ rangeInts a₀ 1 n → ItemKind.int.is a v → s₂.heap.Ns (compEnvC scope cl C env).locals m₂ → m₂ x = some v → (∀ b o, s₁.heap.get? b = some o → s₂.heap.get? b = some o) →
        wpAny (model prog w) A (forIn ifs true fun c r => if r = true then do let ok ← isTrue c (compEnvC scope cl C env) (eval c (compEnvC scope cl C env)); pure (ForInStep.yield ok) else pure (ForInStep.yield r))
          (fun ok s₃ => ok = pz a ∧ Keeps s₂ s₃) E' s₂) ∧
      FarEnd (∃ a, FirstOf pz a₀ n a ∧ ∀ t h' tk, Fr h₀ L h' m → News h₀ L h' news → Q (.int a t) { s₁ with heap := h', toks := tk }))) E s)
    (hs : ∀ x, foldedSetIterable iter env x = pure x) :
    wpAny (model prog w) A (eval (.Subscript (.ListComp (.Name x pe) [⟨.Name x px, iter, ifs, 0⟩] scope pos) (.Constant (.int 0) kk pc) ps) env) Q E s := by
  refine Subscript_ (comp_far (h₀ := h₀) (L := L) (m := m) F₀ hh hclos hcell hkind hnames hx hdbg (wpAny_mono h (fun xv s₁ h₁ => ?_) fun _ _ e => e) hs)
  obtain ⟨news, r, a₀, b₀, t₀, u₀, v₀, n, e, hr, hb, hn0, hsz, F, N, pz, htests, a, hf, hQ⟩ := h₁
  refine ⟨news, r, a₀, b₀, t₀, u₀, v₀, n, e, hr, hb, hn0, hsz, F, N, pz, htests, ?_⟩
  intro D ys h' tk F' N' _ hl _ hc
  refine wpAny_Constant_int ?_
  obtain ⟨t, ht⟩ : ∃ t, ys[0]? = some (.int a t) := by
    unfold FirstOf at hf
    cases hc' : (rangeInts a₀ 1 n).filter pz with
    | nil => rw [hc'] at hf; cases hf
    | cons a' r =>
      rw [hc'] at hf hc
      cases hf
      cases hc with
      | cons h1 _ => cases h1; exact ⟨_, rfl⟩
  exact tail_any hl.typeIs slot_list_getitem.lookup (wpAny_getItem_list hl (by decide) (by decide) (by simpa using ht) (hQ t h' _ F' N')) (by with_unfolding_all rfl)

end

theorem firstOf_cons {pz : Int → Bool} {a₀ a : Int} {n : Nat} : FirstOf pz a₀ (n + 1) a ↔ (if pz a₀ = true then a = a₀ else FirstOf pz (a₀ + 1) n a) := by
  have e : rangeInts a₀ 1 (n + 1) = a₀ :: rangeInts (a₀ + 1) 1 n := by
    unfold rangeInts
    rw [List.range_succ_eq_map, List.map_cons, List.map_map]
    congr 1
    · simp
    · apply List.map_congr_left
      intro i _
      simp only [Function.comp, Nat.succ_eq_add_one]
      push_cast
      omega
  unfold FirstOf
  rw [e, List.filter_cons]
  by_cases h : pz a₀ = true
  · simp [h, eq_comm]
  · simp [h]

theorem dayTest_iff {d a : Int} : dayTest d a = true ↔ (a - 2451540) % 7 = d := by
  unfold dayTest
  rw [beq_iff_eq, Int.fmod_eq_emod_of_nonneg _ (by decide)]
  constructor <;> intro h <;> omega

/-- the one day of seven with the weekday -/
def dayIn (d a₀ : Int) : Int := a₀ + (d - (a₀ - 2451540)) % 7

theorem dayIn_bounds (d a₀ : Int) : a₀ ≤ dayIn d a₀ ∧ dayIn d a₀ ≤ a₀ + 6 := by
  unfold dayIn
  omega
theorem dayIn_iff {d a₀ a : Int} (h0 : 0 ≤ d) (h7 : d < 7) (h1 : a₀ ≤ a) (h2 : a ≤ a₀ + 6) : dayTest d a = true ↔ a = dayIn d a₀ := by
  rw [dayTest_iff]
  unfold dayIn
  constructor <;> intro h <;> omega
theorem first_step {d a₀ a b : Int} {n : Nat} (h0 : 0 ≤ d) (h7 : d < 7) (h1 : a₀ ≤ a) (h2 : a ≤ a₀ + 6) (hb : b = a + 1) (h : a ≠ dayIn d a₀ → FirstOf (dayTest d) b n (dayIn d a₀)) : FirstOf (dayTest d) a (n + 1) (dayIn d a₀) := by
  rw [firstOf_cons]
  subst hb
  split
  · next e => exact ((dayIn_iff h0 h7 h1 h2).mp e).symm
  · next e => exact h fun q => e ((dayIn_iff h0 h7 h1 h2).mpr q)

theorem first_day {d a₀ : Int} (h0 : 0 ≤ d) (h7 : d < 7) : FirstOf (dayTest d) a₀ 7 (dayIn d a₀) := by
  have hb := dayIn_bounds d a₀
  refine first_step (b := a₀ + 1) h0 h7 (by omega) (by omega) rfl fun n0 => first_step (b := a₀ + 2) h0 h7 (by omega) (by omega) (by omega) fun n1 => first_step (b := a₀ + 3) h0 h7 (by omega) (by omega) (by omega) fun n2 => ?_
  refine first_step (b := a₀ + 4) h0 h7 (by omega) (by omega) (by omega) fun n3 => first_step (b := a₀ + 5) h0 h7 (by omega) (by omega) (by omega) fun n4 => first_step (b := a₀ + 6) h0 h7 (by omega) (by omega) (by omega) fun n5 => ?_
  exact first_step (b := a₀ + 7) h0 h7 (by omega) (by omega) (by omega) fun n6 => absurd hb (by omega)
end Mine

namespace Mine

/-! ## values that are forgotten -/
section
variable {M : Model} {prog : Program} {w : World} {A : Around} {E : Value → Shared → Prop} {s : Shared} {env : Env} {Q : Unit → Shared → Prop}
theorem store_any {x : Str} {v : Int} {t : Tok} (h : ∀ i : Int, wpAny M A (storeName env x (.int i t)) Q E s) : wpAny M A (storeName env x (.int v t)) Q E s := h v
theorem store_mod {x : Str} {v k : Int} {t : Tok} (hk : 0 < k) (h : ∀ i : Int, 0 ≤ i → i < k → wpAny M A (storeName env x (.int i t)) Q E s) : wpAny M A (storeName env x (.int (v.fmod k) t)) Q E s := by
  refine h _ ?_ ?_
  · rw [Int.fmod_eq_emod_of_nonneg _ (Int.le_of_lt hk)]; exact Int.emod_nonneg _ (Int.ne_of_gt hk)
  · rw [Int.fmod_eq_emod_of_nonneg _ (Int.le_of_lt hk)]; exact Int.emod_lt_of_pos _ hk
end

/-! ## an if that never holds -/
def Never (P : Prop) : Prop := P
theorem Never.intro {P : Prop} (h : P) : Never P := h
section
variable {prog : Program} {w : World} {A : Around} {E : Value → Shared → Prop} {s : Shared} {h₀ : Heap} {L : Addr} {m : Str → Option Value} {news : List (Addr × Obj)} {env : Env}
theorem if_never {M : Model} {test : PySem.Expr} {body : List Stmt} {pos : Pos} {Q : Flow → Shared → Prop} (F₀ : Fr h₀ L s.heap m) (N₀ : News h₀ L s.heap news)
    (h : wpAny M A (isTrue test env (eval test env)) (fun b s' => Never (b = false ∧ ∃ h' tk, s' = { s with heap := h', toks := tk } ∧ Fr h₀ L h' m ∧ News h₀ L h' news)) E s)
    (hQ : ∀ h' tk, Fr h₀ L h' m → News h₀ L h' news → Q .next { s with heap := h', toks := tk }) : wpAny M A (exec (.If test body [] pos) env) Q E s := by
  refine wpAny_If (wpAny_mono h (fun b s₂ h₂ => ?_) fun _ _ e => e)
  obtain ⟨rfl, h', tk, rfl, F, N⟩ := h₂
  exact wpAny_execs_nil (hQ _ _ F N)
theorem ne_same {a b : Int} {t u : Tok} {Q : Value → Shared → Prop} (e : a = b) (h : Q (.bool false) s) : wpAny (model prog w) A (compareOp .NotEq (.int a t) (.int b u)) Q E s := by
  refine ne_int ?_
  rw [show (a != b) = false from by rw [e]; simp]
  exact h
end

/-! ## a conditional expression of small ints, its ways joined -/
def Joined (P : Prop) : Prop := P
theorem Joined.intro {P : Prop} (h : P) : Joined P := h
section
variable {M : Model} {A : Around} {E : Value → Shared → Prop} {s : Shared} {env : Env}
theorem ifexp_small {test body orelse : PySem.Expr} {pos : Pos} {Q : Value → Shared → Prop}
    (h : wpAny M A (isTrue test env (eval test env)) (fun c s₂ =>
      if c then wpAny M A (eval body env) (fun v s' => Joined (∃ i t tk, v = .int i t ∧ (-1 ≤ i ∧ i ≤ 13) ∧ s' = { s with toks := tk })) E s₂
      else wpAny M A (eval orelse env) (fun v s' => Joined (∃ i t tk, v = .int i t ∧ (-1 ≤ i ∧ i ≤ 13) ∧ s' = { s with toks := tk })) E s₂) E s)
    (hQ : ∀ i t tk, -1 ≤ i → i ≤ 13 → Q (.int i t) { s with toks := tk }) : wpAny M A (eval (.IfExp test body orelse pos) env) Q E s := by
  refine wpAny_mono (IfExp_ h) (fun v s' h' => ?_) fun _ _ e => e
  obtain ⟨i, t, tk, rfl, ⟨h1, h2⟩, rfl⟩ := h'
  exact hQ i t tk h1 h2
end
theorem sm_8 {x : Int} : -1 ≤ x.fmod 8 - 1 ∧ x.fmod 8 - 1 ≤ 13 := by rw [Int.fmod_eq_emod_of_nonneg _ (by decide)]; omega
theorem sm_6 {x : Int} : -1 ≤ x.fmod 6 ∧ x.fmod 6 ≤ 13 := by rw [Int.fmod_eq_emod_of_nonneg _ (by decide)]; omega
theorem sm_9 {x : Int} : -1 ≤ x.fmod 9 - 1 ∧ x.fmod 9 - 1 ≤ 13 := by rw [Int.fmod_eq_emod_of_nonneg _ (by decide)]; omega
theorem sm_7 {x : Int} : -1 ≤ x.fmod 7 ∧ x.fmod 7 ≤ 13 := by rw [Int.fmod_eq_emod_of_nonneg _ (by decide)]; omega
theorem sm_14 {x : Int} : -1 ≤ x.fmod 14 ∧ x.fmod 14 ≤ 13 := by rw [Int.fmod_eq_emod_of_nonneg _ (by decide)]; omega
theorem sm_12 {x : Int} : -1 ≤ x.fmod 12 + 1 ∧ x.fmod 12 + 1 ≤ 13 := by rw [Int.fmod_eq_emod_of_nonneg _ (by decide)]; omega

/-! ## the weekdays' arithmetic -/
def lawOnly (day low _high number : Int) : Int := dayIn day (number + low)
theorem fm7 (x : Int) : x.fmod 7 = x % 7 := Int.fmod_eq_emod_of_nonneg _ (by decide)
theorem day_1 {n : Int} : n.fmod 7 = (n - 2451545 + 5).fmod 7 := by simp only [fm7]; omega
theorem day_back {d w : Int} : w - (w - d).fmod 7 = lawOnly d (-6) 0 w := by
  simp only [fm7, lawOnly, dayIn]; omega
end Mine

namespace Mine

/-! ## a written tuple cut short: t[:k] -/
section
variable {prog : Program} {w : World} {A : Around} {E : Value → Shared → Prop} {s : Shared}
theorem adjust_upto {k n : Int} (h0 : 0 ≤ k) (hk : k ≤ n) : Builtin.Slice.sliceAdjust none (some k) 1 n = (0, k) := by
  unfold Builtin.Slice.sliceAdjust
  have h1 : ¬ ((1 : Int) < 0) := by omega
  have h2 : ¬ (k < 0) := by omega
  simp only [h1, h2, if_false]
  congr 1
  omega
theorem places_upto {k : Int} (h0 : 0 ≤ k) : Builtin.Slice.slicePlaces 0 k 1 = k.toNat := by
  unfold Builtin.Slice.slicePlaces
  have h1 : (1 : Int) > 0 := by omega
  simp only [h1, if_true, Int.ediv_one]
  split <;> omega
theorem applied_upto {sl : Addr} {k n : Int} {u : Tok} {Q : Int × Int × Nat → Shared → Prop} (hs : s.heap.IsSliceOf sl .none (.int k u) .none) (h0 : 0 ≤ k) (hk : k ≤ n) (h : Q (0, 1, k.toNat) s) :
    wpAny (model prog w) A (Builtin.Slice.sliceApplied (.ref sl) (pure n)) Q E s := by
  obtain ⟨os, hos, hcs, hds⟩ := id hs
  unfold Builtin.Slice.sliceApplied Builtin.Slice.sliceFields
  refine wpAny_bind (wpAny_bind (wpAny_field hos hds (x := .none) rfl (wpAny_bind (wpAny_field hos hds (x := .int k u) rfl (wpAny_bind (wpAny_field hos hds (x := .none) rfl (wpAny_pure ?_)))))))
  refine wpAny_bind (slicePart_none ?_)
  show wpAny _ _ (if ((1 : Int) == 0) = true then _ else _) _ _ s
  rw [if_neg (by decide)]
  refine wpAny_bind (slicePart_none (wpAny_bind (slicePart_int (wpAny_bind (wpAny_pure ?_)))))
  show wpAny _ _ (match Builtin.Slice.sliceAdjust none (some k) 1 n with | (lo, hi) => pure (lo, (1 : Int), Builtin.Slice.slicePlaces lo hi 1)) _ _ s
  rw [adjust_upto h0 hk]
  show wpAny _ _ (pure ((0 : Int), (1 : Int), Builtin.Slice.slicePlaces 0 k 1)) _ _ s
  rw [places_upto h0]
  exact wpAny_pure h
theorem pick_upto (xs : Array Value) (k : Nat) : ((List.range k).filterMap fun (i : Nat) => xs[((0 : Int) + (i : Int) * 1).toNat]?).toArray = (xs.toList.take k).toArray := by
  have e : (fun (i : Nat) => xs[((0 : Int) + (i : Int) * 1).toNat]?) = (fun i => xs[i]?) ∘ fun i => 0 + i := by
    funext i
    show _ = xs[0 + i]?
    congr 1
    omega
  rw [e, ← List.filterMap_map, pick_run xs 0 k]
  simp
theorem item_upto {t sl : Addr} {items : Array Value} {k : Int} {u : Tok} {Q : Value → Shared → Prop} (ht : IsTup s.heap t items) (hs : s.heap.IsSliceOf sl .none (.int k u) .none) (h0 : 0 ≤ k) (hk : k < items.size)
    (h : Q (.ref s.heap.objs.size) { s with heap := s.heap.push { cls := .type "tuple", data := .seq (items.toList.take k.toNat).toArray } })
    (hsz : items.size ≤ sizeLine) : wpAny (model prog w) A (getItem (.ref t) (.ref sl)) Q E s := by
  have hcut : sizeOk (.seq (items.toList.take k.toNat).toArray) := by
    show (items.toList.take k.toNat).toArray.size ≤ sizeLine
    rw [List.size_toArray, List.length_take, Array.length_toList]
    omega
  obtain ⟨os, hos, hcs, hds⟩ := id hs
  have hTs : s.TypeIs (.ref sl) "slice" := ⟨os, hos, hcs⟩
  unfold getItem
  try with_reducible refine wpAny_holding ?_
  first | refine wpAny_bind (wpAny_pure ?_) | skip
  refine wpAny_bind (wpAny_sequenceKey ht.typeIs (by decide) ?_)
  refine wpAny_bind (wpAny_callSpecial?_slot (name := Str.ofString "__getitem__") ht.typeIs slot_tuple_getitem
    (wpAny_call_entry slot_tuple_getitem ht.typeIs entry_tuple_getitem ?_ (args_tuple_getitem _ _)))
  show wpAny _ _ (Builtin.Tuple.tupleItemsOf (.ref t) >>= _) _ _ s
  refine wpAny_bind (tupleItemsOf_ ht ?_)
  refine wpAny_bind (wpAny_typeOf hTs ?_)
  rw [if_pos (by decide)]
  refine wpAny_bind (applied_upto hs h0 (Int.le_of_lt hk) ?_)
  have hno : ¬ (((0 : Int) == 0 && (1 : Int) == 1 && k.toNat == items.size) = true) := by
    have : (k.toNat == items.size) = false := by rw [beq_eq_false_iff_ne]; omega
    rw [this]; simp
  show wpAny _ _ (if ((0 : Int) == 0 && (1 : Int) == 1 && k.toNat == items.size) = true then _ else _) _ _ s
  rw [if_neg hno, pick_upto items k.toNat]
  first
    | exact wpAny_bind (m := Builtin.Tuple.tupleExact _) (wpAny_newObj_type (wpAny_pure ⟨_, rfl, wpAny_pure h⟩) hcut)
    | exact wpAny_bind (m := Builtin.Tuple.tupleExact _) (wpAny_newObj_type (wpAny_bind (wpAny_pure (wpAny_pure ⟨_, rfl, wpAny_pure h⟩))) hcut)
    | exact wpAny_bind (wpAny_bind (m := Builtin.Tuple.tupleExact _) (wpAny_newObj_type (wpAny_pure (wpAny_pure ⟨_, rfl, wpAny_pure h⟩)) hcut))
    | exact wpAny_bind (wpAny_bind (m := Builtin.Tuple.tupleExact _) (wpAny_newObj_type (wpAny_pure ⟨_, rfl, wpAny_pure h⟩) hcut))
end

section
variable {prog : Program} {w : World} {A : Around} {E : Value → Shared → Prop} {s : Shared} {h₀ : Heap} {L : Addr} {m : Str → Option Value} {news : List (Addr × Obj)} {K : Frag}
theorem tail_upto {value : PySem.Expr} {a b c : Option PySem.Expr} {ps : Pos} {t : Addr} {o : Obj} {vs : List Value} {nn : Nat} {k : Int} {u : Tok} {Q : Value → Shared → Prop}
    (F : Fr h₀ L s.heap m) (N : News h₀ L s.heap news) (X : K.In h₀) (hl : K.lookup t = some o) (hc : o.cls = .type "tuple") (hd : o.data = .seq vs.toArray nn) (h0 : 0 ≤ k) (hk : k < vs.length)
    (h : ∀ h', Fr h₀ L h' m → News h₀ L h' ((s.heap.objs.size + 1, { cls := .type "tuple", data := .seq (vs.take k.toNat).toArray }) :: news) → Q (.ref (s.heap.objs.size + 1)) { s with heap := h' })
    (hs : subscripted (.Slice a b c ps) false (.ref t) (.ref s.heap.objs.size) = operate [.ref s.heap.objs.size, .ref t] (getItem (.ref t) (.ref s.heap.objs.size)))
    (hg : ∀ r, letTemporaryGo value (.ref t) r = pure ()) (hsz : vs.length ≤ sizeLine) :
    wpAny (model prog w) A (subscriptTail value (.Slice a b c ps) (.ref t) (.ref s.heap.objs.size)) Q E { s with heap := s.heap.push { cls := .type "slice", data := .fields #[.none, .int k u, .none] } } := by
  have ht : IsTup s.heap t vs.toArray := ⟨o, F.keep _ _ (X _ _ hl), hc, nn, hd⟩
  have ht' : IsTup (s.heap.push { cls := .type "slice", data := .fields #[.none, .int k u, .none] }) t vs.toArray := ht.keeps fun _ _ e => Heap.get?_push_of_some _ e
  refine subscriptTail_ops (s := { s with heap := s.heap.push { cls := .type "slice", data := .fields #[.none, .int k u, .none] } }) ht'.typeIs slot_tuple_getitem.lookup
    (item_upto ht' (Heap.IsSliceOf.new ..) h0 (by simpa using hk) ?_ (by simpa using hsz)) hs hg
  have N1 := News.push (F.push { cls := .type "slice", data := .fields #[.none, .int k u, .none] }) (N.grown fun _ _ e => Heap.get?_push_of_some _ e) { cls := .type "tuple", data := .seq (vs.take k.toNat).toArray }
  rw [Heap.size_push] at N1
  show Q (.ref (s.heap.push _).objs.size) _
  rw [Heap.size_push]
  exact h _ ((F.push _).push _) N1
end

/-- the program's own table -/
def MONTHS : List Int := [0, 31, 28, 31, 30, 31, 30, 31, 31, 30, 31, 30, 31]

/-! ## for x in a new tuple of ints: y += x -/
def SumPack (P : Prop) : Prop := P
section
variable {prog : Program} {w : World} {A : Around} {E : Value → Shared → Prop} {s : Shared} {h₀ : Heap} {env : Env} {m : Str → Option Value}
theorem ints_get : ∀ {vs : List Value} {ns : List Int}, IntsAre vs ns → ∀ (i : Nat) (v : Value), vs[i]? = some v → ∃ (n : Int) (t : Tok), ns[i]? = some n ∧ v = .int n t := by
  intro vs ns h i v hv
  obtain ⟨a, ha, hk⟩ := h.areOf.get i v hv
  obtain ⟨t, rfl⟩ := ItemKind.int_is hk
  exact ⟨a, t, ha, rfl⟩
theorem for_sum {x y : Str} {px pe pn pos apos : Pos} {iter : PySem.Expr} {f : Int} {t₀ : Tok} {Q : Flow → Shared → Prop} (_F : Fr h₀ env.locals s.heap m) (hh : A.handled = none)
    (hx : env.kindOf x = some .local) (hy : env.kindOf y = some .local) (hxy : y ≠ x) (hp : (env.scope.kind == .class || (env.scope.kind == .module && env.locals != env.globals)) = false) (hk : env.scope.kind = .function)
    (hdx : (x == ("__debug__" : Str)) = false) (hdy : (y == ("__debug__" : Str)) = false) (hm : m y = some (.int f t₀))
    (h : wpAny (model prog w) A (eval iter env) (fun xv s₁ => SumPack (∃ (r : Addr) (vs : List Value) (ns : List Int) (nn : Nat) (news : List (Addr × Obj)), xv = .ref r ∧ Fr h₀ env.locals s₁.heap m ∧ News h₀ env.locals s₁.heap ((r, { cls := .type "tuple", data := .seq vs.toArray nn }) :: news) ∧ IntsAre vs ns ∧
      ∀ u tf h' tk, Fr h₀ env.locals h' (fun z => if z = y then some (.int (f + ns.sum) tf) else if z = x then u else m z) → News h₀ env.locals h' news → Q .next { s₁ with heap := h', toks := tk })) E s)
    (hs : ∀ x, foldedSetIterable iter env x = pure x) (hE : PassesOwn (model prog w) A env E) :
    wpAny (model prog w) A (exec (.For (.Name x px) iter [.AugAssign (.Name y pe) .Add (.Name x pn) apos] [] pos) env) Q E s := by
  refine For_invV h₀ hx hp (wpAny_mono h (fun xv s₁ h₁ => ?_) fun _ _ e => e) hs hE
  obtain ⟨r, vs, ns, nn, news, rfl, F, N, hi, hQ⟩ := h₁
  have hr := N _ (List.mem_cons_self)
  have N' : News h₀ env.locals s₁.heap news := fun p hp => N p (List.mem_cons_of_mem _ hp)
  have ht : s₁.heap.IsTuple r vs.toArray := ⟨_, hr.1, rfl, nn, rfl⟩
  have hlt : r < s₁.heap.objs.size := Heap.lt_size hr.1
  have hne : r ≠ s₁.heap.objs.size := Nat.ne_of_lt hlt
  refine wpAny_pyIter_tuple ht ?_
  refine ⟨s₁.heap.objs.size, [s₁.heap.objs.size, r], [s₁.heap.objs.size], vs.toArray.size, _, _, m, news,
    fun i m' news' => news' = news ∧ ∃ t u, m' = fun z => if z = y then some (.int (f + (ns.take i).sum) t) else if z = x then u else m z,
    rfl, Walks.tuple hh _ r hne vs.toArray, ?_, ?_, ?_, ⟨⟨_, Heap.get?_push_size _ rfl, rfl, rfl⟩, ht.at fun o e => Heap.get?_push_of_some _ e⟩, F.push _, fun p hp => ⟨Heap.get?_push_of_some _ (N' p hp).1, (N' p hp).2⟩, ?_, ?_, ?_⟩
  · intro hm'
    rcases List.mem_cons.mp hm' with e | hm'
    · exact absurd F.ns.lt (e ▸ Nat.lt_irrefl _)
    · exact hr.2.1 (List.mem_singleton.mp hm').symm
  · intro b hb
    rw [List.mem_singleton.mp hb]
    exact Heap.get?_none_of_le (Nat.le_of_lt (Nat.lt_of_le_of_lt F.above F.ns.lt))
  · intro p hp hI
    exact absurd (Heap.lt_size (N' p hp).1) ((List.mem_singleton.mp hI) ▸ Nat.lt_irrefl _)
  · refine ⟨rfl, t₀, m x, ?_⟩
    funext z
    by_cases h1 : z = y
    · subst h1; simp [hm]
    · by_cases h2 : z = x
      · subst h2; simp [h1]
      · simp [h1, h2]
  · rintro i v m₁ news₁ s₂ own ⟨h₂, tk₂, rfl⟩ hin hP ⟨rfl, t, u, rfl⟩ hoff _ _ _ _ F₁ N₁
    have hv : vs[i]? = some v := by
      have hP' : vs.toArray[i]? = some v := hP
      simpa using hP'
    obtain ⟨n, tn, hn, rfl⟩ := ints_get hi i _ hv
    refine wpAny_execs_cons (wpAny_AugAssign_Name (wpAny_loadName_local hk hy F₁.ns (v := .int (f + (ns.take i).sum) t) (by simp [hxy]) ?_))
    refine wpAny_Name (wpAny_loadName_local hk hx F₁.ns (v := .int n tn) (by simp) ?_) hdx
    refine iadd_int (wpAny_storeName_local hy F₁.ns (fun h₃ hn₃ hs₃ => ?_) hp)
    refine wpAny_execs_nil ?_
    refine LoopStepV.next ⟨rfl, h₃, _, _, _, rfl, F₁.set hn₃ hs₃, N₁.set hs₃, hoff, rfl, tk₂, some (.int n tn), ?_⟩
    funext z
    have e : f + (ns.take (i + 1)).sum = f + (ns.take i).sum + n := by
      rw [List.take_add_one, hn]
      simp [List.sum_append]
      omega
    by_cases h1 : z = y
    · subst h1; simp [e]
    · by_cases h2 : z = x
      · subst h2; simp [h1]
      · simp [h1, h2]
  · rintro h' tk m' news' F' Nn hoff ⟨rfl, t, u, rfl⟩
    have e : ns.take vs.toArray.size = ns := by rw [List.size_toArray, hi.length]; exact List.take_length
    rw [e] at F'
    exact hQ u t h' tk F' Nn
end
end Mine

namespace Mine

/-! ## the calendar: the law's own count -/
def leap (y : Int) : Bool := y.fmod 4 == 0 && (y.fmod 100 != 0 || y.fmod 400 == 0)
def lawFirst (y : Int) : Int := 2451545 + 146097 * ((y - 2000) / 400) + 365 * ((y - 2000) % 400) + ((y - 2000) % 400 + 3) / 4 - max 0 ((y - 2000) % 400 - 1) / 100
def lawLens (y : Int) : List Int := [31, lawFirst (y + 1) - lawFirst y - 337, 31, 30, 31, 30, 31, 31, 30, 31, 30, 31]
/-- the day number of the first of the month -/
def lawDay (y k : Int) : Int := lawFirst y + ((lawLens y).take (k - 1).toNat).sum
def lawLen (y k : Int) : Int := (lawLens y).getD (k - 1).toNat 0
/-- the first day in the month with the weekday -/
def fwk (y k d : Int) : Int := 1 + (d - (lawDay y k - 2451540)) % 7

theorem leap_iff {y : Int} : leap y = true ↔ y % 4 = 0 ∧ (y % 100 ≠ 0 ∨ y % 400 = 0) := by
  unfold leap
  rw [Int.fmod_eq_emod_of_nonneg _ (by decide), Int.fmod_eq_emod_of_nonneg _ (by decide), Int.fmod_eq_emod_of_nonneg _ (by decide)]
  simp [Bool.and_eq_true, Bool.or_eq_true]

theorem months_split {k : Int} (h1 : 1 ≤ k) (h2 : k ≤ 12) : k = 1 ∨ k = 2 ∨ k = 3 ∨ k = 4 ∨ k = 5 ∨ k = 6 ∨ k = 7 ∨ k = 8 ∨ k = 9 ∨ k = 10 ∨ k = 11 ∨ k = 12 := by omega

/-- the days before the year, from the first of January of the year one -/
def yearDay (y : Int) : Int := 365 * (y - 1) + (y - 1) / 4 - (y - 1) / 100 + (y - 1) / 400

theorem lawFirst_eq {y : Int} : 2451545 + 146097 * (y - 2000).fdiv 400 + 365 * (y - 2000).fmod 400 + ((y - 2000).fmod 400 + 3).fdiv 4 - (if (y - 2000).fmod 400 - 1 > 0 then (y - 2000).fmod 400 - 1 else 0).fdiv 100 = lawFirst y := by
  unfold lawFirst
  rw [Int.fmod_eq_emod_of_nonneg _ (by decide), Int.fdiv_eq_ediv_of_nonneg _ (by decide), Int.fdiv_eq_ediv_of_nonneg _ (by decide), Int.fdiv_eq_ediv_of_nonneg _ (by decide)]
  split <;> omega
theorem lawFirst_is (y : Int) : lawFirst y = yearDay y + 1721426 := by
  unfold lawFirst yearDay
  omega
theorem feb_is (y : Int) : lawFirst (y + 1) - lawFirst y - 337 = if leap y = true then 29 else 28 := by
  rw [lawFirst_is, lawFirst_is]
  unfold yearDay
  by_cases h : leap y = true
  · rw [if_pos h]
    rw [leap_iff] at h
    omega
  · rw [if_neg h]
    rw [leap_iff] at h
    omega

theorem lens_is (y : Int) : lawLens y = [31, if leap y = true then 29 else 28, 31, 30, 31, 30, 31, 31, 30, 31, 30, 31] := by
  unfold lawLens
  rw [feb_is]

theorem len_is {y k : Int} (h1 : 1 ≤ k) (h2 : k ≤ 12) : MONTHS.getD k.toNat 0 + (if k = 2 ∧ leap y = true then 1 else 0) = lawLen y k := by
  unfold lawLen
  rw [lens_is]
  unfold MONTHS
  rcases months_split h1 h2 with rfl | rfl | rfl | rfl | rfl | rfl | rfl | rfl | rfl | rfl | rfl | rfl <;> cases hl : leap y <;> simp

theorem len_bounds {y k : Int} (h1 : 1 ≤ k) (h2 : k ≤ 12) : 28 ≤ lawLen y k ∧ lawLen y k ≤ 31 := by
  unfold lawLen
  rw [lens_is]
  rcases months_split h1 h2 with rfl | rfl | rfl | rfl | rfl | rfl | rfl | rfl | rfl | rfl | rfl | rfl <;> cases hl : leap y <;> simp

theorem day_is {y k : Int} (h1 : 1 ≤ k) (h2 : k ≤ 12) : lawDay y k = yearDay y + (MONTHS.take k.toNat).sum + (if 2 < k ∧ leap y = true then 1 else 0) + 1721426 := by
  unfold lawDay
  rw [lawFirst_is, lens_is]
  unfold MONTHS
  rcases months_split h1 h2 with rfl | rfl | rfl | rfl | rfl | rfl | rfl | rfl | rfl | rfl | rfl | rfl <;> cases hl : leap y <;> simp <;> omega

theorem first_is {y k : Int} (h1 : 1 ≤ k) (h2 : k ≤ 12) :
    (365 * (y - 1) + (y - 1).fdiv 4 - (y - 1).fdiv 100 + (y - 1).fdiv 400 + (MONTHS.take k.toNat).sum + (if 2 < k ∧ leap y = true then 1 else 0)).fmod 7 = (lawDay y k - 2451540) % 7 := by
  rw [day_is h1 h2, fm7, Int.fdiv_eq_ediv_of_nonneg _ (by decide), Int.fdiv_eq_ediv_of_nonneg _ (by decide), Int.fdiv_eq_ediv_of_nonneg _ (by decide)]
  unfold yearDay
  omega

theorem fwk_is {y k d : Int} : 1 + (d - (lawDay y k - 2451540) % 7).fmod 7 = fwk y k d := by
  unfold fwk
  rw [fm7]
  omega
theorem fwk_bounds (y k d : Int) : 1 ≤ fwk y k d ∧ fwk y k d ≤ 7 := by
  unfold fwk
  omega

/-- the law's test of a day of the month -/
def monthTest (z d : Int) : Int → Bool := fun a => (z + a - 2451545 + 5).fmod 7 == d
theorem monthTest_iff {z d a : Int} : monthTest z d a = true ↔ (z + a - 2451540) % 7 = d := by
  unfold monthTest
  rw [beq_iff_eq, fm7]
  constructor <;> intro h <;> omega
theorem range_cons {a : Int} {n : Nat} : rangeInts a 1 (n + 1) = a :: rangeInts (a + 1) 1 n := by
  unfold rangeInts
  rw [List.range_succ_eq_map, List.map_cons, List.map_map]
  congr 1
  · simp
  · apply List.map_congr_left
    intro i _
    simp only [Function.comp, Nat.succ_eq_add_one]
    push_cast
    omega
theorem range_nil {a : Int} : rangeInts a 1 0 = [] := rfl
theorem filter_yes {z d a : Int} {n : Nat} (h : (z + a - 2451540) % 7 = d) : (rangeInts a 1 (n + 1)).filter (monthTest z d) = a :: (rangeInts (a + 1) 1 n).filter (monthTest z d) := by
  rw [range_cons, List.filter_cons_of_pos (monthTest_iff.mpr h)]
theorem filter_no {z d a : Int} {n : Nat} (h : (z + a - 2451540) % 7 ≠ d) : (rangeInts a 1 (n + 1)).filter (monthTest z d) = (rangeInts (a + 1) 1 n).filter (monthTest z d) := by
  rw [range_cons, List.filter_cons_of_neg (fun e => h (monthTest_iff.mp e))]
/-- within seven days running, the day with the weekday is one -/
theorem week_iff {z d f a x : Int} (h0 : 0 ≤ d) (h7 : d < 7) (hf : f = a + (d - (z + a - 2451540)) % 7) (h1 : a ≤ x) (h2 : x ≤ a + 6) : (z + x - 2451540) % 7 = d ↔ x = f := by
  constructor <;> intro h <;> omega
/-- a run of n days that the seven days from a on hold: the day, if it lies there -/
theorem filter_run {z d f a : Int} (h0 : 0 ≤ d) (h7 : d < 7) (hf : f = a + (d - (z + a - 2451540)) % 7) : ∀ (n m : Nat) (b : Int), a ≤ b → b + n ≤ a + 7 →
    (rangeInts b 1 (m + n)).filter (monthTest z d) = (if b ≤ f ∧ f < b + n then [f] else []) ++ (rangeInts (b + n) 1 m).filter (monthTest z d)
  | 0, m, b, _, _ => by
    rw [if_neg (by omega)]
    simp
  | n + 1, m, b, h1, h2 => by
    have hn : b + ((n + 1 : Nat) : Int) = b + 1 + (n : Int) := by omega
    rw [hn] at h2 ⊢
    have ih := filter_run h0 h7 hf n m (b + 1) (by omega) h2
    show (rangeInts b 1 (m + n + 1)).filter (monthTest z d) = _
    by_cases h : b = f
    · rw [filter_yes ((week_iff h0 h7 hf h1 (by omega)).mpr h), ih, if_neg (by omega), if_pos (by omega), h]
      rfl
    · rw [filter_no (fun e => h ((week_iff h0 h7 hf h1 (by omega)).mp e)), ih]
      by_cases q : b + 1 ≤ f ∧ f < b + 1 + (n : Int)
      · rw [if_pos q, if_pos (by omega)]
      · rw [if_neg q, if_neg (by omega)]
theorem week_lies {z d f a : Int} (hf : f = a + (d - (z + a - 2451540)) % 7) : a ≤ f ∧ f < a + 7 := by omega
theorem filter_block {z d f a : Int} {n : Nat} (h0 : 0 ≤ d) (h7 : d < 7) (hf : f = a + (d - (z + a - 2451540)) % 7) :
    (rangeInts a 1 (n + 7)).filter (monthTest z d) = f :: (rangeInts (a + 7) 1 n).filter (monthTest z d) := by
  rw [filter_run h0 h7 hf 7 n a (Int.le_refl _) (Int.le_refl _), show ((7 : Nat) : Int) = 7 from rfl, if_pos (week_lies hf)]
  rfl
/-- the rest of a month behind its first four weeks -/
theorem filter_rest {z d f : Int} {r : Nat} (h0 : 0 ≤ d) (h7 : d < 7) (hf : f = 1 + (d - (z + 1 - 2451540)) % 7) (hr : r ≤ 3) :
    (rangeInts 29 1 r).filter (monthTest z d) = if f ≤ (r : Int) then [f + 28] else [] := by
  have h := filter_run (z := z) (d := d) (f := f + 28) (a := 29) h0 h7 (by omega) r 0 29 (by decide) (by omega)
  rw [Nat.zero_add, range_nil, List.filter_nil, List.append_nil] at h
  rw [h]
  have hl := week_lies hf
  by_cases q : f ≤ (r : Int)
  · rw [if_pos q, if_pos (by omega)]
  · rw [if_neg q, if_neg (by omega)]
theorem days_are {z d f : Int} {n : Nat} (h0 : 0 ≤ d) (h7 : d < 7) (hf : f = 1 + (d - (z + 1 - 2451540)) % 7) (hn : 28 ≤ n) (hn' : n ≤ 31) :
    (rangeInts 1 1 n).filter (monthTest z d) = if f + 28 ≤ (n : Int) then [f, f + 7, f + 14, f + 21, f + 28] else [f, f + 7, f + 14, f + 21] := by
  obtain ⟨r, rfl⟩ : ∃ r, n = r + 7 + 7 + 7 + 7 := ⟨n - 28, by omega⟩
  rw [filter_block h0 h7 hf, filter_block (f := f + 7) h0 h7 (by omega), filter_block (f := f + 14) h0 h7 (by omega), filter_block (f := f + 21) h0 h7 (by omega)]
  have e : (1 : Int) + 7 + 7 + 7 + 7 = 29 := by omega
  rw [e, filter_rest h0 h7 hf (by omega)]
  by_cases h : f ≤ (r : Int)
  · rw [if_pos h, if_pos (by push_cast; omega)]
  · rw [if_neg h, if_neg (by push_cast; omega)]
end Mine

namespace Mine

section
variable {M : Model} {A : Around} {E : Value → Shared → Prop} {s : Shared} {env : Env}
/-- a value told otherwise -/
theorem store_eq {x : Str} {v v' : Int} {t : Tok} {Q : Unit → Shared → Prop} (e : v = v') (h : wpAny M A (storeName env x (.int v' t)) Q E s) : wpAny M A (storeName env x (.int v t)) Q E s := by
  rw [e]; exact h
end

section
variable {M : Model} {A : Around} {E : Value → Shared → Prop} {s : Shared} {env : Env}
theorem store_first {x : Str} {y k : Int} {t : Tok} {Q : Unit → Shared → Prop} (h1 : 1 ≤ k) (h2 : k ≤ 12) (h : wpAny M A (storeName env x (.int ((lawDay y k - 2451540) % 7) t)) Q E s) :
    wpAny M A (storeName env x (.int ((365 * (y - 1) + (y - 1).fdiv 4 - (y - 1).fdiv 100 + (y - 1).fdiv 400 + (MONTHS.take k.toNat).sum + (if 2 < k ∧ leap y = true then 1 else 0)).fmod 7) t)) Q E s := store_eq (first_is h1 h2) h
theorem store_len {x : Str} {y k : Int} {t : Tok} {Q : Unit → Shared → Prop} (h1 : 1 ≤ k) (h2 : k ≤ 12) (h : ∀ n, n = lawLen y k → 28 ≤ n → n ≤ 31 → wpAny M A (storeName env x (.int n t)) Q E s) :
    wpAny M A (storeName env x (.int (MONTHS.getD k.toNat 0 + (if k = 2 ∧ leap y = true then 1 else 0)) t)) Q E s := store_eq (len_is h1 h2) (h _ rfl (len_bounds h1 h2).1 (len_bounds h1 h2).2)
theorem store_fwk {x : Str} {y k d : Int} {t : Tok} {Q : Unit → Shared → Prop} (h : ∀ f, f = fwk y k d → 1 ≤ f → f ≤ 7 → wpAny M A (storeName env x (.int f t)) Q E s) :
    wpAny M A (storeName env x (.int (1 + (d - (lawDay y k - 2451540) % 7).fmod 7) t)) Q E s := store_eq fwk_is (h _ rfl (fwk_bounds y k d).1 (fwk_bounds y k d).2)
end

section
variable {prog : Program} {w : World} {A : Around} {E : Value → Shared → Prop} {s : Shared} {h₀ : Heap} {L : Addr} {m : Str → Option Value} {news : List (Addr × Obj)} {env : Env}

theorem map_same {x : Str} {v : Value} (h : m x = some v) : m = fun z => if z = x then some v else m z := by
  funext z
  by_cases h1 : z = x
  · subst h1; simp [h]
  · simp [h1]

/-- if month > 2 and isleap(year): first += 1 -/
theorem if_leap {test : PySem.Expr} {x : Str} {pe pc apos pos : Pos} {kk : Nat} {k y f : Int} {t1 t2 t3 : Tok} {Q : Flow → Shared → Prop} (_F : Fr h₀ env.locals s.heap m) (_N : News h₀ env.locals s.heap news)
    (_hk : m (Str.ofString "month") = some (.int k t1)) (_hy : m (Str.ofString "year") = some (.int y t2)) (hf : m x = some (.int f t3))
    (hx : env.kindOf x = some .local) (hp : (env.scope.kind == .class || (env.scope.kind == .module && env.locals != env.globals)) = false) (hkd : env.scope.kind = .function)
    (h : wpAny (model prog w) A (isTrue test env (eval test env)) (fun b s' => Joined (b = (decide (2 < k) && leap y) ∧ ∃ h' tk, s' = { s with heap := h', toks := tk } ∧ Fr h₀ env.locals h' m ∧ News h₀ env.locals h' news)) E s)
    (hQ : ∀ tf h' tk, Fr h₀ env.locals h' (fun z => if z = x then some (.int (f + (if 2 < k ∧ leap y = true then 1 else 0)) tf) else m z) → News h₀ env.locals h' news → Q .next { s with heap := h', toks := tk }) :
    wpAny (model prog w) A (exec (.If test [.AugAssign (.Name x pe) .Add (.Constant (.int 1) kk pc) apos] [] pos) env) Q E s := by
  refine wpAny_If (wpAny_mono h (fun b s₂ h₂ => ?_) fun _ _ e => e)
  obtain ⟨hb, h', tk, rfl, F, N⟩ := h₂
  cases b with
  | false =>
    have hn : ¬ (2 < k ∧ leap y = true) := fun ⟨a, c⟩ => by rw [c] at hb; simp [a] at hb
    refine wpAny_execs_nil (hQ t3 _ _ ?_ N)
    rw [if_neg hn, Int.add_zero, ← map_same hf]
    exact F
  | true =>
    have hn : 2 < k ∧ leap y = true := by
      have := hb.symm
      rw [Bool.and_eq_true, decide_eq_true_eq] at this
      exact this
    refine wpAny_execs_cons (wpAny_AugAssign_Name (wpAny_loadName_local hkd hx F.ns hf ?_))
    refine wpAny_Constant_int (iadd_int (wpAny_storeName_local hx F.ns (fun h₃ hn₃ hs₃ => ?_) hp))
    refine wpAny_execs_nil ?_
    exact hQ (tk + 1) h₃ (tk + 1 + 1 + 1) (by rw [if_pos hn]; exact F.set hn₃ hs₃) (N.set hs₃)

/-- 1 if month == 2 and isleap(year) else 0 -/
theorem ifexp_leap {test : PySem.Expr} {p1 p0 pos : Pos} {k1 k0 : Nat} {k y : Int} {t1 t2 : Tok} {Q : Value → Shared → Prop} (_F : Fr h₀ L s.heap m) (_N : News h₀ L s.heap news)
    (_hk : m (Str.ofString "month") = some (.int k t1)) (_hy : m (Str.ofString "year") = some (.int y t2))
    (h : wpAny (model prog w) A (isTrue test env (eval test env)) (fun b s' => Joined (b = (decide (k = 2) && leap y) ∧ ∃ h' tk, s' = { s with heap := h', toks := tk } ∧ Fr h₀ L h' m ∧ News h₀ L h' news)) E s)
    (hQ : ∀ t h' tk, Fr h₀ L h' m → News h₀ L h' news → Q (.int (if k = 2 ∧ leap y = true then 1 else 0) t) { s with heap := h', toks := tk }) :
    wpAny (model prog w) A (eval (.IfExp test (.Constant (.int 1) k1 p1) (.Constant (.int 0) k0 p0) pos) env) Q E s := by
  refine IfExp_ (wpAny_mono h (fun b s₂ h₂ => ?_) fun _ _ e => e)
  obtain ⟨hb, h', tk, rfl, F, N⟩ := h₂
  cases b with
  | false =>
    have hn : ¬ (k = 2 ∧ leap y = true) := fun ⟨a, c⟩ => by rw [c] at hb; simp [a] at hb
    have hq := hQ
    simp only [if_neg hn] at hq
    exact wpAny_Constant_int (hq _ h' _ F N)
  | true =>
    have hn : k = 2 ∧ leap y = true := by
      have := hb.symm
      rw [Bool.and_eq_true, decide_eq_true_eq] at this
      exact this
    have hq := hQ
    simp only [if_pos hn] at hq
    exact wpAny_Constant_int (hq _ h' _ F N)
theorem jn_mar_tt {k y : Int} (h : 2 < k) (hl : leap y = true) : true = (decide (2 < k) && leap y) := by simp [h, hl]
theorem jn_mar_tf {k y : Int} (_h : 2 < k) (hl : leap y = false) : false = (decide (2 < k) && leap y) := by simp [hl]
theorem jn_mar_no {k y : Int} (h : ¬ 2 < k) : false = (decide (2 < k) && leap y) := by simp [h]
theorem jn_feb_tt {k y : Int} (h : k = 2) (hl : leap y = true) : true = (decide (k = 2) && leap y) := by simp [h, hl]
theorem jn_feb_tf {k y : Int} (_h : k = 2) (hl : leap y = false) : false = (decide (k = 2) && leap y) := by simp [hl]
theorem jn_feb_no {k y : Int} (h : k ≠ 2) : false = (decide (k = 2) && leap y) := by simp [h]

/-- the place that stands for the last -/
def nthOf (n f d : Int) : Int := if n = 0 then (if f + 28 ≤ d then 5 else 4) else n
theorem nthOf_bounds {n f d : Int} (h0 : 0 ≤ n) (h5 : n ≤ 5) : 1 ≤ nthOf n f d ∧ nthOf n f d ≤ 5 := by
  unfold nthOf
  repeat' split
  all_goals omega

theorem nthOf_says (n f d : Int) : (n ≠ 0 ∧ nthOf n f d = n) ∨ (n = 0 ∧ f + 28 ≤ d ∧ nthOf n f d = 5) ∨ (n = 0 ∧ ¬ f + 28 ≤ d ∧ nthOf n f d = 4) := by
  unfold nthOf
  by_cases h : n = 0
  · by_cases h2 : f + 28 ≤ d
    · simp [h, h2]
    · simp [h, h2]
  · simp [h]

/-- an if of any make that sets one name to a told int -/
theorem if_nth {test : PySem.Expr} {body orelse : List Stmt} {pos : Pos} {n f d : Int} {t1 t2 t3 : Tok} {Q : Flow → Shared → Prop} (_F : Fr h₀ L s.heap m) (_N : News h₀ L s.heap news)
    (hn : m (Str.ofString "n") = some (.int n t1)) (_hf : m (Str.ofString "first_weekday_of_kind") = some (.int f t2)) (_hd : m (Str.ofString "daysinmonth") = some (.int d t3))
    (h : wpAny (model prog w) A (isTrue test env (eval test env)) (fun b s₂ =>
      if b then wpAny (model prog w) A (execs body env) (fun fl s' => Joined (fl = .next ∧ ∃ h' tk m', s' = { s with heap := h', toks := tk } ∧ Fr h₀ L h' m' ∧ News h₀ L h' news ∧
        ((n ≠ 0 ∧ m' = m) ∨ ∃ v tf, v = nthOf n f d ∧ m' = fun z => if z = Str.ofString "n" then some (.int v tf) else m z))) E s₂
      else wpAny (model prog w) A (execs orelse env) (fun fl s' => Joined (fl = .next ∧ ∃ h' tk m', s' = { s with heap := h', toks := tk } ∧ Fr h₀ L h' m' ∧ News h₀ L h' news ∧
        ((n ≠ 0 ∧ m' = m) ∨ ∃ v tf, v = nthOf n f d ∧ m' = fun z => if z = Str.ofString "n" then some (.int v tf) else m z))) E s₂) E s)
    (h0 : 0 ≤ n) (h5 : n ≤ 5)
    (hQ : ∀ v tf h' tk, ((n ≠ 0 ∧ v = n) ∨ (n = 0 ∧ f + 28 ≤ d ∧ v = 5) ∨ (n = 0 ∧ ¬ f + 28 ≤ d ∧ v = 4)) → 1 ≤ v → v ≤ 5 → Fr h₀ L h' (fun z => if z = Str.ofString "n" then some (.int v tf) else m z) → News h₀ L h' news → Q .next { s with heap := h', toks := tk }) :
    wpAny (model prog w) A (exec (.If test body orelse pos) env) Q E s := by
  refine wpAny_mono (wpAny_If h) (fun fl s₂ h₂ => ?_) fun _ _ e => e
  obtain ⟨rfl, h', tk, m', rfl, F, N, hm⟩ := h₂
  rcases hm with ⟨hz, rfl⟩ | ⟨v, tf, rfl, rfl⟩
  · refine hQ n t1 h' tk (.inl ⟨hz, rfl⟩) (by omega) h5 ?_ N
    rw [← map_same hn]
    exact F
  · exact hQ _ tf h' tk (nthOf_says n f d) (nthOf_bounds h0 h5).1 (nthOf_bounds h0 h5).2 F N
theorem nth_five {n f d : Int} (h : n = 0) (h2 : f + 28 ≤ d) : 5 = nthOf n f d := by unfold nthOf; rw [if_pos h, if_pos h2]
theorem nth_four {n f d : Int} (h : n = 0) (h2 : ¬ f + 28 ≤ d) : 4 = nthOf n f d := by unfold nthOf; rw [if_pos h, if_neg h2]
theorem nth_far {n f d : Int} (h : n = 0) (h1 : 1 ≤ f) (hd : d ≤ 31) (ha : ([1, 2, 3].any fun x => x == f) = false) : 4 = nthOf n f d := by
  refine nth_four h fun h2 => ?_
  have : f = 1 ∨ f = 2 ∨ f = 3 := by omega
  rcases this with rfl | rfl | rfl <;> simp at ha
end
end Mine

namespace Mine

section
variable {M : Model} {A : Around} {E : Value → Shared → Prop} {s : Shared} {env : Env}
theorem store_number {x : Str} {y k : Int} {t : Tok} {Q : Unit → Shared → Prop} (h : wpAny M A (storeName env x (.int (lawDay y k - 1) t)) Q E s) :
    wpAny M A (storeName env x (.int (lawFirst y + ([31, lawFirst (y + 1) - lawFirst y - 337, 31, 30, 31, 30, 31, 31, 30, 31, 30, 31].take (k - 1).toNat).sum - 1) t)) Q E s := h
end

theorem carried_cons {ys : List Value} {a : Int} {r : List Int} (h : CarriedAll ys ((a :: r).map PyData.int)) : ∃ t ys', ys = .int a t :: ys' ∧ CarriedAll ys' (r.map PyData.int) := by
  rw [List.map_cons] at h
  cases h with
  | cons h1 h2 => cases h1; exact ⟨_, _, rfl, h2⟩
theorem carried_nil {ys : List Value} (h : CarriedAll ys (([] : List Int).map PyData.int)) : ys = [] := by
  cases h; rfl
theorem carried_4 {ys : List Value} {a b c d : Int} (h : CarriedAll ys ([a, b, c, d].map PyData.int)) : ∃ t0 t1 t2 t3, ys = [.int a t0, .int b t1, .int c t2, .int d t3] := by
  obtain ⟨t0, _, e0, h0⟩ := carried_cons h
  obtain ⟨t1, _, e1, h1⟩ := carried_cons h0
  obtain ⟨t2, _, e2, h2⟩ := carried_cons h1
  obtain ⟨t3, _, e3, h3⟩ := carried_cons h2
  rw [carried_nil h3] at e3
  exact ⟨t0, t1, t2, t3, by rw [e0, e1, e2, e3]⟩
theorem carried_5 {ys : List Value} {a b c d e : Int} (h : CarriedAll ys ([a, b, c, d, e].map PyData.int)) : ∃ t0 t1 t2 t3 t4, ys = [.int a t0, .int b t1, .int c t2, .int d t3, .int e t4] := by
  obtain ⟨t0, _, e0, h0⟩ := carried_cons h
  obtain ⟨t1, t2, t3, t4, e1⟩ := carried_4 h0
  exact ⟨t0, t1, t2, t3, t4, by rw [e0, e1]⟩

def DaysPack (P : Prop) : Prop := P
def DaysEnd (P : Prop) : Prop := P
def Four (P : Prop) : Prop := P
theorem Four.intro {P : Prop} (h : P) : Four P := h
def Five (P : Prop) : Prop := P
theorem Five.intro {P : Prop} (h : P) : Five P := h

section
variable {prog : Program} {w : World} {A : Around} {E : Value → Shared → Prop} {s : Shared} {h₀ : Heap} {m : Str → Option Value} {env : Env}

/-- days = [one for one in range(1, n + 1) if the day has the weekday] -/
theorem assign_days {x y : Str} {iter : PySem.Expr} {pe px py : Pos} {ifs : List PySem.Expr} {scope : Scope} {cl : List (Str × Addr)} {pos spos : Pos} {Q : Flow → Shared → Prop}
    (_F : Fr h₀ env.locals s.heap m) (hsw : swapsWith (.ListComp (.Name x pe) [⟨.Name x px, iter, ifs, 0⟩] scope pos) (some (.Name y py)) spos.line env = pure true)
    (hh : A.handled = none) (hclos : closureFor scope env = pure cl) (hcell : ∀ y ∈ scope.names, y.2 ≠ .cell) (hkind : scope.kind = .function)
    (hnames : ∀ y ∈ scope.names, y.2 = .local → scope.names.lookup y.1 = some .local) (hx : scope.names.lookup x = some .local) (hdbg : (x == ("__debug__" : Str)) = false)
    (hy : env.kindOf y = some .local) (hp : (env.scope.kind == .class || (env.scope.kind == .module && env.locals != env.globals)) = false)
    (h : wpAny (model prog w) A (eval iter env) (fun xv s₁ => DaysPack (∃ news : List (Addr × Obj), ∃ r b₀ t₀ u₀ v₀, ∃ n : Int, xv = .ref r ∧ IsRange s₁.heap r 1 b₀ 1 t₀ u₀ v₀ ∧ b₀ = n + 1 ∧ 28 ≤ n ∧ n ≤ 31 ∧ Fr h₀ env.locals s₁.heap m ∧ News h₀ env.locals s₁.heap news ∧
      ∃ z d : Int, (∀ C a v s₂ m₂ E', s₁.heap.objs.size ≤ C → a ∈ rangeInts 1 1 n.toNat → ItemKind.int.is a v → s₂.heap.Ns (compEnvC scope cl C env).locals m₂ → m₂ x = some v → (∀ b o, s₁.heap.get? b = some o → s₂.heap.get? b = some o) →
        wpAny (model prog w) A (forIn ifs true fun c r => if r = true then do let ok ← isTrue c (compEnvC scope cl C env) (eval c (compEnvC scope cl C env)); pure (ForInStep.yield ok) else pure (ForInStep.yield r))
          (fun ok s₃ => ok = monthTest z d a ∧ Keeps s₂ s₃) E' s₂) ∧
      DaysEnd (0 ≤ d ∧ d ≤ 6 ∧ ∃ f, f = 1 + (d - (z + 1 - 2451540)) % 7 ∧
        Four (∀ D t0 t1 t2 t3 c h' tk, ¬ f + 28 ≤ n → Fr h₀ env.locals h' (fun v => if v = y then some (.ref D) else m v) → News h₀ env.locals h' ((D, listOf #[.int f t0, .int (f + 7) t1, .int (f + 14) t2, .int (f + 21) t3] c) :: news) → Q .next { s₁ with heap := h', toks := tk }) ∧
        Five (∀ D t0 t1 t2 t3 t4 c h' tk, f + 28 ≤ n → Fr h₀ env.locals h' (fun v => if v = y then some (.ref D) else m v) → News h₀ env.locals h' ((D, listOf #[.int f t0, .int (f + 7) t1, .int (f + 14) t2, .int (f + 21) t3, .int (f + 28) t4] c) :: news) → Q .next { s₁ with heap := h', toks := tk })))) E s)
    (hs : ∀ x, foldedSetIterable iter env x = pure x) :
    wpAny (model prog w) A (exec (.Assign [.Name y py] (.ListComp (.Name x pe) [⟨.Name x px, iter, ifs, 0⟩] scope pos) spos) env) Q E s := by
  clear _F
  rw [exec_Assign_Name_used _ _ _ _ hsw]
  refine wpAny_bind (wpAny_standAt (wpAny_bind ?_))
  show wpAny _ A (do let _ ← comprehension (.ListComp (.Name x pe) [⟨.Name x px, iter, ifs, 0⟩] scope pos) scope env _ (newList []) false (eval iter env) (some (assign (.Name y py) env))) _ _ s
  refine wpAny_bind (wpAny_mono (wpAny_comprehension_free (use := some (assign (.Name y py) env)) (Q := fun _ s' => Q .next s') rfl hs hclos hkind hnames
    (wpAny_mono h (fun xv s₁ h₁ => ?_) fun _ _ e => e)) (fun _ s' hq => wpAny_pure (wpAny_pure hq)) fun _ _ e => e)
  obtain ⟨news, r, b₀, t₀, u₀, v₀, n, rfl, hr, rfl, hn0, hn1, F, N, z, d, htests, hd0, hd6, f, hf, hq4, hq5⟩ := h₁
  obtain ⟨n', rfl⟩ : ∃ n' : Nat, n = n' := ⟨n.toNat, by omega⟩
  have en : ((n' : Int)).toNat = n' := by omega
  rw [en] at htests
  have hr' : IsRange s₁.heap r 1 (1 + (n' : Int)) 1 t₀ u₀ v₀ := by rw [Int.add_comm 1 (n' : Int)]; exact hr
  have hn : Builtin.Range.rangeSize 1 (1 + (n' : Int)) 1 = (n' : Int) := size_far (by omega)
  have hsmall : Builtin.Range.small 1 (1 + (n' : Int)) 1 = true := by
    unfold Builtin.Range.small
    rw [hn]
    have h32 : n' = 28 ∨ n' = 29 ∨ n' = 30 ∨ n' = 31 := by omega
    rcases h32 with rfl | rfl | rfl | rfl <;> decide
  have hsz : n' ≤ sizeLine := by rw [sizeLine_eq]; omega
  have hI : s₁.heap.objs.size ≠ env.locals := Nat.ne_of_gt F.ns.lt
  have up : ∀ (s₃ : Shared), (∀ b o, b ∉ [s₁.heap.objs.size] → (s₁.heap.push { cls := .type "range_iterator", data := .fields #[rawInt 1, rawInt (Builtin.Range.rangeSize 1 (1 + (n' : Int)) 1), rawInt 1] }).get? b = some o → s₃.heap.get? b = some o) → ∀ b o, s₁.heap.get? b = some o → s₃.heap.get? b = some o :=
    fun s₃ hk b o e => hk b o (fun hm => by rcases List.mem_cons.mp hm with rfl | hm; exact Nat.lt_irrefl _ (Heap.lt_size e); cases hm) (Heap.get?_push_of_some _ e)
  refine wpAny_pyIter_range hr' hsmall ?_
  have W := (Walks.range (prog := prog) (w := w) hh s₁.heap.objs.size 1 1 n').bound
  have hst : IsRangeIter (s₁.heap.push { cls := .type "range_iterator", data := .fields #[rawInt 1, rawInt (Builtin.Range.rangeSize 1 (1 + (n' : Int)) 1), rawInt 1] }) s₁.heap.objs.size (1 + ((0 : Nat) : Int) * 1) ((n' : Int) - ((0 : Nat) : Int)) 1 := by
    rw [hn]; simpa using Heap.get?_push_size _ rfl
  refine comp_block_walkC (RR := fun acc C => compPost (model prog w) A E (some (assign (.Name y py) env)) (fun _ s' => Q .next s') acc C) W hsz (ItemKind.int.lift (monthTest z d)) (fun v y => ∃ a, ItemKind.int.is a v ∧ Carried y (PyData.int a)) hcell hkind hx hst ?_ ⟨?_, ?_⟩ ?_
  · intro b hb
    have e : b = s₁.heap.objs.size := by simpa using hb
    subst e
    show _ < (s₁.heap.push _).objs.size
    rw [Heap.size_push]
    exact Nat.lt_succ_self _
  · intro C i v s₃ m₃ E' hC hP hn' hm hk _
    have ha : ItemKind.int.is (1 + (i : Nat) * 1) v := hP.2
    rw [ItemKind.lift_is ha]
    exact htests C _ v s₃ m₃ E' (Nat.le_of_succ_le (by simpa [Heap.size_push] using hC)) (List.mem_of_getElem? (rangeInts_get hP.1)) ha hn' hm (up s₃ hk)
  · intro C i v s₃ m₃ E' hC hP hp' hn' hm hk _
    have ha : ItemKind.int.is (1 + (i : Nat) * 1) v := hP.2
    have hns : s₃.heap.Ns (compEnvC scope cl C env).locals m₃ := hn'
    refine ldVarK hns hm ⟨⟨_, ha, ?_⟩, s₃.heap, s₃.toks, rfl, fun _ _ e => e⟩ (by exact hkind) ?_ hdbg
    · obtain ⟨t, rfl⟩ := ItemKind.int_is ha
      exact .int _ _
    · exact lookup_relabel_local hx
  · intro D C h' tk m' ys vs hD hC hDC hnC hlD hplD hlen hP hF hk
    have hLC : env.locals ≠ C := by rintro rfl; obtain ⟨o, _, _, ho, _⟩ := F.ns; rw [Heap.get?_push_of_some _ ho] at hC; cases hC
    have hLD : env.locals ≠ D := by rintro rfl; obtain ⟨o, _, _, ho, _⟩ := F.ns; rw [Heap.get?_push_of_some _ ho] at hD; cases hD
    have keep : ∀ b o, s₁.heap.get? b = some o → h'.get? b = some o := up { s₁ with heap := h' } hk
    show wpAny _ A (assign (.Name y py) env (.ref D)) _ _ _
    refine wpAny_assign_Name (wpAny_storeName_local hy (F.ns.at' fun o e => keep _ o e) (fun h₂ hn₂ hs₂ => ?_) hp)
    refine ⟨m', hnC.sameBut hs₂ (Ne.symm hLC), fun h₃ hs₃ => ?_⟩
    have hi : AreOf .int vs (rangeInts 1 1 n') := AreOf.of_get (hlen.trans (rangeInts_length _ _ _).symm) fun j v hv => ⟨_, rangeInts_get (hP j v hv).1, (hP j v hv).2⟩
    have hc := filter_paired hi hF
    rw [days_are hd0 (by omega) hf (by omega) (by omega)] at hc
    have keep₃ : ∀ b o, b ≠ env.locals → s₁.heap.get? b = some o → h₃.get? b = some o := fun b o hbL e =>
      hs₃.extBut b o (by rintro rfl; rw [Heap.get?_push_of_some _ e] at hC; cases hC) (hs₂.extBut b o hbL (keep b o e))
    have F₃ : Fr h₀ env.locals h₃ (fun v => if v = y then some (.ref D) else m v) :=
      ⟨hn₂.sameBut hs₃ hLC, fun b o e => keep₃ b o (Nat.ne_of_lt (Nat.lt_of_lt_of_le (Heap.lt_size e) F.above)) (F.keep b o e), F.above⟩
    have N₃ : News h₀ env.locals h₃ news := fun p hp => ⟨keep₃ _ _ (N p hp).2.1 (N p hp).1, (N p hp).2⟩
    have hD0 : h₀.get? D = none := by
      cases e : h₀.get? D with
      | none => rfl
      | some o' => rw [Heap.get?_push_of_some _ (F.keep _ _ e)] at hD; cases hD
    obtain ⟨c, hgD⟩ := (hplD.extBut hs₂.extBut (Ne.symm hLD)).extBut hs₃.extBut hDC
    have hl : h₃.get? D = some (listOf ys.toList.toArray c) := by rw [Array.toArray_toList]; exact hgD
    have ND : News h₀ env.locals h₃ ((D, listOf ys.toList.toArray c) :: news) := fun p hp => by
      rcases List.mem_cons.mp hp with rfl | hp
      · exact ⟨hl, Ne.symm hLD, hD0⟩
      · exact N₃ p hp
    by_cases h5 : f + 28 ≤ (n' : Int)
    · rw [if_pos h5] at hc
      obtain ⟨t0, t1, t2, t3, t4, e⟩ := carried_5 hc
      rw [e] at ND
      exact hq5 D t0 t1 t2 t3 t4 c h₃ _ h5 F₃ ND
    · rw [if_neg h5] at hc
      obtain ⟨t0, t1, t2, t3, e⟩ := carried_4 hc
      rw [e] at ND
      exact hq4 D t0 t1 t2 t3 c h₃ _ h5 F₃ ND
theorem len_news {L D : Addr} {news : List (Addr × Obj)} {vs : List Value} {c : Nat} {k : Int} {Q : Value → Shared → Prop} (N : News h₀ L s.heap news) (hm : (D, listOf vs.toArray c) ∈ news) (hk : (vs.length : Int) = k) (hf : k < 2 ^ 63)
    (h : Q (.int k (s.toks + 1)) { s with toks := s.toks + 1 + 1 }) : wpAny (model prog w) A (call (.builtin "len") [.ref D]) Q E s := by
  have hl : s.heap.IsList D vs.toArray := ⟨_, (N _ hm).1, rfl, c, rfl⟩
  refine len_list hl (by rw [List.size_toArray, hk]; exact hf) ?_
  rw [List.size_toArray, hk]
  exact h
theorem week4 {f i : Int} {t0 t1 t2 t3 : Tok} (h0 : 0 ≤ i) (h4 : i < 4) : ∃ t, [Value.int f t0, .int (f + 7) t1, .int (f + 14) t2, .int (f + 21) t3][i.toNat]? = some (.int (f + 7 * i) t) := by
  have : i = 0 ∨ i = 1 ∨ i = 2 ∨ i = 3 := by omega
  rcases this with rfl | rfl | rfl | rfl
  · exact ⟨t0, by simp⟩
  · exact ⟨t1, rfl⟩
  · exact ⟨t2, rfl⟩
  · exact ⟨t3, rfl⟩
theorem week5 {f i : Int} {t0 t1 t2 t3 t4 : Tok} (h0 : 0 ≤ i) (h5 : i < 5) : ∃ t, [Value.int f t0, .int (f + 7) t1, .int (f + 14) t2, .int (f + 21) t3, .int (f + 28) t4][i.toNat]? = some (.int (f + 7 * i) t) := by
  have : i = 0 ∨ i = 1 ∨ i = 2 ∨ i = 3 ∨ i = 4 := by omega
  rcases this with rfl | rfl | rfl | rfl | rfl
  · exact ⟨t0, by simp⟩
  · exact ⟨t1, rfl⟩
  · exact ⟨t2, rfl⟩
  · exact ⟨t3, rfl⟩
  · exact ⟨t4, rfl⟩
theorem item_week4 {value slice : PySem.Expr} {L D : Addr} {news : List (Addr × Obj)} {f i : Int} {t0 t1 t2 t3 u : Tok} {c : Nat} {Q : Value → Shared → Prop} (N : News h₀ L s.heap news)
    (hm : (D, listOf [Value.int f t0, .int (f + 7) t1, .int (f + 14) t2, .int (f + 21) t3].toArray c) ∈ news) (h0 : 0 ≤ i) (h4 : i < 4) (h : ∀ t, Q (.int (f + 7 * i) t) s)
    (hs : subscripted slice false (.ref D) (.int i u) = operate [.ref D, .int i u] (getItem (.ref D) (.int i u))) (hg : ∀ r, letTemporaryGo value (.ref D) r = pure ()) :
    wpAny (model prog w) A (subscriptTail value slice (.ref D) (.int i u)) Q E s := by
  obtain ⟨t, ht⟩ := week4 (t0 := t0) (t1 := t1) (t2 := t2) (t3 := t3) (f := f) h0 h4
  exact item_listL ⟨_, (N _ hm).1, rfl, c, rfl⟩ h0 (Int.lt_trans h4 (by decide)) ht (h t) hs hg
theorem item_week5 {value slice : PySem.Expr} {L D : Addr} {news : List (Addr × Obj)} {f i : Int} {t0 t1 t2 t3 t4 u : Tok} {c : Nat} {Q : Value → Shared → Prop} (N : News h₀ L s.heap news)
    (hm : (D, listOf [Value.int f t0, .int (f + 7) t1, .int (f + 14) t2, .int (f + 21) t3, .int (f + 28) t4].toArray c) ∈ news) (h0 : 0 ≤ i) (h5 : i < 5) (h : ∀ t, Q (.int (f + 7 * i) t) s)
    (hs : subscripted slice false (.ref D) (.int i u) = operate [.ref D, .int i u] (getItem (.ref D) (.int i u))) (hg : ∀ r, letTemporaryGo value (.ref D) r = pure ()) :
    wpAny (model prog w) A (subscriptTail value slice (.ref D) (.int i u)) Q E s := by
  obtain ⟨t, ht⟩ := week5 (t0 := t0) (t1 := t1) (t2 := t2) (t3 := t3) (t4 := t4) (f := f) h0 h5
  exact item_listL ⟨_, (N _ hm).1, rfl, c, rfl⟩ h0 (Int.lt_trans h5 (by decide)) ht (h t) hs hg
theorem told_same {L Da Db : Addr} {news : List (Addr × Obj)} {y k a b : Int} {t1 t2 t3 u1 u2 u3 : Tok} {ca cb : Nat} {Q : Value → Shared → Prop} (N : News h₀ L s.heap news)
    (ha : (Da, ({ cls := .type "tuple", data := .seq #[.int y t1, .int k t2, .int a t3] ca } : Obj)) ∈ news) (hb : (Db, ({ cls := .type "tuple", data := .seq #[.int y u1, .int k u2, .int b u3] cb } : Obj)) ∈ news) (e : a = b)
    (hu : A.units + 64 < cLine) (h : Q (.bool true) s) : wpAny (model prog w) A (compareOp .Eq (.ref Da) (.ref Db)) Q E s := by
  subst e
  refine eq_dataH (da := .tuple [.int y, .int k, .int a]) (db := .tuple [.int y, .int k, .int a]) (reads_tuple_at (N _ ha).1 rfl rfl (.cons (.int _ _) (.cons (.int _ _) (.cons (.int _ _) .nil))))
    (reads_tuple_at (N _ hb).1 rfl rfl (.cons (.int _ _) (.cons (.int _ _) (.cons (.int _ _) .nil)))) rfl rfl hu ?_
  have : PyData.eqv (.tuple [.int y, .int k, .int a]) (.tuple [.int y, .int k, .int a]) = true := by simp [PyData.eqv, PyData.eqvAll]
  rw [this]
  exact h
section
variable {p f v n F N : Int}
theorem at_last5 (hv : (p ≠ 0 ∧ v = p) ∨ (p = 0 ∧ f + 28 ≤ n ∧ v = 5) ∨ (p = 0 ∧ ¬ f + 28 ≤ n ∧ v = 4)) (hf : f = F) (hn : n = N) (hp : p = 0) (h5 : F + 28 ≤ N) : f + (v - 1) * 7 = F + 28 := by omega
theorem at_last4 (hv : (p ≠ 0 ∧ v = p) ∨ (p = 0 ∧ f + 28 ≤ n ∧ v = 5) ∨ (p = 0 ∧ ¬ f + 28 ≤ n ∧ v = 4)) (hf : f = F) (hn : n = N) (hp : p = 0) (h5 : ¬ F + 28 ≤ N) : f + (v - 1) * 7 = F + 21 := by omega
theorem at_place5 (hv : (p ≠ 0 ∧ v = p) ∨ (p = 0 ∧ f + 28 ≤ n ∧ v = 5) ∨ (p = 0 ∧ ¬ f + 28 ≤ n ∧ v = 4)) (hf : f = F) (hp : p ≠ 0) (h0 : 0 ≤ p) (h5 : p ≤ 5) : f + (v - 1) * 7 = [F, F + 7, F + 14, F + 21, F + 28].getD (p - 1).toNat 0 := by
  have e : v = p := by omega
  subst e
  subst hf
  have : v = 1 ∨ v = 2 ∨ v = 3 ∨ v = 4 ∨ v = 5 := by omega
  rcases this with rfl | rfl | rfl | rfl | rfl <;> simp
theorem at_place4 (hv : (p ≠ 0 ∧ v = p) ∨ (p = 0 ∧ f + 28 ≤ n ∧ v = 5) ∨ (p = 0 ∧ ¬ f + 28 ≤ n ∧ v = 4)) (hf : f = F) (hn : n = N) (hp : p ≠ 0) (h0 : 0 ≤ p) (h5 : p ≤ 5) (hle : ¬ n < f + (v - 1) * 7) (h4 : ¬ F + 28 ≤ N) :
    f + (v - 1) * 7 = [F, F + 7, F + 14, F + 21].getD (p - 1).toNat 0 := by
  have e : v = p := by omega
  have e4 : v ≤ 4 := by omega
  subst e
  subst hf
  have : v = 1 ∨ v = 2 ∨ v = 3 ∨ v = 4 := by omega
  rcases this with rfl | rfl | rfl | rfl <;> simp
end
theorem pack_len {y k : Int} : [31, lawFirst (y + 1) - lawFirst y - 337, 31, 30, 31, 30, 31, 31, 30, 31, 30, 31].getD (k - 1).toNat 0 + 1 = lawLen y k + 1 := rfl
theorem fwk_eq {y k d : Int} : fwk y k d = 1 + (d - (lawDay y k - 1 + 1 - 2451540)) % 7 := by
  unfold fwk
  omega
theorem with_month {P : Int → Int → Prop} {z d : Int} (h : P z d) : ∃ z d, P z d := ⟨_, _, h⟩
end
end Mine

namespace Mine
section
variable {prog : Program} {w : World} {A₀ A : Around} {s : Shared} {base h₀ : Heap} {env : Env} {L : Addr} {m : Str → Option Value} {news : List (Addr × Obj)} {K : Frag} {p : Program} {loose : List Str} {mean : ExcName → Option Value} {mg mb : Str → Option Value}
    {R : Result → Shared → Prop} {name qual : Str} {params : Arguments} {body : List Stmt} {scope : Scope} {dV kV doc pm cdv ct oc : Value} {an od : Option Addr} {osl : Array (Option Value)} {f : Addr} {args : Args} {binds : List (Str × Value)}

theorem frames_one (hf : env.frame = some L) {b : Addr} (hb : b ∈ [env].filterMap (·.frame)) : b = L := by
  obtain ⟨e, he, hb'⟩ := List.mem_filterMap.mp hb
  rw [List.mem_singleton.mp he, hf] at hb'
  exact (Option.some.inj hb').symm

/-- a def that may catch what flies through it, entered from a frame of any make -/
theorem enter_try (B : Below A₀ base [] h₀) (F : Fr h₀ L s.heap m) (X₀ : K.In h₀) (N : News h₀ L s.heap news) (T : Top p loose mean mg mb h₀) (hA : A.frames = some [env]) (hf : env.frame = some L) (hke : env.scope.kind = .function)
    (ho : K.lookup f = some ⟨oc, od, .func (fnOf name qual params body scope dV kV doc pm an cdv ct), osl⟩) (hcd : codeIn K cdv qual = true) (hroom : A.depth < recursionLimit)
    (hbind : BindsTo s (fnOf name qual params body scope dV kV doc pm an cdv ct) args binds) (hloc : ∀ y ∈ binds, scope.names.lookup y.1 = some .local)
    (h : ∀ g L' h₁, Fr h₀ L g m → Fr g L' h₁ (fun y => binds.reverse.lookup y) → News g L' h₁ news → Below A base [env] g → K.In g → Top p loose mean mg mb g → KtsDicts ([env].filterMap (·.frame)) g →
      wpAny (model prog w) (A.deeper (envOf qual scope L' f cdv)) (execs body (envOf qual scope L' f cdv))
        (fun fl s' => LeaveS0 ([env].filterMap (·.frame)) h₀ L m g R (match fl with | .ret v => v | _ => .none) s')
        (fun e s' => wpAny (model prog w) (A.deeper (envOf qual scope L' f cdv)) (leaving (envOf qual scope L' f cdv) e) (fun _ s'' => R (.error e) s'') (fun e' s'' => R (.error e') s'') s')
        { s with heap := h₁, toks := s.toks + binds.length })
    (hco : scope.isCoroutine = false) (hgen : scope.isGenerator = false) (hk : scope.kind = .function)
    (hcell : ∀ x ∈ scope.names, x.2 ≠ .cell) : codeAny (model prog w) A (.call (.ref f) args) R s := by
  have X := X₀.keeps F.keep
  refine codeAny_call_def (fd := fnOf name qual params body scope dV kV doc pm an cdv ct) (body := body) (binds := binds) hroom (X _ _ ho) rfl (T.nolimit.keeps F.keep) (codeRec_of X hcd) rfl hbind hcell hloc (fun h₁ hns hk₁ => ?_) hco hgen hk
  obtain ⟨FG, BG, st, _⟩ := groundX (R := R) B F N hA hf hke
  obtain ⟨oL, es, ep, hLg, hLd, hLk, hLf⟩ := FG.ns
  have hNs : ∀ (sl : Array (Option Value)) h', h'.get? L = some { oL with slots := sl } → Heap.Ns h' L m := fun sl h' e => ⟨_, es, ep, e, hLd, hLk, hLf⟩
  refine wpAny_mono (h _ s.heap.objs.size h₁ FG ⟨hns, fun b o e => hk₁ b o (of_hideAll _ e), Nat.le_of_eq (hideAll_size _ _)⟩
    (fun p hp => ⟨hk₁ _ _ (N p hp).1, Nat.ne_of_lt (Heap.lt_size (N p hp).1), hideAll_none _ (List.mem_map_of_mem hp)⟩) BG (X₀.keeps st) (T.keeps st) (fun b hb => by
      rw [frames_one hf hb]
      exact ⟨oL, es, ep, hLg, hLd⟩)) (fun fl s' hl => ?_) fun _ _ y => y
  obtain ⟨g', L', m', news', T', F', N', k⟩ := hl
  have nL₀ : h₀.get? L = none := kts_self F
  obtain ⟨sl, hs⟩ := T'.up hLg
  refine k ⟨hNs sl _ (F'.keep _ _ hs), fun b o e => F'.keep b o (T'.other b o (st b o e) (fun q => by
    rw [frames_one hf q, nL₀] at e
    cases e)), F.above⟩ fun p hp => ⟨(N' p hp).1, fun q => ?_, ?_⟩
  · have := (N' p hp).2.2; rw [q, hs] at this; cases this
  · cases q : h₀.get? p.1 with
    | none => rfl
    | some o =>
      obtain ⟨sl', hs'⟩ := T'.up (st _ _ q)
      have := (N' p hp).2.2
      rw [hs'] at this
      cases this
end
end Mine
namespace Mine
theorem small_fin {n : Int} (h1 : -1 ≤ n) (h2 : n ≤ 13) : ∃ k : Fin 15, n = (k.val : Int) - 1 := ⟨⟨(n + 1).toNat, by omega⟩, by show n = (((n + 1).toNat : Nat) : Int) - 1; omega⟩
/-- the text of a small number is short -/
theorem small_text {n : Int} (h1 : -1 ≤ n) (h2 : n ≤ 13) : (PySem.Str.ofString (toString n)).length ≤ 10 := by
  obtain ⟨k, rfl⟩ := small_fin h1 h2
  revert k
  decide +kernel
theorem small_log {n : Int} (h1 : -1 ≤ n) (h2 : n ≤ 13) : n.natAbs.log2 < 1920 := by
  obtain ⟨k, rfl⟩ := small_fin h1 h2
  revert k
  decide +kernel
end Mine
namespace Mine
theorem str_same {prog : Program} {w : World} {A : Around} {E : Value → Shared → Prop} {s : Shared} {x : Str} {t u : Tok} {Q : Value → Shared → Prop} (h : Q (.bool true) s) : wpAny (model prog w) A (compareOp .Eq (.str x t) (.str x u)) Q E s := by
  refine eq_str ?_
  rw [beq_self_eq_true]
  exact h
end Mine

open Mine
local macro_rules | `(tactic| walk_at "eval Subscript") => `(tactic| (k_here; (with_reducible show wpAny _ _ (eval (Expr.Subscript (Expr.ListComp _ _ _ _) _ _) _) _ _ _); k_dflt (refine Mine.first_far (F₀ := by k_asm) (by with_unfolding_all rfl) (by with_unfolding_all rfl) (by decide) (by with_unfolding_all rfl) (by decide) (by with_unfolding_all rfl) (by decide) ?_ (by intro _; with_unfolding_all rfl)); (try k_fold)))
local macro_rules | `(tactic| walk_at "FarPack") => `(tactic| ((refine Mine.FarPack.intro ?_); (rename IsRange _ _ _ _ _ _ _ _ => R'); (rename Fr _ _ _ _ => F'); (rename News _ _ _ _ => N'); (with_unfolding_all refine ⟨_, _, _, _, _, _, _, 7, rfl, R', (by omega), (by decide), (by decide), F', N', ?_⟩); (with_reducible apply with_test); refine ⟨?_, ?_⟩) <;> first
  | (intros; (rename (_ ∈ rangeInts _ _ _) => hm'); (have hb'' := mem_rangeInts hm'); (rename ItemKind.is _ _ _ => i'); (obtain ⟨_, e'⟩ := ItemKind.int_is i'; subst e'); (with_reducible refine wpAny_leafK ?_)) | skip)
local macro_rules | `(tactic| cell_enter) => `(tactic| first
  | (refine' code_def ?k1 ?k2 ?k3 ?k4 ?k5 ?kA ?kF ?kK ?k6 ?k7 ?k8 ?k9 ?kB ?_ ?c2 ?c3 ?c4 ?c5; (case kA => exact rfl); (case kF => exact rfl); (case kK => assumption); (case k1 => k_asm); (case k2 => k_asm); (case k3 => k_asm); (case k4 => k_asm); (case k5 => k_asm); (case k6 => k_is); (case k7 => k_is); (case k8 => ktr_room); (case k9 => exact BindsTo.of_eq rfl); (case c5 => decide); (case kB => exact locs rfl); (case c2 => exact rfl); (case c3 => exact rfl); (case c4 => exact rfl); k_whole; intro g' L' h' FG' F' N' B' X' T'; (try dsimp only); (try k_lift B'); (try k_fold))
  | (refine' code_defC ?k1 ?k2 ?k3 ?k4 ?k5 ?kA ?kF ?kK ?k6 ?k7 ?k8 ?k9 ?kB ?kD ?_ ?c2 ?c3 ?c4; (case kA => exact rfl); (case kF => exact rfl); (case kK => assumption); (case k1 => k_asm); (case k2 => k_asm); (case k3 => k_asm); (case k4 => k_asm); (case k5 => k_asm); (case k6 => k_is); (case k7 => k_is); (case k8 => ktr_room); (case k9 => exact BindsTo.of_eq rfl); (case kB => exact rfl); (case kD => decide +kernel); (case c2 => exact rfl); (case c3 => exact rfl); (case c4 => exact rfl); k_whole; intro g' L' h' tk' cells' FG' F' N' Y' B' X' T' l1; (try k_lt l1); k_cells Y'; (try simp only [List.cons_append, List.nil_append] at N'); (try dsimp only); (try k_lift B'); (try k_fold)))
local macro_rules | `(tactic| walk_at "FarEnd") => `(tactic| ((refine Mine.FarEnd.intro ⟨_, Mine.first_day (by omega) (by omega), ?_⟩); intro t9 h9 tk9 F9 N9))
local macro_rules | `(tactic| walk_at "call ref") => `(tactic| (k_call_by "_law_only" lawOnly (fun (day low high _ : Int) => 0 ≤ day ∧ day < 7 ∧ high = low + 6)))
local macro_rules | `(tactic| walk_at "storeName") => `(tactic| ((with_reducible show wpAny _ _ (storeName _ _ (Value.int (List.getD _ _ _) _)) _ _ _); refine Mine.store_any ?_; intro i9))
local macro_rules | `(tactic| walk_at "storeName") => `(tactic| ((with_reducible show wpAny _ _ (storeName _ _ (Value.int (Int.fmod (List.getD _ _ _) _) _)) _ _ _); refine Mine.store_mod (by decide) ?_; intro i9 i9a i9b))
local macro_rules | `(tactic| walk_at "exec If") => `(tactic| (k_here; (with_reducible show wpAny _ _ (exec (Stmt.If _ [Stmt.Return (some (Expr.Constant (Const.bool false) _ _)) _] [] _) _) _ _ _); (refine' Mine.if_never ?k1 ?k2 ?_ ?_; (case k1 => k_asm); (case k2 => k_asm)) <;> first | (intro h9 tk9 F9 N9; (try k_sweep)) | k_fold))
local macro_rules | `(tactic| walk_at "eval IfExp") => `(tactic| ((with_reducible show wpAny _ _ (eval (Expr.IfExp _ (Expr.BinOp _ _ _ _) (Expr.BinOp _ _ _ _) _) _) _ _ _); (refine Mine.ifexp_small ?_ ?_ <;> first | (intro i9 t9 tk9 i9a i9b) | k_fold)))
local macro_rules | `(tactic| walk_at "Joined") => `(tactic| (refine Mine.Joined.intro ⟨_, _, _, rfl, ?_, rfl⟩; first | exact sm_8 | exact sm_6 | exact sm_9 | exact sm_7 | exact sm_14 | exact sm_12))
local macro_rules | `(tactic| walk_at "Never") => `(tactic| ((refine Never.intro ⟨rfl, _, _, rfl, ?_, ?_⟩) <;> k_asm))
local macro_rules | `(tactic| walk_at "compareOp NotEq int int") => `(tactic| (refine Mine.ne_same ?ar ?_; (case ar => (first | exact day_1 | exact day_back | (simp only [fm7, lawOnly, dayIn]; omega)))))
local macro_rules | `(tactic| walk_at "exec For") => `(tactic| (k_here; (with_reducible show wpAny _ _ (exec (Stmt.For (Expr.Name _ _) (Expr.Subscript _ _ _) [Stmt.AugAssign (Expr.Name _ _) Operator.Add (Expr.Name _ _) _] [] _) _) _ _ _); k_dflt (refine' Mine.for_sum ?F ?h1 ?h2 ?h3 ?h4 ?h5 ?h6 ?h7 ?h8 ?h9 ?_ ?h10 ?h11; (case F => k_asm); (case h1 => with_unfolding_all rfl); (case h2 => exact rfl); (case h3 => exact rfl); (case h4 => decide); (case h5 => exact rfl); (case h6 => exact rfl); (case h7 => decide); (case h8 => decide); (case h9 => exact rfl); (case h10 => (intro _; with_unfolding_all rfl)); (case h11 => passes_own)); (try k_fold)))
local macro_rules | `(tactic| walk_at "subscriptTail Name Slice ref ref") => `(tactic| (k_here; (with_reducible show wpAny _ _ (subscriptTail _ (PySem.Expr.Slice none _ none _) (Value.ref _) (Value.ref _)) _ _ _); k_dflt (refine' Mine.tail_upto ?F ?N ?X ?l ?c ?d ?k1 ?k2 ?_ ?s ?g ?z; (case F => k_asm); (case N => k_asm); (case X => k_asm); (case l => k_is); (case c => exact rfl); (case d => exact rfl); (case k1 => l_idx); (case k2 => l_idx); (case s => with_unfolding_all rfl); (case g => kmk_pure); (case z => exact Nat.le_of_ble_eq_true rfl)); intro h' F' N'; (try k_sweep)))
local macro_rules | `(tactic| walk_at "SumPack") => `(tactic| ((rename Fr _ _ _ _ => F'); (rename News _ _ _ _ => N'); k_dflt (refine ⟨_, _, MONTHS.take _, _, _, rfl, F', N', IntsAre.take ?i _, ?_⟩; (case i => (unfold MONTHS; repeat' constructor))); intro u9 tf9 h9 tk9 F9 N9; (try k_sweep)))
local macro_rules | `(tactic| cb_eq) => `(tactic| ((try dsimp only); exact lawFirst_eq))
local macro_rules | `(tactic| cb_eq) => `(tactic| ((try dsimp only); unfold leap; (simp_all; done)))
local macro_rules | `(tactic| walk_at "call ref") => `(tactic| first | (k_call_by "isleap" leap) | (k_call_by "_law_first" lawFirst))
local macro_rules | `(tactic| walk_at "exec If") => `(tactic| (k_here; (with_reducible show wpAny _ _ (exec (Stmt.If _ [Stmt.AugAssign (Expr.Name _ _) Operator.Add (Expr.Constant (Const.int 1) _ _) _] [] _) _) _ _ _); k_dflt ((refine' Mine.if_leap ?F ?N ?k ?y ?f ?x ?p ?kd ?_ ?_; (case F => k_asm); (case N => k_asm); (case k => exact rfl); (case y => exact rfl); (case f => exact rfl); (case x => exact rfl); (case p => exact rfl); (case kd => exact rfl)) <;> first | (intro t9 h9 tk9 F9 N9; (try k_sweep)) | k_fold)))
local macro_rules | `(tactic| walk_at "eval IfExp") => `(tactic| (k_here; (with_reducible show wpAny _ _ (eval (Expr.IfExp _ (Expr.Constant (Const.int 1) _ _) (Expr.Constant (Const.int 0) _ _) _) _) _ _ _); k_dflt ((refine' Mine.ifexp_leap ?F ?N ?k ?y ?_ ?_; (case F => k_asm); (case N => k_asm); (case k => exact rfl); (case y => exact rfl)) <;> first | (intro t9 h9 tk9 F9 N9; (try k_sweep)) | k_fold)))
local macro_rules | `(tactic| walk_at "exec If") => `(tactic| (k_here; (with_reducible show wpAny _ _ (exec (Stmt.If _ [Stmt.If _ _ _ _] [] _) _) _ _ _); k_dflt ((refine' Mine.if_nth ?F ?N ?n ?f ?d ?_ ?n0 ?n5 ?_; (case F => k_asm); (case N => k_asm); (case n => exact rfl); (case f => exact rfl); (case d => exact rfl); (case n0 => assumption); (case n5 => assumption)) <;> first | (intro v9 t9 h9 tk9 v9a v9b v9c F9 N9; (try k_sweep)) | k_fold)))
local macro_rules | `(tactic| walk_at "Joined") => `(tactic| ((refine Mine.Joined.intro ⟨?e, _, _, rfl, ?F, ?N⟩); (case F => k_asm); (case N => k_asm); (case e => first | exact jn_mar_tt (by assumption) (by assumption) | exact jn_mar_tf (by assumption) (by assumption) | exact jn_mar_no (by assumption) | exact jn_feb_tt (by assumption) (by assumption) | exact jn_feb_tf (by assumption) (by assumption) | exact jn_feb_no (by assumption))))
local macro_rules | `(tactic| walk_at "Joined") => `(tactic| ((refine' Mine.Joined.intro ⟨rfl, _, _, _, rfl, ?F, ?N, ?e⟩); (case F => k_asm); (case N => first | k_asm | (refine' cb_drop ?cbN ?cbS; (case cbN => assumption); (case cbS => kcj_all))); (case e => k_dflt first | exact Or.inl ⟨by assumption, rfl⟩ | exact Or.inr ⟨_, _, nth_five (by assumption) (by assumption), rfl⟩ | exact Or.inr ⟨_, _, nth_four (by assumption) (by assumption), rfl⟩ | exact Or.inr ⟨_, _, nth_far (by assumption) (by assumption) (by assumption) (by assumption), rfl⟩)))
local macro_rules | `(tactic| walk_at "storeName") => `(tactic| ((with_reducible show wpAny _ _ (storeName _ _ (Value.int (Int.fmod _ 7) _)) _ _ _); refine Mine.store_first (by first | assumption | l_fact) (by first | assumption | l_fact) ?_))
local macro_rules | `(tactic| walk_at "storeName") => `(tactic| ((with_reducible show wpAny _ _ (storeName _ _ (Value.int (HAdd.hAdd _ _) _)) _ _ _); k_dflt (refine Mine.store_len (by first | assumption | l_fact) (by first | assumption | l_fact) ?_; intro n9 n9a n9b n9c)))
local macro_rules | `(tactic| walk_at "storeName") => `(tactic| ((with_reducible show wpAny _ _ (storeName _ _ (Value.int (1 + Int.fmod _ 7) _)) _ _ _); (refine Mine.store_fwk ?_; intro f9 f9a f9b f9c)))
local macro_rules | `(tactic| walk_at "storeName") => `(tactic| ((with_reducible show wpAny _ _ (storeName _ _ (Value.int (_ + List.sum _ - 1) _)) _ _ _); (refine Mine.store_number ?_)))
local macro_rules | `(tactic| walk_at "exec Assign cons ListComp") => `(tactic| (k_here; k_dflt (refine Mine.assign_days (by k_asm) (by with_unfolding_all rfl) (by with_unfolding_all rfl) (by with_unfolding_all rfl) (by decide) (by with_unfolding_all rfl) (by decide) (by with_unfolding_all rfl) (by decide) (by with_unfolding_all rfl) (by with_unfolding_all rfl) ?_ (by intro _; with_unfolding_all rfl)); (try k_fold)))
local macro_rules | `(tactic| walk_at "DaysPack") => `(tactic| ((rename IsRange _ _ _ _ _ _ _ _ => R'); (rename Fr _ _ _ _ => F'); (rename News _ _ _ _ => N'); k_dflt (refine ⟨_, _, _, _, _, _, _, rfl, R', pack_len, (len_bounds (by assumption) (by assumption)).1, (len_bounds (by assumption) (by assumption)).2, F', N', ?_⟩); (with_reducible apply with_month); refine ⟨?_, ?_⟩) <;> first
  | (intros; (rename (_ ∈ rangeInts _ _ _) => hm'); (have hb'' := mem_rangeInts hm'); (rename ItemKind.is _ _ _ => i'); (obtain ⟨_, e'⟩ := ItemKind.int_is i'; subst e'); (with_reducible refine wpAny_leafK ?_)) | skip)
local macro_rules | `(tactic| walk_at "DaysEnd") => `(tactic| (k_dflt (refine ⟨by assumption, by assumption, _, fwk_eq, ?_, ?_⟩)))
local macro_rules | `(tactic| walk_at "Four") => `(tactic| (refine Mine.Four.intro ?_; intro D9 t0 t1 t2 t3 c9 h9 tk9 e9 F9 N9))
local macro_rules | `(tactic| walk_at "Five") => `(tactic| (refine Mine.Five.intro ?_; intro D9 t0 t1 t2 t3 t4 c9 h9 tk9 e9 F9 N9))
local macro_rules | `(tactic| walk_at "call builtin:len") => `(tactic| (k_here; (with_reducible show wpAny _ _ (call (Value.builtin "len") [Value.ref _]) _ _ _); k_dflt (first
  | (refine' Mine.len_news (k := 4) ?N ?m ?k (by decide) ?_; (case N => k_asm); (case m => k_mem); (case k => exact rfl))
  | (refine' Mine.len_news (k := 5) ?N ?m ?k (by decide) ?_; (case N => k_asm); (case m => k_mem); (case k => exact rfl)))))
local macro_rules | `(tactic| walk_at "compareOp Eq ref ref") => `(tactic| (k_here; (with_reducible show wpAny _ _ (compareOp CmpOp.Eq (Value.ref _) (Value.ref _)) _ _ _); k_dflt (refine' Mine.told_same ?N ?a ?b ?e ?u ?_; (case N => k_asm); (case a => k_mem); (case b => k_mem); (case e => first | exact at_last5 (by assumption) (by assumption) (by assumption) (by assumption) (by assumption) | exact at_last4 (by assumption) (by assumption) (by assumption) (by assumption) (by assumption) | exact at_place5 (by assumption) (by assumption) (by assumption) (by assumption) (by assumption) | exact at_place4 (by assumption) (by assumption) (by assumption) (by assumption) (by assumption) (by assumption) (by assumption) (by assumption)); (case u => ke_room))))
local macro_rules | `(tactic| kc_close) => `(tactic| (kc_bool; (with_reducible show GoodW _ _ _ _ _ (.ok (.ret (.bool true))) _); (refine goodW_bool (by with_reducible assumption) (by with_reducible assumption) (raisesW_false ?_) ?_); (· wrow_none_raised); (· (refine postW_of (by wrow_shape) (w_eq_bool (w_res rfl) w_lit) ?_; exact rfl))))
local macro_rules | `(tactic| walk_at "call ref") => `(tactic| (k_here; kts_any; k_dflt (refine wpAny_call ?_; refine' Mine.enter_try ?k1 ?k2 ?k3 ?k4 ?k5 ?kA ?kF ?kK ?k6 ?k7 ?k8 ?k9 ?kB ?_ ?c2 ?c3 ?c4 ?c5; (case kA => exact rfl); (case kF => exact rfl); (case kK => exact rfl); (case k2 => k_asm); (case k1 => k_asm); (case k3 => k_asm); (case k4 => k_asm); (case k5 => k_asm); (case k6 => k_is); (case k7 => k_is); (case k8 => k_room); (case k9 => exact BindsTo.of_eq rfl); (case kB => exact locs rfl); (case c2 => exact rfl); (case c3 => exact rfl); (case c4 => exact rfl); (case c5 => decide); k_whole; intro g' L' h' FG' F' N' B' X' T' D'; (try dsimp only); (try k_lift B'); (try k_fold))))
local macro_rules | `(tactic| kfm_len) => `(tactic| k_dflt exact Mine.small_text (by assumption) (by assumption))
local macro_rules | `(tactic| kfm_hd) => `(tactic| k_dflt exact Mine.small_log (by assumption) (by assumption))
local macro_rules | `(tactic| walk_at "compareOp Eq str str") => `(tactic| ((with_unfolding_all refine Mine.str_same ?_)))

set_option maxRecDepth 100000 in
set_option maxHeartbeats 0 in
theorem PySem.Challenge.cw_jb0003_01_holds : PySem.Challenge.rw_jb0003_01.Holds := by
  open_k
