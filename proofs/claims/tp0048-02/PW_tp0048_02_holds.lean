import PyProof.Rows.All
import Wide.All
import OpenK.AllK
import Wide.FinOn
import Lean
import PySem.Challenge.RW_tp0048_02
open PySem PySem.W PyProof.Rows
set_option Elab.async false
set_option maxRecDepth 100000
set_option maxHeartbeats 0
set_option linter.unusedVariables false
set_option linter.unusedSimpArgs false
namespace Mine

abbrev fr0 : List Frame := [topFrame ⟨0, 0, 0, 0⟩]

/-- from a tree x at s the run comes, in at most N steps, to the value a at s' (whatever stands behind x) -/
def Go (pw : Program) (w : World) (c : Code) {α : Type} (x : Sem α) (s : Shared) (N : Nat) (a : α) (s' : Shared) : Prop :=
  ∀ (K : α → Sem Fin) (H : Value → Sem Fin) (gd : Bool → Bool) (lv : List Value → List Value) (pos : Pos), ∃ n pos', n ≤ N ∧
    segGo treeTable pw w 11 (some (.ref 6)) 1 n s ⟨x.wrap K H gd lv, c, pos, fr0⟩ = some (s', ⟨K a, c, pos', fr0⟩)

section
variable {pw : Program} {w : World} {c : Code} {α β : Type} {s s₁ s₂ : Shared} {N M : Nat}

theorem segGo_add {t₁ t₂ : Thread} : ∀ {n m : Nat} {s : Shared} {t : Thread}, segGo treeTable pw w 11 (some (.ref 6)) 1 n s t = some (s₁, t₁) → segGo treeTable pw w 11 (some (.ref 6)) 1 m s₁ t₁ = some (s₂, t₂) →
    segGo treeTable pw w 11 (some (.ref 6)) 1 (n + m) s t = some (s₂, t₂)
  | 0, m, s, t, h, k => by
    simp only [segGo, Option.some.injEq, Prod.mk.injEq] at h
    obtain ⟨rfl, rfl⟩ := h
    rw [Nat.zero_add]; exact k
  | n + 1, m, s, t, h, k => by
    rw [show n + 1 + m = (n + m) + 1 by omega]
    unfold segGo at h ⊢
    cases he : endAt 1 t with
    | some f => rw [he] at h; cases h
    | none =>
      rw [he] at h
      cases hk : stepOk 11 (some (.ref 6)) t with
      | false => rw [hk] at h; cases h
      | true =>
        rw [hk] at h
        cases hs : step (denote treeTable) pw w s t with
        | halt o q => rw [hs] at h; cases h
        | go q r =>
          rw [hs] at h
          exact segGo_add h k

theorem Go.pure (a : α) : Go pw w c (pure a) s 0 a s := fun K H gd lv pos => ⟨0, pos, Nat.le_refl _, rfl⟩
theorem Go.le {x : Sem α} {a : α} (h : Go pw w c x s N a s₁) (l : N ≤ M) : Go pw w c x s M a s₁ := fun K H gd lv pos =>
  let ⟨n, p, h1, h2⟩ := h K H gd lv pos; ⟨n, p, Nat.le_trans h1 l, h2⟩
theorem Go.bind {x : Sem α} {f : α → Sem β} {a : α} {b : β} (h : Go pw w c x s N a s₁) (k : Go pw w c (f a) s₁ M b s₂) : Go pw w c (x >>= f) s (N + M) b s₂ := fun K H gd lv pos => by
  obtain ⟨n, p, h1, h2⟩ := h (fun a => (f a).wrap K H gd lv) H gd lv pos
  obtain ⟨m, q, h3, h4⟩ := k K H gd lv p
  refine ⟨n + m, q, Nat.add_le_add h1 h3, ?_⟩
  have e : Sem.wrap K H gd lv (x >>= f) = Sem.wrap (fun a => Sem.wrap K H gd lv (f a)) H gd lv x := by
    rw [Sem.bind_eq_wrap', Sem.wrap_wrap]
    rfl
  rw [e]
  exact segGo_add h2 h4
theorem Go.map {x : Sem α} {f : α → β} {a : α} (h : Go pw w c x s N a s₁) : Go pw w c (f <$> x) s N (f a) s₁ := by
  have e : (f <$> x) = x >>= fun a => Pure.pure (f a) := rfl
  rw [e]
  exact Go.le (Go.bind h (Go.pure _)) (Nat.le_refl _)
theorem Go.onRaise {x : Sem α} {h : Value → Sem Unit} {a : α} (k : Go pw w c x s N a s₁) : Go pw w c (x.onRaise h) s N a s₁ := fun K H gd lv pos => by
  rw [Sem.onRaise_eq_wrap, Sem.wrap_wrap]
  exact k _ _ _ _ pos
theorem Go.keep {x : Sem α} {vs : List Value} {a : α} (k : Go pw w c x s N a s₁) : Go pw w c (x.keep vs) s N a s₁ := fun K H gd lv pos => by
  rw [Sem.keep_eq_wrap, Sem.wrap_wrap]
  exact k _ _ _ _ pos
theorem Go.holding {x : Sem α} {vs : List Value} {a : α} (k : Go pw w c x s N a s₁) : Go pw w c (holding vs x) s N a s₁ := by
  unfold PySem.holding
  split
  · exact k
  · exact Go.keep k
theorem Go.load {a : Addr} {o : Obj} (h : s.heap.get? a = some o) : Go pw w c (load a) s 1 o s := fun K H gd lv pos => ⟨1, pos, Nat.le_refl _, by
  show (match step (denote treeTable) pw w s ⟨.load a none fun x => K x, c, pos, fr0⟩ with | .go s' t' => some (s', t') | .halt _ _ => none) = _
  simp only [step, h]⟩
theorem Go.loadPart {a : Addr} {p : Option Value} {o : Obj} (h : s.heap.get? a = some o) : Go pw w c (loadPart a p) s 1 o s := fun K H gd lv pos => ⟨1, pos, Nat.le_refl _, by
  show (match step (denote treeTable) pw w s ⟨.load a p fun x => K x, c, pos, fr0⟩ with | .go s' t' => some (s', t') | .halt _ _ => none) = _
  simp only [step, h]⟩
theorem Go.updatePart {a : Addr} {p : Option Value} {f : Obj → Obj} {o : Obj} (h : s.heap.get? a = some o) (l : 11 ≤ a) : Go pw w c (updatePart a p f) s 1 () { s with heap := s.heap.update a f } := fun K H gd lv pos => ⟨1, pos, Nat.le_refl _, by
  have ok : stepOk 11 (some (.ref 6)) ⟨.update a p f fun x => K x, c, pos, fr0⟩ = true := by
    have : Nat.ble 11 a = true := Nat.ble_eq_true_of_le l
    show (true && (Nat.ble 11 a || a == mainNs || a == cStatics || (some (Value.ref 6)) == some (.ref a))) = true
    rw [this]; rfl
  show (match stepOk 11 (some (.ref 6)) ⟨.update a p f fun x => K x, c, pos, fr0⟩ with
    | false => none
    | true => match step (denote treeTable) pw w s ⟨.update a p f fun x => K x, c, pos, fr0⟩ with | .go s' t' => some (s', t') | .halt _ _ => none) = _
  rw [ok]
  simp only [step, h, Option.isSome_some, if_true]⟩
theorem Go.alloc {o : Obj} : Go pw w c (alloc o) s 1 s.heap.objs.size { s with heap := s.heap.push o } := fun K H gd lv pos => ⟨1, pos, Nat.le_refl _, rfl⟩
theorem Go.fresh : Go pw w c fresh s 1 s.toks { s with toks := s.toks + 1 } := fun K H gd lv pos => ⟨1, pos, Nat.le_refl _, rfl⟩
theorem Go.rule (t : String) : Go pw w c (rule t) s 1 () s := fun K H gd lv pos => ⟨1, pos, Nat.le_refl _, rfl⟩
theorem Go.standAt (p : Pos) : Go pw w c (standAt p) s 1 () s := fun K H gd lv pos => ⟨1, p, Nat.le_refl _, rfl⟩
theorem Go.mkInt (i : Int) : Go pw w c (mkInt i) s 1 (.int i s.toks) { s with toks := s.toks + 1 } := fun K H gd lv pos => ⟨1, pos, Nat.le_refl _, rfl⟩
theorem Go.mkText (x : Str) : Go pw w c (mkText x) s 1 (.str x s.toks) { s with toks := s.toks + 1 } := fun K H gd lv pos => ⟨1, pos, Nat.le_refl _, rfl⟩
end
end Mine
namespace Mine
section
variable {pw : Program} {w : World} {c : Code} {α β : Type} {s s₁ s₂ : Shared} {N M : Nat}

def hashOf (x : Int) : Int :=
  let h : Int := ((x.natAbs % (2 ^ 61 - 1 : Nat) : Nat) : Int)
  let h := if x < 0 then -h else h
  (if h == -1 then -2 else h)

theorem hashOf_small {x : Int} (h0 : 0 ≤ x) (h1 : x < 2000000) : hashOf x = x := by
  obtain ⟨n, rfl⟩ := Int.eq_ofNat_of_zero_le h0
  have hn : n < 2000000 := by omega
  unfold hashOf
  have e : (n : Int).natAbs % (2 ^ 61 - 1 : Nat) = n := by
    rw [Int.natAbs_natCast]
    exact Nat.mod_eq_of_lt (Nat.lt_of_lt_of_le hn (by decide))
  rw [e]
  dsimp only
  rw [if_neg (show ¬ ((n : Int) < 0) by omega)]
  have : ((n : Int) == -1) = false := by rw [beq_eq_false_iff_ne]; omega
  rw [this]; rfl

theorem Go.callHash (x : Int) (t : Tok) (X : Sem Value) : Go pw w c (callSpecialIfBoundUnlessNone? (.int x t) "__hash__" X) s 5 (some (.int (hashOf x) s.toks)) { s with toks := s.toks + 1 } := fun K H gd lv pos => ⟨5, pos, Nat.le_refl _, by
  refine byRow2 "special-get-raises" (P := fun w => segGo treeTable pw w 11 (some (.ref 6)) 1 5 s ⟨Sem.wrap K H gd lv (callSpecialIfBoundUnlessNone? (.int x t) "__hash__" X), c, pos, fr0⟩ = some ({ s with toks := s.toks + 1 }, ⟨K (some (.int (hashOf x) s.toks)), c, pos, fr0⟩)) (fun w => ?_) (fun w => ?_) w
  · rw [PySem.W.Fast.te3277212676724774461, PySem.W.Fast.te14364793385576792824, PySem.W.Fast.te16697807410369149715]; kernel_rfl
  · rw [PySem.W.Fast.te3277212676724774461, PySem.W.Fast.te14364793385576792824, PySem.W.Fast.te16697807410369149715]; kernel_rfl⟩

theorem special_hash (x : Int) (t : Tok) : specialOf (.int x t) "__hash__" = pure (some (.builtin "int.__hash__")) := by
  rw [PySem.W.Fast.te4214721358667687652]; kernel_rfl
theorem Go.pyHash (x : Int) (t : Tok) (h0 : 0 ≤ x) (h1 : x < 2000000) : Go pw w c (pyHash (.int x t)) s 5 x { s with toks := s.toks + 1 } := by
  show Go pw w c (pyHashByItsType (.int x t)) s 5 x _
  unfold pyHashByItsType
  refine Go.le (Go.bind (Go.pure ()) (N := 0) (M := 5) ?_) (by omega)
  rw [special_hash]
  refine Go.le (Go.bind (Go.pure _) (N := 0) (M := 5) ?_) (by omega)
  refine Go.le (Go.bind (Go.pure _) (N := 0) (M := 5) ?_) (by omega)
  refine Go.le (Go.bind (Go.callHash x t _) (N := 5) (M := 0) ?_) (by omega)
  rw [hashOf_small h0 h1]
  show Go pw w c (pyHashByItsType.reduced x) _ 0 x _
  unfold pyHashByItsType.reduced
  have e1 : (decide (-(2 ^ 63 : Int) ≤ x) && decide (x < 2 ^ 63)) = true := by
    rw [Bool.and_eq_true, decide_eq_true_eq, decide_eq_true_eq]; constructor <;> omega
  have e2 : (x == -1) = false := by rw [beq_eq_false_iff_ne]; omega
  rw [if_pos e1, e2]
  exact Go.pure x
end
end Mine
namespace Mine

abbrev HS (base : List Obj) (life : Life) (l : List Obj) : Heap := ⟨(base ++ l).toArray, life⟩
abbrev dO (es : List DictEntry) (n : Nat) : Obj := ⟨.type "dict", none, .dict es.toArray n, #[]⟩
section
variable {base l : List Obj} {life : Life} {i d : Nat} {es : List DictEntry} {n : Nat}
theorem hs_get (h : l[i]? = some (dO es n)) : (HS base life l).get? (base.length + i) = some (dO es n) := by
  have e : (base ++ l).toArray[base.length + i]? = some (dO es n) := by
    rw [List.getElem?_toArray, List.getElem?_append_right (Nat.le_add_right _ _), Nat.add_sub_cancel_left]; exact h
  show (match (base ++ l).toArray[base.length + i]? with | some ⟨_, _, .freed, _⟩ => none | o => o) = _
  rw [e]
theorem hs_update (f : Obj → Obj) {o : Obj} (h : l[i]? = some o) : (HS base life l).update (base.length + i) f = HS base life (l.set i (f o)) := by
  show Heap.mk ((base ++ l).toArray.modify (base.length + i) f) life = _
  congr 1
  apply Array.ext_getElem?
  intro k
  have hi : i < l.length := (List.getElem?_eq_some_iff.mp h).1
  rw [Array.getElem?_modify, List.getElem?_toArray, List.getElem?_toArray]
  by_cases hk : k < base.length
  · rw [if_neg (by omega), List.getElem?_append_left hk, List.getElem?_append_left hk]
  · rw [List.getElem?_append_right (by omega), List.getElem?_append_right (by omega), List.getElem?_set]
    by_cases e : base.length + i = k
    · subst e
      rw [Nat.add_sub_cancel_left, if_pos rfl, if_pos rfl, if_pos hi, h]; rfl
    · rw [if_neg e, if_neg (by omega)]
theorem hs_push (o : Obj) : (HS base life l).push o = HS base life (l ++ [o]) := by
  show Heap.mk ((base ++ l).toArray.push o) life = _
  rw [List.push_toArray, List.append_assoc]
theorem hs_size : (HS base life l).objs.size = base.length + l.length := by
  show (base ++ l).toArray.size = _
  rw [List.size_toArray, List.length_append]

theorem no_places {h : Int} (lt : ∀ e ∈ es, e.hash < h) : placesWithHash es.toArray.size (fun i => es.toArray[i]?.map (·.hash)) h = [] := by
  unfold placesWithHash
  rw [List.filter_eq_nil_iff]
  intro i _ q
  rw [beq_iff_eq] at q
  dsimp only at q
  rw [List.getElem?_toArray] at q
  obtain ⟨e, h1, h2⟩ := Option.map_eq_some_iff.mp q
  have := lt e (List.mem_of_getElem? h1)
  omega
end
section
variable {pw : Program} {w : World} {c : Code} {s : Shared} {base l : List Obj} {life : Life} {i : Nat} {es : List DictEntry} {n : Nat}

theorem Go.dictEntries {a : Addr} {p : Option Value} (h : s.heap.get? a = some (dO es n)) : Go pw w c (dictEntries a p) s 1 es.toArray s := by
  unfold PySem.dictEntries
  exact Go.le (Go.bind (Go.loadPart h) (Go.pure _)) (Nat.le_refl _)
theorem Go.dictEpoch {a : Addr} {p : Option Value} (h : s.heap.get? a = some (dO es n)) : Go pw w c (dictEpoch a p) s 1 n s := by
  unfold PySem.dictEpoch
  exact Go.le (Go.bind (Go.loadPart h) (Go.pure _)) (Nat.le_refl _)
theorem Go.dictFind {a : Addr} {k h : Int} {t : Tok} (g : s.heap.get? a = some (dO es n)) (lt : ∀ e ∈ es, e.hash < h) : Go pw w c (dictFind a (.int k t) h) s 1 none s := by
  unfold PySem.dictFind
  refine Go.holding ?_
  refine Go.le (Go.bind (Go.dictEntries g) (M := 0) ?_) (by omega)
  show Go pw w c (do
    let places := placesWithHash es.toArray.size (fun i => es.toArray[i]?.map (·.hash)) h
    _) s 0 none s
  dsimp only
  rw [no_places lt]
  exact Go.pure none
theorem Go.updateDictKeys {p : Option Value} {e : DictEntry} (hs : s.heap = HS base life l) (g : l[i]? = some (dO es n)) (hn : 11 ≤ base.length) (sz : es.length < 1000000) :
    Go pw w c (updateDictKeys (base.length + i) (·.push e) p) s 3 () { s with heap := HS base life (l.set i (dO (es ++ [e]) (n + 1))) } := by
  have g0 : s.heap.get? (base.length + i) = some (dO es n) := by rw [hs]; exact hs_get g
  unfold PySem.updateDictKeys
  refine Go.le (Go.bind (Go.loadPart g0) (M := 2) ?_) (by omega)
  dsimp only
  refine Go.le (Go.bind (Go.updatePart g0 (Nat.le_trans hn (Nat.le_add_right _ _))) (M := 1) ?_) (by omega)
  have e1 : s.heap.update (base.length + i) (Obj.mapDictKeys (·.push e)) = HS base life (l.set i (dO (es ++ [e]) (n + 1))) := by
    rw [hs, hs_update _ g]
    show HS base life (l.set i ⟨.type "dict", none, .dict (es.toArray.push e) (n + 1), #[]⟩) = _
    rw [List.push_toArray]
  rw [e1]
  unfold PySem.lookBehind
  have hi : i < l.length := (List.getElem?_eq_some_iff.mp g).1
  refine Go.le (Go.bind (Go.loadPart (o := dO (es ++ [e]) (n + 1)) (hs_get (by rw [List.getElem?_set, if_pos rfl, if_pos hi]))) (M := 0) ?_) (by omega)
  have e2 : (dO (es ++ [e]) (n + 1)).data.pastItsLine = none := by
    show (if (es ++ [e]).toArray.size > sizeLine + 1 then some "dict:memory" else none) = none
    rw [if_neg]
    rw [List.size_toArray, List.length_append]
    have : sizeLine = 16777216 := rfl
    rw [this]
    simp only [List.length_cons, List.length_nil]
    omega
  rw [e2]
  exact Go.pure ()
theorem Go.dictSet {k : Int} {t : Tok} {v : Value} (hs : s.heap = HS base life l) (g : l[i]? = some (dO es n)) (hn : 11 ≤ base.length) (sz : es.length < 1000000) (h0 : 0 ≤ k) (h1 : k < 2000000) (lt : ∀ e ∈ es, e.hash < k) :
    Go pw w c (dictSet (base.length + i) (.int k t) v) s 10 () { s with heap := HS base life (l.set i (dO (es ++ [⟨k, .int k t, v⟩]) (n + 1))), toks := s.toks + 1 } := by
  unfold PySem.dictSet
  refine Go.holding ?_
  refine Go.le (Go.bind (Go.pyHash k t h0 h1) (M := 5) ?_) (by omega)
  unfold PySem.dictSetHashed
  refine Go.holding ?_
  have g0 : s.heap.get? (base.length + i) = some (dO es n) := by rw [hs]; exact hs_get g
  refine Go.le (Go.bind (Go.dictFind (s := { s with toks := s.toks + 1 }) g0 lt) (M := 4) ?_) (by omega)
  dsimp only
  refine Go.le (Go.bind (Go.rule _) (M := 3) ?_) (by omega)
  exact Go.updateDictKeys (s := { s with toks := s.toks + 1 }) hs g hn sz
theorem Go.dictPut {k : Int} {t : Tok} {v : Value} (hs : s.heap = HS base life l) (g : l[i]? = some (dO es n)) (hn : 11 ≤ base.length) (sz : es.length < 1000000) (lt : ∀ e ∈ es, e.hash < k) :
    Go pw w c (dictPut (base.length + i) k (.int k t) v) s 4 () { s with heap := HS base life (l.set i (dO (es ++ [⟨k, .int k t, v⟩]) (n + 1))) } := by
  unfold PySem.dictPut
  have g0 : s.heap.get? (base.length + i) = some (dO es n) := by rw [hs]; exact hs_get g
  refine Go.le (Go.bind (Go.dictFind g0 lt) (M := 3) ?_) (by omega)
  exact Go.updateDictKeys hs g hn sz
end
end Mine
namespace Mine
section
variable {pw : Program} {w : World} {c : Code}

theorem Go.forIn {γ β : Type} {N : Nat} (f : γ → β → Sem (ForInStep β)) : ∀ (xs : List γ) (acc : Nat → β) (S : Nat → Shared),
    (∀ i x, xs[i]? = some x → Go pw w c (f x (acc i)) (S i) N (.yield (acc (i + 1))) (S (i + 1))) → Go pw w c (forIn xs (acc 0) f) (S 0) (N * xs.length) (acc xs.length) (S xs.length)
  | [], acc, S, h => Go.pure _
  | x :: xs, acc, S, h => by
    rw [List.forIn_cons]
    refine Go.le (Go.bind (h 0 x rfl) (M := N * xs.length) ?_) (by rw [List.length_cons, Nat.mul_add]; omega)
    exact Go.forIn f xs (fun i => acc (i + 1)) (fun i => S (i + 1)) fun i y e => h (i + 1) y e

def entsBy (m : Nat) : Nat → List (Int × Str) → List DictEntry
  | _, [] => []
  | T, (k, v) :: r => ⟨k, .int k T, .str v (T + 1)⟩ :: entsBy m (T + m) r
theorem entsBy_take (m : Nat) : ∀ (T : Nat) (kvs : List (Int × Str)) (j : Nat) (x : Int × Str), kvs[j]? = some x →
    entsBy m T (kvs.take (j + 1)) = entsBy m T (kvs.take j) ++ [⟨x.1, .int x.1 (T + m * j), .str x.2 (T + m * j + 1)⟩]
  | T, [], j, x, h => by simp at h
  | T, (k, v) :: r, 0, x, h => by
    obtain rfl : (k, v) = x := by simpa using h
    simp [entsBy]
  | T, (k, v) :: r, j + 1, x, h => by
    have h' : r[j]? = some x := by simpa using h
    rw [List.take_succ_cons, List.take_succ_cons, entsBy, entsBy, entsBy_take m (T + m) r j x h', List.cons_append]
    rw [show T + m + m * j = T + m * (j + 1) by rw [Nat.mul_succ]; omega]
theorem entsBy_hash {m : Nat} : ∀ {T : Nat} {kvs : List (Int × Str)} {e : DictEntry}, e ∈ entsBy m T kvs → ∃ x ∈ kvs, e.hash = x.1
  | T, [], e, h => by cases h
  | T, (k, v) :: r, e, h => by
    rcases List.mem_cons.mp h with rfl | h
    · exact ⟨(k, v), List.mem_cons_self, rfl⟩
    · obtain ⟨x, hx, q⟩ := entsBy_hash h
      exact ⟨x, List.mem_cons_of_mem _ hx, q⟩
theorem entsBy_length (m : Nat) : ∀ (T : Nat) (kvs : List (Int × Str)), (entsBy m T kvs).length = kvs.length
  | T, [] => rfl
  | T, (k, v) :: r => by rw [entsBy, List.length_cons, List.length_cons, entsBy_length m (T + m) r]

/-- rising keys in reach -/
def Rising (kvs : List (Int × Str)) : Prop := ∀ (i j : Nat) (x y : Int × Str), kvs[i]? = some x → kvs[j]? = some y → i < j → x.1 < y.1
def KeysOk (kvs : List (Int × Str)) : Prop := ∀ x ∈ kvs, 0 ≤ x.1 ∧ x.1 < 2000000

theorem take_lt {kvs : List (Int × Str)} (R : Rising kvs) {m T j : Nat} {x : Int × Str} (hx : kvs[j]? = some x) : ∀ e ∈ entsBy m T (kvs.take j), e.hash < x.1 := fun e he => by
  obtain ⟨y, hy, q⟩ := entsBy_hash he
  obtain ⟨i, hi⟩ := List.mem_iff_getElem?.mp hy
  rw [List.getElem?_take] at hi
  split at hi
  · rename_i lt
    rw [q]
    exact R i j y x hi hx lt
  · cases hi

def pairOf (p : Pos) (x : Int × Str) : Sem Value × Sem Value := (mkInt x.1, do let v ← mkText x.2; standAt p; pure v)

section
variable {s : Shared} {base l : List Obj} {life : Life} {i : Nat} {es : List DictEntry} {n : Nat}
theorem sub_subtype : isSubtype (.type "dict") (.type "dict") = pure true := by rw [PySem.W.Fast.te16098473122060591676]; kernel_rfl
theorem dict_iter : typeLookup (.type "dict") "__iter__" = pure (some (.builtin "dict.__iter__")) := by rw [PySem.W.Fast.te1381439984260040727]; kernel_rfl

theorem Go.subLong {p : Pos} {kvs : List (Int × Str)} (hs : s.heap = HS base life l) (hn : 11 ≤ base.length) (R : Rising kvs) (K : KeysOk kvs) (len : 15 < kvs.length) (sz : kvs.length < 1000000) :
    Go pw w c (subDict (kvs.map (pairOf p))) s (16 * kvs.length + 2) (base.length + l.length) { s with heap := HS base life (l ++ [dO (entsBy 3 s.toks kvs) kvs.length]), toks := s.toks + 3 * kvs.length } := by
  unfold subDict
  refine Go.le (Go.bind Go.alloc (M := 16 * kvs.length + 1) ?_) (by omega)
  rw [show s.heap.objs.size = base.length + l.length by rw [hs, hs_size], show s.heap.push _ = HS base life (l ++ [dO [] 0]) by rw [hs, hs_push]]
  refine Go.le (Go.bind (a := ()) (N := 16 * kvs.length + 1) (Go.holding ?_) (M := 0) (Go.pure _)) (Nat.le_refl _)
  rw [if_neg (by rw [List.length_map]; omega)]
  refine Go.le (Go.bind (Go.rule _) (M := 16 * kvs.length) ?_) (by omega)
  have key := Go.forIn (pw := pw) (w := w) (c := c) (N := 16) (fun (x : Sem Value × Sem Value) (r : PUnit) => do
      let kv ← x.1
      let vv ← PySem.holding [kv] x.2
      PySem.holding [kv, vv] (PySem.dictSet (base.length + l.length) kv vv)
      Pure.pure (ForInStep.yield PUnit.unit)) (kvs.map (pairOf p)) (fun _ => PUnit.unit)
    (fun j => { s with heap := HS base life (l ++ [dO (entsBy 3 s.toks (kvs.take j)) j]), toks := s.toks + 3 * j }) (fun j x hx => by
      rw [List.getElem?_map] at hx
      obtain ⟨kv, hkv, rfl⟩ := Option.map_eq_some_iff.mp hx
      have hlt : j < kvs.length := (List.getElem?_eq_some_iff.mp hkv).1
      refine Go.le (Go.bind (Go.mkInt kv.1) (M := 12) ?_) (by omega)
      refine Go.le (Go.bind (Go.holding (Go.bind (Go.mkText kv.2) (Go.bind (Go.standAt p) (Go.pure _)))) (M := 10) ?_) (by omega)
      have kk := K kv (List.mem_of_getElem? hkv)
      have gi : (l ++ [dO (entsBy 3 s.toks (kvs.take j)) j])[l.length]? = some (dO (entsBy 3 s.toks (kvs.take j)) j) := by
        rw [List.getElem?_append_right (Nat.le_refl _), Nat.sub_self]; rfl
      refine Go.le (Go.bind (Go.holding (Go.dictSet (base := base) (life := life) (i := l.length) rfl gi hn (by rw [entsBy_length, List.length_take]; omega) kk.1 kk.2 (take_lt R hkv))) (M := 0) ?_) (by omega)
      have e1 : (l ++ [dO (entsBy 3 s.toks (kvs.take j)) j]).set l.length (dO (entsBy 3 s.toks (kvs.take j) ++ [⟨kv.1, .int kv.1 (s.toks + 3 * j), .str kv.2 (s.toks + 3 * j + 1)⟩]) (j + 1)) =
          l ++ [dO (entsBy 3 s.toks (kvs.take (j + 1))) (j + 1)] := by
        rw [List.set_append_right _ _ (Nat.le_refl _), Nat.sub_self, entsBy_take 3 s.toks kvs j kv hkv]; rfl
      dsimp only
      rw [e1, show s.toks + 3 * (j + 1) = s.toks + 3 * j + 1 + 1 + 1 by omega]
      exact Go.pure _)
  rw [List.length_map, List.take_length] at key
  exact Go.le (Go.bind (a := PUnit.unit) key (M := 0) (Go.pure _)) (Nat.le_refl _)
end
end
end Mine
namespace Mine
section
variable {pw : Program} {w : World} {c : Code}

def valsBy : Nat → List (Int × Str) → List (Value × Value)
  | _, [] => []
  | T, (k, v) :: r => (.int k T, .str v (T + 1)) :: valsBy (T + 2) r
theorem valsBy_get : ∀ (T : Nat) (kvs : List (Int × Str)) (j : Nat) (x : Int × Str), kvs[j]? = some x → (valsBy T kvs)[j]? = some (.int x.1 (T + 2 * j), .str x.2 (T + 2 * j + 1))
  | T, [], j, x, h => by simp at h
  | T, (k, v) :: r, 0, x, h => by
    obtain rfl : (k, v) = x := by simpa using h
    rfl
  | T, (k, v) :: r, j + 1, x, h => by
    have h' : r[j]? = some x := by simpa using h
    rw [valsBy, List.getElem?_cons_succ, valsBy_get (T + 2) r j x h', show T + 2 + 2 * j = T + 2 * (j + 1) by rw [Nat.mul_succ]; omega]
theorem valsBy_length : ∀ (T : Nat) (kvs : List (Int × Str)), (valsBy T kvs).length = kvs.length
  | T, [] => rfl
  | T, (k, v) :: r => by rw [valsBy, List.length_cons, List.length_cons, valsBy_length (T + 2) r]
theorem Go.evalPairs (p : Pos) : ∀ (kvs : List (Int × Str)) (s : Shared), Go pw w c (evalPairs (kvs.map (pairOf p))) s (3 * kvs.length) (valsBy s.toks kvs) { s with toks := s.toks + 2 * kvs.length }
  | [], s => Go.pure _
  | (k, v) :: r, s => by
    show Go pw w c (do
      let kv ← PySem.mkInt k
      let vv ← PySem.holding [kv] (do let x ← PySem.mkText v; PySem.standAt p; Pure.pure x)
      return (kv, vv) :: (← PySem.holding [kv, vv] (PySem.evalPairs (r.map (pairOf p))))) s _ _ _
    refine Go.le (Go.bind (Go.mkInt k) (M := 3 * r.length + 2) ?_) (by rw [List.length_cons]; omega)
    refine Go.le (Go.bind (Go.holding (Go.bind (Go.mkText v) (Go.bind (Go.standAt p) (Go.pure _)))) (M := 3 * r.length) ?_) (by omega)
    have := Go.evalPairs p r { s with toks := s.toks + 1 + 1 }
    refine Go.le (Go.bind (Go.holding this) (M := 0) ?_) (Nat.le_refl _)
    dsimp only
    rw [show s.toks + 2 * ((k, v) :: r).length = s.toks + 1 + 1 + 2 * r.length by rw [List.length_cons]; omega]
    exact Go.pure _

section
variable {s : Shared} {base l : List Obj} {life : Life} {i : Nat} {es : List DictEntry} {n : Nat}
theorem Go.subShort {p : Pos} {kvs : List (Int × Str)} (hs : s.heap = HS base life l) (hn : 11 ≤ base.length) (R : Rising kvs) (K : KeysOk kvs) (len : kvs.length ≤ 15) :
    Go pw w c (subDict (kvs.map (pairOf p))) s (13 * kvs.length + 2) (base.length + l.length) { s with heap := HS base life (l ++ [dO (entsBy 2 s.toks kvs) kvs.length]), toks := s.toks + 3 * kvs.length } := by
  unfold subDict
  refine Go.le (Go.bind Go.alloc (M := 13 * kvs.length + 1) ?_) (by omega)
  rw [show s.heap.objs.size = base.length + l.length by rw [hs, hs_size], show s.heap.push _ = HS base life (l ++ [dO [] 0]) by rw [hs, hs_push]]
  refine Go.le (Go.bind (a := ()) (N := 13 * kvs.length + 1) (Go.holding ?_) (M := 0) (Go.pure _)) (Nat.le_refl _)
  rw [if_pos (by rw [List.length_map]; omega)]
  refine Go.le (Go.bind (Go.evalPairs p kvs _) (M := 10 * kvs.length) ?_) (by omega)
  refine Go.holding ?_
  have key := Go.forIn (pw := pw) (w := w) (c := c) (N := 10) (fun (x : Value × Value) (r : PUnit) => do
      PySem.dictSet (base.length + l.length) x.1 x.2
      Pure.pure (ForInStep.yield PUnit.unit)) (valsBy s.toks kvs) (fun _ => PUnit.unit)
    (fun j => { s with heap := HS base life (l ++ [dO (entsBy 2 s.toks (kvs.take j)) j]), toks := s.toks + 2 * kvs.length + j }) (fun j x hx => by
      have hj : j < kvs.length := by
        have := (List.getElem?_eq_some_iff.mp hx).1
        rw [valsBy_length] at this; exact this
      obtain ⟨kv, hkv⟩ : ∃ kv, kvs[j]? = some kv := ⟨_, List.getElem?_eq_getElem hj⟩
      rw [valsBy_get s.toks kvs j kv hkv] at hx
      obtain rfl := Option.some.inj hx
      have kk := K kv (List.mem_of_getElem? hkv)
      have gi : (l ++ [dO (entsBy 2 s.toks (kvs.take j)) j])[l.length]? = some (dO (entsBy 2 s.toks (kvs.take j)) j) := by
        rw [List.getElem?_append_right (Nat.le_refl _), Nat.sub_self]; rfl
      refine Go.le (Go.bind (Go.dictSet (base := base) (life := life) (i := l.length) rfl gi hn (by rw [entsBy_length, List.length_take]; omega) kk.1 kk.2 (take_lt R hkv)) (M := 0) ?_) (by omega)
      have e1 : (l ++ [dO (entsBy 2 s.toks (kvs.take j)) j]).set l.length (dO (entsBy 2 s.toks (kvs.take j) ++ [⟨kv.1, .int kv.1 (s.toks + 2 * j), .str kv.2 (s.toks + 2 * j + 1)⟩]) (j + 1)) =
          l ++ [dO (entsBy 2 s.toks (kvs.take (j + 1))) (j + 1)] := by
        rw [List.set_append_right _ _ (Nat.le_refl _), Nat.sub_self, entsBy_take 2 s.toks kvs j kv hkv]; rfl
      dsimp only
      rw [e1, show s.toks + 2 * kvs.length + (j + 1) = s.toks + 2 * kvs.length + j + 1 by omega]
      exact Go.pure _)
  rw [valsBy_length, List.take_length] at key
  rw [show s.toks + 3 * kvs.length = s.toks + 2 * kvs.length + kvs.length by omega]
  exact Go.le (Go.bind (a := PUnit.unit) key (M := 0) (Go.pure _)) (Nat.le_refl _)

theorem Go.typeOfDict {a : Addr} (g : s.heap.get? a = some (dO es n)) : Go pw w c (typeOf (.ref a)) s 1 (.type "dict") s :=
  Go.le (Go.bind (Go.loadPart g) (Go.pure _)) (Nat.le_refl _)
theorem Go.isDict {a : Addr} (g : s.heap.get? a = some (dO es n)) : Go pw w c (isInstance (.ref a) (.type "dict")) s 1 true s := by
  refine Go.le (Go.bind (Go.typeOfDict g) (M := 0) ?_) (Nat.le_refl _)
  rw [sub_subtype]
  exact Go.pure _
theorem Go.iterDict {a : Addr} (g : s.heap.get? a = some (dO es n)) : Go pw w c (specialOf (.ref a) "__iter__") s 1 (some (.builtin "dict.__iter__")) s := by
  refine Go.le (Go.bind (Go.typeOfDict g) (M := 0) ?_) (Nat.le_refl _)
  rw [dict_iter]
  exact Go.pure _

theorem Go.merge {m j : Nat} {T : Nat} {kvs : List (Int × Str)} {n' : Nat} (hs : s.heap = HS base life l) (hn : 11 ≤ base.length) (ne : es ≠ []) (gi : l[i]? = some (dO es n)) (gj : l[j]? = some (dO (entsBy m T kvs) n')) (ij : i ≠ j)
    (R : Rising kvs) (lt : ∀ e ∈ es, ∀ x ∈ kvs, e.hash < x.1) (sz : es.length + kvs.length < 1000000) :
    Go pw w c (mergeMapping (base.length + i) (.ref (base.length + j)) false) s (6 * kvs.length + 8) () { s with heap := HS base life (l.set i (dO (es ++ entsBy m T kvs) (n + kvs.length))) } := by
  have hi : i < l.length := (List.getElem?_eq_some_iff.mp gi).1
  have g1 : s.heap.get? (base.length + i) = some (dO es n) := by rw [hs]; exact hs_get gi
  have g2 : s.heap.get? (base.length + j) = some (dO (entsBy m T kvs) n') := by rw [hs]; exact hs_get gj
  unfold mergeMapping
  have e0 : (base.length + j == sysModules) = false := by
    rw [beq_eq_false_iff_ne]
    have : sysModules = 1 := rfl
    rw [this]
    omega
  have e1 : (es.toArray.isEmpty) = false := by
    cases es with
    | nil => exact absurd rfl ne
    | cons a r => rfl
  refine Go.le (Go.bind (Go.isDict g2) (M := 6 * kvs.length + 4) ?_) (by omega)
  rw [if_pos rfl]
  refine Go.le (Go.bind (Go.iterDict g2) (M := 6 * kvs.length + 3) ?_) (by omega)
  refine Go.le (Go.bind (Go.pure _) (M := 6 * kvs.length + 3) ?_) (by omega)
  rw [show (some (Value.builtin "dict.__iter__") == some (Value.builtin "dict.__iter__")) = true from beq_self_eq_true _]
  dsimp only
  rw [e0, if_neg Bool.false_ne_true]
  refine Go.le (Go.bind (Go.dictEntries g1) (M := 6 * kvs.length + 2) ?_) (by omega)
  rw [e1, if_neg Bool.false_ne_true]
  refine Go.le (Go.bind (Go.dictEntries g2) (M := 6 * kvs.length + 1) ?_) (by omega)
  refine Go.le (Go.bind (Go.dictEpoch g2) (M := 6 * kvs.length) ?_) (by omega)
  have sz2 : (entsBy m T kvs).toArray.size = kvs.length := by rw [List.size_toArray, entsBy_length]
  rw [sz2]
  have key := Go.forIn (pw := pw) (w := w) (c := c) (N := 6) (fun (x : Nat) (r : PUnit) => do
                    let d ← PySem.dictEntries (base.length + j)
                    match d[x]? with
                      | some e => do
                        PySem.holding [e.key, e.val] (PySem.dictPut (base.length + i) e.hash e.key e.val)
                        let q ← PySem.dictEpoch (base.length + j)
                        if (q != n') = true then do
                            unsupported "dict.changed-during-merge"
                            Pure.pure (ForInStep.yield PUnit.unit)
                          else Pure.pure (ForInStep.yield PUnit.unit)
                      | x => do
                        unsupported "dict.changed-during-merge"
                        Pure.pure (ForInStep.yield PUnit.unit)) (List.range kvs.length) (fun _ => PUnit.unit)
    (fun k => { s with heap := HS base life (l.set i (dO (es ++ entsBy m T (kvs.take k)) (n + k))) }) (fun k x hx => by
      obtain ⟨hk, hx⟩ := List.getElem?_eq_some_iff.mp hx
      rw [List.length_range] at hk
      rw [List.getElem_range] at hx
      subst hx
      obtain ⟨kv, hkv⟩ : ∃ kv, kvs[k]? = some kv := ⟨_, List.getElem?_eq_getElem hk⟩
      have gj' : (l.set i (dO (es ++ entsBy m T (kvs.take k)) (n + k)))[j]? = some (dO (entsBy m T kvs) n') := by rw [List.getElem?_set, if_neg ij]; exact gj
      have gi' : (l.set i (dO (es ++ entsBy m T (kvs.take k)) (n + k)))[i]? = some (dO (es ++ entsBy m T (kvs.take k)) (n + k)) := by rw [List.getElem?_set, if_pos rfl, if_pos hi]
      refine Go.le (Go.bind (Go.dictEntries (hs_get gj')) (M := 5) ?_) (by omega)
      have ek : (entsBy m T kvs)[k]? = some ⟨kv.1, .int kv.1 (T + m * k), .str kv.2 (T + m * k + 1)⟩ := by
        have h1 := entsBy_take m T kvs k kv hkv
        have h2 : entsBy m T kvs = entsBy m T (kvs.take (k + 1)) ++ entsBy m (T + m * (k + 1)) (kvs.drop (k + 1)) := by
          conv => lhs; rw [← List.take_append_drop (k + 1) kvs]
          have gen : ∀ (a b : List (Int × Str)) (T : Nat), entsBy m T (a ++ b) = entsBy m T a ++ entsBy m (T + m * a.length) b := by
            intro a
            induction a with
            | nil => intro b T; simp [entsBy]
            | cons x a ih =>
              intro b T
              obtain ⟨k', v'⟩ := x
              rw [List.cons_append, entsBy, entsBy, ih, List.cons_append, List.length_cons, Nat.mul_succ, show T + m + m * a.length = T + (m * a.length + m) by omega]
          rw [gen, List.length_take, show min (k + 1) kvs.length = k + 1 by omega]
        rw [h2, h1, List.append_assoc, List.getElem?_append_right (by rw [entsBy_length, List.length_take]; omega), entsBy_length, List.length_take, show k - min k kvs.length = 0 by omega]
        rfl
      rw [List.getElem?_toArray, ek]
      dsimp only
      have lt' : ∀ e ∈ es ++ entsBy m T (kvs.take k), e.hash < kv.1 := by
        intro e he
        rcases List.mem_append.mp he with he | he
        · exact lt e he kv (List.mem_of_getElem? hkv)
        · exact take_lt R hkv e he
      refine Go.le (Go.bind (Go.holding (Go.dictPut (base := base) (life := life) rfl gi' hn (by rw [List.length_append, entsBy_length, List.length_take]; omega) lt')) (M := 1) ?_) (by omega)
      have gj2 : ((l.set i (dO (es ++ entsBy m T (kvs.take k)) (n + k))).set i (dO (es ++ entsBy m T (kvs.take k) ++ [⟨kv.1, .int kv.1 (T + m * k), .str kv.2 (T + m * k + 1)⟩]) (n + k + 1)))[j]? = some (dO (entsBy m T kvs) n') := by
        rw [List.getElem?_set, if_neg ij]; exact gj'
      refine Go.le (Go.bind (Go.dictEpoch (hs_get gj2)) (M := 0) ?_) (by omega)
      rw [show (n' != n') = false from by simp, if_neg Bool.false_ne_true, List.set_set, List.append_assoc, ← entsBy_take m T kvs k kv hkv, show n + k + 1 = n + (k + 1) by omega]
      exact Go.pure _)
  rw [List.length_range, List.take_length] at key
  have e9 : ({ s with heap := HS base life (l.set i (dO (es ++ entsBy m T (kvs.take 0)) (n + 0))) } : Shared) = s := by
    have : l.set i (dO (es ++ entsBy m T (kvs.take 0)) (n + 0)) = l := by
      apply List.ext_getElem?
      intro k
      rw [List.getElem?_set]
      split
      · rename_i h; subst h
        rw [gi]
        simp [entsBy]
      · rfl
    rw [this, ← hs]
  rw [e9] at key
  exact Go.le (Go.bind (a := PUnit.unit) key (M := 0) (Go.pure _)) (Nat.le_refl _)
end
end
end Mine
namespace Mine

def itemOf (p : Pos) (x : Int × Str) : Option (Sem Value) × Sem Value := (some (mkInt x.1), do let v ← mkText x.2; standAt p; pure v)

theorem entsBy_append (m : Nat) : ∀ (a b : List (Int × Str)) (T : Nat), entsBy m T (a ++ b) = entsBy m T a ++ entsBy m (T + m * a.length) b
  | [], b, T => by simp [entsBy]
  | (k', v') :: a, b, T => by
    rw [List.cons_append, entsBy, entsBy, entsBy_append m a b, List.cons_append, List.length_cons, Nat.mul_succ, show T + m + m * a.length = T + (m * a.length + m) by omega]

theorem Rising.part {kvs : List (Int × Str)} (R : Rising kvs) (a b : Nat) : Rising ((kvs.drop a).take b) := by
  intro i j x y hx hy lt
  rw [List.getElem?_take] at hx hy
  split at hx
  · split at hy
    · rw [List.getElem?_drop] at hx hy
      exact R (a + i) (a + j) x y hx hy (by omega)
    · cases hy
  · cases hx
theorem Rising.drop {kvs : List (Int × Str)} (R : Rising kvs) (a : Nat) : Rising (kvs.drop a) := by
  intro i j x y hx hy lt
  rw [List.getElem?_drop] at hx hy
  exact R (a + i) (a + j) x y hx hy (by omega)
theorem KeysOk.part {kvs : List (Int × Str)} (K : KeysOk kvs) (a b : Nat) : KeysOk ((kvs.drop a).take b) := fun x hx => K x (List.mem_of_mem_drop (List.mem_of_mem_take hx))
theorem KeysOk.drop {kvs : List (Int × Str)} (K : KeysOk kvs) (a : Nat) : KeysOk (kvs.drop a) := fun x hx => K x (List.mem_of_mem_drop hx)
theorem before_lt {kvs : List (Int × Str)} (R : Rising kvs) {m T a b : Nat} : ∀ e ∈ entsBy m T (kvs.take a), ∀ x ∈ (kvs.drop a).take b, e.hash < x.1 := by
  intro e he x hx
  obtain ⟨y, hy, q⟩ := entsBy_hash he
  obtain ⟨i, hi⟩ := List.mem_iff_getElem?.mp hy
  obtain ⟨j, hj⟩ := List.mem_iff_getElem?.mp (List.mem_of_mem_take hx)
  rw [List.getElem?_take] at hi
  rw [List.getElem?_drop] at hj
  split at hi
  · rw [q]; exact R i (a + j) y x hi hj (by omega)
  · cases hi

/-- the made objects behind q whole chunks -/
def dispObjs (T : Nat) (kvs : List (Int × Str)) : Nat → List Obj
  | 0 => []
  | q + 1 => dO (entsBy 3 T (kvs.take (17 * (q + 1)))) (17 * (q + 1)) :: (List.range q).map fun k => dO (entsBy 3 (T + 51 * (k + 1)) ((kvs.drop (17 * (k + 1))).take 17)) 17
theorem dispObjs_len (T : Nat) (kvs : List (Int × Str)) : ∀ q, (dispObjs T kvs q).length = q
  | 0 => rfl
  | q + 1 => by simp [dispObjs]

section
variable {pw : Program} {w : World} {c : Code}

theorem Go.forIn' {γ β : Type} {N : Nat} {f : γ → β → Sem (ForInStep β)} {xs : List γ} (acc : Nat → β) (S : Nat → Shared) {b₀ b₁ : β} {s₀ s₁ : Shared} (h0 : acc 0 = b₀) (h1 : S 0 = s₀) (h2 : acc xs.length = b₁) (h3 : S xs.length = s₁)
    (h : ∀ i x, xs[i]? = some x → Go pw w c (f x (acc i)) (S i) N (.yield (acc (i + 1))) (S (i + 1))) : Go pw w c (ForIn.forIn xs b₀ f) s₀ (N * xs.length) b₁ s₁ := by
  subst h0 h1 h2 h3
  exact Go.forIn f xs acc S h

theorem Go.flush {s : Shared} {base : List Obj} {life : Life} {T q m : Nat} {p : Pos} {kvs chunk : List (Int × Str)} {N : Nat} {S' : Shared}
    (hs : s.heap = HS base life (dispObjs T kvs (q + 1))) (hn : 11 ≤ base.length) (R : Rising kvs) (sz : kvs.length < 900000) {len : Nat} (hc : chunk = (kvs.drop (17 * (q + 1))).take len) (full : 17 * (q + 1) ≤ kvs.length)
    (sub : Go pw w c (subDict (chunk.map (pairOf p))) s N (base.length + (q + 1)) { s with heap := HS base life (dispObjs T kvs (q + 1) ++ [dO (entsBy m s.toks chunk) chunk.length]), toks := s.toks + 3 * chunk.length })
    (hS : S' = { s with heap := HS base life ((dispObjs T kvs (q + 1) ++ [dO (entsBy m s.toks chunk) chunk.length]).set 0 (dO (entsBy 3 T (kvs.take (17 * (q + 1))) ++ entsBy m s.toks chunk) (17 * (q + 1) + chunk.length))), toks := s.toks + 3 * chunk.length }) :
    Go pw w c (do
      let sub ← PySem.holding [Value.ref base.length] (subDict (chunk.map (pairOf p)))
      (PySem.holding [Value.ref base.length, Value.ref sub] (mergeMapping base.length (Value.ref sub) false)).onRaise fun x => do
          let _ ← PySem.holding [Value.ref base.length, x] (runValue (Code.builtin "proto.let_go" { }))
          Pure.pure ()
      Pure.pure (some base.length)) s (N + (6 * chunk.length + 8)) (some base.length) S' := by
  subst hS
  refine Go.bind (Go.holding sub) ?_
  have ne : entsBy 3 T (kvs.take (17 * (q + 1))) ≠ [] := by
    intro e
    have := congrArg List.length e
    rw [entsBy_length, List.length_take] at this
    simp only [List.length_nil] at this
    omega
  have h := Go.merge (pw := pw) (w := w) (c := c) (s := { s with heap := HS base life (dispObjs T kvs (q + 1) ++ [dO (entsBy m s.toks chunk) chunk.length]), toks := s.toks + 3 * chunk.length }) (base := base) (life := life)
    (l := dispObjs T kvs (q + 1) ++ [dO (entsBy m s.toks chunk) chunk.length]) (i := 0) (es := entsBy 3 T (kvs.take (17 * (q + 1)))) (n := 17 * (q + 1)) (m := m) (j := q + 1) (T := s.toks) (kvs := chunk) (n' := chunk.length) rfl hn ne
    (by rw [List.getElem?_append_left (by rw [dispObjs_len]; omega)]; rfl)
    (by rw [List.getElem?_append_right (by rw [dispObjs_len]; omega), dispObjs_len, Nat.sub_self]; rfl) (by omega) (hc ▸ R.part _ _) (hc ▸ before_lt R)
    (by rw [entsBy_length, List.length_take, hc, List.length_take, List.length_drop]; omega)
  exact Go.le (Go.bind (Go.onRaise (Go.holding h)) (Go.pure _)) (Nat.le_refl _)

theorem Go.display {s : Shared} {base : List Obj} {life : Life} {p : Pos} {kvs : List (Int × Str)} (hs : s.heap = HS base life []) (hn : 11 ≤ base.length) (R : Rising kvs) (K : KeysOk kvs) (sz : kvs.length < 900000) (len : 17 ≤ kvs.length) (tail : kvs.length % 17 ≠ 0 ∧ kvs.length % 17 ≤ 15) {Q r : Nat} (hQ : kvs.length / 17 = Q + 1) (hr : kvs.length % 17 = r) :
    Go pw w c (dictDisplay (kvs.map (itemOf p))) s (400 * kvs.length + 400) (.ref base.length)
      { s with heap := HS base life ((dispObjs s.toks kvs (Q + 1) ++ [dO (entsBy 2 (s.toks + 51 * (Q + 1)) (kvs.drop (17 * (Q + 1)))) r]).set 0 (dO (entsBy 3 s.toks (kvs.take (17 * (Q + 1))) ++ entsBy 2 (s.toks + 51 * (Q + 1)) (kvs.drop (17 * (Q + 1)))) kvs.length)), toks := s.toks + 3 * kvs.length } := by
  unfold dictDisplay
  dsimp only
  have s0 : ({ s with heap := HS base life (dispObjs s.toks kvs (0 / 17)), toks := s.toks + 51 * (0 / 17) } : Shared) = s := by
    show ({ s with heap := HS base life [], toks := s.toks } : Shared) = s
    rw [← hs]
  refine Go.le (Go.bind (Go.forIn' (N := 400) (fun j => ((if j / 17 = 0 then none else some base.length : Option Addr), (((kvs.drop (17 * (j / 17))).take (j % 17)).map (pairOf p))))
    (fun j => { s with heap := HS base life (dispObjs s.toks kvs (j / 17)), toks := s.toks + 51 * (j / 17) }) rfl s0 rfl rfl ?_) (M := 400) ?_) (by rw [List.length_map]; omega)
  · intro j x hx
    rw [List.getElem?_map] at hx
    obtain ⟨kv, hkv, rfl⟩ := Option.map_eq_some_iff.mp hx
    have hj : j < kvs.length := (List.getElem?_eq_some_iff.mp hkv).1
    dsimp only [itemOf]
    have e1 : ((kvs.drop (17 * (j / 17))).take (j % 17)).map (pairOf p) ++ [(PySem.mkInt kv.1, do let v ← PySem.mkText kv.2; PySem.standAt p; Pure.pure v)] = ((kvs.drop (17 * (j / 17))).take (j % 17 + 1)).map (pairOf p) := by
      rw [List.take_add_one, List.map_append]
      congr 1
      rw [List.getElem?_drop, show 17 * (j / 17) + j % 17 = j by omega, hkv]
      rfl
    simp only [e1]
    have e2 : (((kvs.drop (17 * (j / 17))).take (j % 17 + 1)).map (pairOf p)).length = j % 17 + 1 := by
      rw [List.length_map, List.length_take, List.length_drop]; omega
    simp only [e2]
    by_cases h16 : j % 17 = 16
    · rw [if_pos (by rw [h16]; rfl)]
      have h1 : (j + 1) / 17 = j / 17 + 1 := by omega
      have h2 : (j + 1) % 17 = 0 := by omega
      rw [h1, h2, h16]
      have e3 : ((kvs.drop (17 * (j / 17))).take (16 + 1)).length = 17 := by rw [List.length_take, List.length_drop]; omega
      have e4 : (((kvs.drop (17 * (j / 17))).take (16 + 1)).map (pairOf p)).isEmpty = false := by
        rw [List.isEmpty_eq_false_iff]
        intro q
        have := congrArg List.length q
        rw [List.length_map, e3] at this
        cases this
      rw [e4, if_neg Bool.false_ne_true]
      have sub := Go.subLong (pw := pw) (w := w) (c := c) (s := { s with heap := HS base life (dispObjs s.toks kvs (j / 17)), toks := s.toks + 51 * (j / 17) }) (base := base) (life := life) (l := dispObjs s.toks kvs (j / 17)) (p := p) (kvs := (kvs.drop (17 * (j / 17))).take (16 + 1)) rfl hn (R.part _ _) (K.part _ _) (by rw [e3]; omega) (by rw [e3]; omega)
      rw [e3] at sub
      cases hq : j / 17 with
      | zero =>
        rw [hq] at sub
        rw [if_pos rfl, if_neg (by omega)]
        dsimp only
        refine Go.le (Go.bind (a := some base.length) (Go.bind sub (Go.pure _)) (M := 0) ?_) (by omega)
        exact Go.pure _
      | succ q =>
        rw [hq] at sub e3
        rw [if_neg (by omega), if_neg (by omega)]
        dsimp only
        have e5 : base.length + (dispObjs s.toks kvs (q + 1)).length = base.length + (q + 1) := by rw [dispObjs_len]
        rw [e5] at sub
        have fl := Go.flush (pw := pw) (w := w) (c := c) (s := { s with heap := HS base life (dispObjs s.toks kvs (q + 1)), toks := s.toks + 51 * (q + 1) }) (base := base) (life := life) (T := s.toks) (q := q) (m := 3) (p := p) (kvs := kvs) (chunk := (kvs.drop (17 * (q + 1))).take (16 + 1)) rfl hn R sz rfl (by omega) (by rw [e3]; exact sub) rfl
        rw [e3] at fl
        refine Go.le (Go.bind (a := some base.length) fl (M := 0) ?_) (by omega)
        have e6 : ((dispObjs s.toks kvs (q + 1) ++ [dO (entsBy 3 (s.toks + 51 * (q + 1)) ((kvs.drop (17 * (q + 1))).take (16 + 1))) 17]).set 0 (dO (entsBy 3 s.toks (kvs.take (17 * (q + 1))) ++ entsBy 3 (s.toks + 51 * (q + 1)) ((kvs.drop (17 * (q + 1))).take (16 + 1))) (17 * (q + 1) + 17))) = dispObjs s.toks kvs (q + 1 + 1) := by
          have e7 : kvs.take (17 * (q + 1 + 1)) = kvs.take (17 * (q + 1)) ++ (kvs.drop (17 * (q + 1))).take (16 + 1) := by
            rw [show 17 * (q + 1 + 1) = 17 * (q + 1) + 17 by omega, List.take_add]
          rw [dispObjs, dispObjs, e7, entsBy_append, List.length_take, show min (17 * (q + 1)) kvs.length = 17 * (q + 1) by omega, show 3 * (17 * (q + 1)) = 51 * (q + 1) by omega, List.range_succ, List.map_append]
          rfl
        dsimp only
        rw [e6, show s.toks + 51 * (q + 1 + 1) = s.toks + 51 * (q + 1) + 3 * 17 by omega]
        exact Go.pure _
    · rw [if_neg (by simp; omega)]
      have h1 : (j + 1) / 17 = j / 17 := by omega
      have h2 : (j + 1) % 17 = j % 17 + 1 := by omega
      rw [h1, h2]
      exact Go.le (Go.pure _) (Nat.zero_le _)
  · have e0 : (if Q + 1 = 0 then none else some base.length : Option Addr) = some base.length := if_neg (by omega)
    rw [List.length_map, hQ, hr, e0]
    dsimp only
    have e1 : ((kvs.drop (17 * (Q + 1))).take r) = kvs.drop (17 * (Q + 1)) := by
      rw [List.take_of_length_le]
      rw [List.length_drop]; omega
    rw [e1]
    have e3 : (kvs.drop (17 * (Q + 1))).length = r := by rw [List.length_drop]; omega
    have e4 : ((kvs.drop (17 * (Q + 1))).map (pairOf p)).isEmpty = false := by
      rw [List.isEmpty_eq_false_iff]
      intro q
      have := congrArg List.length q
      rw [List.length_map, e3] at this
      simp only [List.length_nil] at this
      omega
    rw [e4, if_neg Bool.false_ne_true]
    have sub := Go.subShort (pw := pw) (w := w) (c := c) (s := { s with heap := HS base life (dispObjs s.toks kvs (Q + 1)), toks := s.toks + 51 * (Q + 1) }) (base := base) (life := life) (l := dispObjs s.toks kvs (Q + 1)) (p := p) (kvs := kvs.drop (17 * (Q + 1))) rfl hn (R.drop _) (K.drop _) (by rw [e3]; omega)
    rw [show base.length + (dispObjs s.toks kvs (Q + 1)).length = base.length + (Q + 1) by rw [dispObjs_len]] at sub
    have fl := Go.flush (pw := pw) (w := w) (c := c) (s := { s with heap := HS base life (dispObjs s.toks kvs (Q + 1)), toks := s.toks + 51 * (Q + 1) }) (base := base) (life := life) (T := s.toks) (q := Q) (m := 2) (p := p) (kvs := kvs) (chunk := kvs.drop (17 * (Q + 1))) (len := r) rfl hn R sz e1.symm (by omega) sub rfl
    rw [e3] at fl
    refine Go.le (Go.bind (a := some base.length) fl (M := 0) ?_) (by omega)
    dsimp only
    rw [show 17 * (Q + 1) + r = kvs.length by omega, show s.toks + 51 * (Q + 1) + 3 * r = s.toks + 3 * kvs.length by omega]
    exact Go.pure _
end
end Mine
namespace Mine
def risesB : Int → List (Int × Str) → Bool
  | _, [] => true
  | lo, (k, _) :: r => decide (lo < k) && decide (k < 2000000) && risesB k r
theorem risesB_gt : ∀ {lo : Int} {l : List (Int × Str)}, risesB lo l = true → ∀ x ∈ l, lo < x.1 ∧ x.1 < 2000000
  | lo, [], _, x, hx => by cases hx
  | lo, (k, v) :: r, h, x, hx => by
    simp only [risesB, Bool.and_eq_true, decide_eq_true_eq] at h
    rcases List.mem_cons.mp hx with rfl | hx
    · exact h.1
    · have := risesB_gt h.2 x hx
      exact ⟨by omega, this.2⟩
theorem risesB_rising : ∀ {lo : Int} {l : List (Int × Str)}, risesB lo l = true → Rising l
  | lo, [], _ => by intro i j x y hx; simp at hx
  | lo, (k, v) :: r, h => by
    simp only [risesB, Bool.and_eq_true, decide_eq_true_eq] at h
    intro i j x y hx hy lt
    cases j with
    | zero => omega
    | succ j =>
      rw [List.getElem?_cons_succ] at hy
      cases i with
      | zero =>
        obtain rfl : (k, v) = x := by simpa using hx
        exact (risesB_gt h.2 y (List.mem_of_getElem? hy)).1
      | succ i =>
        rw [List.getElem?_cons_succ] at hx
        exact risesB_rising h.2 i j x y hx hy (by omega)
/-- a hook with the set beside it -/
def HookS (H : Hook) (a : Addr) (o : Params → Obj) : Hook where
  α := H.α × Option Obj
  obs := fun s => (H.obs s, s.heap.get? a)
  val := fun w => (H.val w, some (o w.params))
  says := fun w h => H.says w h ∧ h.get? a = some (o w.params)
  of := fun w s e => ⟨H.of w s (congrArg Prod.fst e), congrArg Prod.snd e⟩
  keeps := fun w h h' x k => ⟨H.keeps w h h' x.1 k, k _ _ x.2⟩

end Mine
namespace Mine
abbrev pw : Program := PySem.Challenge.pw_tp0048_02
def stAt (i : Nat) : Stmt := (pw.main.body.drop i).head?.getD (.Pass ⟨0,0,0,0⟩)
def fnParams : Stmt → Arguments | .FunctionDef _ a _ _ _ _ _ _ _ _ => a | _ => default
def fnBody : Stmt → List Stmt | .FunctionDef _ _ b _ _ _ _ _ _ _ => b | _ => []
def fnScope : Stmt → Scope | .FunctionDef _ _ _ _ _ _ s _ _ _ => s | _ => default
def kvsOf : List (Option Expr) → List Expr → List (Int × Str)
  | some (.Constant (.int k) _ _) :: ks, .Constant (.str v) _ _ :: vs => (k, v) :: kvsOf ks vs
  | _, _ => []
def dictKeys : Stmt → List (Option Expr) | .Assign _ (.Dict ks _ _) _ => ks | _ => []
def dictVals : Stmt → List Expr | .Assign _ (.Dict _ vs _) _ => vs | _ => []
noncomputable abbrev lifeP (P : Params) : Life := (boot_heap P).life
noncomputable abbrev s0 : Stmt := stAt 0
noncomputable abbrev s1 : Stmt := stAt 1
noncomputable abbrev s2 : Stmt := stAt 2
noncomputable abbrev s3 : Stmt := stAt 3
noncomputable abbrev s4 : Stmt := stAt 4
noncomputable abbrev s5 : Stmt := stAt 5
noncomputable abbrev s6 : Stmt := stAt 6
noncomputable abbrev s7 : Stmt := stAt 7
noncomputable abbrev s8 : Stmt := stAt 8
noncomputable abbrev s9 : Stmt := stAt 9
noncomputable abbrev s10 : Stmt := stAt 10
noncomputable abbrev s11 : Stmt := stAt 11
noncomputable abbrev s12 : Stmt := stAt 12
noncomputable abbrev s13 : Stmt := stAt 13
noncomputable abbrev s14 : Stmt := stAt 14
noncomputable abbrev s15 : Stmt := stAt 15
noncomputable abbrev s16 : Stmt := stAt 16
noncomputable abbrev s17 : Stmt := stAt 17
noncomputable abbrev s18 : Stmt := stAt 18
noncomputable abbrev s19 : Stmt := stAt 19
noncomputable abbrev o11_A (P : Params) : Obj := ⟨(.type "tuple"), none, (.seq (List.toArray []) 0), (List.toArray [])⟩
noncomputable abbrev o12_A (P : Params) : Obj := ⟨.none, none, (.fields (List.toArray [])), (List.toArray [])⟩
noncomputable abbrev o13_A (P : Params) : Obj := ⟨(.type "code"), none, (.fields (List.toArray [(.str (Str.ofString "<module>") 182), (.str (Str.ofString "<module>") 183), (.str (Str.ofString "/claim/cut.py") 184), (.int 1 0), (.int 0 0), (.int 0 0), (.int 0 0), (.int 0 0), (.ref 11), (.bool false), (.int 181 0), (.ref 12), .none, .none, .none, .none, (.int 185 0), (.int 1 0), (.str (Str.ofString "/claim/cut.py") 186)])), (List.toArray [])⟩
noncomputable abbrev o14_A (P : Params) : Obj := ⟨(.type "frame"), none, .plain, (List.toArray [(some (.ref 13)), (some (.ref 3)), (some (.ref 3)), none, (some (.str (Str.ofString "__main__") 164)), none, (some (.ref 0))])⟩
noncomputable abbrev trA (P : Params) : BT := (.node (boot_o_0 P) (.node (boot_o_1 P) (.node (boot_o_3 P) (.node (boot_o_7 P) .nil .nil) (.node (o11_A P) .nil .nil)) (.node (boot_o_5 P) (.node (boot_o_9 P) .nil .nil) (.node (o13_A P) .nil .nil))) (.node (boot_o_2 P) (.node (boot_o_4 P) (.node (boot_o_8 P) .nil .nil) (.node (o12_A P) .nil .nil)) (.node (boot_o_6 P) (.node (boot_o_10 P) .nil .nil) (.node (o14_A P) .nil .nil))))
noncomputable abbrev lsA (P : Params) : List Obj := [boot_o_0 P, boot_o_1 P, boot_o_2 P, boot_o_3 P, boot_o_4 P, boot_o_5 P, boot_o_6 P, boot_o_7 P, boot_o_8 P, boot_o_9 P, boot_o_10 P, o11_A P, o12_A P, o13_A P, o14_A P]
noncomputable abbrev o2_10 (P : Params) : Obj := ⟨.none, none, (.dict (List.toArray [⟨PyData.keyHash P (Str.ofString "type.__subclasses__.Exception.0"), (.str (Str.ofString "type.__subclasses__.Exception.0") 241), (.int 38 0)⟩, ⟨PyData.keyHash P (Str.ofString "type.__subclasses__.Exception.n"), (.str (Str.ofString "type.__subclasses__.Exception.n") 242), (.int 1 0)⟩]) 2), (List.toArray [])⟩
noncomputable abbrev o3_10 (P : Params) : Obj := ⟨(.type "dict"), none, (.dict (List.toArray [⟨PyData.keyHash P (Str.ofString "__name__"), (.str (Str.ofString "__name__") 165), (.str (Str.ofString "cpy313.stringprep") 272)⟩, ⟨PyData.keyHash P (Str.ofString "__doc__"), (.str (Str.ofString "__doc__") 166), .none⟩, ⟨PyData.keyHash P (Str.ofString "__package__"), (.str (Str.ofString "__package__") 167), .none⟩, ⟨PyData.keyHash P (Str.ofString "__loader__"), (.str (Str.ofString "__loader__") 168), (.builtin "__main__.__loader__#opaque")⟩, ⟨PyData.keyHash P (Str.ofString "__spec__"), (.str (Str.ofString "__spec__") 169), .none⟩, ⟨PyData.keyHash P (Str.ofString "__annotations__"), (.str (Str.ofString "__annotations__") 170), (.ref 6)⟩, ⟨PyData.keyHash P (Str.ofString "__builtins__"), (.str (Str.ofString "__builtins__") 171), (.ref 4)⟩, ⟨PyData.keyHash P (Str.ofString "__file__"), (.str (Str.ofString "__file__") 173), (.str (Str.ofString "/claim/cut.py") 172)⟩, ⟨PyData.keyHash P (Str.ofString "__cached__"), (.str (Str.ofString "__cached__") 174), .none⟩, ⟨PyData.keyHash P (Str.ofString "_MAX_STRING_SIZE"), (.str (Str.ofString "_MAX_STRING_SIZE") 190), (.int 40 189)⟩, ⟨PyData.keyHash P (Str.ofString "_MOVE_COST"), (.str (Str.ofString "_MOVE_COST") 192), (.int 2 191)⟩, ⟨PyData.keyHash P (Str.ofString "_CASE_COST"), (.str (Str.ofString "_CASE_COST") 194), (.int 1 193)⟩, ⟨PyData.keyHash P (Str.ofString "_substitution_cost"), (.str (Str.ofString "_substitution_cost") 202), (.ref 21)⟩, ⟨PyData.keyHash P (Str.ofString "_levenshtein_distance"), (.str (Str.ofString "_levenshtein_distance") 222), (.ref 28)⟩, ⟨PyData.keyHash P (Str.ofString "Error"), (.str (Str.ofString "Error") 244), (.ref 38)⟩, ⟨PyData.keyHash P (Str.ofString "error_reply"), (.str (Str.ofString "error_reply") 260), (.ref 51)⟩, ⟨PyData.keyHash P (Str.ofString "parse257"), (.str (Str.ofString "parse257") 271), (.ref 60)⟩]) 17), (List.toArray [])⟩
noncomputable abbrev o12_10 (P : Params) : Obj := ⟨.none, none, (.fields (List.toArray [(.int 5 0), (.int 0 0), (.ref 20), (.int 11 0), (.int 0 0), (.ref 27), (.int 50 0), (.int 0 0), (.ref 34), (.int 52 0), (.int 0 0), (.ref 47), (.int 54 0), (.int 0 0), (.ref 59)])), (List.toArray [])⟩
noncomputable abbrev o15_10 (P : Params) : Obj := ⟨(.type "tuple"), none, (.seq (List.toArray []) 0), (List.toArray [])⟩
noncomputable abbrev o16_10 (P : Params) : Obj := ⟨.none, none, (.fields (List.toArray [])), (List.toArray [])⟩
noncomputable abbrev o17_10 (P : Params) : Obj := ⟨(.type "tuple"), none, (.seq (List.toArray [(.str (Str.ofString "ch_a") 198), (.str (Str.ofString "ch_b") 199)]) 0), (List.toArray [])⟩
noncomputable abbrev o18_10 (P : Params) : Obj := ⟨(.type "tuple"), none, (.seq (List.toArray []) 0), (List.toArray [])⟩
noncomputable abbrev o19_10 (P : Params) : Obj := ⟨.none, none, (.func { name := (Str.ofString "_substitution_cost"), qualname := (Str.ofString "_substitution_cost"), params := fnParams s4, body := .stmts (fnBody s4), scope := fnScope s4, globals := 0, closure := [], defaults := .none, kwdefaults := .none, doc := .none, pyModule := .none, annotations := none, code := .none, closureTuple := .none, builtins := 0 }), (List.toArray [])⟩
noncomputable abbrev o20_10 (P : Params) : Obj := ⟨(.type "code"), none, (.fields (List.toArray [(.str (Str.ofString "_substitution_cost") 195), (.str (Str.ofString "_substitution_cost") 196), (.str (Str.ofString "/claim/cut.py") 197), (.int 5 0), (.int 2 0), (.int 0 0), (.int 0 0), (.int 3 0), (.ref 15), (.bool true), (.int 181 0), (.ref 16), .none, (.ref 17), (.ref 18), (.ref 19), (.int 200 0), (.int 5 0), (.str (Str.ofString "/claim/cut.py") 201)])), (List.toArray [])⟩
noncomputable abbrev o21_10 (P : Params) : Obj := ⟨(.type "function"), none, (.func { name := (Str.ofString "_substitution_cost"), qualname := (Str.ofString "_substitution_cost"), params := fnParams s4, body := .stmts (fnBody s4), scope := fnScope s4, globals := 3, closure := [], defaults := .none, kwdefaults := .none, doc := .none, pyModule := (.str (Str.ofString "cpy313.traceback") 187), annotations := none, code := (.ref 20), closureTuple := .none, builtins := 0 }), (List.toArray [])⟩
noncomputable abbrev o22_10 (P : Params) : Obj := ⟨(.type "tuple"), none, (.seq (List.toArray []) 0), (List.toArray [])⟩
noncomputable abbrev o23_10 (P : Params) : Obj := ⟨.none, none, (.fields (List.toArray [])), (List.toArray [])⟩
noncomputable abbrev o24_10 (P : Params) : Obj := ⟨(.type "tuple"), none, (.seq (List.toArray [(.str (Str.ofString "a") 206), (.str (Str.ofString "b") 207), (.str (Str.ofString "max_cost") 208), (.str (Str.ofString "pre") 209), (.str (Str.ofString "post") 210), (.str (Str.ofString "row") 211), (.str (Str.ofString "result") 212), (.str (Str.ofString "bindex") 213), (.str (Str.ofString "bchar") 214), (.str (Str.ofString "distance") 215), (.str (Str.ofString "minimum") 216), (.str (Str.ofString "index") 217), (.str (Str.ofString "substitute") 218), (.str (Str.ofString "insert_delete") 219)]) 0), (List.toArray [])⟩
noncomputable abbrev o25_10 (P : Params) : Obj := ⟨(.type "tuple"), none, (.seq (List.toArray []) 0), (List.toArray [])⟩
noncomputable abbrev o26_10 (P : Params) : Obj := ⟨.none, none, (.func { name := (Str.ofString "_levenshtein_distance"), qualname := (Str.ofString "_levenshtein_distance"), params := fnParams s5, body := .stmts (fnBody s5), scope := fnScope s5, globals := 0, closure := [], defaults := .none, kwdefaults := .none, doc := .none, pyModule := .none, annotations := none, code := .none, closureTuple := .none, builtins := 0 }), (List.toArray [])⟩
noncomputable abbrev o27_10 (P : Params) : Obj := ⟨(.type "code"), none, (.fields (List.toArray [(.str (Str.ofString "_levenshtein_distance") 203), (.str (Str.ofString "_levenshtein_distance") 204), (.str (Str.ofString "/claim/cut.py") 205), (.int 11 0), (.int 3 0), (.int 0 0), (.int 0 0), (.int 3 0), (.ref 22), (.bool true), (.int 181 0), (.ref 23), .none, (.ref 24), (.ref 25), (.ref 26), (.int 220 0), (.int 11 0), (.str (Str.ofString "/claim/cut.py") 221)])), (List.toArray [])⟩
noncomputable abbrev o28_10 (P : Params) : Obj := ⟨(.type "function"), none, (.func { name := (Str.ofString "_levenshtein_distance"), qualname := (Str.ofString "_levenshtein_distance"), params := fnParams s5, body := .stmts (fnBody s5), scope := fnScope s5, globals := 3, closure := [], defaults := .none, kwdefaults := .none, doc := .none, pyModule := (.str (Str.ofString "cpy313.traceback") 187), annotations := none, code := (.ref 27), closureTuple := .none, builtins := 0 }), (List.toArray [])⟩
noncomputable abbrev o29_10 (P : Params) : Obj := ⟨(.type "tuple"), none, (.seq (List.toArray [(.type "Exception")]) 0), (List.toArray [])⟩
noncomputable abbrev o30_10 (P : Params) : Obj := ⟨(.type "builtin_function_or_method"), none, (.fields (List.toArray [(.builtin "type.__prepare__"), (.type "type")])), (List.toArray [])⟩
noncomputable abbrev o31_10 (P : Params) : Obj := ⟨(.type "dict"), none, (.dict (List.toArray [⟨PyData.keyHash P (Str.ofString "__module__"), (.str (Str.ofString "__module__") 232), (.str (Str.ofString "cpy313.ftplib") 223)⟩, ⟨PyData.keyHash P (Str.ofString "__qualname__"), (.str (Str.ofString "__qualname__") 234), (.str (Str.ofString "Error") 233)⟩, ⟨PyData.keyHash P (Str.ofString "__firstlineno__"), (.str (Str.ofString "__firstlineno__") 236), (.int 50 235)⟩, ⟨PyData.keyHash P (Str.ofString "__static_attributes__"), (.str (Str.ofString "__static_attributes__") 237), (.ref 36)⟩]) 4), (List.toArray [])⟩
noncomputable abbrev o32_10 (P : Params) : Obj := ⟨(.type "tuple"), none, (.seq (List.toArray []) 0), (List.toArray [])⟩
noncomputable abbrev o33_10 (P : Params) : Obj := ⟨.none, none, (.fields (List.toArray [])), (List.toArray [])⟩
noncomputable abbrev o34_10 (P : Params) : Obj := ⟨(.type "code"), none, (.fields (List.toArray [(.str (Str.ofString "Error") 227), (.str (Str.ofString "Error") 228), (.str (Str.ofString "/claim/cut.py") 229), (.int 50 0), (.int 0 0), (.int 0 0), (.int 0 0), (.int 0 0), (.ref 32), (.bool false), (.int 181 0), (.ref 33), .none, .none, .none, .none, (.int 230 0), (.int 50 0), (.str (Str.ofString "/claim/cut.py") 231)])), (List.toArray [])⟩
noncomputable abbrev o35_10 (P : Params) : Obj := ⟨(.type "frame"), none, .plain, (List.toArray [(some (.ref 34)), (some (.ref 3)), (some (.ref 31)), none, (some (.str (Str.ofString "cpy313.ftplib") 223)), none, (some (.ref 0))])⟩
noncomputable abbrev o36_10 (P : Params) : Obj := ⟨(.type "tuple"), none, (.seq (List.toArray []) 0), (List.toArray [])⟩
noncomputable abbrev o37_10 (P : Params) : Obj := ⟨(.type "dict"), none, (.dict (List.toArray [⟨PyData.keyHash P (Str.ofString "__module__"), (.str (Str.ofString "__module__") 232), (.str (Str.ofString "cpy313.ftplib") 223)⟩, ⟨PyData.keyHash P (Str.ofString "__firstlineno__"), (.str (Str.ofString "__firstlineno__") 236), (.int 50 235)⟩, ⟨PyData.keyHash P (Str.ofString "__static_attributes__"), (.str (Str.ofString "__static_attributes__") 237), (.ref 36)⟩, ⟨PyData.keyHash P (Str.ofString "__weakref__"), (.str (Str.ofString "__weakref__") 239), (.ref 39)⟩, ⟨PyData.keyHash P (Str.ofString "__doc__"), (.str (Str.ofString "__doc__") 240), .none⟩]) 3), (List.toArray [])⟩
noncomputable abbrev o38_10 (P : Params) : Obj := ⟨(.type "type"), none, (.cls { name := (Str.ofString "Error"), bases := [(.type "Exception")], mro := [(.ref 38), (.type "Exception"), (.type "BaseException"), (.type "object")], ns := 37, qualname := (Str.ofString "Error"), hasDict := true, slotNames := [], subclasses := [(.ref 51)], abstract := false, collection := none, hasDel := false }), (List.toArray [(some (.ref 29)), none, (some (.str (Str.ofString "Error") 225)), (some (.str (Str.ofString "Error") 233)), (some (.builtin "Exception.__new__")), (some (.bool true))])⟩
noncomputable abbrev o39_10 (P : Params) : Obj := ⟨(.type "getset_descriptor"), none, (.fields (List.toArray [(.str (Str.ofString "__weakref__") 238), (.ref 38), (.builtin "ExceptionGroup.__weakref__"), .none])), (List.toArray [])⟩
noncomputable abbrev o40_10 (P : Params) : Obj := ⟨(.type "super"), none, (.fields (List.toArray [(.ref 38), (.ref 38), (.ref 38)])), (List.toArray [])⟩
noncomputable abbrev o41_10 (P : Params) : Obj := ⟨(.type "builtin_function_or_method"), none, (.fields (List.toArray [(.builtin "object.__init_subclass__"), (.ref 38)])), (List.toArray [])⟩
noncomputable abbrev o42_10 (P : Params) : Obj := ⟨(.type "tuple"), none, (.seq (List.toArray [(.ref 38)]) 0), (List.toArray [])⟩
noncomputable abbrev o43_10 (P : Params) : Obj := ⟨(.type "builtin_function_or_method"), none, (.fields (List.toArray [(.builtin "type.__prepare__"), (.type "type")])), (List.toArray [])⟩
noncomputable abbrev o44_10 (P : Params) : Obj := ⟨(.type "dict"), none, (.dict (List.toArray [⟨PyData.keyHash P (Str.ofString "__module__"), (.str (Str.ofString "__module__") 252), (.str (Str.ofString "cpy313.ftplib") 223)⟩, ⟨PyData.keyHash P (Str.ofString "__qualname__"), (.str (Str.ofString "__qualname__") 254), (.str (Str.ofString "error_reply") 253)⟩, ⟨PyData.keyHash P (Str.ofString "__firstlineno__"), (.str (Str.ofString "__firstlineno__") 256), (.int 52 255)⟩, ⟨PyData.keyHash P (Str.ofString "__static_attributes__"), (.str (Str.ofString "__static_attributes__") 257), (.ref 49)⟩]) 4), (List.toArray [])⟩
noncomputable abbrev o45_10 (P : Params) : Obj := ⟨(.type "tuple"), none, (.seq (List.toArray []) 0), (List.toArray [])⟩
noncomputable abbrev o46_10 (P : Params) : Obj := ⟨.none, none, (.fields (List.toArray [])), (List.toArray [])⟩
noncomputable abbrev o47_10 (P : Params) : Obj := ⟨(.type "code"), none, (.fields (List.toArray [(.str (Str.ofString "error_reply") 247), (.str (Str.ofString "error_reply") 248), (.str (Str.ofString "/claim/cut.py") 249), (.int 52 0), (.int 0 0), (.int 0 0), (.int 0 0), (.int 0 0), (.ref 45), (.bool false), (.int 181 0), (.ref 46), .none, .none, .none, .none, (.int 250 0), (.int 52 0), (.str (Str.ofString "/claim/cut.py") 251)])), (List.toArray [])⟩
noncomputable abbrev o48_10 (P : Params) : Obj := ⟨(.type "frame"), none, .plain, (List.toArray [(some (.ref 47)), (some (.ref 3)), (some (.ref 44)), none, (some (.str (Str.ofString "cpy313.ftplib") 223)), none, (some (.ref 0))])⟩
noncomputable abbrev o49_10 (P : Params) : Obj := ⟨(.type "tuple"), none, (.seq (List.toArray []) 0), (List.toArray [])⟩
noncomputable abbrev o50_10 (P : Params) : Obj := ⟨(.type "dict"), none, (.dict (List.toArray [⟨PyData.keyHash P (Str.ofString "__module__"), (.str (Str.ofString "__module__") 252), (.str (Str.ofString "cpy313.ftplib") 223)⟩, ⟨PyData.keyHash P (Str.ofString "__firstlineno__"), (.str (Str.ofString "__firstlineno__") 256), (.int 52 255)⟩, ⟨PyData.keyHash P (Str.ofString "__static_attributes__"), (.str (Str.ofString "__static_attributes__") 257), (.ref 49)⟩, ⟨PyData.keyHash P (Str.ofString "__doc__"), (.str (Str.ofString "__doc__") 258), .none⟩]) 2), (List.toArray [])⟩
noncomputable abbrev o51_10 (P : Params) : Obj := ⟨(.type "type"), none, (.cls { name := (Str.ofString "error_reply"), bases := [(.ref 38)], mro := [(.ref 51), (.ref 38), (.type "Exception"), (.type "BaseException"), (.type "object")], ns := 50, qualname := (Str.ofString "error_reply"), hasDict := true, slotNames := [], subclasses := [], abstract := false, collection := none, hasDel := false }), (List.toArray [(some (.ref 42)), none, (some (.str (Str.ofString "error_reply") 245)), (some (.str (Str.ofString "error_reply") 253)), (some (.builtin "Exception.__new__")), (some (.bool true))])⟩
noncomputable abbrev o52_10 (P : Params) : Obj := ⟨(.type "super"), none, (.fields (List.toArray [(.ref 51), (.ref 51), (.ref 51)])), (List.toArray [])⟩
noncomputable abbrev o53_10 (P : Params) : Obj := ⟨(.type "builtin_function_or_method"), none, (.fields (List.toArray [(.builtin "object.__init_subclass__"), (.ref 51)])), (List.toArray [])⟩
noncomputable abbrev o54_10 (P : Params) : Obj := ⟨(.type "tuple"), none, (.seq (List.toArray []) 0), (List.toArray [])⟩
noncomputable abbrev o55_10 (P : Params) : Obj := ⟨.none, none, (.fields (List.toArray [])), (List.toArray [])⟩
noncomputable abbrev o56_10 (P : Params) : Obj := ⟨(.type "tuple"), none, (.seq (List.toArray [(.str (Str.ofString "resp") 264), (.str (Str.ofString "dirname") 265), (.str (Str.ofString "i") 266), (.str (Str.ofString "n") 267), (.str (Str.ofString "c") 268)]) 0), (List.toArray [])⟩
noncomputable abbrev o57_10 (P : Params) : Obj := ⟨(.type "tuple"), none, (.seq (List.toArray []) 0), (List.toArray [])⟩
noncomputable abbrev o58_10 (P : Params) : Obj := ⟨.none, none, (.func { name := (Str.ofString "parse257"), qualname := (Str.ofString "parse257"), params := fnParams s9, body := .stmts (fnBody s9), scope := fnScope s9, globals := 0, closure := [], defaults := .none, kwdefaults := .none, doc := .none, pyModule := .none, annotations := none, code := .none, closureTuple := .none, builtins := 0 }), (List.toArray [])⟩
noncomputable abbrev o59_10 (P : Params) : Obj := ⟨(.type "code"), none, (.fields (List.toArray [(.str (Str.ofString "parse257") 261), (.str (Str.ofString "parse257") 262), (.str (Str.ofString "/claim/cut.py") 263), (.int 54 0), (.int 1 0), (.int 0 0), (.int 0 0), (.int 3 0), (.ref 54), (.bool true), (.int 181 0), (.ref 55), .none, (.ref 56), (.ref 57), (.ref 58), (.int 269 0), (.int 54 0), (.str (Str.ofString "/claim/cut.py") 270)])), (List.toArray [])⟩
noncomputable abbrev o60_10 (P : Params) : Obj := ⟨(.type "function"), none, (.func { name := (Str.ofString "parse257"), qualname := (Str.ofString "parse257"), params := fnParams s9, body := .stmts (fnBody s9), scope := fnScope s9, globals := 3, closure := [], defaults := .none, kwdefaults := .none, doc := .none, pyModule := (.str (Str.ofString "cpy313.ftplib") 223), annotations := none, code := (.ref 59), closureTuple := .none, builtins := 0 }), (List.toArray [])⟩
noncomputable abbrev tr10 (P : Params) : BT := (.node (boot_o_0 P) (.node (boot_o_1 P) (.node (o3_10 P) (.node (boot_o_7 P) (.node (o15_10 P) (.node (o31_10 P) .nil .nil) (.node (o47_10 P) .nil .nil)) (.node (o23_10 P) (.node (o39_10 P) .nil .nil) (.node (o55_10 P) .nil .nil))) (.node (o11_A P) (.node (o19_10 P) (.node (o35_10 P) .nil .nil) (.node (o51_10 P) .nil .nil)) (.node (o27_10 P) (.node (o43_10 P) .nil .nil) (.node (o59_10 P) .nil .nil)))) (.node (boot_o_5 P) (.node (boot_o_9 P) (.node (o17_10 P) (.node (o33_10 P) .nil .nil) (.node (o49_10 P) .nil .nil)) (.node (o25_10 P) (.node (o41_10 P) .nil .nil) (.node (o57_10 P) .nil .nil))) (.node (o13_A P) (.node (o21_10 P) (.node (o37_10 P) .nil .nil) (.node (o53_10 P) .nil .nil)) (.node (o29_10 P) (.node (o45_10 P) .nil .nil) .nil)))) (.node (o2_10 P) (.node (boot_o_4 P) (.node (boot_o_8 P) (.node (o16_10 P) (.node (o32_10 P) .nil .nil) (.node (o48_10 P) .nil .nil)) (.node (o24_10 P) (.node (o40_10 P) .nil .nil) (.node (o56_10 P) .nil .nil))) (.node (o12_10 P) (.node (o20_10 P) (.node (o36_10 P) .nil .nil) (.node (o52_10 P) .nil .nil)) (.node (o28_10 P) (.node (o44_10 P) .nil .nil) (.node (o60_10 P) .nil .nil)))) (.node (boot_o_6 P) (.node (boot_o_10 P) (.node (o18_10 P) (.node (o34_10 P) .nil .nil) (.node (o50_10 P) .nil .nil)) (.node (o26_10 P) (.node (o42_10 P) .nil .nil) (.node (o58_10 P) .nil .nil))) (.node (o14_A P) (.node (o22_10 P) (.node (o38_10 P) .nil .nil) (.node (o54_10 P) .nil .nil)) (.node (o30_10 P) (.node (o46_10 P) .nil .nil) .nil)))))
noncomputable abbrev ls10 (P : Params) : List Obj := [boot_o_0 P, boot_o_1 P, o2_10 P, o3_10 P, boot_o_4 P, boot_o_5 P, boot_o_6 P, boot_o_7 P, boot_o_8 P, boot_o_9 P, boot_o_10 P, o11_A P, o12_10 P, o13_A P, o14_A P, o15_10 P, o16_10 P, o17_10 P, o18_10 P, o19_10 P, o20_10 P, o21_10 P, o22_10 P, o23_10 P, o24_10 P, o25_10 P, o26_10 P, o27_10 P, o28_10 P, o29_10 P, o30_10 P, o31_10 P, o32_10 P, o33_10 P, o34_10 P, o35_10 P, o36_10 P, o37_10 P, o38_10 P, o39_10 P, o40_10 P, o41_10 P, o42_10 P, o43_10 P, o44_10 P, o45_10 P, o46_10 P, o47_10 P, o48_10 P, o49_10 P, o50_10 P, o51_10 P, o52_10 P, o53_10 P, o54_10 P, o55_10 P, o56_10 P, o57_10 P, o58_10 P, o59_10 P, o60_10 P]
noncomputable abbrev o3_11 (P : Params) : Obj := ⟨(.type "dict"), none, (.dict (List.toArray [⟨PyData.keyHash P (Str.ofString "__name__"), (.str (Str.ofString "__name__") 165), (.str (Str.ofString "cpy313.stringprep") 272)⟩, ⟨PyData.keyHash P (Str.ofString "__doc__"), (.str (Str.ofString "__doc__") 166), .none⟩, ⟨PyData.keyHash P (Str.ofString "__package__"), (.str (Str.ofString "__package__") 167), .none⟩, ⟨PyData.keyHash P (Str.ofString "__loader__"), (.str (Str.ofString "__loader__") 168), (.builtin "__main__.__loader__#opaque")⟩, ⟨PyData.keyHash P (Str.ofString "__spec__"), (.str (Str.ofString "__spec__") 169), .none⟩, ⟨PyData.keyHash P (Str.ofString "__annotations__"), (.str (Str.ofString "__annotations__") 170), (.ref 6)⟩, ⟨PyData.keyHash P (Str.ofString "__builtins__"), (.str (Str.ofString "__builtins__") 171), (.ref 4)⟩, ⟨PyData.keyHash P (Str.ofString "__file__"), (.str (Str.ofString "__file__") 173), (.str (Str.ofString "/claim/cut.py") 172)⟩, ⟨PyData.keyHash P (Str.ofString "__cached__"), (.str (Str.ofString "__cached__") 174), .none⟩, ⟨PyData.keyHash P (Str.ofString "_MAX_STRING_SIZE"), (.str (Str.ofString "_MAX_STRING_SIZE") 190), (.int 40 189)⟩, ⟨PyData.keyHash P (Str.ofString "_MOVE_COST"), (.str (Str.ofString "_MOVE_COST") 192), (.int 2 191)⟩, ⟨PyData.keyHash P (Str.ofString "_CASE_COST"), (.str (Str.ofString "_CASE_COST") 194), (.int 1 193)⟩, ⟨PyData.keyHash P (Str.ofString "_substitution_cost"), (.str (Str.ofString "_substitution_cost") 202), (.ref 21)⟩, ⟨PyData.keyHash P (Str.ofString "_levenshtein_distance"), (.str (Str.ofString "_levenshtein_distance") 222), (.ref 28)⟩, ⟨PyData.keyHash P (Str.ofString "Error"), (.str (Str.ofString "Error") 244), (.ref 38)⟩, ⟨PyData.keyHash P (Str.ofString "error_reply"), (.str (Str.ofString "error_reply") 260), (.ref 51)⟩, ⟨PyData.keyHash P (Str.ofString "parse257"), (.str (Str.ofString "parse257") 271), (.ref 60)⟩, ⟨PyData.keyHash P (Str.ofString "b1_set"), (.str (Str.ofString "b1_set") 333), (.ref 68)⟩]) 18), (List.toArray [])⟩
noncomputable abbrev o61_11 (P : Params) : Obj := ⟨(.type "list"), none, (.seq (List.toArray [(.int 173 274), (.int 847 275), (.int 6150 276), (.int 6155 277), (.int 6156 278), (.int 6157 279), (.int 8203 280), (.int 8204 281), (.int 8205 282), (.int 8288 283), (.int 65279 284)]) 0), (List.toArray [])⟩
noncomputable abbrev o62_11 (P : Params) : Obj := ⟨(.type "range"), none, (.fields (List.toArray [(.int 65024 285), (.int 65040 286), (.int 1 287)])), (List.toArray [])⟩
noncomputable abbrev o63_11 (P : Params) : Obj := ⟨(.type "list"), none, (.seq (List.toArray [(.int 65024 290), (.int 65025 291), (.int 65026 292), (.int 65027 293), (.int 65028 294), (.int 65029 295), (.int 65030 296), (.int 65031 297), (.int 65032 298), (.int 65033 299), (.int 65034 300), (.int 65035 301), (.int 65036 302), (.int 65037 303), (.int 65038 304), (.int 65039 305)]) 18), (List.toArray [])⟩
noncomputable abbrev o64_11 (P : Params) : Obj := ⟨(.type "range_iterator"), none, (.fields (List.toArray [(.int 65040 0), (.int 0 0), (.int 1 0)])), (List.toArray [])⟩
noncomputable abbrev o65_11 (P : Params) : Obj := ⟨(.type "tuple"), none, (.seq (List.toArray []) 0), (List.toArray [])⟩
noncomputable abbrev o66_11 (P : Params) : Obj := ⟨(.type "StopIteration"), none, (.fields (List.toArray [(.ref 65), .none, .none, .none, (.bool false), .none])), (List.toArray [])⟩
noncomputable abbrev o67_11 (P : Params) : Obj := ⟨(.type "list"), none, (.seq (List.toArray [(.int 173 274), (.int 847 275), (.int 6150 276), (.int 6155 277), (.int 6156 278), (.int 6157 279), (.int 8203 280), (.int 8204 281), (.int 8205 282), (.int 8288 283), (.int 65279 284), (.int 65024 290), (.int 65025 291), (.int 65026 292), (.int 65027 293), (.int 65028 294), (.int 65029 295), (.int 65030 296), (.int 65031 297), (.int 65032 298), (.int 65033 299), (.int 65034 300), (.int 65035 301), (.int 65036 302), (.int 65037 303), (.int 65038 304), (.int 65039 305)]) 0), (List.toArray [])⟩
noncomputable abbrev o68_11 (P : Params) : Obj := ⟨(.type "set"), none, (.set (List.toArray [(65024, (.int 65024 290)), (65025, (.int 65025 291)), (65026, (.int 65026 292)), (65027, (.int 65027 293)), (65028, (.int 65028 294)), (65029, (.int 65029 295)), (6150, (.int 6150 276)), (65030, (.int 65030 296)), (65031, (.int 65031 297)), (65032, (.int 65032 298)), (65033, (.int 65033 299)), (6155, (.int 6155 277)), (6156, (.int 6156 278)), (6157, (.int 6157 279)), (8203, (.int 8203 280)), (8204, (.int 8204 281)), (8205, (.int 8205 282)), (65034, (.int 65034 300)), (65035, (.int 65035 301)), (65036, (.int 65036 302)), (65037, (.int 65037 303)), (65038, (.int 65038 304)), (65039, (.int 65039 305)), (173, (.int 173 274)), (847, (.int 847 275)), (8288, (.int 8288 283)), (65279, (.int 65279 284))]) 29 ⟨127, (List.toArray [0, 1, 2, 3, 4, 5, 6, 7, 8, 9, 10, 11, 12, 13, 14, 15, 16, 17, 18, 19, 20, 21, 22, 45, 79, 96, 127]), (List.toArray []), 0, (!P.followText "set-order"), 2, true⟩), (List.toArray [])⟩
noncomputable abbrev o69_11 (P : Params) : Obj := ⟨(.type "list_iterator"), none, (.fields (List.toArray [.none, (.int 27 0)])), (List.toArray [])⟩
noncomputable abbrev o70_11 (P : Params) : Obj := ⟨(.type "tuple"), none, (.seq (List.toArray []) 0), (List.toArray [])⟩
noncomputable abbrev o71_11 (P : Params) : Obj := ⟨(.type "StopIteration"), none, (.fields (List.toArray [(.ref 70), .none, .none, .none, (.bool false), .none])), (List.toArray [])⟩
noncomputable abbrev tr11 (P : Params) : BT := (.node (boot_o_0 P) (.node (boot_o_1 P) (.node (o3_11 P) (.node (boot_o_7 P) (.node (o15_10 P) (.node (o31_10 P) (.node (o63_11 P) .nil .nil) .nil) (.node (o47_10 P) .nil .nil)) (.node (o23_10 P) (.node (o39_10 P) (.node (o71_11 P) .nil .nil) .nil) (.node (o55_10 P) .nil .nil))) (.node (o11_A P) (.node (o19_10 P) (.node (o35_10 P) (.node (o67_11 P) .nil .nil) .nil) (.node (o51_10 P) .nil .nil)) (.node (o27_10 P) (.node (o43_10 P) .nil .nil) (.node (o59_10 P) .nil .nil)))) (.node (boot_o_5 P) (.node (boot_o_9 P) (.node (o17_10 P) (.node (o33_10 P) (.node (o65_11 P) .nil .nil) .nil) (.node (o49_10 P) .nil .nil)) (.node (o25_10 P) (.node (o41_10 P) .nil .nil) (.node (o57_10 P) .nil .nil))) (.node (o13_A P) (.node (o21_10 P) (.node (o37_10 P) (.node (o69_11 P) .nil .nil) .nil) (.node (o53_10 P) .nil .nil)) (.node (o29_10 P) (.node (o45_10 P) .nil .nil) (.node (o61_11 P) .nil .nil))))) (.node (o2_10 P) (.node (boot_o_4 P) (.node (boot_o_8 P) (.node (o16_10 P) (.node (o32_10 P) (.node (o64_11 P) .nil .nil) .nil) (.node (o48_10 P) .nil .nil)) (.node (o24_10 P) (.node (o40_10 P) .nil .nil) (.node (o56_10 P) .nil .nil))) (.node (o12_10 P) (.node (o20_10 P) (.node (o36_10 P) (.node (o68_11 P) .nil .nil) .nil) (.node (o52_10 P) .nil .nil)) (.node (o28_10 P) (.node (o44_10 P) .nil .nil) (.node (o60_10 P) .nil .nil)))) (.node (boot_o_6 P) (.node (boot_o_10 P) (.node (o18_10 P) (.node (o34_10 P) (.node (o66_11 P) .nil .nil) .nil) (.node (o50_10 P) .nil .nil)) (.node (o26_10 P) (.node (o42_10 P) .nil .nil) (.node (o58_10 P) .nil .nil))) (.node (o14_A P) (.node (o22_10 P) (.node (o38_10 P) (.node (o70_11 P) .nil .nil) .nil) (.node (o54_10 P) .nil .nil)) (.node (o30_10 P) (.node (o46_10 P) .nil .nil) (.node (o62_11 P) .nil .nil))))))
noncomputable abbrev ls11 (P : Params) : List Obj := [boot_o_0 P, boot_o_1 P, o2_10 P, o3_11 P, boot_o_4 P, boot_o_5 P, boot_o_6 P, boot_o_7 P, boot_o_8 P, boot_o_9 P, boot_o_10 P, o11_A P, o12_10 P, o13_A P, o14_A P, o15_10 P, o16_10 P, o17_10 P, o18_10 P, o19_10 P, o20_10 P, o21_10 P, o22_10 P, o23_10 P, o24_10 P, o25_10 P, o26_10 P, o27_10 P, o28_10 P, o29_10 P, o30_10 P, o31_10 P, o32_10 P, o33_10 P, o34_10 P, o35_10 P, o36_10 P, o37_10 P, o38_10 P, o39_10 P, o40_10 P, o41_10 P, o42_10 P, o43_10 P, o44_10 P, o45_10 P, o46_10 P, o47_10 P, o48_10 P, o49_10 P, o50_10 P, o51_10 P, o52_10 P, o53_10 P, o54_10 P, o55_10 P, o56_10 P, o57_10 P, o58_10 P, o59_10 P, o60_10 P, o61_11 P, o62_11 P, o63_11 P, o64_11 P, o65_11 P, o66_11 P, o67_11 P, o68_11 P, o69_11 P, o70_11 P, o71_11 P]
noncomputable abbrev o3_12 (P : Params) : Obj := ⟨(.type "dict"), none, (.dict (List.toArray [⟨PyData.keyHash P (Str.ofString "__name__"), (.str (Str.ofString "__name__") 165), (.str (Str.ofString "cpy313.stringprep") 272)⟩, ⟨PyData.keyHash P (Str.ofString "__doc__"), (.str (Str.ofString "__doc__") 166), .none⟩, ⟨PyData.keyHash P (Str.ofString "__package__"), (.str (Str.ofString "__package__") 167), .none⟩, ⟨PyData.keyHash P (Str.ofString "__loader__"), (.str (Str.ofString "__loader__") 168), (.builtin "__main__.__loader__#opaque")⟩, ⟨PyData.keyHash P (Str.ofString "__spec__"), (.str (Str.ofString "__spec__") 169), .none⟩, ⟨PyData.keyHash P (Str.ofString "__annotations__"), (.str (Str.ofString "__annotations__") 170), (.ref 6)⟩, ⟨PyData.keyHash P (Str.ofString "__builtins__"), (.str (Str.ofString "__builtins__") 171), (.ref 4)⟩, ⟨PyData.keyHash P (Str.ofString "__file__"), (.str (Str.ofString "__file__") 173), (.str (Str.ofString "/claim/cut.py") 172)⟩, ⟨PyData.keyHash P (Str.ofString "__cached__"), (.str (Str.ofString "__cached__") 174), .none⟩, ⟨PyData.keyHash P (Str.ofString "_MAX_STRING_SIZE"), (.str (Str.ofString "_MAX_STRING_SIZE") 190), (.int 40 189)⟩, ⟨PyData.keyHash P (Str.ofString "_MOVE_COST"), (.str (Str.ofString "_MOVE_COST") 192), (.int 2 191)⟩, ⟨PyData.keyHash P (Str.ofString "_CASE_COST"), (.str (Str.ofString "_CASE_COST") 194), (.int 1 193)⟩, ⟨PyData.keyHash P (Str.ofString "_substitution_cost"), (.str (Str.ofString "_substitution_cost") 202), (.ref 21)⟩, ⟨PyData.keyHash P (Str.ofString "_levenshtein_distance"), (.str (Str.ofString "_levenshtein_distance") 222), (.ref 28)⟩, ⟨PyData.keyHash P (Str.ofString "Error"), (.str (Str.ofString "Error") 244), (.ref 38)⟩, ⟨PyData.keyHash P (Str.ofString "error_reply"), (.str (Str.ofString "error_reply") 260), (.ref 51)⟩, ⟨PyData.keyHash P (Str.ofString "parse257"), (.str (Str.ofString "parse257") 271), (.ref 60)⟩, ⟨PyData.keyHash P (Str.ofString "b1_set"), (.str (Str.ofString "b1_set") 333), (.ref 68)⟩, ⟨PyData.keyHash P (Str.ofString "in_table_b1"), (.str (Str.ofString "in_table_b1") 340), (.ref 78)⟩]) 19), (List.toArray [])⟩
noncomputable abbrev o12_12 (P : Params) : Obj := ⟨.none, none, (.fields (List.toArray [(.int 5 0), (.int 0 0), (.ref 20), (.int 11 0), (.int 0 0), (.ref 27), (.int 50 0), (.int 0 0), (.ref 34), (.int 52 0), (.int 0 0), (.ref 47), (.int 54 0), (.int 0 0), (.ref 59), (.int 73 0), (.int 0 0), (.ref 77)])), (List.toArray [])⟩
noncomputable abbrev o72_12 (P : Params) : Obj := ⟨(.type "tuple"), none, (.seq (List.toArray []) 0), (List.toArray [])⟩
noncomputable abbrev o73_12 (P : Params) : Obj := ⟨.none, none, (.fields (List.toArray [])), (List.toArray [])⟩
noncomputable abbrev o74_12 (P : Params) : Obj := ⟨(.type "tuple"), none, (.seq (List.toArray [(.str (Str.ofString "code") 337)]) 0), (List.toArray [])⟩
noncomputable abbrev o75_12 (P : Params) : Obj := ⟨(.type "tuple"), none, (.seq (List.toArray []) 0), (List.toArray [])⟩
noncomputable abbrev o76_12 (P : Params) : Obj := ⟨.none, none, (.func { name := (Str.ofString "in_table_b1"), qualname := (Str.ofString "in_table_b1"), params := fnParams s12, body := .stmts (fnBody s12), scope := fnScope s12, globals := 0, closure := [], defaults := .none, kwdefaults := .none, doc := .none, pyModule := .none, annotations := none, code := .none, closureTuple := .none, builtins := 0 }), (List.toArray [])⟩
noncomputable abbrev o77_12 (P : Params) : Obj := ⟨(.type "code"), none, (.fields (List.toArray [(.str (Str.ofString "in_table_b1") 334), (.str (Str.ofString "in_table_b1") 335), (.str (Str.ofString "/claim/cut.py") 336), (.int 73 0), (.int 1 0), (.int 0 0), (.int 0 0), (.int 3 0), (.ref 72), (.bool true), (.int 181 0), (.ref 73), .none, (.ref 74), (.ref 75), (.ref 76), (.int 338 0), (.int 73 0), (.str (Str.ofString "/claim/cut.py") 339)])), (List.toArray [])⟩
noncomputable abbrev o78_12 (P : Params) : Obj := ⟨(.type "function"), none, (.func { name := (Str.ofString "in_table_b1"), qualname := (Str.ofString "in_table_b1"), params := fnParams s12, body := .stmts (fnBody s12), scope := fnScope s12, globals := 3, closure := [], defaults := .none, kwdefaults := .none, doc := .none, pyModule := (.str (Str.ofString "cpy313.stringprep") 272), annotations := none, code := (.ref 77), closureTuple := .none, builtins := 0 }), (List.toArray [])⟩
noncomputable abbrev tr12 (P : Params) : BT := (.node (boot_o_0 P) (.node (boot_o_1 P) (.node (o3_12 P) (.node (boot_o_7 P) (.node (o15_10 P) (.node (o31_10 P) (.node (o63_11 P) .nil .nil) .nil) (.node (o47_10 P) .nil .nil)) (.node (o23_10 P) (.node (o39_10 P) (.node (o71_11 P) .nil .nil) .nil) (.node (o55_10 P) .nil .nil))) (.node (o11_A P) (.node (o19_10 P) (.node (o35_10 P) (.node (o67_11 P) .nil .nil) .nil) (.node (o51_10 P) .nil .nil)) (.node (o27_10 P) (.node (o43_10 P) (.node (o75_12 P) .nil .nil) .nil) (.node (o59_10 P) .nil .nil)))) (.node (boot_o_5 P) (.node (boot_o_9 P) (.node (o17_10 P) (.node (o33_10 P) (.node (o65_11 P) .nil .nil) .nil) (.node (o49_10 P) .nil .nil)) (.node (o25_10 P) (.node (o41_10 P) (.node (o73_12 P) .nil .nil) .nil) (.node (o57_10 P) .nil .nil))) (.node (o13_A P) (.node (o21_10 P) (.node (o37_10 P) (.node (o69_11 P) .nil .nil) .nil) (.node (o53_10 P) .nil .nil)) (.node (o29_10 P) (.node (o45_10 P) (.node (o77_12 P) .nil .nil) .nil) (.node (o61_11 P) .nil .nil))))) (.node (o2_10 P) (.node (boot_o_4 P) (.node (boot_o_8 P) (.node (o16_10 P) (.node (o32_10 P) (.node (o64_11 P) .nil .nil) .nil) (.node (o48_10 P) .nil .nil)) (.node (o24_10 P) (.node (o40_10 P) (.node (o72_12 P) .nil .nil) .nil) (.node (o56_10 P) .nil .nil))) (.node (o12_12 P) (.node (o20_10 P) (.node (o36_10 P) (.node (o68_11 P) .nil .nil) .nil) (.node (o52_10 P) .nil .nil)) (.node (o28_10 P) (.node (o44_10 P) (.node (o76_12 P) .nil .nil) .nil) (.node (o60_10 P) .nil .nil)))) (.node (boot_o_6 P) (.node (boot_o_10 P) (.node (o18_10 P) (.node (o34_10 P) (.node (o66_11 P) .nil .nil) .nil) (.node (o50_10 P) .nil .nil)) (.node (o26_10 P) (.node (o42_10 P) (.node (o74_12 P) .nil .nil) .nil) (.node (o58_10 P) .nil .nil))) (.node (o14_A P) (.node (o22_10 P) (.node (o38_10 P) (.node (o70_11 P) .nil .nil) .nil) (.node (o54_10 P) .nil .nil)) (.node (o30_10 P) (.node (o46_10 P) (.node (o78_12 P) .nil .nil) .nil) (.node (o62_11 P) .nil .nil))))))
noncomputable abbrev ls12 (P : Params) : List Obj := [boot_o_0 P, boot_o_1 P, o2_10 P, o3_12 P, boot_o_4 P, boot_o_5 P, boot_o_6 P, boot_o_7 P, boot_o_8 P, boot_o_9 P, boot_o_10 P, o11_A P, o12_12 P, o13_A P, o14_A P, o15_10 P, o16_10 P, o17_10 P, o18_10 P, o19_10 P, o20_10 P, o21_10 P, o22_10 P, o23_10 P, o24_10 P, o25_10 P, o26_10 P, o27_10 P, o28_10 P, o29_10 P, o30_10 P, o31_10 P, o32_10 P, o33_10 P, o34_10 P, o35_10 P, o36_10 P, o37_10 P, o38_10 P, o39_10 P, o40_10 P, o41_10 P, o42_10 P, o43_10 P, o44_10 P, o45_10 P, o46_10 P, o47_10 P, o48_10 P, o49_10 P, o50_10 P, o51_10 P, o52_10 P, o53_10 P, o54_10 P, o55_10 P, o56_10 P, o57_10 P, o58_10 P, o59_10 P, o60_10 P, o61_11 P, o62_11 P, o63_11 P, o64_11 P, o65_11 P, o66_11 P, o67_11 P, o68_11 P, o69_11 P, o70_11 P, o71_11 P, o72_12 P, o73_12 P, o74_12 P, o75_12 P, o76_12 P, o77_12 P, o78_12 P]
noncomputable abbrev kvs : List (Int × Str) := kvsOf (dictKeys s13) (dictVals s13)
noncomputable def dictObjs : List Obj := (dispObjs 341 kvs 38 ++ [dO (entsBy 2 (341 + 51 * 38) (kvs.drop (17 * 38))) 4]).set 0 (dO (entsBy 3 341 (kvs.take (17 * 38)) ++ entsBy 2 (341 + 51 * 38) (kvs.drop (17 * 38))) 650)
noncomputable abbrev big79 (P : Params) : Obj := dictObjs.getD 0 default
noncomputable abbrev big80 (P : Params) : Obj := dictObjs.getD 1 default
noncomputable abbrev big81 (P : Params) : Obj := dictObjs.getD 2 default
noncomputable abbrev big82 (P : Params) : Obj := dictObjs.getD 3 default
noncomputable abbrev big83 (P : Params) : Obj := dictObjs.getD 4 default
noncomputable abbrev big84 (P : Params) : Obj := dictObjs.getD 5 default
noncomputable abbrev big85 (P : Params) : Obj := dictObjs.getD 6 default
noncomputable abbrev big86 (P : Params) : Obj := dictObjs.getD 7 default
noncomputable abbrev big87 (P : Params) : Obj := dictObjs.getD 8 default
noncomputable abbrev big88 (P : Params) : Obj := dictObjs.getD 9 default
noncomputable abbrev big89 (P : Params) : Obj := dictObjs.getD 10 default
noncomputable abbrev big90 (P : Params) : Obj := dictObjs.getD 11 default
noncomputable abbrev big91 (P : Params) : Obj := dictObjs.getD 12 default
noncomputable abbrev big92 (P : Params) : Obj := dictObjs.getD 13 default
noncomputable abbrev big93 (P : Params) : Obj := dictObjs.getD 14 default
noncomputable abbrev big94 (P : Params) : Obj := dictObjs.getD 15 default
noncomputable abbrev big95 (P : Params) : Obj := dictObjs.getD 16 default
noncomputable abbrev big96 (P : Params) : Obj := dictObjs.getD 17 default
noncomputable abbrev big97 (P : Params) : Obj := dictObjs.getD 18 default
noncomputable abbrev big98 (P : Params) : Obj := dictObjs.getD 19 default
noncomputable abbrev big99 (P : Params) : Obj := dictObjs.getD 20 default
noncomputable abbrev big100 (P : Params) : Obj := dictObjs.getD 21 default
noncomputable abbrev big101 (P : Params) : Obj := dictObjs.getD 22 default
noncomputable abbrev big102 (P : Params) : Obj := dictObjs.getD 23 default
noncomputable abbrev big103 (P : Params) : Obj := dictObjs.getD 24 default
noncomputable abbrev big104 (P : Params) : Obj := dictObjs.getD 25 default
noncomputable abbrev big105 (P : Params) : Obj := dictObjs.getD 26 default
noncomputable abbrev big106 (P : Params) : Obj := dictObjs.getD 27 default
noncomputable abbrev big107 (P : Params) : Obj := dictObjs.getD 28 default
noncomputable abbrev big108 (P : Params) : Obj := dictObjs.getD 29 default
noncomputable abbrev big109 (P : Params) : Obj := dictObjs.getD 30 default
noncomputable abbrev big110 (P : Params) : Obj := dictObjs.getD 31 default
noncomputable abbrev big111 (P : Params) : Obj := dictObjs.getD 32 default
noncomputable abbrev big112 (P : Params) : Obj := dictObjs.getD 33 default
noncomputable abbrev big113 (P : Params) : Obj := dictObjs.getD 34 default
noncomputable abbrev big114 (P : Params) : Obj := dictObjs.getD 35 default
noncomputable abbrev big115 (P : Params) : Obj := dictObjs.getD 36 default
noncomputable abbrev big116 (P : Params) : Obj := dictObjs.getD 37 default
noncomputable abbrev big117 (P : Params) : Obj := dictObjs.getD 38 default
noncomputable abbrev o3_13 (P : Params) : Obj := ⟨(.type "dict"), none, (.dict (List.toArray [⟨PyData.keyHash P (Str.ofString "__name__"), (.str (Str.ofString "__name__") 165), (.str (Str.ofString "cpy313.stringprep") 272)⟩, ⟨PyData.keyHash P (Str.ofString "__doc__"), (.str (Str.ofString "__doc__") 166), .none⟩, ⟨PyData.keyHash P (Str.ofString "__package__"), (.str (Str.ofString "__package__") 167), .none⟩, ⟨PyData.keyHash P (Str.ofString "__loader__"), (.str (Str.ofString "__loader__") 168), (.builtin "__main__.__loader__#opaque")⟩, ⟨PyData.keyHash P (Str.ofString "__spec__"), (.str (Str.ofString "__spec__") 169), .none⟩, ⟨PyData.keyHash P (Str.ofString "__annotations__"), (.str (Str.ofString "__annotations__") 170), (.ref 6)⟩, ⟨PyData.keyHash P (Str.ofString "__builtins__"), (.str (Str.ofString "__builtins__") 171), (.ref 4)⟩, ⟨PyData.keyHash P (Str.ofString "__file__"), (.str (Str.ofString "__file__") 173), (.str (Str.ofString "/claim/cut.py") 172)⟩, ⟨PyData.keyHash P (Str.ofString "__cached__"), (.str (Str.ofString "__cached__") 174), .none⟩, ⟨PyData.keyHash P (Str.ofString "_MAX_STRING_SIZE"), (.str (Str.ofString "_MAX_STRING_SIZE") 190), (.int 40 189)⟩, ⟨PyData.keyHash P (Str.ofString "_MOVE_COST"), (.str (Str.ofString "_MOVE_COST") 192), (.int 2 191)⟩, ⟨PyData.keyHash P (Str.ofString "_CASE_COST"), (.str (Str.ofString "_CASE_COST") 194), (.int 1 193)⟩, ⟨PyData.keyHash P (Str.ofString "_substitution_cost"), (.str (Str.ofString "_substitution_cost") 202), (.ref 21)⟩, ⟨PyData.keyHash P (Str.ofString "_levenshtein_distance"), (.str (Str.ofString "_levenshtein_distance") 222), (.ref 28)⟩, ⟨PyData.keyHash P (Str.ofString "Error"), (.str (Str.ofString "Error") 244), (.ref 38)⟩, ⟨PyData.keyHash P (Str.ofString "error_reply"), (.str (Str.ofString "error_reply") 260), (.ref 51)⟩, ⟨PyData.keyHash P (Str.ofString "parse257"), (.str (Str.ofString "parse257") 271), (.ref 60)⟩, ⟨PyData.keyHash P (Str.ofString "b1_set"), (.str (Str.ofString "b1_set") 333), (.ref 68)⟩, ⟨PyData.keyHash P (Str.ofString "in_table_b1"), (.str (Str.ofString "in_table_b1") 340), (.ref 78)⟩, ⟨PyData.keyHash P (Str.ofString "b3_exceptions"), (.str (Str.ofString "b3_exceptions") 2291), (.ref 79)⟩]) 20), (List.toArray [])⟩
noncomputable abbrev tr13 (P : Params) : BT := (.node (boot_o_0 P) (.node (boot_o_1 P) (.node (o3_13 P) (.node (boot_o_7 P) (.node (o15_10 P) (.node (o31_10 P) (.node (o63_11 P) .nil .nil) (.node (big95 P) .nil .nil)) (.node (o47_10 P) (.node (big79 P) .nil .nil) (.node (big111 P) .nil .nil))) (.node (o23_10 P) (.node (o39_10 P) (.node (o71_11 P) .nil .nil) (.node (big103 P) .nil .nil)) (.node (o55_10 P) (.node (big87 P) .nil .nil) .nil))) (.node (o11_A P) (.node (o19_10 P) (.node (o35_10 P) (.node (o67_11 P) .nil .nil) (.node (big99 P) .nil .nil)) (.node (o51_10 P) (.node (big83 P) .nil .nil) (.node (big115 P) .nil .nil))) (.node (o27_10 P) (.node (o43_10 P) (.node (o75_12 P) .nil .nil) (.node (big107 P) .nil .nil)) (.node (o59_10 P) (.node (big91 P) .nil .nil) .nil)))) (.node (boot_o_5 P) (.node (boot_o_9 P) (.node (o17_10 P) (.node (o33_10 P) (.node (o65_11 P) .nil .nil) (.node (big97 P) .nil .nil)) (.node (o49_10 P) (.node (big81 P) .nil .nil) (.node (big113 P) .nil .nil))) (.node (o25_10 P) (.node (o41_10 P) (.node (o73_12 P) .nil .nil) (.node (big105 P) .nil .nil)) (.node (o57_10 P) (.node (big89 P) .nil .nil) .nil))) (.node (o13_A P) (.node (o21_10 P) (.node (o37_10 P) (.node (o69_11 P) .nil .nil) (.node (big101 P) .nil .nil)) (.node (o53_10 P) (.node (big85 P) .nil .nil) (.node (big117 P) .nil .nil))) (.node (o29_10 P) (.node (o45_10 P) (.node (o77_12 P) .nil .nil) (.node (big109 P) .nil .nil)) (.node (o61_11 P) (.node (big93 P) .nil .nil) .nil))))) (.node (o2_10 P) (.node (boot_o_4 P) (.node (boot_o_8 P) (.node (o16_10 P) (.node (o32_10 P) (.node (o64_11 P) .nil .nil) (.node (big96 P) .nil .nil)) (.node (o48_10 P) (.node (big80 P) .nil .nil) (.node (big112 P) .nil .nil))) (.node (o24_10 P) (.node (o40_10 P) (.node (o72_12 P) .nil .nil) (.node (big104 P) .nil .nil)) (.node (o56_10 P) (.node (big88 P) .nil .nil) .nil))) (.node (o12_12 P) (.node (o20_10 P) (.node (o36_10 P) (.node (o68_11 P) .nil .nil) (.node (big100 P) .nil .nil)) (.node (o52_10 P) (.node (big84 P) .nil .nil) (.node (big116 P) .nil .nil))) (.node (o28_10 P) (.node (o44_10 P) (.node (o76_12 P) .nil .nil) (.node (big108 P) .nil .nil)) (.node (o60_10 P) (.node (big92 P) .nil .nil) .nil)))) (.node (boot_o_6 P) (.node (boot_o_10 P) (.node (o18_10 P) (.node (o34_10 P) (.node (o66_11 P) .nil .nil) (.node (big98 P) .nil .nil)) (.node (o50_10 P) (.node (big82 P) .nil .nil) (.node (big114 P) .nil .nil))) (.node (o26_10 P) (.node (o42_10 P) (.node (o74_12 P) .nil .nil) (.node (big106 P) .nil .nil)) (.node (o58_10 P) (.node (big90 P) .nil .nil) .nil))) (.node (o14_A P) (.node (o22_10 P) (.node (o38_10 P) (.node (o70_11 P) .nil .nil) (.node (big102 P) .nil .nil)) (.node (o54_10 P) (.node (big86 P) .nil .nil) .nil)) (.node (o30_10 P) (.node (o46_10 P) (.node (o78_12 P) .nil .nil) (.node (big110 P) .nil .nil)) (.node (o62_11 P) (.node (big94 P) .nil .nil) .nil))))))
noncomputable abbrev ls13 (P : Params) : List Obj := [boot_o_0 P, boot_o_1 P, o2_10 P, o3_13 P, boot_o_4 P, boot_o_5 P, boot_o_6 P, boot_o_7 P, boot_o_8 P, boot_o_9 P, boot_o_10 P, o11_A P, o12_12 P, o13_A P, o14_A P, o15_10 P, o16_10 P, o17_10 P, o18_10 P, o19_10 P, o20_10 P, o21_10 P, o22_10 P, o23_10 P, o24_10 P, o25_10 P, o26_10 P, o27_10 P, o28_10 P, o29_10 P, o30_10 P, o31_10 P, o32_10 P, o33_10 P, o34_10 P, o35_10 P, o36_10 P, o37_10 P, o38_10 P, o39_10 P, o40_10 P, o41_10 P, o42_10 P, o43_10 P, o44_10 P, o45_10 P, o46_10 P, o47_10 P, o48_10 P, o49_10 P, o50_10 P, o51_10 P, o52_10 P, o53_10 P, o54_10 P, o55_10 P, o56_10 P, o57_10 P, o58_10 P, o59_10 P, o60_10 P, o61_11 P, o62_11 P, o63_11 P, o64_11 P, o65_11 P, o66_11 P, o67_11 P, o68_11 P, o69_11 P, o70_11 P, o71_11 P, o72_12 P, o73_12 P, o74_12 P, o75_12 P, o76_12 P, o77_12 P, o78_12 P, big79 P, big80 P, big81 P, big82 P, big83 P, big84 P, big85 P, big86 P, big87 P, big88 P, big89 P, big90 P, big91 P, big92 P, big93 P, big94 P, big95 P, big96 P, big97 P, big98 P, big99 P, big100 P, big101 P, big102 P, big103 P, big104 P, big105 P, big106 P, big107 P, big108 P, big109 P, big110 P, big111 P, big112 P, big113 P, big114 P, big115 P, big116 P, big117 P]
noncomputable abbrev o3_F (P : Params) : Obj := ⟨(.type "dict"), none, (.dict (List.toArray [⟨PyData.keyHash P (Str.ofString "__name__"), (.str (Str.ofString "__name__") 165), (.str (Str.ofString "law_tp0048_02") 2300)⟩, ⟨PyData.keyHash P (Str.ofString "__doc__"), (.str (Str.ofString "__doc__") 166), .none⟩, ⟨PyData.keyHash P (Str.ofString "__package__"), (.str (Str.ofString "__package__") 167), .none⟩, ⟨PyData.keyHash P (Str.ofString "__loader__"), (.str (Str.ofString "__loader__") 168), (.builtin "__main__.__loader__#opaque")⟩, ⟨PyData.keyHash P (Str.ofString "__spec__"), (.str (Str.ofString "__spec__") 169), .none⟩, ⟨PyData.keyHash P (Str.ofString "__annotations__"), (.str (Str.ofString "__annotations__") 170), (.ref 6)⟩, ⟨PyData.keyHash P (Str.ofString "__builtins__"), (.str (Str.ofString "__builtins__") 171), (.ref 4)⟩, ⟨PyData.keyHash P (Str.ofString "__file__"), (.str (Str.ofString "__file__") 173), (.str (Str.ofString "/claim/cut.py") 172)⟩, ⟨PyData.keyHash P (Str.ofString "__cached__"), (.str (Str.ofString "__cached__") 174), .none⟩, ⟨PyData.keyHash P (Str.ofString "_MAX_STRING_SIZE"), (.str (Str.ofString "_MAX_STRING_SIZE") 190), (.int 40 189)⟩, ⟨PyData.keyHash P (Str.ofString "_MOVE_COST"), (.str (Str.ofString "_MOVE_COST") 192), (.int 2 191)⟩, ⟨PyData.keyHash P (Str.ofString "_CASE_COST"), (.str (Str.ofString "_CASE_COST") 194), (.int 1 193)⟩, ⟨PyData.keyHash P (Str.ofString "_substitution_cost"), (.str (Str.ofString "_substitution_cost") 202), (.ref 21)⟩, ⟨PyData.keyHash P (Str.ofString "_levenshtein_distance"), (.str (Str.ofString "_levenshtein_distance") 222), (.ref 28)⟩, ⟨PyData.keyHash P (Str.ofString "Error"), (.str (Str.ofString "Error") 244), (.ref 38)⟩, ⟨PyData.keyHash P (Str.ofString "error_reply"), (.str (Str.ofString "error_reply") 260), (.ref 51)⟩, ⟨PyData.keyHash P (Str.ofString "parse257"), (.str (Str.ofString "parse257") 271), (.ref 60)⟩, ⟨PyData.keyHash P (Str.ofString "b1_set"), (.str (Str.ofString "b1_set") 333), (.ref 68)⟩, ⟨PyData.keyHash P (Str.ofString "in_table_b1"), (.str (Str.ofString "in_table_b1") 340), (.ref 78)⟩, ⟨PyData.keyHash P (Str.ofString "b3_exceptions"), (.str (Str.ofString "b3_exceptions") 2291), (.ref 79)⟩, ⟨PyData.keyHash P (Str.ofString "map_table_b3"), (.str (Str.ofString "map_table_b3") 2299), (.ref 124)⟩, ⟨PyData.keyHash P (Str.ofString "_law_spelled"), (.str (Str.ofString "_law_spelled") 2315), (.ref 131)⟩, ⟨PyData.keyHash P (Str.ofString "_law_price"), (.str (Str.ofString "_law_price") 2323), (.ref 138)⟩, ⟨PyData.keyHash P (Str.ofString "_law_prepared"), (.str (Str.ofString "_law_prepared") 2329), (.ref 143)⟩, ⟨PyData.keyHash P (Str.ofString "law"), (.str (Str.ofString "law") 2335), (.ref 148)⟩]) 25), (List.toArray [])⟩
noncomputable abbrev o12_F (P : Params) : Obj := ⟨.none, none, (.fields (List.toArray [(.int 5 0), (.int 0 0), (.ref 20), (.int 11 0), (.int 0 0), (.ref 27), (.int 50 0), (.int 0 0), (.ref 34), (.int 52 0), (.int 0 0), (.ref 47), (.int 54 0), (.int 0 0), (.ref 59), (.int 73 0), (.int 0 0), (.ref 77), (.int 76 0), (.int 0 0), (.ref 123), (.int 82 0), (.int 0 0), (.ref 130), (.int 92 0), (.int 0 0), (.ref 137), (.int 98 0), (.int 0 0), (.ref 142), (.int 100 0), (.int 0 0), (.ref 147)])), (List.toArray [])⟩
noncomputable abbrev o118_F (P : Params) : Obj := ⟨(.type "tuple"), none, (.seq (List.toArray []) 0), (List.toArray [])⟩
noncomputable abbrev o119_F (P : Params) : Obj := ⟨.none, none, (.fields (List.toArray [])), (List.toArray [])⟩
noncomputable abbrev o120_F (P : Params) : Obj := ⟨(.type "tuple"), none, (.seq (List.toArray [(.str (Str.ofString "code") 2295), (.str (Str.ofString "r") 2296)]) 0), (List.toArray [])⟩
noncomputable abbrev o121_F (P : Params) : Obj := ⟨(.type "tuple"), none, (.seq (List.toArray []) 0), (List.toArray [])⟩
noncomputable abbrev o122_F (P : Params) : Obj := ⟨.none, none, (.func { name := (Str.ofString "map_table_b3"), qualname := (Str.ofString "map_table_b3"), params := fnParams s14, body := .stmts (fnBody s14), scope := fnScope s14, globals := 0, closure := [], defaults := .none, kwdefaults := .none, doc := .none, pyModule := .none, annotations := none, code := .none, closureTuple := .none, builtins := 0 }), (List.toArray [])⟩
noncomputable abbrev o123_F (P : Params) : Obj := ⟨(.type "code"), none, (.fields (List.toArray [(.str (Str.ofString "map_table_b3") 2292), (.str (Str.ofString "map_table_b3") 2293), (.str (Str.ofString "/claim/cut.py") 2294), (.int 76 0), (.int 1 0), (.int 0 0), (.int 0 0), (.int 3 0), (.ref 118), (.bool true), (.int 181 0), (.ref 119), .none, (.ref 120), (.ref 121), (.ref 122), (.int 2297 0), (.int 76 0), (.str (Str.ofString "/claim/cut.py") 2298)])), (List.toArray [])⟩
noncomputable abbrev o124_F (P : Params) : Obj := ⟨(.type "function"), none, (.func { name := (Str.ofString "map_table_b3"), qualname := (Str.ofString "map_table_b3"), params := fnParams s14, body := .stmts (fnBody s14), scope := fnScope s14, globals := 3, closure := [], defaults := .none, kwdefaults := .none, doc := .none, pyModule := (.str (Str.ofString "cpy313.stringprep") 272), annotations := none, code := (.ref 123), closureTuple := .none, builtins := 0 }), (List.toArray [])⟩
noncomputable abbrev o125_F (P : Params) : Obj := ⟨(.type "tuple"), none, (.seq (List.toArray []) 0), (List.toArray [])⟩
noncomputable abbrev o126_F (P : Params) : Obj := ⟨.none, none, (.fields (List.toArray [])), (List.toArray [])⟩
noncomputable abbrev o127_F (P : Params) : Obj := ⟨(.type "tuple"), none, (.seq (List.toArray [(.str (Str.ofString "letters") 2305), (.str (Str.ofString "place") 2306), (.str (Str.ofString "y") 2307), (.str (Str.ofString "first") 2308), (.str (Str.ofString "alphabets") 2309), (.str (Str.ofString "signs") 2310), (.str (Str.ofString "i") 2311), (.str (Str.ofString "form") 2312)]) 0), (List.toArray [])⟩
noncomputable abbrev o128_F (P : Params) : Obj := ⟨(.type "tuple"), none, (.seq (List.toArray []) 0), (List.toArray [])⟩
noncomputable abbrev o129_F (P : Params) : Obj := ⟨.none, none, (.func { name := (Str.ofString "_law_spelled"), qualname := (Str.ofString "_law_spelled"), params := fnParams s16, body := .stmts (fnBody s16), scope := fnScope s16, globals := 0, closure := [], defaults := .none, kwdefaults := .none, doc := .none, pyModule := .none, annotations := none, code := .none, closureTuple := .none, builtins := 0 }), (List.toArray [])⟩
noncomputable abbrev o130_F (P : Params) : Obj := ⟨(.type "code"), none, (.fields (List.toArray [(.str (Str.ofString "_law_spelled") 2302), (.str (Str.ofString "_law_spelled") 2303), (.str (Str.ofString "/claim/cut.py") 2304), (.int 82 0), (.int 4 0), (.int 0 0), (.int 0 0), (.int 3 0), (.ref 125), (.bool true), (.int 181 0), (.ref 126), .none, (.ref 127), (.ref 128), (.ref 129), (.int 2313 0), (.int 82 0), (.str (Str.ofString "/claim/cut.py") 2314)])), (List.toArray [])⟩
noncomputable abbrev o131_F (P : Params) : Obj := ⟨(.type "function"), none, (.func { name := (Str.ofString "_law_spelled"), qualname := (Str.ofString "_law_spelled"), params := fnParams s16, body := .stmts (fnBody s16), scope := fnScope s16, globals := 3, closure := [], defaults := .none, kwdefaults := .none, doc := .none, pyModule := (.str (Str.ofString "law_tp0048_02") 2300), annotations := none, code := (.ref 130), closureTuple := .none, builtins := 0 }), (List.toArray [])⟩
noncomputable abbrev o132_F (P : Params) : Obj := ⟨(.type "tuple"), none, (.seq (List.toArray []) 0), (List.toArray [])⟩
noncomputable abbrev o133_F (P : Params) : Obj := ⟨.none, none, (.fields (List.toArray [])), (List.toArray [])⟩
noncomputable abbrev o134_F (P : Params) : Obj := ⟨(.type "tuple"), none, (.seq (List.toArray [(.str (Str.ofString "one") 2319), (.str (Str.ofString "other") 2320)]) 0), (List.toArray [])⟩
noncomputable abbrev o135_F (P : Params) : Obj := ⟨(.type "tuple"), none, (.seq (List.toArray []) 0), (List.toArray [])⟩
noncomputable abbrev o136_F (P : Params) : Obj := ⟨.none, none, (.func { name := (Str.ofString "_law_price"), qualname := (Str.ofString "_law_price"), params := fnParams s17, body := .stmts (fnBody s17), scope := fnScope s17, globals := 0, closure := [], defaults := .none, kwdefaults := .none, doc := .none, pyModule := .none, annotations := none, code := .none, closureTuple := .none, builtins := 0 }), (List.toArray [])⟩
noncomputable abbrev o137_F (P : Params) : Obj := ⟨(.type "code"), none, (.fields (List.toArray [(.str (Str.ofString "_law_price") 2316), (.str (Str.ofString "_law_price") 2317), (.str (Str.ofString "/claim/cut.py") 2318), (.int 92 0), (.int 2 0), (.int 0 0), (.int 0 0), (.int 3 0), (.ref 132), (.bool true), (.int 181 0), (.ref 133), .none, (.ref 134), (.ref 135), (.ref 136), (.int 2321 0), (.int 92 0), (.str (Str.ofString "/claim/cut.py") 2322)])), (List.toArray [])⟩
noncomputable abbrev o138_F (P : Params) : Obj := ⟨(.type "function"), none, (.func { name := (Str.ofString "_law_price"), qualname := (Str.ofString "_law_price"), params := fnParams s17, body := .stmts (fnBody s17), scope := fnScope s17, globals := 3, closure := [], defaults := .none, kwdefaults := .none, doc := .none, pyModule := (.str (Str.ofString "law_tp0048_02") 2300), annotations := none, code := (.ref 137), closureTuple := .none, builtins := 0 }), (List.toArray [])⟩
noncomputable abbrev o139_F (P : Params) : Obj := ⟨(.type "tuple"), none, (.seq (List.toArray []) 0), (List.toArray [])⟩
noncomputable abbrev o140_F (P : Params) : Obj := ⟨.none, none, (.fields (List.toArray [])), (List.toArray [])⟩
noncomputable abbrev o141_F (P : Params) : Obj := ⟨.none, none, (.func { name := (Str.ofString "_law_prepared"), qualname := (Str.ofString "_law_prepared"), params := fnParams s18, body := .stmts (fnBody s18), scope := fnScope s18, globals := 0, closure := [], defaults := .none, kwdefaults := .none, doc := .none, pyModule := .none, annotations := none, code := .none, closureTuple := .none, builtins := 0 }), (List.toArray [])⟩
noncomputable abbrev o142_F (P : Params) : Obj := ⟨(.type "code"), none, (.fields (List.toArray [(.str (Str.ofString "_law_prepared") 2324), (.str (Str.ofString "_law_prepared") 2325), (.str (Str.ofString "/claim/cut.py") 2326), (.int 98 0), (.int 1 0), (.int 0 0), (.int 0 0), (.int 3 0), (.ref 139), (.bool true), (.int 181 0), (.ref 140), .none, .none, .none, (.ref 141), (.int 2327 0), (.int 98 0), (.str (Str.ofString "/claim/cut.py") 2328)])), (List.toArray [])⟩
noncomputable abbrev o143_F (P : Params) : Obj := ⟨(.type "function"), none, (.func { name := (Str.ofString "_law_prepared"), qualname := (Str.ofString "_law_prepared"), params := fnParams s18, body := .stmts (fnBody s18), scope := fnScope s18, globals := 3, closure := [], defaults := .none, kwdefaults := .none, doc := .none, pyModule := (.str (Str.ofString "law_tp0048_02") 2300), annotations := none, code := (.ref 142), closureTuple := .none, builtins := 0 }), (List.toArray [])⟩
noncomputable abbrev o144_F (P : Params) : Obj := ⟨(.type "tuple"), none, (.seq (List.toArray []) 0), (List.toArray [])⟩
noncomputable abbrev o145_F (P : Params) : Obj := ⟨.none, none, (.fields (List.toArray [])), (List.toArray [])⟩
noncomputable abbrev o146_F (P : Params) : Obj := ⟨.none, none, (.func { name := (Str.ofString "law"), qualname := (Str.ofString "law"), params := fnParams s19, body := .stmts (fnBody s19), scope := fnScope s19, globals := 0, closure := [], defaults := .none, kwdefaults := .none, doc := .none, pyModule := .none, annotations := none, code := .none, closureTuple := .none, builtins := 0 }), (List.toArray [])⟩
noncomputable abbrev o147_F (P : Params) : Obj := ⟨(.type "code"), none, (.fields (List.toArray [(.str (Str.ofString "law") 2330), (.str (Str.ofString "law") 2331), (.str (Str.ofString "/claim/cut.py") 2332), (.int 100 0), (.int 1 0), (.int 0 0), (.int 0 0), (.int 3 0), (.ref 144), (.bool true), (.int 181 0), (.ref 145), .none, .none, .none, (.ref 146), (.int 2333 0), (.int 100 0), (.str (Str.ofString "/claim/cut.py") 2334)])), (List.toArray [])⟩
noncomputable abbrev o148_F (P : Params) : Obj := ⟨(.type "function"), none, (.func { name := (Str.ofString "law"), qualname := (Str.ofString "law"), params := fnParams s19, body := .stmts (fnBody s19), scope := fnScope s19, globals := 3, closure := [], defaults := .none, kwdefaults := .none, doc := .none, pyModule := (.str (Str.ofString "law_tp0048_02") 2300), annotations := none, code := (.ref 147), closureTuple := .none, builtins := 0 }), (List.toArray [])⟩
noncomputable abbrev trF (P : Params) : BT := (.node (boot_o_0 P) (.node (boot_o_1 P) (.node (o3_F P) (.node (boot_o_7 P) (.node (o15_10 P) (.node (o31_10 P) (.node (o63_11 P) (.node (o127_F P) .nil .nil) .nil) (.node (big95 P) .nil .nil)) (.node (o47_10 P) (.node (big79 P) (.node (o143_F P) .nil .nil) .nil) (.node (big111 P) .nil .nil))) (.node (o23_10 P) (.node (o39_10 P) (.node (o71_11 P) (.node (o135_F P) .nil .nil) .nil) (.node (big103 P) .nil .nil)) (.node (o55_10 P) (.node (big87 P) .nil .nil) (.node (o119_F P) .nil .nil)))) (.node (o11_A P) (.node (o19_10 P) (.node (o35_10 P) (.node (o67_11 P) (.node (o131_F P) .nil .nil) .nil) (.node (big99 P) .nil .nil)) (.node (o51_10 P) (.node (big83 P) (.node (o147_F P) .nil .nil) .nil) (.node (big115 P) .nil .nil))) (.node (o27_10 P) (.node (o43_10 P) (.node (o75_12 P) (.node (o139_F P) .nil .nil) .nil) (.node (big107 P) .nil .nil)) (.node (o59_10 P) (.node (big91 P) .nil .nil) (.node (o123_F P) .nil .nil))))) (.node (boot_o_5 P) (.node (boot_o_9 P) (.node (o17_10 P) (.node (o33_10 P) (.node (o65_11 P) (.node (o129_F P) .nil .nil) .nil) (.node (big97 P) .nil .nil)) (.node (o49_10 P) (.node (big81 P) (.node (o145_F P) .nil .nil) .nil) (.node (big113 P) .nil .nil))) (.node (o25_10 P) (.node (o41_10 P) (.node (o73_12 P) (.node (o137_F P) .nil .nil) .nil) (.node (big105 P) .nil .nil)) (.node (o57_10 P) (.node (big89 P) .nil .nil) (.node (o121_F P) .nil .nil)))) (.node (o13_A P) (.node (o21_10 P) (.node (o37_10 P) (.node (o69_11 P) (.node (o133_F P) .nil .nil) .nil) (.node (big101 P) .nil .nil)) (.node (o53_10 P) (.node (big85 P) .nil .nil) (.node (big117 P) .nil .nil))) (.node (o29_10 P) (.node (o45_10 P) (.node (o77_12 P) (.node (o141_F P) .nil .nil) .nil) (.node (big109 P) .nil .nil)) (.node (o61_11 P) (.node (big93 P) .nil .nil) (.node (o125_F P) .nil .nil)))))) (.node (o2_10 P) (.node (boot_o_4 P) (.node (boot_o_8 P) (.node (o16_10 P) (.node (o32_10 P) (.node (o64_11 P) (.node (o128_F P) .nil .nil) .nil) (.node (big96 P) .nil .nil)) (.node (o48_10 P) (.node (big80 P) (.node (o144_F P) .nil .nil) .nil) (.node (big112 P) .nil .nil))) (.node (o24_10 P) (.node (o40_10 P) (.node (o72_12 P) (.node (o136_F P) .nil .nil) .nil) (.node (big104 P) .nil .nil)) (.node (o56_10 P) (.node (big88 P) .nil .nil) (.node (o120_F P) .nil .nil)))) (.node (o12_F P) (.node (o20_10 P) (.node (o36_10 P) (.node (o68_11 P) (.node (o132_F P) .nil .nil) .nil) (.node (big100 P) .nil .nil)) (.node (o52_10 P) (.node (big84 P) (.node (o148_F P) .nil .nil) .nil) (.node (big116 P) .nil .nil))) (.node (o28_10 P) (.node (o44_10 P) (.node (o76_12 P) (.node (o140_F P) .nil .nil) .nil) (.node (big108 P) .nil .nil)) (.node (o60_10 P) (.node (big92 P) .nil .nil) (.node (o124_F P) .nil .nil))))) (.node (boot_o_6 P) (.node (boot_o_10 P) (.node (o18_10 P) (.node (o34_10 P) (.node (o66_11 P) (.node (o130_F P) .nil .nil) .nil) (.node (big98 P) .nil .nil)) (.node (o50_10 P) (.node (big82 P) (.node (o146_F P) .nil .nil) .nil) (.node (big114 P) .nil .nil))) (.node (o26_10 P) (.node (o42_10 P) (.node (o74_12 P) (.node (o138_F P) .nil .nil) .nil) (.node (big106 P) .nil .nil)) (.node (o58_10 P) (.node (big90 P) .nil .nil) (.node (o122_F P) .nil .nil)))) (.node (o14_A P) (.node (o22_10 P) (.node (o38_10 P) (.node (o70_11 P) (.node (o134_F P) .nil .nil) .nil) (.node (big102 P) .nil .nil)) (.node (o54_10 P) (.node (big86 P) .nil .nil) (.node (o118_F P) .nil .nil))) (.node (o30_10 P) (.node (o46_10 P) (.node (o78_12 P) (.node (o142_F P) .nil .nil) .nil) (.node (big110 P) .nil .nil)) (.node (o62_11 P) (.node (big94 P) .nil .nil) (.node (o126_F P) .nil .nil)))))))
noncomputable abbrev lsF (P : Params) : List Obj := [boot_o_0 P, boot_o_1 P, o2_10 P, o3_F P, boot_o_4 P, boot_o_5 P, boot_o_6 P, boot_o_7 P, boot_o_8 P, boot_o_9 P, boot_o_10 P, o11_A P, o12_F P, o13_A P, o14_A P, o15_10 P, o16_10 P, o17_10 P, o18_10 P, o19_10 P, o20_10 P, o21_10 P, o22_10 P, o23_10 P, o24_10 P, o25_10 P, o26_10 P, o27_10 P, o28_10 P, o29_10 P, o30_10 P, o31_10 P, o32_10 P, o33_10 P, o34_10 P, o35_10 P, o36_10 P, o37_10 P, o38_10 P, o39_10 P, o40_10 P, o41_10 P, o42_10 P, o43_10 P, o44_10 P, o45_10 P, o46_10 P, o47_10 P, o48_10 P, o49_10 P, o50_10 P, o51_10 P, o52_10 P, o53_10 P, o54_10 P, o55_10 P, o56_10 P, o57_10 P, o58_10 P, o59_10 P, o60_10 P, o61_11 P, o62_11 P, o63_11 P, o64_11 P, o65_11 P, o66_11 P, o67_11 P, o68_11 P, o69_11 P, o70_11 P, o71_11 P, o72_12 P, o73_12 P, o74_12 P, o75_12 P, o76_12 P, o77_12 P, o78_12 P, big79 P, big80 P, big81 P, big82 P, big83 P, big84 P, big85 P, big86 P, big87 P, big88 P, big89 P, big90 P, big91 P, big92 P, big93 P, big94 P, big95 P, big96 P, big97 P, big98 P, big99 P, big100 P, big101 P, big102 P, big103 P, big104 P, big105 P, big106 P, big107 P, big108 P, big109 P, big110 P, big111 P, big112 P, big113 P, big114 P, big115 P, big116 P, big117 P, o118_F P, o119_F P, o120_F P, o121_F P, o122_F P, o123_F P, o124_F P, o125_F P, o126_F P, o127_F P, o128_F P, o129_F P, o130_F P, o131_F P, o132_F P, o133_F P, o134_F P, o135_F P, o136_F P, o137_F P, o138_F P, o139_F P, o140_F P, o141_F P, o142_F P, o143_F P, o144_F P, o145_F P, o146_F P, o147_F P, o148_F P]
noncomputable abbrev trM (P : Params) : BT := (.node (boot_o_0 P) (.node (boot_o_1 P) (.node (o3_12 P) (.node (boot_o_7 P) (.node (o15_10 P) (.node (o31_10 P) (.node (o63_11 P) .nil .nil) (.node (big95 P) .nil .nil)) (.node (o47_10 P) (.node (big79 P) .nil .nil) (.node (big111 P) .nil .nil))) (.node (o23_10 P) (.node (o39_10 P) (.node (o71_11 P) .nil .nil) (.node (big103 P) .nil .nil)) (.node (o55_10 P) (.node (big87 P) .nil .nil) .nil))) (.node (o11_A P) (.node (o19_10 P) (.node (o35_10 P) (.node (o67_11 P) .nil .nil) (.node (big99 P) .nil .nil)) (.node (o51_10 P) (.node (big83 P) .nil .nil) (.node (big115 P) .nil .nil))) (.node (o27_10 P) (.node (o43_10 P) (.node (o75_12 P) .nil .nil) (.node (big107 P) .nil .nil)) (.node (o59_10 P) (.node (big91 P) .nil .nil) .nil)))) (.node (boot_o_5 P) (.node (boot_o_9 P) (.node (o17_10 P) (.node (o33_10 P) (.node (o65_11 P) .nil .nil) (.node (big97 P) .nil .nil)) (.node (o49_10 P) (.node (big81 P) .nil .nil) (.node (big113 P) .nil .nil))) (.node (o25_10 P) (.node (o41_10 P) (.node (o73_12 P) .nil .nil) (.node (big105 P) .nil .nil)) (.node (o57_10 P) (.node (big89 P) .nil .nil) .nil))) (.node (o13_A P) (.node (o21_10 P) (.node (o37_10 P) (.node (o69_11 P) .nil .nil) (.node (big101 P) .nil .nil)) (.node (o53_10 P) (.node (big85 P) .nil .nil) (.node (big117 P) .nil .nil))) (.node (o29_10 P) (.node (o45_10 P) (.node (o77_12 P) .nil .nil) (.node (big109 P) .nil .nil)) (.node (o61_11 P) (.node (big93 P) .nil .nil) .nil))))) (.node (o2_10 P) (.node (boot_o_4 P) (.node (boot_o_8 P) (.node (o16_10 P) (.node (o32_10 P) (.node (o64_11 P) .nil .nil) (.node (big96 P) .nil .nil)) (.node (o48_10 P) (.node (big80 P) .nil .nil) (.node (big112 P) .nil .nil))) (.node (o24_10 P) (.node (o40_10 P) (.node (o72_12 P) .nil .nil) (.node (big104 P) .nil .nil)) (.node (o56_10 P) (.node (big88 P) .nil .nil) .nil))) (.node (o12_12 P) (.node (o20_10 P) (.node (o36_10 P) (.node (o68_11 P) .nil .nil) (.node (big100 P) .nil .nil)) (.node (o52_10 P) (.node (big84 P) .nil .nil) (.node (big116 P) .nil .nil))) (.node (o28_10 P) (.node (o44_10 P) (.node (o76_12 P) .nil .nil) (.node (big108 P) .nil .nil)) (.node (o60_10 P) (.node (big92 P) .nil .nil) .nil)))) (.node (boot_o_6 P) (.node (boot_o_10 P) (.node (o18_10 P) (.node (o34_10 P) (.node (o66_11 P) .nil .nil) (.node (big98 P) .nil .nil)) (.node (o50_10 P) (.node (big82 P) .nil .nil) (.node (big114 P) .nil .nil))) (.node (o26_10 P) (.node (o42_10 P) (.node (o74_12 P) .nil .nil) (.node (big106 P) .nil .nil)) (.node (o58_10 P) (.node (big90 P) .nil .nil) .nil))) (.node (o14_A P) (.node (o22_10 P) (.node (o38_10 P) (.node (o70_11 P) .nil .nil) (.node (big102 P) .nil .nil)) (.node (o54_10 P) (.node (big86 P) .nil .nil) .nil)) (.node (o30_10 P) (.node (o46_10 P) (.node (o78_12 P) .nil .nil) (.node (big110 P) .nil .nil)) (.node (o62_11 P) (.node (big94 P) .nil .nil) .nil))))))
noncomputable def env0 : Env := { scope := pw.main.scope, locals := mainNs, globals := mainNs, cells := [], code := .ref 13, frame := some 14 }
abbrev ann0 : Option Value := some (.ref 6)
noncomputable abbrev cE : Code := .body (behindTheImports pw) env0
noncomputable abbrev SA (w : World) (os : OsState) : SharedT := ⟨trA w.params, 15, lifeP w.params, #[], boot_drawn, 187, os⟩
noncomputable abbrev S10 (w : World) (os : OsState) : SharedT := ⟨tr10 w.params, 61, lifeP w.params, #[], boot_drawn, 274, os⟩
noncomputable abbrev S11 (w : World) (os : OsState) : SharedT := ⟨tr11 w.params, 72, lifeP w.params, #[], boot_drawn, 334, os⟩
noncomputable abbrev S12 (w : World) (os : OsState) : SharedT := ⟨tr12 w.params, 79, lifeP w.params, #[], boot_drawn, 341, os⟩
noncomputable abbrev S13 (w : World) (os : OsState) : SharedT := ⟨tr13 w.params, 118, lifeP w.params, #[], boot_drawn, 2292, os⟩
noncomputable abbrev SF (w : World) (os : OsState) : SharedT := ⟨trF w.params, 149, lifeP w.params, #[], boot_drawn, 2336, os⟩
noncomputable abbrev SM (w : World) (os : OsState) : SharedT := ⟨trM w.params, 118, lifeP w.params, #[], boot_drawn, 2291, os⟩
theorem piece0 (w : World) : (fun os => segRunT treeTable pw w 11 ann0 1 569 (SA w os) (piecesOf [s0, s1, s2, s3, s4, s5, s6, s7, s8, s9, s10] env0 cE ⟨0, 0, 0, 0⟩ fr0)) = fun os => some (.next, S10 w os, cE, ⟨71, 0, 71, 8⟩) := by
  rw [PySem.W.Fast.te10110043849684766642, PySem.W.Fast.te14364793385576792824]
  kernel_rfl
theorem piece1 (w : World) : (fun os => segRunT treeTable pw w 11 ann0 1 999 (S10 w os) (piecesOf [s11] env0 cE ⟨71, 0, 71, 8⟩ fr0)) = fun os => some (.next, S11 w os, cE, ⟨72, 0, 72, 6⟩) := by
  refine byRow2 "set-order" (P := fun w => (fun os => segRunT treeTable pw w 11 ann0 1 999 (S10 w os) (piecesOf [s11] env0 cE ⟨71, 0, 71, 8⟩ fr0)) = fun os => some (.next, S11 w os, cE, ⟨72, 0, 72, 6⟩)) (fun w => ?_) (fun w => ?_) w
  · refine byRow2 "special-get-raises" (P := fun w => (fun os => segRunT treeTable pw (w.withFollow "set-order" false) 11 ann0 1 999 (S10 (w.withFollow "set-order" false) os) (piecesOf [s11] env0 cE ⟨71, 0, 71, 8⟩ fr0)) = fun os => some (.next, S11 (w.withFollow "set-order" false) os, cE, ⟨72, 0, 72, 6⟩)) (fun w => ?_) (fun w => ?_) w
    · rw [PySem.W.Fast.te10110043849684766642, PySem.W.Fast.te14364793385576792824]; kernel_rfl
    · rw [PySem.W.Fast.te10110043849684766642, PySem.W.Fast.te14364793385576792824]; kernel_rfl
  · refine byRow2 "special-get-raises" (P := fun w => (fun os => segRunT treeTable pw (w.withFollow "set-order" true) 11 ann0 1 999 (S10 (w.withFollow "set-order" true) os) (piecesOf [s11] env0 cE ⟨71, 0, 71, 8⟩ fr0)) = fun os => some (.next, S11 (w.withFollow "set-order" true) os, cE, ⟨72, 0, 72, 6⟩)) (fun w => ?_) (fun w => ?_) w
    · rw [PySem.W.Fast.te10110043849684766642, PySem.W.Fast.te14364793385576792824]; kernel_rfl
    · rw [PySem.W.Fast.te10110043849684766642, PySem.W.Fast.te14364793385576792824]; kernel_rfl
theorem piece2 (w : World) : (fun os => segRunT treeTable pw w 11 ann0 1 30 (S11 w os) (piecesOf [s12] env0 cE ⟨72, 0, 72, 6⟩ fr0)) = fun os => some (.next, S12 w os, cE, ⟨73, 0, 74, 30⟩) := by
  rw [PySem.W.Fast.te10110043849684766642, PySem.W.Fast.te14364793385576792824]
  kernel_rfl
theorem piece4 (w : World) : (fun os => segRunT treeTable pw w 11 ann0 1 158 (S13 w os) (piecesOf [s14, s15, s16, s17, s18, s19] env0 cE ⟨75, 0, 75, 13⟩ fr0)) = fun os => some (.next, SF w os, cE, ⟨100, 0, 130, 15⟩) := by
  rw [PySem.W.Fast.te10110043849684766642, PySem.W.Fast.te14364793385576792824]
  kernel_rfl
def stPos : Stmt → Pos | .Assign _ _ p => p | _ => ⟨0,0,0,0⟩
def stTargets : Stmt → List Expr | .Assign ts _ _ => ts | _ => []
def stValue : Stmt → Expr | .Assign _ v _ => v | _ => .Name "" ⟨0,0,0,0⟩
def exPos : Expr → Pos | .Dict _ _ p => p | _ => ⟨0,0,0,0⟩
def okKV : List (Option Expr) → List Expr → Bool
  | [], [] => true
  | some (.Constant (.int _) _ _) :: ks, .Constant (.str _) _ _ :: vs => okKV ks vs
  | _, _ => false
theorem items_of (env : Env) (p : Pos) (ks : List (Option Expr)) (vs : List Expr) : okKV ks vs = true → (evalEachOpt ks env).zip ((evalEach vs env).map fun v => do let x ← v; standAt p; pure x) = (kvsOf ks vs).map (itemOf p) := by
  fun_induction okKV ks vs with
  | case1 => intro _; rfl
  | case2 k a b ks v c d vs ih =>
    intro h
    show (some (mkInt k), (do let x ← mkText v; standAt p; pure x)) :: (evalEachOpt ks env).zip ((evalEach vs env).map fun v => do let x ← v; standAt p; pure x) = itemOf p (k, v) :: (kvsOf ks vs).map (itemOf p)
    rw [ih h]
    rfl
  | case3 => intro h; cases h
theorem ok7 : okKV (dictKeys s13) (dictVals s13) = true := by kernel_rfl
theorem exec7 : exec s13 env0 = (do standAt (stPos s13); let v ← eval (stValue s13) env0; assignStores env0 v none ((assignEach (stTargets s13) env0).map (·.2))) := by kernel_rfl
theorem eval7 : eval (stValue s13) env0 = (do standAt (exPos (stValue s13)); dictDisplay ((evalEachOpt (dictKeys s13) env0).zip ((evalEach (dictVals s13) env0).map fun v => do let x ← v; standAt (exPos (stValue s13)); pure x))) := by kernel_rfl
theorem rises7 : risesB (-1) kvs = true := by kernel_rfl
theorem rising7 : Rising kvs := risesB_rising rises7
theorem keys7 : KeysOk kvs := fun x hx => by
  have := risesB_gt rises7 x hx
  exact ⟨by omega, this.2⟩
theorem len7 : kvs.length = 650 := by kernel_rfl
theorem tree6 (P : Params) : (tr12 P).list 79 = ls12 P := by kernel_rfl
theorem go7 (w : World) (os : OsState) : Go pw w cE (eval (stValue s13) env0) (S12 w os).abs (400 * 650 + 401) (.ref 79)
    { (S12 w os).abs with heap := HS (ls12 w.params) (lifeP w.params) dictObjs, toks := 2291 } := by
  rw [eval7, items_of env0 _ _ _ ok7]
  refine Go.le (Go.bind (Go.standAt _) (M := 400 * 650 + 400) ?_) (Nat.le_refl _)
  have hs : (S12 w os).abs.heap = HS (ls12 w.params) (lifeP w.params) [] := by
    show absHeap (tr12 w.params) 79 (lifeP w.params) = _
    unfold absHeap
    rw [tree6, HS, List.append_nil]
  have hl : (ls12 w.params).length = 79 := rfl
  have h := Go.display (pw := pw) (w := w) (c := cE) (s := (S12 w os).abs) (base := ls12 w.params) (life := lifeP w.params) (p := exPos (stValue s13)) (kvs := kvs) (Q := 37) (r := 4) hs (by rw [hl]; omega) rising7 keys7 (by rw [len7]; omega) (by rw [len7]; omega) (by rw [len7]; omega) (by rw [len7]) (by rw [len7])
  rw [len7, hl] at h
  exact h
theorem treeM (P : Params) : (trM P).list 118 = ls12 P ++ dictObjs := by kernel_rfl
theorem rest7 (w : World) (os : OsState) (pos : Pos) : segRunT treeTable pw w 11 ann0 1 12 (SM w os) ⟨(assignStores env0 (.ref 79) none ((assignEach (stTargets s13) env0).map (·.2))).wrap doneF deadEnd id id, cE, pos, fr0⟩ = some (.next, S13 w os, cE, ⟨75, 0, 75, 13⟩) := by
  rw [PySem.W.Fast.te10110043849684766642, PySem.W.Fast.te14364793385576792824]
  kernel_rfl
theorem piece3 (w : World) (os : OsState) (pos : Pos) : ∃ n, n ≤ 300000 ∧ segRun treeTable pw w 11 ann0 1 n (S12 w os).abs (pieceOf s13 env0 cE pos fr0) = some (.next, (S13 w os).abs, cE, ⟨75, 0, 75, 13⟩) := by
  have g : Go pw w cE (do standAt (stPos s13); eval (stValue s13) env0) (S12 w os).abs (1 + (400 * 650 + 401)) (.ref 79) (SM w os).abs := by
    refine Go.bind (Go.standAt _) ?_
    have h := go7 w os
    have e : ({ (S12 w os).abs with heap := HS (ls12 w.params) (lifeP w.params) dictObjs, toks := 2291 } : Shared) = (SM w os).abs := by
      show Shared.mk (HS (ls12 w.params) (lifeP w.params) dictObjs) _ _ _ _ = Shared.mk (absHeap (trM w.params) 118 (lifeP w.params)) _ _ _ _
      unfold absHeap
      rw [treeM]
      rfl
    rw [e] at h
    exact h
  obtain ⟨n, p', hn, h⟩ := g (fun v => (assignStores env0 v none ((assignEach (stTargets s13) env0).map (·.2))).wrap doneF deadEnd id id) deadEnd id id pos
  have e : (exec s13 env0).wrap doneF deadEnd id id = Sem.wrap (fun v => (assignStores env0 v none ((assignEach (stTargets s13) env0).map (·.2))).wrap doneF deadEnd id id) deadEnd id id (do standAt (stPos s13); eval (stValue s13) env0) := by
    rw [exec7]
    rw [show (do standAt (stPos s13); let v ← eval (stValue s13) env0; assignStores env0 v none ((assignEach (stTargets s13) env0).map (·.2))) = (do standAt (stPos s13); eval (stValue s13) env0) >>= fun v => assignStores env0 v none ((assignEach (stTargets s13) env0).map (·.2)) from rfl]
    rw [Sem.bind_eq_wrap', Sem.wrap_wrap]
    rfl
  refine ⟨n + 12, by omega, ?_⟩
  show segRun treeTable pw w 11 ann0 1 (n + 12) (S12 w os).abs ⟨(exec s13 env0).wrap doneF deadEnd id id, cE, pos, fr0⟩ = _
  rw [e]
  exact seg_go h (segRun_of (rest7 w os p'))
theorem pre0 (w : World) : (fun os => topGo treeTable pw w 11 ann0 12 ⟨boot_heap w.params, #[], boot_drawn, boot_toks, os⟩ (topStub pw)) = fun os => some ((SA w os).abs, ⟨denote treeTable cE, cE, ⟨0,0,0,0⟩, fr0⟩) := by
  rw [PySem.W.Fast.te15667345088766844465, PySem.W.Fast.te14364793385576792824, PySem.W.Fast.te11892475500146522536]
  kernel_rfl
theorem block0 (w : World) : (fun os => segRun treeTable pw w 11 ann0 1 1 (SA w os).abs (blockOf (behindTheImports pw) env0 cE ⟨0,0,0,0⟩ fr0)) = fun os => some (.next, (SA w os).abs, cE, ⟨0,0,0,0⟩) := by
  rw [PySem.W.Fast.te14374325043358763698, PySem.W.Fast.te14364793385576792824]
  kernel_rfl
noncomputable abbrev HF (P : Params) : Heap := absHeap (trF P) 149 (lifeP P)
theorem body0 : behindTheImports pw = [s0, s1, s2, s3, s4, s5, s6, s7, s8, s9, s10] ++ ([s11] ++ ([s12] ++ (s13 :: ([s14, s15, s16, s17, s18, s19] ++ [])))) := by kernel_rfl
theorem fin0 (w : World) : (fun os => topRun treeTable pw w 11 ann0 3 (SF w os).abs ⟨doneF .next, cE, ⟨100, 0, 130, 15⟩, fr0⟩) = fun os => some (SF w os).abs := by
  rw [PySem.W.Fast.te14082659384304107361, PySem.W.Fast.te14364793385576792824]
  kernel_rfl
theorem run0 (w : World) (os : OsState) : topRun treeTable pw w 11 ann0 310000 ⟨boot_heap w.params, #[], boot_drawn, boot_toks, os⟩ (topStub pw) = some ⟨HF w.params, #[], boot_drawn, 2336, os⟩ := by
  obtain ⟨n, hn, h3⟩ := piece3 w os ⟨73, 0, 74, 30⟩
  have f := congrFun (fin0 w) os
  have k4 := piece_app (rest := []) (segRun_of (congrFun (piece4 w) os)) (piece_nil (env := env0) f)
  have k3 := piece_cons h3 k4
  have k2 := piece_app (segRun_of (congrFun (piece2 w) os)) k3
  have k1 := piece_app (segRun_of (congrFun (piece1 w) os)) k2
  have k0 := piece_app (segRun_of (congrFun (piece0 w) os)) k1
  rw [← body0] at k0
  have kb := piece_block (congrFun (block0 w) os) k0
  have kp := go_top (congrFun (pre0 w) os) kb
  have m := topRun_mono (310000 - (12 + (1 + (569 + (999 + (30 + (n + (158 + 3)))))))) _ _ _ _ kp
  rw [show 12 + (1 + (569 + (999 + (30 + (n + (158 + 3)))))) + (310000 - (12 + (1 + (569 + (999 + (30 + (n + (158 + 3)))))))) = 310000 by omega] at m
  exact m
theorem open0 : ∀ w : World, (fencedOpening treeTable pw w 400000).map (fun s => (s.heap, s.gens, s.drawn, s.toks)) = some (boot_heap w.params, Array.mk [], boot_drawn, boot_toks) :=
  boot_open (by kernel_rfl) (by kernel_rfl) (fun s => by kernel_rfl)
theorem size0 (w : World) : ((boot_heap w.params).isNs mainGlobals && (#[] : Array GenState).size == 0, (boot_heap w.params).objs.size, (boot_heap w.params).nsMap mainGlobals "__annotations__") = (true, 11, ann0) := by kernel_rfl
noncomputable abbrev HL (P : Params) : Heap := ⟨(lsF P).toArray, lifeP P⟩
theorem treeF (P : Params) : (trF P).list 149 = lsF P := by kernel_rfl
theorem HF_eq (P : Params) : HF P = HL P := by
  show Heap.mk ((trF P).list 149).toArray (lifeP P) = _
  rw [treeF]
noncomputable abbrev q0 : Program := { pw with main := { pw.main with body := [s1, s2, s3, s4, s5, s7, s8, s9, s11, s12, s14, s16, s17, s18, s19] } }
abbrev loose0 : List Str := [Str.ofString "b1_set", Str.ofString "b3_exceptions"]
noncomputable abbrev SE (w : World) (os : OsState) : Shared := ⟨HL w.params, #[], boot_drawn, 2336, os⟩
theorem lookA (w : World) (os : OsState) : (staticsOk (importedModules pw.main.body) (boot_heap w.params) (HL w.params) && namesBound pw (HL w.params) && gensDone (SE w os) && laidKept (boot_heap w.params) (HL w.params)) = true := by
  rw [PySem.W.Fast.te5923862056798008813]
  kernel_rfl
theorem lookB (w : World) : (fun os => openSeen q0 loose0 (importedModules pw.main.body) (fun s => xlAt q0 [] s && recOk PySem.Challenge.rw_tp0048_02.row.records s) true (SE w os)) = fun _ => openGood q0 loose0 := by
  rw [PySem.W.Fast.te4187177175401517315, PySem.W.Fast.te5923862056798008813]
  kernel_rfl
theorem left0 {α : Type} (Yf : Shared → α) (Ya : World → α) (h : ∀ w os, Yf (SE w os) = Ya w) :
    LeftO pw q0 loose0 (fun s => xlAt q0 [] s && recOk PySem.Challenge.rw_tp0048_02.row.records s) Yf Ya 400000 :=
  LeftO.of_pieces (H₀ := fun P => boot_heap P) (H₁ := HL) (gs₀ := Array.mk []) (gs₁ := #[]) (d₀ := boot_drawn) (d₁ := boot_drawn) (k₀ := boot_toks) (k₁ := 2336) (m₀ := 11) (ann := ann0) (M := 310000)
    open0 size0 (fun w os => by rw [← HF_eq]; exact run0 w os) (by kernel_rfl) (fun w => by
      funext os
      have a := lookA w os
      have b := congrFun (lookB w) os
      have c := h w os
      show ((_ && _ && _ && _), _, _) = _
      rw [Prod.mk.injEq, Prod.mk.injEq]
      exact ⟨a, b, c⟩)
noncomputable abbrev setO (P : Params) : Obj := o68_11 P
set_option hygiene false in
local macro_rules | `(tactic| o_head $H) => `(tactic| (
  refine holds_open (q := q0) (loose := loose0) (Xt := fun s => xlAt q0 [] s && recOk PySem.Challenge.rw_tp0048_02.row.records s) (XP := XL q0 []) (Yf := Hook.obs (HookS $H 68 setO)) (Ya := Hook.val (HookS $H 68 setO)) (YP := Hook.says (HookS $H 68 setO)) (N := 400000)
    (left0 _ _ (fun w os => by kernel_rfl)) (Hook.of (HookS $H 68 setO)) (Hook.keeps (HookS $H 68 setO)) (fun s e => xl_of s (Bool.and_eq_true_iff.mp e).1) XL.keeps (by rfl) (by rfl) (by rfl) (fun s e => recFacts_of (Bool.and_eq_true_iff.mp e).2) (by rfl) (by first | assumption | decide +kernel) (by decide +kernel) ⟨rfl, rfl, rfl, rfl, rfl, by decide +kernel⟩ ?hw ?hc))
local macro_rules | `(tactic| o_law) => `(tactic| refine holds_law (by kernel_rfl) fun said => ?_)
open_top hd for PySem.Challenge.rw_tp0048_02
end Mine
namespace Mine
theorem str_ext {a b : Str} (h : a.cps.toList = b.cps.toList) : a = b := by
  obtain ⟨⟨a⟩⟩ := a; obtain ⟨⟨b⟩⟩ := b
  simp at h; rw [h]
theorem filterMap_range (l : List Nat) (a : Nat) : ∀ k, a + k ≤ l.length → ((List.range k).map fun j => a + j).filterMap (fun i => l[i]?) = (l.drop a).take k
  | 0, _ => by simp
  | k + 1, h => by
    rw [List.range_succ, List.map_append, List.filterMap_append, filterMap_range l a k (by omega), List.take_add_one]
    congr 1
    simp only [List.map_cons, List.map_nil, List.filterMap_cons, List.filterMap_nil, List.getElem?_drop]
    have : a + k < l.length := by omega
    simp [List.getElem?_eq_getElem this]
theorem slice_of {x : Str} {l u : Option Int} {a b : Nat} (h : PySem.Builtin.Str.strSliceIndices l u 1 x.length = (List.range (b - a)).map fun j => a + j) (hb : b ≤ x.length) : (Txt.slice x l u).cps.toList = (x.cps.toList.drop a).take (b - a) := by
  unfold Txt.slice
  have hx : x.length = x.cps.toList.length := by simp [Str.length]
  split
  · rename_i q
    rw [h] at q
    simp only [beq_self_eq_true, List.length_map, List.length_range, Bool.true_and, beq_iff_eq] at q
    by_cases ha : a = 0
    · subst ha
      rw [List.drop_zero, q, List.take_of_length_le (by omega)]
    · have h0 : x.cps.toList = [] := List.eq_nil_of_length_eq_zero (by omega)
      rw [h0]; simp
  · rw [h]
    show ((List.map _ _).filterMap (x.cps[·]?)).toArray.toList = _
    rw [List.toList_toArray]
    have e : (fun (i : Nat) => x.cps[i]?) = fun (i : Nat) => x.cps.toList[i]? := by funext i; simp
    rw [e]
    by_cases hab : a ≤ b
    · exact filterMap_range _ _ _ (by omega)
    · rw [show b - a = 0 by omega]; simp
theorem range_map_of (a b : Int) (ha : 0 ≤ a) (hb : 0 ≤ b) : sliceRange a b 1 = (List.range (b.toNat - a.toNat)).map fun j => a.toNat + j := by
  unfold sliceRange
  rw [if_pos (by decide)]
  have e : (if a < b then (b - a + 1 - 1) / 1 else (0 : Int)).toNat = b.toNat - a.toNat := by
    split <;> simp <;> omega
  simp only [e]
  apply List.map_congr_left
  intro k hk
  omega
theorem slice_su {x : Str} {i j : Nat} : (Txt.slice x (some (i : Int)) (some (j : Int))).cps.toList = (x.cps.toList.drop (min i x.length)).take (min j x.length - min i x.length) := by
  refine slice_of ?_ (Nat.min_le_right _ _)
  unfold PySem.Builtin.Str.strSliceIndices
  simp only [show (1 : Int) > 0 by decide, if_true]
  rw [if_neg (by omega), if_neg (by omega), range_map_of _ _ (by omega) (by omega)]
  congr 2
  · funext k; omega
  · omega
theorem slice_nu {x : Str} {j : Nat} : (Txt.slice x none (some (j : Int))).cps.toList = x.cps.toList.take (min j x.length) := by
  have := slice_of (x := x) (l := none) (u := some (j : Int)) (a := 0) (b := min j x.length) (by
    unfold PySem.Builtin.Str.strSliceIndices
    simp only [show (1 : Int) > 0 by decide, if_true]
    rw [if_neg (by omega), range_map_of _ _ (by omega) (by omega)]
    congr 2
    · omega) (Nat.min_le_right _ _)
  rw [this]; simp
theorem slice_sn {x : Str} {i : Nat} : (Txt.slice x (some (i : Int)) none).cps.toList = x.cps.toList.drop i := by
  have := slice_of (x := x) (l := some (i : Int)) (u := none) (a := min i x.length) (b := x.length) (by
    unfold PySem.Builtin.Str.strSliceIndices
    simp only [show (1 : Int) > 0 by decide, if_true]
    rw [if_neg (by omega), range_map_of _ _ (by omega) (by omega)]
    congr 2
    · funext k; omega
    · omega) (Nat.le_refl _)
  rw [this]
  have hx : x.length = x.cps.toList.length := by simp [Str.length]
  rw [List.take_of_length_le (by rw [List.length_drop]; omega)]
  by_cases h : i ≤ x.length
  · rw [Nat.min_eq_left h]
  · rw [Nat.min_eq_right (by omega), List.drop_of_length_le (by omega), List.drop_of_length_le (by omega)]
/-- a negative end -/
theorem slice_nneg {x : Str} {j : Nat} (h : 0 < j) : (Txt.slice x none (some (-(j : Int)))).cps.toList = x.cps.toList.take (x.length - j) := by
  have := slice_of (x := x) (l := none) (u := some (-(j : Int))) (a := 0) (b := x.length - j) (by
    unfold PySem.Builtin.Str.strSliceIndices
    simp only [show (1 : Int) > 0 by decide, if_true]
    rw [if_pos (by omega), range_map_of _ _ (by omega) (by omega)]
    congr 2
    · omega) (by omega)
  rw [this]; simp
theorem item_of {x : Str} {i : Int} (h0 : 0 ≤ i) (h1 : i < x.length) : Txt.item x i = ⟨#[x.cps.toList.getD i.toNat 0]⟩ := by
  have e : seqIndex? i x.length = some i.toNat := by
    show (if (decide (0 ≤ (if i < 0 then i + x.length else i)) && decide ((if i < 0 then i + x.length else i) < x.length)) = true then some (if i < 0 then i + x.length else i).toNat else none) = _
    rw [if_neg (show ¬ i < 0 by omega), if_pos (by simp; omega)]
  unfold Txt.item Txt.charAt
  rw [e]
  simp [List.getD]
theorem item_neg {x : Str} {i : Int} (h0 : i < 0) (h1 : -i ≤ x.length) : Txt.item x i = ⟨#[x.cps.toList.getD (i + x.length).toNat 0]⟩ := by
  have e : seqIndex? i x.length = some (i + x.length).toNat := by
    show (if (decide (0 ≤ (if i < 0 then i + x.length else i)) && decide ((if i < 0 then i + x.length else i) < x.length)) = true then some (if i < 0 then i + x.length else i).toNat else none) = _
    rw [if_pos h0, if_pos (by simp; omega)]
  unfold Txt.item Txt.charAt
  rw [e]
  simp [List.getD]

def scanL : List Nat → List Nat
  | [] => []
  | [c] => if c = 34 then [] else [c]
  | c :: d :: r => if c = 34 then (if d = 34 then 34 :: scanL r else []) else c :: scanL (d :: r)
theorem scanL_other {c : Nat} {r : List Nat} (h : c ≠ 34) : scanL (c :: r) = c :: scanL r := by
  cases r with
  | nil => simp [scanL, h]
  | cons d r => simp [scanL, h]
theorem scanL_two {r : List Nat} : scanL (34 :: 34 :: r) = 34 :: scanL r := by simp [scanL]
theorem scanL_end {r : List Nat} (h : ∀ d r', r = d :: r' → d ≠ 34) : scanL (34 :: r) = [] := by
  cases r with
  | nil => simp [scanL]
  | cons d r => simp [scanL, h d r rfl]
def ScanInv (x : Str) (i : Int) (dn : Str) : Prop := dn.cps.toList ++ scanL (x.cps.toList.drop i.toNat) = scanL (x.cps.toList.drop 5)
theorem drop_item {x : Str} {i : Int} (h0 : 0 ≤ i) (h1 : i < x.length) : x.cps.toList.drop i.toNat = x.cps.toList.getD i.toNat 0 :: x.cps.toList.drop (i + 1).toNat := by
  have hx : x.length = x.cps.toList.length := by simp [Str.length]
  rw [List.drop_eq_getElem_cons (by omega), show (i + 1).toNat = i.toNat + 1 by omega]
  simp [List.getD, List.getElem?_eq_getElem (show i.toNat < x.cps.toList.length by omega)]
theorem quote_eq : Str.ofString "\"" = ⟨#[34]⟩ := by decide +kernel
theorem item_quote {x : Str} {i : Int} (h0 : 0 ≤ i) (h1 : i < x.length) : (Txt.item x i == Str.ofString "\"") = decide (x.cps.toList.getD i.toNat 0 = 34) := by
  rw [item_of h0 h1, quote_eq]
  by_cases h : x.cps.toList.getD i.toNat 0 = 34
  · rw [h]; simp
  · rw [decide_eq_false h, beq_eq_false_iff_ne]
    intro e; simp at e; exact h (by simpa using e)
theorem scan_turn1 {x : Str} {i : Int} {dn : Str} (h0 : 5 ≤ i) (h2 : i < x.length) (h3 : (dn.length : Int) ≤ i) (h4 : ScanInv x i dn) (hc : (Txt.item x i == Str.ofString "\"") = false) :
    5 ≤ i + 1 ∧ i + 1 ≤ x.length ∧ ((dn ++ Txt.item x i).length : Int) ≤ i + 1 ∧ ScanInv x (i + 1) (dn ++ Txt.item x i) := by
  refine ⟨by omega, by omega, ?_, ?_⟩
  · rw [item_of (by omega) h2]
    have : (dn ++ (⟨#[x.cps.toList.getD i.toNat 0]⟩ : Str)).length = dn.length + 1 := by
      show (dn.cps ++ #[_]).size = dn.cps.size + 1
      simp
    omega
  · rw [item_quote (by omega) h2, decide_eq_false_iff_not] at hc
    unfold ScanInv at *
    rw [drop_item (by omega) h2, scanL_other hc] at h4
    rw [item_of (by omega) h2]
    show (dn.cps ++ #[_]).toList ++ _ = _
    simp only [Array.toList_append, List.append_assoc]
    exact h4
theorem scan_turn2 {x : Str} {i : Int} {dn : Str} (h0 : 5 ≤ i) (h2 : i < x.length) (h3 : (dn.length : Int) ≤ i) (h4 : ScanInv x i dn) (hc : (Txt.item x i == Str.ofString "\"") = true) (h5 : ¬ (x.length : Int) ≤ i + 1) (hd : (Txt.item x (i + 1) != Str.ofString "\"") = false) :
    5 ≤ i + 1 + 1 ∧ i + 1 + 1 ≤ x.length ∧ ((dn ++ Txt.item x i).length : Int) ≤ i + 1 + 1 ∧ ScanInv x (i + 1 + 1) (dn ++ Txt.item x i) := by
  have hd' : (Txt.item x (i + 1) == Str.ofString "\"") = true := by
    cases q : (Txt.item x (i + 1) == Str.ofString "\"") with
    | true => rfl
    | false => simp [bne, q] at hd
  refine ⟨by omega, by omega, ?_, ?_⟩
  · rw [item_of (by omega) h2]
    have : (dn ++ (⟨#[x.cps.toList.getD i.toNat 0]⟩ : Str)).length = dn.length + 1 := by
      show (dn.cps ++ #[_]).size = dn.cps.size + 1
      simp
    omega
  · rw [item_quote (by omega) h2, decide_eq_true_eq] at hc
    rw [item_quote (by omega) (by omega), decide_eq_true_eq] at hd'
    unfold ScanInv at *
    rw [drop_item (by omega) h2, drop_item (i := i + 1) (by omega) (by omega), hc, hd', scanL_two] at h4
    rw [item_of (by omega) h2, hc]
    show (dn.cps ++ #[34]).toList ++ _ = _
    simp only [Array.toList_append, List.append_assoc]
    exact h4
theorem scan_end1 {x : Str} {i : Int} {dn : Str} (h0 : 5 ≤ i) (h2 : i < x.length) (h4 : ScanInv x i dn) (hc : (Txt.item x i == Str.ofString "\"") = true) (h5 : (x.length : Int) ≤ i + 1) : dn = ⟨⟨scanL (x.cps.toList.drop 5)⟩⟩ := by
  have hx : x.length = x.cps.toList.length := by simp [Str.length]
  rw [item_quote (by omega) h2, decide_eq_true_eq] at hc
  unfold ScanInv at h4
  rw [drop_item (by omega) h2, hc, scanL_end (by
    intro d r' e
    rw [List.drop_of_length_le (by omega)] at e
    cases e)] at h4
  apply str_ext
  simpa using h4
theorem scan_end2 {x : Str} {i : Int} {dn : Str} (h0 : 5 ≤ i) (h2 : i < x.length) (h4 : ScanInv x i dn) (hc : (Txt.item x i == Str.ofString "\"") = true) (h5 : ¬ (x.length : Int) ≤ i + 1) (hd : (Txt.item x (i + 1) != Str.ofString "\"") = true) : dn = ⟨⟨scanL (x.cps.toList.drop 5)⟩⟩ := by
  rw [item_quote (by omega) h2, decide_eq_true_eq] at hc
  have hd' : (Txt.item x (i + 1) == Str.ofString "\"") = false := by
    cases q : (Txt.item x (i + 1) == Str.ofString "\"") with
    | false => rfl
    | true => simp [bne, q] at hd
  rw [item_quote (by omega) (by omega), decide_eq_false_iff_not] at hd'
  unfold ScanInv at h4
  rw [drop_item (by omega) h2, hc, scanL_end (by
    intro d r' e
    rw [drop_item (i := i + 1) (by omega) (by omega)] at e
    cases e
    exact hd')] at h4
  apply str_ext
  simpa using h4
theorem scan_end3 {x : Str} {i : Int} {dn : Str} (h2 : ¬ i < x.length) (h4 : ScanInv x i dn) : dn = ⟨⟨scanL (x.cps.toList.drop 5)⟩⟩ := by
  have hx : x.length = x.cps.toList.length := by simp [Str.length]
  unfold ScanInv at h4
  rw [List.drop_of_length_le (by omega)] at h4
  apply str_ext
  simpa [scanL] using h4
theorem scan_start {x : Str} : ScanInv x 5 (Str.ofString "") := by
  have : Str.ofString "" = ⟨#[]⟩ := by decide +kernel
  rw [this]
  unfold ScanInv
  simp
end Mine
namespace Mine
abbrev RowP : Program := PySem.Challenge.rw_tp0048_02.row.prog
abbrev Kp (h h' : Heap) : Prop := ∀ b o, h.get? b = some o → h'.get? b = some o
theorem Kp.trans {a b c : Heap} (x : Kp a b) (y : Kp b c) : Kp a c := fun i o e => y i o (x i o e)
theorem Fr.on {h₀ h h' : Heap} {L : Addr} {m : Str → Option Value} (F : Fr h₀ L h m) (k : Kp h h') : Fr h₀ L h' m := by
  obtain ⟨⟨o, a1, a2, hL, a3⟩, kp, ab⟩ := F
  exact ⟨⟨o, a1, a2, k _ _ hL, a3⟩, fun b o e => k _ _ (kp b o e), ab⟩
theorem News.on {h₀ h h' : Heap} {L : Addr} {news : List (Addr × Obj)} (N : News h₀ L h news) (k : Kp h h') : News h₀ L h' news := fun p hp => ⟨k _ _ (N p hp).1, (N p hp).2.1, (N p hp).2.2⟩

/-- what a heap must bear for the text's defs to be called -/
structure WF (w : World) (mean : ExcName → Option Value) (mg mb : Str → Option Value) (h : Heap) : Prop where
  X : (hd.heap_1 w.params).In h
  T : Top q0 (looseW q0 loose0) mean mg mb h
  S : h.get? 68 = some (setO w.params)
theorem WF.on {w : World} {mean : ExcName → Option Value} {mg mb : Str → Option Value} {h h' : Heap} (W : WF w mean mg mb h) (k : Kp h h') : WF w mean mg mb h' := ⟨W.X.keeps k, W.T.keeps k, k _ _ W.S⟩

/-- a contract: the call of the def at f with vs comes back with a v of R, all that stood stands -/
def SC (k : Nat) (w : World) (f : Addr) (vs : List Value) (pre : Heap → Prop) (R : Heap → Value → Heap → Prop) : Prop :=
  ∀ (mean : ExcName → Option Value) (mg mb : Str → Option Value) (A : Around) (s : Shared) (Q E : Value → Shared → Prop),
    WF w mean mg mb s.heap → pre s.heap → A.handled = none → A.depth + k < recursionLimit → A.units + 10 * k < cLine →
    (∀ v h' tk', R s.heap v h' → Kp s.heap h' → Q v { s with heap := h', toks := tk' }) → wpAny (model PySem.Challenge.rw_tp0048_02.row.prog w) A (call (.ref f) vs) Q E s
abbrev calm (A : Around) : Around := { A with handled := none }
theorem calm_of {A : Around} (h : A.handled = none) : A = calm A := by cases A; cases h; rfl
theorem SC.enter {k : Nat} (hk8 : 2 ≤ k) {w : World} {f : Addr} {vs : List Value} {pre : Heap → Prop} {R : Heap → Value → Heap → Prop} {name qual : Str} {params : Arguments} {body : List Stmt} {scope : Scope} {dV kV doc pm cdv ct oc : Value} {an od : Option Addr} {osl : Array (Option Value)} {binds : List (Str × Value)}
    (ho : ∀ P, (hd.heap_1 P).lookup f = some ⟨oc, od, .func (fnOf name qual params body scope dV kV doc pm an cdv ct), osl⟩) (hcd : ∀ P, codeIn (hd.heap_1 P) cdv qual = true)
    (hbind : bindArgs (fnOf name qual params body scope dV kV doc pm an cdv ct) ⟨vs, []⟩ = pure binds) (hloc : ∀ y ∈ binds, scope.names.lookup y.1 = some .local)
    (hcell : ∀ x ∈ scope.names, x.2 ≠ .cell) (hco : scope.isCoroutine = false) (hgen : scope.isGenerator = false) (hk : scope.kind = .function)
    (h : ∀ (mean : ExcName → Option Value) (mg mb : Str → Option Value) (A : Around) (s : Shared) (Q E : Value → Shared → Prop) (L : Addr) (h₁ : Heap) (tk₁ : Nat),
      Fr s.heap L h₁ (fun y => binds.reverse.lookup y) → News s.heap L h₁ [] → (hd.heap_1 w.params).In s.heap → Top q0 (looseW q0 loose0) mean mg mb s.heap → s.heap.get? 68 = some (setO w.params) → pre s.heap → A.handled = none → A.depth + k < recursionLimit → A.units + 10 * k < cLine →
      (∀ v h' tk', R s.heap v h' → Kp s.heap h' → Q v { s with heap := h', toks := tk' }) →
      wpAny (model PySem.Challenge.rw_tp0048_02.row.prog w) ((calm A).deeper (envOf qual scope L f cdv)) (execs body (envOf qual scope L f cdv)) (fun fl s' => Q (match fl with | .ret v => v | _ => .none) s')
        (fun e s' => wpAny (model PySem.Challenge.rw_tp0048_02.row.prog w) ((calm A).deeper (envOf qual scope L f cdv)) (leaving (envOf qual scope L f cdv) e) (fun _ s'' => E e s'') (fun e' s'' => E e' s'') s')
        { s with heap := h₁, toks := tk₁ }) : SC k w f vs pre R := by
  intro mean mg mb A s Q E W hp hh hd1 hu hret
  refine wpAny_call ?_
  refine codeAny_call_def (fd := fnOf name qual params body scope dV kV doc pm an cdv ct) (body := body) (binds := binds) (by omega) (W.X _ _ (ho _)) rfl W.T.nolimit (codeRec_of W.X (hcd _)) rfl (BindsTo.of_eq hbind) hcell hloc (fun h₁ hns hk₁ => ?_) hco hgen hk
  have hA : A = calm A := calm_of hh
  rw [hA]
  exact h mean mg mb A s Q E _ h₁ _ ⟨hns, hk₁, Nat.le_refl _⟩ News.nil W.X W.T W.S hp hh hd1 hu hret
theorem SC.use {k : Nat} {w : World} {f : Addr} {vs : List Value} {pre : Heap → Prop} {R : Heap → Value → Heap → Prop} (c : SC k w f vs pre R) {mean : ExcName → Option Value} {mg mb : Str → Option Value} {A : Around} {s : Shared} {Q E : Value → Shared → Prop} {h₀ : Heap} {L : Addr} {m : Str → Option Value} {news : List (Addr × Obj)}
    (F : Fr h₀ L s.heap m) (N : News h₀ L s.heap news) (X : (hd.heap_1 w.params).In h₀) (T : Top q0 (looseW q0 loose0) mean mg mb h₀) (S : h₀.get? 68 = some (setO w.params)) (hp : pre s.heap) (hh : A.handled = none) (hd1 : A.depth + k < recursionLimit) (hu : A.units + 10 * k < cLine)
    (h : ∀ v h' tk', R s.heap v h' → Fr h₀ L h' m → News h₀ L h' news → Kp s.heap h' → Q v { s with heap := h', toks := tk' }) : wpAny (model PySem.Challenge.rw_tp0048_02.row.prog w) A (call (.ref f) vs) Q E s :=
  c mean mg mb A s Q E ((WF.mk X T S).on F.keep) hp hh hd1 hu fun v h' tk' r k => h v h' tk' r (Fr.on F k) (News.on N k) k
abbrev RI (n : Int) : Heap → Value → Heap → Prop := fun _ v _ => ∃ t, v = .int n t
abbrev RS (x : Str) : Heap → Value → Heap → Prop := fun _ v _ => ∃ t, v = .str x t
abbrev RB (b : Bool) : Heap → Value → Heap → Prop := fun _ v _ => v = .bool b
abbrev noPre : Heap → Prop := fun _ => True
theorem retI {n k : Int} {h₀ h' : Heap} {L : Addr} {m : Str → Option Value} {Q : Value → Shared → Prop} {s : Shared} {t : Tok} {tk : Nat} (hret : ∀ v h' tk', RI n h₀ v h' → Kp h₀ h' → Q v { s with heap := h', toks := tk' }) (F : Fr h₀ L h' m) (e : k = n) : Q (.int k t) { s with heap := h', toks := tk } := by
  subst e; exact hret _ _ _ ⟨t, rfl⟩ F.keep
theorem retS {n k : Str} {h₀ h' : Heap} {L : Addr} {m : Str → Option Value} {Q : Value → Shared → Prop} {s : Shared} {t : Tok} {tk : Nat} (hret : ∀ v h' tk', RS n h₀ v h' → Kp h₀ h' → Q v { s with heap := h', toks := tk' }) (F : Fr h₀ L h' m) (e : k = n) : Q (.str k t) { s with heap := h', toks := tk } := by
  subst e; exact hret _ _ _ ⟨t, rfl⟩ F.keep
theorem retB {n k : Bool} {h₀ h' : Heap} {L : Addr} {m : Str → Option Value} {Q : Value → Shared → Prop} {s : Shared} {tk : Nat} (hret : ∀ v h' tk', RB n h₀ v h' → Kp h₀ h' → Q v { s with heap := h', toks := tk' }) (F : Fr h₀ L h' m) (e : k = n) : Q (.bool k) { s with heap := h', toks := tk } := by
  subst e; exact hret _ _ _ rfl F.keep
def b1L : List Int := [173, 847, 6150, 6155, 6156, 6157, 8203, 8204, 8205, 8288, 65279, 65024, 65025, 65026, 65027, 65028, 65029, 65030, 65031, 65032, 65033, 65034, 65035, 65036, 65037, 65038, 65039]
def elemsB (l : List (Int × Value)) : Bool := l.all fun e => match e.2 with | .int k _ => e.1 == hashInt k | _ => false
theorem elems_of {prog : Program} {w : World} {l : List (Int × Value)} (h : elemsB l = true) : ElemsOf (PySem.intKind prog w) l := fun e he => by
  have := List.all_eq_true.mp h e he
  obtain ⟨a, v⟩ := e
  cases v with
  | int k t =>
    refine ⟨⟨k, ?_, ?_⟩, rfl⟩
    · show Value.isInt k (.int k t) = true
      simp [Value.isInt]
    · exact beq_iff_eq.mp this
  | _ => cases this
def keysB (ks : List Int) (l : List (Int × Value)) : Bool := (l.all fun e => match e.2 with | .int k _ => ks.contains k | _ => false) && ks.all fun k => l.any fun e => match e.2 with | .int j _ => j == k | _ => false
theorem keys_of {ks : List Int} {l : List (Int × Value)} (h : keysB ks l = true) (k : Int) : ks.contains k = true ↔ ∃ e ∈ l, Value.isInt k e.2 = true := by
  obtain ⟨h1, h2⟩ := Bool.and_eq_true_iff.mp h
  constructor
  · intro hk
    have := List.all_eq_true.mp h2 k (List.contains_iff_mem.mp hk)
    obtain ⟨e, he, q⟩ := List.any_eq_true.mp this
    refine ⟨e, he, ?_⟩
    obtain ⟨a, v⟩ := e
    cases v with
    | int j t =>
      have : j = k := beq_iff_eq.mp q
      subst this
      simp [Value.isInt]
    | _ => cases q
  · rintro ⟨⟨a, v⟩, he, q⟩
    have := List.all_eq_true.mp h1 _ he
    obtain ⟨t, rfl⟩ := Value.isInt_shape q
    exact this
theorem set_of {w : World} {h : Heap} (e : h.get? 68 = some (setO w.params)) : h.SetOf (PySem.intKind PySem.Challenge.rw_tp0048_02.row.prog w) 68 (fun k => b1L.contains k) 27 :=
  ⟨_, _, _, _, e, ⟨rfl, rfl, rfl⟩, rfl, elems_of (by kernel_rfl), keys_of (by kernel_rfl), by decide, by kernel_rfl, rfl⟩
theorem set_in {w : World} {A : Around} {h₀ : Heap} {L : Addr} {m : Str → Option Value} {s : Shared} {Q E : Value → Shared → Prop} {k : Int} {t : Tok} (S : h₀.get? 68 = some (setO w.params)) (F : Fr h₀ L s.heap m)
    (h : Q (.bool (b1L.contains k)) { s with toks := s.toks + 1 }) : wpAny (model PySem.Challenge.rw_tp0048_02.row.prog w) A (compareOp .In (.int k t) (.ref 68)) Q E s :=
  wpAny_inSet_of (knd := PySem.intKind PySem.Challenge.rw_tp0048_02.row.prog w) (k := k) (by show Value.isInt k (.int k t) = true; simp [Value.isInt]) rfl (set_of (F.keep _ _ S)) h
local macro_rules | `(tactic| walk_at $s:str) => do `(tactic| k_extra $(Lean.Syntax.mkStrLit (s.getString ++ "!")))
theorem c_b1 (w : World) (p : Nat) (t : Tok) : SC 8 w 78 [.str ⟨#[p]⟩ t] noPre (RB (b1L.contains p)) := by
  k_with_none
  (k_with "compareOp In int ref!" => (k_here; refine' set_in ?k1 ?k2 ?_; (case k1 => k_asm); (case k2 => k_asm)))
  refine SC.enter (by decide) (fun P => by with_unfolding_all rfl) (fun P => by with_unfolding_all rfl) (by rfl) (locs rfl) (by decide) rfl rfl rfl ?_
  w_top off
  k_fill
  intro mean mg mb A s Q E L h₁ tk₁ F N X T S hp hh hd1 hu hret
  k_steps
  all_goals (dsimp only; refine retB hret (by k_asm) rfl)
def lookK (k : Int) : List (Int × Str) → Option Str
  | [] => none
  | (j, v) :: r => if j = k then some v else lookK k r
theorem entsBy_find {m : Nat} : ∀ {T : Nat} {l : List (Int × Str)} {k : Int}, match lookK k l with
    | some v => ∃ t e, (entsBy m T l).find? (fun d => Value.isInt k d.key) = some e ∧ e.val = .str v t
    | none => (entsBy m T l).find? (fun d => Value.isInt k d.key) = none
  | T, [], k => rfl
  | T, (j, v) :: r, k => by
    unfold lookK
    by_cases h : j = k
    · subst h
      rw [if_pos rfl]
      refine ⟨T + 1, ⟨j, .int j T, .str v (T + 1)⟩, ?_, rfl⟩
      rw [entsBy, List.find?_cons_of_pos]
      simp [Value.isInt]
    · rw [if_neg h, entsBy, List.find?_cons_of_neg]
      · exact entsBy_find
      · simp [Value.isInt, h]
theorem entsBy_keys {m : Nat} : ∀ {T : Nat} {l : List (Int × Str)}, (l.all fun x => x.1 == hashInt x.1) = true → ∀ e ∈ entsBy m T l, ∃ k, Value.isInt k e.key = true ∧ e.hash = hashInt k
  | T, [], _, e, h => by cases h
  | T, (j, v) :: r, hh, e, h => by
    rw [List.all_cons, Bool.and_eq_true] at hh
    rcases List.mem_cons.mp h with rfl | h
    · exact ⟨j, by simp [Value.isInt], beq_iff_eq.mp hh.1⟩
    · exact entsBy_keys hh.2 e h
noncomputable abbrev dEnts : List DictEntry := entsBy 3 341 (kvs.take 646) ++ entsBy 2 (341 + 51 * 38) (kvs.drop 646)
theorem dict_at (P : Params) : (hd.heap_1 P).lookup 79 = some (dO dEnts 650) := by kernel_rfl
theorem hash_ok : (kvs.all fun x => x.1 == hashInt x.1) = true := by kernel_rfl
theorem lookK_append (k : Int) : ∀ (a b : List (Int × Str)), lookK k (a ++ b) = match lookK k a with | some v => some v | none => lookK k b
  | [], b => rfl
  | (j, v) :: r, b => by
    rw [List.cons_append, lookK, lookK]
    split
    · rfl
    · exact lookK_append k r b
noncomputable def b3Map (k : Int) : Option Value := findBy Value.isInt dEnts.toArray k
theorem b3Map_some {k : Int} {v : Str} (h : lookK k kvs = some v) : ∃ t, b3Map k = some (.str v t) := by
  unfold b3Map findBy
  rw [List.find?_toArray, List.find?_append]
  rw [← List.take_append_drop 646 kvs, lookK_append] at h
  have h1 := entsBy_find (m := 3) (T := 341) (l := kvs.take 646) (k := k)
  have h2 := entsBy_find (m := 2) (T := 341 + 51 * 38) (l := kvs.drop 646) (k := k)
  cases q : lookK k (kvs.take 646) with
  | some u =>
    rw [q] at h h1
    obtain rfl : u = v := Option.some.inj h
    obtain ⟨t, e, e1, e2⟩ := h1
    exact ⟨t, by rw [e1]; simp [e2]⟩
  | none =>
    rw [q] at h h1
    dsimp only at h h1
    rw [h] at h2
    obtain ⟨t, e, e1, e2⟩ := h2
    exact ⟨t, by rw [h1, e1]; simp [e2]⟩
theorem b3Map_none {k : Int} (h : lookK k kvs = none) : b3Map k = none := by
  unfold b3Map findBy
  rw [List.find?_toArray, List.find?_append]
  rw [← List.take_append_drop 646 kvs, lookK_append] at h
  have h1 := entsBy_find (m := 3) (T := 341) (l := kvs.take 646) (k := k)
  have h2 := entsBy_find (m := 2) (T := 341 + 51 * 38) (l := kvs.drop 646) (k := k)
  cases q : lookK k (kvs.take 646) with
  | some u => rw [q] at h; cases h
  | none =>
    rw [q] at h h1
    dsimp only at h h1
    rw [h] at h2
    dsimp only at h2
    rw [h1, h2]
    rfl
theorem map_of {w : World} {h : Heap} (X : (hd.heap_1 w.params).In h) : h.MapOf (PySem.intKind PySem.Challenge.rw_tp0048_02.row.prog w) 79 b3Map :=
  ⟨_, dEnts.toArray, 650, X _ _ (dict_at _), ⟨rfl, rfl, rfl⟩, rfl, fun e he => by
    rw [List.mem_toArray, List.mem_append] at he
    have q : ((kvs.take 646).all fun x => x.1 == hashInt x.1) = true ∧ ((kvs.drop 646).all fun x => x.1 == hashInt x.1) = true := by
      have := hash_ok
      rw [← List.take_append_drop 646 kvs, List.all_append, Bool.and_eq_true] at this
      exact this
    rcases he with he | he
    · exact entsBy_keys q.1 e he
    · exact entsBy_keys q.2 e he, fun k => rfl⟩
theorem b3_method {w : World} {A : Around} {h₀ : Heap} {L : Addr} {m : Str → Option Value} {s : Shared} {pl : Sem Bool} {Q : Value × List Value → Shared → Prop} {E : Value → Shared → Prop} (F : Fr h₀ L s.heap m) (X : (hd.heap_1 w.params).In h₀)
    (h : Q (.builtin "dict.get", [.ref 79]) s) : wpAny (model PySem.Challenge.rw_tp0048_02.row.prog w) A (getMethod (.ref 79) "get" pl) Q E s :=
  have M := map_of (w := w) (X.keeps F.keep)
  getMethod_builtin M.typeIs PySem.F.plainAttrs_dict PySem.F.slot_dict_get PySem.F.type_dict_get M.noDict h
theorem b3_get {w : World} {A : Around} {h₀ : Heap} {L : Addr} {m : Str → Option Value} {s : Shared} {k : Int} {t : Tok} {Q E : Value → Shared → Prop} (F : Fr h₀ L s.heap m) (X : (hd.heap_1 w.params).In h₀)
    (h1 : ∀ v u, lookK k kvs = some v → Q (.str v u) { s with toks := s.toks + 1 }) (h2 : lookK k kvs = none → Q .none { s with toks := s.toks + 1 }) : wpAny (model PySem.Challenge.rw_tp0048_02.row.prog w) A (call (.builtin "dict.get") [.ref 79, .int k t]) Q E s := by
  have M := map_of (w := w) (X.keeps F.keep)
  refine call_meetsIn PySem.F.slot_dict_get M.typeIs PySem.F.entry_dict_get (PySem.F.args_dict_get_2 _ _) (meets_dict_get (PySem.intKind PySem.Challenge.rw_tp0048_02.row.prog w) (k := k) 79 (by show Value.isInt k (.int k t) = true; simp [Value.isInt]) rfl) ⟨b3Map, M, ?_⟩
  cases q : lookK k kvs with
  | some v =>
    obtain ⟨u, e⟩ := b3Map_some q
    rw [e]
    exact h1 v u q
  | none =>
    rw [b3Map_none q]
    exact h2 q
noncomputable def b3Of (p : Nat) : Str := match lookK p kvs with | some v => v | none => Txt.lower ⟨#[p]⟩
theorem c_b3 (w : World) (p : Nat) (t : Tok) : SC 8 w 124 [.str ⟨#[p]⟩ t] noPre (RS (b3Of p)) := by
  k_with_none
  (k_with "compareOp In int ref!" => (k_here; refine' set_in ?k1 ?k2 ?_; (case k1 => k_asm); (case k2 => k_asm)))
  (k_with "getMethod ref!" => (k_here; refine' b3_method ?k1 ?k2 ?_; (case k1 => k_asm); (case k2 => k_asm)))
  (k_with "call builtin:dict.get!" => (k_here; refine' b3_get ?k1 ?k2 ?_ ?_; (case k1 => k_asm); (case k2 => k_asm); intro cbV cbU cbQ; rotate_left; intro cbQ; rotate_right))
  refine SC.enter (by decide) (fun P => by with_unfolding_all rfl) (fun P => by with_unfolding_all rfl) (by rfl) (locs rfl) (by decide) rfl rfl rfl ?_
  w_top off
  k_fill
  intro mean mg mb A s Q E L h₁ tk₁ F N X T S hp hh hd1 hu hret
  have hp1 : (⟨#[p]⟩ : Str).length = 1 := rfl
  k_steps
  · dsimp only
    refine retS hret (by k_asm) ?_
    (rename lookK _ kvs = some _ => hq)
    unfold b3Of; rw [show lookK (p : Int) kvs = _ from hq]
  · dsimp only
    refine retS hret (by k_asm) ?_
    (rename lookK _ kvs = none => hq)
    unfold b3Of; rw [show lookK (p : Int) kvs = _ from hq]
def subCost (a b : Str) : Int := if a == b then 0 else if Txt.lower a == Txt.lower b then 1 else 2
theorem c_sub (w : World) (x y : Str) (tx ty : Tok) (hx : x.length = 1) (hy : y.length = 1) : SC 8 w 21 [.str x tx, .str y ty] noPre (RI (subCost x y)) := by
  k_with_none
  (k_with "compareOp In int ref!" => (k_here; refine' set_in ?k1 ?k2 ?_; (case k1 => k_asm); (case k2 => k_asm)))
  (k_with "getMethod ref!" => (k_here; refine' b3_method ?k1 ?k2 ?_; (case k1 => k_asm); (case k2 => k_asm)))
  (k_with "call builtin:dict.get!" => (k_here; refine' b3_get ?k1 ?k2 ?_ ?_; (case k1 => k_asm); (case k2 => k_asm); intro cbV cbU cbQ; rotate_left; intro cbQ; rotate_right))
  refine SC.enter (by decide) (fun P => by with_unfolding_all rfl) (fun P => by with_unfolding_all rfl) (by rfl) (locs rfl) (by decide) rfl rfl rfl ?_
  w_top off
  k_fill
  intro mean mg mb A s Q E L h₁ tk₁ F N X T S hp hh hd1 hu hret
  k_steps
  all_goals (dsimp only; refine retI hret (by k_asm) ?_; unfold subCost; simp_all)
theorem c_parse (w : World) (x : Str) (tx : Tok) (hx : x.length < 1000) (h5 : 5 ≤ x.length) (h3 : (Txt.slice x none (some 3) != Str.ofString "257") = false) (hq : (Txt.slice x (some 3) (some 5) != Str.ofString " \"") = false) :
   SC 8 w 60 [.str x tx] noPre (RS ⟨⟨scanL (x.cps.toList.drop 5)⟩⟩) := by
  k_with_none
  (k_with "compareOp In int ref!" => (k_here; refine' set_in ?k1 ?k2 ?_; (case k1 => k_asm); (case k2 => k_asm)))
  (k_with "getMethod ref!" => (k_here; refine' b3_method ?k1 ?k2 ?_; (case k1 => k_asm); (case k2 => k_asm)))
  (k_with "call builtin:dict.get!" => (k_here; refine' b3_get ?k1 ?k2 ?_ ?_; (case k1 => k_asm); (case k2 => k_asm); intro cbV cbU cbQ; rotate_left; intro cbQ; rotate_right))
  refine SC.enter (by decide) (fun P => by with_unfolding_all rfl) (fun P => by with_unfolding_all rfl) (by rfl) (locs rfl) (by decide) rfl rfl rfl ?_
  w_top off
  k_fill
  intro mean mg mb A s Q E L h₁ tk₁ F N X T S hp hh hd1 hu hret
  (k_with "exec While Compare cons nil" => k_while (fun _ i dn => 5 ≤ i ∧ i ≤ x.length ∧ dn.length ≤ i ∧ ScanInv x i dn) (fun _ i _ => (x.length - i).toNat) "i" "dirname")
  (k_with "state" => (first | exact scan_turn1 (by assumption) (by assumption) (by assumption) (by assumption) (by assumption) | exact scan_turn2 (by assumption) (by assumption) (by assumption) (by assumption) (by assumption) (by assumption) (by assumption) | exact ⟨by omega, by omega, by decide, scan_start⟩))
  k_steps
  all_goals (dsimp only; refine retS hret (by k_asm) ?_; first | exact scan_end1 (by assumption) (by assumption) (by assumption) (by assumption) (by assumption) | exact scan_end2 (by assumption) (by assumption) (by assumption) (by assumption) (by assumption) (by assumption) | exact scan_end3 (by omega) (by assumption))

end Mine
namespace Mine
open LCg LCt in
theorem rest_signs {w : World} {A : Around} {h₀ : Heap} {L : Addr} {m : Str → Option Value} {env : Env} {ct elt : Expr} {x : Str} {scope : Scope} {cl : List (Str × Addr)} {s : Shared} {news : List (Addr × Obj)} {Fin : List Value → List (Addr × Obj) → Prop}
    (p : Nat → Bool) (g : Nat → Str) (y : Str)
    (turn : ∀ c u I oI C oC D m₂ ys h tk (E' : Value → Shared → Prop), NsObj oC m₂ → m₂ x = some (.str ⟨#[c]⟩ u) → Fr h₀ L h m → News h₀ L h ((I, oI) :: (C, oC) :: (D, lst ys) :: news) → Off3 I C D news → ((@Ne Nat I C) ∧ (@Ne Nat I D) ∧ (@Ne Nat C D)) →
      wpAny (model PySem.Challenge.rw_tp0048_02.row.prog w) A (isTrue ct (compEnvC scope cl C env) (eval ct (compEnvC scope cl C env))) (fun ok s' => ok = p c ∧ if ok = true then
        wpAny (model PySem.Challenge.rw_tp0048_02.row.prog w) A (eval elt (compEnvC scope cl C env)) (CompEnd h₀ L m { s with heap := h, toks := tk } I oI C oC D (lst ys) (fun _ => True) (fun y news' => news' = news ∧ ∃ t, y = .str (g c) t)) E' s'
        else CompEnd h₀ L m { s with heap := h, toks := tk } I oI C oC D (lst ys) (fun _ => True) (fun _ news' => news' = news) Value.none s') E' { s with heap := h, toks := tk })
    (fin : ∀ ys, StrsAre ys ((y.cps.toList.filter p).map g) → Fin ys news) :
    CompRestT PySem.Challenge.rw_tp0048_02.row.prog w A h₀ L m env ct elt x scope cl s (fun _ => True) (SignAt y) Fin y.cps.size 0 [] news := by
  have key : ∀ (j i : Nat) (ys : List Value), i + j = y.cps.size → StrsAre ys (((y.cps.toList.take i).filter p).map g) → CompRestT PySem.Challenge.rw_tp0048_02.row.prog w A h₀ L m env ct elt x scope cl s (fun _ => True) (SignAt y) Fin j i ys news := by
    intro j
    induction j with
    | zero =>
      intro i ys hi hy
      rw [List.take_of_length_le (by simp; omega)] at hy
      exact CompRestT.zero (fin ys hy)
    | succ j ih =>
      intro i ys hi hy
      refine CompRestT.succ ?_
      intro v I oI C oC D m₂ h tk E' hv hC hx F N off ne
      obtain ⟨c, u, hc, rfl⟩ := hv
      have hc' : y.cps.toList[i]? = some c := by simpa using hc
      refine wpAny_mono (turn c u I oI C oC D m₂ ys h tk E' hC hx F N off ne) (fun ok s₂ hq => ?_) fun _ _ e => e
      obtain ⟨rfl, hq⟩ := hq
      cases hp : p c with
      | true =>
        rw [hp] at hq
        simp only [if_true] at hq ⊢
        refine wpAny_mono hq (fun y₁ s₃ h₃ => ?_) fun _ _ e => e
        obtain ⟨h', tk', nw, e, F', N', off', hS, hn, t', hy'⟩ := h₃
        subst hn
        refine ⟨h', tk', _, e, F', N', off', hS, ?_⟩
        rw [hy']
        refine ih (i + 1) _ (by omega) ?_
        rw [List.take_add_one, hc', List.filter_append, List.map_append]
        simp only [Option.toList, List.filter_cons, hp, List.filter_nil, if_true, List.map_cons, List.map_nil]
        exact kct_snoc hy
      | false =>
        rw [hp] at hq
        simp only [Bool.false_eq_true, if_false] at hq ⊢
        obtain ⟨h', tk', nw, e, F', N', off', hS, hn⟩ := hq
        subst hn
        refine ⟨h', tk', _, e, F', N', off', hS, ?_⟩
        refine ih (i + 1) _ (by omega) ?_
        rw [List.take_add_one, hc', List.filter_append, List.map_append]
        simp only [Option.toList, List.filter_cons, hp, List.filter_nil, Bool.false_eq_true, if_false, List.map_nil, List.append_nil]
        exact hy
  exact key _ 0 [] (by omega) (by simpa using StrsAre.nil)
open LCg LCt in
def TxtSrc (w : World) (A : Around) (h₀ : Heap) (L : Addr) (m : Str → Option Value) (env : Env) (ct elt : Expr) (x : Str) (scope : Scope) (cl : List (Str × Addr)) (Q : Value → Shared → Prop) (xv : Value) (s₁ : Shared) : Prop :=
  ∃ y t news, xv = .str y t ∧ Fr h₀ L s₁.heap m ∧ News h₀ L s₁.heap news ∧ y.cps.size ≤ sizeLine ∧
      ∀ g, CompRestT PySem.Challenge.rw_tp0048_02.row.prog w A h₀ L m env ct elt x scope cl { s₁ with heap := g } (fun _ => True) (SignAt y) (FinE h₀ L m { s₁ with heap := g } Q) y.cps.size 0 [] news
open LCg LCt in
theorem TxtSrc.intro {w : World} {A : Around} {h₀ : Heap} {L : Addr} {m : Str → Option Value} {env : Env} {ct elt : Expr} {x : Str} {scope : Scope} {cl : List (Str × Addr)} {Q : Value → Shared → Prop} {s₁ : Shared} {y : Str} {t : Tok} {news : List (Addr × Obj)} (F : Fr h₀ L s₁.heap m) (N : News h₀ L s₁.heap news) (hy : y.length < 1000)
  (h : ∀ g, CompRestT PySem.Challenge.rw_tp0048_02.row.prog w A h₀ L m env ct elt x scope cl { s₁ with heap := g } (fun _ => True) (SignAt y) (FinE h₀ L m { s₁ with heap := g } Q) y.cps.size 0 [] news) : TxtSrc w A h₀ L m env ct elt x scope cl Q (.str y t) s₁ :=
  ⟨y, t, news, rfl, F, N, by have : y.cps.size < 1000 := hy; rw [PySem.sizeLine_eq]; omega, h⟩
open LCg LCt in
theorem comp_signs {w : World} {A : Around} {E : Value → Shared → Prop} {s : Shared} {h₀ : Heap} {L : Addr} {m : Str → Option Value} {env : Env} {ct elt iter : Expr} {x : Str} {px : Pos} {scope : Scope} {cl : List (Str × Addr)} {pos : Pos} {Q : Value → Shared → Prop} (F₀ : Fr h₀ L s.heap m)
    (hclos : closureFor scope env = pure cl) (hcell : ∀ y ∈ scope.names, y.2 ≠ .cell) (hkind : scope.kind = .function)
    (hnames : ∀ y ∈ scope.names, y.2 = .local → scope.names.lookup y.1 = some .local) (hx : scope.names.lookup x = some .local) (hh : A.handled = none)
    (h : wpAny (model PySem.Challenge.rw_tp0048_02.row.prog w) A (eval iter env) (TxtSrc w A h₀ L m env ct elt x scope cl Q) E s)
    (hs : ∀ x, foldedSetIterable iter env x = pure x := by intro _; rfl) :
    wpAny (model PySem.Challenge.rw_tp0048_02.row.prog w) A (eval (.ListComp elt [⟨.Name x px, iter, [ct], 0⟩] scope pos) env) Q E s := by
  rw [eval_ListComp]
  refine wpAny_comprehension_free (use := none) rfl hs hclos hkind hnames (wpAny_mono h (fun xv s₁ h₁ => ?_) fun _ _ e => e)
  obtain ⟨y, t, news, rfl, F, N, hsz, R⟩ := h₁
  cases ha : y.cps.all (· < 128)
  · refine wpAny_pyIter_wide ha ?_
    refine block_T (Walks.strWide hh _ y t) hsz (fun i h st => by obtain ⟨o, e, _⟩ := st; exact ⟨_, e⟩) (fun i h h' o nw st e e' _ _ _ => by obtain ⟨z, hz, r⟩ := st; exact ⟨z, by rw [e', ← e, hz], r⟩) hcell hkind hx ⟨_, Heap.get?_push_size _ rfl, rfl, rfl⟩ (fun b hb => ?_)
      (F.keeps fun _ _ e => Heap.get?_push_of_some _ e) (N.grown fun _ _ e => Heap.get?_push_of_some _ e) (Nat.ne_of_lt F.ns.lt) (next_is_new F) (fun p hp => Nat.ne_of_lt (Heap.lt_size (N p hp).1)) trivial (R _) ?_
    · rw [List.mem_singleton.mp hb]
      show s₁.heap.objs.size < (s₁.heap.push _).objs.size
      rw [Heap.size_push]; exact Nat.lt_succ_self _
    · intro D C h tk m' ys news' F' N' o1 hn hC₀ hD₀ hCL hDL hCD offC fin
      refine ⟨m', hn, fun h'' hs'' => fin D h'' tk (F'.change hs'' hCL hC₀) (fun p hp => ?_) o1⟩
      refine ⟨hs''.extBut _ _ ?_ (N' p hp).1, (N' p hp).2⟩
      rcases List.mem_cons.mp hp with rfl | hp
      · exact Ne.symm hCD
      · exact offC p hp
  · refine wpAny_pyIter_ascii ha ?_
    refine block_T (Walks.strAscii hh _ y t) hsz (fun i h st => by obtain ⟨o, e, _⟩ := st; exact ⟨_, e⟩) (fun i h h' o nw st e e' _ _ _ => by obtain ⟨z, hz, r⟩ := st; exact ⟨z, by rw [e', ← e, hz], r⟩) hcell hkind hx ⟨_, Heap.get?_push_size _ rfl, rfl, rfl⟩ (fun b hb => ?_)
      (F.keeps fun _ _ e => Heap.get?_push_of_some _ e) (N.grown fun _ _ e => Heap.get?_push_of_some _ e) (Nat.ne_of_lt F.ns.lt) (next_is_new F) (fun p hp => Nat.ne_of_lt (Heap.lt_size (N p hp).1)) trivial (R _) ?_
    · rw [List.mem_singleton.mp hb]
      show s₁.heap.objs.size < (s₁.heap.push _).objs.size
      rw [Heap.size_push]; exact Nat.lt_succ_self _
    · intro D C h tk m' ys news' F' N' o1 hn hC₀ hD₀ hCL hDL hCD offC fin
      refine ⟨m', hn, fun h'' hs'' => fin D h'' tk (F'.change hs'' hCL hC₀) (fun p hp => ?_) o1⟩
      refine ⟨hs''.extBut _ _ ?_ (N' p hp).1, (N' p hp).2⟩
      rcases List.mem_cons.mp hp with rfl | hp
      · exact Ne.symm hCD
      · exact offC p hp
def keepB (c : Nat) : Bool := !(b1L.contains (c : Int))
noncomputable def prepL (l : List Nat) : List Str := (l.filter keepB).map b3Of
noncomputable def prepT (x : Str) : Str := Txt.join Str.empty (prepL x.cps.toList)
theorem b3_vals : (kvs.all fun x => decide (x.2.length ≤ 4)) = true := by kernel_rfl
theorem lookK_mem {k : Int} {v : Str} : ∀ {l : List (Int × Str)}, lookK k l = some v → ∃ j, (j, v) ∈ l
  | (j, u) :: r, h => by
    unfold lookK at h
    split at h
    · exact ⟨j, by cases h; exact List.mem_cons_self⟩
    · obtain ⟨i, hi⟩ := lookK_mem h
      exact ⟨i, List.mem_cons_of_mem _ hi⟩
theorem b3Of_len (p : Nat) : (b3Of p).length ≤ 4 := by
  unfold b3Of
  split
  · rename_i v h
    obtain ⟨j, hj⟩ := lookK_mem h
    exact of_decide_eq_true (List.all_eq_true.mp b3_vals _ hj)
  · have h := len_lower ⟨#[p]⟩
    have : (⟨#[p]⟩ : Str).length = 1 := rfl
    omega
theorem sum_le4 : ∀ l : List Nat, ((l.map b3Of).map (·.length)).sum ≤ 4 * l.length
  | [] => Nat.le_refl _
  | p :: r => by
    have := b3Of_len p
    have := sum_le4 r
    simp only [List.map_cons, List.sum_cons, List.length_cons]
    omega
theorem prep_fit {x : Str} (h : x.length < 1000) : ((prepL x.cps.toList).map (·.length)).sum + (prepL x.cps.toList).length * 64 ≤ 16777216 := by
  have h1 := sum_le4 (x.cps.toList.filter keepB)
  have h2 : (x.cps.toList.filter keepB).length ≤ x.cps.toList.length := List.length_filter_le _ _
  have h3 : x.cps.toList.length = x.length := by simp [Str.length]
  unfold prepL
  rw [List.length_map]
  omega

local macro_rules | `(tactic| walk_at $s:str) => do `(tactic| k_extra $(Lean.Syntax.mkStrLit (s.getString ++ "!")))
theorem c_prep (w : World) (x : Str) (tx : Tok) (hx : x.length < 1000) : SC 16 w 143 [.str x tx] noPre (RS (prepT x)) := by
  k_with_none
  (k_with "eval ListComp!" => (k_here; k_dflt (refine comp_signs (F₀ := by k_asm) (by with_unfolding_all rfl) (by decide) (by rfl) (by decide) (by rfl) (by first | exact rfl | assumption) ?_)))
  (k_with "TxtSrc!" => (k_here; (refine TxtSrc.intro (by k_asm) (by k_asm) (by omega) ?_); intro g9; refine rest_signs keepB b3Of _ ?turn ?fin))
  (k_with "call ref!" => (k_here; (first | (refine' SC.use (c_b1 _ _ _) ?F ?N ?X ?T ?S ?hp ?hh ?hd ?hu ?_) | (refine' SC.use (c_b3 _ _ _) ?F ?N ?X ?T ?S ?hp ?hh ?hd ?hu ?_)); (case F => k_asm); (case N => k_asm); (case X => k_asm); (case T => k_asm); (case S => k_asm); (case hp => trivial); (case hh => first | assumption | exact rfl); (case hd => first | ktr_room | (show _ < _; simp only [Around.deeper]; omega)); (case hu => first | ktr_units | (show _ < _; simp only [Around.deeper]; omega)); intro v9 h9 tk9 hR9 F9 N9 K9; (first | (obtain ⟨t9, rfl⟩ := hR9) | (obtain rfl := hR9)); (try dsimp only); (try k_fold)))
  refine SC.enter (by decide) (fun P => by with_unfolding_all rfl) (fun P => by with_unfolding_all rfl) (by rfl) (locs rfl) (by decide) rfl rfl rfl ?_
  w_top off
  k_fill
  intro mean mg mb A s Q E L h₁ tk₁ F N X T S hp hh hd1 hu hret
  k_steps
  all_goals (refine join_listC (News.isList (by assumption) (by k_mem)) (by assumption) (by decide) (prep_fit hx) ?_; intro t9 k9; refine retS hret (by assumption) ?_; rfl)
def priceOf (a b : Nat) : Int := if ((⟨#[a]⟩ : Str) == ⟨#[b]⟩) = true then 0 else if (a : Int) < 128 ∧ (b : Int) < 128 ∧ (if (a : Int) - (b : Int) < 0 then -((a : Int) - (b : Int)) else (a : Int) - (b : Int)) = 32 then 1 else 2
theorem c_price (w : World) (p q : Nat) (tp tq : Tok) : SC 8 w 138 [.str ⟨#[p]⟩ tp, .str ⟨#[q]⟩ tq] noPre (RI (priceOf p q)) := by
  k_with_none
  (k_with "eval ListComp!" => (k_here; k_dflt (refine comp_signs (F₀ := by k_asm) (by with_unfolding_all rfl) (by decide) (by rfl) (by decide) (by rfl) (by first | exact rfl | assumption) ?_)))
  (k_with "TxtSrc!" => (k_here; (refine TxtSrc.intro (by k_asm) (by k_asm) (by omega) ?_); intro g9; refine rest_signs keepB b3Of _ ?turn ?fin))
  (k_with "call ref!" => (k_here; (first | (refine' SC.use (c_b1 _ _ _) ?F ?N ?X ?T ?S ?hp ?hh ?hd ?hu ?_) | (refine' SC.use (c_b3 _ _ _) ?F ?N ?X ?T ?S ?hp ?hh ?hd ?hu ?_)); (case F => k_asm); (case N => k_asm); (case X => k_asm); (case T => k_asm); (case S => k_asm); (case hp => trivial); (case hh => first | assumption | exact rfl); (case hd => first | ktr_room | (show _ < _; simp only [Around.deeper]; omega)); (case hu => first | ktr_units | (show _ < _; simp only [Around.deeper]; omega)); intro v9 h9 tk9 hR9 F9 N9 K9; (first | (obtain ⟨t9, rfl⟩ := hR9) | (obtain rfl := hR9)); (try dsimp only); (try k_fold)))
  refine SC.enter (by decide) (fun P => by with_unfolding_all rfl) (fun P => by with_unfolding_all rfl) (by rfl) (locs rfl) (by decide) rfl rfl rfl ?_
  w_top off
  k_fill
  intro mean mg mb A s Q E L h₁ tk₁ F N X T S hp hh hd1 hu hret
  k_steps
  all_goals (dsimp only; refine retI hret (by k_asm) ?_; unfold priceOf; (try simp_all) <;> (try (intros; omega)))

end Mine
namespace Mine
/-- the first sign's code of a spelled letter -/
def alph : List Int := [119808, 119860, 119912, 120016, 120172, 120224, 120276, 120328, 120380, 120432]
theorem getD_bnd {lo hi : Int} (h0 : lo ≤ 0) (h1 : 0 ≤ hi) : ∀ {l : List Int} {k : Nat}, (∀ x ∈ l, lo ≤ x ∧ x ≤ hi) → lo ≤ l.getD k 0 ∧ l.getD k 0 ≤ hi
  | [], k, _ => by simp; exact ⟨h0, h1⟩
  | x :: r, 0, h => by simpa using h x List.mem_cons_self
  | x :: r, k + 1, h => by simpa using getD_bnd h0 h1 (l := r) (k := k) fun y hy => h y (List.mem_cons_of_mem _ hy)
theorem l3_bnd {l0 l1 l2 : Int} (hl : 0 ≤ l0 ∧ l0 < 26 ∧ 0 ≤ l1 ∧ l1 < 26 ∧ 0 ≤ l2 ∧ l2 < 26) (k : Nat) : 0 ≤ [l0, l1, l2].getD k 0 ∧ [l0, l1, l2].getD k 0 ≤ 25 :=
  getD_bnd (by decide) (by decide) (by intro x hx; simp at hx; omega)
theorem chr_small {l0 l1 l2 z : Int} {k : Nat} (hl : 0 ≤ l0 ∧ l0 < 26 ∧ 0 ≤ l1 ∧ l1 < 26 ∧ 0 ≤ l2 ∧ l2 < 26) (h : z.fmod 6 < 2) : 0 ≤ 97 - 32 * z.fmod 6 + [l0, l1, l2].getD k 0 ∧ 97 - 32 * z.fmod 6 + [l0, l1, l2].getD k 0 ≤ 1114111 := by
  have h1 := l3_bnd hl k
  have h2 : 0 ≤ z.fmod 6 := Int.fmod_nonneg_of_pos z (by decide)
  omega
theorem chr_big {l0 l1 l2 : Int} {j k : Nat} (hl : 0 ≤ l0 ∧ l0 < 26 ∧ 0 ≤ l1 ∧ l1 < 26 ∧ 0 ≤ l2 ∧ l2 < 26) : 0 ≤ alph.getD j 0 + [l0, l1, l2].getD k 0 ∧ alph.getD j 0 + [l0, l1, l2].getD k 0 ≤ 1114111 := by
  have h1 := l3_bnd hl k
  have h2 : 0 ≤ alph.getD j 0 ∧ alph.getD j 0 ≤ 200000 := getD_bnd (by decide) (by decide) (by decide)
  omega
def cLet (l form first : Int) : Nat := (if form < 2 then 97 - 32 * form + l else alph.getD ((first + form - 2).fmod 10).toNat 0 + l).toNat
def formOf (y : Int) (k : Nat) : Int := (y.fdiv (6 ^ k)).fmod 6
def sgn (l0 l1 l2 y first : Int) (k : Nat) : Str := ⟨#[cLet ([l0, l1, l2].getD k 0) (formOf y k) first]⟩
theorem sgn_small {l0 l1 l2 y first : Int} {e e' k : Nat} (h : (y.fdiv (6 ^ e)).fmod 6 < 2) (he : e = k) (he' : e' = k) : (⟨#[(97 - 32 * (y.fdiv (6 ^ e)).fmod 6 + [l0, l1, l2].getD e' 0).toNat]⟩ : Str) = sgn l0 l1 l2 y first k := by
  subst he he'; unfold sgn cLet formOf; rw [if_pos h]
theorem sgn_big {l0 l1 l2 y first : Int} {e e' k : Nat} (h : ¬ (y.fdiv (6 ^ e)).fmod 6 < 2) (he : e = k) (he' : e' = k) : (⟨#[([119808, 119860, 119912, 120016, 120172, 120224, 120276, 120328, 120380, 120432].getD ((first + (y.fdiv (6 ^ e)).fmod 6 - 2).fmod 10).toNat 0 + [l0, l1, l2].getD e' 0).toNat]⟩ : Str) = sgn l0 l1 l2 y first k := by
  subst he he'; unfold sgn cLet formOf; rw [if_neg h]; rfl
def insQ (p : Nat) (a b c : Str) : List Str := match p with | 0 => [⟨#[34]⟩, a, b, c] | 1 => [a, ⟨#[34]⟩, b, c] | 2 => [a, b, ⟨#[34]⟩, c] | _ => [a, b, c, ⟨#[34]⟩]
/-- a made list of texts comes back, new -/
def RL (l : List Str) : Heap → Value → Heap → Prop := fun h₀ v h' => ∃ D vs n, v = .ref D ∧ h₀.get? D = none ∧ h'.get? D = some (W.listOf vs n) ∧ StrsAre vs.toList l
theorem strs_cons' {x y : Str} {t : Tok} {vs : List Value} {ys : List Str} (e : x = y) (r : StrsAre vs ys) : StrsAre (.str x t :: vs) (y :: ys) := by subst e; exact .cons _ _ r
def P4s (p : Int) : Prop := p = 0 ∨ p = 1 ∨ p = 2 ∨ p = 3
def SpDone (h₀ : Heap) (L : Addr) (m : Str → Option Value) (I D : Addr) (oi : Obj) (vs : Array Value) (al : Addr × Obj) (x : Str) (s : Shared) (fl : Flow) (s' : Shared) : Prop :=
  ∃ h' tk' t n, fl = .next ∧ s' = { s with heap := h', toks := tk' } ∧ Fr h₀ L h' m ∧ News h₀ L h' [(I, oi), (D, W.listOf (vs.push (.str x t)) n), al]
theorem SpDone.intro {h₀ : Heap} {L : Addr} {m : Str → Option Value} {I D : Addr} {oi : Obj} {vs : Array Value} {al : Addr × Obj} {x u : Str} {s : Shared} {h' : Heap} {tk' : Nat} {t : Tok} {n : Nat} (F : Fr h₀ L h' m) (N : News h₀ L h' [(I, oi), (D, W.listOf (vs.push (.str u t)) n), al]) (h : u = x) :
   SpDone h₀ L m I D oi vs al x s .next { s with heap := h', toks := tk' } := by subst h; exact ⟨h', tk', t, n, rfl, rfl, F, N⟩
def OnGoS (p : Prop) : Prop := p
theorem OnGoS.mk {p : Prop} (h : p) : OnGoS p := h
theorem sp_merge {w : World} {A : Around} {E : Value → Shared → Prop} {s : Shared} {h₀ : Heap} {L : Addr} {m : Str → Option Value} {I D : Addr} {oi : Obj} {vs : Array Value} {n : Nat} {al : Addr × Obj} {env : Env} {st : Stmt} {Q : Flow → Shared → Prop} (g : Nat → Str) (F : Fr h₀ L s.heap m) (N : News h₀ L s.heap [(I, oi), (D, W.listOf vs n), al])
   (cut : wpAny (model PySem.Challenge.rw_tp0048_02.row.prog w) A (exec st env) (SpDone h₀ L m I D oi vs al (g vs.size) s) E s)
   (on : OnGoS (∀ h' tk' t n, Fr h₀ L h' m → News h₀ L h' [(I, oi), (D, W.listOf (vs.push (.str (g vs.size) t)) n), al] → Q .next { s with heap := h', toks := tk' })) : wpAny (model PySem.Challenge.rw_tp0048_02.row.prog w) A (exec st env) Q E s :=
  wpAny_mono cut (fun fl s' ⟨h', tk', t, n, e1, e2, F', N'⟩ => by rw [e1, e2]; exact on h' tk' t n F' N') fun _ _ e => e
local macro_rules | `(tactic| walk_at $s:str) => do `(tactic| k_extra $(Lean.Syntax.mkStrLit (s.getString ++ "!")))
theorem c_spelled (w : World) (a : Addr) (l0 l1 l2 y first : Int) (p : Int) (t0 t1 t2 tp ty tf : Tok) (hl : 0 ≤ l0 ∧ l0 < 26 ∧ 0 ≤ l1 ∧ l1 < 26 ∧ 0 ≤ l2 ∧ l2 < 26) (hpl : p = 0 ∨ p = 1 ∨ p = 2 ∨ p = 3) :
   SC 8 w 131 [.ref a, .int p tp, .int y ty, .int first tf] (fun h => h.IsList a #[.int l0 t0, .int l1 t1, .int l2 t2]) (RL (insQ p.toNat (sgn l0 l1 l2 y first 0) (sgn l0 l1 l2 y first 1) (sgn l0 l1 l2 y first 2))) := by
  k_with_none
  (k_with "call builtin:chr!" => (k_here; first | (refine chr_of_range (chr_small (by assumption) (by assumption)).1 (chr_small (by assumption) (by assumption)).2 ?_) | (refine chr_of_range (chr_big (by assumption)).1 (chr_big (by assumption)).2 ?_)))
  (k_with "exec Return some!" => (k_here; (with_reducible rename P4s _ => hq); k_dflt (unfold P4s at hq); rcases hq with hq | hq | hq | hq <;> subst hq))
  refine SC.enter (by decide) (fun P => by with_unfolding_all rfl) (fun P => by with_unfolding_all rfl) (by rfl) (locs rfl) (by decide) rfl rfl rfl ?_
  w_top off
  k_fill
  intro mean mg mb A s Q E L h₁ tk₁ F N X T S hp hh hd1 hu hret
  have hP4s : P4s p := hpl
  clear hpl
  (k_with "SpDone" => (k_here; refine' SpDone.intro ?F ?N ?h; (case F => k_asm); (case N => k_asm); (case h => k_dflt (first | exact sgn_small (by assumption) rfl rfl | exact sgn_big (by assumption) rfl rfl))))
  (k_with "OnGoS" => ((repeat (with_reducible rename Fr _ _ _ _ => z9; clear z9)); (repeat (with_reducible rename News _ _ _ _ => z9; clear z9)); refine OnGoS.mk ?_; intro hM tM uM nM FM NM; (try dsimp only)))
  (k_with "exec If" => ((fail_if_success (show wpAny _ _ _ (SpDone _ _ _ _ _ _ _ _ _ _) _ _)); (rename Fr _ _ _ _ => lF9); (rename News _ _ _ _ => lN9); k_dflt (refine' sp_merge (fun k => sgn l0 l1 l2 y first k) lF9 lN9 ?_ ?_)))
  k_steps
  all_goals (try (focus (show wpAny _ _ (call (Value.builtin _) [Value.ref _, _]) _ _ _; k_steps)))
  all_goals (try (focus (show wpAny _ _ (call (Value.builtin _) [Value.ref _, _]) _ _ _; k_steps)))
  all_goals (try (focus (show wpAny _ _ (call (Value.builtin _) [Value.ref _, _]) _ _ _; k_steps)))
  all_goals (try (focus (show wpAny _ _ (call (Value.builtin _) [Value.ref _, _]) _ _ _; k_steps)))
  all_goals (try (focus (show wpAny _ _ (call (Value.builtin _) [Value.ref _, _]) _ _ _; k_steps)))
  all_goals (dsimp only; rename News _ _ _ _ => lN; rename Fr _ _ _ _ => lF; refine hret _ _ _ ⟨_, _, _, rfl, (lN _ (List.mem_cons_self ..)).2.2, (lN _ (List.mem_cons_self ..)).1, ?_⟩ lF.keep)
  all_goals (refine strs_cons' ?_ (strs_cons' ?_ (strs_cons' ?_ (strs_cons' ?_ .nil))))
  all_goals (first | exact rfl | (with_reducible exact sgn_small (by assumption) (by with_unfolding_all rfl) (by with_unfolding_all rfl)) | (with_reducible exact sgn_big (by assumption) (by with_unfolding_all rfl) (by with_unfolding_all rfl)) | (with_reducible exact quote_eq) | fail)

end Mine
namespace Mine
theorem slice_nn {x : Str} : Txt.slice x none none = x := by
  refine str_ext ?_
  have hx : x.length = x.cps.toList.length := by simp [Str.length]
  have := slice_of (x := x) (l := none) (u := none) (a := 0) (b := x.length) (by
    unfold PySem.Builtin.Str.strSliceIndices
    simp only [show (1 : Int) > 0 by decide, if_true]
    rw [range_map_of _ _ (by omega) (by omega)]
    congr 2) (Nat.le_refl _)
  rw [this, List.drop_zero, List.take_of_length_le (by omega)]
theorem len_sn {x : Str} {i : Int} (h : 0 ≤ i) : (Txt.slice x (some i) none).length = x.length - i.toNat := by
  have e : i = ((i.toNat : Nat) : Int) := by omega
  have := congrArg List.length (slice_sn (x := x) (i := i.toNat))
  rw [← e, List.length_drop] at this
  simpa [Str.length] using this
def PreOf (a b : Str) : Prop := ∃ r, b.cps.toList = a.cps.toList ++ r
theorem PreOf.len {a b : Str} (h : PreOf a b) : a.length ≤ b.length := by
  obtain ⟨r, e⟩ := h
  have := congrArg List.length e
  rw [List.length_append] at this
  simp only [Array.length_toList] at this
  show a.cps.size ≤ b.cps.size
  omega
theorem PreOf.item {a b : Str} (h : PreOf a b) {i : Int} (h0 : 0 ≤ i) (h1 : i < a.length) : Txt.item a i = Txt.item b i := by
  have hl := h.len
  obtain ⟨r, e⟩ := h
  rw [item_of h0 h1, item_of h0 (by omega), e]
  have hx : i.toNat < a.cps.toList.length := by simp; have : a.length = a.cps.size := rfl; omega
  simp [List.getD, List.getElem?_append_left hx]
theorem lp1 {a b : Str} {i : Int} (hab : PreOf a b) (he : (Txt.item a i == Txt.item b i) = false) (h0 : 0 ≤ i) (hn : ((Txt.slice a (some i) none).length : Int) ≠ 0) : False := by
  rw [len_sn h0] at hn
  rw [hab.item h0 (by omega)] at he
  simp at he
theorem lp1' {a b : Str} {i : Int} (hab : PreOf a b) (he : (Txt.item b i == Txt.item a i) = false) (h0 : 0 ≤ i) (hn : ((Txt.slice a (some i) none).length : Int) ≠ 0) : False := by
  rw [len_sn h0] at hn
  rw [hab.item h0 (by omega)] at he
  simp at he
theorem lp2 {a b : Str} {i : Int} (hab : PreOf a b) (hn : ((Txt.slice a (some i) none).length : Int) ≠ 0) (hb : ((Txt.slice b (some i) none).length : Int) = 0) (h0 : 0 ≤ i) : False := by
  have := hab.len
  rw [len_sn h0] at hn hb
  omega
theorem lp3 {a b : Str} {i : Int} (hab : PreOf a b) (ha : ((Txt.slice a (some i) none).length : Int) = 0) (h0 : 0 ≤ i) (h1 : i ≤ a.length) : (2 : Int) * ((Txt.slice a (some i) none).length + (Txt.slice b (some i) none).length) = 2 * ((b.length : Int) - a.length) := by
  have := hab.len
  rw [len_sn h0] at ha ⊢
  rw [len_sn h0]
  omega
theorem slice_str_all {w : World} {A : Around} {E : Value → Shared → Prop} {s : Shared} {h₀ : Heap} {L : Addr} {m : Str → Option Value} {news : List (Addr × Obj)} {value slice : Expr} {x : Str} {t : Tok} {Q : Value → Shared → Prop} (hI : Fr h₀ L s.heap m) (N : News h₀ L s.heap news) (h : ∀ h' t' k, Fr h₀ L h' m → News h₀ L h' news → Q (.str x t') { s with heap := h', toks := k })
    (hs : subscripted slice false (.str x t) (.ref s.heap.objs.size) = operate [.ref s.heap.objs.size, .str x t] (getItem (.str x t) (.ref s.heap.objs.size)) := by with_unfolding_all rfl)
    (ht : ∀ r, letTemporaryGo value (.str x t) r = pure () := by intro _; with_unfolding_all rfl) (hsz : x.length ≤ sizeLine := by size_fits) :
    wpAny (model PySem.Challenge.rw_tp0048_02.row.prog w) A (subscriptTail value slice (.str x t) (.ref s.heap.objs.size)) Q E { s with heap := s.heap.push { cls := .type "slice", data := .fields #[.none, .none, .none] } } :=
  slice_strN_nn hI N (fun h' t' k hF hN => by rw [slice_nn]; exact h h' t' k hF hN) hs ht hsz
theorem sl_fits {x : Str} {l u : Option Int} (h : (Txt.slice x l u).length ≤ x.length) (hx : x.length < 1000) : (Txt.slice x l u).length ≤ sizeLine := by rw [PySem.sizeLine_eq]; omega
theorem len_neg {x : Str} {j : Int} (h : j < 0) (h1 : -(x.length : Int) ≤ j) : ((Txt.slice x none (some j)).length : Int) = x.length + j := by
  have e : j = -((-j).toNat : Int) := by omega
  have := congrArg List.length (slice_nneg (x := x) (j := (-j).toNat) (by omega))
  rw [← e, List.length_take] at this
  have hx : x.cps.toList.length = x.length := by simp [Str.length]
  have hy : (Txt.slice x none (some j)).cps.toList.length = (Txt.slice x none (some j)).length := by simp [Str.length]
  omega
theorem slice_str_neg {w : World} {A : Around} {E : Value → Shared → Prop} {s : Shared} {h₀ : Heap} {L : Addr} {m : Str → Option Value} {news : List (Addr × Obj)} {value slice : Expr} {x : Str} {t : Tok} {Q : Value → Shared → Prop} {j : Int} {uj : Tok} (hI : Fr h₀ L s.heap m) (N : News h₀ L s.heap news) (h0 : j < 0) (h1 : -(x.length : Int) ≤ j)
    (h : ∀ h' t' k, Fr h₀ L h' m → News h₀ L h' news → ((Txt.slice x none (some j)).length : Int) = x.length + j → Q (.str (Txt.slice x none (some j)) t') { s with heap := h', toks := k })
    (hs : subscripted slice false (.str x t) (.ref s.heap.objs.size) = operate [.ref s.heap.objs.size, .str x t] (getItem (.str x t) (.ref s.heap.objs.size)) := by with_unfolding_all rfl)
    (ht : ∀ r, letTemporaryGo value (.str x t) r = pure () := by intro _; with_unfolding_all rfl) (hsz : x.length ≤ sizeLine := by size_fits) :
    wpAny (model PySem.Challenge.rw_tp0048_02.row.prog w) A (subscriptTail value slice (.str x t) (.ref s.heap.objs.size)) Q E { s with heap := s.heap.push { cls := .type "slice", data := .fields #[.none, .int j uj, .none] } } :=
  slice_strN_ns hI N (fun h' t' k hF hN => h h' t' k hF hN (len_neg h0 h1)) hs ht hsz
theorem fits4 {x : Str} (hx : x.length ≤ 4) : x.length ≤ sizeLine := by rw [PySem.sizeLine_eq]; omega
def OnGo (p : Prop) : Prop := p
theorem OnGo.mk {p : Prop} (h : p) : OnGo p := h
def LoopDone (h₀ : Heap) (L : Addr) (m : Str → Option Value) (s : Shared) (x : Str) (P : Int → Prop) (fl : Flow) (s' : Shared) : Prop :=
  ∃ h' tk' i t, fl = .next ∧ s' = { s with heap := h', toks := tk' } ∧ Fr h₀ L h' (fun y => if y = x then some (.int i t) else m y) ∧ News h₀ L h' [] ∧ P i
theorem LoopDone.intro {h₀ : Heap} {L : Addr} {m : Str → Option Value} {s : Shared} {x : Str} {P : Int → Prop} {h' : Heap} {tk' : Nat} {i : Int} {t : Tok} (F : Fr h₀ L h' (fun y => if y = x then some (.int i t) else m y)) (N : News h₀ L h' []) (h : P i) :
   LoopDone h₀ L m s x P .next { s with heap := h', toks := tk' } := ⟨h', tk', i, t, rfl, rfl, F, N, h⟩
theorem loop_merge {w : World} {A : Around} {E : Value → Shared → Prop} {s : Shared} {h₀ : Heap} {L : Addr} {m : Str → Option Value} {env : Env} {st : Stmt} {Q : Flow → Shared → Prop} (x : Str) (P : Int → Prop) (F : Fr h₀ L s.heap m)
   (cut : wpAny (model PySem.Challenge.rw_tp0048_02.row.prog w) A (exec st env) (LoopDone h₀ L m s x P) E s)
   (on : OnGo (∀ h' tk' i t, Fr h₀ L h' (fun y => if y = x then some (.int i t) else m y) → News h₀ L h' [] → P i → Q .next { s with heap := h', toks := tk' })) : wpAny (model PySem.Challenge.rw_tp0048_02.row.prog w) A (exec st env) Q E s :=
  wpAny_mono cut (fun fl s' ⟨h', tk', i, t, e1, e2, F', N', x0⟩ => by rw [e1, e2]; exact on h' tk' i t F' N' x0) fun _ _ e => e
set_option hygiene false in
def cutTo (x : Str) (j : Int) : Str := if j = 0 then x else Txt.slice x none (some j)
theorem cutTo_len {x : Str} {j : Int} (h : j ≤ 0) (h1 : -(x.length : Int) ≤ j) : ((cutTo x j).length : Int) = x.length + j := by
  unfold cutTo
  split
  · omega
  · exact len_neg (by omega) h1
def TDone (h₀ : Heap) (L : Addr) (m : Str → Option Value) (s : Shared) (x : Str) (v : Str) (fl : Flow) (s' : Shared) : Prop :=
  ∃ h' tk' t, fl = .next ∧ s' = { s with heap := h', toks := tk' } ∧ Fr h₀ L h' (fun y => if y = x then some (.str v t) else m y) ∧ News h₀ L h' []
theorem TDone.intro {h₀ : Heap} {L : Addr} {m : Str → Option Value} {s : Shared} {x : Str} {v u : Str} {h' : Heap} {tk' : Nat} {t : Tok} (F : Fr h₀ L h' (fun y => if y = x then some (.str u t) else m y)) (N : News h₀ L h' []) (h : u = v) :
   TDone h₀ L m s x v .next { s with heap := h', toks := tk' } := by subst h; exact ⟨h', tk', t, rfl, rfl, F, N⟩
def OnGoT (p : Prop) : Prop := p
theorem OnGoT.mk {p : Prop} (h : p) : OnGoT p := h
theorem text_merge {w : World} {A : Around} {E : Value → Shared → Prop} {s : Shared} {h₀ : Heap} {L : Addr} {m : Str → Option Value} {env : Env} {st : Stmt} {Q : Flow → Shared → Prop} (x : Str) (v : Str) (F : Fr h₀ L s.heap m)
   (cut : wpAny (model PySem.Challenge.rw_tp0048_02.row.prog w) A (exec st env) (TDone h₀ L m s x v) E s)
   (on : OnGoT (∀ h' tk' t, Fr h₀ L h' (fun y => if y = x then some (.str v t) else m y) → News h₀ L h' [] → Q .next { s with heap := h', toks := tk' })) : wpAny (model PySem.Challenge.rw_tp0048_02.row.prog w) A (exec st env) Q E s :=
  wpAny_mono cut (fun fl s' ⟨h', tk', t, e1, e2, F', N'⟩ => by rw [e1, e2]; exact on h' tk' t F' N') fun _ _ e => e
def stepKs (a c : Int) : Nat → List Int
  | 0 => []
  | n + 1 => a :: stepKs (a + c) c n
theorem stepKs_len {c : Int} : ∀ {n : Nat} {a : Int}, (stepKs a c n).length = n
  | 0, _ => rfl
  | n + 1, a => by rw [stepKs, List.length_cons, stepKs_len]
theorem step_ints : ∀ (vs : List Value) (a c : Int) (n : Nat), vs.length = n → (∀ (j : Nat) (v : Value), vs[j]? = some v → ∃ t, v = .int (a + j * c) t) → IntsAre vs (stepKs a c n)
  | [], a, c, n, e, _ => by
    subst e
    exact IntsAre.nil
  | v :: r, a, c, n, e, h => by
    subst e
    rw [List.length_cons, stepKs]
    obtain ⟨t, ht⟩ := h 0 v rfl
    have hv : v = .int a t := by rw [ht]; simp
    subst hv
    refine IntsAre.cons _ _ (step_ints r (a + c) c r.length rfl fun j v hj => ?_)
    obtain ⟨t', ht'⟩ := h (j + 1) v hj
    refine ⟨t', ht'.trans ?_⟩
    congr 1
    push_cast
    rw [Int.add_mul]
    omega
theorem size_two {n : Nat} : Builtin.Range.rangeSize 2 (2 * ((n : Int) + 1)) 2 = (n : Int) := by
  unfold Builtin.Range.rangeSize
  rw [if_pos (by decide)]
  split <;> omega
theorem small_two {n : Nat} (h : n ≤ 4) : Builtin.Range.small 2 (2 * ((n : Int) + 1)) 2 = true := by
  have : n = 0 ∨ n = 1 ∨ n = 2 ∨ n = 3 ∨ n = 4 := by omega
  rcases this with rfl | rfl | rfl | rfl | rfl <;> rfl
theorem list_range2 {w : World} {A : Around} {E : Value → Shared → Prop} {s : Shared} {h₀ : Heap} {L r : Addr} {m : Str → Option Value} {news : List (Addr × Obj)} {n : Nat} {t₀ u₀ v₀ : Tok} {Q : Value → Shared → Prop} (hh : A.handled = none) (F : Fr h₀ L s.heap m) (N : News h₀ L s.heap news) (hr : IsRange s.heap r 2 (2 * ((n : Int) + 1)) 2 t₀ u₀ v₀) (hz : n ≤ 4)
    (h : ∀ D us c h' tk, Fr h₀ L h' m → News h₀ L h' ((D, listOf (List.toArray us) c) :: news) → (∀ p ∈ news, p.1 < D) → IntsAre us (stepKs 2 2 n) → Q (.ref D) { s with heap := h', toks := tk }) :
    wpAny (model PySem.Challenge.rw_tp0048_02.row.prog w) A (call (.type "list") [.ref r]) Q E s := by
  refine call_list_range hh hr (small_two hz) size_two (by omega) fun h' tk acc c hk hD hI => ?_
  have hD' : h'.get? s.heap.objs.size = some (listOf (List.toArray acc.toList) c) := by
    rw [Array.toArray_toList]
    exact hD
  exact h _ acc.toList c h' tk (F.keeps hk) (news_pushed F N hk hD' rfl) (fun p hp => Heap.lt_size (N p hp).1) (step_ints _ _ _ _ (by rw [Array.length_toList]; exact hI.1) fun j v hj => hI.2 j v (by rw [← hj, Array.getElem?_toList]))
abbrev cel (x r dc : Int) : Int := if dc < (if x < r then x else r) + 2 then dc else (if x < r then x else r) + 2
def inn : List Int → Nat → List Int → Int → Int → Int → List Int × Int × Int
  | [], _, row, _, r, m => (row, r, m)
  | c :: cs, k, row, d, r, m => inn cs (k + 1) (row.set k (cel (row.getD k 0) r (d + c))) (row.getD k 0) (cel (row.getD k 0) r (d + c)) (if cel (row.getD k 0) r (d + c) < m then cel (row.getD k 0) r (d + c) else m)
def big : Int := 9223372036854775807
def run : List (List Int) → Nat → Int → List Int → Int → Int
  | [], _, _, _, res => res
  | c :: cs, j, mx, row, _ => if mx < (inn c 0 row (j * 2) (j * 2) big).2.2 then mx + 1 else run cs (j + 1) mx (inn c 0 row (j * 2) (j * 2) big).1 (inn c 0 row (j * 2) (j * 2) big).2.1
def costRow (A B : Str) (bi : Int) : List Int := (List.range A.length).map fun (i : Nat) => subCost (Txt.item B bi) (Txt.item A (i : Int))
def costM (A B : Str) : List (List Int) := (List.range B.length).map fun (j : Nat) => costRow A B (j : Int)
theorem costRow_len {A B : Str} {j : Int} : (costRow A B j).length = A.length := by simp [costRow]
theorem costM_drop {A B : Str} {j : Nat} (h : j < B.length) : (costM A B).drop j = costRow A B (j : Int) :: (costM A B).drop (j + 1) := by
  have hl : j < (costM A B).length := by simpa [costM] using h
  rw [List.drop_eq_getElem_cons hl]
  congr 1
  simp [costM]
theorem costRow_drop {A B : Str} {bi : Int} {k : Nat} (h : k < A.length) : (costRow A B bi).drop k = subCost (Txt.item B bi) (Txt.item A (k : Int)) :: (costRow A B bi).drop (k + 1) := by
  have hl : k < (costRow A B bi).length := by simpa [costRow] using h
  rw [List.drop_eq_getElem_cons hl]
  congr 1
  simp [costRow]
theorem inner_start {cr row : List Int} {x : Int} {p : Nat} (h : row.length = p) : row.length = p ∧ inn (cr.drop ([] : List Int).length) ([] : List Int).length row x x 9223372036854775807 = inn cr 0 row x x big := ⟨h, rfl⟩
theorem outer_start {cm : List (List Int)} {mx : Int} {p : Nat} : (stepKs 2 2 p).length = p ∧ run (cm.drop ([] : List Int).length) ([] : List Int).length mx (stepKs 2 2 p) 0 = run cm 0 mx (stepKs 2 2 p) 0 := ⟨stepKs_len, rfl⟩
theorem inner_turn1 {A2 B2 : Str} {bi kN d r m : Int} {pre row : List Int} {T : List Int × Int × Int} (hk : kN = 0 + (pre.length : Int)) (hlt : pre.length < ((A2.length : Int) - 0).toNat) (hl : row.length = A2.length)
    (hw : inn ((costRow A2 B2 bi).drop pre.length) pre.length row d r m = T) (hm : cel (row.getD kN.toNat 0) r (d + subCost (Txt.item B2 bi) (Txt.item A2 kN)) < m) :
    (row.set kN.toNat (cel (row.getD kN.toNat 0) r (d + subCost (Txt.item B2 bi) (Txt.item A2 kN)))).length = A2.length ∧
    inn ((costRow A2 B2 bi).drop (pre ++ [kN]).length) (pre ++ [kN]).length (row.set kN.toNat (cel (row.getD kN.toNat 0) r (d + subCost (Txt.item B2 bi) (Txt.item A2 kN)))) (row.getD kN.toNat 0) (cel (row.getD kN.toNat 0) r (d + subCost (Txt.item B2 bi) (Txt.item A2 kN))) (cel (row.getD kN.toNat 0) r (d + subCost (Txt.item B2 bi) (Txt.item A2 kN))) = T := by
  have e : kN = (pre.length : Int) := by omega
  subst e
  refine ⟨by rw [List.length_set]; exact hl, ?_⟩
  rw [costRow_drop (by omega), inn] at hw
  rw [Int.toNat_natCast] at hm ⊢
  rw [if_pos hm] at hw
  rw [← hw, List.length_append]
  rfl
theorem inner_turn2 {A2 B2 : Str} {bi kN d r m : Int} {pre row : List Int} {T : List Int × Int × Int} (hk : kN = 0 + (pre.length : Int)) (hlt : pre.length < ((A2.length : Int) - 0).toNat) (hl : row.length = A2.length)
    (hw : inn ((costRow A2 B2 bi).drop pre.length) pre.length row d r m = T) (hm : ¬ cel (row.getD kN.toNat 0) r (d + subCost (Txt.item B2 bi) (Txt.item A2 kN)) < m) :
    (row.set kN.toNat (cel (row.getD kN.toNat 0) r (d + subCost (Txt.item B2 bi) (Txt.item A2 kN)))).length = A2.length ∧
    inn ((costRow A2 B2 bi).drop (pre ++ [kN]).length) (pre ++ [kN]).length (row.set kN.toNat (cel (row.getD kN.toNat 0) r (d + subCost (Txt.item B2 bi) (Txt.item A2 kN)))) (row.getD kN.toNat 0) (cel (row.getD kN.toNat 0) r (d + subCost (Txt.item B2 bi) (Txt.item A2 kN))) m = T := by
  have e : kN = (pre.length : Int) := by omega
  subst e
  refine ⟨by rw [List.length_set]; exact hl, ?_⟩
  rw [costRow_drop (by omega), inn] at hw
  rw [Int.toNat_natCast] at hm ⊢
  rw [if_neg hm] at hw
  rw [← hw, List.length_append]
  rfl
theorem outer_turn {A2 B2 : Str} {mx kN d r m res0 TOT : Int} {pre r0 row : List Int} (hk : kN = 0 + (pre.length : Int)) (hlt : pre.length < ((B2.length : Int) - 0).toNat)
    (hw : run ((costM A2 B2).drop pre.length) pre.length mx r0 res0 = TOT)
    (hi : inn ((costRow A2 B2 kN).drop (rangeKs 0 ((A2.length : Int) - 0).toNat).length) (rangeKs 0 ((A2.length : Int) - 0).toNat).length row d r m = inn (costRow A2 B2 kN) 0 r0 (kN * 2) (kN * 2) big) :
    (if mx < m then mx + 1 else run ((costM A2 B2).drop (pre ++ [kN]).length) (pre ++ [kN]).length mx row r) = TOT := by
  have e : kN = (pre.length : Int) := by omega
  subst e
  rw [List.drop_eq_nil_of_le (by rw [costRow_len, rangeKs_length]; omega)] at hi
  rw [costM_drop (by omega), run, ← hi] at hw
  rw [← hw, List.length_append]
  rfl
theorem outer_end {A2 B2 : Str} {mx res TOT : Int} {row : List Int} (hw : run ((costM A2 B2).drop (rangeKs 0 ((B2.length : Int) - 0).toNat).length) (rangeKs 0 ((B2.length : Int) - 0).toNat).length mx row res = TOT) : res = TOT := by
  rw [List.drop_eq_nil_of_le (by simp [costM, rangeKs_length])] at hw
  exact hw
def EqUp (a b : Str) (n : Int) : Prop := ∀ j : Int, 0 ≤ j → j < n → Txt.item a j = Txt.item b j
theorem EqUp.zero {a b : Str} : EqUp a b 0 := fun j h1 h2 => by omega
theorem EqUp.step {a b : Str} {n : Int} (h : EqUp a b n) (e : (Txt.item a n == Txt.item b n) = true) : EqUp a b (n + 1) := fun j h1 h2 => by
  rcases Int.lt_or_le j n with q | q
  · exact h j h1 q
  · have : j = n := by omega
    subst this; exact eq_of_beq e
def EqDn (a b : Str) (n : Int) : Prop := ∀ j : Int, n ≤ j → j < 0 → Txt.item a j = Txt.item b j
theorem EqDn.zero {a b : Str} : EqDn a b 0 := fun j h1 h2 => by omega
theorem EqDn.step {a b : Str} {n : Int} (h : EqDn a b n) (e : (Txt.item a (n - 1) == Txt.item b (n - 1)) = true) : EqDn a b (n - 1) := fun j h1 h2 => by
  rcases Int.lt_or_le j n with q | q
  · have : j = n - 1 := by omega
    subst this; exact eq_of_beq e
  · exact h j q h2
noncomputable def core (A2 B2 : Str) (mx : Int) : Int :=
  if (A2.length : Int) = 0 ∨ (B2.length : Int) = 0 then 2 * ((A2.length : Int) + B2.length) else if mx < ((B2.length : Int) - A2.length) * 2 then mx + 1 else run (costM A2 B2) 0 mx (stepKs 2 2 A2.length) 0
def LevRel (a b : Str) (mx n : Int) : Prop := (a = b ∧ n = 0) ∨ ((a == b) = false ∧ ∃ pre post : Int, 0 ≤ pre ∧ pre ≤ a.length ∧ pre ≤ b.length ∧ (pre < a.length → pre < b.length → (Txt.item a pre == Txt.item b pre) = false) ∧ EqUp a b pre ∧
  ∃ A1 B1, Txt.slice a (some pre) none = A1 ∧ Txt.slice b (some pre) none = B1 ∧ -(A1.length : Int) ≤ post ∧ -(B1.length : Int) ≤ post ∧ post ≤ 0 ∧ (0 < (A1.length : Int) + post → 0 < (B1.length : Int) + post → (Txt.item A1 (post - 1) == Txt.item B1 (post - 1)) = false) ∧ EqDn A1 B1 post ∧ n = core (cutTo A1 post) (cutTo B1 post) mx)
theorem lev_fin {a b A1 B1 A2 B2 : Str} {mx pre post n : Int} (hab : (a == b) = false) (hA : Txt.slice a (some pre) none = A1) (hB : Txt.slice b (some pre) none = B1) (hA2 : cutTo A1 post = A2) (hB2 : cutTo B1 post = B2)
    (x0 : 0 ≤ pre) (x1 : pre ≤ a.length) (x2 : pre ≤ b.length) (x3 : pre < a.length → pre < b.length → (Txt.item a pre == Txt.item b pre) = false) (x4 : EqUp a b pre) (y0 : -(A1.length : Int) ≤ post) (y1 : -(B1.length : Int) ≤ post) (y2 : post ≤ 0)
    (y3 : 0 < (A1.length : Int) + post → 0 < (B1.length : Int) + post → (Txt.item A1 (post - 1) == Txt.item B1 (post - 1)) = false) (y4 : EqDn A1 B1 post) (h : n = core A2 B2 mx) : LevRel a b mx n := by
  subst hA2 hB2
  exact .inr ⟨hab, pre, post, x0, x1, x2, x3, x4, A1, B1, hA, hB, y0, y1, y2, y3, y4, h⟩
abbrev RLev (a b : Str) (mx : Int) : Heap → Value → Heap → Prop := fun _ v _ => ∃ n t, v = .int n t ∧ LevRel a b mx n
theorem retL {a b : Str} {mx k : Int} {h₀ h' : Heap} {L : Addr} {m : Str → Option Value} {Q : Value → Shared → Prop} {s : Shared} {t : Tok} {tk : Nat} (hret : ∀ v h' tk', RLev a b mx h₀ v h' → Kp h₀ h' → Q v { s with heap := h', toks := tk' }) (F : Fr h₀ L h' m) (e : LevRel a b mx k) : Q (.int k t) { s with heap := h', toks := tk } :=
  hret _ _ _ ⟨k, t, rfl, e⟩ F.keep
theorem lev_eq {a b : Str} {mx : Int} (h : (a == b) = true) : LevRel a b mx 0 := .inl ⟨eq_of_beq h, rfl⟩
theorem core_far {A2 B2 : Str} {mx : Int} (h1 : (A2.length : Int) ≠ 0) (h2 : (B2.length : Int) ≠ 0) (h3 : mx < ((B2.length : Int) - A2.length) * 2) : mx + 1 = core A2 B2 mx := by
  unfold core; rw [if_neg (by omega), if_pos h3]
theorem core_a {A2 B2 : Str} {mx : Int} (h1 : (A2.length : Int) = 0) : 2 * ((A2.length : Int) + B2.length) = core A2 B2 mx := by
  unfold core; rw [if_pos (.inl h1)]
theorem core_b {A2 B2 : Str} {mx : Int} (h1 : (B2.length : Int) = 0) : 2 * ((A2.length : Int) + B2.length) = core A2 B2 mx := by
  unfold core; rw [if_pos (.inr h1)]
theorem core_run {A2 B2 : Str} {mx n : Int} (h1 : (A2.length : Int) ≠ 0) (h2 : (B2.length : Int) ≠ 0) (h3 : ¬ mx < ((B2.length : Int) - A2.length) * 2) (h : n = run (costM A2 B2) 0 mx (stepKs 2 2 A2.length) 0) : n = core A2 B2 mx := by
  unfold core; rw [if_neg (by omega), if_neg h3]; exact h
local macro_rules | `(tactic| walk_at $s:str) => do `(tactic| k_extra $(Lean.Syntax.mkStrLit (s.getString ++ "!")))
theorem c_lev (w : World) (a b : Str) (mx : Int) (ta tb tm : Tok) (ha : a.length ≤ b.length) (hb : b.length ≤ 4) : SC 16 w 28 [.str a ta, .str b tb, .int mx tm] noPre (RLev a b mx) := by
  k_with_none
  (k_with "subscriptTail Name Slice str ref!" => (k_here; (with_reducible show wpAny _ _ (subscriptTail _ (Expr.Slice none (some (Expr.BoolOp _ _ _)) none _) _ _) _ _ _); (with_reducible rename Fr _ _ _ _ => F'); (with_reducible rename News _ _ _ _ => N'); (first | (refine slice_str_neg (hsz := ?hsz) (s := ⟨_, _, _, _, _⟩) F' N' (by omega) (by omega) ?_) | (refine slice_str_all (hsz := ?hsz) (s := ⟨_, _, _, _, _⟩) F' N' ?_)); (case hsz => (refine fits4 ?_; omega)); intro _ _ _ _ _; (try intro hfact)))
  (k_with "LoopDone!" => (k_here; refine' LoopDone.intro ?F ?N ?h; (case F => k_asm); (case N => k_asm); (case h => (refine ⟨by omega, by omega, by omega, ?_, by assumption⟩; first | (intro _ _; assumption) | (intro _ _; exfalso; omega)))))
  (k_with "OnGo!" => ((repeat (with_reducible rename Fr _ _ _ _ => z9; clear z9)); (repeat (with_reducible rename News _ _ _ _ => z9; clear z9)); refine OnGo.mk ?_; intro hM tM iM uM FM NM xM; dsimp only at xM FM; (obtain ⟨x0, x1, x2, x3, x4⟩ := xM); (try dsimp only)))
  (k_with "TDone!" => (k_here; refine' TDone.intro ?F ?N ?h; (case F => k_asm); (case N => k_asm); (case h => (unfold cutTo; first | exact (if_pos (by assumption)).symm | exact (if_neg (by assumption)).symm))))
  (k_with "OnGoT!" => ((repeat (with_reducible rename Fr _ _ _ _ => z9; clear z9)); (repeat (with_reducible rename News _ _ _ _ => z9; clear z9)); refine OnGoT.mk ?_; intro hM tM uM FM NM; (try dsimp only)))
  (k_with "call type:list!" => (k_here; (with_reducible show wpAny _ _ (call (Value.type _) [Value.ref _]) _ _ _); (rename IsRange _ _ _ _ _ _ _ _ => rgX); (with_unfolding_all refine' list_range2 ?k0 ?k1 ?k2 ?k3 ?k4 ?_; (case k0 => rfl); (case k1 => k_asm); (case k2 => k_asm); (case k3 => exact rgX); (case k4 => omega)); intro D' vs' c' h' tk' F' N' l1 hI'; (try k_lt l1); (try k_sweep)))
  (k_with "call ref!" => (k_here; (first | (refine' SC.use (c_sub _ _ _ _ _ ?l1 ?l2) ?F ?N ?X ?T ?S ?hp ?hh ?hd ?hu ?_)); (case l1 => omega); (case l2 => omega); (case F => k_asm); (case N => k_asm); (case X => k_asm); (case T => k_asm); (case S => k_asm); (case hp => trivial); (case hh => first | assumption | exact rfl); (case hd => first | ktr_room | (show _ < _; simp only [Around.deeper]; omega)); (case hu => first | ktr_units | (show _ < _; simp only [Around.deeper]; omega)); intro v9 h9 tk9 hR9 F9 N9 K9; (obtain ⟨t9, e9⟩ := hR9); subst e9; (try dsimp only); (try k_fold)))
  refine SC.enter (by decide) (fun P => by with_unfolding_all rfl) (fun P => by with_unfolding_all rfl) (by rfl) (locs rfl) (by decide) rfl rfl rfl ?_
  w_top off
  k_fill
  intro mean mg mb A s Q E L h₁ tk₁ F N X T S hp hh hd1 hu hret
  (k_with "exec While BoolOp cons nil" => first
    | ((with_reducible show wpAny _ _ (exec (Stmt.While (Expr.BoolOp _ (Expr.Subscript _ (Expr.Slice (some _) none none _) _ :: _) _) _ _ _) _) _ _ _); (rename Fr _ _ _ _ => lF9); (rename News _ _ _ _ => lN9);
        refine' loop_merge "pre" (fun i => 0 ≤ i ∧ i ≤ (a.length : Int) ∧ i ≤ (b.length : Int) ∧ (i < (a.length : Int) → i < (b.length : Int) → (Txt.item a i == Txt.item b i) = false) ∧ EqUp a b i) lF9 ?cut ?on; (focus k_while (fun _ pre => 0 ≤ pre ∧ pre ≤ a.length ∧ pre ≤ b.length ∧ EqUp a b pre) (fun _ pre => (a.length - pre).toNat) "pre"))
    | ((generalize hA : Txt.slice a (some _) none = A1 at *); (generalize hB : Txt.slice b (some _) none = B1 at *); (have lenA : (A1.length : Int) = a.length - iM := by (rw [← hA, len_sn (by assumption)]; omega)); (have lenB : (B1.length : Int) = b.length - iM := by (rw [← hB, len_sn (by assumption)]; omega)); (rename Fr _ _ _ _ => lF9); (rename News _ _ _ _ => lN9);
        refine' loop_merge "post" (fun i => -(A1.length : Int) ≤ i ∧ -(B1.length : Int) ≤ i ∧ i ≤ 0 ∧ (0 < (A1.length : Int) + i → 0 < (B1.length : Int) + i → (Txt.item A1 (i - 1) == Txt.item B1 (i - 1)) = false) ∧ EqDn A1 B1 i) lF9 ?cut2 ?on2; (focus k_while (fun _ post => -(A1.length : Int) ≤ post ∧ -(B1.length : Int) ≤ post ∧ post ≤ 0 ∧ EqDn A1 B1 post) (fun _ post => (A1.length + post).toNat) "post")))
  (k_with "exec Assign" => first
    | ((with_reducible show wpAny _ _ (exec (Stmt.Assign [Expr.Name (Str.ofString "a") _] (Expr.Subscript _ (Expr.Slice none (some (Expr.BoolOp _ _ _)) none _) _) _) _) _ _ _); trace "ASA"; (rename Fr _ _ _ _ => lF9); (rename News _ _ _ _ => lN9); refine' text_merge "a" (cutTo A1 iM) lF9 ?cut3 ?on3)
    | ((with_reducible show wpAny _ _ (exec (Stmt.Assign [Expr.Name (Str.ofString "b") _] (Expr.Subscript _ (Expr.Slice none (some (Expr.BoolOp _ _ _)) none _) _) _) _) _ _ _); trace "ASB"; (rename Fr _ _ _ _ => lF9); (rename News _ _ _ _ => lN9); refine' text_merge "b" (cutTo B1 iM) lF9 ?cut4 ?on4; rotate_left; ((repeat (with_reducible rename Fr _ _ _ _ => z9; clear z9)); (repeat (with_reducible rename News _ _ _ _ => z9; clear z9)); refine OnGoT.mk ?_; intro hM tM uM FM NM; (have lA2 := cutTo_len (x := A1) (j := iM) (by assumption) (by assumption)); (have lB2 := cutTo_len (x := B1) (j := iM) (by assumption) (by assumption)); (generalize hA2 : cutTo A1 iM = A2 at *); (generalize hB2 : cutTo B1 iM = B2 at *); (try dsimp only)); rotate_right))
  (k_with "state" => (first
    | ((with_reducible show (_ ≤ _ ∧ _ ≤ _ ∧ _ ≤ _ ∧ EqUp _ _ _)); first | exact ⟨by omega, by omega, by omega, EqUp.zero⟩ | exact ⟨by omega, by omega, by omega, EqUp.step (by assumption) (by assumption)⟩ | (exfalso; omega))
    | ((with_reducible show (_ ≤ _ ∧ _ ≤ _ ∧ _ ≤ _ ∧ EqDn _ _ _)); first | exact ⟨by omega, by omega, by omega, EqDn.zero⟩ | exact ⟨by omega, by omega, by omega, EqDn.step (by assumption) (by assumption)⟩ | (exfalso; omega))
    | (with_reducible exact inner_start (by assumption)) | (with_reducible exact outer_start)
    | (with_reducible exact inner_turn1 (by assumption) (by assumption) (by assumption) (by assumption) (by assumption)) | (with_reducible exact inner_turn2 (by assumption) (by assumption) (by assumption) (by assumption) (by assumption))
    | (with_reducible refine ⟨by assumption, (if_neg (by assumption)).symm.trans (outer_turn (by assumption) (by assumption) (by assumption) (by assumption))⟩)
    | fail))
  (k_with "pyIter ref" => (k_of "bindex" => (trace "OUTER"; k_state (fun pre row result => row.length = A2.length ∧ run ((costM A2 B2).drop pre.length) pre.length mx row result = run (costM A2 B2) 0 mx (stepKs 2 2 A2.length) 0) "row" "result")))
  (k_with "pyIter ref" => (k_of "index" => (trace "INNER"; k_state_given ["row", "bindex"] (fun r0 bi pre row d r m => row.length = A2.length ∧ inn ((costRow A2 B2 bi).drop pre.length) pre.length row d r m = inn (costRow A2 B2 bi) 0 r0 (bi * 2) (bi * 2) big) "row" "distance" "result" "minimum")))
  k_steps
  all_goals ((try dsimp only); refine retL hret (by k_asm) ?_)
  all_goals first
    | (with_reducible exact lev_eq (by assumption))
    | ((with_reducible refine lev_fin (post := iM) (A1 := A1) (B1 := B1) (A2 := A2) (B2 := B2) (by assumption) hA hB hA2 hB2 (by assumption) (by assumption) (by assumption) (by assumption) (by assumption) x0 x1 x2 x3 x4 ?_); with_reducible first
      | exact core_far (by assumption) (by assumption) (by assumption)
      | exact core_a (by assumption) | exact core_b (by assumption)
      | exact core_run (by assumption) (by assumption) (by assumption) ((if_pos (by assumption)).symm.trans (outer_turn (by assumption) (by assumption) (by assumption) (by assumption)))
      | exact core_run (by assumption) (by assumption) (by assumption) (outer_end (by assumption))
      | fail)
    | fail

end Mine
namespace Mine
def alphN : List Nat := [119808, 119860, 119912, 120016, 120172, 120224, 120276, 120328, 120380, 120432]
/-- the code of the letter l in its form f: small, capital, or of one of the ten alphabets -/
def codeN (l f : Nat) : Nat := match f with | 0 => 97 + l | 1 => 65 + l | k + 2 => alphN.getD k 0 + l
def allLF (p : Nat → Nat → Bool) : Bool := (List.range 26).all fun l => (List.range 12).all fun f => p l f
theorem allLF_at {p : Nat → Nat → Bool} (h : allLF p = true) {l f : Nat} (hl : l < 26) (hf : f < 12) : p l f = true := by
  have h1 := List.all_eq_true.mp h l (List.mem_range.mpr hl)
  exact List.all_eq_true.mp h1 f (List.mem_range.mpr hf)
theorem code_keep : allLF (fun l f => keepB (codeN l f)) = true := by kernel_rfl
def incrB : List (Int × Str) → Bool
  | [] => true
  | [_] => true
  | a :: b :: r => decide (a.1 < b.1) && incrB (b :: r)
theorem incrB_lt : ∀ {l : List (Int × Str)} {a : Int × Str}, incrB (a :: l) = true → ∀ x ∈ l, a.1 < x.1
  | [], a, _, x, h => nomatch h
  | b :: r, a, h, x, hx => by
    rw [incrB, Bool.and_eq_true, decide_eq_true_eq] at h
    rcases List.mem_cons.mp hx with rfl | hx
    · exact h.1
    · exact Int.lt_trans h.1 (incrB_lt h.2 x hx)
theorem lookK_of : ∀ {l : List (Int × Str)} {k : Int} {v : Str}, incrB l = true → (k, v) ∈ l → lookK k l = some v
  | (j, u) :: r, k, v, h, hm => by
    rw [lookK]
    rcases List.mem_cons.mp hm with e | hm
    · cases e; rw [if_pos rfl]
    · have h1 := incrB_lt h _ hm
      rw [if_neg (by have : j < k := h1; omega)]
      refine lookK_of ?_ hm
      cases r with
      | nil => rfl
      | cons b r => rw [incrB, Bool.and_eq_true] at h; exact h.2
def subLB : List (Int × Str) → List (Int × Str) → Bool
  | [], _ => true
  | _ :: _, [] => false
  | w :: ws, x :: xs => if w.1 = x.1 then (w.2 == x.2) && subLB ws xs else subLB (w :: ws) xs
theorem subLB_mem : ∀ {l ws : List (Int × Str)}, subLB ws l = true → ∀ w ∈ ws, w ∈ l
  | _, [], _, w, h => nomatch h
  | [], _ :: _, h, _, _ => by cases h
  | x :: xs, w :: ws, h, y, hy => by
    rw [subLB] at h
    split at h
    · rename_i e
      rw [Bool.and_eq_true] at h
      rcases List.mem_cons.mp hy with rfl | hy
      · have : y = x := by obtain ⟨a, b⟩ := y; obtain ⟨c, d⟩ := x; cases e; have := eq_of_beq h.1; cases this; rfl
        rw [this]; exact .head _
      · exact .tail _ (subLB_mem h.2 y hy)
    · exact .tail _ (subLB_mem h y hy)
def wantL : List (Int × Str) := alphN.flatMap fun a => (List.range 26).map fun l => (((a + l : Nat) : Int), (⟨#[97 + l]⟩ : Str))
theorem kvs_incr : incrB kvs = true := by kernel_rfl
theorem kvs_want : subLB wantL kvs = true := by kernel_rfl
theorem kvs_big : (kvs.all fun x => decide (180 < x.1)) = true := by kernel_rfl
theorem lookK_none : ∀ {l : List (Int × Str)} {k : Int}, (l.all fun x => decide (180 < x.1)) = true → k ≤ 180 → lookK k l = none
  | [], _, _, _ => rfl
  | (j, v) :: r, k, h, hk => by
    rw [List.all_cons, Bool.and_eq_true, decide_eq_true_eq] at h
    rw [lookK, if_neg (by have : 180 < j := h.1; omega)]
    exact lookK_none h.2 hk
theorem code_alph {l k : Nat} (hl : l < 26) (hk : k < 10) : b3Of (alphN.getD k 0 + l) = ⟨#[97 + l]⟩ := by
  have hm : (((alphN.getD k 0 + l : Nat) : Int), (⟨#[97 + l]⟩ : Str)) ∈ wantL := by
    unfold wantL
    rw [List.mem_flatMap]
    refine ⟨alphN.getD k 0, ?_, List.mem_map.mpr ⟨l, List.mem_range.mpr hl, rfl⟩⟩
    rw [List.getD_eq_getElem?_getD, List.getElem?_eq_getElem (by exact hk)]
    exact List.getElem_mem _
  unfold b3Of
  rw [lookK_of kvs_incr (subLB_mem kvs_want _ hm)]
theorem code_low : (List.range 26).all (fun l => Txt.lower ⟨#[97 + l]⟩ == ⟨#[97 + l]⟩ && Txt.lower ⟨#[65 + l]⟩ == ⟨#[97 + l]⟩) = true := by kernel_rfl
theorem low_quote : Txt.lower ⟨#[34]⟩ = ⟨#[34]⟩ := by kernel_rfl
theorem code_b3 {l f : Nat} (hl : l < 26) (hf : f < 12) : b3Of (codeN l f) = ⟨#[97 + l]⟩ := by
  have h3 := List.all_eq_true.mp code_low l (List.mem_range.mpr hl)
  rw [Bool.and_eq_true] at h3
  match f, hf with
  | 0, _ => unfold b3Of; rw [lookK_none kvs_big (by show ((97 + l : Nat) : Int) ≤ 180; omega)]; exact eq_of_beq h3.1
  | 1, _ => unfold b3Of; rw [lookK_none kvs_big (by show ((65 + l : Nat) : Int) ≤ 180; omega)]; exact eq_of_beq h3.2
  | k + 2, h => exact code_alph hl (by omega)
theorem b3_quote : b3Of 34 = ⟨#[34]⟩ := by unfold b3Of; rw [lookK_none kvs_big (by decide)]; exact low_quote
theorem shifted_none {lo hi : Nat} : ∀ {l : List (Nat × Nat × Nat)} {c : Nat}, (l.all fun x => decide (x.2.1 < lo) || decide (hi < x.1)) = true → lo ≤ c → c ≤ hi → Unicode.shifted l c = none
  | [], _, _, _, _ => rfl
  | (a, b, t) :: r, c, h, h1, h2 => by
    rw [List.all_cons, Bool.and_eq_true, Bool.or_eq_true, decide_eq_true_eq, decide_eq_true_eq] at h
    rw [Unicode.shifted]
    by_cases q : c < a
    · rw [if_pos q]
    · rw [if_neg q, if_neg (by rcases h.1 with z | z <;> (dsimp only at z; omega))]
      exact shifted_none h.2 h1 h2
theorem one_out : (UnicodeData.oneLower.all fun x => decide (x.2.1 < 119808) || decide (120457 < x.1)) = true := by kernel_rfl
theorem sev_out : (UnicodeData.severalLower.all fun x => decide (x.1 < 119808)) = true := by kernel_rfl
theorem lookup_none : ∀ {l : List (Nat × List Nat)} {c : Nat}, (l.all fun x => decide (x.1 < 119808)) = true → 119808 ≤ c → l.lookup c = none
  | [], _, _, _ => rfl
  | (a, b) :: r, c, h, h1 => by
    rw [List.all_cons, Bool.and_eq_true, decide_eq_true_eq] at h
    have hne : (c == a) = false := by have := h.1; dsimp only at this; simp; omega
    rw [List.lookup_cons, hne]
    exact lookup_none h.2 h1
theorem low_alph {c : Nat} (h1 : 119808 ≤ c) (h2 : c ≤ 120457) : Txt.lower ⟨#[c]⟩ = ⟨#[c]⟩ := by
  have e : Unicode.lowerOf c = [c] := by
    unfold Unicode.lowerOf Unicode.image
    rw [lookup_none sev_out h1, shifted_none one_out h1 h2]
    rfl
  have e2 : Unicode.lowerAt #[c] 0 = [c] := by
    show (if (c == 0x3A3 && Unicode.endsWord #[c] 0) = true then [0x3C2] else Unicode.lowerOf c) = [c]
    rw [if_neg (by have : (c == 0x3A3) = false := by simp; omega
                   rw [this]; simp), e]
  show (⟨(#[(Unicode.lowerAt #[c] 0).toArray] : Array (Array Nat)).flatten⟩ : Str) = ⟨#[c]⟩
  rw [e2]
  simp
theorem formOf_bnd {y : Int} {k : Nat} : 0 ≤ formOf y k ∧ formOf y k < 6 := ⟨Int.fmod_nonneg_of_pos _ (by decide), Int.fmod_lt_of_pos _ (by decide)⟩
theorem cLet_code {l form first : Int} (h0 : 0 ≤ l) (h1 : l < 26) (f0 : 0 ≤ form) (f1 : form < 6) : ∃ f, f < 12 ∧ cLet l form first = codeN l.toNat f := by
  unfold cLet
  by_cases h : form < 2
  · rw [if_pos h]
    have : form = 0 ∨ form = 1 := by omega
    rcases this with rfl | rfl
    · exact ⟨0, by decide, by show _ = 97 + l.toNat; omega⟩
    · exact ⟨1, by decide, by show _ = 65 + l.toNat; omega⟩
  · rw [if_neg h]
    have b0 : 0 ≤ (first + form - 2).fmod 10 := Int.fmod_nonneg_of_pos _ (by decide)
    have b1 : (first + form - 2).fmod 10 < 10 := Int.fmod_lt_of_pos _ (by decide)
    generalize (first + form - 2).fmod 10 = v at *
    obtain ⟨n, rfl⟩ : ∃ n : Nat, v = n := ⟨v.toNat, by omega⟩
    refine ⟨n + 2, by omega, ?_⟩
    have : n = 0 ∨ n = 1 ∨ n = 2 ∨ n = 3 ∨ n = 4 ∨ n = 5 ∨ n = 6 ∨ n = 7 ∨ n = 8 ∨ n = 9 := by omega
    have e : (alph.getD ((n : Int)).toNat 0) = ((alphN.getD n 0 : Nat) : Int) := by rcases this with rfl | rfl | rfl | rfl | rfl | rfl | rfl | rfl | rfl | rfl <;> rfl
    show (alph.getD ((n : Int)).toNat 0 + l).toNat = alphN.getD n 0 + l.toNat
    rw [e]
    omega

theorem codeN_neA : allLF (fun l f => codeN l f != 34) = true := by kernel_rfl
theorem codeN_ne {l f : Nat} (hl : l < 26) (hf : f < 12) : codeN l f ≠ 34 := by
  have h := allLF_at codeN_neA hl hf
  intro e
  rw [e] at h
  exact absurd h (by decide)
theorem codeN_rng : allLF (fun l f => Nat.ble f 1 || (Nat.ble 119808 (codeN l f) && Nat.ble (codeN l f) 120457)) = true := by kernel_rfl
theorem codeN_big {l f : Nat} (hl : l < 26) (hf : f < 12) (g : ¬ f < 2) : 119808 ≤ codeN l f ∧ codeN l f ≤ 120457 := by
  have h := allLF_at codeN_rng hl hf
  rw [Bool.or_eq_true, Bool.and_eq_true] at h
  rcases h with h | h
  · exact absurd (Nat.lt_succ_of_le (Nat.le_of_ble_eq_true h)) g
  · exact ⟨Nat.le_of_ble_eq_true h.1, Nat.le_of_ble_eq_true h.2⟩
/-- the small letter that a code is lowered to -/
def lowN (c : Nat) : Nat := if c < 91 then c + 32 else c
theorem codeN_low {l f : Nat} (hl : l < 26) (hf : f < 12) : Txt.lower ⟨#[codeN l f]⟩ = ⟨#[if f < 2 then 97 + l else codeN l f]⟩ := by
  have h3 := List.all_eq_true.mp code_low l (List.mem_range.mpr hl)
  rw [Bool.and_eq_true] at h3
  match f, hf with
  | 0, _ => exact eq_of_beq h3.1
  | 1, _ => exact eq_of_beq h3.2
  | k + 2, h =>
    have g : ¬ k + 2 < 2 := Nat.not_lt.mpr (Nat.le_add_left 2 k)
    rw [if_neg g]
    have b := codeN_big hl h g
    exact low_alph b.1 b.2
/-- which letter and which form a code is of -/
def decN (c : Nat) : Nat × Nat := if Nat.ble c 96 then (c - 65, 1) else if Nat.ble c 122 then (c - 97, 0) else match alphN.findIdx? (fun a => Nat.ble a c && Nat.ble c (a + 25)) with | some k => (c - alphN.getD k 0, k + 2) | none => (0, 0)
theorem decN_all : allLF (fun l f => (decN (codeN l f)).1 == l && (decN (codeN l f)).2 == f) = true := by kernel_rfl
theorem codeN_inj {l f l' f' : Nat} (hl : l < 26) (hf : f < 12) (hl' : l' < 26) (hf' : f' < 12) (h : codeN l f = codeN l' f') : l = l' ∧ f = f' := by
  have a := allLF_at decN_all hl hf
  have b := allLF_at decN_all hl' hf'
  rw [Bool.and_eq_true] at a b
  rw [h] at a
  exact ⟨(eq_of_beq a.1).symm.trans (eq_of_beq b.1), (eq_of_beq a.2).symm.trans (eq_of_beq b.2)⟩
def cst (u v : Nat) : Int := subCost ⟨#[u]⟩ ⟨#[v]⟩
theorem mk1_inj {a b : Nat} : ((⟨#[a]⟩ : Str) == ⟨#[b]⟩) = decide (a = b) := by
  by_cases h : a = b
  · subst h; simp
  · have : (⟨#[a]⟩ : Str) ≠ ⟨#[b]⟩ := fun e => h (by injection e with e; simpa using e)
    rw [decide_eq_false h]
    exact beq_false_of_ne this
theorem cst_same {u : Nat} : cst u u = 0 := by unfold cst subCost; simp
theorem cst_zero {u v : Nat} (h : cst u v = 0) : u = v := by
  unfold cst subCost at h
  rw [mk1_inj] at h
  by_cases q : u = v
  · exact q
  · rw [if_neg (by simpa using q)] at h
    split at h <;> cases h
theorem cst_ltr {l f l' f' : Nat} (hl : l < 26) (hf : f < 12) (hl' : l' < 26) (hf' : f' < 12) : cst (codeN l f) (codeN l' f') = if l = l' then (if f = f' then 0 else if f < 2 ∧ f' < 2 then 1 else 2) else 2 := by
  unfold cst subCost
  rw [mk1_inj, codeN_low hl hf, codeN_low hl' hf', mk1_inj]
  by_cases e : l = l'
  · subst e
    rw [if_pos rfl]
    by_cases q : f = f'
    · subst q; simp
    · have n : codeN l f ≠ codeN l f' := fun h => q (codeN_inj hl hf hl hf' h).2
      rw [if_neg (by simpa using n), if_neg q]
      by_cases g : f < 2
      · by_cases g' : f' < 2
        · simp [g, g']
        · rw [if_pos g, if_neg g', if_neg (by
            have : 97 + l ≠ codeN l f' := fun h => by
              have := (codeN_inj (f := 0) hl (by decide) hl hf' h).2
              omega
            simpa using this), if_neg (fun h => g' h.2)]
      · by_cases g' : f' < 2
        · rw [if_neg g, if_pos g', if_neg (by
            have : codeN l f ≠ 97 + l := fun h => by
              have := (codeN_inj (f' := 0) hl hf hl (by decide) h).2
              omega
            simpa using this), if_neg (fun h => g h.1)]
        · rw [if_neg g, if_neg g', if_neg (by simpa using n), if_neg (fun h => g h.1)]
  · have n : codeN l f ≠ codeN l' f' := fun h => e (codeN_inj hl hf hl' hf' h).1
    rw [if_neg (by simpa using n), if_neg e, if_neg]
    have : (if f < 2 then 97 + l else codeN l f) ≠ (if f' < 2 then 97 + l' else codeN l' f') := by
      split <;> split
      · omega
      · exact fun h => e (codeN_inj (f := 0) hl (by decide) hl' hf' h).1
      · exact fun h => e (codeN_inj (f' := 0) hl hf hl' (by decide) h).1
      · exact n
    simpa using this
theorem cst_ql {l f : Nat} (hl : l < 26) (hf : f < 12) : cst 34 (codeN l f) = 2 := by
  unfold cst subCost
  have n := codeN_ne hl hf
  rw [mk1_inj, low_quote, codeN_low hl hf, mk1_inj, if_neg (by simpa using n.symm), if_neg]
  have : 34 ≠ (if f < 2 then 97 + l else codeN l f) := by
    split
    · omega
    · exact n.symm
  simpa using this
theorem cst_comm {u v : Nat} : cst u v = cst v u := by
  unfold cst subCost
  rw [show ((⟨#[u]⟩ : Str) == ⟨#[v]⟩) = ((⟨#[v]⟩ : Str) == ⟨#[u]⟩) from by rw [mk1_inj, mk1_inj]; simp [eq_comm], show (Txt.lower ⟨#[u]⟩ == Txt.lower ⟨#[v]⟩) = (Txt.lower ⟨#[v]⟩ == Txt.lower ⟨#[u]⟩) from by
    by_cases h : Txt.lower ⟨#[u]⟩ = Txt.lower ⟨#[v]⟩
    · rw [h]
    · rw [beq_false_of_ne h, beq_false_of_ne (Ne.symm h)]]
theorem cst_lq {l f : Nat} (hl : l < 26) (hf : f < 12) : cst (codeN l f) 34 = 2 := by rw [cst_comm]; exact cst_ql hl hf
theorem price_ltr {l f f' : Nat} (hl : l < 26) (hf : f < 12) (hf' : f' < 12) : priceOf (codeN l f) (codeN l f') = cst (codeN l f) (codeN l f') := by
  rw [cst_ltr hl hf hl hf', if_pos rfl]
  unfold priceOf
  rw [mk1_inj]
  by_cases q : f = f'
  · subst q; simp
  · have n : codeN l f ≠ codeN l f' := fun h => q (codeN_inj hl hf hl hf' h).2
    rw [if_neg (by simpa using n), if_neg q]
    have B : ∀ {f : Nat}, f < 12 → ¬ f < 2 → 128 ≤ codeN l f := fun hf g => Nat.le_trans (by decide) (codeN_big hl hf g).1
    by_cases g : f < 2
    · by_cases g' : f' < 2
      · have : (f = 0 ∧ f' = 1) ∨ (f = 1 ∧ f' = 0) := by omega
        rcases this with ⟨rfl, rfl⟩ | ⟨rfl, rfl⟩
        · rw [if_pos (by show (((97 + l : Nat) : Int) < 128 ∧ ((65 + l : Nat) : Int) < 128 ∧ _); refine ⟨by omega, by omega, ?_⟩; split <;> (simp only [codeN] at *; omega))]; simp
        · rw [if_pos (by show (((65 + l : Nat) : Int) < 128 ∧ ((97 + l : Nat) : Int) < 128 ∧ _); refine ⟨by omega, by omega, ?_⟩; split <;> (simp only [codeN] at *; omega))]; simp
      · have := B hf' g'
        rw [if_neg (by omega), if_neg (fun h => g' h.2)]
    · have := B hf g
      rw [if_neg (by omega), if_neg (fun h => g h.1)]
theorem price_q : priceOf 34 34 = cst 34 34 := by rw [cst_same]; unfold priceOf; simp

end Mine
namespace Mine
def dbl (p : Nat) (a b c : Str) : List Str := match p with | 0 => [⟨#[34, 34]⟩, a, b, c] | 1 => [a, ⟨#[34, 34]⟩, b, c] | 2 => [a, b, ⟨#[34, 34]⟩, c] | _ => [a, b, c, ⟨#[34, 34]⟩]
def Jn (p : Int) (a b c : Str) : Str := Txt.join (Str.ofString "") (insQ p.toNat a b c)
def Wr (p : Int) (a b c : Str) : Str := Txt.join (Str.ofString "") (dbl p.toNat a b c)
def toldF (l0 l1 l2 p f y : Int) : Str := Jn p (sgn l0 l1 l2 y f 0) (sgn l0 l1 l2 y f 1) (sgn l0 l1 l2 y f 2)
def insN (p : Nat) (a b c : Nat) : List Nat := match p with | 0 => [34, a, b, c] | 1 => [a, 34, b, c] | 2 => [a, b, 34, c] | _ => [a, b, c, 34]
def dblN (p : Nat) (a b c : Nat) : List Nat := match p with | 0 => [34, 34, a, b, c] | 1 => [a, 34, 34, b, c] | 2 => [a, b, 34, 34, c] | _ => [a, b, c, 34, 34]
theorem Jn_eq {p : Int} {a b c : Nat} : Jn p ⟨#[a]⟩ ⟨#[b]⟩ ⟨#[c]⟩ = ⟨⟨insN p.toNat a b c⟩⟩ := by
  unfold Jn
  rcases p.toNat with _ | _ | _ | _ <;> rfl
theorem Wr_eq {p : Int} {a b c : Nat} : Wr p ⟨#[a]⟩ ⟨#[b]⟩ ⟨#[c]⟩ = ⟨⟨dblN p.toNat a b c⟩⟩ := by
  unfold Wr
  rcases p.toNat with _ | _ | _ | _ <;> rfl
theorem sgn_code {l0 l1 l2 y first : Int} {k : Nat} (hl : 0 ≤ l0 ∧ l0 < 26 ∧ 0 ≤ l1 ∧ l1 < 26 ∧ 0 ≤ l2 ∧ l2 < 26) : ∃ f, f < 12 ∧ sgn l0 l1 l2 y first k = ⟨#[codeN ([l0, l1, l2].getD k 0).toNat f]⟩ := by
  have b := l3_bnd hl k
  have g := formOf_bnd (y := y) (k := k)
  obtain ⟨f, hf, e⟩ := cLet_code (first := first) b.1 (by omega) g.1 g.2
  exact ⟨f, hf, by unfold sgn; rw [e]⟩
theorem l3_nat {l0 l1 l2 : Int} (hl : 0 ≤ l0 ∧ l0 < 26 ∧ 0 ≤ l1 ∧ l1 < 26 ∧ 0 ≤ l2 ∧ l2 < 26) (k : Nat) : ([l0, l1, l2].getD k 0).toNat < 26 := by have := l3_bnd hl k; omega
theorem sgn_noq {l0 l1 l2 y f : Int} {k : Nat} (hl : 0 ≤ l0 ∧ l0 < 26 ∧ 0 ≤ l1 ∧ l1 < 26 ∧ 0 ≤ l2 ∧ l2 < 26) : (sgn l0 l1 l2 y f k == Str.ofString "\"") = false := by
  obtain ⟨g, hg, e⟩ := sgn_code (y := y) (first := f) (k := k) hl
  rw [e, quote_eq, mk1_inj]
  exact decide_eq_false (codeN_ne (l3_nat hl k) hg)
/-- one of the spellings of the word -/
def Sp (p l0 l1 l2 : Int) (x : Str) : Prop := ∃ f0 f1 f2, f0 < 12 ∧ f1 < 12 ∧ f2 < 12 ∧ x = ⟨⟨insN p.toNat (codeN l0.toNat f0) (codeN l1.toNat f1) (codeN l2.toNat f2)⟩⟩
theorem told_sp {p l0 l1 l2 f y : Int} (hl : 0 ≤ l0 ∧ l0 < 26 ∧ 0 ≤ l1 ∧ l1 < 26 ∧ 0 ≤ l2 ∧ l2 < 26) : Sp p l0 l1 l2 (toldF l0 l1 l2 p f y) := by
  obtain ⟨f0, h0, e0⟩ := sgn_code (y := y) (first := f) (k := 0) hl
  obtain ⟨f1, h1, e1⟩ := sgn_code (y := y) (first := f) (k := 1) hl
  obtain ⟨f2, h2, e2⟩ := sgn_code (y := y) (first := f) (k := 2) hl
  refine ⟨f0, f1, f2, h0, h1, h2, ?_⟩
  unfold toldF
  rw [e0, e1, e2, Jn_eq]
  rfl
theorem word_eq {p l0 l1 l2 : Int} (hl : 0 ≤ l0 ∧ l0 < 26 ∧ 0 ≤ l1 ∧ l1 < 26 ∧ 0 ≤ l2 ∧ l2 < 26) : toldF l0 l1 l2 p 0 0 = ⟨⟨insN p.toNat (97 + l0.toNat) (97 + l1.toNat) (97 + l2.toNat)⟩⟩ := by
  have h : ∀ k, k < 3 → sgn l0 l1 l2 0 0 k = ⟨#[97 + ([l0, l1, l2].getD k 0).toNat]⟩ := by
    intro k hk
    have b := l3_bnd hl k
    unfold sgn cLet formOf
    have : ((0 : Int).fdiv (6 ^ k)).fmod 6 = 0 := by simp
    rw [this, if_pos (by decide), show (97 - 32 * 0 + [l0, l1, l2].getD k 0 : Int).toNat = 97 + ([l0, l1, l2].getD k 0).toNat by omega]
  unfold toldF
  rw [h 0 (by decide), h 1 (by decide), h 2 (by decide), Jn_eq]
  rfl
theorem prep_ins {p : Nat} {a b c : Nat} {x y z : Nat} (ha : keepB a = true) (hb : keepB b = true) (hc : keepB c = true) (ea : b3Of a = ⟨#[x]⟩) (eb : b3Of b = ⟨#[y]⟩) (ec : b3Of c = ⟨#[z]⟩) : prepT ⟨⟨insN p a b c⟩⟩ = ⟨⟨insN p x y z⟩⟩ := by
  have hq : keepB 34 = true := by decide +kernel
  unfold prepT prepL
  rcases p with _ | _ | _ | p <;> (simp only [insN, List.filter_cons, List.filter_nil, ha, hb, hc, hq, if_true, List.map_cons, List.map_nil, ea, eb, ec, b3_quote]; rfl)
theorem told_prep {p l0 l1 l2 f y : Int} (hl : 0 ≤ l0 ∧ l0 < 26 ∧ 0 ≤ l1 ∧ l1 < 26 ∧ 0 ≤ l2 ∧ l2 < 26) : prepT (toldF l0 l1 l2 p f y) = toldF l0 l1 l2 p 0 0 := by
  obtain ⟨f0, f1, f2, h0, h1, h2, e⟩ := told_sp (p := p) (f := f) (y := y) hl
  rw [e, word_eq hl]
  exact prep_ins (allLF_at code_keep (by omega) h0) (allLF_at code_keep (by omega) h1) (allLF_at code_keep (by omega) h2) (code_b3 (by omega) h0) (code_b3 (by omega) h1) (code_b3 (by omega) h2)
theorem scan_dbl {p : Nat} {a b c : Nat} {e : List Nat} (ha : a ≠ 34) (hb : b ≠ 34) (hc : c ≠ 34) (he : e = [34] ∨ e = [34, 32, 111, 107] ∨ e = [34, 173, 34]) : scanL (dblN p a b c ++ e) = insN p a b c := by
  have E : scanL e = [] := by rcases he with rfl | rfl | rfl <;> rfl
  rcases p with _ | _ | _ | p
  · show scanL (34 :: 34 :: a :: b :: c :: e) = _
    rw [scanL_two, scanL_other ha, scanL_other hb, scanL_other hc, E]; rfl
  · show scanL (a :: 34 :: 34 :: b :: c :: e) = _
    rw [scanL_other ha, scanL_two, scanL_other hb, scanL_other hc, E]; rfl
  · show scanL (a :: b :: 34 :: 34 :: c :: e) = _
    rw [scanL_other ha, scanL_other hb, scanL_two, scanL_other hc, E]; rfl
  · show scanL (a :: b :: c :: 34 :: 34 :: e) = _
    rw [scanL_other ha, scanL_other hb, scanL_other hc, scanL_two, E]; rfl
theorem app_list {x y : Str} : (x ++ y).cps.toList = x.cps.toList ++ y.cps.toList := by
  show (x.cps ++ y.cps).toList = _
  simp
theorem told_list {p l0 l1 l2 f y : Int} {e : Str} : ((Str.ofString "257 \"" ++ Wr p (sgn l0 l1 l2 y f 0) (sgn l0 l1 l2 y f 1) (sgn l0 l1 l2 y f 2)) ++ e).cps.toList = [50, 53, 55, 32, 34] ++ (dblN p.toNat (cLet ([l0, l1, l2].getD 0 0) (formOf y 0) f) (cLet ([l0, l1, l2].getD 1 0) (formOf y 1) f) (cLet ([l0, l1, l2].getD 2 0) (formOf y 2) f) ++ e.cps.toList) := by
  rw [app_list, app_list]
  unfold sgn
  rw [Wr_eq, show (Str.ofString "257 \"").cps.toList = [50, 53, 55, 32, 34] by decide +kernel, List.append_assoc]
theorem dblN_len {p a b c : Nat} : (dblN p a b c).length = 5 := by rcases p with _ | _ | _ | p <;> rfl
theorem drop_five {Z : List Nat} : List.drop 5 ([50, 53, 55, 32, 34] ++ Z) = Z := rfl
theorem ne_false_of {x y : Str} (h : x = y) : (x != y) = false := by subst h; simp
/-- the reply is read -/
theorem c_told (w : World) (l0 l1 l2 p f y : Int) (e : Str) (tx : Tok) (he : e.cps.toList = [34] ∨ e.cps.toList = [34, 32, 111, 107] ∨ e.cps.toList = [34, 173, 34]) (hl : 0 ≤ l0 ∧ l0 < 26 ∧ 0 ≤ l1 ∧ l1 < 26 ∧ 0 ≤ l2 ∧ l2 < 26) :
    SC 8 w 60 [.str ((Str.ofString "257 \"" ++ Wr p (sgn l0 l1 l2 y f 0) (sgn l0 l1 l2 y f 1) (sgn l0 l1 l2 y f 2)) ++ e) tx] noPre (RS (toldF l0 l1 l2 p f y)) := by
  have L := told_list (p := p) (l0 := l0) (l1 := l1) (l2 := l2) (f := f) (y := y) (e := e)
  generalize hx : ((Str.ofString "257 \"" ++ Wr p (sgn l0 l1 l2 y f 0) (sgn l0 l1 l2 y f 1) (sgn l0 l1 l2 y f 2)) ++ e) = x at *
  have len : x.length = x.cps.toList.length := by simp [Str.length]
  have hlen : e.cps.toList.length ≤ 4 := by rcases he with h | h | h <;> rw [h] <;> decide
  have h1 : x.length < 1000 := by rw [len, L]; simp only [List.length_append, dblN_len, List.length_cons, List.length_nil]; omega
  have h2 : 10 ≤ x.length := by rw [len, L]; simp only [List.length_append, dblN_len, List.length_cons, List.length_nil]; omega
  have key := c_parse w x tx h1 (by omega)
    (ne_false_of (str_ext (by
      have s := slice_nu (x := x) (j := 3)
      rw [show ((3 : Nat) : Int) = 3 from rfl] at s
      rw [s, Nat.min_eq_left (by omega), L]; rfl)))
    (ne_false_of (str_ext (by
      have s := slice_su (x := x) (i := 3) (j := 5)
      rw [show ((3 : Nat) : Int) = 3 from rfl, show ((5 : Nat) : Int) = 5 from rfl] at s
      rw [s, Nat.min_eq_left (by omega), Nat.min_eq_left (by omega), L]; rfl)))
  have e2 : (⟨⟨scanL (x.cps.toList.drop 5)⟩⟩ : Str) = toldF l0 l1 l2 p f y := by
    have q : ∀ k, cLet ([l0, l1, l2].getD k 0) (formOf y k) f ≠ 34 := fun k => by
      have b := l3_bnd hl k
      have g := formOf_bnd (y := y) (k := k)
      obtain ⟨j, hj, ej⟩ := cLet_code (first := f) b.1 (by omega) g.1 g.2
      rw [ej]
      exact codeN_ne (by omega) hj
    rw [L, drop_five,
      scan_dbl (q 0) (q 1) (q 2) he]
    unfold toldF sgn
    rw [Jn_eq]
  rw [e2] at key
  exact key
theorem c_prepT (w : World) (l0 l1 l2 p f y : Int) (tx : Tok) (hl : 0 ≤ l0 ∧ l0 < 26 ∧ 0 ≤ l1 ∧ l1 < 26 ∧ 0 ≤ l2 ∧ l2 < 26) : SC 16 w 143 [.str (toldF l0 l1 l2 p f y) tx] noPre (RS (toldF l0 l1 l2 p 0 0)) := by
  have h := c_prep w (toldF l0 l1 l2 p f y) tx (by
    obtain ⟨f0, f1, f2, _, _, _, e⟩ := told_sp (p := p) (f := f) (y := y) hl
    rw [e]
    rcases p.toNat with _ | _ | _ | _ <;> (show 4 < 1000; decide))
  rw [told_prep hl] at h
  exact h

end Mine
namespace Mine
theorem Sp.len {p l0 l1 l2 : Int} {x : Str} (h : Sp p l0 l1 l2 x) : x.length = 4 := by
  obtain ⟨f0, f1, f2, _, _, _, rfl⟩ := h
  rcases p.toNat with _ | _ | _ | _ <;> rfl
def sc (x y : Str) (i : Int) : Int := subCost (Txt.item x i) (Txt.item y i)
theorem item_mk {l : List Nat} {i : Nat} (h : i < l.length) : Txt.item ⟨⟨l⟩⟩ (i : Int) = ⟨#[l.getD i 0]⟩ := by
  rw [item_of (by omega) (by show (i : Int) < (l.length : Int); omega)]
  rfl
theorem insN_len {p a b c : Nat} : (insN p a b c).length = 4 := by rcases p with _ | _ | _ | p <;> rfl
/-- the place of the letter behind a place of the text: none for the quote -/
theorem sp_sign {p l0 l1 l2 : Int} {x y : Str} (hl : 0 ≤ l0 ∧ l0 < 26 ∧ 0 ≤ l1 ∧ l1 < 26 ∧ 0 ≤ l2 ∧ l2 < 26) (hx : Sp p l0 l1 l2 x) (hy : Sp p l0 l1 l2 y) {i : Nat} (hi : i < 4) :
    ∃ u v, Txt.item x i = ⟨#[u]⟩ ∧ Txt.item y i = ⟨#[v]⟩ ∧ priceOf u v = cst u v := by
  obtain ⟨f0, f1, f2, h0, h1, h2, rfl⟩ := hx
  obtain ⟨g0, g1, g2, k0, k1, k2, rfl⟩ := hy
  refine ⟨_, _, item_mk (by rw [insN_len]; exact hi), item_mk (by rw [insN_len]; exact hi), ?_⟩
  have : i = 0 ∨ i = 1 ∨ i = 2 ∨ i = 3 := by omega
  rcases p.toNat with _ | _ | _ | q <;> rcases this with rfl | rfl | rfl | rfl <;>
    first | exact price_q | exact price_ltr (by omega) h0 k0 | exact price_ltr (by omega) h1 k1 | exact price_ltr (by omega) h2 k2
theorem c_priceS (w : World) {p l0 l1 l2 : Int} (one other : Str) (i : Int) (tx ty : Tok) (hl : 0 ≤ l0 ∧ l0 < 26 ∧ 0 ≤ l1 ∧ l1 < 26 ∧ 0 ≤ l2 ∧ l2 < 26) (hx : Sp p l0 l1 l2 one) (hy : Sp p l0 l1 l2 other) (i0 : 0 ≤ i) (i1 : i < 4) :
    SC 8 w 138 [.str (Txt.item one i) tx, .str (Txt.item other i) ty] noPre (RI (subCost (Txt.item one i) (Txt.item other i))) := by
  obtain ⟨n, rfl⟩ : ∃ n : Nat, i = n := ⟨i.toNat, by omega⟩
  obtain ⟨u, v, e1, e2, e3⟩ := sp_sign hl hx hy (i := n) (by omega)
  have h := c_price w u v tx ty
  rw [e1, e2]
  rw [e3] at h
  exact h
theorem c_subS (w : World) {p l0 l1 l2 : Int} (one other : Str) (i : Int) (tx ty : Tok) (hx : Sp p l0 l1 l2 one) (hy : Sp p l0 l1 l2 other) (i0 : 0 ≤ i) (i1 : i < 4) :
    SC 8 w 21 [.str (Txt.item one i) tx, .str (Txt.item other i) ty] noPre (RI (subCost (Txt.item one i) (Txt.item other i))) :=
  c_sub w _ _ tx ty (by rw [item_of i0 (by have := hx.len; omega)]; rfl) (by rw [item_of i0 (by have := hy.len; omega)]; rfl)
def Dist3 (a b c : Int) : Prop := a ≠ b ∧ b ≠ c ∧ a ≠ c
/-- the costs of two texts, row by row (the other text's signs down, the one's across) -/
def matOf (la lb : List Nat) : List (List Int) := lb.map fun v => la.map fun u => cst v u
def at2 (M : List (List Int)) (j i : Nat) : Int := (M.getD j []).getD i 9
def win (M : List (List Int)) (pre r c : Nat) : List (List Int) := (List.range r).map fun j => (List.range c).map fun i => at2 M (pre + j) (pre + i)
def coreM (M : List (List Int)) (pre c r : Nat) (mx : Int) : Int :=
  if c = 0 ∨ r = 0 then 2 * ((c : Int) + r) else if mx < ((r : Int) - c) * 2 then mx + 1 else run (win M pre r c) 0 mx (stepKs 2 2 c) 0
def LevM (M : List (List Int)) (p q : Nat) (mx n : Int) : Prop :=
  ∃ pre k : Nat, pre ≤ p ∧ pre ≤ q ∧ (pre < p → pre < q → at2 M pre pre ≠ 0) ∧ (∀ j, j < pre → at2 M j j = 0) ∧ k ≤ p - pre ∧ k ≤ q - pre ∧
    (k < p - pre → k < q - pre → at2 M (q - 1 - k) (p - 1 - k) ≠ 0) ∧ (∀ j, j < k → at2 M (q - 1 - j) (p - 1 - j) = 0) ∧ n = coreM M pre (p - pre - k) (q - pre - k) mx
theorem at2_mat {la lb : List Nat} {i j : Nat} (hj : j < lb.length) (hi : i < la.length) : at2 (matOf la lb) j i = cst (lb.getD j 0) (la.getD i 0) := by
  unfold at2 matOf
  simp [List.getD, List.getElem?_map, List.getElem?_eq_getElem hj, List.getElem?_eq_getElem hi]
theorem item_nat {x : Str} {i : Nat} (h : i < x.length) : Txt.item x (i : Int) = ⟨#[x.cps.toList.getD i 0]⟩ := by
  rw [item_of (by omega) (by omega)]; simp
theorem item_neg' {x : Str} {k : Nat} (h0 : 0 < k) (h1 : k ≤ x.length) : Txt.item x (-(k : Int)) = ⟨#[x.cps.toList.getD (x.length - k) 0]⟩ := by
  rw [item_neg (by omega) (by omega), show (-(k : Int) + x.length).toNat = x.length - k by omega]
theorem beq_item {a b : Nat} : ((⟨#[a]⟩ : Str) == ⟨#[b]⟩) = false ↔ cst b a ≠ 0 := by
  rw [mk1_inj, decide_eq_false_iff_not]
  constructor
  · intro h e; exact h (cst_zero e).symm
  · intro h e; subst e; exact h cst_same
theorem slice_all {x : Str} {i : Nat} : (Txt.slice x (some (i : Int)) none).cps.toList = x.cps.toList.drop i := slice_sn
theorem cut_list {x : Str} {k : Nat} (h : k ≤ x.length) : (cutTo x (-(k : Int))).cps.toList = x.cps.toList.take (x.length - k) := by
  unfold cutTo
  by_cases q : k = 0
  · subst q
    rw [if_pos (by simp), Nat.sub_zero, List.take_of_length_le]
    simp [Str.length]
  · rw [if_neg (by omega)]
    exact slice_nneg (by omega)
theorem str_len {x : Str} : x.length = x.cps.toList.length := by simp [Str.length]
theorem costM_win {la lb : List Nat} {A B : Str} {pre r c : Nat} (hA : A.cps.toList = (la.drop pre).take c) (hB : B.cps.toList = (lb.drop pre).take r) (hc : pre + c ≤ la.length) (hr : pre + r ≤ lb.length) : costM A B = win (matOf la lb) pre r c := by
  have lA : A.length = c := by rw [str_len, hA, List.length_take, List.length_drop]; omega
  have lB : B.length = r := by rw [str_len, hB, List.length_take, List.length_drop]; omega
  unfold costM win costRow
  rw [lA, lB]
  refine List.map_congr_left fun j hj => List.map_congr_left fun i hi => ?_
  rw [List.mem_range] at hi hj
  rw [item_nat (by omega), item_nat (by omega), hA, hB, at2_mat (by omega) (by omega)]
  show cst _ _ = _
  congr 1
  · simp [List.getD, List.getElem?_take, hj, List.getElem?_drop]
  · simp [List.getD, List.getElem?_take, hi, List.getElem?_drop]
theorem lev_M {a b : Str} {la lb : List Nat} {mx n : Int} (h : LevRel a b mx n) (ha : a.cps.toList = la) (hb : b.cps.toList = lb) : (a = b ∧ n = 0) ∨ LevM (matOf la lb) la.length lb.length mx n := by
  rcases h with h | ⟨_, pre, post, x0, x1, x2, x3, x4, A1, B1, hA, hB, y0, y1, y2, y3, y4, e⟩
  · exact .inl h
  refine .inr ?_
  obtain ⟨pr, rfl⟩ : ∃ m : Nat, pre = m := ⟨pre.toNat, by omega⟩
  obtain ⟨k, rfl⟩ : ∃ m : Nat, post = -(m : Int) := ⟨(-post).toNat, by omega⟩
  have la' : a.length = la.length := by rw [str_len, ha]
  have lb' : b.length = lb.length := by rw [str_len, hb]
  have cA : A1.cps.toList = la.drop pr := by rw [← hA, slice_all, ha]
  have cB : B1.cps.toList = lb.drop pr := by rw [← hB, slice_all, hb]
  have lA : A1.length = la.length - pr := by rw [str_len, cA, List.length_drop]
  have lB : B1.length = lb.length - pr := by rw [str_len, cB, List.length_drop]
  refine ⟨pr, k, by omega, by omega, ?_, ?_, by omega, by omega, ?_, ?_, ?_⟩
  · intro h1 h2
    have z := x3 (by omega) (by omega)
    rw [item_nat (by omega), item_nat (by omega), ha, hb, beq_item] at z
    rw [at2_mat h2 h1]; exact z
  · intro j hj
    have z := x4 j (by omega) (by omega)
    rw [item_nat (by omega), item_nat (by omega), ha, hb] at z
    rw [at2_mat (by omega) (by omega)]
    have z' : la.getD j 0 = lb.getD j 0 := by injection z with z; simpa using z
    rw [z']; exact cst_same
  · intro h1 h2
    have z := y3 (by omega) (by omega)
    rw [show (-(k : Int) - 1) = -((k + 1 : Nat) : Int) by omega, item_neg' (by omega) (by omega), item_neg' (by omega) (by omega), cA, cB, beq_item] at z
    rw [at2_mat (by omega) (by omega)]
    simp only [List.getD, List.getElem?_drop] at z ⊢
    rw [lA, lB] at z
    rw [show pr + (lb.length - pr - (k + 1)) = lb.length - 1 - k by omega, show pr + (la.length - pr - (k + 1)) = la.length - 1 - k by omega] at z
    exact z
  · intro j hj
    have z := y4 (-((j + 1 : Nat) : Int)) (by omega) (by omega)
    rw [item_neg' (by omega) (by omega), item_neg' (by omega) (by omega), cA, cB] at z
    rw [at2_mat (by omega) (by omega)]
    have z' : (la.drop pr).getD (A1.length - (j + 1)) 0 = (lb.drop pr).getD (B1.length - (j + 1)) 0 := by injection z with z; simpa using z
    simp only [List.getD, List.getElem?_drop] at z' ⊢
    rw [lA, lB, show pr + (lb.length - pr - (j + 1)) = lb.length - 1 - j by omega, show pr + (la.length - pr - (j + 1)) = la.length - 1 - j by omega] at z'
    rw [z']; exact cst_same
  · rw [e]
    have dA : (cutTo A1 (-(k : Int))).cps.toList = (la.drop pr).take (la.length - pr - k) := by rw [cut_list (by omega), cA, lA]
    have dB : (cutTo B1 (-(k : Int))).cps.toList = (lb.drop pr).take (lb.length - pr - k) := by rw [cut_list (by omega), cB, lB]
    have zA : (cutTo A1 (-(k : Int))).length = la.length - pr - k := by rw [str_len, dA, List.length_take, List.length_drop]; omega
    have zB : (cutTo B1 (-(k : Int))).length = lb.length - pr - k := by rw [str_len, dB, List.length_take, List.length_drop]; omega
    unfold core coreM
    rw [zA, zB, costM_win dA dB (by omega) (by omega)]
    by_cases q : la.length - pr - k = 0 ∨ lb.length - pr - k = 0
    · rw [if_pos q, if_pos (by omega)]
    · rw [if_neg q, if_neg (by omega)]
/-- whether every trimming that fits gives what f says -/
def okM (M : List (List Int)) (p q : Nat) (mx : Int) (good : Int → Bool) : Bool :=
  (List.range (p + 1)).all fun pre => (List.range (p + 1)).all fun k =>
    !(decide (pre ≤ p) && decide (pre ≤ q) && (!decide (pre < p) || !decide (pre < q) || at2 M pre pre != 0) && (List.range pre).all (fun j => at2 M j j == 0) && decide (k ≤ p - pre) && decide (k ≤ q - pre) &&
      (!decide (k < p - pre) || !decide (k < q - pre) || at2 M (q - 1 - k) (p - 1 - k) != 0) && (List.range k).all (fun j => at2 M (q - 1 - j) (p - 1 - j) == 0)) || good (coreM M pre (p - pre - k) (q - pre - k) mx)
theorem okM_use {M : List (List Int)} {p q : Nat} {mx n : Int} {good : Int → Bool} (h : okM M p q mx good = true) (l : LevM M p q mx n) : good n = true := by
  obtain ⟨pre, k, a1, a2, a3, a4, a5, a6, a7, a8, rfl⟩ := l
  have h1 := List.all_eq_true.mp h pre (List.mem_range.mpr (by omega))
  have h2 := List.all_eq_true.mp h1 k (List.mem_range.mpr (by omega))
  rw [Bool.or_eq_true] at h2
  rcases h2 with h2 | h2
  · exfalso
    rw [Bool.not_eq_true', ← Bool.not_eq_true] at h2
    apply h2
    simp only [Bool.and_eq_true, Bool.or_eq_true, decide_eq_true_eq, Bool.not_eq_true', decide_eq_false_iff_not, bne_iff_ne, List.all_eq_true, beq_iff_eq, List.mem_range]
    refine ⟨⟨⟨⟨⟨⟨⟨a1, a2⟩, ?_⟩, a4⟩, a5⟩, a6⟩, ?_⟩, a8⟩
    · by_cases x : pre < p
      · by_cases y : pre < q
        · exact .inr (a3 x y)
        · exact .inl (.inr y)
      · exact .inl (.inl x)
    · by_cases x : k < p - pre
      · by_cases y : k < q - pre
        · exact .inr (a7 x y)
        · exact .inl (.inr y)
      · exact .inl (.inl x)
  · exact h2

/-- the four texts of costs on the one line, two off it -/
def M4 (a b c d : Int) : List (List Int) := [[a, 2, 2, 2], [2, b, 2, 2], [2, 2, c, 2], [2, 2, 2, d]]
def M3 (i : Nat) (a b c : Int) : List (List Int) := match i with
  | 0 => [[2, 2, 2], [a, 2, 2], [2, b, 2], [2, 2, c]]
  | 1 => [[a, 2, 2], [2, 2, 2], [2, b, 2], [2, 2, c]]
  | 2 => [[a, 2, 2], [2, b, 2], [2, 2, 2], [2, 2, c]]
  | _ => [[a, 2, 2], [2, b, 2], [2, 2, c], [2, 2, 2]]
def all3 (f : Int → Bool) : Bool := f 0 && f 1 && f 2
theorem all3_at {f : Int → Bool} (h : all3 f = true) {x : Int} (h0 : 0 ≤ x) (h1 : x ≤ 2) : f x = true := by
  unfold all3 at h
  rw [Bool.and_eq_true, Bool.and_eq_true] at h
  have : x = 0 ∨ x = 1 ∨ x = 2 := by omega
  rcases this with rfl | rfl | rfl
  · exact h.1.1
  · exact h.1.2
  · exact h.2
theorem chk1 : (all3 fun a => all3 fun b => all3 fun c => all3 fun d => okM (M4 a b c d) 4 4 (a + b + c + d) fun n => n == a + b + c + d) = true := by kernel_rfl
theorem chk2 : (all3 fun a => all3 fun b => all3 fun c => all3 fun d => okM (M4 a b c d) 4 4 (a + b + c + d - 1) fun n => decide (a + b + c + d ≤ n)) = true := by kernel_rfl
theorem chk3 : ((List.range 4).all fun i => all3 fun a => all3 fun b => all3 fun c => okM (M3 i a b c) 3 4 (2 + (a + b + c)) fun n => n == 2 + (a + b + c)) = true := by kernel_rfl
theorem SC.mono {k : Nat} {w : World} {f : Addr} {vs : List Value} {pre : Heap → Prop} {R R' : Heap → Value → Heap → Prop} (c : SC k w f vs pre R) (h : ∀ a v b, R a v b → R' a v b) : SC k w f vs pre R' :=
  fun mean mg mb A s Q E W hp hh hd hu hret => c mean mg mb A s Q E W hp hh hd hu fun v h' tk' r kp => hret v h' tk' (h _ _ _ r) kp
theorem sc_mk {la lb : List Nat} {i : Nat} (ha : i < la.length) (hb : i < lb.length) : sc ⟨⟨la⟩⟩ ⟨⟨lb⟩⟩ (i : Int) = cst (la.getD i 0) (lb.getD i 0) := by
  unfold sc
  rw [item_mk ha, item_mk hb]
  rfl
theorem cst_bnd {u v : Nat} : 0 ≤ cst u v ∧ cst u v ≤ 2 := by
  unfold cst subCost
  split
  · decide
  · split <;> decide
structure Pair (x y : Str) where
  la : List Nat
  lb : List Nat
  ex : x.cps.toList = la
  ey : y.cps.toList = lb
theorem sp_mat {p l0 l1 l2 : Int} {x y : Str} (hl : 0 ≤ l0 ∧ l0 < 26 ∧ 0 ≤ l1 ∧ l1 < 26 ∧ 0 ≤ l2 ∧ l2 < 26) (hd : Dist3 l0 l1 l2) (hx : Sp p l0 l1 l2 x) (hy : Sp p l0 l1 l2 y) :
    ∃ a0 a1 a2 a3 b0 b1 b2 b3 : Nat, x = ⟨#[a0, a1, a2, a3]⟩ ∧ y = ⟨#[b0, b1, b2, b3]⟩ ∧
      (cst a0 b0 = sc x y 0 ∧ cst a1 b1 = sc x y 1 ∧ cst a2 b2 = sc x y 2 ∧ cst a3 b3 = sc x y 3) ∧
      (cst b0 a1 = 2 ∧ cst b0 a2 = 2 ∧ cst b0 a3 = 2 ∧ cst b1 a0 = 2 ∧ cst b1 a2 = 2 ∧ cst b1 a3 = 2 ∧ cst b2 a0 = 2 ∧ cst b2 a1 = 2 ∧ cst b2 a3 = 2 ∧ cst b3 a0 = 2 ∧ cst b3 a1 = 2 ∧ cst b3 a2 = 2) := by
  obtain ⟨f0, f1, f2, h0, h1, h2, rfl⟩ := hx
  obtain ⟨g0, g1, g2, k0, k1, k2, rfl⟩ := hy
  obtain ⟨n01, n12, n02⟩ := hd
  have L0 : l0.toNat < 26 := by omega
  have L1 : l1.toNat < 26 := by omega
  have L2 : l2.toNat < 26 := by omega
  have x01 : cst (codeN l0.toNat g0) (codeN l1.toNat f1) = 2 := by rw [cst_ltr L0 k0 L1 h1, if_neg (by omega)]
  have x02 : cst (codeN l0.toNat g0) (codeN l2.toNat f2) = 2 := by rw [cst_ltr L0 k0 L2 h2, if_neg (by omega)]
  have x10 : cst (codeN l1.toNat g1) (codeN l0.toNat f0) = 2 := by rw [cst_ltr L1 k1 L0 h0, if_neg (by omega)]
  have x12 : cst (codeN l1.toNat g1) (codeN l2.toNat f2) = 2 := by rw [cst_ltr L1 k1 L2 h2, if_neg (by omega)]
  have x20 : cst (codeN l2.toNat g2) (codeN l0.toNat f0) = 2 := by rw [cst_ltr L2 k2 L0 h0, if_neg (by omega)]
  have x21 : cst (codeN l2.toNat g2) (codeN l1.toNat f1) = 2 := by rw [cst_ltr L2 k2 L1 h1, if_neg (by omega)]
  have q0 := cst_ql L0 h0
  have q1 := cst_ql L1 h1
  have q2 := cst_ql L2 h2
  have r0 := cst_lq L0 k0
  have r1 := cst_lq L1 k1
  have r2 := cst_lq L2 k2
  generalize codeN l0.toNat f0 = a0 at *
  generalize codeN l1.toNat f1 = a1 at *
  generalize codeN l2.toNat f2 = a2 at *
  generalize codeN l0.toNat g0 = b0 at *
  generalize codeN l1.toNat g1 = b1 at *
  generalize codeN l2.toNat g2 = b2 at *
  have S : ∀ i : Nat, i < 4 → sc ⟨⟨insN p.toNat a0 a1 a2⟩⟩ ⟨⟨insN p.toNat b0 b1 b2⟩⟩ (i : Int) = cst ((insN p.toNat a0 a1 a2).getD i 0) ((insN p.toNat b0 b1 b2).getD i 0) := fun i hi => sc_mk (by rw [insN_len]; exact hi) (by rw [insN_len]; exact hi)
  have S0 := S 0 (by decide)
  have S1 := S 1 (by decide)
  have S2 := S 2 (by decide)
  have S3 := S 3 (by decide)
  clear S
  generalize p.toNat = P at *
  rcases P with _ | _ | _ | q
  · exact ⟨34, a0, a1, a2, 34, b0, b1, b2, rfl, rfl, ⟨S0.symm, S1.symm, S2.symm, S3.symm⟩, q0, q1, q2, r0, x01, x02, r1, x10, x12, r2, x20, x21⟩
  · exact ⟨a0, 34, a1, a2, b0, 34, b1, b2, rfl, rfl, ⟨S0.symm, S1.symm, S2.symm, S3.symm⟩, r0, x01, x02, q0, q1, q2, x10, r1, x12, x20, r2, x21⟩
  · exact ⟨a0, a1, 34, a2, b0, b1, 34, b2, rfl, rfl, ⟨S0.symm, S1.symm, S2.symm, S3.symm⟩, x01, r0, x02, x10, r1, x12, q0, q1, q2, x20, x21, r2⟩
  · exact ⟨a0, a1, a2, 34, b0, b1, b2, 34, rfl, rfl, ⟨S0.symm, S1.symm, S2.symm, S3.symm⟩, x01, x02, r0, x10, x12, r1, x20, x21, r2, q0, q1, q2⟩
theorem mat44 {a0 a1 a2 a3 b0 b1 b2 b3 : Nat} (h : cst b0 a1 = 2 ∧ cst b0 a2 = 2 ∧ cst b0 a3 = 2 ∧ cst b1 a0 = 2 ∧ cst b1 a2 = 2 ∧ cst b1 a3 = 2 ∧ cst b2 a0 = 2 ∧ cst b2 a1 = 2 ∧ cst b2 a3 = 2 ∧ cst b3 a0 = 2 ∧ cst b3 a1 = 2 ∧ cst b3 a2 = 2) :
    matOf [a0, a1, a2, a3] [b0, b1, b2, b3] = M4 (cst a0 b0) (cst a1 b1) (cst a2 b2) (cst a3 b3) := by
  obtain ⟨h1, h2, h3, h4, h5, h6, h7, h8, h9, h10, h11, h12⟩ := h
  simp only [matOf, List.map, h1, h2, h3, h4, h5, h6, h7, h8, h9, h10, h11, h12, M4]
  rw [cst_comm (u := b0) (v := a0), cst_comm (u := b1) (v := a1), cst_comm (u := b2) (v := a2), cst_comm (u := b3) (v := a3)]
theorem sc_self {x : Str} {i : Int} : sc x x i = 0 := by unfold sc subCost; simp
theorem lev_44 {a0 a1 a2 a3 b0 b1 b2 b3 : Nat} {mx n : Int} (h : LevRel ⟨#[a0, a1, a2, a3]⟩ ⟨#[b0, b1, b2, b3]⟩ mx n) (H : cst b0 a1 = 2 ∧ cst b0 a2 = 2 ∧ cst b0 a3 = 2 ∧ cst b1 a0 = 2 ∧ cst b1 a2 = 2 ∧ cst b1 a3 = 2 ∧ cst b2 a0 = 2 ∧ cst b2 a1 = 2 ∧ cst b2 a3 = 2 ∧ cst b3 a0 = 2 ∧ cst b3 a1 = 2 ∧ cst b3 a2 = 2) {good : Int → Bool}
    (ok : okM (M4 (cst a0 b0) (cst a1 b1) (cst a2 b2) (cst a3 b3)) 4 4 mx good = true) (z : cst a0 b0 = 0 → cst a1 b1 = 0 → cst a2 b2 = 0 → cst a3 b3 = 0 → good 0 = true) : good n = true := by
  rcases lev_M h (la := [a0, a1, a2, a3]) (lb := [b0, b1, b2, b3]) rfl rfl with ⟨e, rfl⟩ | l
  · have e' : [a0, a1, a2, a3] = [b0, b1, b2, b3] := congrArg (fun s : Str => s.cps.toList) e
    injection e' with e0 e'
    injection e' with e1 e'
    injection e' with e2 e'
    injection e' with e3 e'
    subst e0 e1 e2 e3
    exact z cst_same cst_same cst_same cst_same
  · rw [mat44 H] at l
    exact okM_use ok l
theorem c_lev1 (w : World) {p l0 l1 l2 : Int} (one other : Str) (mx : Int) (tx ty tm : Tok) (hl : 0 ≤ l0 ∧ l0 < 26 ∧ 0 ≤ l1 ∧ l1 < 26 ∧ 0 ≤ l2 ∧ l2 < 26) (hd : Dist3 l0 l1 l2) (hx : Sp p l0 l1 l2 one) (hy : Sp p l0 l1 l2 other) (hm : mx = sc one other 0 + sc one other 1 + sc one other 2 + sc one other 3) :
    SC 16 w 28 [.str one tx, .str other ty, .int mx tm] noPre (RI mx) := by
  refine SC.mono (c_lev w one other mx tx ty tm (by rw [hx.len, hy.len]; exact Nat.le_refl _) (by rw [hy.len]; exact Nat.le_refl _)) fun _ v _ ⟨n, t, e, r⟩ => ⟨t, ?_⟩
  obtain ⟨a0, a1, a2, a3, b0, b1, b2, b3, rfl, rfl, ⟨s0, s1, s2, s3⟩, H⟩ := sp_mat hl hd hx hy
  rw [← s0, ← s1, ← s2, ← s3] at hm
  have ok := all3_at (all3_at (all3_at (all3_at chk1 (x := cst a0 b0) cst_bnd.1 cst_bnd.2) (x := cst a1 b1) cst_bnd.1 cst_bnd.2) (x := cst a2 b2) cst_bnd.1 cst_bnd.2) (x := cst a3 b3) cst_bnd.1 cst_bnd.2
  rw [← hm] at ok
  have g := lev_44 r H ok (fun z0 z1 z2 z3 => by rw [z0, z1, z2, z3] at hm; subst hm; rfl)
  rw [e, eq_of_beq g]
abbrev RGe (n : Int) : Heap → Value → Heap → Prop := fun _ v _ => ∃ k t, v = .int k t ∧ n ≤ k
theorem sc_comm {x y : Str} {i : Nat} (hx : i < x.length) (hy : i < y.length) : sc x y (i : Int) = sc y x (i : Int) := by
  unfold sc
  rw [item_nat hx, item_nat hy]
  exact cst_comm
theorem c_lev2 (w : World) {p l0 l1 l2 : Int} (one other : Str) (mx : Int) (tx ty tm : Tok) (hl : 0 ≤ l0 ∧ l0 < 26 ∧ 0 ≤ l1 ∧ l1 < 26 ∧ 0 ≤ l2 ∧ l2 < 26) (hd : Dist3 l0 l1 l2) (hx : Sp p l0 l1 l2 one) (hy : Sp p l0 l1 l2 other) (hm : mx = sc other one 0 + sc other one 1 + sc other one 2 + sc other one 3) :
    SC 16 w 28 [.str one tx, .str other ty, .int (mx - 1) tm] noPre (RGe mx) := by
  refine SC.mono (c_lev w one other (mx - 1) tx ty tm (by rw [hx.len, hy.len]; exact Nat.le_refl _) (by rw [hy.len]; exact Nat.le_refl _)) fun _ v _ ⟨n, t, e, r⟩ => ⟨n, t, e, ?_⟩
  have c : ∀ i : Nat, i < 4 → sc other one (i : Int) = sc one other (i : Int) := fun i hi => sc_comm (by rw [hy.len]; exact hi) (by rw [hx.len]; exact hi)
  rw [show sc other one 0 = sc one other 0 from c 0 (by decide), show sc other one 1 = sc one other 1 from c 1 (by decide), show sc other one 2 = sc one other 2 from c 2 (by decide), show sc other one 3 = sc one other 3 from c 3 (by decide)] at hm
  obtain ⟨a0, a1, a2, a3, b0, b1, b2, b3, rfl, rfl, ⟨s0, s1, s2, s3⟩, H⟩ := sp_mat hl hd hx hy
  rw [← s0, ← s1, ← s2, ← s3] at hm
  have ok := all3_at (all3_at (all3_at (all3_at chk2 (x := cst a0 b0) cst_bnd.1 cst_bnd.2) (x := cst a1 b1) cst_bnd.1 cst_bnd.2) (x := cst a2 b2) cst_bnd.1 cst_bnd.2) (x := cst a3 b3) cst_bnd.1 cst_bnd.2
  rw [← hm] at ok
  have g := lev_44 r H ok (fun z0 z1 z2 z3 => by rw [z0, z1, z2, z3] at hm; subst hm; rfl)
  exact of_decide_eq_true g
theorem app_cps {x y : Str} {a b : List Nat} (hx : x.cps.toList = a) (hy : y.cps.toList = b) : (x ++ y).cps.toList = a ++ b := by rw [app_list, hx, hy]
theorem cut_cps {x : Str} {i : Nat} (h : i + 1 ≤ x.length) : (Txt.slice x none (some (i : Int)) ++ Txt.slice x (some ((i + 1 : Nat) : Int)) none).cps.toList = x.cps.toList.take i ++ x.cps.toList.drop (i + 1) := by
  rw [app_list, slice_nu, slice_sn, Nat.min_eq_left (by omega)]
theorem c_lev3 (w : World) {p l0 l1 l2 : Int} (one other cut : Str) (mx : Int) (i : Int) (tx ty tm : Tok) (hl : 0 ≤ l0 ∧ l0 < 26 ∧ 0 ≤ l1 ∧ l1 < 26 ∧ 0 ≤ l2 ∧ l2 < 26) (hd : Dist3 l0 l1 l2) (hx : Sp p l0 l1 l2 one) (hy : Sp p l0 l1 l2 other)
    (hc : (i = 0 ∧ cut = Txt.slice one none (some 0) ++ Txt.slice one (some 1) none ∧ mx = 2 + (sc one other 1 + sc one other 2 + sc one other 3)) ∨ (i = 1 ∧ cut = Txt.slice one none (some 1) ++ Txt.slice one (some 2) none ∧ mx = 2 + (sc one other 0 + sc one other 2 + sc one other 3)) ∨ (i = 2 ∧ cut = Txt.slice one none (some 2) ++ Txt.slice one (some 3) none ∧ mx = 2 + (sc one other 0 + sc one other 1 + sc one other 3)) ∨ (i = 3 ∧ cut = Txt.slice one none (some 3) ++ Txt.slice one (some 4) none ∧ mx = 2 + (sc one other 0 + sc one other 1 + sc one other 2))) :
    SC 16 w 28 [.str cut tx, .str other ty, .int mx tm] noPre (RI mx) := by
  have lx := hx.len
  have ly := hy.len
  have Z : ∀ i : Nat, i < 4 → (Txt.slice one none (some (i : Int)) ++ Txt.slice one (some ((i + 1 : Nat) : Int)) none).length = 3 := by
    intro i hi
    rw [str_len, cut_cps (by omega), List.length_append, List.length_take, List.length_drop, ← str_len]
    omega
  have lc : cut.length = 3 := by
    rcases hc with ⟨_, rfl, _⟩ | ⟨_, rfl, _⟩ | ⟨_, rfl, _⟩ | ⟨_, rfl, _⟩
    · exact Z 0 (by decide)
    · exact Z 1 (by decide)
    · exact Z 2 (by decide)
    · exact Z 3 (by decide)
  refine SC.mono (c_lev w cut other mx tx ty tm (by omega) (by omega)) fun _ v _ ⟨n, t, e, r⟩ => ⟨t, ?_⟩
  rw [e]
  suffices g : n = mx by rw [g]
  obtain ⟨a0, a1, a2, a3, b0, b1, b2, b3, rfl, rfl, ⟨s0, s1, s2, s3⟩, h1, h2, h3, h4, h5, h6, h7, h8, h9, h10, h11, h12⟩ := sp_mat hl hd hx hy
  rw [← s0, ← s1, ← s2, ← s3] at hc
  have K : ∀ (i : Nat) (A B C u v x : Nat) (U V X : Nat), i < 4 → cut.cps.toList = [A, B, C] → matOf [A, B, C] [b0, b1, b2, b3] = M3 i (cst u U) (cst v V) (cst x X) → mx = 2 + (cst u U + cst v V + cst x X) → n = mx := by
    intro i A B C u v x U V X hi hcut hmat hmx
    have ok := List.all_eq_true.mp chk3 i (List.mem_range.mpr hi)
    have ok := all3_at (all3_at (all3_at ok (x := cst u U) cst_bnd.1 cst_bnd.2) (x := cst v V) cst_bnd.1 cst_bnd.2) (x := cst x X) cst_bnd.1 cst_bnd.2
    rw [← hmx] at ok
    rcases lev_M r (la := [A, B, C]) (lb := [b0, b1, b2, b3]) hcut rfl with ⟨e, _⟩ | l
    · rw [e] at lc; cases lc
    · rw [hmat] at l
      have g := okM_use ok l
      exact eq_of_beq g
  rcases hc with ⟨_, hcut, hmx⟩ | ⟨_, hcut, hmx⟩ | ⟨_, hcut, hmx⟩ | ⟨_, hcut, hmx⟩
  · refine K 0 a1 a2 a3 a1 a2 a3 b1 b2 b3 (by decide) (by rw [hcut]; exact cut_cps (x := ⟨#[a0, a1, a2, a3]⟩) (i := 0) (by show 0 + 1 ≤ 4; decide)) ?_ hmx
    simp only [matOf, List.map, h1, h2, h3, h4, h5, h6, h7, h8, h9, h10, h11, h12, M3, cst_comm (u := b1) (v := a1), cst_comm (u := b2) (v := a2), cst_comm (u := b3) (v := a3)]
  · refine K 1 a0 a2 a3 a0 a2 a3 b0 b2 b3 (by decide) (by rw [hcut]; exact cut_cps (x := ⟨#[a0, a1, a2, a3]⟩) (i := 1) (by show 1 + 1 ≤ 4; decide)) ?_ hmx
    simp only [matOf, List.map, h1, h2, h3, h4, h5, h6, h7, h8, h9, h10, h11, h12, M3, cst_comm (u := b0) (v := a0), cst_comm (u := b2) (v := a2), cst_comm (u := b3) (v := a3)]
  · refine K 2 a0 a1 a3 a0 a1 a3 b0 b1 b3 (by decide) (by rw [hcut]; exact cut_cps (x := ⟨#[a0, a1, a2, a3]⟩) (i := 2) (by show 2 + 1 ≤ 4; decide)) ?_ hmx
    simp only [matOf, List.map, h1, h2, h3, h4, h5, h6, h7, h8, h9, h10, h11, h12, M3, cst_comm (u := b1) (v := a1), cst_comm (u := b0) (v := a0), cst_comm (u := b3) (v := a3)]
  · refine K 3 a0 a1 a2 a0 a1 a2 b0 b1 b2 (by decide) (by rw [hcut]; exact cut_cps (x := ⟨#[a0, a1, a2, a3]⟩) (i := 3) (by show 3 + 1 ≤ 4; decide)) ?_ hmx
    simp only [matOf, List.map, h1, h2, h3, h4, h5, h6, h7, h8, h9, h10, h11, h12, M3, cst_comm (u := b1) (v := a1), cst_comm (u := b2) (v := a2), cst_comm (u := b0) (v := a0)]
theorem c_lev3' (w : World) {p l0 l1 l2 : Int} (one other : Str) (i j1 j2 j3 : Int) (tx ty tm : Tok) (hl : 0 ≤ l0 ∧ l0 < 26 ∧ 0 ≤ l1 ∧ l1 < 26 ∧ 0 ≤ l2 ∧ l2 < 26) (hd : Dist3 l0 l1 l2) (hx : Sp p l0 l1 l2 one) (hy : Sp p l0 l1 l2 other)
    (hj : (i = 0 ∧ j1 = 1 ∧ j2 = 2 ∧ j3 = 3) ∨ (i = 1 ∧ j1 = 0 ∧ j2 = 2 ∧ j3 = 3) ∨ (i = 2 ∧ j1 = 0 ∧ j2 = 1 ∧ j3 = 3) ∨ (i = 3 ∧ j1 = 0 ∧ j2 = 1 ∧ j3 = 2)) :
    SC 16 w 28 [.str (Txt.slice one none (some i) ++ Txt.slice one (some (i + 1)) none) tx, .str other ty, .int (2 + (subCost (Txt.item one j1) (Txt.item other j1) + (subCost (Txt.item one j2) (Txt.item other j2) + (subCost (Txt.item one j3) (Txt.item other j3) + 0)))) tm] noPre
      (RI (2 + (subCost (Txt.item one j1) (Txt.item other j1) + (subCost (Txt.item one j2) (Txt.item other j2) + (subCost (Txt.item one j3) (Txt.item other j3) + 0))))) := by
  have E : ∀ a b c : Int, 2 + (a + (b + (c + 0))) = 2 + (a + b + c) := by intro a b c; omega
  rcases hj with ⟨rfl, rfl, rfl, rfl⟩ | ⟨rfl, rfl, rfl, rfl⟩ | ⟨rfl, rfl, rfl, rfl⟩ | ⟨rfl, rfl, rfl, rfl⟩
  · exact c_lev3 w one other _ _ 0 tx ty tm hl hd hx hy (.inl ⟨rfl, rfl, E _ _ _⟩)
  · exact c_lev3 w one other _ _ 1 tx ty tm hl hd hx hy (.inr (.inl ⟨rfl, rfl, E _ _ _⟩))
  · exact c_lev3 w one other _ _ 2 tx ty tm hl hd hx hy (.inr (.inr (.inl ⟨rfl, rfl, E _ _ _⟩)))
  · exact c_lev3 w one other _ _ 3 tx ty tm hl hd hx hy (.inr (.inr (.inr ⟨rfl, rfl, E _ _ _⟩)))

end Mine
namespace Mine
theorem four_of {ns : List Int} {vs : List Value} (h : IntsAre vs (List.map (fun k' => Int.fmod k' 1000000) (List.take 4 ns) ++ List.drop (((List.take 4 ns).length : Int)).toNat [0, 100, 37, 149])) :
    ∃ d0 d1 d2 d3 t0 t1 t2 t3, vs = [.int d0 t0, .int d1 t1, .int d2 t2, .int d3 t3] ∧ (0 ≤ d0 ∧ d0 < 1000000) ∧ (0 ≤ d1 ∧ d1 < 1000000) ∧ (0 ≤ d2 ∧ d2 < 1000000) ∧ (0 ≤ d3 ∧ d3 < 1000000) := by
  have B : ∀ x : Int, 0 ≤ Int.fmod x 1000000 ∧ Int.fmod x 1000000 < 1000000 := fun x => ⟨Int.fmod_nonneg_of_pos x (by decide), Int.fmod_lt_of_pos x (by decide)⟩
  have key : ∀ l : List Int, IntsAre vs l → l.length = 4 → (∀ x ∈ l, 0 ≤ x ∧ x < 1000000) → ∃ d0 d1 d2 d3 t0 t1 t2 t3, vs = [.int d0 t0, .int d1 t1, .int d2 t2, .int d3 t3] ∧ (0 ≤ d0 ∧ d0 < 1000000) ∧ (0 ≤ d1 ∧ d1 < 1000000) ∧ (0 ≤ d2 ∧ d2 < 1000000) ∧ (0 ≤ d3 ∧ d3 < 1000000) := by
    intro l hl h4 hb
    match l, h4 with
    | [a, b, c, d], _ =>
      cases hl with
      | cons _ t0 h1 =>
      cases h1 with
      | cons _ t1 h2 =>
      cases h2 with
      | cons _ t2 h3 =>
      cases h3 with
      | cons _ t3 h4 =>
      cases h4
      exact ⟨a, b, c, d, t0, t1, t2, t3, rfl, hb a (by simp), hb b (by simp), hb c (by simp), hb d (by simp)⟩
  match ns with
  | [] => exact key _ h rfl (by simp <;> omega)
  | [a] => exact key _ h rfl (by have := B a; simp; omega)
  | [a, b] => exact key _ h rfl (by have := B a; have := B b; simp; omega)
  | [a, b, c] => exact key _ h rfl (by have := B a; have := B b; have := B c; simp; omega)
  | a :: b :: c :: d :: r => exact key _ h rfl (by have := B a; have := B b; have := B c; have := B d; simp; omega)
def P4 (p : Int) : Prop := p = 0 ∨ p = 1 ∨ p = 2 ∨ p = 3
def HideNe (P : Prop) : Prop := P
theorem HideNe.mk {P : Prop} (h : P) : HideNe P := h
theorem HideNe.out {P : Prop} (h : HideNe P) : P := h
theorem let_of {ys : List Value} {x z : Int} (h : IntsAre ys (List.map (fun k' => Int.fmod (x + k' * (2 * Int.fmod z 6 + 1)) 26) (rangeKs 0 ((3 : Int) - 0).toNat))) :
    ∃ l0 l1 l2 t0 t1 t2, ys = [.int l0 t0, .int l1 t1, .int l2 t2] ∧ (0 ≤ l0 ∧ l0 < 26 ∧ 0 ≤ l1 ∧ l1 < 26 ∧ 0 ≤ l2 ∧ l2 < 26) ∧ Dist3 l0 l1 l2 := by
  have e : rangeKs 0 ((3 : Int) - 0).toNat = [0, 1, 2] := by decide
  rw [e] at h
  have hz : 0 ≤ Int.fmod z 6 ∧ Int.fmod z 6 < 6 := ⟨Int.fmod_nonneg_of_pos z (by decide), Int.fmod_lt_of_pos z (by decide)⟩
  generalize Int.fmod z 6 = v at *
  have B : ∀ x : Int, 0 ≤ Int.fmod x 26 ∧ Int.fmod x 26 < 26 := fun x => ⟨Int.fmod_nonneg_of_pos x (by decide), Int.fmod_lt_of_pos x (by decide)⟩
  have E : ∀ x : Int, Int.fmod x 26 = x % 26 := fun x => Int.fmod_eq_emod_of_nonneg x (by decide)
  cases h with
  | cons _ t0 h1 =>
  cases h1 with
  | cons _ t1 h2 =>
  cases h2 with
  | cons _ t2 h3 =>
  cases h3
  refine ⟨_, _, _, t0, t1, t2, rfl, ⟨(B _).1, (B _).2, (B _).1, (B _).2, (B _).1, (B _).2⟩, ?_⟩
  simp only [E]
  refine ⟨?_, ?_, ?_⟩ <;> omega
theorem four_p {z : Int} : P4 (Int.fmod z 4) := by
  have := Int.fmod_nonneg_of_pos z (show (0 : Int) < 4 by decide)
  have := Int.fmod_lt_of_pos z (show (0 : Int) < 4 by decide)
  unfold P4
  omega
theorem RL.news {l : List Str} {h₁ h₀ h' : Heap} {L : Addr} {m : Str → Option Value} {news : List (Addr × Obj)} {v : Value} (r : RL l h₁ v h') (F : Fr h₀ L h₁ m) (N : News h₀ L h₁ news) (k : Kp h₁ h') :
    ∃ D vl n, v = .ref D ∧ News h₀ L h' ((D, W.listOf (List.toArray vl) n) :: news) ∧ (∀ p ∈ news, p.1 ≠ D) ∧ StrsAre vl l := by
  obtain ⟨D, ⟨vl⟩, n, e, e1, e2, e3⟩ := r
  have q : ∀ b o, h₁.get? b = some o → b ≠ D := fun b o h hb => by subst hb; rw [e1] at h; cases h
  refine ⟨D, vl, n, e, fun p hp => ?_, fun p hp => q _ _ (N p hp).1, e3⟩
  rcases List.mem_cons.mp hp with rfl | hp
  · obtain ⟨o, _, _, hL, _⟩ := F.ns
    refine ⟨e2, (q _ _ hL).symm, ?_⟩
    cases hq : h₀.get? D with
    | none => rfl
    | some o' => exact absurd rfl (q _ _ (F.keep _ _ hq))
  · exact ⟨k _ _ (N p hp).1, (N p hp).2⟩
def Hold (p : Prop) : Prop := p
theorem unHold {p : Prop} (h : Hold p) : p := h
theorem toHold {p : Prop} (h : p) : Hold p := h
def TDoneN (h₀ : Heap) (L : Addr) (m : Str → Option Value) (news : List (Addr × Obj)) (s : Shared) (x : Str) (v : Str) (fl : Flow) (s' : Shared) : Prop :=
  ∃ h' tk' t, fl = .next ∧ s' = { s with heap := h', toks := tk' } ∧ Fr h₀ L h' (fun y => if y = x then some (.str v t) else m y) ∧ News h₀ L h' news
theorem TDoneN.intro {h₀ : Heap} {L : Addr} {m : Str → Option Value} {news : List (Addr × Obj)} {s : Shared} {x : Str} {v u : Str} {h' : Heap} {tk' : Nat} {t : Tok} (F : Fr h₀ L h' (fun y => if y = x then some (.str u t) else m y)) (N : News h₀ L h' news) (h : u = v) :
   TDoneN h₀ L m news s x v .next { s with heap := h', toks := tk' } := by subst h; exact ⟨h', tk', t, rfl, rfl, F, N⟩
theorem text_mergeN {w : World} {A : Around} {E : Value → Shared → Prop} {s : Shared} {h₀ : Heap} {L : Addr} {m : Str → Option Value} {news : List (Addr × Obj)} {env : Env} {st : Stmt} {Q : Flow → Shared → Prop} (x : Str) (v : Str) (F : Fr h₀ L s.heap m) (N : News h₀ L s.heap news)
   (cut : wpAny (model PySem.Challenge.rw_tp0048_02.row.prog w) A (exec st env) (TDoneN h₀ L m news s x v) E s)
   (on : OnGoT (∀ h' tk' t, Fr h₀ L h' (fun y => if y = x then some (.str v t) else m y) → News h₀ L h' news → Q .next { s with heap := h', toks := tk' })) : wpAny (model PySem.Challenge.rw_tp0048_02.row.prog w) A (exec st env) Q E s :=
  wpAny_mono cut (fun fl s' ⟨h', tk', t, e1, e2, F', N'⟩ => by rw [e1, e2]; exact on h' tk' t F' N') fun _ _ e => e
def NDone (h₀ : Heap) (L : Addr) (m : Str → Option Value) (news : List (Addr × Obj)) (s : Shared) (fl : Flow) (s' : Shared) : Prop :=
  ∃ h' tk', fl = .next ∧ s' = { s with heap := h', toks := tk' } ∧ Fr h₀ L h' m ∧ News h₀ L h' news
theorem NDone.intro {h₀ : Heap} {L : Addr} {m : Str → Option Value} {news : List (Addr × Obj)} {s : Shared} {h' : Heap} {tk' : Nat} (F : Fr h₀ L h' m) (N : News h₀ L h' news) :
   NDone h₀ L m news s .next { s with heap := h', toks := tk' } := ⟨h', tk', rfl, rfl, F, N⟩
theorem skip_mergeN {w : World} {A : Around} {E : Value → Shared → Prop} {s : Shared} {h₀ : Heap} {L : Addr} {m : Str → Option Value} {news : List (Addr × Obj)} {env : Env} {st : Stmt} {Q : Flow → Shared → Prop} (F : Fr h₀ L s.heap m) (N : News h₀ L s.heap news)
   (cut : wpAny (model PySem.Challenge.rw_tp0048_02.row.prog w) A (exec st env) (NDone h₀ L m news s) E s)
   (on : OnGoT (∀ h' tk' (_ : Tok), Fr h₀ L h' m → News h₀ L h' news → Q .next { s with heap := h', toks := tk' })) : wpAny (model PySem.Challenge.rw_tp0048_02.row.prog w) A (exec st env) Q E s :=
  wpAny_mono cut (fun fl s' ⟨h', tk', e1, e2, F', N'⟩ => by rw [e1, e2]; exact on h' tk' tk' F' N') fun _ _ e => e
theorem sgn_len {l0 l1 l2 y f : Int} {k : Nat} : (sgn l0 l1 l2 y f k).length = 1 := rfl
theorem fit_ins {p : Int} {l0 l1 l2 y f l0' l1' l2' y' f' a0 a1 a2 y'' f'' : Int} {k k' k'' : Nat} : ((insQ p.toNat (sgn l0 l1 l2 y f k) (sgn l0' l1' l2' y' f' k') (sgn a0 a1 a2 y'' f'' k'')).map (·.length)).sum + (insQ p.toNat (sgn l0 l1 l2 y f k) (sgn l0' l1' l2' y' f' k') (sgn a0 a1 a2 y'' f'' k'')).length * 64 ≤ 16777216 := by
  unfold insQ
  split <;> simp [sgn_len, Str.length, sgn]
theorem strs_ins {vl : List Value} {a b c d : Str} (h : StrsAre vl [a, b, c, d]) : ∃ t0 t1 t2 t3, vl = [.str a t0, .str b t1, .str c t2, .str d t3] := by
  cases h with
  | cons _ t0 h1 =>
  cases h1 with
  | cons _ t1 h2 =>
  cases h2 with
  | cons _ t2 h3 =>
  cases h3 with
  | cons _ t3 h4 =>
  cases h4
  exact ⟨t0, t1, t2, t3, rfl⟩
theorem mul_is {prog : Program} {w : World} {A : Around} {E : Value → Shared → Prop} {s : Shared} {x : Str} {t u : Tok} {Q : Value → Shared → Prop} (hx : x.length = 1) (h : ∀ t' k, Q (.str (Txt.mul x 2) t') { s with toks := k }) :
    wpAny (model prog w) A (binaryOp .Mult (.int 2 u) (.str x t)) Q E s := by
  refine lm_binaryOp_repeat_right (T := "str") (U := "int") (by decide) (fun s' => typeIs_int s' 2 u) (typeIs_str s x t) F.fills_int_mul noFill_str_mul F.slot_int_mul lm_noRepeat_int repeat_str F.slot_int_index.lookup
    (call_gives F.slot_int_mul (typeIs_int s 2 u) F.entry_int_mul (F.args_int_mul_2 _ _) (AutoIntG3.int___mul___int_str_0 2 u x t)
      ⟨rfl, typeIs_str _ x t, call_gives F.slot_str_mul (typeIs_str s x t) F.entry_str_mul (F.args_str_mul_2 _ _) (gives_str_mul x 2 t u (by decide) (by intro _ _; rw [hx]; decide) (by intro _ _; rw [hx]; decide +kernel)) ?_⟩)
  rw [if_neg (by decide), if_neg (by rw [hx]; decide)]
  have h' := h s.toks (s.toks + 1)
  unfold Txt.mul at h'
  rw [if_neg (by decide), if_neg (by rw [hx]; decide)] at h'
  exact ⟨fits_reps (by rw [hx]; decide +kernel), h'⟩
local macro_rules | `(tactic| lcg_off) => `(tactic| walk_at "LCGOFF")
theorem News.drop5 {h₀ h : Heap} {L : Addr} {a b c d e f : Addr × Obj} {r : List (Addr × Obj)} (N : News h₀ L h (a :: b :: c :: d :: e :: f :: r)) : News h₀ L h (a :: r) :=
  kst_newsOf N fun p hp => by
    rcases List.mem_cons.mp hp with rfl | hp
    · exact .head _
    · exact .tail _ (.tail _ (.tail _ (.tail _ (.tail _ (.tail _ hp)))))
theorem mergeW {w : World} {A : Around} {E : Value → Shared → Prop} {s : Shared} {h₀ : Heap} {L : Addr} {m : Str → Option Value} {news : List (Addr × Obj)} {env : Env} {st : Stmt} {Q : Flow → Shared → Prop} {vl : List Value} {p l0 l1 l2 y f : Int} (q : StrsAre vl (insQ (Int.toNat p) (sgn l0 l1 l2 y f 0) (sgn l0 l1 l2 y f 1) (sgn l0 l1 l2 y f 2))) (hl : 0 ≤ l0 ∧ l0 < 26 ∧ 0 ≤ l1 ∧ l1 < 26 ∧ 0 ≤ l2 ∧ l2 < 26) (F : Fr h₀ L s.heap m) (N : News h₀ L s.heap news)
   (cut : (sgn l0 l1 l2 y f 0 == Str.ofString "\"") = false → (sgn l0 l1 l2 y f 1 == Str.ofString "\"") = false → (sgn l0 l1 l2 y f 2 == Str.ofString "\"") = false → wpAny (model PySem.Challenge.rw_tp0048_02.row.prog w) A (exec st env) (TDoneN h₀ L m news s "written" (Wr p (sgn l0 l1 l2 y f 0) (sgn l0 l1 l2 y f 1) (sgn l0 l1 l2 y f 2))) E s)
   (on : OnGoT (∀ h' tk' t, Fr h₀ L h' (fun y' => if y' = "written" then some (.str (Wr p (sgn l0 l1 l2 y f 0) (sgn l0 l1 l2 y f 1) (sgn l0 l1 l2 y f 2)) t) else m y') → News h₀ L h' news → Q .next { s with heap := h', toks := tk' })) : wpAny (model PySem.Challenge.rw_tp0048_02.row.prog w) A (exec st env) Q E s :=
  text_mergeN "written" _ F N (cut (sgn_noq hl) (sgn_noq hl) (sgn_noq hl)) on
theorem Wr_len {p l0 l1 l2 y f : Int} : (Wr p (sgn l0 l1 l2 y f 0) (sgn l0 l1 l2 y f 1) (sgn l0 l1 l2 y f 2)).length = 5 := by
  unfold sgn
  rw [Wr_eq]
  show (dblN _ _ _ _).toArray.size = 5
  rw [List.size_toArray, dblN_len]
theorem l257 : (Str.ofString "257 \"").length = 5 := by decide +kernel
theorem mergeT {w : World} {A : Around} {E : Value → Shared → Prop} {s : Shared} {h₀ : Heap} {L : Addr} {m : Str → Option Value} {news : List (Addr × Obj)} {env : Env} {st : Stmt} {Q : Flow → Shared → Prop} {vl : List Value} {p l0 l1 l2 y f : Int} (q : StrsAre vl (insQ (Int.toNat p) (sgn l0 l1 l2 y f 0) (sgn l0 l1 l2 y f 1) (sgn l0 l1 l2 y f 2))) (F : Fr h₀ L s.heap m) (N : News h₀ L s.heap news)
   (cut : (Wr p (sgn l0 l1 l2 y f 0) (sgn l0 l1 l2 y f 1) (sgn l0 l1 l2 y f 2)).length = 5 → (Str.ofString "257 \"").length = 5 → wpAny (model PySem.Challenge.rw_tp0048_02.row.prog w) A (exec st env) (TDoneN h₀ L m news s "told" (toldF l0 l1 l2 p f y)) E s)
   (on : OnGoT (∀ h' tk' t, Fr h₀ L h' (fun y' => if y' = "told" then some (.str (toldF l0 l1 l2 p f y) t) else m y') → News h₀ L h' news → Q .next { s with heap := h', toks := tk' })) : wpAny (model PySem.Challenge.rw_tp0048_02.row.prog w) A (exec st env) Q E s :=
  text_mergeN "told" _ F N (cut Wr_len l257) on
theorem mergeI {w : World} {A : Around} {E : Value → Shared → Prop} {s : Shared} {h₀ : Heap} {L : Addr} {m : Str → Option Value} {news : List (Addr × Obj)} {env : Env} {st : Stmt} {Q : Flow → Shared → Prop} {vl : List Value} {p l0 l1 l2 y f : Int} (q : StrsAre vl (insQ (Int.toNat p) (sgn l0 l1 l2 y f 0) (sgn l0 l1 l2 y f 1) (sgn l0 l1 l2 y f 2))) (F : Fr h₀ L s.heap m) (N : News h₀ L s.heap news)
   (cut : (toldF l0 l1 l2 p f y != Txt.join (Str.ofString "") (insQ (Int.toNat p) (sgn l0 l1 l2 y f 0) (sgn l0 l1 l2 y f 1) (sgn l0 l1 l2 y f 2))) = false → (toldF l0 l1 l2 p 0 0 != Txt.join (Str.ofString "") (insQ (Int.toNat p) (sgn l0 l1 l2 0 0 0) (sgn l0 l1 l2 0 0 1) (sgn l0 l1 l2 0 0 2))) = false → wpAny (model PySem.Challenge.rw_tp0048_02.row.prog w) A (exec st env) (NDone h₀ L m news s) E s)
   (on : OnGoT (∀ h' tk' (_ : Tok), Fr h₀ L h' m → News h₀ L h' news → Q .next { s with heap := h', toks := tk' })) : wpAny (model PySem.Challenge.rw_tp0048_02.row.prog w) A (exec st env) Q E s :=
  skip_mergeN F N (cut (ne_false_of rfl) (ne_false_of rfl)) on
theorem c_spelledE (w : World) (a : Addr) (l0 l1 l2 y first : Int) (p : Int) (tp ty tf : Tok) (hl : 0 ≤ l0 ∧ l0 < 26 ∧ 0 ≤ l1 ∧ l1 < 26 ∧ 0 ≤ l2 ∧ l2 < 26) (hpl : P4 p) :
   SC 8 w 131 [.ref a, .int p tp, .int y ty, .int first tf] (fun h => ∃ t0 t1 t2, h.IsList a #[.int l0 t0, .int l1 t1, .int l2 t2]) (RL (insQ p.toNat (sgn l0 l1 l2 y first 0) (sgn l0 l1 l2 y first 1) (sgn l0 l1 l2 y first 2))) :=
  fun mean mg mb A s Q E W ⟨t0, t1, t2, hp⟩ hh hd1 hu hret => c_spelled w a l0 l1 l2 y first p t0 t1 t2 tp ty tf hl hpl mean mg mb A s Q E W hp hh hd1 hu hret
theorem isList3 {h₀ h : Heap} {L D : Addr} {news : List (Addr × Obj)} {a b c : Value} (N : News h₀ L h news) (hm : (D, LCg.lst [a, b, c]) ∈ news) : h.IsList D #[a, b, c] := News.isList N hm
def OffNe (D : Nat) (news : List (Addr × Obj)) : Prop := ∀ p ∈ news, p.1 ≠ D
theorem OffNe.mk {D : Addr} {news : List (Addr × Obj)} (h : ∀ p ∈ news, p.1 ≠ D) : OffNe D news := h
theorem OffNe.l {D a : Nat} {o : Obj} {news : List (Addr × Obj)} (h : OffNe D news) (m : (a, o) ∈ news) : @Ne Nat a D := h _ m
theorem OffNe.r {D a : Nat} {o : Obj} {news : List (Addr × Obj)} (h : OffNe D news) (m : (a, o) ∈ news) : @Ne Nat D a := (h _ m).symm
local macro_rules | `(tactic| k_ne) => `(tactic| walk_at "KNE")
theorem News.dropP {h₀ h : Heap} {L : Addr} {a b c d n w l r : Addr × Obj} {cs : List (Addr × Obj)} (N : News h₀ L h (a :: b :: c :: d :: n :: w :: l :: r :: cs)) : News h₀ L h (n :: w :: cs) :=
  kst_newsOf N fun p hp => by
    rcases List.mem_cons.mp hp with rfl | hp
    · exact .tail _ (.tail _ (.tail _ (.tail _ (.head _))))
    · rcases List.mem_cons.mp hp with rfl | hp
      · exact .tail _ (.tail _ (.tail _ (.tail _ (.tail _ (.head _)))))
      · exact .tail _ (.tail _ (.tail _ (.tail _ (.tail _ (.tail _ (.tail _ (.tail _ hp)))))))
theorem sumc_eq {a b c d : Int} : a + b + c + d = a + b + c + d := rfl
theorem sum_map4 {f : Int → Int} : (List.map f (rangeKs 0 ((4 : Int) - 0).toNat)).sum = f 0 + f 1 + f 2 + f 3 := by
  rw [show rangeKs 0 ((4 : Int) - 0).toNat = [0, 1, 2, 3] by decide]
  simp [List.sum_cons]
  omega
def BDone (h₀ : Heap) (L : Addr) (m : Str → Option Value) (news : List (Addr × Obj)) (s : Shared) (x : Str) (fl : Flow) (s' : Shared) : Prop :=
  ∃ h' tk' v, fl = .next ∧ s' = { s with heap := h', toks := tk' } ∧ Fr h₀ L h' (fun y => if y = x then some v else m y) ∧ News h₀ L h' news
theorem BDone.intro {h₀ : Heap} {L : Addr} {m : Str → Option Value} {news : List (Addr × Obj)} {s : Shared} {x : Str} {v : Value} {h' : Heap} {tk' : Nat} (F : Fr h₀ L h' (fun y => if y = x then some v else m y)) (N : News h₀ L h' news) :
   BDone h₀ L m news s x .next { s with heap := h', toks := tk' } := ⟨h', tk', v, rfl, rfl, F, N⟩
theorem body_merge {w : World} {A : Around} {E : Value → Shared → Prop} {s : Shared} {h₀ : Heap} {L : Addr} {m : Str → Option Value} {news : List (Addr × Obj)} {env : Env} {body : List Stmt} {Q : Flow → Shared → Prop} (x : Str) (F : Fr h₀ L s.heap m) (N : News h₀ L s.heap news)
   (cut : wpAny (model PySem.Challenge.rw_tp0048_02.row.prog w) A (execs body env) (BDone h₀ L m news s x) E s)
   (on : OnGoT (∀ h' tk' (v : Value), Fr h₀ L h' (fun y => if y = x then some v else m y) → News h₀ L h' news → Q .next { s with heap := h', toks := tk' })) : wpAny (model PySem.Challenge.rw_tp0048_02.row.prog w) A (execs body env) Q E s :=
  wpAny_mono cut (fun fl s' ⟨h', tk', v, e1, e2, F', N'⟩ => by rw [e1, e2]; exact on h' tk' v F' N') fun _ _ e => e
def HideOff (P : Prop) : Prop := P
theorem HideOff.mk {P : Prop} (h : P) : HideOff P := h
theorem HideOff.out {P : Prop} (h : HideOff P) : P := h
def HideOf2 (P : Prop) : Prop := P
theorem HideOf2.mk {P : Prop} (h : P) : HideOf2 P := h
theorem HideOf2.out {P : Prop} (h : HideOf2 P) : P := h
theorem lt4 {k : Int} (h : k < 0 + (((4 : Int) - 0).toNat : Int)) : k < 4 := by simpa using h
theorem item4 {w : World} {A : Around} {E : Value → Shared → Prop} {s : Shared} {value slice : Expr} {x : Str} {i : Int} {t u : Tok} {Q : Value → Shared → Prop} (hx : x.length = 4) (i0 : 0 ≤ i) (i1 : i < 4)
    (h : (1 ≤ (Txt.item x i).length ∧ (Txt.item x i).length ≤ 1) → Q (.str (Txt.item x i) s.toks) { s with toks := s.toks + 1 })
    (hs : subscripted slice false (.str x t) (.int i u) = operate [.str x t, .int i u] (getItem (.str x t) (.int i u)))
    (ht : ∀ r, letTemporaryGo value (.str x t) r = pure ()) :
    wpAny (model PySem.Challenge.rw_tp0048_02.row.prog w) A (subscriptTail value slice (.str x t) (.int i u)) Q E s :=
  item_str (fitsSsize_of (N := 9223372036854775808) (by omega) (by omega) (Int.le_refl _)) (by omega) (by omega) h hs ht
theorem iter_rangeTurns {prog : Program} {w : World} {A : Around} {E : Value → Shared → Prop} {s : Shared} {env : Env} {h₀ : Heap} {x : Str} {px : Pos} {body : List Stmt} {Q : Flow → Shared → Prop} {r : Addr} {t₀ u₀ v₀ : Tok} {m₀ : Str → Option Value} {news : List (Addr × Obj)}
    (hh : A.handled = none) (hr : IsRange s.heap r 0 4 1 t₀ u₀ v₀) (F : Fr h₀ env.locals s.heap m₀) (N : News h₀ env.locals s.heap news)
    (rest₀ : ∀ I : Addr, (∀ p ∈ news, p.1 < I) → ItemsRest prog w A E h₀ env (.Name x px) body Q s [(I, "range_iterator")] [] [.tok (.int 0 ·), .tok (.int 1 ·), .tok (.int 2 ·), .tok (.int 3 ·)] m₀ news) :
    wpAny (model prog w) A (pyIter (.ref r)) (fun it s₂ => TurnsAt prog w A h₀ env (.Name x px) body Q E it s₂) E s := by
  refine wpAny_pyIter_range hr rfl ?_
  refine ktu_core (tk0 := s.toks) (keep := []) (n := 4) (KTurns.ofWalks ((Walks.range hh s.heap.objs.size 0 1 4).bound) fun i v s Q E st q => ?_) (by simp) (fun i v h hp => ?_) (fun i h st => ?_) (fun b hb => ?_) (fun b hb => by simpa using hb) (fun b hb => ?_) ?_ (fun p hp hI => ?_) ?_ (F.push _) (fun p hp => ⟨Heap.get?_push_of_some _ (N p hp).1, (N p hp).2⟩) trivial (rest₀ _ fun p hp => Heap.lt_size (N p hp).1)
  · exact wpAny_pure q
  · obtain ⟨hi, t, rfl⟩ := hp
    have : i = 0 ∨ i = 1 ∨ i = 2 ∨ i = 3 := by omega
    rcases this with rfl | rfl | rfl | rfl
    · exact ⟨_, rfl, t, rfl⟩
    · exact ⟨_, rfl, t, rfl⟩
    · exact ⟨_, rfl, t, rfl⟩
    · exact ⟨_, rfl, t, rfl⟩
  · exact ⟨[(s.heap.objs.size, _)], ⟨⟨rfl, rfl⟩, trivial⟩, fun p hp => by rw [List.mem_singleton.mp hp]; exact st⟩
  · have hb' : b = s.heap.objs.size := by simpa using hb
    rw [hb']
    exact ⟨List.mem_cons_self .., next_is_new F⟩
  · exact .inl (by simpa using hb)
  · intro hI
    rcases List.mem_cons.mp hI with e | hI
    · exact absurd F.ns.lt (e ▸ Nat.lt_irrefl _)
    · cases hI
  · exact absurd (Heap.lt_size (N p hp).1) ((List.mem_singleton.mp hI) ▸ Nat.lt_irrefl _)
  · exact Heap.get?_push_size _ rfl
theorem due_eq {a b c : Int} : 2 + [a, b, c].sum = 2 + (a + b + c) := by simp [List.sum_cons]; omega
theorem due_eq2 {a b c : Int} : 2 + (a + (b + c)) = 2 + (a + b + c) := by omega
theorem due_eq3 {a b c : Int} : 2 + (a + (b + (c + 0))) = 2 + (a + b + c) := by omega
def IDoneN (h₀ : Heap) (L : Addr) (m : Str → Option Value) (news : List (Addr × Obj)) (s : Shared) (x : Str) (v : Int) (fl : Flow) (s' : Shared) : Prop :=
  ∃ h' tk' t, fl = .next ∧ s' = { s with heap := h', toks := tk' } ∧ Fr h₀ L h' (fun y => if y = x then some (.int v t) else m y) ∧ News h₀ L h' news
theorem IDoneN.intro {h₀ : Heap} {L : Addr} {m : Str → Option Value} {news : List (Addr × Obj)} {s : Shared} {x : Str} {v : Int} {h' : Heap} {tk' : Nat} {t : Tok} (F : Fr h₀ L h' (fun y => if y = x then some (.int v t) else m y)) (N : News h₀ L h' news) :
   IDoneN h₀ L m news s x v .next { s with heap := h', toks := tk' } := ⟨h', tk', t, rfl, rfl, F, N⟩
theorem int_mergeN {w : World} {A : Around} {E : Value → Shared → Prop} {s : Shared} {h₀ : Heap} {L : Addr} {m : Str → Option Value} {news : List (Addr × Obj)} {env : Env} {st : Stmt} {Q : Flow → Shared → Prop} {v : Int} (x : Str) (F : Fr h₀ L s.heap m) (N : News h₀ L s.heap news)
   (cut : wpAny (model PySem.Challenge.rw_tp0048_02.row.prog w) A (exec st env) (IDoneN h₀ L m news s x v) E s)
   (on : OnGoT (∀ h' tk' t, Fr h₀ L h' (fun y => if y = x then some (.int v t) else m y) → News h₀ L h' news → Q .next { s with heap := h', toks := tk' })) : wpAny (model PySem.Challenge.rw_tp0048_02.row.prog w) A (exec st env) Q E s :=
  wpAny_mono cut (fun fl s' ⟨h', tk', t, e1, e2, F', N'⟩ => by rw [e1, e2]; exact on h' tk' t F' N') fun _ _ e => e

def HJ (i j1 j2 j3 : Int) : Prop := ((i = 0 ∧ j1 = 1 ∧ j2 = 2 ∧ j3 = 3) ∨ (i = 1 ∧ j1 = 0 ∧ j2 = 2 ∧ j3 = 3) ∨ (i = 2 ∧ j1 = 0 ∧ j2 = 1 ∧ j3 = 3) ∨ (i = 3 ∧ j1 = 0 ∧ j2 = 1 ∧ j3 = 2))
theorem HJ0 : HJ 0 1 2 3 := .inl ⟨rfl, rfl, rfl, rfl⟩
theorem HJ1 : HJ 1 0 2 3 := .inr (.inl ⟨rfl, rfl, rfl, rfl⟩)
theorem HJ2 : HJ 2 0 1 3 := .inr (.inr (.inl ⟨rfl, rfl, rfl, rfl⟩))
theorem HJ3 : HJ 3 0 1 2 := .inr (.inr (.inr ⟨rfl, rfl, rfl, rfl⟩))
theorem News.add {h₀ h : Heap} {L : Addr} {news : List (Addr × Obj)} {p : Addr × Obj} (N : News h₀ L h news) (hm : p ∈ news) : News h₀ L h (p :: news) := fun q hq => by
  rcases List.mem_cons.mp hq with rfl | hq
  · exact N _ hm
  · exact N _ hq
theorem Fr.named {h₀ h : Heap} {L : Addr} {M : Str → Option Value} {x : Str} {v : Option Value} (F : Fr h₀ L h M) (hv : M x = v) : Fr h₀ L h (fun y => if y = x then v else M y) := by
  have e : (fun y => if y = x then v else M y) = M := by
    funext y
    by_cases hy : y = x
    · subst hy; rw [if_pos rfl, hv]
    · rw [if_neg hy]
  rw [e]; exact F
def TurnP (w : World) (A : Around) (E : Value → Shared → Prop) (env : Env) (h₀ : Heap) (sh : Shared) (body : List Stmt) : Prop :=
  ∀ (p l0 l1 l2 : Int) (x y : Str) (t u : Tok) (hp : Heap) (tk : Nat) (m : Str → Option Value) (news : List (Addr × Obj)) (o1 o2 : Obj),
    (0 ≤ l0 ∧ l0 < 26 ∧ 0 ≤ l1 ∧ l1 < 26 ∧ 0 ≤ l2 ∧ l2 < 26) → Dist3 l0 l1 l2 → Sp p l0 l1 l2 x → Sp p l0 l1 l2 y →
    (h₀.objs.size + 1 + 1 + 1 + 1 + 1, o1) ∈ news → o1.data = Data.cell (some (.str x t)) → (h₀.objs.size + 1 + 1 + 1 + 1 + 1 + 1, o2) ∈ news → o2.data = Data.cell (some (.str y u)) →
    Fr h₀ env.locals hp m → News h₀ env.locals hp news →
    wpAny (model PySem.Challenge.rw_tp0048_02.row.prog w) A (execs body env) (BDone h₀ env.locals m news { sh with heap := hp, toks := tk } "prices") E { sh with heap := hp, toks := tk }
def TurnW (w : World) (A : Around) (E : Value → Shared → Prop) (env : Env) (h₀ : Heap) (sh : Shared) (st : Stmt) : Prop :=
  ∀ (p l0 l1 l2 y f : Int) (D : Addr) (vl : List Value) (n : Nat) (hp : Heap) (tk : Nat) (m : Str → Option Value) (news : List (Addr × Obj)),
    (0 ≤ l0 ∧ l0 < 26 ∧ 0 ≤ l1 ∧ l1 < 26 ∧ 0 ≤ l2 ∧ l2 < 26) → P4 p → StrsAre vl (insQ (Int.toNat p) (sgn l0 l1 l2 y f 0) (sgn l0 l1 l2 y f 1) (sgn l0 l1 l2 y f 2)) → (D, W.listOf vl.toArray n) ∈ news →
    Fr h₀ env.locals hp (fun z => if z = "signs" then some (.ref D) else m z) → News h₀ env.locals hp news →
    wpAny (model PySem.Challenge.rw_tp0048_02.row.prog w) A (exec st env) (TDoneN h₀ env.locals (fun z => if z = "signs" then some (.ref D) else m z) news { sh with heap := hp, toks := tk } "written" (Wr p (sgn l0 l1 l2 y f 0) (sgn l0 l1 l2 y f 1) (sgn l0 l1 l2 y f 2))) E { sh with heap := hp, toks := tk }
def TurnT (w : World) (A : Around) (E : Value → Shared → Prop) (env : Env) (h₀ : Heap) (sh : Shared) (st : Stmt) : Prop :=
  ∀ (p l0 l1 l2 y f : Int) (tw ty : Tok) (hp : Heap) (tk : Nat) (m : Str → Option Value) (news : List (Addr × Obj)),
    (0 ≤ l0 ∧ l0 < 26 ∧ 0 ≤ l1 ∧ l1 < 26 ∧ 0 ≤ l2 ∧ l2 < 26) → P4 p →
    Fr h₀ env.locals hp (fun z => if z = "written" then some (.str (Wr p (sgn l0 l1 l2 y f 0) (sgn l0 l1 l2 y f 1) (sgn l0 l1 l2 y f 2)) tw) else if z = "y" then some (.int y ty) else m z) → News h₀ env.locals hp news →
    wpAny (model PySem.Challenge.rw_tp0048_02.row.prog w) A (exec st env) (TDoneN h₀ env.locals (fun z => if z = "written" then some (.str (Wr p (sgn l0 l1 l2 y f 0) (sgn l0 l1 l2 y f 1) (sgn l0 l1 l2 y f 2)) tw) else if z = "y" then some (.int y ty) else m z) news { sh with heap := hp, toks := tk } "told" (toldF l0 l1 l2 p f y)) E { sh with heap := hp, toks := tk }
def TurnI (w : World) (A : Around) (E : Value → Shared → Prop) (env : Env) (h₀ : Heap) (sh : Shared) (st : Stmt) : Prop :=
  ∀ (p l0 l1 l2 y f : Int) (tt : Tok) (D Dw : Addr) (vl vw : List Value) (n nw : Nat) (ow : Obj) (hp : Heap) (tk : Nat) (m : Str → Option Value) (news : List (Addr × Obj)),
    (0 ≤ l0 ∧ l0 < 26 ∧ 0 ≤ l1 ∧ l1 < 26 ∧ 0 ≤ l2 ∧ l2 < 26) → StrsAre vl (insQ (Int.toNat p) (sgn l0 l1 l2 y f 0) (sgn l0 l1 l2 y f 1) (sgn l0 l1 l2 y f 2)) → (D, W.listOf vl.toArray n) ∈ news → StrsAre vw (insQ (Int.toNat p) (sgn l0 l1 l2 0 0 0) (sgn l0 l1 l2 0 0 1) (sgn l0 l1 l2 0 0 2)) → (Dw, W.listOf vw.toArray nw) ∈ news → (h₀.objs.size + 1 + 1 + 1 + 1, ow) ∈ news → ow.data = Data.cell (some (.ref Dw)) →
    Fr h₀ env.locals hp (fun z => if z = "told" then some (.str (toldF l0 l1 l2 p f y) tt) else if z = "signs" then some (.ref D) else m z) → News h₀ env.locals hp news →
    wpAny (model PySem.Challenge.rw_tp0048_02.row.prog w) A (exec st env) (NDone h₀ env.locals (fun z => if z = "told" then some (.str (toldF l0 l1 l2 p f y) tt) else if z = "signs" then some (.ref D) else m z) news { sh with heap := hp, toks := tk }) E { sh with heap := hp, toks := tk }
def TurnD (w : World) (A : Around) (E : Value → Shared → Prop) (env : Env) (h₀ : Heap) (sh : Shared) (st : Stmt) : Prop :=
  ∀ (p l0 l1 l2 i j1 j2 j3 : Int) (x y : Str) (t u ti : Tok) (o1 o2 oi : Obj) (hp : Heap) (tk : Nat) (m : Str → Option Value) (news : List (Addr × Obj)),
    (0 ≤ l0 ∧ l0 < 26 ∧ 0 ≤ l1 ∧ l1 < 26 ∧ 0 ≤ l2 ∧ l2 < 26) → Sp p l0 l1 l2 x → Sp p l0 l1 l2 y → HJ i j1 j2 j3 → (h₀.objs.size + 1 + 1 + 1 + 1 + 1, o1) ∈ news → o1.data = Data.cell (some (.str x t)) → (h₀.objs.size + 1 + 1 + 1 + 1 + 1 + 1, o2) ∈ news → o2.data = Data.cell (some (.str y u)) → (h₀.objs.size + 1 + 1 + 1, oi) ∈ news → oi.data = Data.cell (some (.int i ti)) →
    Fr h₀ env.locals hp m → News h₀ env.locals hp news →
    wpAny (model PySem.Challenge.rw_tp0048_02.row.prog w) A (exec st env) (IDoneN h₀ env.locals m news { sh with heap := hp, toks := tk } "due" (2 + (subCost (Txt.item x j1) (Txt.item y j1) + (subCost (Txt.item x j2) (Txt.item y j2) + (subCost (Txt.item x j3) (Txt.item y j3) + 0))))) E { sh with heap := hp, toks := tk }
def TurnQ (w : World) (A : Around) (E : Value → Shared → Prop) (env : Env) (h₀ : Heap) (sh : Shared) (st : Stmt) : Prop :=
  ∀ (p l0 l1 l2 i j1 j2 j3 : Int) (x y : Str) (t u ti td : Tok) (o1 o2 oi : Obj) (hp : Heap) (tk : Nat) (m : Str → Option Value) (news : List (Addr × Obj)),
    (0 ≤ l0 ∧ l0 < 26 ∧ 0 ≤ l1 ∧ l1 < 26 ∧ 0 ≤ l2 ∧ l2 < 26) → Dist3 l0 l1 l2 → Sp p l0 l1 l2 x → Sp p l0 l1 l2 y → HJ i j1 j2 j3 → (h₀.objs.size + 1 + 1 + 1 + 1 + 1, o1) ∈ news → o1.data = Data.cell (some (.str x t)) → (h₀.objs.size + 1 + 1 + 1 + 1 + 1 + 1, o2) ∈ news → o2.data = Data.cell (some (.str y u)) → (h₀.objs.size + 1 + 1 + 1, oi) ∈ news → oi.data = Data.cell (some (.int i ti)) →
    Fr h₀ env.locals hp (fun z => if z = "due" then some (.int (2 + (subCost (Txt.item x j1) (Txt.item y j1) + (subCost (Txt.item x j2) (Txt.item y j2) + (subCost (Txt.item x j3) (Txt.item y j3) + 0)))) td) else m z) → News h₀ env.locals hp news →
    wpAny (model PySem.Challenge.rw_tp0048_02.row.prog w) A (exec st env) (NDone h₀ env.locals (fun z => if z = "due" then some (.int (2 + (subCost (Txt.item x j1) (Txt.item y j1) + (subCost (Txt.item x j2) (Txt.item y j2) + (subCost (Txt.item x j3) (Txt.item y j3) + 0)))) td) else m z) news { sh with heap := hp, toks := tk }) E { sh with heap := hp, toks := tk }
def LDone (h₀ : Heap) (L : Addr) (s : Shared) (fl : Flow) (s' : Shared) : Prop :=
  ∃ (h' : Heap) (tk' : Nat) (m' : Str → Option Value), fl = .next ∧ s' = { s with heap := h', toks := tk' } ∧ Fr h₀ L h' m'
theorem LDone.intro {h₀ : Heap} {L : Addr} {s : Shared} {h' : Heap} {tk' : Nat} {m' : Str → Option Value} (F : Fr h₀ L h' m') : LDone h₀ L s .next { s with heap := h', toks := tk' } := ⟨h', tk', m', rfl, rfl, F⟩
def TurnLL (w : World) (A : Around) (E : Value → Shared → Prop) (env : Env) (h₀ : Heap) (sh : Shared) (st : Stmt) : Prop :=
  ∀ (p l0 l1 l2 : Int) (n1 n2 n3 : Str) (v1 v2 v3 : Tok) (Dn : Addr) (kn : Nat) (o1 o2 oi : Obj) (cc1 cc2 cci : Option Value) (hp : Heap) (tk : Nat) (m : Str → Option Value),
    (0 ≤ l0 ∧ l0 < 26 ∧ 0 ≤ l1 ∧ l1 < 26 ∧ 0 ≤ l2 ∧ l2 < 26) → Dist3 l0 l1 l2 → Sp p l0 l1 l2 n1 → Sp p l0 l1 l2 n2 → Sp p l0 l1 l2 n3 → @LT.lt Nat _ (h₀.objs.size + 1 + 1 + 1 + 1 + 1 + 1) Dn → oi.data = Data.cell cci → o1.data = Data.cell cc1 → o2.data = Data.cell cc2 →
    Fr h₀ env.locals hp (fun z => if z = "names" then some (.ref Dn) else m z) → News h₀ env.locals hp [(Dn, W.listOf #[.str n1 v1, .str n2 v2, .str n3 v3] kn), (h₀.objs.size + 1 + 1 + 1, oi), (h₀.objs.size + 1 + 1 + 1 + 1 + 1, o1), (h₀.objs.size + 1 + 1 + 1 + 1 + 1 + 1, o2)] →
    wpAny (model PySem.Challenge.rw_tp0048_02.row.prog w) A (exec st env) (LDone h₀ env.locals { sh with heap := hp, toks := tk }) E { sh with heap := hp, toks := tk }
def PDone (h₀ : Heap) (L : Addr) (Dn : Addr) (N : Addr × Obj) (oi : Obj) (s : Shared) (fl : Flow) (s' : Shared) : Prop :=
  ∃ (h' : Heap) (tk' : Nat) (m' : Str → Option Value) (o1 o2 : Obj) (cc1 cc2 : Option Value), fl = .next ∧ s' = { s with heap := h', toks := tk' } ∧ Fr h₀ L h' (fun z => if z = "names" then some (.ref Dn) else m' z) ∧ News h₀ L h' [N, (h₀.objs.size + 1 + 1 + 1, oi), (h₀.objs.size + 1 + 1 + 1 + 1 + 1, o1), (h₀.objs.size + 1 + 1 + 1 + 1 + 1 + 1, o2)] ∧ o1.data = Data.cell cc1 ∧ o2.data = Data.cell cc2
theorem PDone.intro {h₀ : Heap} {L Dn : Addr} {N : Addr × Obj} {oi : Obj} {s : Shared} {h' : Heap} {tk' : Nat} {m' : Str → Option Value} {o1 o2 : Obj} {cc1 cc2 : Option Value} (F : Fr h₀ L h' m') (hm : m' "names" = some (.ref Dn)) (N' : News h₀ L h' [N, (h₀.objs.size + 1 + 1 + 1, oi), (h₀.objs.size + 1 + 1 + 1 + 1 + 1, o1), (h₀.objs.size + 1 + 1 + 1 + 1 + 1 + 1, o2)]) (e1 : o1.data = Data.cell cc1) (e2 : o2.data = Data.cell cc2) : PDone h₀ L Dn N oi s .next { s with heap := h', toks := tk' } :=
  ⟨h', tk', m', o1, o2, cc1, cc2, rfl, rfl, Fr.named F hm, N', e1, e2⟩
def TurnPP (w : World) (A : Around) (E : Value → Shared → Prop) (env : Env) (h₀ : Heap) (sh : Shared) (st : Stmt) : Prop :=
  ∀ (p l0 l1 l2 : Int) (n1 n2 n3 : Str) (v1 v2 v3 : Tok) (Dn Dp q1 q2 q3 Dw : Addr) (kn kp k1 k2 k3 nw : Nat) (vw : List Value) (a1 b1 a2 b2 a3 b3 : Tok) (o1 o2 oi ow : Obj) (cc1 cc2 : Option Value) (hp : Heap) (tk : Nat) (m : Str → Option Value),
    (0 ≤ l0 ∧ l0 < 26 ∧ 0 ≤ l1 ∧ l1 < 26 ∧ 0 ≤ l2 ∧ l2 < 26) → Dist3 l0 l1 l2 → Sp p l0 l1 l2 n1 → Sp p l0 l1 l2 n2 → Sp p l0 l1 l2 n3 → P4 p → StrsAre vw (insQ (Int.toNat p) (sgn l0 l1 l2 0 0 0) (sgn l0 l1 l2 0 0 1) (sgn l0 l1 l2 0 0 2)) → OffNe Dw [(h₀.objs.size + 1 + 1 + 1 + 1 + 1, o1), (h₀.objs.size + 1 + 1 + 1 + 1 + 1 + 1, o2)] → @LT.lt Nat _ (h₀.objs.size + 1 + 1 + 1 + 1 + 1 + 1) Dn → @LT.lt Nat _ (Dn) q1 → @LT.lt Nat _ (q1) q2 → @LT.lt Nat _ (q2) q3 → @LT.lt Nat _ (q3) Dp → ow.data = Data.cell (some (.ref Dw)) → o1.data = Data.cell cc1 → o2.data = Data.cell cc2 →
    Fr h₀ env.locals hp (fun z => if z = "pairs" then some (.ref Dp) else if z = "names" then some (.ref Dn) else m z) → News h₀ env.locals hp [(Dp, W.listOf #[.ref q1, .ref q2, .ref q3] kp), (q3, W.listOf #[.str n3 a3, .str n1 b3] k3), (q2, W.listOf #[.str n2 a2, .str n3 b2] k2), (q1, W.listOf #[.str n1 a1, .str n2 b1] k1), (Dn, W.listOf #[.str n1 v1, .str n2 v2, .str n3 v3] kn), (Dw, W.listOf vw.toArray nw), (h₀.objs.size + 1 + 1 + 1, oi), (h₀.objs.size + 1 + 1 + 1 + 1, ow), (h₀.objs.size + 1 + 1 + 1 + 1 + 1, o1), (h₀.objs.size + 1 + 1 + 1 + 1 + 1 + 1, o2)] →
    wpAny (model PySem.Challenge.rw_tp0048_02.row.prog w) A (exec st env) (PDone h₀ env.locals Dn (Dn, W.listOf #[.str n1 v1, .str n2 v2, .str n3 v3] kn) oi { sh with heap := hp, toks := tk }) E { sh with heap := hp, toks := tk }
theorem with_turns {w : World} {A : Around} {E : Value → Shared → Prop} {env : Env} {s : Shared} {Q : Flow → Shared → Prop} {h₀ : Heap} {sh : Shared} {a0 a1 a2 a3 a4 a5 a6 b1 b2 b3 b4 b5 a8 c1 c2 c3 c4 a11 : Stmt} {tn in_ tg it tl il : PySem.Expr} {body on_ orl ol : List Stmt} {pn pos pl : Pos}
   (hW : TurnW w A E env h₀ sh b2) (hT : TurnT w A E env h₀ sh b3) (hI : TurnI w A E env h₀ sh b4) (hP : TurnP w A E env h₀ sh body) (hPP : TurnP w A E env h₀ sh body → TurnPP w A E env h₀ sh (.For tg it body orl pos)) (hD : TurnD w A E env h₀ sh c3) (hQ : TurnQ w A E env h₀ sh c4) (hLL : TurnD w A E env h₀ sh c3 → TurnQ w A E env h₀ sh c4 → TurnLL w A E env h₀ sh (.For tl il [c1, c2, c3, c4] ol pl))
   (on : TurnW w A E env h₀ sh b2 → TurnT w A E env h₀ sh b3 → TurnI w A E env h₀ sh b4 → TurnPP w A E env h₀ sh (.For tg it body orl pos) → TurnLL w A E env h₀ sh (.For tl il [c1, c2, c3, c4] ol pl) → wpAny (model PySem.Challenge.rw_tp0048_02.row.prog w) A (execs [a0, a1, a2, a3, a4, a5, a6, .For tn in_ [b1, b2, b3, b4, b5] on_ pn, a8, .For tg it body orl pos, .For tl il [c1, c2, c3, c4] ol pl, a11] env) Q E s) : wpAny (model PySem.Challenge.rw_tp0048_02.row.prog w) A (execs [a0, a1, a2, a3, a4, a5, a6, .For tn in_ [b1, b2, b3, b4, b5] on_ pn, a8, .For tg it body orl pos, .For tl il [c1, c2, c3, c4] ol pl, a11] env) Q E s := on hW hT hI (hPP hP) (hLL hD hQ)
theorem three_of {y : Int} : Int.fmod y 3 = 0 ∨ Int.fmod y 3 = 1 ∨ Int.fmod y 3 = 2 := by
  have := Int.fmod_nonneg_of_pos y (show (0 : Int) < 3 by decide)
  have := Int.fmod_lt_of_pos y (show (0 : Int) < 3 by decide)
  omega
theorem News.dropSnd {h₀ h : Heap} {L : Addr} {a b : Addr × Obj} {r : List (Addr × Obj)} (N : News h₀ L h (a :: b :: r)) : News h₀ L h (a :: r) :=
  kst_newsOf N fun p hp => by
    rcases List.mem_cons.mp hp with rfl | hp
    · exact .head _
    · exact .tail _ (.tail _ hp)
theorem off2 {D a b : Nat} {o1 o2 o1' o2' : Obj} {news : List (Addr × Obj)} (h : OffNe D news) (m1 : (a, o1) ∈ news) (m2 : (b, o2) ∈ news) : OffNe D [(a, o1'), (b, o2')] := fun p hp => by
  rcases List.mem_cons.mp hp with rfl | hp
  · show a ≠ D
    exact h (a, o1) m1
  · rcases List.mem_cons.mp hp with rfl | hp
    · show b ≠ D
      exact h (b, o2) m2
    · cases hp
def OnGoP (p : Prop) : Prop := p
theorem OnGoP.mk {p : Prop} (h : p) : OnGoP p := h
def OnGoL (p : Prop) : Prop := p
theorem OnGoL.mk {p : Prop} (h : p) : OnGoL p := h
theorem use_PP {w : World} {A : Around} {E : Value → Shared → Prop} {env : Env} {h₀ : Heap} {sh : Shared} {st : Stmt} {Q : Flow → Shared → Prop} {p l0 l1 l2 : Int} {n1 n2 n3 : Str} {v1 v2 v3 : Tok} {Dn Dp q1 q2 q3 Dw : Addr} {kn kp k1 k2 k3 nw : Nat} {vw : List Value} {a1 b1 a2 b2 a3 b3 : Tok} {o1 o2 oi ow : Obj} {cc1 cc2 : Option Value} {hp : Heap} {tk : Nat} {m : Str → Option Value} {led : List (Addr × Obj)}
   (hPP : TurnPP w A E env h₀ sh st) (F : Fr h₀ env.locals hp m) (e1 : m "pairs" = some (.ref Dp)) (e2 : m "names" = some (.ref Dn)) (N : News h₀ env.locals hp led)
   (m1 : (Dp, W.listOf #[.ref q1, .ref q2, .ref q3] kp) ∈ led) (m2 : (q3, W.listOf #[.str n3 a3, .str n1 b3] k3) ∈ led) (m3 : (q2, W.listOf #[.str n2 a2, .str n3 b2] k2) ∈ led) (m4 : (q1, W.listOf #[.str n1 a1, .str n2 b1] k1) ∈ led) (m5 : (Dn, W.listOf #[.str n1 v1, .str n2 v2, .str n3 v3] kn) ∈ led)
   (m8 : (h₀.objs.size + 1 + 1 + 1 + 1, ow) ∈ led) (hcw : ow.data = Data.cell (some (.ref Dw))) (m6 : (Dw, W.listOf vw.toArray nw) ∈ led) (m7 : (h₀.objs.size + 1 + 1 + 1, oi) ∈ led) (m9 : (h₀.objs.size + 1 + 1 + 1 + 1 + 1, o1) ∈ led) (m10 : (h₀.objs.size + 1 + 1 + 1 + 1 + 1 + 1, o2) ∈ led)
   (hc1 : o1.data = Data.cell cc1) (hc2 : o2.data = Data.cell cc2) (qw : StrsAre vw (insQ (Int.toNat p) (sgn l0 l1 l2 0 0 0) (sgn l0 l1 l2 0 0 1) (sgn l0 l1 l2 0 0 2))) (hL : (0 ≤ l0 ∧ l0 < 26 ∧ 0 ≤ l1 ∧ l1 < 26 ∧ 0 ≤ l2 ∧ l2 < 26)) (hD : Dist3 l0 l1 l2) (hP4 : P4 p) (s1 : Sp p l0 l1 l2 n1) (s2 : Sp p l0 l1 l2 n2) (s3 : Sp p l0 l1 l2 n3)
   (off : OffNe Dw [(h₀.objs.size + 1 + 1 + 1 + 1 + 1, o1), (h₀.objs.size + 1 + 1 + 1 + 1 + 1 + 1, o2)]) (lt1 : @LT.lt Nat _ (h₀.objs.size + 1 + 1 + 1 + 1 + 1 + 1) Dn) (lt2 : @LT.lt Nat _ Dn q1) (lt3 : @LT.lt Nat _ q1 q2) (lt4 : @LT.lt Nat _ q2 q3) (lt5 : @LT.lt Nat _ q3 Dp)
   (on : OnGoP (∀ (h' : Heap) (tk' : Nat) (u : Tok), ∀ (m' : Str → Option Value) (o1 o2 : Obj) (cc1 cc2 : Option Value), o1.data = Data.cell cc1 → o2.data = Data.cell cc2 → Fr h₀ env.locals h' (fun z => if z = "names" then some (.ref Dn) else m' z) → News h₀ env.locals h' [(Dn, W.listOf #[.str n1 v1, .str n2 v2, .str n3 v3] kn), (h₀.objs.size + 1 + 1 + 1, oi), (h₀.objs.size + 1 + 1 + 1 + 1 + 1, o1), (h₀.objs.size + 1 + 1 + 1 + 1 + 1 + 1, o2)] → Q .next { sh with heap := h', toks := tk' })) :
   wpAny (model PySem.Challenge.rw_tp0048_02.row.prog w) A (exec st env) Q E { sh with heap := hp, toks := tk } :=
  wpAny_mono (hPP p l0 l1 l2 n1 n2 n3 v1 v2 v3 Dn Dp q1 q2 q3 Dw kn kp k1 k2 k3 nw vw a1 b1 a2 b2 a3 b3 o1 o2 oi ow cc1 cc2 hp tk m hL hD s1 s2 s3 hP4 qw off lt1 lt2 lt3 lt4 lt5 hcw hc1 hc2 (Fr.named (Fr.named F e2) (by simp only [e1]; rfl))
      (kst_newsOf N fun p hp => by
        simp only [List.mem_cons, List.not_mem_nil, or_false] at hp
        rcases hp with rfl | rfl | rfl | rfl | rfl | rfl | rfl | rfl | rfl | rfl <;> assumption))
    (fun fl s' ⟨h', tk', m', o1, o2, cc1, cc2, e1, e2, F', N', d1, d2⟩ => by rw [e1, e2]; exact on h' tk' tk' m' o1 o2 cc1 cc2 d1 d2 F' N') fun _ _ e => e
theorem use_LL {w : World} {A : Around} {E : Value → Shared → Prop} {env : Env} {h₀ : Heap} {sh : Shared} {st : Stmt} {Q : Flow → Shared → Prop} {p l0 l1 l2 : Int} {n1 n2 n3 : Str} {v1 v2 v3 : Tok} {Dn : Addr} {kn : Nat} {o1 o2 oi : Obj} {cc1 cc2 cci : Option Value} {hp : Heap} {tk : Nat} {m : Str → Option Value}
   (hLL : TurnLL w A E env h₀ sh st) (F : Fr h₀ env.locals hp (fun z => if z = "names" then some (.ref Dn) else m z)) (N : News h₀ env.locals hp [(Dn, W.listOf #[.str n1 v1, .str n2 v2, .str n3 v3] kn), (h₀.objs.size + 1 + 1 + 1, oi), (h₀.objs.size + 1 + 1 + 1 + 1 + 1, o1), (h₀.objs.size + 1 + 1 + 1 + 1 + 1 + 1, o2)])
   (hci : oi.data = Data.cell cci) (hc1 : o1.data = Data.cell cc1) (hc2 : o2.data = Data.cell cc2) (hL : (0 ≤ l0 ∧ l0 < 26 ∧ 0 ≤ l1 ∧ l1 < 26 ∧ 0 ≤ l2 ∧ l2 < 26)) (hD : Dist3 l0 l1 l2) (s1 : Sp p l0 l1 l2 n1) (s2 : Sp p l0 l1 l2 n2) (s3 : Sp p l0 l1 l2 n3) (lt1 : @LT.lt Nat _ (h₀.objs.size + 1 + 1 + 1 + 1 + 1 + 1) Dn)
   (on : OnGoL (∀ (h' : Heap) (tk' : Nat) (u : Tok), ∀ (m' : Str → Option Value), Fr h₀ env.locals h' m' → News h₀ env.locals h' [] → Q .next { sh with heap := h', toks := tk' })) :
   wpAny (model PySem.Challenge.rw_tp0048_02.row.prog w) A (exec st env) Q E { sh with heap := hp, toks := tk } :=
  wpAny_mono (hLL p l0 l1 l2 n1 n2 n3 v1 v2 v3 Dn kn o1 o2 oi cc1 cc2 cci hp tk m hL hD s1 s2 s3 lt1 hci hc1 hc2 F N)
    (fun fl s' ⟨h', tk', m', e1, e2, F'⟩ => by rw [e1, e2]; exact on h' tk' tk' m' F' News.nil) fun _ _ e => e
local macro_rules | `(tactic| walk_at $s:str) => do `(tactic| k_extra $(Lean.Syntax.mkStrLit (s.getString ++ "!")))
theorem lawX : PySem.Challenge.rw_tp0048_02.Holds := by
  k_with_none
  (k_with "TDoneN!" => (k_here; refine' TDoneN.intro ?F ?N ?h; (case F => k_asm); (case N => first | k_asm | k_dflt (exact kst_newsOf (by k_asm) (by kst_inAny))); (case h => k_dflt (first | exact rfl | assumption | fail))))
  (k_with "NDone!" => (k_here; refine' NDone.intro ?F ?N; (case F => k_asm); (case N => first | k_asm | k_dflt (exact kst_newsOf (by k_asm) (by kst_inAny)))))
  (k_with "OnGoT!" => ((repeat (with_reducible rename Fr _ _ _ _ => z9; clear z9)); (repeat (with_reducible rename News _ _ _ _ => z9; clear z9)); refine OnGoT.mk ?_; intro hM tM uM FM NM; (try dsimp only)))
  (k_with "binaryOp Mult!" => (k_here; (with_reducible show wpAny _ _ (binaryOp Operator.Mult (Value.int 2 _) (Value.str ⟨#[34]⟩ _)) _ _ _); k_dflt (refine mul_is rfl ?_); intro t9 k9))
  (k_with "LCGOFF!" => first | assumption | k_dflt (simp only [LCg.Off3, and_true]; assumption) | exact True.intro | (refine And.intro ⟨by k_ne, by k_ne, by k_ne⟩ ?_; lcg_off))
  (k_with "binaryOp Add str str!" => (k_here; (with_reducible show wpAny _ _ (binaryOp Operator.Add (Value.str _ _) (Value.str _ _)) _ _ _); (refine SBL.add (hsz := ?hsz) ?_); (case hsz => k_dflt (first | (rw [PySem.sizeLine_eq]; omega) | (simp only [show (Str.ofString "\"").length = 1 from rfl, show (Str.ofString "\" ok").length = 4 from rfl, show (Str.ofString "\"\xad\"").length = 3 from rfl, PySem.sizeLine_eq]; omega) | fail)); intro _ _ _))
  (k_with "call ref!" => (k_here; (refine' SC.use (c_told _ _ _ _ _ _ _ _ _ ?he ?hl) ?F ?N ?X ?T ?S ?hp ?hh ?hd ?hu ?_); (case hl => with_reducible assumption); (case he => k_dflt (first | exact .inl (by decide +kernel) | exact .inr (.inl (by decide +kernel)) | exact .inr (.inr (by decide +kernel)))); (case F => k_asm); (case N => k_asm); (case hp => trivial); (case X => k_asm); (case T => k_asm); (case S => k_asm); (case hh => k_dflt (first | assumption | exact rfl)); (case hd => k_dflt (first | ktr_room | (show _ < _; simp only [Around.deeper]; first | exact Nat.le_of_ble_eq_true rfl | omega) | decide)); (case hu => k_dflt (first | ktr_units | (show _ < _; simp only [Around.deeper]; first | exact Nat.le_of_ble_eq_true rfl | omega) | decide)); intro v9 h9 tk9 hR9 F9 N9 K9; (obtain ⟨t9, e9⟩ := hR9); subst e9; (try dsimp only); (try k_fold)))
  (k_with "call ref!" => (k_here; (refine' SC.use (c_prepT _ _ _ _ _ _ _ _ ?hl) ?F ?N ?X ?T ?S ?hp ?hh ?hd ?hu ?_); (case hl => with_reducible assumption); (case F => k_asm); (case N => k_asm); (case hp => trivial); (case X => k_asm); (case T => k_asm); (case S => k_asm); (case hh => k_dflt (first | assumption | exact rfl)); (case hd => k_dflt (first | ktr_room | (show _ < _; simp only [Around.deeper]; first | exact Nat.le_of_ble_eq_true rfl | omega) | decide)); (case hu => k_dflt (first | ktr_units | (show _ < _; simp only [Around.deeper]; first | exact Nat.le_of_ble_eq_true rfl | omega) | decide)); intro v9 h9 tk9 hR9 F9 N9 K9; (obtain ⟨t9, e9⟩ := hR9); subst e9; (try dsimp only); (try k_fold)))
  (k_with "call builtin:str.join!" => (k_here; refine' join_listC ?l ?i ?sep ?fit ?_; (case l => k_dflt (exact News.isList (by k_asm) (by k_mem))); (case i => first | with_reducible assumption | k_dflt (first | exact .cons _ _ (.cons _ _ (.cons _ _ (.cons _ _ .nil))))); (case sep => decide); (case fit => first | exact fit_ins | k_dflt (exact Nat.le_of_ble_eq_true rfl)); intro t9 k9))
  (k_with "LTN!" => first | with_reducible assumption | with_reducible exact Nat.lt_add_one _ | (refine Nat.lt_add_right 1 ?_; with_reducible exact Nat.lt_add_one _) | (refine Nat.lt_add_right 1 ?_; refine Nat.lt_add_right 1 ?_; with_reducible exact Nat.lt_add_one _) | (refine Nat.lt_add_right 1 ?_; refine Nat.lt_add_right 1 ?_; refine Nat.lt_add_right 1 ?_; with_reducible exact Nat.lt_add_one _) | (refine Nat.lt_add_right 1 ?_; refine Nat.lt_add_right 1 ?_; refine Nat.lt_add_right 1 ?_; refine Nat.lt_add_right 1 ?_; with_reducible exact Nat.lt_add_one _) | (refine Nat.lt_add_right 1 ?_; refine Nat.lt_add_right 1 ?_; refine Nat.lt_add_right 1 ?_; refine Nat.lt_add_right 1 ?_; refine Nat.lt_add_right 1 ?_; with_reducible exact Nat.lt_add_one _) | with_reducible exact And.left (by with_reducible assumption) | with_reducible exact (And.right (by with_reducible assumption)) | with_reducible exact And.left (And.right (by with_reducible assumption)) | with_reducible exact (And.right (And.right (by with_reducible assumption))) | with_reducible exact And.left (And.right (And.right (by with_reducible assumption))) | with_reducible exact (And.right (And.right (And.right (by with_reducible assumption)))) | with_reducible exact And.left (And.right (And.right (And.right (by with_reducible assumption)))) | with_reducible exact (And.right (And.right (And.right (And.right (by with_reducible assumption))))) | with_reducible exact And.left (And.right (And.right (And.right (And.right (by with_reducible assumption))))) | with_reducible exact (And.right (And.right (And.right (And.right (And.right (by with_reducible assumption)))))) | with_reducible exact And.left (And.right (And.right (And.right (And.right (And.right (by with_reducible assumption)))))) | with_reducible exact (And.right (And.right (And.right (And.right (And.right (And.right (by with_reducible assumption))))))) | with_reducible exact And.left (And.right (And.right (And.right (And.right (And.right (And.right (by with_reducible assumption))))))) | with_reducible exact (And.right (And.right (And.right (And.right (And.right (And.right (And.right (by with_reducible assumption)))))))) | with_reducible exact And.left (And.right (And.right (And.right (And.right (And.right (And.right (And.right (by with_reducible assumption)))))))) | with_reducible exact (And.right (And.right (And.right (And.right (And.right (And.right (And.right (And.right (by with_reducible assumption))))))))) | with_reducible exact And.left (And.right (And.right (And.right (And.right (And.right (And.right (And.right (And.right (by with_reducible assumption))))))))) | with_reducible exact (And.right (And.right (And.right (And.right (And.right (And.right (And.right (And.right (And.right (by with_reducible assumption)))))))))) | with_reducible exact And.left (And.right (And.right (And.right (And.right (And.right (And.right (And.right (And.right (And.right (by with_reducible assumption)))))))))) | with_reducible exact (And.right (And.right (And.right (And.right (And.right (And.right (And.right (And.right (And.right (And.right (by with_reducible assumption))))))))))) | with_reducible exact And.left (And.right (And.right (And.right (And.right (And.right (And.right (And.right (And.right (And.right (And.right (by with_reducible assumption))))))))))) | with_reducible exact (And.right (And.right (And.right (And.right (And.right (And.right (And.right (And.right (And.right (And.right (And.right (by with_reducible assumption)))))))))))) | with_reducible exact And.left (And.right (And.right (And.right (And.right (And.right (And.right (And.right (And.right (And.right (And.right (And.right (by with_reducible assumption)))))))))))) | with_reducible exact (And.right (And.right (And.right (And.right (And.right (And.right (And.right (And.right (And.right (And.right (And.right (And.right (by with_reducible assumption))))))))))))) | with_reducible exact And.left (And.right (And.right (And.right (And.right (And.right (And.right (And.right (And.right (And.right (And.right (And.right (And.right (by with_reducible assumption))))))))))))) | with_reducible exact (And.right (And.right (And.right (And.right (And.right (And.right (And.right (And.right (And.right (And.right (And.right (And.right (And.right (by with_reducible assumption)))))))))))))) | with_reducible exact And.left (And.right (And.right (And.right (And.right (And.right (And.right (And.right (And.right (And.right (And.right (And.right (And.right (And.right (by with_reducible assumption)))))))))))))) | with_reducible exact (And.right (And.right (And.right (And.right (And.right (And.right (And.right (And.right (And.right (And.right (And.right (And.right (And.right (And.right (by with_reducible assumption))))))))))))))) | (refine Nat.lt_of_succ_lt ?_; with_reducible assumption) | (refine Nat.lt_of_succ_lt ?_; refine Nat.lt_of_succ_lt ?_; with_reducible assumption) | (refine Nat.lt_of_succ_lt ?_; refine Nat.lt_of_succ_lt ?_; refine Nat.lt_of_succ_lt ?_; with_reducible assumption) | (refine Nat.lt_of_succ_lt ?_; refine Nat.lt_of_succ_lt ?_; refine Nat.lt_of_succ_lt ?_; refine Nat.lt_of_succ_lt ?_; with_reducible assumption))
  (k_with "KNE!" => first | k_dflt (exact OffNe.l (by assumption) (by k_mem)) | k_dflt (exact OffNe.r (by assumption) (by k_mem)) | (refine neN ?_; (try dsimp only); first | (refine Nat.ne_of_lt ?_; walk_at "LTN") | (refine Nat.ne_of_gt ?_; walk_at "LTN") | omega) | k_dflt (refine neN ?_; (try dsimp only); (with_reducible rename HideNe _ => zO9); have zO8 := HideNe.out zO9; first | exact zO8.1 | exact zO8.1.symm | exact zO8.2.1 | exact zO8.2.1.symm | exact zO8.2.2.1 | exact zO8.2.2.1.symm | exact zO8.2.2.2.1 | exact zO8.2.2.2.1.symm | exact zO8.2.2.2.2.1 | exact zO8.2.2.2.2.1.symm | exact zO8.2.2.2.2.2.1 | exact zO8.2.2.2.2.2.1.symm | exact zO8.2.2.2.2.2.2 | exact zO8.2.2.2.2.2.2.symm | exact zO8.2.2.2.2.2.2.1 | exact zO8.2.2.2.2.2.2.1.symm | exact zO8.2.2.2.2.2.2.2 | exact zO8.2.2.2.2.2.2.2.symm))
  (k_with "call ref!" => (k_here; (refine' SC.use (c_spelledE _ _ _ _ _ _ _ _ _ _ _ ?hl ?hpl) ?F ?N ?X ?T ?S ?hp ?hh ?hd ?hu ?_); (case hl => with_reducible assumption); (case hpl => with_reducible assumption); (case F => k_asm); (case N => k_asm); (case hp => k_dflt (exact ⟨_, _, _, News.isList (by k_asm) (by k_mem)⟩)); (case X => k_asm); (case T => k_asm); (case S => k_asm); (case hh => k_dflt (first | assumption | exact rfl)); (case hd => k_dflt (first | ktr_room | (show _ < _; simp only [Around.deeper]; first | exact Nat.le_of_ble_eq_true rfl | omega) | decide)); (case hu => k_dflt (first | ktr_units | (show _ < _; simp only [Around.deeper]; first | exact Nat.le_of_ble_eq_true rfl | omega) | decide)); intro v9 h9 tk9 hR9 F9 N9 K9; k_dflt (obtain ⟨D9, vl9, n9, e9, N8, l9, q9⟩ := RL.news hR9 (by k_asm) (by k_asm) K9); subst e9; clear N9 hR9; (replace l9 := OffNe.mk l9); (try dsimp only); (try k_fold)))
  (k_with "call builtin:list.append!" => (k_here; (fail_if_success (with_reducible show wpAny _ _ (call (Value.builtin _) [Value.ref _, _]) _ _ _)); k_dflt (show wpAny _ _ (call (Value.builtin _) [Value.ref _, _]) _ _ _)))
  (k_with "BDone!" => (k_here; refine' BDone.intro ?F ?N; (case F => k_asm); (case N => first | k_asm | k_dflt (exact kst_newsOf (by k_asm) (by kst_inAny)))))
  (k_with "subscriptTail Name Name str int!" => (k_here; (refine' item4 ?hx ?i0 ?i1 ?_ ?hs ?ht); (case hx => with_reducible assumption); (case i0 => first | with_reducible assumption | k_dflt (decide)); (case i1 => first | (with_reducible exact lt4 (by assumption)) | k_dflt (decide)); (case hs => with_unfolding_all rfl); (case ht => (intro _; with_unfolding_all rfl)); intro _))
  (k_with "exec For Name Call cons nil!" => (k_here; (with_reducible show wpAny _ _ (exec (Stmt.For (Expr.Name (Str.ofString "i") _) _ _ _ _) _) _ _ _); (rename Fr _ _ _ _ => lF'); (with_unfolding_all refine' For_turns lF' ?_; k_whole)))
  (k_with "pyIter ref!" => (k_here; (with_reducible show wpAny _ _ (pyIter (Value.ref _)) (fun it s₂ => TurnsAt _ _ _ _ _ (Expr.Name _ _) _ _ _ it s₂) _ _); (rename IsRange _ _ _ _ _ _ _ _ => rgX); (rename Fr _ _ _ _ => lF'); (rename News _ _ _ _ => lN'); (with_unfolding_all refine iter_rangeTurns rfl rgX lF' lN' ?_); clear lF'; intro i' l1; (try k_lt l1)))
  (k_with "CompSrcT!" => (k_here; k_dflt (refine LCt.CompSrcT.range (n := 4) (by rfl) (by k_asm) (by k_asm) (by assumption) (by first | decide | rfl) (by first | rfl | decide) (by first | exact Nat.le_of_ble_eq_true rfl | size_fits) ?_; intro g')))
  (k_with "IDoneN!" => (k_here; refine' IDoneN.intro ?F ?N; (case F => k_asm); (case N => first | k_asm | k_dflt (exact kst_newsOf (by k_asm) (by kst_inAny)))))
  (k_with "call ref!" => (k_here; (refine' SC.use (c_priceS _ _ _ _ _ _ ?hl ?hx ?hy ?i0 ?i1) ?F ?N ?X ?T ?S ?hp ?hh ?hd ?hu ?_); (case hx => with_reducible assumption); (case hy => with_reducible assumption); (case hl => with_reducible assumption); (case i0 => first | with_reducible assumption | k_dflt (decide)); (case i1 => first | (with_reducible exact lt4 (by assumption)) | k_dflt (decide));  (case F => k_asm); (case N => k_asm); (case hp => trivial); (case X => k_asm); (case T => k_asm); (case S => k_asm); (case hh => k_dflt (first | assumption | exact rfl)); (case hd => k_dflt (first | ktr_room | (show _ < _; simp only [Around.deeper]; first | exact Nat.le_of_ble_eq_true rfl | omega) | decide)); (case hu => k_dflt (first | ktr_units | (show _ < _; simp only [Around.deeper]; first | exact Nat.le_of_ble_eq_true rfl | omega) | decide)); intro v9 h9 tk9 hR9 F9 N9 K9; (obtain ⟨t9, e9⟩ := hR9); subst e9; (try dsimp only); (try k_fold)))
  (k_with "call ref!" => (k_here; (refine' SC.use (c_subS _ _ _ _ _ _ ?hx ?hy ?i0 ?i1) ?F ?N ?X ?T ?S ?hp ?hh ?hd ?hu ?_); (case hx => with_reducible assumption); (case hy => with_reducible assumption); (case i0 => first | with_reducible assumption | k_dflt (decide)); (case i1 => first | (with_reducible exact lt4 (by assumption)) | k_dflt (decide));  (case F => k_asm); (case N => k_asm); (case hp => trivial); (case X => k_asm); (case T => k_asm); (case S => k_asm); (case hh => k_dflt (first | assumption | exact rfl)); (case hd => k_dflt (first | ktr_room | (show _ < _; simp only [Around.deeper]; first | exact Nat.le_of_ble_eq_true rfl | omega) | decide)); (case hu => k_dflt (first | ktr_units | (show _ < _; simp only [Around.deeper]; first | exact Nat.le_of_ble_eq_true rfl | omega) | decide)); intro v9 h9 tk9 hR9 F9 N9 K9; (obtain ⟨t9, e9⟩ := hR9); subst e9; (try dsimp only); (try k_fold)))
  (k_with "call ref!" => (k_here; (refine' SC.use (c_lev2 _ _ _ _ _ _ _ ?hl ?hd9 ?hx ?hy ?hm) ?F ?N ?X ?T ?S ?hp ?hh ?hd ?hu ?_); (case hx => with_reducible assumption); (case hy => with_reducible assumption); (case hl => with_reducible assumption); (case hd9 => with_reducible assumption); (case hm => k_dflt (first | exact sum_map4 | exact sumc_eq | (simp only [sc]; omega) | (simp [sc]; done)));  (case F => k_asm); (case N => k_asm); (case hp => trivial); (case X => k_asm); (case T => k_asm); (case S => k_asm); (case hh => k_dflt (first | assumption | exact rfl)); (case hd => k_dflt (first | ktr_room | (show _ < _; simp only [Around.deeper]; first | exact Nat.le_of_ble_eq_true rfl | omega) | decide)); (case hu => k_dflt (first | ktr_units | (show _ < _; simp only [Around.deeper]; first | exact Nat.le_of_ble_eq_true rfl | omega) | decide)); intro v9 h9 tk9 hR9 F9 N9 K9; (obtain ⟨k9, t9, e9, g9⟩ := hR9); subst e9; (try dsimp only); (try k_fold)))
  (k_with "call ref!" => (k_here; (refine' SC.use (c_lev1 _ _ _ _ _ _ _ ?hl ?hd9 ?hx ?hy ?hm) ?F ?N ?X ?T ?S ?hp ?hh ?hd ?hu ?_); (case hx => with_reducible assumption); (case hy => with_reducible assumption); (case hl => with_reducible assumption); (case hd9 => with_reducible assumption); (case hm => k_dflt (first | exact sum_map4 | exact sumc_eq | (simp only [sc]; omega) | (simp [sc]; done)));  (case F => k_asm); (case N => k_asm); (case hp => trivial); (case X => k_asm); (case T => k_asm); (case S => k_asm); (case hh => k_dflt (first | assumption | exact rfl)); (case hd => k_dflt (first | ktr_room | (show _ < _; simp only [Around.deeper]; first | exact Nat.le_of_ble_eq_true rfl | omega) | decide)); (case hu => k_dflt (first | ktr_units | (show _ < _; simp only [Around.deeper]; first | exact Nat.le_of_ble_eq_true rfl | omega) | decide)); intro v9 h9 tk9 hR9 F9 N9 K9; (obtain ⟨t9, e9⟩ := hR9); subst e9; (try dsimp only); (try k_fold)))
  (k_with "call ref!" => (k_here; (refine' SC.use (c_lev3' _ _ _ _ _ _ _ _ _ _ ?hl ?hd9 ?hx ?hy ?hj) ?F ?N ?X ?T ?S ?hp ?hh ?hd ?hu ?_); (case hx => with_reducible assumption); (case hy => with_reducible assumption); (case hl => with_reducible assumption); (case hd9 => with_reducible assumption); (case hj => k_dflt (decide));  (case F => k_asm); (case N => k_asm); (case hp => trivial); (case X => k_asm); (case T => k_asm); (case S => k_asm); (case hh => k_dflt (first | assumption | exact rfl)); (case hd => k_dflt (first | ktr_room | (show _ < _; simp only [Around.deeper]; first | exact Nat.le_of_ble_eq_true rfl | omega) | decide)); (case hu => k_dflt (first | ktr_units | (show _ < _; simp only [Around.deeper]; first | exact Nat.le_of_ble_eq_true rfl | omega) | decide)); intro v9 h9 tk9 hR9 F9 N9 K9; (obtain ⟨t9, e9⟩ := hR9); subst e9; (try dsimp only); (try k_fold)))
  (k_with "CompEnd!" => (k_dflt ((rename News _ _ _ _ => lNE); refine LCg.CompEnd.intro (by assumption) lNE _ (fun p hp => hp) (by lcg_off) (by lcg_src) ?_)))
  (k_with "MYDUE!" => ((rename TurnD _ _ _ _ _ _ _ => hTD9); (rename Fr _ _ _ _ => lF9); (rename News _ _ _ _ => lN9); k_dflt (refine' int_mergeN "due" lF9 lN9 (hTD9 _ _ _ _ _ _ _ _ _ _ _ _ _ _ _ _ _ _ _ _ ?hl ?sx ?sy ?hj ?m1 ?d1 ?m2 ?d2 ?m3 ?d3 lF9 lN9) ?_); (case m1 => k_dflt k_mem); (case d1 => k_asm); (case m2 => k_dflt k_mem); (case d2 => k_asm); (case m3 => k_dflt k_mem); (case d3 => k_asm); (case hl => with_reducible assumption); (case sx => with_reducible assumption); (case sy => with_reducible assumption); (case hj => first | exact HJ0 | exact HJ1 | exact HJ2 | exact HJ3)))
  (k_with "MYIF!" => ((rename TurnQ _ _ _ _ _ _ _ => hTQ9); (rename Fr _ _ _ _ => lF9); (rename News _ _ _ _ => lN9); k_dflt (refine' skip_mergeN lF9 lN9 (hTQ9 _ _ _ _ _ _ _ _ _ _ _ _ _ _ _ _ _ _ _ _ _ ?hl ?hd ?sx ?sy ?hj ?m1 ?d1 ?m2 ?d2 ?m3 ?d3 lF9 lN9) ?_); (case m1 => k_dflt k_mem); (case d1 => k_asm); (case m2 => k_dflt k_mem); (case d2 => k_asm); (case m3 => k_dflt k_mem); (case d3 => k_asm); (case hl => with_reducible assumption); (case hd => with_reducible assumption); (case sx => with_reducible assumption); (case sy => with_reducible assumption); (case hj => first | exact HJ0 | exact HJ1 | exact HJ2 | exact HJ3)))
  (k_with "LDone!" => (k_here; k_dflt (exact LDone.intro (by k_asm))))
  (k_with "exec For Tuple BinOp cons nil!" => (k_here; (rename Fr _ _ _ _ => lF'); (with_unfolding_all refine' For_turns lF' ?_; k_whole)))
  (k_with "MYTURN!" => ((rename TurnP _ _ _ _ _ _ _ => hTP9); (rename Fr _ _ _ _ => lF9); (rename News _ _ _ _ => lN9); k_dflt (refine' body_merge "prices" lF9 lN9 (hTP9 _ _ _ _ _ _ _ _ _ _ _ _ _ _ ?hl ?hd ?sx ?sy ?m1 ?d1 ?m2 ?d2 lF9 lN9) ?_); (case m1 => k_dflt k_mem); (case d1 => k_asm); (case m2 => k_dflt k_mem); (case d2 => k_asm); (case hl => with_reducible assumption); (case hd => with_reducible assumption); (case sx => with_reducible assumption); (case sy => with_reducible assumption)))
  (k_with "PDone!" => (k_here; (rename News _ _ _ _ => lN9); k_dflt (exact PDone.intro (by k_asm) rfl (kst_newsOf lN9 (by kst_inAny)) (by k_asm) (by k_asm))))
  (k_with "MYW!" => ((rename TurnW _ _ _ _ _ _ _ => hW9); (rename Fr _ _ _ _ => lF9); (rename News _ _ _ _ => lN9); k_dflt (refine' text_mergeN "written" _ (Fr.named (x := "signs") lF9 ?hv) lN9 (hW9 _ _ _ _ _ _ _ _ _ _ _ _ _ ?hl ?hp ?q ?hm (Fr.named (x := "signs") lF9 ?hv) lN9) ?_); (case hv => k_dflt (exact rfl)); (case hm => k_dflt k_mem); (case q => with_reducible assumption); (case hl => with_reducible assumption); (case hp => with_reducible assumption)))
  (k_with "MYT!" => ((rename TurnT _ _ _ _ _ _ _ => hT9); (rename Fr _ _ _ _ => lF9); (rename News _ _ _ _ => lN9); k_dflt (refine' text_mergeN "told" _ (Fr.named (x := "written") (Fr.named (x := "y") lF9 ?hy) ?hv) lN9 (hT9 _ _ _ _ _ _ _ _ _ _ _ _ ?hl ?hp (Fr.named (x := "written") (Fr.named (x := "y") lF9 ?hy) ?hv) lN9) ?_); (case hy => k_dflt (exact rfl)); (case hv => k_dflt (exact rfl)); (case hl => with_reducible assumption); (case hp => with_reducible assumption)))
  (k_with "MYI!" => ((rename TurnI _ _ _ _ _ _ _ => hI9); (rename Fr _ _ _ _ => lF9); (rename News _ _ _ _ => lN9); k_dflt (refine' skip_mergeN (Fr.named (x := "told") (Fr.named (x := "signs") lF9 ?hy) ?hv) lN9 (hI9 _ _ _ _ _ _ _ _ _ _ _ _ _ _ _ _ _ _ ?hl ?q ?m1 ?q2 ?m2 ?m3 ?dw (Fr.named (x := "told") (Fr.named (x := "signs") lF9 ?hy) ?hv) lN9) ?_); (case hy => k_dflt (exact rfl)); (case hv => k_dflt (exact rfl)); (case m1 => k_dflt k_mem); (case m3 => k_dflt k_mem); (case dw => k_asm); (case m2 => k_dflt k_mem); (case q => with_reducible assumption); (case q2 => with_reducible assumption); (case hl => with_reducible assumption)))
  (k_with "MYPP!" => ((rename TurnPP _ _ _ _ _ _ _ => hPP9); (rename Fr _ _ _ _ => lF9); (rename News _ _ _ _ => lN9); k_dflt (refine' use_PP hPP9 lF9 ?e1 ?e2 lN9 ?m1 ?m2 ?m3 ?m4 ?m5 ?m8 ?dw ?m6 ?m7 ?m9 ?m10 ?c1 ?c2 ?qw ?hl ?hd ?hp ?s1 ?s2 ?s3 ?off ?l1 ?l2 ?l3 ?l4 ?l5 ?_); (case e1 => k_dflt (exact rfl)); (case e2 => k_dflt (exact rfl)); (case m1 => k_dflt k_mem); (case m2 => k_dflt k_mem); (case m3 => k_dflt k_mem); (case m4 => k_dflt k_mem); (case m5 => k_dflt k_mem); (case m8 => k_dflt k_mem); (case dw => k_asm); (case m6 => k_dflt k_mem); (case m7 => k_dflt k_mem); (case m9 => k_dflt k_mem); (case m10 => k_dflt k_mem); (case c1 => k_asm); (case c2 => k_asm); (case qw => with_reducible assumption); (case hl => with_reducible assumption); (case hd => with_reducible assumption); (case hp => with_reducible assumption); (case s1 => exact told_sp (by with_reducible assumption)); (case s2 => exact told_sp (by with_reducible assumption)); (case s3 => exact told_sp (by with_reducible assumption)); (case off => k_dflt (exact off2 (by assumption) (by k_mem) (by k_mem))); (case l1 => omega); (case l2 => omega); (case l3 => omega); (case l4 => omega); (case l5 => omega)))
  (k_with "MYLL!" => ((rename TurnLL _ _ _ _ _ _ _ => hLL9); (rename Fr _ _ _ _ => lF9); (rename News _ _ _ _ => lN9); k_dflt (refine' use_LL hLL9 lF9 lN9 ?ci ?c1 ?c2 ?hl ?hd ?s1 ?s2 ?s3 ?l1 ?_); (case ci => k_asm); (case c1 => k_asm); (case c2 => k_asm); (case hl => with_reducible assumption); (case hd => with_reducible assumption); (case s1 => exact told_sp (by with_reducible assumption)); (case s2 => exact told_sp (by with_reducible assumption)); (case s3 => exact told_sp (by with_reducible assumption)); (case l1 => omega)))
  (k_with "OnGoP!" => ((repeat (with_reducible rename Fr _ _ _ _ => z9; clear z9)); (repeat (with_reducible rename News _ _ _ _ => z9; clear z9)); refine OnGoP.mk ?_; intro hM tM uM mM o1M o2M c1M c2M d1M d2M FM NM; (try dsimp only)))
  (k_with "OnGoL!" => ((repeat (with_reducible rename Fr _ _ _ _ => z9; clear z9)); (repeat (with_reducible rename News _ _ _ _ => z9; clear z9)); refine OnGoL.mk ?_; intro hM tM uM mM FM NM; (try dsimp only)))
  (k_with "exec For Tuple BinOp cons nil!" => (k_here; walk_at "MYPP"))
  (k_with "exec For Name Call cons nil!" => (k_here; walk_at "MYLL"))
  refine hd ?_
  k_fill
  intro w s₀ s₁ mg mb G Y fa o pm cd doc dV kV ho hd hcd hD hmg hg args vals as hpre hlay hrd hwl hlo
  have KX := kIn_of Y.1
  have S54 := Y.2
  have X := (Ground.X G).1
  have V := (Ground.X G).2
  refine Ground.open G ?_
  intro T B D TE TW
  try (refine guard_noD D (by decide +kernel) ?_; clear D)
  obtain ⟨_, _, M⟩ := bmod_of_top T
  have TA := at_of_top T
  try (obtain ⟨_, _, he, B0⟩ := based_of_top T rfl hmg ho hd; have he' : cd = _ := he; subst he'; clear he)
  clear hmg
  wrow_args hpre hlay hrd hwl hlo
  refine enter_call ?_
  w_top on
  try refine codeAny_mono ?_ (fun _ _ g => GoodW.toG g)
  have K0 := below_caller (Top.heap T)
  w_call any ho hd hcd hD T F
  clear hd TA
  k_drop
  refine with_turns (h₀ := s₁.heap) (sh := s₁) ?hW ?hT ?hI ?hP ?hPP ?hD ?hQ ?hLL ?on
  case hW =>
    (repeat (with_reducible rename Fr _ _ _ _ => z9; clear z9)); (repeat (with_reducible rename News _ _ _ _ => z9; clear z9)); (repeat (with_reducible rename CellsAre _ _ _ => z9; clear z9)); (repeat (rename Data.cell (bindC _ _ _ _) = _ => z9; clear z9))
    intro p l0 l1 l2 y f D vl n hp tk m news hL3 hP4 q7 hm F N
    have N1 := News.add N hm; clear N hm
    have nq0 : (sgn l0 l1 l2 y f 0 == Str.ofString "\"") = false := sgn_noq hL3
    have nq1 : (sgn l0 l1 l2 y f 1 == Str.ofString "\"") = false := sgn_noq hL3
    have nq2 : (sgn l0 l1 l2 y f 2 == Str.ofString "\"") = false := sgn_noq hL3
    unfold P4 at hP4
    rcases hP4 with e8 | e8 | e8 | e8 <;> subst e8 <;> (obtain ⟨v0, v1, v2, v3, eV⟩ := strs_ins q7) <;> subst eV
    all_goals (try dsimp only)
    k_steps
  case hT =>
    (repeat (with_reducible rename Fr _ _ _ _ => z9; clear z9)); (repeat (with_reducible rename News _ _ _ _ => z9; clear z9)); (repeat (with_reducible rename CellsAre _ _ _ => z9; clear z9)); (repeat (rename Data.cell (bindC _ _ _ _) = _ => z9; clear z9))
    intro p l0 l1 l2 y f tw ty hp tk m news hL3 hP4 F N
    have hWl := Wr_len (p := p) (l0 := l0) (l1 := l1) (l2 := l2) (y := y) (f := f)
    have h257 := l257
    try dsimp only
    (k_with "subscriptTail" => ((with_reducible show wpAny _ _ (subscriptTail _ _ (Value.ref _) (Value.int (Int.fmod y 3) _)) _ _ _); (rcases (three_of (y := y)) with e3 | e3 | e3 <;> rw [e3])))
    k_steps
  case hI =>
    (repeat (with_reducible rename Fr _ _ _ _ => z9; clear z9)); (repeat (with_reducible rename News _ _ _ _ => z9; clear z9)); (repeat (with_reducible rename CellsAre _ _ _ => z9; clear z9)); (repeat (rename Data.cell (bindC _ _ _ _) = _ => z9; clear z9))
    intro p l0 l1 l2 y f tt D Dw vl vw n nw ow hp tk m news hL3 q7 hm q8 hm2 hm3 hc F N
    have N1 := News.add (News.add (News.add N hm3) (List.mem_cons_of_mem _ hm2)) (List.mem_cons_of_mem _ (List.mem_cons_of_mem _ hm)); clear N hm hm2 hm3
    have hne0 : (toldF l0 l1 l2 p f y != Txt.join (Str.ofString "") (insQ (Int.toNat p) (sgn l0 l1 l2 y f 0) (sgn l0 l1 l2 y f 1) (sgn l0 l1 l2 y f 2))) = false := ne_false_of rfl
    have hne1 : (toldF l0 l1 l2 p 0 0 != Txt.join (Str.ofString "") (insQ (Int.toNat p) (sgn l0 l1 l2 0 0 0) (sgn l0 l1 l2 0 0 1) (sgn l0 l1 l2 0 0 2))) = false := ne_false_of rfl
    try dsimp only
    k_steps
  case hP =>
    (repeat (with_reducible rename Fr _ _ _ _ => z9; clear z9)); (repeat (with_reducible rename News _ _ _ _ => z9; clear z9)); (repeat (with_reducible rename CellsAre _ _ _ => z9; clear z9)); (repeat (rename Data.cell (bindC _ _ _ _) = _ => z9; clear z9))
    intro p l0 l1 l2 x y t u hp tk m news o1 o2 hL3 hD3 hS1 hS2 hm1 hc1 hm2 hc2 F N
    have N1 := News.add (News.add N hm2) (List.mem_cons_of_mem _ hm1); clear N hm1 hm2
    have hN1 := hS1.len; have hN2 := hS2.len
    try dsimp only
    k_steps
    all_goals (exfalso; rename (_ : Int) ≠ _ => zz; exact zz rfl)
  case hPP =>
    (repeat (with_reducible rename Fr _ _ _ _ => z9; clear z9)); (repeat (with_reducible rename News _ _ _ _ => z9; clear z9)); (repeat (with_reducible rename CellsAre _ _ _ => z9; clear z9)); (repeat (rename Data.cell (bindC _ _ _ _) = _ => z9; clear z9))
    intro hTP p l0 l1 l2 n1 n2 n3 v1 v2 v3 Dn Dp q1 q2 q3 Dw kn kp k1 k2 k3 nw vw a1 b1 a2 b2 a3 b3 o1 o2 oi ow cc1 cc2 hp tk m hL3 hD3 hS1 hS2 hS3 hP4 q7 hlt0 hlt1 hlt2 hlt3 hlt4 hlt5 hcw hc1 hc2 F N
    have hSw : Sp p l0 l1 l2 (Txt.join (Str.ofString "") (insQ (Int.toNat p) (sgn l0 l1 l2 0 0 0) (sgn l0 l1 l2 0 0 1) (sgn l0 l1 l2 0 0 2))) := told_sp hL3
    try dsimp only
    (k_with "execs cons" => ((with_reducible show wpAny _ _ (execs (Stmt.Assign [Expr.Name (Str.ofString "prices") _] _ _ :: _) _) _ _ _); walk_at "MYTURN"))
    (k_with "pyIter ref" => ((with_reducible rename News _ _ _ (_ :: (_, LCg.lst _) :: _) => lN8); have lN7 := News.dropSnd lN8; clear lN8; (repeat (with_reducible rename (_ ≠ _ ∧ _) => z9; clear z9)); (repeat (with_reducible rename ((_ ≠ _ ∧ _) ∧ _) => z9; clear z9))))
    k_steps
  case hD =>
    (repeat (with_reducible rename Fr _ _ _ _ => z9; clear z9)); (repeat (with_reducible rename News _ _ _ _ => z9; clear z9)); (repeat (with_reducible rename CellsAre _ _ _ => z9; clear z9)); (repeat (rename Data.cell (bindC _ _ _ _) = _ => z9; clear z9))
    intro p l0 l1 l2 i j1 j2 j3 x y t u ti o1 o2 oi hp tk m news hL3 hS1 hS2 hj hm1 hc1 hm2 hc2 hm3 hc3 F N
    have N1 := News.add (News.add (News.add N hm3) (List.mem_cons_of_mem _ hm2)) (List.mem_cons_of_mem _ (List.mem_cons_of_mem _ hm1)); clear N hm1 hm2 hm3
    have hN1 := hS1.len; have hN2 := hS2.len
    unfold HJ at hj
    rcases hj with ⟨rfl, rfl, rfl, rfl⟩ | ⟨rfl, rfl, rfl, rfl⟩ | ⟨rfl, rfl, rfl, rfl⟩ | ⟨rfl, rfl, rfl, rfl⟩
    all_goals (try dsimp only)
    k_steps
  case hQ =>
    (repeat (with_reducible rename Fr _ _ _ _ => z9; clear z9)); (repeat (with_reducible rename News _ _ _ _ => z9; clear z9)); (repeat (with_reducible rename CellsAre _ _ _ => z9; clear z9)); (repeat (rename Data.cell (bindC _ _ _ _) = _ => z9; clear z9))
    intro p l0 l1 l2 i j1 j2 j3 x y t u ti td o1 o2 oi hp tk m news hL3 hD3 hS1 hS2 hj hm1 hc1 hm2 hc2 hm3 hc3 F N
    have N1 := News.add (News.add (News.add N hm3) (List.mem_cons_of_mem _ hm2)) (List.mem_cons_of_mem _ (List.mem_cons_of_mem _ hm1)); clear N hm1 hm2 hm3
    have hN1 := hS1.len; have hN2 := hS2.len
    unfold HJ at hj
    rcases hj with ⟨rfl, rfl, rfl, rfl⟩ | ⟨rfl, rfl, rfl, rfl⟩ | ⟨rfl, rfl, rfl, rfl⟩ | ⟨rfl, rfl, rfl, rfl⟩
    all_goals (try dsimp only)
    k_steps
    all_goals (exfalso; rename (_ : Int) ≠ _ => zz; exact zz rfl)
  case hLL =>
    (repeat (with_reducible rename Fr _ _ _ _ => z9; clear z9)); (repeat (with_reducible rename News _ _ _ _ => z9; clear z9)); (repeat (with_reducible rename CellsAre _ _ _ => z9; clear z9)); (repeat (rename Data.cell (bindC _ _ _ _) = _ => z9; clear z9))
    intro hTD hTQ p l0 l1 l2 n1 n2 n3 v1 v2 v3 Dn kn o1 o2 oi cc1 cc2 cci hp tk m hL3 hD3 hS1 hS2 hS3 hlt hci hc1 hc2 F N
    have hN1 := hS1.len; have hN2 := hS2.len; have hN3 := hS3.len
    try dsimp only
    (k_with "exec Assign" => ((with_reducible show wpAny _ _ (exec (Stmt.Assign [Expr.Name (Str.ofString "due") _] _ _) _) _ _ _); (fail_if_success (with_reducible show wpAny _ _ _ (IDoneN _ _ _ _ _ _ _) _ _)); walk_at "MYDUE"))
    (k_with "exec If" => (walk_at "MYIF"))
    k_steps
  case on =>
    intro hW hT hI hPP hLL
    try dsimp only
    (k_with "subscriptTail" => ((with_reducible show wpAny _ _ (subscriptTail (Expr.List _ _) (PySem.Expr.Slice _ _ none _) (Value.ref _) (Value.ref _)) _ _ _); refine kba_turn (value' := PySem.Expr.Name (PySem.Str.ofString "_") ⟨0, 0, 0, 0⟩) (fun _ => rfl) ?_; k_here; refine' kmk_slice_ints (s := ⟨_, _, _, _, _⟩) ?kqF ?kqN ?kql ?kqp ?kqq ?kqi ?kqm ?kqc ?_ ?kqs ?kqt ?kqz; (case kqF => k_asm); (case kqN => k_asm); (case kql => kmk_list); (case kqp => kmk_part); (case kqq => kmk_part); (case kqi => l_ints); (case kqm => exact kmk_from (by l_ints) (Int.natCast_nonneg _)); (case kqc => exact rfl); (case kqs => with_unfolding_all rfl); (case kqt => kmk_pure); (case kqz => kmk_size); intro D' ws' h' F' N' l1 hI' hC' hL'; (try k_lt l1); (try k_sweep)))
    (k_with "execs cons" => first
      | ((with_reducible show wpAny _ _ (execs (Stmt.Assign [Expr.Name (Str.ofString "start") _] _ _ :: _) _) _ _ _); (with_reducible rename IntsAre _ (_ ++ _) => hJ); obtain ⟨d0, d1, d2, d3, u0, u1, u2, u3, eJ, hd0, hd1, hd2, hd3⟩ := four_of hJ; subst eJ; clear hJ; (rename News _ _ _ _ => N5); (have N6 := News.drop5 N5); clear N5; (repeat (with_reducible rename (_ ≠ _ ∧ _) => z9; clear z9)))
      | ((with_reducible show wpAny _ _ (execs (Stmt.Assign [Expr.Name (Str.ofString "word") _] _ _ :: _) _) _ _ _); (with_reducible rename IntsAre _ (List.map _ (rangeKs _ _)) => hJ); obtain ⟨l0, l1, l2, u4, u5, u6, eJ, hL3, hD3⟩ := let_of hJ; subst eJ; clear hJ; (generalize hst : List.getD [d0, d1, d2, d3] _ _ = st at *); clear hst; (generalize hpe : Int.fmod (Int.fdiv _ 156) 4 = p at *); (have hP4 : P4 p := by (rw [← hpe]; exact four_p)); clear hpe; (with_reducible rename (_ ≠ _ ∧ _) => zO); (replace zO := HideNe.mk zO)))
    (k_with "exec Assign" => first
      | ((with_reducible show wpAny _ _ (exec (Stmt.Assign [Expr.Name (Str.ofString "written") _] _ _) _) _ _ _); walk_at "MYW")
      | ((with_reducible show wpAny _ _ (exec (Stmt.Assign [Expr.Name (Str.ofString "told") _] _ _) _) _ _ _); walk_at "MYT"))
    (k_with "exec If" => (walk_at "MYI"))
    (k_with "pyIter ref" => (k_of "y" => fail "no"))
    k_steps

end Mine
theorem PySem.Challenge.cw_tp0048_02_holds : PySem.Challenge.rw_tp0048_02.Holds := by
  exact Mine.lawX
