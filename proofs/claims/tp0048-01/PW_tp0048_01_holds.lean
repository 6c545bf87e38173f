import PyProof.Rows.All
import Wide.All
import OpenK.AllK
import Wide.FinOn
import Lean
import PySem.Challenge.RW_tp0048_01
open PySem PySem.W PyProof.Rows
set_option Elab.async false
set_option maxRecDepth 100000
set_option maxHeartbeats 0
set_option linter.unusedVariables false
set_option linter.unusedSimpArgs false
namespace Mine

abbrev fr0 : List Frame := [topFrame ⟨0, 0, 0, 0⟩]

/-- from a tree x at s the run comes, in at most N steps, to the value a at s' (whatever stands behind x) -/
def Go (pw : Program) (w : World) (c : Code) {α : Type} (x : Sem α) (s : Shared) (N : Nat) (a : α) (s' : Shared) : Prop :=
  ∀ (K : α → Sem Fin) (H : Value → Sem Fin) (gd : Bool → Bool) (lv : List Value → List Value) (pos : Pos), ∃ n pos', n ≤ N ∧
    segGo treeTable pw w 11 (some (.ref 6)) 1 n s ⟨x.wrap K H gd lv, c, pos, fr0⟩ = some (s', ⟨K a, c, pos', fr0⟩)

section
variable {pw : Program} {w : World} {c : Code} {α β : Type} {s s₁ s₂ : Shared} {N M : Nat}

theorem segGo_add {t₁ t₂ : Thread} : ∀ {n m : Nat} {s : Shared} {t : Thread}, segGo treeTable pw w 11 (some (.ref 6)) 1 n s t = some (s₁, t₁) → segGo treeTable pw w 11 (some (.ref 6)) 1 m s₁ t₁ = some (s₂, t₂) →
    segGo treeTable pw w 11 (some (.ref 6)) 1 (n + m) s t = some (s₂, t₂)
  | 0, m, s, t, h, k => by
    simp only [segGo, Option.some.injEq, Prod.mk.injEq] at h
    obtain ⟨rfl, rfl⟩ := h
    rw [Nat.zero_add]; exact k
  | n + 1, m, s, t, h, k => by
    rw [show n + 1 + m = (n + m) + 1 by omega]
    unfold segGo at h ⊢
    cases he : endAt 1 t with
    | some f => rw [he] at h; cases h
    | none =>
      rw [he] at h
      cases hk : stepOk 11 (some (.ref 6)) t with
      | false => rw [hk] at h; cases h
      | true =>
        rw [hk] at h
        cases hs : step (denote treeTable) pw w s t with
        | halt o q => rw [hs] at h; cases h
        | go q r =>
          rw [hs] at h
          exact segGo_add h k

theorem Go.pure (a : α) : Go pw w c (pure a) s 0 a s := fun K H gd lv pos => ⟨0, pos, Nat.le_refl _, rfl⟩
theorem Go.le {x : Sem α} {a : α} (h : Go pw w c x s N a s₁) (l : N ≤ M) : Go pw w c x s M a s₁ := fun K H gd lv pos =>
  let ⟨n, p, h1, h2⟩ := h K H gd lv pos; ⟨n, p, Nat.le_trans h1 l, h2⟩
theorem Go.bind {x : Sem α} {f : α → Sem β} {a : α} {b : β} (h : Go pw w c x s N a s₁) (k : Go pw w c (f a) s₁ M b s₂) : Go pw w c (x >>= f) s (N + M) b s₂ := fun K H gd lv pos => by
  obtain ⟨n, p, h1, h2⟩ := h (fun a => (f a).wrap K H gd lv) H gd lv pos
  obtain ⟨m, q, h3, h4⟩ := k K H gd lv p
  refine ⟨n + m, q, Nat.add_le_add h1 h3, ?_⟩
  have e : Sem.wrap K H gd lv (x >>= f) = Sem.wrap (fun a => Sem.wrap K H gd lv (f a)) H gd lv x := by
    rw [Sem.bind_eq_wrap', Sem.wrap_wrap]
    rfl
  rw [e]
  exact segGo_add h2 h4
theorem Go.map {x : Sem α} {f : α → β} {a : α} (h : Go pw w c x s N a s₁) : Go pw w c (f <$> x) s N (f a) s₁ := by
  have e : (f <$> x) = x >>= fun a => Pure.pure (f a) := rfl
  rw [e]
  exact Go.le (Go.bind h (Go.pure _)) (Nat.le_refl _)
theorem Go.onRaise {x : Sem α} {h : Value → Sem Unit} {a : α} (k : Go pw w c x s N a s₁) : Go pw w c (x.onRaise h) s N a s₁ := fun K H gd lv pos => by
  rw [Sem.onRaise_eq_wrap, Sem.wrap_wrap]
  exact k _ _ _ _ pos
theorem Go.keep {x : Sem α} {vs : List Value} {a : α} (k : Go pw w c x s N a s₁) : Go pw w c (x.keep vs) s N a s₁ := fun K H gd lv pos => by
  rw [Sem.keep_eq_wrap, Sem.wrap_wrap]
  exact k _ _ _ _ pos
theorem Go.holding {x : Sem α} {vs : List Value} {a : α} (k : Go pw w c x s N a s₁) : Go pw w c (holding vs x) s N a s₁ := by
  unfold PySem.holding
  split
  · exact k
  · exact Go.keep k
theorem Go.load {a : Addr} {o : Obj} (h : s.heap.get? a = some o) : Go pw w c (load a) s 1 o s := fun K H gd lv pos => ⟨1, pos, Nat.le_refl _, by
  show (match step (denote treeTable) pw w s ⟨.load a none fun x => K x, c, pos, fr0⟩ with | .go s' t' => some (s', t') | .halt _ _ => none) = _
  simp only [step, h]⟩
theorem Go.loadPart {a : Addr} {p : Option Value} {o : Obj} (h : s.heap.get? a = some o) : Go pw w c (loadPart a p) s 1 o s := fun K H gd lv pos => ⟨1, pos, Nat.le_refl _, by
  show (match step (denote treeTable) pw w s ⟨.load a p fun x => K x, c, pos, fr0⟩ with | .go s' t' => some (s', t') | .halt _ _ => none) = _
  simp only [step, h]⟩
theorem Go.updatePart {a : Addr} {p : Option Value} {f : Obj → Obj} {o : Obj} (h : s.heap.get? a = some o) (l : 11 ≤ a) : Go pw w c (updatePart a p f) s 1 () { s with heap := s.heap.update a f } := fun K H gd lv pos => ⟨1, pos, Nat.le_refl _, by
  have ok : stepOk 11 (some (.ref 6)) ⟨.update a p f fun x => K x, c, pos, fr0⟩ = true := by
    have : Nat.ble 11 a = true := Nat.ble_eq_true_of_le l
    show (true && (Nat.ble 11 a || a == mainNs || a == cStatics || (some (Value.ref 6)) == some (.ref a))) = true
    rw [this]; rfl
  show (match stepOk 11 (some (.ref 6)) ⟨.update a p f fun x => K x, c, pos, fr0⟩ with
    | false => none
    | true => match step (denote treeTable) pw w s ⟨.update a p f fun x => K x, c, pos, fr0⟩ with | .go s' t' => some (s', t') | .halt _ _ => none) = _
  rw [ok]
  simp only [step, h, Option.isSome_some, if_true]⟩
theorem Go.alloc {o : Obj} : Go pw w c (alloc o) s 1 s.heap.objs.size { s with heap := s.heap.push o } := fun K H gd lv pos => ⟨1, pos, Nat.le_refl _, rfl⟩
theorem Go.fresh : Go pw w c fresh s 1 s.toks { s with toks := s.toks + 1 } := fun K H gd lv pos => ⟨1, pos, Nat.le_refl _, rfl⟩
theorem Go.rule (t : String) : Go pw w c (rule t) s 1 () s := fun K H gd lv pos => ⟨1, pos, Nat.le_refl _, rfl⟩
theorem Go.standAt (p : Pos) : Go pw w c (standAt p) s 1 () s := fun K H gd lv pos => ⟨1, p, Nat.le_refl _, rfl⟩
theorem Go.mkInt (i : Int) : Go pw w c (mkInt i) s 1 (.int i s.toks) { s with toks := s.toks + 1 } := fun K H gd lv pos => ⟨1, pos, Nat.le_refl _, rfl⟩
theorem Go.mkText (x : Str) : Go pw w c (mkText x) s 1 (.str x s.toks) { s with toks := s.toks + 1 } := fun K H gd lv pos => ⟨1, pos, Nat.le_refl _, rfl⟩
end
end Mine
namespace Mine
section
variable {pw : Program} {w : World} {c : Code} {α β : Type} {s s₁ s₂ : Shared} {N M : Nat}

def hashOf (x : Int) : Int :=
  let h : Int := ((x.natAbs % (2 ^ 61 - 1 : Nat) : Nat) : Int)
  let h := if x < 0 then -h else h
  (if h == -1 then -2 else h)

theorem hashOf_small {x : Int} (h0 : 0 ≤ x) (h1 : x < 2000000) : hashOf x = x := by
  obtain ⟨n, rfl⟩ := Int.eq_ofNat_of_zero_le h0
  have hn : n < 2000000 := by omega
  unfold hashOf
  have e : (n : Int).natAbs % (2 ^ 61 - 1 : Nat) = n := by
    rw [Int.natAbs_natCast]
    exact Nat.mod_eq_of_lt (Nat.lt_of_lt_of_le hn (by decide))
  rw [e]
  dsimp only
  rw [if_neg (show ¬ ((n : Int) < 0) by omega)]
  have : ((n : Int) == -1) = false := by rw [beq_eq_false_iff_ne]; omega
  rw [this]; rfl

theorem Go.callHash (x : Int) (t : Tok) (X : Sem Value) : Go pw w c (callSpecialIfBoundUnlessNone? (.int x t) "__hash__" X) s 5 (some (.int (hashOf x) s.toks)) { s with toks := s.toks + 1 } := fun K H gd lv pos => ⟨5, pos, Nat.le_refl _, by
  refine byRow2 "special-get-raises" (P := fun w => segGo treeTable pw w 11 (some (.ref 6)) 1 5 s ⟨Sem.wrap K H gd lv (callSpecialIfBoundUnlessNone? (.int x t) "__hash__" X), c, pos, fr0⟩ = some ({ s with toks := s.toks + 1 }, ⟨K (some (.int (hashOf x) s.toks)), c, pos, fr0⟩)) (fun w => ?_) (fun w => ?_) w
  · rw [PySem.W.Fast.te3277212676724774461, PySem.W.Fast.te14364793385576792824, PySem.W.Fast.te16697807410369149715]; kernel_rfl
  · rw [PySem.W.Fast.te3277212676724774461, PySem.W.Fast.te14364793385576792824, PySem.W.Fast.te16697807410369149715]; kernel_rfl⟩

theorem special_hash (x : Int) (t : Tok) : specialOf (.int x t) "__hash__" = pure (some (.builtin "int.__hash__")) := by
  rw [PySem.W.Fast.te4214721358667687652]; kernel_rfl
theorem Go.pyHash (x : Int) (t : Tok) (h0 : 0 ≤ x) (h1 : x < 2000000) : Go pw w c (pyHash (.int x t)) s 5 x { s with toks := s.toks + 1 } := by
  show Go pw w c (pyHashByItsType (.int x t)) s 5 x _
  unfold pyHashByItsType
  refine Go.le (Go.bind (Go.pure ()) (N := 0) (M := 5) ?_) (by omega)
  rw [special_hash]
  refine Go.le (Go.bind (Go.pure _) (N := 0) (M := 5) ?_) (by omega)
  refine Go.le (Go.bind (Go.pure _) (N := 0) (M := 5) ?_) (by omega)
  refine Go.le (Go.bind (Go.callHash x t _) (N := 5) (M := 0) ?_) (by omega)
  rw [hashOf_small h0 h1]
  show Go pw w c (pyHashByItsType.reduced x) _ 0 x _
  unfold pyHashByItsType.reduced
  have e1 : (decide (-(2 ^ 63 : Int) ≤ x) && decide (x < 2 ^ 63)) = true := by
    rw [Bool.and_eq_true, decide_eq_true_eq, decide_eq_true_eq]; constructor <;> omega
  have e2 : (x == -1) = false := by rw [beq_eq_false_iff_ne]; omega
  rw [if_pos e1, e2]
  exact Go.pure x
end
end Mine
namespace Mine

abbrev HS (base : List Obj) (life : Life) (l : List Obj) : Heap := ⟨(base ++ l).toArray, life⟩
abbrev dO (es : List DictEntry) (n : Nat) : Obj := ⟨.type "dict", none, .dict es.toArray n, #[]⟩
section
variable {base l : List Obj} {life : Life} {i d : Nat} {es : List DictEntry} {n : Nat}
theorem hs_get (h : l[i]? = some (dO es n)) : (HS base life l).get? (base.length + i) = some (dO es n) := by
  have e : (base ++ l).toArray[base.length + i]? = some (dO es n) := by
    rw [List.getElem?_toArray, List.getElem?_append_right (Nat.le_add_right _ _), Nat.add_sub_cancel_left]; exact h
  show (match (base ++ l).toArray[base.length + i]? with | some ⟨_, _, .freed, _⟩ => none | o => o) = _
  rw [e]
theorem hs_update (f : Obj → Obj) {o : Obj} (h : l[i]? = some o) : (HS base life l).update (base.length + i) f = HS base life (l.set i (f o)) := by
  show Heap.mk ((base ++ l).toArray.modify (base.length + i) f) life = _
  congr 1
  apply Array.ext_getElem?
  intro k
  have hi : i < l.length := (List.getElem?_eq_some_iff.mp h).1
  rw [Array.getElem?_modify, List.getElem?_toArray, List.getElem?_toArray]
  by_cases hk : k < base.length
  · rw [if_neg (by omega), List.getElem?_append_left hk, List.getElem?_append_left hk]
  · rw [List.getElem?_append_right (by omega), List.getElem?_append_right (by omega), List.getElem?_set]
    by_cases e : base.length + i = k
    · subst e
      rw [Nat.add_sub_cancel_left, if_pos rfl, if_pos rfl, if_pos hi, h]; rfl
    · rw [if_neg e, if_neg (by omega)]
theorem hs_push (o : Obj) : (HS base life l).push o = HS base life (l ++ [o]) := by
  show Heap.mk ((base ++ l).toArray.push o) life = _
  rw [List.push_toArray, List.append_assoc]
theorem hs_size : (HS base life l).objs.size = base.length + l.length := by
  show (base ++ l).toArray.size = _
  rw [List.size_toArray, List.length_append]

theorem no_places {h : Int} (lt : ∀ e ∈ es, e.hash < h) : placesWithHash es.toArray.size (fun i => es.toArray[i]?.map (·.hash)) h = [] := by
  unfold placesWithHash
  rw [List.filter_eq_nil_iff]
  intro i _ q
  rw [beq_iff_eq] at q
  dsimp only at q
  rw [List.getElem?_toArray] at q
  obtain ⟨e, h1, h2⟩ := Option.map_eq_some_iff.mp q
  have := lt e (List.mem_of_getElem? h1)
  omega
end
section
variable {pw : Program} {w : World} {c : Code} {s : Shared} {base l : List Obj} {life : Life} {i : Nat} {es : List DictEntry} {n : Nat}

theorem Go.dictEntries {a : Addr} {p : Option Value} (h : s.heap.get? a = some (dO es n)) : Go pw w c (dictEntries a p) s 1 es.toArray s := by
  unfold PySem.dictEntries
  exact Go.le (Go.bind (Go.loadPart h) (Go.pure _)) (Nat.le_refl _)
theorem Go.dictEpoch {a : Addr} {p : Option Value} (h : s.heap.get? a = some (dO es n)) : Go pw w c (dictEpoch a p) s 1 n s := by
  unfold PySem.dictEpoch
  exact Go.le (Go.bind (Go.loadPart h) (Go.pure _)) (Nat.le_refl _)
theorem Go.dictFind {a : Addr} {k h : Int} {t : Tok} (g : s.heap.get? a = some (dO es n)) (lt : ∀ e ∈ es, e.hash < h) : Go pw w c (dictFind a (.int k t) h) s 1 none s := by
  unfold PySem.dictFind
  refine Go.holding ?_
  refine Go.le (Go.bind (Go.dictEntries g) (M := 0) ?_) (by omega)
  show Go pw w c (do
    let places := placesWithHash es.toArray.size (fun i => es.toArray[i]?.map (·.hash)) h
    _) s 0 none s
  dsimp only
  rw [no_places lt]
  exact Go.pure none
theorem Go.updateDictKeys {p : Option Value} {e : DictEntry} (hs : s.heap = HS base life l) (g : l[i]? = some (dO es n)) (hn : 11 ≤ base.length) (sz : es.length < 1000000) :
    Go pw w c (updateDictKeys (base.length + i) (·.push e) p) s 3 () { s with heap := HS base life (l.set i (dO (es ++ [e]) (n + 1))) } := by
  have g0 : s.heap.get? (base.length + i) = some (dO es n) := by rw [hs]; exact hs_get g
  unfold PySem.updateDictKeys
  refine Go.le (Go.bind (Go.loadPart g0) (M := 2) ?_) (by omega)
  dsimp only
  refine Go.le (Go.bind (Go.updatePart g0 (Nat.le_trans hn (Nat.le_add_right _ _))) (M := 1) ?_) (by omega)
  have e1 : s.heap.update (base.length + i) (Obj.mapDictKeys (·.push e)) = HS base life (l.set i (dO (es ++ [e]) (n + 1))) := by
    rw [hs, hs_update _ g]
    show HS base life (l.set i ⟨.type "dict", none, .dict (es.toArray.push e) (n + 1), #[]⟩) = _
    rw [List.push_toArray]
  rw [e1]
  unfold PySem.lookBehind
  have hi : i < l.length := (List.getElem?_eq_some_iff.mp g).1
  refine Go.le (Go.bind (Go.loadPart (o := dO (es ++ [e]) (n + 1)) (hs_get (by rw [List.getElem?_set, if_pos rfl, if_pos hi]))) (M := 0) ?_) (by omega)
  have e2 : (dO (es ++ [e]) (n + 1)).data.pastItsLine = none := by
    show (if (es ++ [e]).toArray.size > sizeLine + 1 then some "dict:memory" else none) = none
    rw [if_neg]
    rw [List.size_toArray, List.length_append]
    have : sizeLine = 16777216 := rfl
    rw [this]
    simp only [List.length_cons, List.length_nil]
    omega
  rw [e2]
  exact Go.pure ()
theorem Go.dictSet {k : Int} {t : Tok} {v : Value} (hs : s.heap = HS base life l) (g : l[i]? = some (dO es n)) (hn : 11 ≤ base.length) (sz : es.length < 1000000) (h0 : 0 ≤ k) (h1 : k < 2000000) (lt : ∀ e ∈ es, e.hash < k) :
    Go pw w c (dictSet (base.length + i) (.int k t) v) s 10 () { s with heap := HS base life (l.set i (dO (es ++ [⟨k, .int k t, v⟩]) (n + 1))), toks := s.toks + 1 } := by
  unfold PySem.dictSet
  refine Go.holding ?_
  refine Go.le (Go.bind (Go.pyHash k t h0 h1) (M := 5) ?_) (by omega)
  unfold PySem.dictSetHashed
  refine Go.holding ?_
  have g0 : s.heap.get? (base.length + i) = some (dO es n) := by rw [hs]; exact hs_get g
  refine Go.le (Go.bind (Go.dictFind (s := { s with toks := s.toks + 1 }) g0 lt) (M := 4) ?_) (by omega)
  dsimp only
  refine Go.le (Go.bind (Go.rule _) (M := 3) ?_) (by omega)
  exact Go.updateDictKeys (s := { s with toks := s.toks + 1 }) hs g hn sz
theorem Go.dictPut {k : Int} {t : Tok} {v : Value} (hs : s.heap = HS base life l) (g : l[i]? = some (dO es n)) (hn : 11 ≤ base.length) (sz : es.length < 1000000) (lt : ∀ e ∈ es, e.hash < k) :
    Go pw w c (dictPut (base.length + i) k (.int k t) v) s 4 () { s with heap := HS base life (l.set i (dO (es ++ [⟨k, .int k t, v⟩]) (n + 1))) } := by
  unfold PySem.dictPut
  have g0 : s.heap.get? (base.length + i) = some (dO es n) := by rw [hs]; exact hs_get g
  refine Go.le (Go.bind (Go.dictFind g0 lt) (M := 3) ?_) (by omega)
  exact Go.updateDictKeys hs g hn sz
end
end Mine
namespace Mine
section
variable {pw : Program} {w : World} {c : Code}

theorem Go.forIn {γ β : Type} {N : Nat} (f : γ → β → Sem (ForInStep β)) : ∀ (xs : List γ) (acc : Nat → β) (S : Nat → Shared),
    (∀ i x, xs[i]? = some x → Go pw w c (f x (acc i)) (S i) N (.yield (acc (i + 1))) (S (i + 1))) → Go pw w c (forIn xs (acc 0) f) (S 0) (N * xs.length) (acc xs.length) (S xs.length)
  | [], acc, S, h => Go.pure _
  | x :: xs, acc, S, h => by
    rw [List.forIn_cons]
    refine Go.le (Go.bind (h 0 x rfl) (M := N * xs.length) ?_) (by rw [List.length_cons, Nat.mul_add]; omega)
    exact Go.forIn f xs (fun i => acc (i + 1)) (fun i => S (i + 1)) fun i y e => h (i + 1) y e

def entsBy (m : Nat) : Nat → List (Int × Str) → List DictEntry
  | _, [] => []
  | T, (k, v) :: r => ⟨k, .int k T, .str v (T + 1)⟩ :: entsBy m (T + m) r
theorem entsBy_take (m : Nat) : ∀ (T : Nat) (kvs : List (Int × Str)) (j : Nat) (x : Int × Str), kvs[j]? = some x →
    entsBy m T (kvs.take (j + 1)) = entsBy m T (kvs.take j) ++ [⟨x.1, .int x.1 (T + m * j), .str x.2 (T + m * j + 1)⟩]
  | T, [], j, x, h => by simp at h
  | T, (k, v) :: r, 0, x, h => by
    obtain rfl : (k, v) = x := by simpa using h
    simp [entsBy]
  | T, (k, v) :: r, j + 1, x, h => by
    have h' : r[j]? = some x := by simpa using h
    rw [List.take_succ_cons, List.take_succ_cons, entsBy, entsBy, entsBy_take m (T + m) r j x h', List.cons_append]
    rw [show T + m + m * j = T + m * (j + 1) by rw [Nat.mul_succ]; omega]
theorem entsBy_hash {m : Nat} : ∀ {T : Nat} {kvs : List (Int × Str)} {e : DictEntry}, e ∈ entsBy m T kvs → ∃ x ∈ kvs, e.hash = x.1
  | T, [], e, h => by cases h
  | T, (k, v) :: r, e, h => by
    rcases List.mem_cons.mp h with rfl | h
    · exact ⟨(k, v), List.mem_cons_self, rfl⟩
    · obtain ⟨x, hx, q⟩ := entsBy_hash h
      exact ⟨x, List.mem_cons_of_mem _ hx, q⟩
theorem entsBy_length (m : Nat) : ∀ (T : Nat) (kvs : List (Int × Str)), (entsBy m T kvs).length = kvs.length
  | T, [] => rfl
  | T, (k, v) :: r => by rw [entsBy, List.length_cons, List.length_cons, entsBy_length m (T + m) r]

/-- rising keys in reach -/
def Rising (kvs : List (Int × Str)) : Prop := ∀ (i j : Nat) (x y : Int × Str), kvs[i]? = some x → kvs[j]? = some y → i < j → x.1 < y.1
def KeysOk (kvs : List (Int × Str)) : Prop := ∀ x ∈ kvs, 0 ≤ x.1 ∧ x.1 < 2000000

theorem take_lt {kvs : List (Int × Str)} (R : Rising kvs) {m T j : Nat} {x : Int × Str} (hx : kvs[j]? = some x) : ∀ e ∈ entsBy m T (kvs.take j), e.hash < x.1 := fun e he => by
  obtain ⟨y, hy, q⟩ := entsBy_hash he
  obtain ⟨i, hi⟩ := List.mem_iff_getElem?.mp hy
  rw [List.getElem?_take] at hi
  split at hi
  · rename_i lt
    rw [q]
    exact R i j y x hi hx lt
  · cases hi

def pairOf (p : Pos) (x : Int × Str) : Sem Value × Sem Value := (mkInt x.1, do let v ← mkText x.2; standAt p; pure v)

section
variable {s : Shared} {base l : List Obj} {life : Life} {i : Nat} {es : List DictEntry} {n : Nat}
theorem sub_subtype : isSubtype (.type "dict") (.type "dict") = pure true := by rw [PySem.W.Fast.te16098473122060591676]; kernel_rfl
theorem dict_iter : typeLookup (.type "dict") "__iter__" = pure (some (.builtin "dict.__iter__")) := by rw [PySem.W.Fast.te1381439984260040727]; kernel_rfl

theorem Go.subLong {p : Pos} {kvs : List (Int × Str)} (hs : s.heap = HS base life l) (hn : 11 ≤ base.length) (R : Rising kvs) (K : KeysOk kvs) (len : 15 < kvs.length) (sz : kvs.length < 1000000) :
    Go pw w c (subDict (kvs.map (pairOf p))) s (16 * kvs.length + 2) (base.length + l.length) { s with heap := HS base life (l ++ [dO (entsBy 3 s.toks kvs) kvs.length]), toks := s.toks + 3 * kvs.length } := by
  unfold subDict
  refine Go.le (Go.bind Go.alloc (M := 16 * kvs.length + 1) ?_) (by omega)
  rw [show s.heap.objs.size = base.length + l.length by rw [hs, hs_size], show s.heap.push _ = HS base life (l ++ [dO [] 0]) by rw [hs, hs_push]]
  refine Go.le (Go.bind (a := ()) (N := 16 * kvs.length + 1) (Go.holding ?_) (M := 0) (Go.pure _)) (Nat.le_refl _)
  rw [if_neg (by rw [List.length_map]; omega)]
  refine Go.le (Go.bind (Go.rule _) (M := 16 * kvs.length) ?_) (by omega)
  have key := Go.forIn (pw := pw) (w := w) (c := c) (N := 16) (fun (x : Sem Value × Sem Value) (r : PUnit) => do
      let kv ← x.1
      let vv ← PySem.holding [kv] x.2
      PySem.holding [kv, vv] (PySem.dictSet (base.length + l.length) kv vv)
      Pure.pure (ForInStep.yield PUnit.unit)) (kvs.map (pairOf p)) (fun _ => PUnit.unit)
    (fun j => { s with heap := HS base life (l ++ [dO (entsBy 3 s.toks (kvs.take j)) j]), toks := s.toks + 3 * j }) (fun j x hx => by
      rw [List.getElem?_map] at hx
      obtain ⟨kv, hkv, rfl⟩ := Option.map_eq_some_iff.mp hx
      have hlt : j < kvs.length := (List.getElem?_eq_some_iff.mp hkv).1
      refine Go.le (Go.bind (Go.mkInt kv.1) (M := 12) ?_) (by omega)
      refine Go.le (Go.bind (Go.holding (Go.bind (Go.mkText kv.2) (Go.bind (Go.standAt p) (Go.pure _)))) (M := 10) ?_) (by omega)
      have kk := K kv (List.mem_of_getElem? hkv)
      have gi : (l ++ [dO (entsBy 3 s.toks (kvs.take j)) j])[l.length]? = some (dO (entsBy 3 s.toks (kvs.take j)) j) := by
        rw [List.getElem?_append_right (Nat.le_refl _), Nat.sub_self]; rfl
      refine Go.le (Go.bind (Go.holding (Go.dictSet (base := base) (life := life) (i := l.length) rfl gi hn (by rw [entsBy_length, List.length_take]; omega) kk.1 kk.2 (take_lt R hkv))) (M := 0) ?_) (by omega)
      have e1 : (l ++ [dO (entsBy 3 s.toks (kvs.take j)) j]).set l.length (dO (entsBy 3 s.toks (kvs.take j) ++ [⟨kv.1, .int kv.1 (s.toks + 3 * j), .str kv.2 (s.toks + 3 * j + 1)⟩]) (j + 1)) =
          l ++ [dO (entsBy 3 s.toks (kvs.take (j + 1))) (j + 1)] := by
        rw [List.set_append_right _ _ (Nat.le_refl _), Nat.sub_self, entsBy_take 3 s.toks kvs j kv hkv]; rfl
      dsimp only
      rw [e1, show s.toks + 3 * (j + 1) = s.toks + 3 * j + 1 + 1 + 1 by omega]
      exact Go.pure _)
  rw [List.length_map, List.take_length] at key
  exact Go.le (Go.bind (a := PUnit.unit) key (M := 0) (Go.pure _)) (Nat.le_refl _)
end
end
end Mine
namespace Mine
section
variable {pw : Program} {w : World} {c : Code}

def valsBy : Nat → List (Int × Str) → List (Value × Value)
  | _, [] => []
  | T, (k, v) :: r => (.int k T, .str v (T + 1)) :: valsBy (T + 2) r
theorem valsBy_get : ∀ (T : Nat) (kvs : List (Int × Str)) (j : Nat) (x : Int × Str), kvs[j]? = some x → (valsBy T kvs)[j]? = some (.int x.1 (T + 2 * j), .str x.2 (T + 2 * j + 1))
  | T, [], j, x, h => by simp at h
  | T, (k, v) :: r, 0, x, h => by
    obtain rfl : (k, v) = x := by simpa using h
    rfl
  | T, (k, v) :: r, j + 1, x, h => by
    have h' : r[j]? = some x := by simpa using h
    rw [valsBy, List.getElem?_cons_succ, valsBy_get (T + 2) r j x h', show T + 2 + 2 * j = T + 2 * (j + 1) by rw [Nat.mul_succ]; omega]
theorem valsBy_length : ∀ (T : Nat) (kvs : List (Int × Str)), (valsBy T kvs).length = kvs.length
  | T, [] => rfl
  | T, (k, v) :: r => by rw [valsBy, List.length_cons, List.length_cons, valsBy_length (T + 2) r]
theorem Go.evalPairs (p : Pos) : ∀ (kvs : List (Int × Str)) (s : Shared), Go pw w c (evalPairs (kvs.map (pairOf p))) s (3 * kvs.length) (valsBy s.toks kvs) { s with toks := s.toks + 2 * kvs.length }
  | [], s => Go.pure _
  | (k, v) :: r, s => by
    show Go pw w c (do
      let kv ← PySem.mkInt k
      let vv ← PySem.holding [kv] (do let x ← PySem.mkText v; PySem.standAt p; Pure.pure x)
      return (kv, vv) :: (← PySem.holding [kv, vv] (PySem.evalPairs (r.map (pairOf p))))) s _ _ _
    refine Go.le (Go.bind (Go.mkInt k) (M := 3 * r.length + 2) ?_) (by rw [List.length_cons]; omega)
    refine Go.le (Go.bind (Go.holding (Go.bind (Go.mkText v) (Go.bind (Go.standAt p) (Go.pure _)))) (M := 3 * r.length) ?_) (by omega)
    have := Go.evalPairs p r { s with toks := s.toks + 1 + 1 }
    refine Go.le (Go.bind (Go.holding this) (M := 0) ?_) (Nat.le_refl _)
    dsimp only
    rw [show s.toks + 2 * ((k, v) :: r).length = s.toks + 1 + 1 + 2 * r.length by rw [List.length_cons]; omega]
    exact Go.pure _

section
variable {s : Shared} {base l : List Obj} {life : Life} {i : Nat} {es : List DictEntry} {n : Nat}
theorem Go.subShort {p : Pos} {kvs : List (Int × Str)} (hs : s.heap = HS base life l) (hn : 11 ≤ base.length) (R : Rising kvs) (K : KeysOk kvs) (len : kvs.length ≤ 15) :
    Go pw w c (subDict (kvs.map (pairOf p))) s (13 * kvs.length + 2) (base.length + l.length) { s with heap := HS base life (l ++ [dO (entsBy 2 s.toks kvs) kvs.length]), toks := s.toks + 3 * kvs.length } := by
  unfold subDict
  refine Go.le (Go.bind Go.alloc (M := 13 * kvs.length + 1) ?_) (by omega)
  rw [show s.heap.objs.size = base.length + l.length by rw [hs, hs_size], show s.heap.push _ = HS base life (l ++ [dO [] 0]) by rw [hs, hs_push]]
  refine Go.le (Go.bind (a := ()) (N := 13 * kvs.length + 1) (Go.holding ?_) (M := 0) (Go.pure _)) (Nat.le_refl _)
  rw [if_pos (by rw [List.length_map]; omega)]
  refine Go.le (Go.bind (Go.evalPairs p kvs _) (M := 10 * kvs.length) ?_) (by omega)
  refine Go.holding ?_
  have key := Go.forIn (pw := pw) (w := w) (c := c) (N := 10) (fun (x : Value × Value) (r : PUnit) => do
      PySem.dictSet (base.length + l.length) x.1 x.2
      Pure.pure (ForInStep.yield PUnit.unit)) (valsBy s.toks kvs) (fun _ => PUnit.unit)
    (fun j => { s with heap := HS base life (l ++ [dO (entsBy 2 s.toks (kvs.take j)) j]), toks := s.toks + 2 * kvs.length + j }) (fun j x hx => by
      have hj : j < kvs.length := by
        have := (List.getElem?_eq_some_iff.mp hx).1
        rw [valsBy_length] at this; exact this
      obtain ⟨kv, hkv⟩ : ∃ kv, kvs[j]? = some kv := ⟨_, List.getElem?_eq_getElem hj⟩
      rw [valsBy_get s.toks kvs j kv hkv] at hx
      obtain rfl := Option.some.inj hx
      have kk := K kv (List.mem_of_getElem? hkv)
      have gi : (l ++ [dO (entsBy 2 s.toks (kvs.take j)) j])[l.length]? = some (dO (entsBy 2 s.toks (kvs.take j)) j) := by
        rw [List.getElem?_append_right (Nat.le_refl _), Nat.sub_self]; rfl
      refine Go.le (Go.bind (Go.dictSet (base := base) (life := life) (i := l.length) rfl gi hn (by rw [entsBy_length, List.length_take]; omega) kk.1 kk.2 (take_lt R hkv)) (M := 0) ?_) (by omega)
      have e1 : (l ++ [dO (entsBy 2 s.toks (kvs.take j)) j]).set l.length (dO (entsBy 2 s.toks (kvs.take j) ++ [⟨kv.1, .int kv.1 (s.toks + 2 * j), .str kv.2 (s.toks + 2 * j + 1)⟩]) (j + 1)) =
          l ++ [dO (entsBy 2 s.toks (kvs.take (j + 1))) (j + 1)] := by
        rw [List.set_append_right _ _ (Nat.le_refl _), Nat.sub_self, entsBy_take 2 s.toks kvs j kv hkv]; rfl
      dsimp only
      rw [e1, show s.toks + 2 * kvs.length + (j + 1) = s.toks + 2 * kvs.length + j + 1 by omega]
      exact Go.pure _)
  rw [valsBy_length, List.take_length] at key
  rw [show s.toks + 3 * kvs.length = s.toks + 2 * kvs.length + kvs.length by omega]
  exact Go.le (Go.bind (a := PUnit.unit) key (M := 0) (Go.pure _)) (Nat.le_refl _)

theorem Go.typeOfDict {a : Addr} (g : s.heap.get? a = some (dO es n)) : Go pw w c (typeOf (.ref a)) s 1 (.type "dict") s :=
  Go.le (Go.bind (Go.loadPart g) (Go.pure _)) (Nat.le_refl _)
theorem Go.isDict {a : Addr} (g : s.heap.get? a = some (dO es n)) : Go pw w c (isInstance (.ref a) (.type "dict")) s 1 true s := by
  refine Go.le (Go.bind (Go.typeOfDict g) (M := 0) ?_) (Nat.le_refl _)
  rw [sub_subtype]
  exact Go.pure _
theorem Go.iterDict {a : Addr} (g : s.heap.get? a = some (dO es n)) : Go pw w c (specialOf (.ref a) "__iter__") s 1 (some (.builtin "dict.__iter__")) s := by
  refine Go.le (Go.bind (Go.typeOfDict g) (M := 0) ?_) (Nat.le_refl _)
  rw [dict_iter]
  exact Go.pure _

theorem Go.merge {m j : Nat} {T : Nat} {kvs : List (Int × Str)} {n' : Nat} (hs : s.heap = HS base life l) (hn : 11 ≤ base.length) (ne : es ≠ []) (gi : l[i]? = some (dO es n)) (gj : l[j]? = some (dO (entsBy m T kvs) n')) (ij : i ≠ j)
    (R : Rising kvs) (lt : ∀ e ∈ es, ∀ x ∈ kvs, e.hash < x.1) (sz : es.length + kvs.length < 1000000) :
    Go pw w c (mergeMapping (base.length + i) (.ref (base.length + j)) false) s (6 * kvs.length + 8) () { s with heap := HS base life (l.set i (dO (es ++ entsBy m T kvs) (n + kvs.length))) } := by
  have hi : i < l.length := (List.getElem?_eq_some_iff.mp gi).1
  have g1 : s.heap.get? (base.length + i) = some (dO es n) := by rw [hs]; exact hs_get gi
  have g2 : s.heap.get? (base.length + j) = some (dO (entsBy m T kvs) n') := by rw [hs]; exact hs_get gj
  unfold mergeMapping
  have e0 : (base.length + j == sysModules) = false := by
    rw [beq_eq_false_iff_ne]
    have : sysModules = 1 := rfl
    rw [this]
    omega
  have e1 : (es.toArray.isEmpty) = false := by
    cases es with
    | nil => exact absurd rfl ne
    | cons a r => rfl
  refine Go.le (Go.bind (Go.isDict g2) (M := 6 * kvs.length + 4) ?_) (by omega)
  rw [if_pos rfl]
  refine Go.le (Go.bind (Go.iterDict g2) (M := 6 * kvs.length + 3) ?_) (by omega)
  refine Go.le (Go.bind (Go.pure _) (M := 6 * kvs.length + 3) ?_) (by omega)
  rw [show (some (Value.builtin "dict.__iter__") == some (Value.builtin "dict.__iter__")) = true from beq_self_eq_true _]
  dsimp only
  rw [e0, if_neg Bool.false_ne_true]
  refine Go.le (Go.bind (Go.dictEntries g1) (M := 6 * kvs.length + 2) ?_) (by omega)
  rw [e1, if_neg Bool.false_ne_true]
  refine Go.le (Go.bind (Go.dictEntries g2) (M := 6 * kvs.length + 1) ?_) (by omega)
  refine Go.le (Go.bind (Go.dictEpoch g2) (M := 6 * kvs.length) ?_) (by omega)
  have sz2 : (entsBy m T kvs).toArray.size = kvs.length := by rw [List.size_toArray, entsBy_length]
  rw [sz2]
  have key := Go.forIn (pw := pw) (w := w) (c := c) (N := 6) (fun (x : Nat) (r : PUnit) => do
                    let d ← PySem.dictEntries (base.length + j)
                    match d[x]? with
                      | some e => do
                        PySem.holding [e.key, e.val] (PySem.dictPut (base.length + i) e.hash e.key e.val)
                        let q ← PySem.dictEpoch (base.length + j)
                        if (q != n') = true then do
                            unsupported "dict.changed-during-merge"
                            Pure.pure (ForInStep.yield PUnit.unit)
                          else Pure.pure (ForInStep.yield PUnit.unit)
                      | x => do
                        unsupported "dict.changed-during-merge"
                        Pure.pure (ForInStep.yield PUnit.unit)) (List.range kvs.length) (fun _ => PUnit.unit)
    (fun k => { s with heap := HS base life (l.set i (dO (es ++ entsBy m T (kvs.take k)) (n + k))) }) (fun k x hx => by
      obtain ⟨hk, hx⟩ := List.getElem?_eq_some_iff.mp hx
      rw [List.length_range] at hk
      rw [List.getElem_range] at hx
      subst hx
      obtain ⟨kv, hkv⟩ : ∃ kv, kvs[k]? = some kv := ⟨_, List.getElem?_eq_getElem hk⟩
      have gj' : (l.set i (dO (es ++ entsBy m T (kvs.take k)) (n + k)))[j]? = some (dO (entsBy m T kvs) n') := by rw [List.getElem?_set, if_neg ij]; exact gj
      have gi' : (l.set i (dO (es ++ entsBy m T (kvs.take k)) (n + k)))[i]? = some (dO (es ++ entsBy m T (kvs.take k)) (n + k)) := by rw [List.getElem?_set, if_pos rfl, if_pos hi]
      refine Go.le (Go.bind (Go.dictEntries (hs_get gj')) (M := 5) ?_) (by omega)
      have ek : (entsBy m T kvs)[k]? = some ⟨kv.1, .int kv.1 (T + m * k), .str kv.2 (T + m * k + 1)⟩ := by
        have h1 := entsBy_take m T kvs k kv hkv
        have h2 : entsBy m T kvs = entsBy m T (kvs.take (k + 1)) ++ entsBy m (T + m * (k + 1)) (kvs.drop (k + 1)) := by
          conv => lhs; rw [← List.take_append_drop (k + 1) kvs]
          have gen : ∀ (a b : List (Int × Str)) (T : Nat), entsBy m T (a ++ b) = entsBy m T a ++ entsBy m (T + m * a.length) b := by
            intro a
            induction a with
            | nil => intro b T; simp [entsBy]
            | cons x a ih =>
              intro b T
              obtain ⟨k', v'⟩ := x
              rw [List.cons_append, entsBy, entsBy, ih, List.cons_append, List.length_cons, Nat.mul_succ, show T + m + m * a.length = T + (m * a.length + m) by omega]
          rw [gen, List.length_take, show min (k + 1) kvs.length = k + 1 by omega]
        rw [h2, h1, List.append_assoc, List.getElem?_append_right (by rw [entsBy_length, List.length_take]; omega), entsBy_length, List.length_take, show k - min k kvs.length = 0 by omega]
        rfl
      rw [List.getElem?_toArray, ek]
      dsimp only
      have lt' : ∀ e ∈ es ++ entsBy m T (kvs.take k), e.hash < kv.1 := by
        intro e he
        rcases List.mem_append.mp he with he | he
        · exact lt e he kv (List.mem_of_getElem? hkv)
        · exact take_lt R hkv e he
      refine Go.le (Go.bind (Go.holding (Go.dictPut (base := base) (life := life) rfl gi' hn (by rw [List.length_append, entsBy_length, List.length_take]; omega) lt')) (M := 1) ?_) (by omega)
      have gj2 : ((l.set i (dO (es ++ entsBy m T (kvs.take k)) (n + k))).set i (dO (es ++ entsBy m T (kvs.take k) ++ [⟨kv.1, .int kv.1 (T + m * k), .str kv.2 (T + m * k + 1)⟩]) (n + k + 1)))[j]? = some (dO (entsBy m T kvs) n') := by
        rw [List.getElem?_set, if_neg ij]; exact gj'
      refine Go.le (Go.bind (Go.dictEpoch (hs_get gj2)) (M := 0) ?_) (by omega)
      rw [show (n' != n') = false from by simp, if_neg Bool.false_ne_true, List.set_set, List.append_assoc, ← entsBy_take m T kvs k kv hkv, show n + k + 1 = n + (k + 1) by omega]
      exact Go.pure _)
  rw [List.length_range, List.take_length] at key
  have e9 : ({ s with heap := HS base life (l.set i (dO (es ++ entsBy m T (kvs.take 0)) (n + 0))) } : Shared) = s := by
    have : l.set i (dO (es ++ entsBy m T (kvs.take 0)) (n + 0)) = l := by
      apply List.ext_getElem?
      intro k
      rw [List.getElem?_set]
      split
      · rename_i h; subst h
        rw [gi]
        simp [entsBy]
      · rfl
    rw [this, ← hs]
  rw [e9] at key
  exact Go.le (Go.bind (a := PUnit.unit) key (M := 0) (Go.pure _)) (Nat.le_refl _)
end
end
end Mine
namespace Mine

def itemOf (p : Pos) (x : Int × Str) : Option (Sem Value) × Sem Value := (some (mkInt x.1), do let v ← mkText x.2; standAt p; pure v)

theorem entsBy_append (m : Nat) : ∀ (a b : List (Int × Str)) (T : Nat), entsBy m T (a ++ b) = entsBy m T a ++ entsBy m (T + m * a.length) b
  | [], b, T => by simp [entsBy]
  | (k', v') :: a, b, T => by
    rw [List.cons_append, entsBy, entsBy, entsBy_append m a b, List.cons_append, List.length_cons, Nat.mul_succ, show T + m + m * a.length = T + (m * a.length + m) by omega]

theorem Rising.part {kvs : List (Int × Str)} (R : Rising kvs) (a b : Nat) : Rising ((kvs.drop a).take b) := by
  intro i j x y hx hy lt
  rw [List.getElem?_take] at hx hy
  split at hx
  · split at hy
    · rw [List.getElem?_drop] at hx hy
      exact R (a + i) (a + j) x y hx hy (by omega)
    · cases hy
  · cases hx
theorem Rising.drop {kvs : List (Int × Str)} (R : Rising kvs) (a : Nat) : Rising (kvs.drop a) := by
  intro i j x y hx hy lt
  rw [List.getElem?_drop] at hx hy
  exact R (a + i) (a + j) x y hx hy (by omega)
theorem KeysOk.part {kvs : List (Int × Str)} (K : KeysOk kvs) (a b : Nat) : KeysOk ((kvs.drop a).take b) := fun x hx => K x (List.mem_of_mem_drop (List.mem_of_mem_take hx))
theorem KeysOk.drop {kvs : List (Int × Str)} (K : KeysOk kvs) (a : Nat) : KeysOk (kvs.drop a) := fun x hx => K x (List.mem_of_mem_drop hx)
theorem before_lt {kvs : List (Int × Str)} (R : Rising kvs) {m T a b : Nat} : ∀ e ∈ entsBy m T (kvs.take a), ∀ x ∈ (kvs.drop a).take b, e.hash < x.1 := by
  intro e he x hx
  obtain ⟨y, hy, q⟩ := entsBy_hash he
  obtain ⟨i, hi⟩ := List.mem_iff_getElem?.mp hy
  obtain ⟨j, hj⟩ := List.mem_iff_getElem?.mp (List.mem_of_mem_take hx)
  rw [List.getElem?_take] at hi
  rw [List.getElem?_drop] at hj
  split at hi
  · rw [q]; exact R i (a + j) y x hi hj (by omega)
  · cases hi

/-- the made objects behind q whole chunks -/
def dispObjs (T : Nat) (kvs : List (Int × Str)) : Nat → List Obj
  | 0 => []
  | q + 1 => dO (entsBy 3 T (kvs.take (17 * (q + 1)))) (17 * (q + 1)) :: (List.range q).map fun k => dO (entsBy 3 (T + 51 * (k + 1)) ((kvs.drop (17 * (k + 1))).take 17)) 17
theorem dispObjs_len (T : Nat) (kvs : List (Int × Str)) : ∀ q, (dispObjs T kvs q).length = q
  | 0 => rfl
  | q + 1 => by simp [dispObjs]

section
variable {pw : Program} {w : World} {c : Code}

theorem Go.forIn' {γ β : Type} {N : Nat} {f : γ → β → Sem (ForInStep β)} {xs : List γ} (acc : Nat → β) (S : Nat → Shared) {b₀ b₁ : β} {s₀ s₁ : Shared} (h0 : acc 0 = b₀) (h1 : S 0 = s₀) (h2 : acc xs.length = b₁) (h3 : S xs.length = s₁)
    (h : ∀ i x, xs[i]? = some x → Go pw w c (f x (acc i)) (S i) N (.yield (acc (i + 1))) (S (i + 1))) : Go pw w c (ForIn.forIn xs b₀ f) s₀ (N * xs.length) b₁ s₁ := by
  subst h0 h1 h2 h3
  exact Go.forIn f xs acc S h

theorem Go.flush {s : Shared} {base : List Obj} {life : Life} {T q m : Nat} {p : Pos} {kvs chunk : List (Int × Str)} {N : Nat} {S' : Shared}
    (hs : s.heap = HS base life (dispObjs T kvs (q + 1))) (hn : 11 ≤ base.length) (R : Rising kvs) (sz : kvs.length < 900000) {len : Nat} (hc : chunk = (kvs.drop (17 * (q + 1))).take len) (full : 17 * (q + 1) ≤ kvs.length)
    (sub : Go pw w c (subDict (chunk.map (pairOf p))) s N (base.length + (q + 1)) { s with heap := HS base life (dispObjs T kvs (q + 1) ++ [dO (entsBy m s.toks chunk) chunk.length]), toks := s.toks + 3 * chunk.length })
    (hS : S' = { s with heap := HS base life ((dispObjs T kvs (q + 1) ++ [dO (entsBy m s.toks chunk) chunk.length]).set 0 (dO (entsBy 3 T (kvs.take (17 * (q + 1))) ++ entsBy m s.toks chunk) (17 * (q + 1) + chunk.length))), toks := s.toks + 3 * chunk.length }) :
    Go pw w c (do
      let sub ← PySem.holding [Value.ref base.length] (subDict (chunk.map (pairOf p)))
      (PySem.holding [Value.ref base.length, Value.ref sub] (mergeMapping base.length (Value.ref sub) false)).onRaise fun x => do
          let _ ← PySem.holding [Value.ref base.length, x] (runValue (Code.builtin "proto.let_go" { }))
          Pure.pure ()
      Pure.pure (some base.length)) s (N + (6 * chunk.length + 8)) (some base.length) S' := by
  subst hS
  refine Go.bind (Go.holding sub) ?_
  have ne : entsBy 3 T (kvs.take (17 * (q + 1))) ≠ [] := by
    intro e
    have := congrArg List.length e
    rw [entsBy_length, List.length_take] at this
    simp only [List.length_nil] at this
    omega
  have h := Go.merge (pw := pw) (w := w) (c := c) (s := { s with heap := HS base life (dispObjs T kvs (q + 1) ++ [dO (entsBy m s.toks chunk) chunk.length]), toks := s.toks + 3 * chunk.length }) (base := base) (life := life)
    (l := dispObjs T kvs (q + 1) ++ [dO (entsBy m s.toks chunk) chunk.length]) (i := 0) (es := entsBy 3 T (kvs.take (17 * (q + 1)))) (n := 17 * (q + 1)) (m := m) (j := q + 1) (T := s.toks) (kvs := chunk) (n' := chunk.length) rfl hn ne
    (by rw [List.getElem?_append_left (by rw [dispObjs_len]; omega)]; rfl)
    (by rw [List.getElem?_append_right (by rw [dispObjs_len]; omega), dispObjs_len, Nat.sub_self]; rfl) (by omega) (hc ▸ R.part _ _) (hc ▸ before_lt R)
    (by rw [entsBy_length, List.length_take, hc, List.length_take, List.length_drop]; omega)
  exact Go.le (Go.bind (Go.onRaise (Go.holding h)) (Go.pure _)) (Nat.le_refl _)

theorem Go.display {s : Shared} {base : List Obj} {life : Life} {p : Pos} {kvs : List (Int × Str)} (hs : s.heap = HS base life []) (hn : 11 ≤ base.length) (R : Rising kvs) (K : KeysOk kvs) (sz : kvs.length < 900000) (len : 17 ≤ kvs.length) (tail : kvs.length % 17 ≠ 0 ∧ kvs.length % 17 ≤ 15) {Q r : Nat} (hQ : kvs.length / 17 = Q + 1) (hr : kvs.length % 17 = r) :
    Go pw w c (dictDisplay (kvs.map (itemOf p))) s (400 * kvs.length + 400) (.ref base.length)
      { s with heap := HS base life ((dispObjs s.toks kvs (Q + 1) ++ [dO (entsBy 2 (s.toks + 51 * (Q + 1)) (kvs.drop (17 * (Q + 1)))) r]).set 0 (dO (entsBy 3 s.toks (kvs.take (17 * (Q + 1))) ++ entsBy 2 (s.toks + 51 * (Q + 1)) (kvs.drop (17 * (Q + 1)))) kvs.length)), toks := s.toks + 3 * kvs.length } := by
  unfold dictDisplay
  dsimp only
  have s0 : ({ s with heap := HS base life (dispObjs s.toks kvs (0 / 17)), toks := s.toks + 51 * (0 / 17) } : Shared) = s := by
    show ({ s with heap := HS base life [], toks := s.toks } : Shared) = s
    rw [← hs]
  refine Go.le (Go.bind (Go.forIn' (N := 400) (fun j => ((if j / 17 = 0 then none else some base.length : Option Addr), (((kvs.drop (17 * (j / 17))).take (j % 17)).map (pairOf p))))
    (fun j => { s with heap := HS base life (dispObjs s.toks kvs (j / 17)), toks := s.toks + 51 * (j / 17) }) rfl s0 rfl rfl ?_) (M := 400) ?_) (by rw [List.length_map]; omega)
  · intro j x hx
    rw [List.getElem?_map] at hx
    obtain ⟨kv, hkv, rfl⟩ := Option.map_eq_some_iff.mp hx
    have hj : j < kvs.length := (List.getElem?_eq_some_iff.mp hkv).1
    dsimp only [itemOf]
    have e1 : ((kvs.drop (17 * (j / 17))).take (j % 17)).map (pairOf p) ++ [(PySem.mkInt kv.1, do let v ← PySem.mkText kv.2; PySem.standAt p; Pure.pure v)] = ((kvs.drop (17 * (j / 17))).take (j % 17 + 1)).map (pairOf p) := by
      rw [List.take_add_one, List.map_append]
      congr 1
      rw [List.getElem?_drop, show 17 * (j / 17) + j % 17 = j by omega, hkv]
      rfl
    simp only [e1]
    have e2 : (((kvs.drop (17 * (j / 17))).take (j % 17 + 1)).map (pairOf p)).length = j % 17 + 1 := by
      rw [List.length_map, List.length_take, List.length_drop]; omega
    simp only [e2]
    by_cases h16 : j % 17 = 16
    · rw [if_pos (by rw [h16]; rfl)]
      have h1 : (j + 1) / 17 = j / 17 + 1 := by omega
      have h2 : (j + 1) % 17 = 0 := by omega
      rw [h1, h2, h16]
      have e3 : ((kvs.drop (17 * (j / 17))).take (16 + 1)).length = 17 := by rw [List.length_take, List.length_drop]; omega
      have e4 : (((kvs.drop (17 * (j / 17))).take (16 + 1)).map (pairOf p)).isEmpty = false := by
        rw [List.isEmpty_eq_false_iff]
        intro q
        have := congrArg List.length q
        rw [List.length_map, e3] at this
        cases this
      rw [e4, if_neg Bool.false_ne_true]
      have sub := Go.subLong (pw := pw) (w := w) (c := c) (s := { s with heap := HS base life (dispObjs s.toks kvs (j / 17)), toks := s.toks + 51 * (j / 17) }) (base := base) (life := life) (l := dispObjs s.toks kvs (j / 17)) (p := p) (kvs := (kvs.drop (17 * (j / 17))).take (16 + 1)) rfl hn (R.part _ _) (K.part _ _) (by rw [e3]; omega) (by rw [e3]; omega)
      rw [e3] at sub
      cases hq : j / 17 with
      | zero =>
        rw [hq] at sub
        rw [if_pos rfl, if_neg (by omega)]
        dsimp only
        refine Go.le (Go.bind (a := some base.length) (Go.bind sub (Go.pure _)) (M := 0) ?_) (by omega)
        exact Go.pure _
      | succ q =>
        rw [hq] at sub e3
        rw [if_neg (by omega), if_neg (by omega)]
        dsimp only
        have e5 : base.length + (dispObjs s.toks kvs (q + 1)).length = base.length + (q + 1) := by rw [dispObjs_len]
        rw [e5] at sub
        have fl := Go.flush (pw := pw) (w := w) (c := c) (s := { s with heap := HS base life (dispObjs s.toks kvs (q + 1)), toks := s.toks + 51 * (q + 1) }) (base := base) (life := life) (T := s.toks) (q := q) (m := 3) (p := p) (kvs := kvs) (chunk := (kvs.drop (17 * (q + 1))).take (16 + 1)) rfl hn R sz rfl (by omega) (by rw [e3]; exact sub) rfl
        rw [e3] at fl
        refine Go.le (Go.bind (a := some base.length) fl (M := 0) ?_) (by omega)
        have e6 : ((dispObjs s.toks kvs (q + 1) ++ [dO (entsBy 3 (s.toks + 51 * (q + 1)) ((kvs.drop (17 * (q + 1))).take (16 + 1))) 17]).set 0 (dO (entsBy 3 s.toks (kvs.take (17 * (q + 1))) ++ entsBy 3 (s.toks + 51 * (q + 1)) ((kvs.drop (17 * (q + 1))).take (16 + 1))) (17 * (q + 1) + 17))) = dispObjs s.toks kvs (q + 1 + 1) := by
          have e7 : kvs.take (17 * (q + 1 + 1)) = kvs.take (17 * (q + 1)) ++ (kvs.drop (17 * (q + 1))).take (16 + 1) := by
            rw [show 17 * (q + 1 + 1) = 17 * (q + 1) + 17 by omega, List.take_add]
          rw [dispObjs, dispObjs, e7, entsBy_append, List.length_take, show min (17 * (q + 1)) kvs.length = 17 * (q + 1) by omega, show 3 * (17 * (q + 1)) = 51 * (q + 1) by omega, List.range_succ, List.map_append]
          rfl
        dsimp only
        rw [e6, show s.toks + 51 * (q + 1 + 1) = s.toks + 51 * (q + 1) + 3 * 17 by omega]
        exact Go.pure _
    · rw [if_neg (by simp; omega)]
      have h1 : (j + 1) / 17 = j / 17 := by omega
      have h2 : (j + 1) % 17 = j % 17 + 1 := by omega
      rw [h1, h2]
      exact Go.le (Go.pure _) (Nat.zero_le _)
  · have e0 : (if Q + 1 = 0 then none else some base.length : Option Addr) = some base.length := if_neg (by omega)
    rw [List.length_map, hQ, hr, e0]
    dsimp only
    have e1 : ((kvs.drop (17 * (Q + 1))).take r) = kvs.drop (17 * (Q + 1)) := by
      rw [List.take_of_length_le]
      rw [List.length_drop]; omega
    rw [e1]
    have e3 : (kvs.drop (17 * (Q + 1))).length = r := by rw [List.length_drop]; omega
    have e4 : ((kvs.drop (17 * (Q + 1))).map (pairOf p)).isEmpty = false := by
      rw [List.isEmpty_eq_false_iff]
      intro q
      have := congrArg List.length q
      rw [List.length_map, e3] at this
      simp only [List.length_nil] at this
      omega
    rw [e4, if_neg Bool.false_ne_true]
    have sub := Go.subShort (pw := pw) (w := w) (c := c) (s := { s with heap := HS base life (dispObjs s.toks kvs (Q + 1)), toks := s.toks + 51 * (Q + 1) }) (base := base) (life := life) (l := dispObjs s.toks kvs (Q + 1)) (p := p) (kvs := kvs.drop (17 * (Q + 1))) rfl hn (R.drop _) (K.drop _) (by rw [e3]; omega)
    rw [show base.length + (dispObjs s.toks kvs (Q + 1)).length = base.length + (Q + 1) by rw [dispObjs_len]] at sub
    have fl := Go.flush (pw := pw) (w := w) (c := c) (s := { s with heap := HS base life (dispObjs s.toks kvs (Q + 1)), toks := s.toks + 51 * (Q + 1) }) (base := base) (life := life) (T := s.toks) (q := Q) (m := 2) (p := p) (kvs := kvs) (chunk := kvs.drop (17 * (Q + 1))) (len := r) rfl hn R sz e1.symm (by omega) sub rfl
    rw [e3] at fl
    refine Go.le (Go.bind (a := some base.length) fl (M := 0) ?_) (by omega)
    dsimp only
    rw [show 17 * (Q + 1) + r = kvs.length by omega, show s.toks + 51 * (Q + 1) + 3 * r = s.toks + 3 * kvs.length by omega]
    exact Go.pure _
end
end Mine
namespace Mine
def risesB : Int → List (Int × Str) → Bool
  | _, [] => true
  | lo, (k, _) :: r => decide (lo < k) && decide (k < 2000000) && risesB k r
theorem risesB_gt : ∀ {lo : Int} {l : List (Int × Str)}, risesB lo l = true → ∀ x ∈ l, lo < x.1 ∧ x.1 < 2000000
  | lo, [], _, x, hx => by cases hx
  | lo, (k, v) :: r, h, x, hx => by
    simp only [risesB, Bool.and_eq_true, decide_eq_true_eq] at h
    rcases List.mem_cons.mp hx with rfl | hx
    · exact h.1
    · have := risesB_gt h.2 x hx
      exact ⟨by omega, this.2⟩
theorem risesB_rising : ∀ {lo : Int} {l : List (Int × Str)}, risesB lo l = true → Rising l
  | lo, [], _ => by intro i j x y hx; simp at hx
  | lo, (k, v) :: r, h => by
    simp only [risesB, Bool.and_eq_true, decide_eq_true_eq] at h
    intro i j x y hx hy lt
    cases j with
    | zero => omega
    | succ j =>
      rw [List.getElem?_cons_succ] at hy
      cases i with
      | zero =>
        obtain rfl : (k, v) = x := by simpa using hx
        exact (risesB_gt h.2 y (List.mem_of_getElem? hy)).1
      | succ i =>
        rw [List.getElem?_cons_succ] at hx
        exact risesB_rising h.2 i j x y hx hy (by omega)
/-- a hook with the set beside it -/
def HookS (H : Hook) (a : Addr) (o : Params → Obj) : Hook where
  α := H.α × Option Obj
  obs := fun s => (H.obs s, s.heap.get? a)
  val := fun w => (H.val w, some (o w.params))
  says := fun w h => H.says w h ∧ h.get? a = some (o w.params)
  of := fun w s e => ⟨H.of w s (congrArg Prod.fst e), congrArg Prod.snd e⟩
  keeps := fun w h h' x k => ⟨H.keeps w h h' x.1 k, k _ _ x.2⟩

end Mine
namespace Mine
abbrev pw : Program := PySem.Challenge.pw_tp0048_01
def stAt (i : Nat) : Stmt := (pw.main.body.drop i).head?.getD (.Pass ⟨0,0,0,0⟩)
def fnParams : Stmt → Arguments | .FunctionDef _ a _ _ _ _ _ _ _ _ => a | _ => default
def fnBody : Stmt → List Stmt | .FunctionDef _ _ b _ _ _ _ _ _ _ => b | _ => []
def fnScope : Stmt → Scope | .FunctionDef _ _ _ _ _ _ s _ _ _ => s | _ => default
def kvsOf : List (Option Expr) → List Expr → List (Int × Str)
  | some (.Constant (.int k) _ _) :: ks, .Constant (.str v) _ _ :: vs => (k, v) :: kvsOf ks vs
  | _, _ => []
def dictKeys : Stmt → List (Option Expr) | .Assign _ (.Dict ks _ _) _ => ks | _ => []
def dictVals : Stmt → List Expr | .Assign _ (.Dict _ vs _) _ => vs | _ => []
noncomputable abbrev lifeP (P : Params) : Life := (boot_heap P).life
noncomputable abbrev s0 : Stmt := stAt 0
noncomputable abbrev s1 : Stmt := stAt 1
noncomputable abbrev s2 : Stmt := stAt 2
noncomputable abbrev s3 : Stmt := stAt 3
noncomputable abbrev s4 : Stmt := stAt 4
noncomputable abbrev s5 : Stmt := stAt 5
noncomputable abbrev s6 : Stmt := stAt 6
noncomputable abbrev s7 : Stmt := stAt 7
noncomputable abbrev s8 : Stmt := stAt 8
noncomputable abbrev s9 : Stmt := stAt 9
noncomputable abbrev s10 : Stmt := stAt 10
noncomputable abbrev s11 : Stmt := stAt 11
noncomputable abbrev s12 : Stmt := stAt 12
noncomputable abbrev s13 : Stmt := stAt 13
noncomputable abbrev s14 : Stmt := stAt 14
noncomputable abbrev s15 : Stmt := stAt 15
noncomputable abbrev s16 : Stmt := stAt 16
noncomputable abbrev s17 : Stmt := stAt 17
noncomputable abbrev s18 : Stmt := stAt 18
noncomputable abbrev s19 : Stmt := stAt 19
noncomputable abbrev s20 : Stmt := stAt 20
noncomputable abbrev s21 : Stmt := stAt 21
noncomputable abbrev o11_A (P : Params) : Obj := ⟨(.type "tuple"), none, (.seq (List.toArray []) 0), (List.toArray [])⟩
noncomputable abbrev o12_A (P : Params) : Obj := ⟨.none, none, (.fields (List.toArray [])), (List.toArray [])⟩
noncomputable abbrev o13_A (P : Params) : Obj := ⟨(.type "code"), none, (.fields (List.toArray [(.str (Str.ofString "<module>") 182), (.str (Str.ofString "<module>") 183), (.str (Str.ofString "/claim/cut.py") 184), (.int 1 0), (.int 0 0), (.int 0 0), (.int 0 0), (.int 0 0), (.ref 11), (.bool false), (.int 181 0), (.ref 12), .none, .none, .none, .none, (.int 185 0), (.int 1 0), (.str (Str.ofString "/claim/cut.py") 186)])), (List.toArray [])⟩
noncomputable abbrev o14_A (P : Params) : Obj := ⟨(.type "frame"), none, .plain, (List.toArray [(some (.ref 13)), (some (.ref 3)), (some (.ref 3)), none, (some (.str (Str.ofString "__main__") 164)), none, (some (.ref 0))])⟩
noncomputable abbrev trA (P : Params) : BT := (.node (boot_o_0 P) (.node (boot_o_1 P) (.node (boot_o_3 P) (.node (boot_o_7 P) .nil .nil) (.node (o11_A P) .nil .nil)) (.node (boot_o_5 P) (.node (boot_o_9 P) .nil .nil) (.node (o13_A P) .nil .nil))) (.node (boot_o_2 P) (.node (boot_o_4 P) (.node (boot_o_8 P) .nil .nil) (.node (o12_A P) .nil .nil)) (.node (boot_o_6 P) (.node (boot_o_10 P) .nil .nil) (.node (o14_A P) .nil .nil))))
noncomputable abbrev lsA (P : Params) : List Obj := [boot_o_0 P, boot_o_1 P, boot_o_2 P, boot_o_3 P, boot_o_4 P, boot_o_5 P, boot_o_6 P, boot_o_7 P, boot_o_8 P, boot_o_9 P, boot_o_10 P, o11_A P, o12_A P, o13_A P, o14_A P]
noncomputable abbrev o2_4 (P : Params) : Obj := ⟨.none, none, (.dict (List.toArray [⟨PyData.keyHash P (Str.ofString "type.__subclasses__.Exception.0"), (.str (Str.ofString "type.__subclasses__.Exception.0") 205), (.int 24 0)⟩, ⟨PyData.keyHash P (Str.ofString "type.__subclasses__.Exception.n"), (.str (Str.ofString "type.__subclasses__.Exception.n") 206), (.int 1 0)⟩]) 2), (List.toArray [])⟩
noncomputable abbrev o3_4 (P : Params) : Obj := ⟨(.type "dict"), none, (.dict (List.toArray [⟨PyData.keyHash P (Str.ofString "__name__"), (.str (Str.ofString "__name__") 165), (.str (Str.ofString "cpy313.stringprep") 236)⟩, ⟨PyData.keyHash P (Str.ofString "__doc__"), (.str (Str.ofString "__doc__") 166), .none⟩, ⟨PyData.keyHash P (Str.ofString "__package__"), (.str (Str.ofString "__package__") 167), .none⟩, ⟨PyData.keyHash P (Str.ofString "__loader__"), (.str (Str.ofString "__loader__") 168), (.builtin "__main__.__loader__#opaque")⟩, ⟨PyData.keyHash P (Str.ofString "__spec__"), (.str (Str.ofString "__spec__") 169), .none⟩, ⟨PyData.keyHash P (Str.ofString "__annotations__"), (.str (Str.ofString "__annotations__") 170), (.ref 6)⟩, ⟨PyData.keyHash P (Str.ofString "__builtins__"), (.str (Str.ofString "__builtins__") 171), (.ref 4)⟩, ⟨PyData.keyHash P (Str.ofString "__file__"), (.str (Str.ofString "__file__") 173), (.str (Str.ofString "/claim/cut.py") 172)⟩, ⟨PyData.keyHash P (Str.ofString "__cached__"), (.str (Str.ofString "__cached__") 174), .none⟩, ⟨PyData.keyHash P (Str.ofString "Error"), (.str (Str.ofString "Error") 208), (.ref 24)⟩, ⟨PyData.keyHash P (Str.ofString "error_reply"), (.str (Str.ofString "error_reply") 224), (.ref 37)⟩, ⟨PyData.keyHash P (Str.ofString "parse257"), (.str (Str.ofString "parse257") 235), (.ref 46)⟩]) 12), (List.toArray [])⟩
noncomputable abbrev o12_4 (P : Params) : Obj := ⟨.none, none, (.fields (List.toArray [(.int 2 0), (.int 0 0), (.ref 20), (.int 4 0), (.int 0 0), (.ref 33), (.int 6 0), (.int 0 0), (.ref 45)])), (List.toArray [])⟩
noncomputable abbrev o15_4 (P : Params) : Obj := ⟨(.type "tuple"), none, (.seq (List.toArray [(.type "Exception")]) 0), (List.toArray [])⟩
noncomputable abbrev o16_4 (P : Params) : Obj := ⟨(.type "builtin_function_or_method"), none, (.fields (List.toArray [(.builtin "type.__prepare__"), (.type "type")])), (List.toArray [])⟩
noncomputable abbrev o17_4 (P : Params) : Obj := ⟨(.type "dict"), none, (.dict (List.toArray [⟨PyData.keyHash P (Str.ofString "__module__"), (.str (Str.ofString "__module__") 196), (.str (Str.ofString "cpy313.ftplib") 187)⟩, ⟨PyData.keyHash P (Str.ofString "__qualname__"), (.str (Str.ofString "__qualname__") 198), (.str (Str.ofString "Error") 197)⟩, ⟨PyData.keyHash P (Str.ofString "__firstlineno__"), (.str (Str.ofString "__firstlineno__") 200), (.int 2 199)⟩, ⟨PyData.keyHash P (Str.ofString "__static_attributes__"), (.str (Str.ofString "__static_attributes__") 201), (.ref 22)⟩]) 4), (List.toArray [])⟩
noncomputable abbrev o18_4 (P : Params) : Obj := ⟨(.type "tuple"), none, (.seq (List.toArray []) 0), (List.toArray [])⟩
noncomputable abbrev o19_4 (P : Params) : Obj := ⟨.none, none, (.fields (List.toArray [])), (List.toArray [])⟩
noncomputable abbrev o20_4 (P : Params) : Obj := ⟨(.type "code"), none, (.fields (List.toArray [(.str (Str.ofString "Error") 191), (.str (Str.ofString "Error") 192), (.str (Str.ofString "/claim/cut.py") 193), (.int 2 0), (.int 0 0), (.int 0 0), (.int 0 0), (.int 0 0), (.ref 18), (.bool false), (.int 181 0), (.ref 19), .none, .none, .none, .none, (.int 194 0), (.int 2 0), (.str (Str.ofString "/claim/cut.py") 195)])), (List.toArray [])⟩
noncomputable abbrev o21_4 (P : Params) : Obj := ⟨(.type "frame"), none, .plain, (List.toArray [(some (.ref 20)), (some (.ref 3)), (some (.ref 17)), none, (some (.str (Str.ofString "cpy313.ftplib") 187)), none, (some (.ref 0))])⟩
noncomputable abbrev o22_4 (P : Params) : Obj := ⟨(.type "tuple"), none, (.seq (List.toArray []) 0), (List.toArray [])⟩
noncomputable abbrev o23_4 (P : Params) : Obj := ⟨(.type "dict"), none, (.dict (List.toArray [⟨PyData.keyHash P (Str.ofString "__module__"), (.str (Str.ofString "__module__") 196), (.str (Str.ofString "cpy313.ftplib") 187)⟩, ⟨PyData.keyHash P (Str.ofString "__firstlineno__"), (.str (Str.ofString "__firstlineno__") 200), (.int 2 199)⟩, ⟨PyData.keyHash P (Str.ofString "__static_attributes__"), (.str (Str.ofString "__static_attributes__") 201), (.ref 22)⟩, ⟨PyData.keyHash P (Str.ofString "__weakref__"), (.str (Str.ofString "__weakref__") 203), (.ref 25)⟩, ⟨PyData.keyHash P (Str.ofString "__doc__"), (.str (Str.ofString "__doc__") 204), .none⟩]) 3), (List.toArray [])⟩
noncomputable abbrev o24_4 (P : Params) : Obj := ⟨(.type "type"), none, (.cls { name := (Str.ofString "Error"), bases := [(.type "Exception")], mro := [(.ref 24), (.type "Exception"), (.type "BaseException"), (.type "object")], ns := 23, qualname := (Str.ofString "Error"), hasDict := true, slotNames := [], subclasses := [(.ref 37)], abstract := false, collection := none, hasDel := false }), (List.toArray [(some (.ref 15)), none, (some (.str (Str.ofString "Error") 189)), (some (.str (Str.ofString "Error") 197)), (some (.builtin "Exception.__new__")), (some (.bool true))])⟩
noncomputable abbrev o25_4 (P : Params) : Obj := ⟨(.type "getset_descriptor"), none, (.fields (List.toArray [(.str (Str.ofString "__weakref__") 202), (.ref 24), (.builtin "ExceptionGroup.__weakref__"), .none])), (List.toArray [])⟩
noncomputable abbrev o26_4 (P : Params) : Obj := ⟨(.type "super"), none, (.fields (List.toArray [(.ref 24), (.ref 24), (.ref 24)])), (List.toArray [])⟩
noncomputable abbrev o27_4 (P : Params) : Obj := ⟨(.type "builtin_function_or_method"), none, (.fields (List.toArray [(.builtin "object.__init_subclass__"), (.ref 24)])), (List.toArray [])⟩
noncomputable abbrev o28_4 (P : Params) : Obj := ⟨(.type "tuple"), none, (.seq (List.toArray [(.ref 24)]) 0), (List.toArray [])⟩
noncomputable abbrev o29_4 (P : Params) : Obj := ⟨(.type "builtin_function_or_method"), none, (.fields (List.toArray [(.builtin "type.__prepare__"), (.type "type")])), (List.toArray [])⟩
noncomputable abbrev o30_4 (P : Params) : Obj := ⟨(.type "dict"), none, (.dict (List.toArray [⟨PyData.keyHash P (Str.ofString "__module__"), (.str (Str.ofString "__module__") 216), (.str (Str.ofString "cpy313.ftplib") 187)⟩, ⟨PyData.keyHash P (Str.ofString "__qualname__"), (.str (Str.ofString "__qualname__") 218), (.str (Str.ofString "error_reply") 217)⟩, ⟨PyData.keyHash P (Str.ofString "__firstlineno__"), (.str (Str.ofString "__firstlineno__") 220), (.int 4 219)⟩, ⟨PyData.keyHash P (Str.ofString "__static_attributes__"), (.str (Str.ofString "__static_attributes__") 221), (.ref 35)⟩]) 4), (List.toArray [])⟩
noncomputable abbrev o31_4 (P : Params) : Obj := ⟨(.type "tuple"), none, (.seq (List.toArray []) 0), (List.toArray [])⟩
noncomputable abbrev o32_4 (P : Params) : Obj := ⟨.none, none, (.fields (List.toArray [])), (List.toArray [])⟩
noncomputable abbrev o33_4 (P : Params) : Obj := ⟨(.type "code"), none, (.fields (List.toArray [(.str (Str.ofString "error_reply") 211), (.str (Str.ofString "error_reply") 212), (.str (Str.ofString "/claim/cut.py") 213), (.int 4 0), (.int 0 0), (.int 0 0), (.int 0 0), (.int 0 0), (.ref 31), (.bool false), (.int 181 0), (.ref 32), .none, .none, .none, .none, (.int 214 0), (.int 4 0), (.str (Str.ofString "/claim/cut.py") 215)])), (List.toArray [])⟩
noncomputable abbrev o34_4 (P : Params) : Obj := ⟨(.type "frame"), none, .plain, (List.toArray [(some (.ref 33)), (some (.ref 3)), (some (.ref 30)), none, (some (.str (Str.ofString "cpy313.ftplib") 187)), none, (some (.ref 0))])⟩
noncomputable abbrev o35_4 (P : Params) : Obj := ⟨(.type "tuple"), none, (.seq (List.toArray []) 0), (List.toArray [])⟩
noncomputable abbrev o36_4 (P : Params) : Obj := ⟨(.type "dict"), none, (.dict (List.toArray [⟨PyData.keyHash P (Str.ofString "__module__"), (.str (Str.ofString "__module__") 216), (.str (Str.ofString "cpy313.ftplib") 187)⟩, ⟨PyData.keyHash P (Str.ofString "__firstlineno__"), (.str (Str.ofString "__firstlineno__") 220), (.int 4 219)⟩, ⟨PyData.keyHash P (Str.ofString "__static_attributes__"), (.str (Str.ofString "__static_attributes__") 221), (.ref 35)⟩, ⟨PyData.keyHash P (Str.ofString "__doc__"), (.str (Str.ofString "__doc__") 222), .none⟩]) 2), (List.toArray [])⟩
noncomputable abbrev o37_4 (P : Params) : Obj := ⟨(.type "type"), none, (.cls { name := (Str.ofString "error_reply"), bases := [(.ref 24)], mro := [(.ref 37), (.ref 24), (.type "Exception"), (.type "BaseException"), (.type "object")], ns := 36, qualname := (Str.ofString "error_reply"), hasDict := true, slotNames := [], subclasses := [], abstract := false, collection := none, hasDel := false }), (List.toArray [(some (.ref 28)), none, (some (.str (Str.ofString "error_reply") 209)), (some (.str (Str.ofString "error_reply") 217)), (some (.builtin "Exception.__new__")), (some (.bool true))])⟩
noncomputable abbrev o38_4 (P : Params) : Obj := ⟨(.type "super"), none, (.fields (List.toArray [(.ref 37), (.ref 37), (.ref 37)])), (List.toArray [])⟩
noncomputable abbrev o39_4 (P : Params) : Obj := ⟨(.type "builtin_function_or_method"), none, (.fields (List.toArray [(.builtin "object.__init_subclass__"), (.ref 37)])), (List.toArray [])⟩
noncomputable abbrev o40_4 (P : Params) : Obj := ⟨(.type "tuple"), none, (.seq (List.toArray []) 0), (List.toArray [])⟩
noncomputable abbrev o41_4 (P : Params) : Obj := ⟨.none, none, (.fields (List.toArray [])), (List.toArray [])⟩
noncomputable abbrev o42_4 (P : Params) : Obj := ⟨(.type "tuple"), none, (.seq (List.toArray [(.str (Str.ofString "resp") 228), (.str (Str.ofString "dirname") 229), (.str (Str.ofString "i") 230), (.str (Str.ofString "n") 231), (.str (Str.ofString "c") 232)]) 0), (List.toArray [])⟩
noncomputable abbrev o43_4 (P : Params) : Obj := ⟨(.type "tuple"), none, (.seq (List.toArray []) 0), (List.toArray [])⟩
noncomputable abbrev o44_4 (P : Params) : Obj := ⟨.none, none, (.func { name := (Str.ofString "parse257"), qualname := (Str.ofString "parse257"), params := fnParams s3, body := .stmts (fnBody s3), scope := fnScope s3, globals := 0, closure := [], defaults := .none, kwdefaults := .none, doc := .none, pyModule := .none, annotations := none, code := .none, closureTuple := .none, builtins := 0 }), (List.toArray [])⟩
noncomputable abbrev o45_4 (P : Params) : Obj := ⟨(.type "code"), none, (.fields (List.toArray [(.str (Str.ofString "parse257") 225), (.str (Str.ofString "parse257") 226), (.str (Str.ofString "/claim/cut.py") 227), (.int 6 0), (.int 1 0), (.int 0 0), (.int 0 0), (.int 3 0), (.ref 40), (.bool true), (.int 181 0), (.ref 41), .none, (.ref 42), (.ref 43), (.ref 44), (.int 233 0), (.int 6 0), (.str (Str.ofString "/claim/cut.py") 234)])), (List.toArray [])⟩
noncomputable abbrev o46_4 (P : Params) : Obj := ⟨(.type "function"), none, (.func { name := (Str.ofString "parse257"), qualname := (Str.ofString "parse257"), params := fnParams s3, body := .stmts (fnBody s3), scope := fnScope s3, globals := 3, closure := [], defaults := .none, kwdefaults := .none, doc := .none, pyModule := (.str (Str.ofString "cpy313.ftplib") 187), annotations := none, code := (.ref 45), closureTuple := .none, builtins := 0 }), (List.toArray [])⟩
noncomputable abbrev tr4 (P : Params) : BT := (.node (boot_o_0 P) (.node (boot_o_1 P) (.node (o3_4 P) (.node (boot_o_7 P) (.node (o15_4 P) (.node (o31_4 P) .nil .nil) .nil) (.node (o23_4 P) (.node (o39_4 P) .nil .nil) .nil)) (.node (o11_A P) (.node (o19_4 P) (.node (o35_4 P) .nil .nil) .nil) (.node (o27_4 P) (.node (o43_4 P) .nil .nil) .nil))) (.node (boot_o_5 P) (.node (boot_o_9 P) (.node (o17_4 P) (.node (o33_4 P) .nil .nil) .nil) (.node (o25_4 P) (.node (o41_4 P) .nil .nil) .nil)) (.node (o13_A P) (.node (o21_4 P) (.node (o37_4 P) .nil .nil) .nil) (.node (o29_4 P) (.node (o45_4 P) .nil .nil) .nil)))) (.node (o2_4 P) (.node (boot_o_4 P) (.node (boot_o_8 P) (.node (o16_4 P) (.node (o32_4 P) .nil .nil) .nil) (.node (o24_4 P) (.node (o40_4 P) .nil .nil) .nil)) (.node (o12_4 P) (.node (o20_4 P) (.node (o36_4 P) .nil .nil) .nil) (.node (o28_4 P) (.node (o44_4 P) .nil .nil) .nil))) (.node (boot_o_6 P) (.node (boot_o_10 P) (.node (o18_4 P) (.node (o34_4 P) .nil .nil) .nil) (.node (o26_4 P) (.node (o42_4 P) .nil .nil) .nil)) (.node (o14_A P) (.node (o22_4 P) (.node (o38_4 P) .nil .nil) .nil) (.node (o30_4 P) (.node (o46_4 P) .nil .nil) .nil)))))
noncomputable abbrev ls4 (P : Params) : List Obj := [boot_o_0 P, boot_o_1 P, o2_4 P, o3_4 P, boot_o_4 P, boot_o_5 P, boot_o_6 P, boot_o_7 P, boot_o_8 P, boot_o_9 P, boot_o_10 P, o11_A P, o12_4 P, o13_A P, o14_A P, o15_4 P, o16_4 P, o17_4 P, o18_4 P, o19_4 P, o20_4 P, o21_4 P, o22_4 P, o23_4 P, o24_4 P, o25_4 P, o26_4 P, o27_4 P, o28_4 P, o29_4 P, o30_4 P, o31_4 P, o32_4 P, o33_4 P, o34_4 P, o35_4 P, o36_4 P, o37_4 P, o38_4 P, o39_4 P, o40_4 P, o41_4 P, o42_4 P, o43_4 P, o44_4 P, o45_4 P, o46_4 P]
noncomputable abbrev o3_5 (P : Params) : Obj := ⟨(.type "dict"), none, (.dict (List.toArray [⟨PyData.keyHash P (Str.ofString "__name__"), (.str (Str.ofString "__name__") 165), (.str (Str.ofString "cpy313.stringprep") 236)⟩, ⟨PyData.keyHash P (Str.ofString "__doc__"), (.str (Str.ofString "__doc__") 166), .none⟩, ⟨PyData.keyHash P (Str.ofString "__package__"), (.str (Str.ofString "__package__") 167), .none⟩, ⟨PyData.keyHash P (Str.ofString "__loader__"), (.str (Str.ofString "__loader__") 168), (.builtin "__main__.__loader__#opaque")⟩, ⟨PyData.keyHash P (Str.ofString "__spec__"), (.str (Str.ofString "__spec__") 169), .none⟩, ⟨PyData.keyHash P (Str.ofString "__annotations__"), (.str (Str.ofString "__annotations__") 170), (.ref 6)⟩, ⟨PyData.keyHash P (Str.ofString "__builtins__"), (.str (Str.ofString "__builtins__") 171), (.ref 4)⟩, ⟨PyData.keyHash P (Str.ofString "__file__"), (.str (Str.ofString "__file__") 173), (.str (Str.ofString "/claim/cut.py") 172)⟩, ⟨PyData.keyHash P (Str.ofString "__cached__"), (.str (Str.ofString "__cached__") 174), .none⟩, ⟨PyData.keyHash P (Str.ofString "Error"), (.str (Str.ofString "Error") 208), (.ref 24)⟩, ⟨PyData.keyHash P (Str.ofString "error_reply"), (.str (Str.ofString "error_reply") 224), (.ref 37)⟩, ⟨PyData.keyHash P (Str.ofString "parse257"), (.str (Str.ofString "parse257") 235), (.ref 46)⟩, ⟨PyData.keyHash P (Str.ofString "b1_set"), (.str (Str.ofString "b1_set") 297), (.ref 54)⟩]) 13), (List.toArray [])⟩
noncomputable abbrev o47_5 (P : Params) : Obj := ⟨(.type "list"), none, (.seq (List.toArray [(.int 173 238), (.int 847 239), (.int 6150 240), (.int 6155 241), (.int 6156 242), (.int 6157 243), (.int 8203 244), (.int 8204 245), (.int 8205 246), (.int 8288 247), (.int 65279 248)]) 0), (List.toArray [])⟩
noncomputable abbrev o48_5 (P : Params) : Obj := ⟨(.type "range"), none, (.fields (List.toArray [(.int 65024 249), (.int 65040 250), (.int 1 251)])), (List.toArray [])⟩
noncomputable abbrev o49_5 (P : Params) : Obj := ⟨(.type "list"), none, (.seq (List.toArray [(.int 65024 254), (.int 65025 255), (.int 65026 256), (.int 65027 257), (.int 65028 258), (.int 65029 259), (.int 65030 260), (.int 65031 261), (.int 65032 262), (.int 65033 263), (.int 65034 264), (.int 65035 265), (.int 65036 266), (.int 65037 267), (.int 65038 268), (.int 65039 269)]) 18), (List.toArray [])⟩
noncomputable abbrev o50_5 (P : Params) : Obj := ⟨(.type "range_iterator"), none, (.fields (List.toArray [(.int 65040 0), (.int 0 0), (.int 1 0)])), (List.toArray [])⟩
noncomputable abbrev o51_5 (P : Params) : Obj := ⟨(.type "tuple"), none, (.seq (List.toArray []) 0), (List.toArray [])⟩
noncomputable abbrev o52_5 (P : Params) : Obj := ⟨(.type "StopIteration"), none, (.fields (List.toArray [(.ref 51), .none, .none, .none, (.bool false), .none])), (List.toArray [])⟩
noncomputable abbrev o53_5 (P : Params) : Obj := ⟨(.type "list"), none, (.seq (List.toArray [(.int 173 238), (.int 847 239), (.int 6150 240), (.int 6155 241), (.int 6156 242), (.int 6157 243), (.int 8203 244), (.int 8204 245), (.int 8205 246), (.int 8288 247), (.int 65279 248), (.int 65024 254), (.int 65025 255), (.int 65026 256), (.int 65027 257), (.int 65028 258), (.int 65029 259), (.int 65030 260), (.int 65031 261), (.int 65032 262), (.int 65033 263), (.int 65034 264), (.int 65035 265), (.int 65036 266), (.int 65037 267), (.int 65038 268), (.int 65039 269)]) 0), (List.toArray [])⟩
noncomputable abbrev o54_5 (P : Params) : Obj := ⟨(.type "set"), none, (.set (List.toArray [(65024, (.int 65024 254)), (65025, (.int 65025 255)), (65026, (.int 65026 256)), (65027, (.int 65027 257)), (65028, (.int 65028 258)), (65029, (.int 65029 259)), (6150, (.int 6150 240)), (65030, (.int 65030 260)), (65031, (.int 65031 261)), (65032, (.int 65032 262)), (65033, (.int 65033 263)), (6155, (.int 6155 241)), (6156, (.int 6156 242)), (6157, (.int 6157 243)), (8203, (.int 8203 244)), (8204, (.int 8204 245)), (8205, (.int 8205 246)), (65034, (.int 65034 264)), (65035, (.int 65035 265)), (65036, (.int 65036 266)), (65037, (.int 65037 267)), (65038, (.int 65038 268)), (65039, (.int 65039 269)), (173, (.int 173 238)), (847, (.int 847 239)), (8288, (.int 8288 247)), (65279, (.int 65279 248))]) 29 ⟨127, (List.toArray [0, 1, 2, 3, 4, 5, 6, 7, 8, 9, 10, 11, 12, 13, 14, 15, 16, 17, 18, 19, 20, 21, 22, 45, 79, 96, 127]), (List.toArray []), 0, (!P.followText "set-order"), 2, true⟩), (List.toArray [])⟩
noncomputable abbrev o55_5 (P : Params) : Obj := ⟨(.type "list_iterator"), none, (.fields (List.toArray [.none, (.int 27 0)])), (List.toArray [])⟩
noncomputable abbrev o56_5 (P : Params) : Obj := ⟨(.type "tuple"), none, (.seq (List.toArray []) 0), (List.toArray [])⟩
noncomputable abbrev o57_5 (P : Params) : Obj := ⟨(.type "StopIteration"), none, (.fields (List.toArray [(.ref 56), .none, .none, .none, (.bool false), .none])), (List.toArray [])⟩
noncomputable abbrev tr5 (P : Params) : BT := (.node (boot_o_0 P) (.node (boot_o_1 P) (.node (o3_5 P) (.node (boot_o_7 P) (.node (o15_4 P) (.node (o31_4 P) .nil .nil) (.node (o47_5 P) .nil .nil)) (.node (o23_4 P) (.node (o39_4 P) .nil .nil) (.node (o55_5 P) .nil .nil))) (.node (o11_A P) (.node (o19_4 P) (.node (o35_4 P) .nil .nil) (.node (o51_5 P) .nil .nil)) (.node (o27_4 P) (.node (o43_4 P) .nil .nil) .nil))) (.node (boot_o_5 P) (.node (boot_o_9 P) (.node (o17_4 P) (.node (o33_4 P) .nil .nil) (.node (o49_5 P) .nil .nil)) (.node (o25_4 P) (.node (o41_4 P) .nil .nil) (.node (o57_5 P) .nil .nil))) (.node (o13_A P) (.node (o21_4 P) (.node (o37_4 P) .nil .nil) (.node (o53_5 P) .nil .nil)) (.node (o29_4 P) (.node (o45_4 P) .nil .nil) .nil)))) (.node (o2_4 P) (.node (boot_o_4 P) (.node (boot_o_8 P) (.node (o16_4 P) (.node (o32_4 P) .nil .nil) (.node (o48_5 P) .nil .nil)) (.node (o24_4 P) (.node (o40_4 P) .nil .nil) (.node (o56_5 P) .nil .nil))) (.node (o12_4 P) (.node (o20_4 P) (.node (o36_4 P) .nil .nil) (.node (o52_5 P) .nil .nil)) (.node (o28_4 P) (.node (o44_4 P) .nil .nil) .nil))) (.node (boot_o_6 P) (.node (boot_o_10 P) (.node (o18_4 P) (.node (o34_4 P) .nil .nil) (.node (o50_5 P) .nil .nil)) (.node (o26_4 P) (.node (o42_4 P) .nil .nil) .nil)) (.node (o14_A P) (.node (o22_4 P) (.node (o38_4 P) .nil .nil) (.node (o54_5 P) .nil .nil)) (.node (o30_4 P) (.node (o46_4 P) .nil .nil) .nil)))))
noncomputable abbrev ls5 (P : Params) : List Obj := [boot_o_0 P, boot_o_1 P, o2_4 P, o3_5 P, boot_o_4 P, boot_o_5 P, boot_o_6 P, boot_o_7 P, boot_o_8 P, boot_o_9 P, boot_o_10 P, o11_A P, o12_4 P, o13_A P, o14_A P, o15_4 P, o16_4 P, o17_4 P, o18_4 P, o19_4 P, o20_4 P, o21_4 P, o22_4 P, o23_4 P, o24_4 P, o25_4 P, o26_4 P, o27_4 P, o28_4 P, o29_4 P, o30_4 P, o31_4 P, o32_4 P, o33_4 P, o34_4 P, o35_4 P, o36_4 P, o37_4 P, o38_4 P, o39_4 P, o40_4 P, o41_4 P, o42_4 P, o43_4 P, o44_4 P, o45_4 P, o46_4 P, o47_5 P, o48_5 P, o49_5 P, o50_5 P, o51_5 P, o52_5 P, o53_5 P, o54_5 P, o55_5 P, o56_5 P, o57_5 P]
noncomputable abbrev o3_6 (P : Params) : Obj := ⟨(.type "dict"), none, (.dict (List.toArray [⟨PyData.keyHash P (Str.ofString "__name__"), (.str (Str.ofString "__name__") 165), (.str (Str.ofString "cpy313.stringprep") 236)⟩, ⟨PyData.keyHash P (Str.ofString "__doc__"), (.str (Str.ofString "__doc__") 166), .none⟩, ⟨PyData.keyHash P (Str.ofString "__package__"), (.str (Str.ofString "__package__") 167), .none⟩, ⟨PyData.keyHash P (Str.ofString "__loader__"), (.str (Str.ofString "__loader__") 168), (.builtin "__main__.__loader__#opaque")⟩, ⟨PyData.keyHash P (Str.ofString "__spec__"), (.str (Str.ofString "__spec__") 169), .none⟩, ⟨PyData.keyHash P (Str.ofString "__annotations__"), (.str (Str.ofString "__annotations__") 170), (.ref 6)⟩, ⟨PyData.keyHash P (Str.ofString "__builtins__"), (.str (Str.ofString "__builtins__") 171), (.ref 4)⟩, ⟨PyData.keyHash P (Str.ofString "__file__"), (.str (Str.ofString "__file__") 173), (.str (Str.ofString "/claim/cut.py") 172)⟩, ⟨PyData.keyHash P (Str.ofString "__cached__"), (.str (Str.ofString "__cached__") 174), .none⟩, ⟨PyData.keyHash P (Str.ofString "Error"), (.str (Str.ofString "Error") 208), (.ref 24)⟩, ⟨PyData.keyHash P (Str.ofString "error_reply"), (.str (Str.ofString "error_reply") 224), (.ref 37)⟩, ⟨PyData.keyHash P (Str.ofString "parse257"), (.str (Str.ofString "parse257") 235), (.ref 46)⟩, ⟨PyData.keyHash P (Str.ofString "b1_set"), (.str (Str.ofString "b1_set") 297), (.ref 54)⟩, ⟨PyData.keyHash P (Str.ofString "in_table_b1"), (.str (Str.ofString "in_table_b1") 304), (.ref 64)⟩]) 14), (List.toArray [])⟩
noncomputable abbrev o12_6 (P : Params) : Obj := ⟨.none, none, (.fields (List.toArray [(.int 2 0), (.int 0 0), (.ref 20), (.int 4 0), (.int 0 0), (.ref 33), (.int 6 0), (.int 0 0), (.ref 45), (.int 25 0), (.int 0 0), (.ref 63)])), (List.toArray [])⟩
noncomputable abbrev o58_6 (P : Params) : Obj := ⟨(.type "tuple"), none, (.seq (List.toArray []) 0), (List.toArray [])⟩
noncomputable abbrev o59_6 (P : Params) : Obj := ⟨.none, none, (.fields (List.toArray [])), (List.toArray [])⟩
noncomputable abbrev o60_6 (P : Params) : Obj := ⟨(.type "tuple"), none, (.seq (List.toArray [(.str (Str.ofString "code") 301)]) 0), (List.toArray [])⟩
noncomputable abbrev o61_6 (P : Params) : Obj := ⟨(.type "tuple"), none, (.seq (List.toArray []) 0), (List.toArray [])⟩
noncomputable abbrev o62_6 (P : Params) : Obj := ⟨.none, none, (.func { name := (Str.ofString "in_table_b1"), qualname := (Str.ofString "in_table_b1"), params := fnParams s6, body := .stmts (fnBody s6), scope := fnScope s6, globals := 0, closure := [], defaults := .none, kwdefaults := .none, doc := .none, pyModule := .none, annotations := none, code := .none, closureTuple := .none, builtins := 0 }), (List.toArray [])⟩
noncomputable abbrev o63_6 (P : Params) : Obj := ⟨(.type "code"), none, (.fields (List.toArray [(.str (Str.ofString "in_table_b1") 298), (.str (Str.ofString "in_table_b1") 299), (.str (Str.ofString "/claim/cut.py") 300), (.int 25 0), (.int 1 0), (.int 0 0), (.int 0 0), (.int 3 0), (.ref 58), (.bool true), (.int 181 0), (.ref 59), .none, (.ref 60), (.ref 61), (.ref 62), (.int 302 0), (.int 25 0), (.str (Str.ofString "/claim/cut.py") 303)])), (List.toArray [])⟩
noncomputable abbrev o64_6 (P : Params) : Obj := ⟨(.type "function"), none, (.func { name := (Str.ofString "in_table_b1"), qualname := (Str.ofString "in_table_b1"), params := fnParams s6, body := .stmts (fnBody s6), scope := fnScope s6, globals := 3, closure := [], defaults := .none, kwdefaults := .none, doc := .none, pyModule := (.str (Str.ofString "cpy313.stringprep") 236), annotations := none, code := (.ref 63), closureTuple := .none, builtins := 0 }), (List.toArray [])⟩
noncomputable abbrev tr6 (P : Params) : BT := (.node (boot_o_0 P) (.node (boot_o_1 P) (.node (o3_6 P) (.node (boot_o_7 P) (.node (o15_4 P) (.node (o31_4 P) (.node (o63_6 P) .nil .nil) .nil) (.node (o47_5 P) .nil .nil)) (.node (o23_4 P) (.node (o39_4 P) .nil .nil) (.node (o55_5 P) .nil .nil))) (.node (o11_A P) (.node (o19_4 P) (.node (o35_4 P) .nil .nil) (.node (o51_5 P) .nil .nil)) (.node (o27_4 P) (.node (o43_4 P) .nil .nil) (.node (o59_6 P) .nil .nil)))) (.node (boot_o_5 P) (.node (boot_o_9 P) (.node (o17_4 P) (.node (o33_4 P) .nil .nil) (.node (o49_5 P) .nil .nil)) (.node (o25_4 P) (.node (o41_4 P) .nil .nil) (.node (o57_5 P) .nil .nil))) (.node (o13_A P) (.node (o21_4 P) (.node (o37_4 P) .nil .nil) (.node (o53_5 P) .nil .nil)) (.node (o29_4 P) (.node (o45_4 P) .nil .nil) (.node (o61_6 P) .nil .nil))))) (.node (o2_4 P) (.node (boot_o_4 P) (.node (boot_o_8 P) (.node (o16_4 P) (.node (o32_4 P) (.node (o64_6 P) .nil .nil) .nil) (.node (o48_5 P) .nil .nil)) (.node (o24_4 P) (.node (o40_4 P) .nil .nil) (.node (o56_5 P) .nil .nil))) (.node (o12_6 P) (.node (o20_4 P) (.node (o36_4 P) .nil .nil) (.node (o52_5 P) .nil .nil)) (.node (o28_4 P) (.node (o44_4 P) .nil .nil) (.node (o60_6 P) .nil .nil)))) (.node (boot_o_6 P) (.node (boot_o_10 P) (.node (o18_4 P) (.node (o34_4 P) .nil .nil) (.node (o50_5 P) .nil .nil)) (.node (o26_4 P) (.node (o42_4 P) .nil .nil) (.node (o58_6 P) .nil .nil))) (.node (o14_A P) (.node (o22_4 P) (.node (o38_4 P) .nil .nil) (.node (o54_5 P) .nil .nil)) (.node (o30_4 P) (.node (o46_4 P) .nil .nil) (.node (o62_6 P) .nil .nil))))))
noncomputable abbrev ls6 (P : Params) : List Obj := [boot_o_0 P, boot_o_1 P, o2_4 P, o3_6 P, boot_o_4 P, boot_o_5 P, boot_o_6 P, boot_o_7 P, boot_o_8 P, boot_o_9 P, boot_o_10 P, o11_A P, o12_6 P, o13_A P, o14_A P, o15_4 P, o16_4 P, o17_4 P, o18_4 P, o19_4 P, o20_4 P, o21_4 P, o22_4 P, o23_4 P, o24_4 P, o25_4 P, o26_4 P, o27_4 P, o28_4 P, o29_4 P, o30_4 P, o31_4 P, o32_4 P, o33_4 P, o34_4 P, o35_4 P, o36_4 P, o37_4 P, o38_4 P, o39_4 P, o40_4 P, o41_4 P, o42_4 P, o43_4 P, o44_4 P, o45_4 P, o46_4 P, o47_5 P, o48_5 P, o49_5 P, o50_5 P, o51_5 P, o52_5 P, o53_5 P, o54_5 P, o55_5 P, o56_5 P, o57_5 P, o58_6 P, o59_6 P, o60_6 P, o61_6 P, o62_6 P, o63_6 P, o64_6 P]
noncomputable abbrev kvs : List (Int × Str) := kvsOf (dictKeys s7) (dictVals s7)
noncomputable def dictObjs : List Obj := (dispObjs 305 kvs 38 ++ [dO (entsBy 2 (305 + 51 * 38) (kvs.drop (17 * 38))) 4]).set 0 (dO (entsBy 3 305 (kvs.take (17 * 38)) ++ entsBy 2 (305 + 51 * 38) (kvs.drop (17 * 38))) 650)
noncomputable abbrev big65 (P : Params) : Obj := dictObjs.getD 0 default
noncomputable abbrev big66 (P : Params) : Obj := dictObjs.getD 1 default
noncomputable abbrev big67 (P : Params) : Obj := dictObjs.getD 2 default
noncomputable abbrev big68 (P : Params) : Obj := dictObjs.getD 3 default
noncomputable abbrev big69 (P : Params) : Obj := dictObjs.getD 4 default
noncomputable abbrev big70 (P : Params) : Obj := dictObjs.getD 5 default
noncomputable abbrev big71 (P : Params) : Obj := dictObjs.getD 6 default
noncomputable abbrev big72 (P : Params) : Obj := dictObjs.getD 7 default
noncomputable abbrev big73 (P : Params) : Obj := dictObjs.getD 8 default
noncomputable abbrev big74 (P : Params) : Obj := dictObjs.getD 9 default
noncomputable abbrev big75 (P : Params) : Obj := dictObjs.getD 10 default
noncomputable abbrev big76 (P : Params) : Obj := dictObjs.getD 11 default
noncomputable abbrev big77 (P : Params) : Obj := dictObjs.getD 12 default
noncomputable abbrev big78 (P : Params) : Obj := dictObjs.getD 13 default
noncomputable abbrev big79 (P : Params) : Obj := dictObjs.getD 14 default
noncomputable abbrev big80 (P : Params) : Obj := dictObjs.getD 15 default
noncomputable abbrev big81 (P : Params) : Obj := dictObjs.getD 16 default
noncomputable abbrev big82 (P : Params) : Obj := dictObjs.getD 17 default
noncomputable abbrev big83 (P : Params) : Obj := dictObjs.getD 18 default
noncomputable abbrev big84 (P : Params) : Obj := dictObjs.getD 19 default
noncomputable abbrev big85 (P : Params) : Obj := dictObjs.getD 20 default
noncomputable abbrev big86 (P : Params) : Obj := dictObjs.getD 21 default
noncomputable abbrev big87 (P : Params) : Obj := dictObjs.getD 22 default
noncomputable abbrev big88 (P : Params) : Obj := dictObjs.getD 23 default
noncomputable abbrev big89 (P : Params) : Obj := dictObjs.getD 24 default
noncomputable abbrev big90 (P : Params) : Obj := dictObjs.getD 25 default
noncomputable abbrev big91 (P : Params) : Obj := dictObjs.getD 26 default
noncomputable abbrev big92 (P : Params) : Obj := dictObjs.getD 27 default
noncomputable abbrev big93 (P : Params) : Obj := dictObjs.getD 28 default
noncomputable abbrev big94 (P : Params) : Obj := dictObjs.getD 29 default
noncomputable abbrev big95 (P : Params) : Obj := dictObjs.getD 30 default
noncomputable abbrev big96 (P : Params) : Obj := dictObjs.getD 31 default
noncomputable abbrev big97 (P : Params) : Obj := dictObjs.getD 32 default
noncomputable abbrev big98 (P : Params) : Obj := dictObjs.getD 33 default
noncomputable abbrev big99 (P : Params) : Obj := dictObjs.getD 34 default
noncomputable abbrev big100 (P : Params) : Obj := dictObjs.getD 35 default
noncomputable abbrev big101 (P : Params) : Obj := dictObjs.getD 36 default
noncomputable abbrev big102 (P : Params) : Obj := dictObjs.getD 37 default
noncomputable abbrev big103 (P : Params) : Obj := dictObjs.getD 38 default
noncomputable abbrev o3_7 (P : Params) : Obj := ⟨(.type "dict"), none, (.dict (List.toArray [⟨PyData.keyHash P (Str.ofString "__name__"), (.str (Str.ofString "__name__") 165), (.str (Str.ofString "cpy313.stringprep") 236)⟩, ⟨PyData.keyHash P (Str.ofString "__doc__"), (.str (Str.ofString "__doc__") 166), .none⟩, ⟨PyData.keyHash P (Str.ofString "__package__"), (.str (Str.ofString "__package__") 167), .none⟩, ⟨PyData.keyHash P (Str.ofString "__loader__"), (.str (Str.ofString "__loader__") 168), (.builtin "__main__.__loader__#opaque")⟩, ⟨PyData.keyHash P (Str.ofString "__spec__"), (.str (Str.ofString "__spec__") 169), .none⟩, ⟨PyData.keyHash P (Str.ofString "__annotations__"), (.str (Str.ofString "__annotations__") 170), (.ref 6)⟩, ⟨PyData.keyHash P (Str.ofString "__builtins__"), (.str (Str.ofString "__builtins__") 171), (.ref 4)⟩, ⟨PyData.keyHash P (Str.ofString "__file__"), (.str (Str.ofString "__file__") 173), (.str (Str.ofString "/claim/cut.py") 172)⟩, ⟨PyData.keyHash P (Str.ofString "__cached__"), (.str (Str.ofString "__cached__") 174), .none⟩, ⟨PyData.keyHash P (Str.ofString "Error"), (.str (Str.ofString "Error") 208), (.ref 24)⟩, ⟨PyData.keyHash P (Str.ofString "error_reply"), (.str (Str.ofString "error_reply") 224), (.ref 37)⟩, ⟨PyData.keyHash P (Str.ofString "parse257"), (.str (Str.ofString "parse257") 235), (.ref 46)⟩, ⟨PyData.keyHash P (Str.ofString "b1_set"), (.str (Str.ofString "b1_set") 297), (.ref 54)⟩, ⟨PyData.keyHash P (Str.ofString "in_table_b1"), (.str (Str.ofString "in_table_b1") 304), (.ref 64)⟩, ⟨PyData.keyHash P (Str.ofString "b3_exceptions"), (.str (Str.ofString "b3_exceptions") 2255), (.ref 65)⟩]) 15), (List.toArray [])⟩
noncomputable abbrev tr7 (P : Params) : BT := (.node (boot_o_0 P) (.node (boot_o_1 P) (.node (o3_7 P) (.node (boot_o_7 P) (.node (o15_4 P) (.node (o31_4 P) (.node (o63_6 P) .nil .nil) (.node (big95 P) .nil .nil)) (.node (o47_5 P) (.node (big79 P) .nil .nil) .nil)) (.node (o23_4 P) (.node (o39_4 P) (.node (big71 P) .nil .nil) (.node (big103 P) .nil .nil)) (.node (o55_5 P) (.node (big87 P) .nil .nil) .nil))) (.node (o11_A P) (.node (o19_4 P) (.node (o35_4 P) (.node (big67 P) .nil .nil) (.node (big99 P) .nil .nil)) (.node (o51_5 P) (.node (big83 P) .nil .nil) .nil)) (.node (o27_4 P) (.node (o43_4 P) (.node (big75 P) .nil .nil) .nil) (.node (o59_6 P) (.node (big91 P) .nil .nil) .nil)))) (.node (boot_o_5 P) (.node (boot_o_9 P) (.node (o17_4 P) (.node (o33_4 P) (.node (big65 P) .nil .nil) (.node (big97 P) .nil .nil)) (.node (o49_5 P) (.node (big81 P) .nil .nil) .nil)) (.node (o25_4 P) (.node (o41_4 P) (.node (big73 P) .nil .nil) .nil) (.node (o57_5 P) (.node (big89 P) .nil .nil) .nil))) (.node (o13_A P) (.node (o21_4 P) (.node (o37_4 P) (.node (big69 P) .nil .nil) (.node (big101 P) .nil .nil)) (.node (o53_5 P) (.node (big85 P) .nil .nil) .nil)) (.node (o29_4 P) (.node (o45_4 P) (.node (big77 P) .nil .nil) .nil) (.node (o61_6 P) (.node (big93 P) .nil .nil) .nil))))) (.node (o2_4 P) (.node (boot_o_4 P) (.node (boot_o_8 P) (.node (o16_4 P) (.node (o32_4 P) (.node (o64_6 P) .nil .nil) (.node (big96 P) .nil .nil)) (.node (o48_5 P) (.node (big80 P) .nil .nil) .nil)) (.node (o24_4 P) (.node (o40_4 P) (.node (big72 P) .nil .nil) .nil) (.node (o56_5 P) (.node (big88 P) .nil .nil) .nil))) (.node (o12_6 P) (.node (o20_4 P) (.node (o36_4 P) (.node (big68 P) .nil .nil) (.node (big100 P) .nil .nil)) (.node (o52_5 P) (.node (big84 P) .nil .nil) .nil)) (.node (o28_4 P) (.node (o44_4 P) (.node (big76 P) .nil .nil) .nil) (.node (o60_6 P) (.node (big92 P) .nil .nil) .nil)))) (.node (boot_o_6 P) (.node (boot_o_10 P) (.node (o18_4 P) (.node (o34_4 P) (.node (big66 P) .nil .nil) (.node (big98 P) .nil .nil)) (.node (o50_5 P) (.node (big82 P) .nil .nil) .nil)) (.node (o26_4 P) (.node (o42_4 P) (.node (big74 P) .nil .nil) .nil) (.node (o58_6 P) (.node (big90 P) .nil .nil) .nil))) (.node (o14_A P) (.node (o22_4 P) (.node (o38_4 P) (.node (big70 P) .nil .nil) (.node (big102 P) .nil .nil)) (.node (o54_5 P) (.node (big86 P) .nil .nil) .nil)) (.node (o30_4 P) (.node (o46_4 P) (.node (big78 P) .nil .nil) .nil) (.node (o62_6 P) (.node (big94 P) .nil .nil) .nil))))))
noncomputable abbrev ls7 (P : Params) : List Obj := [boot_o_0 P, boot_o_1 P, o2_4 P, o3_7 P, boot_o_4 P, boot_o_5 P, boot_o_6 P, boot_o_7 P, boot_o_8 P, boot_o_9 P, boot_o_10 P, o11_A P, o12_6 P, o13_A P, o14_A P, o15_4 P, o16_4 P, o17_4 P, o18_4 P, o19_4 P, o20_4 P, o21_4 P, o22_4 P, o23_4 P, o24_4 P, o25_4 P, o26_4 P, o27_4 P, o28_4 P, o29_4 P, o30_4 P, o31_4 P, o32_4 P, o33_4 P, o34_4 P, o35_4 P, o36_4 P, o37_4 P, o38_4 P, o39_4 P, o40_4 P, o41_4 P, o42_4 P, o43_4 P, o44_4 P, o45_4 P, o46_4 P, o47_5 P, o48_5 P, o49_5 P, o50_5 P, o51_5 P, o52_5 P, o53_5 P, o54_5 P, o55_5 P, o56_5 P, o57_5 P, o58_6 P, o59_6 P, o60_6 P, o61_6 P, o62_6 P, o63_6 P, o64_6 P, big65 P, big66 P, big67 P, big68 P, big69 P, big70 P, big71 P, big72 P, big73 P, big74 P, big75 P, big76 P, big77 P, big78 P, big79 P, big80 P, big81 P, big82 P, big83 P, big84 P, big85 P, big86 P, big87 P, big88 P, big89 P, big90 P, big91 P, big92 P, big93 P, big94 P, big95 P, big96 P, big97 P, big98 P, big99 P, big100 P, big101 P, big102 P, big103 P]
noncomputable abbrev o3_F (P : Params) : Obj := ⟨(.type "dict"), none, (.dict (List.toArray [⟨PyData.keyHash P (Str.ofString "__name__"), (.str (Str.ofString "__name__") 165), (.str (Str.ofString "law_tp0048_01") 2300)⟩, ⟨PyData.keyHash P (Str.ofString "__doc__"), (.str (Str.ofString "__doc__") 166), .none⟩, ⟨PyData.keyHash P (Str.ofString "__package__"), (.str (Str.ofString "__package__") 167), .none⟩, ⟨PyData.keyHash P (Str.ofString "__loader__"), (.str (Str.ofString "__loader__") 168), (.builtin "__main__.__loader__#opaque")⟩, ⟨PyData.keyHash P (Str.ofString "__spec__"), (.str (Str.ofString "__spec__") 169), .none⟩, ⟨PyData.keyHash P (Str.ofString "__annotations__"), (.str (Str.ofString "__annotations__") 170), (.ref 6)⟩, ⟨PyData.keyHash P (Str.ofString "__builtins__"), (.str (Str.ofString "__builtins__") 171), (.ref 4)⟩, ⟨PyData.keyHash P (Str.ofString "__file__"), (.str (Str.ofString "__file__") 173), (.str (Str.ofString "/claim/cut.py") 172)⟩, ⟨PyData.keyHash P (Str.ofString "__cached__"), (.str (Str.ofString "__cached__") 174), .none⟩, ⟨PyData.keyHash P (Str.ofString "Error"), (.str (Str.ofString "Error") 208), (.ref 24)⟩, ⟨PyData.keyHash P (Str.ofString "error_reply"), (.str (Str.ofString "error_reply") 224), (.ref 37)⟩, ⟨PyData.keyHash P (Str.ofString "parse257"), (.str (Str.ofString "parse257") 235), (.ref 46)⟩, ⟨PyData.keyHash P (Str.ofString "b1_set"), (.str (Str.ofString "b1_set") 297), (.ref 54)⟩, ⟨PyData.keyHash P (Str.ofString "in_table_b1"), (.str (Str.ofString "in_table_b1") 304), (.ref 64)⟩, ⟨PyData.keyHash P (Str.ofString "b3_exceptions"), (.str (Str.ofString "b3_exceptions") 2255), (.ref 65)⟩, ⟨PyData.keyHash P (Str.ofString "map_table_b3"), (.str (Str.ofString "map_table_b3") 2263), (.ref 110)⟩, ⟨PyData.keyHash P (Str.ofString "_MAX_STRING_SIZE"), (.str (Str.ofString "_MAX_STRING_SIZE") 2267), (.int 40 2266)⟩, ⟨PyData.keyHash P (Str.ofString "_MOVE_COST"), (.str (Str.ofString "_MOVE_COST") 2269), (.int 2 2268)⟩, ⟨PyData.keyHash P (Str.ofString "_CASE_COST"), (.str (Str.ofString "_CASE_COST") 2271), (.int 1 2270)⟩, ⟨PyData.keyHash P (Str.ofString "_substitution_cost"), (.str (Str.ofString "_substitution_cost") 2279), (.ref 117)⟩, ⟨PyData.keyHash P (Str.ofString "_levenshtein_distance"), (.str (Str.ofString "_levenshtein_distance") 2299), (.ref 124)⟩, ⟨PyData.keyHash P (Str.ofString "_law_hidden"), (.str (Str.ofString "_law_hidden") 2309), (.ref 131)⟩, ⟨PyData.keyHash P (Str.ofString "_law_piece"), (.str (Str.ofString "_law_piece") 2319), (.ref 138)⟩, ⟨PyData.keyHash P (Str.ofString "_law_name"), (.str (Str.ofString "_law_name") 2326), (.ref 145)⟩, ⟨PyData.keyHash P (Str.ofString "_law_told"), (.str (Str.ofString "_law_told") 2334), (.ref 152)⟩, ⟨PyData.keyHash P (Str.ofString "_law_prepared"), (.str (Str.ofString "_law_prepared") 2340), (.ref 157)⟩, ⟨PyData.keyHash P (Str.ofString "law"), (.str (Str.ofString "law") 2346), (.ref 162)⟩]) 27), (List.toArray [])⟩
noncomputable abbrev o12_F (P : Params) : Obj := ⟨.none, none, (.fields (List.toArray [(.int 2 0), (.int 0 0), (.ref 20), (.int 4 0), (.int 0 0), (.ref 33), (.int 6 0), (.int 0 0), (.ref 45), (.int 25 0), (.int 0 0), (.ref 63), (.int 28 0), (.int 0 0), (.ref 109), (.int 37 0), (.int 0 0), (.ref 116), (.int 43 0), (.int 0 0), (.ref 123), (.int 82 0), (.int 0 0), (.ref 130), (.int 85 0), (.int 0 0), (.ref 137), (.int 102 0), (.int 0 0), (.ref 144), (.int 104 0), (.int 0 0), (.ref 151), (.int 109 0), (.int 0 0), (.ref 156), (.int 111 0), (.int 0 0), (.ref 161)])), (List.toArray [])⟩
noncomputable abbrev o104_F (P : Params) : Obj := ⟨(.type "tuple"), none, (.seq (List.toArray []) 0), (List.toArray [])⟩
noncomputable abbrev o105_F (P : Params) : Obj := ⟨.none, none, (.fields (List.toArray [])), (List.toArray [])⟩
noncomputable abbrev o106_F (P : Params) : Obj := ⟨(.type "tuple"), none, (.seq (List.toArray [(.str (Str.ofString "code") 2259), (.str (Str.ofString "r") 2260)]) 0), (List.toArray [])⟩
noncomputable abbrev o107_F (P : Params) : Obj := ⟨(.type "tuple"), none, (.seq (List.toArray []) 0), (List.toArray [])⟩
noncomputable abbrev o108_F (P : Params) : Obj := ⟨.none, none, (.func { name := (Str.ofString "map_table_b3"), qualname := (Str.ofString "map_table_b3"), params := fnParams s8, body := .stmts (fnBody s8), scope := fnScope s8, globals := 0, closure := [], defaults := .none, kwdefaults := .none, doc := .none, pyModule := .none, annotations := none, code := .none, closureTuple := .none, builtins := 0 }), (List.toArray [])⟩
noncomputable abbrev o109_F (P : Params) : Obj := ⟨(.type "code"), none, (.fields (List.toArray [(.str (Str.ofString "map_table_b3") 2256), (.str (Str.ofString "map_table_b3") 2257), (.str (Str.ofString "/claim/cut.py") 2258), (.int 28 0), (.int 1 0), (.int 0 0), (.int 0 0), (.int 3 0), (.ref 104), (.bool true), (.int 181 0), (.ref 105), .none, (.ref 106), (.ref 107), (.ref 108), (.int 2261 0), (.int 28 0), (.str (Str.ofString "/claim/cut.py") 2262)])), (List.toArray [])⟩
noncomputable abbrev o110_F (P : Params) : Obj := ⟨(.type "function"), none, (.func { name := (Str.ofString "map_table_b3"), qualname := (Str.ofString "map_table_b3"), params := fnParams s8, body := .stmts (fnBody s8), scope := fnScope s8, globals := 3, closure := [], defaults := .none, kwdefaults := .none, doc := .none, pyModule := (.str (Str.ofString "cpy313.stringprep") 236), annotations := none, code := (.ref 109), closureTuple := .none, builtins := 0 }), (List.toArray [])⟩
noncomputable abbrev o111_F (P : Params) : Obj := ⟨(.type "tuple"), none, (.seq (List.toArray []) 0), (List.toArray [])⟩
noncomputable abbrev o112_F (P : Params) : Obj := ⟨.none, none, (.fields (List.toArray [])), (List.toArray [])⟩
noncomputable abbrev o113_F (P : Params) : Obj := ⟨(.type "tuple"), none, (.seq (List.toArray [(.str (Str.ofString "ch_a") 2275), (.str (Str.ofString "ch_b") 2276)]) 0), (List.toArray [])⟩
noncomputable abbrev o114_F (P : Params) : Obj := ⟨(.type "tuple"), none, (.seq (List.toArray []) 0), (List.toArray [])⟩
noncomputable abbrev o115_F (P : Params) : Obj := ⟨.none, none, (.func { name := (Str.ofString "_substitution_cost"), qualname := (Str.ofString "_substitution_cost"), params := fnParams s13, body := .stmts (fnBody s13), scope := fnScope s13, globals := 0, closure := [], defaults := .none, kwdefaults := .none, doc := .none, pyModule := .none, annotations := none, code := .none, closureTuple := .none, builtins := 0 }), (List.toArray [])⟩
noncomputable abbrev o116_F (P : Params) : Obj := ⟨(.type "code"), none, (.fields (List.toArray [(.str (Str.ofString "_substitution_cost") 2272), (.str (Str.ofString "_substitution_cost") 2273), (.str (Str.ofString "/claim/cut.py") 2274), (.int 37 0), (.int 2 0), (.int 0 0), (.int 0 0), (.int 3 0), (.ref 111), (.bool true), (.int 181 0), (.ref 112), .none, (.ref 113), (.ref 114), (.ref 115), (.int 2277 0), (.int 37 0), (.str (Str.ofString "/claim/cut.py") 2278)])), (List.toArray [])⟩
noncomputable abbrev o117_F (P : Params) : Obj := ⟨(.type "function"), none, (.func { name := (Str.ofString "_substitution_cost"), qualname := (Str.ofString "_substitution_cost"), params := fnParams s13, body := .stmts (fnBody s13), scope := fnScope s13, globals := 3, closure := [], defaults := .none, kwdefaults := .none, doc := .none, pyModule := (.str (Str.ofString "cpy313.traceback") 2264), annotations := none, code := (.ref 116), closureTuple := .none, builtins := 0 }), (List.toArray [])⟩
noncomputable abbrev o118_F (P : Params) : Obj := ⟨(.type "tuple"), none, (.seq (List.toArray []) 0), (List.toArray [])⟩
noncomputable abbrev o119_F (P : Params) : Obj := ⟨.none, none, (.fields (List.toArray [])), (List.toArray [])⟩
noncomputable abbrev o120_F (P : Params) : Obj := ⟨(.type "tuple"), none, (.seq (List.toArray [(.str (Str.ofString "a") 2283), (.str (Str.ofString "b") 2284), (.str (Str.ofString "max_cost") 2285), (.str (Str.ofString "pre") 2286), (.str (Str.ofString "post") 2287), (.str (Str.ofString "row") 2288), (.str (Str.ofString "result") 2289), (.str (Str.ofString "bindex") 2290), (.str (Str.ofString "bchar") 2291), (.str (Str.ofString "distance") 2292), (.str (Str.ofString "minimum") 2293), (.str (Str.ofString "index") 2294), (.str (Str.ofString "substitute") 2295), (.str (Str.ofString "insert_delete") 2296)]) 0), (List.toArray [])⟩
noncomputable abbrev o121_F (P : Params) : Obj := ⟨(.type "tuple"), none, (.seq (List.toArray []) 0), (List.toArray [])⟩
noncomputable abbrev o122_F (P : Params) : Obj := ⟨.none, none, (.func { name := (Str.ofString "_levenshtein_distance"), qualname := (Str.ofString "_levenshtein_distance"), params := fnParams s14, body := .stmts (fnBody s14), scope := fnScope s14, globals := 0, closure := [], defaults := .none, kwdefaults := .none, doc := .none, pyModule := .none, annotations := none, code := .none, closureTuple := .none, builtins := 0 }), (List.toArray [])⟩
noncomputable abbrev o123_F (P : Params) : Obj := ⟨(.type "code"), none, (.fields (List.toArray [(.str (Str.ofString "_levenshtein_distance") 2280), (.str (Str.ofString "_levenshtein_distance") 2281), (.str (Str.ofString "/claim/cut.py") 2282), (.int 43 0), (.int 3 0), (.int 0 0), (.int 0 0), (.int 3 0), (.ref 118), (.bool true), (.int 181 0), (.ref 119), .none, (.ref 120), (.ref 121), (.ref 122), (.int 2297 0), (.int 43 0), (.str (Str.ofString "/claim/cut.py") 2298)])), (List.toArray [])⟩
noncomputable abbrev o124_F (P : Params) : Obj := ⟨(.type "function"), none, (.func { name := (Str.ofString "_levenshtein_distance"), qualname := (Str.ofString "_levenshtein_distance"), params := fnParams s14, body := .stmts (fnBody s14), scope := fnScope s14, globals := 3, closure := [], defaults := .none, kwdefaults := .none, doc := .none, pyModule := (.str (Str.ofString "cpy313.traceback") 2264), annotations := none, code := (.ref 123), closureTuple := .none, builtins := 0 }), (List.toArray [])⟩
noncomputable abbrev o125_F (P : Params) : Obj := ⟨(.type "tuple"), none, (.seq (List.toArray []) 0), (List.toArray [])⟩
noncomputable abbrev o126_F (P : Params) : Obj := ⟨.none, none, (.fields (List.toArray [])), (List.toArray [])⟩
noncomputable abbrev o127_F (P : Params) : Obj := ⟨(.type "tuple"), none, (.seq (List.toArray [(.str (Str.ofString "n") 2305), (.str (Str.ofString "codes") 2306)]) 0), (List.toArray [])⟩
noncomputable abbrev o128_F (P : Params) : Obj := ⟨(.type "tuple"), none, (.seq (List.toArray []) 0), (List.toArray [])⟩
noncomputable abbrev o129_F (P : Params) : Obj := ⟨.none, none, (.func { name := (Str.ofString "_law_hidden"), qualname := (Str.ofString "_law_hidden"), params := fnParams s16, body := .stmts (fnBody s16), scope := fnScope s16, globals := 0, closure := [], defaults := .none, kwdefaults := .none, doc := .none, pyModule := .none, annotations := none, code := .none, closureTuple := .none, builtins := 0 }), (List.toArray [])⟩
noncomputable abbrev o130_F (P : Params) : Obj := ⟨(.type "code"), none, (.fields (List.toArray [(.str (Str.ofString "_law_hidden") 2302), (.str (Str.ofString "_law_hidden") 2303), (.str (Str.ofString "/claim/cut.py") 2304), (.int 82 0), (.int 1 0), (.int 0 0), (.int 0 0), (.int 3 0), (.ref 125), (.bool true), (.int 181 0), (.ref 126), .none, (.ref 127), (.ref 128), (.ref 129), (.int 2307 0), (.int 82 0), (.str (Str.ofString "/claim/cut.py") 2308)])), (List.toArray [])⟩
noncomputable abbrev o131_F (P : Params) : Obj := ⟨(.type "function"), none, (.func { name := (Str.ofString "_law_hidden"), qualname := (Str.ofString "_law_hidden"), params := fnParams s16, body := .stmts (fnBody s16), scope := fnScope s16, globals := 3, closure := [], defaults := .none, kwdefaults := .none, doc := .none, pyModule := (.str (Str.ofString "law_tp0048_01") 2300), annotations := none, code := (.ref 130), closureTuple := .none, builtins := 0 }), (List.toArray [])⟩
noncomputable abbrev o132_F (P : Params) : Obj := ⟨(.type "tuple"), none, (.seq (List.toArray []) 0), (List.toArray [])⟩
noncomputable abbrev o133_F (P : Params) : Obj := ⟨.none, none, (.fields (List.toArray [])), (List.toArray [])⟩
noncomputable abbrev o134_F (P : Params) : Obj := ⟨(.type "tuple"), none, (.seq (List.toArray [(.str (Str.ofString "y") 2313), (.str (Str.ofString "n") 2314), (.str (Str.ofString "rest") 2315), (.str (Str.ofString "letter") 2316)]) 0), (List.toArray [])⟩
noncomputable abbrev o135_F (P : Params) : Obj := ⟨(.type "tuple"), none, (.seq (List.toArray []) 0), (List.toArray [])⟩
noncomputable abbrev o136_F (P : Params) : Obj := ⟨.none, none, (.func { name := (Str.ofString "_law_piece"), qualname := (Str.ofString "_law_piece"), params := fnParams s17, body := .stmts (fnBody s17), scope := fnScope s17, globals := 0, closure := [], defaults := .none, kwdefaults := .none, doc := .none, pyModule := .none, annotations := none, code := .none, closureTuple := .none, builtins := 0 }), (List.toArray [])⟩
noncomputable abbrev o137_F (P : Params) : Obj := ⟨(.type "code"), none, (.fields (List.toArray [(.str (Str.ofString "_law_piece") 2310), (.str (Str.ofString "_law_piece") 2311), (.str (Str.ofString "/claim/cut.py") 2312), (.int 85 0), (.int 1 0), (.int 0 0), (.int 0 0), (.int 3 0), (.ref 132), (.bool true), (.int 181 0), (.ref 133), .none, (.ref 134), (.ref 135), (.ref 136), (.int 2317 0), (.int 85 0), (.str (Str.ofString "/claim/cut.py") 2318)])), (List.toArray [])⟩
noncomputable abbrev o138_F (P : Params) : Obj := ⟨(.type "function"), none, (.func { name := (Str.ofString "_law_piece"), qualname := (Str.ofString "_law_piece"), params := fnParams s17, body := .stmts (fnBody s17), scope := fnScope s17, globals := 3, closure := [], defaults := .none, kwdefaults := .none, doc := .none, pyModule := (.str (Str.ofString "law_tp0048_01") 2300), annotations := none, code := (.ref 137), closureTuple := .none, builtins := 0 }), (List.toArray [])⟩
noncomputable abbrev o139_F (P : Params) : Obj := ⟨(.type "tuple"), none, (.seq (List.toArray []) 0), (List.toArray [])⟩
noncomputable abbrev o140_F (P : Params) : Obj := ⟨.none, none, (.fields (List.toArray [])), (List.toArray [])⟩
noncomputable abbrev o141_F (P : Params) : Obj := ⟨(.type "tuple"), none, (.seq (List.toArray [(.str (Str.ofString "body") 2323)]) 0), (List.toArray [])⟩
noncomputable abbrev o142_F (P : Params) : Obj := ⟨(.type "tuple"), none, (.seq (List.toArray []) 0), (List.toArray [])⟩
noncomputable abbrev o143_F (P : Params) : Obj := ⟨.none, none, (.func { name := (Str.ofString "_law_name"), qualname := (Str.ofString "_law_name"), params := fnParams s18, body := .stmts (fnBody s18), scope := fnScope s18, globals := 0, closure := [], defaults := .none, kwdefaults := .none, doc := .none, pyModule := .none, annotations := none, code := .none, closureTuple := .none, builtins := 0 }), (List.toArray [])⟩
noncomputable abbrev o144_F (P : Params) : Obj := ⟨(.type "code"), none, (.fields (List.toArray [(.str (Str.ofString "_law_name") 2320), (.str (Str.ofString "_law_name") 2321), (.str (Str.ofString "/claim/cut.py") 2322), (.int 102 0), (.int 1 0), (.int 0 0), (.int 0 0), (.int 3 0), (.ref 139), (.bool true), (.int 181 0), (.ref 140), .none, (.ref 141), (.ref 142), (.ref 143), (.int 2324 0), (.int 102 0), (.str (Str.ofString "/claim/cut.py") 2325)])), (List.toArray [])⟩
noncomputable abbrev o145_F (P : Params) : Obj := ⟨(.type "function"), none, (.func { name := (Str.ofString "_law_name"), qualname := (Str.ofString "_law_name"), params := fnParams s18, body := .stmts (fnBody s18), scope := fnScope s18, globals := 3, closure := [], defaults := .none, kwdefaults := .none, doc := .none, pyModule := (.str (Str.ofString "law_tp0048_01") 2300), annotations := none, code := (.ref 144), closureTuple := .none, builtins := 0 }), (List.toArray [])⟩
noncomputable abbrev o146_F (P : Params) : Obj := ⟨(.type "tuple"), none, (.seq (List.toArray []) 0), (List.toArray [])⟩
noncomputable abbrev o147_F (P : Params) : Obj := ⟨.none, none, (.fields (List.toArray [])), (List.toArray [])⟩
noncomputable abbrev o148_F (P : Params) : Obj := ⟨(.type "tuple"), none, (.seq (List.toArray [(.str (Str.ofString "reply") 2330), (.str (Str.ofString "error") 2331)]) 0), (List.toArray [])⟩
noncomputable abbrev o149_F (P : Params) : Obj := ⟨(.type "tuple"), none, (.seq (List.toArray []) 0), (List.toArray [])⟩
noncomputable abbrev o150_F (P : Params) : Obj := ⟨.none, none, (.func { name := (Str.ofString "_law_told"), qualname := (Str.ofString "_law_told"), params := fnParams s19, body := .stmts (fnBody s19), scope := fnScope s19, globals := 0, closure := [], defaults := .none, kwdefaults := .none, doc := .none, pyModule := .none, annotations := none, code := .none, closureTuple := .none, builtins := 0 }), (List.toArray [])⟩
noncomputable abbrev o151_F (P : Params) : Obj := ⟨(.type "code"), none, (.fields (List.toArray [(.str (Str.ofString "_law_told") 2327), (.str (Str.ofString "_law_told") 2328), (.str (Str.ofString "/claim/cut.py") 2329), (.int 104 0), (.int 1 0), (.int 0 0), (.int 0 0), (.int 3 0), (.ref 146), (.bool true), (.int 181 0), (.ref 147), .none, (.ref 148), (.ref 149), (.ref 150), (.int 2332 0), (.int 104 0), (.str (Str.ofString "/claim/cut.py") 2333)])), (List.toArray [])⟩
noncomputable abbrev o152_F (P : Params) : Obj := ⟨(.type "function"), none, (.func { name := (Str.ofString "_law_told"), qualname := (Str.ofString "_law_told"), params := fnParams s19, body := .stmts (fnBody s19), scope := fnScope s19, globals := 3, closure := [], defaults := .none, kwdefaults := .none, doc := .none, pyModule := (.str (Str.ofString "law_tp0048_01") 2300), annotations := none, code := (.ref 151), closureTuple := .none, builtins := 0 }), (List.toArray [])⟩
noncomputable abbrev o153_F (P : Params) : Obj := ⟨(.type "tuple"), none, (.seq (List.toArray []) 0), (List.toArray [])⟩
noncomputable abbrev o154_F (P : Params) : Obj := ⟨.none, none, (.fields (List.toArray [])), (List.toArray [])⟩
noncomputable abbrev o155_F (P : Params) : Obj := ⟨.none, none, (.func { name := (Str.ofString "_law_prepared"), qualname := (Str.ofString "_law_prepared"), params := fnParams s20, body := .stmts (fnBody s20), scope := fnScope s20, globals := 0, closure := [], defaults := .none, kwdefaults := .none, doc := .none, pyModule := .none, annotations := none, code := .none, closureTuple := .none, builtins := 0 }), (List.toArray [])⟩
noncomputable abbrev o156_F (P : Params) : Obj := ⟨(.type "code"), none, (.fields (List.toArray [(.str (Str.ofString "_law_prepared") 2335), (.str (Str.ofString "_law_prepared") 2336), (.str (Str.ofString "/claim/cut.py") 2337), (.int 109 0), (.int 1 0), (.int 0 0), (.int 0 0), (.int 3 0), (.ref 153), (.bool true), (.int 181 0), (.ref 154), .none, .none, .none, (.ref 155), (.int 2338 0), (.int 109 0), (.str (Str.ofString "/claim/cut.py") 2339)])), (List.toArray [])⟩
noncomputable abbrev o157_F (P : Params) : Obj := ⟨(.type "function"), none, (.func { name := (Str.ofString "_law_prepared"), qualname := (Str.ofString "_law_prepared"), params := fnParams s20, body := .stmts (fnBody s20), scope := fnScope s20, globals := 3, closure := [], defaults := .none, kwdefaults := .none, doc := .none, pyModule := (.str (Str.ofString "law_tp0048_01") 2300), annotations := none, code := (.ref 156), closureTuple := .none, builtins := 0 }), (List.toArray [])⟩
noncomputable abbrev o158_F (P : Params) : Obj := ⟨(.type "tuple"), none, (.seq (List.toArray []) 0), (List.toArray [])⟩
noncomputable abbrev o159_F (P : Params) : Obj := ⟨.none, none, (.fields (List.toArray [])), (List.toArray [])⟩
noncomputable abbrev o160_F (P : Params) : Obj := ⟨.none, none, (.func { name := (Str.ofString "law"), qualname := (Str.ofString "law"), params := fnParams s21, body := .stmts (fnBody s21), scope := fnScope s21, globals := 0, closure := [], defaults := .none, kwdefaults := .none, doc := .none, pyModule := .none, annotations := none, code := .none, closureTuple := .none, builtins := 0 }), (List.toArray [])⟩
noncomputable abbrev o161_F (P : Params) : Obj := ⟨(.type "code"), none, (.fields (List.toArray [(.str (Str.ofString "law") 2341), (.str (Str.ofString "law") 2342), (.str (Str.ofString "/claim/cut.py") 2343), (.int 111 0), (.int 1 0), (.int 0 0), (.int 0 0), (.int 3 0), (.ref 158), (.bool true), (.int 181 0), (.ref 159), .none, .none, .none, (.ref 160), (.int 2344 0), (.int 111 0), (.str (Str.ofString "/claim/cut.py") 2345)])), (List.toArray [])⟩
noncomputable abbrev o162_F (P : Params) : Obj := ⟨(.type "function"), none, (.func { name := (Str.ofString "law"), qualname := (Str.ofString "law"), params := fnParams s21, body := .stmts (fnBody s21), scope := fnScope s21, globals := 3, closure := [], defaults := .none, kwdefaults := .none, doc := .none, pyModule := (.str (Str.ofString "law_tp0048_01") 2300), annotations := none, code := (.ref 161), closureTuple := .none, builtins := 0 }), (List.toArray [])⟩
noncomputable abbrev trF (P : Params) : BT := (.node (boot_o_0 P) (.node (boot_o_1 P) (.node (o3_F P) (.node (boot_o_7 P) (.node (o15_4 P) (.node (o31_4 P) (.node (o63_6 P) (.node (o127_F P) .nil .nil) .nil) (.node (big95 P) (.node (o159_F P) .nil .nil) .nil)) (.node (o47_5 P) (.node (big79 P) (.node (o143_F P) .nil .nil) .nil) (.node (o111_F P) .nil .nil))) (.node (o23_4 P) (.node (o39_4 P) (.node (big71 P) (.node (o135_F P) .nil .nil) .nil) (.node (big103 P) .nil .nil)) (.node (o55_5 P) (.node (big87 P) (.node (o151_F P) .nil .nil) .nil) (.node (o119_F P) .nil .nil)))) (.node (o11_A P) (.node (o19_4 P) (.node (o35_4 P) (.node (big67 P) (.node (o131_F P) .nil .nil) .nil) (.node (big99 P) .nil .nil)) (.node (o51_5 P) (.node (big83 P) (.node (o147_F P) .nil .nil) .nil) (.node (o115_F P) .nil .nil))) (.node (o27_4 P) (.node (o43_4 P) (.node (big75 P) (.node (o139_F P) .nil .nil) .nil) (.node (o107_F P) .nil .nil)) (.node (o59_6 P) (.node (big91 P) (.node (o155_F P) .nil .nil) .nil) (.node (o123_F P) .nil .nil))))) (.node (boot_o_5 P) (.node (boot_o_9 P) (.node (o17_4 P) (.node (o33_4 P) (.node (big65 P) (.node (o129_F P) .nil .nil) .nil) (.node (big97 P) (.node (o161_F P) .nil .nil) .nil)) (.node (o49_5 P) (.node (big81 P) (.node (o145_F P) .nil .nil) .nil) (.node (o113_F P) .nil .nil))) (.node (o25_4 P) (.node (o41_4 P) (.node (big73 P) (.node (o137_F P) .nil .nil) .nil) (.node (o105_F P) .nil .nil)) (.node (o57_5 P) (.node (big89 P) (.node (o153_F P) .nil .nil) .nil) (.node (o121_F P) .nil .nil)))) (.node (o13_A P) (.node (o21_4 P) (.node (o37_4 P) (.node (big69 P) (.node (o133_F P) .nil .nil) .nil) (.node (big101 P) .nil .nil)) (.node (o53_5 P) (.node (big85 P) (.node (o149_F P) .nil .nil) .nil) (.node (o117_F P) .nil .nil))) (.node (o29_4 P) (.node (o45_4 P) (.node (big77 P) (.node (o141_F P) .nil .nil) .nil) (.node (o109_F P) .nil .nil)) (.node (o61_6 P) (.node (big93 P) (.node (o157_F P) .nil .nil) .nil) (.node (o125_F P) .nil .nil)))))) (.node (o2_4 P) (.node (boot_o_4 P) (.node (boot_o_8 P) (.node (o16_4 P) (.node (o32_4 P) (.node (o64_6 P) (.node (o128_F P) .nil .nil) .nil) (.node (big96 P) (.node (o160_F P) .nil .nil) .nil)) (.node (o48_5 P) (.node (big80 P) (.node (o144_F P) .nil .nil) .nil) (.node (o112_F P) .nil .nil))) (.node (o24_4 P) (.node (o40_4 P) (.node (big72 P) (.node (o136_F P) .nil .nil) .nil) (.node (o104_F P) .nil .nil)) (.node (o56_5 P) (.node (big88 P) (.node (o152_F P) .nil .nil) .nil) (.node (o120_F P) .nil .nil)))) (.node (o12_F P) (.node (o20_4 P) (.node (o36_4 P) (.node (big68 P) (.node (o132_F P) .nil .nil) .nil) (.node (big100 P) .nil .nil)) (.node (o52_5 P) (.node (big84 P) (.node (o148_F P) .nil .nil) .nil) (.node (o116_F P) .nil .nil))) (.node (o28_4 P) (.node (o44_4 P) (.node (big76 P) (.node (o140_F P) .nil .nil) .nil) (.node (o108_F P) .nil .nil)) (.node (o60_6 P) (.node (big92 P) (.node (o156_F P) .nil .nil) .nil) (.node (o124_F P) .nil .nil))))) (.node (boot_o_6 P) (.node (boot_o_10 P) (.node (o18_4 P) (.node (o34_4 P) (.node (big66 P) (.node (o130_F P) .nil .nil) .nil) (.node (big98 P) (.node (o162_F P) .nil .nil) .nil)) (.node (o50_5 P) (.node (big82 P) (.node (o146_F P) .nil .nil) .nil) (.node (o114_F P) .nil .nil))) (.node (o26_4 P) (.node (o42_4 P) (.node (big74 P) (.node (o138_F P) .nil .nil) .nil) (.node (o106_F P) .nil .nil)) (.node (o58_6 P) (.node (big90 P) (.node (o154_F P) .nil .nil) .nil) (.node (o122_F P) .nil .nil)))) (.node (o14_A P) (.node (o22_4 P) (.node (o38_4 P) (.node (big70 P) (.node (o134_F P) .nil .nil) .nil) (.node (big102 P) .nil .nil)) (.node (o54_5 P) (.node (big86 P) (.node (o150_F P) .nil .nil) .nil) (.node (o118_F P) .nil .nil))) (.node (o30_4 P) (.node (o46_4 P) (.node (big78 P) (.node (o142_F P) .nil .nil) .nil) (.node (o110_F P) .nil .nil)) (.node (o62_6 P) (.node (big94 P) (.node (o158_F P) .nil .nil) .nil) (.node (o126_F P) .nil .nil)))))))
noncomputable abbrev lsF (P : Params) : List Obj := [boot_o_0 P, boot_o_1 P, o2_4 P, o3_F P, boot_o_4 P, boot_o_5 P, boot_o_6 P, boot_o_7 P, boot_o_8 P, boot_o_9 P, boot_o_10 P, o11_A P, o12_F P, o13_A P, o14_A P, o15_4 P, o16_4 P, o17_4 P, o18_4 P, o19_4 P, o20_4 P, o21_4 P, o22_4 P, o23_4 P, o24_4 P, o25_4 P, o26_4 P, o27_4 P, o28_4 P, o29_4 P, o30_4 P, o31_4 P, o32_4 P, o33_4 P, o34_4 P, o35_4 P, o36_4 P, o37_4 P, o38_4 P, o39_4 P, o40_4 P, o41_4 P, o42_4 P, o43_4 P, o44_4 P, o45_4 P, o46_4 P, o47_5 P, o48_5 P, o49_5 P, o50_5 P, o51_5 P, o52_5 P, o53_5 P, o54_5 P, o55_5 P, o56_5 P, o57_5 P, o58_6 P, o59_6 P, o60_6 P, o61_6 P, o62_6 P, o63_6 P, o64_6 P, big65 P, big66 P, big67 P, big68 P, big69 P, big70 P, big71 P, big72 P, big73 P, big74 P, big75 P, big76 P, big77 P, big78 P, big79 P, big80 P, big81 P, big82 P, big83 P, big84 P, big85 P, big86 P, big87 P, big88 P, big89 P, big90 P, big91 P, big92 P, big93 P, big94 P, big95 P, big96 P, big97 P, big98 P, big99 P, big100 P, big101 P, big102 P, big103 P, o104_F P, o105_F P, o106_F P, o107_F P, o108_F P, o109_F P, o110_F P, o111_F P, o112_F P, o113_F P, o114_F P, o115_F P, o116_F P, o117_F P, o118_F P, o119_F P, o120_F P, o121_F P, o122_F P, o123_F P, o124_F P, o125_F P, o126_F P, o127_F P, o128_F P, o129_F P, o130_F P, o131_F P, o132_F P, o133_F P, o134_F P, o135_F P, o136_F P, o137_F P, o138_F P, o139_F P, o140_F P, o141_F P, o142_F P, o143_F P, o144_F P, o145_F P, o146_F P, o147_F P, o148_F P, o149_F P, o150_F P, o151_F P, o152_F P, o153_F P, o154_F P, o155_F P, o156_F P, o157_F P, o158_F P, o159_F P, o160_F P, o161_F P, o162_F P]
noncomputable abbrev trM (P : Params) : BT := (.node (boot_o_0 P) (.node (boot_o_1 P) (.node (o3_6 P) (.node (boot_o_7 P) (.node (o15_4 P) (.node (o31_4 P) (.node (o63_6 P) .nil .nil) (.node (big95 P) .nil .nil)) (.node (o47_5 P) (.node (big79 P) .nil .nil) .nil)) (.node (o23_4 P) (.node (o39_4 P) (.node (big71 P) .nil .nil) (.node (big103 P) .nil .nil)) (.node (o55_5 P) (.node (big87 P) .nil .nil) .nil))) (.node (o11_A P) (.node (o19_4 P) (.node (o35_4 P) (.node (big67 P) .nil .nil) (.node (big99 P) .nil .nil)) (.node (o51_5 P) (.node (big83 P) .nil .nil) .nil)) (.node (o27_4 P) (.node (o43_4 P) (.node (big75 P) .nil .nil) .nil) (.node (o59_6 P) (.node (big91 P) .nil .nil) .nil)))) (.node (boot_o_5 P) (.node (boot_o_9 P) (.node (o17_4 P) (.node (o33_4 P) (.node (big65 P) .nil .nil) (.node (big97 P) .nil .nil)) (.node (o49_5 P) (.node (big81 P) .nil .nil) .nil)) (.node (o25_4 P) (.node (o41_4 P) (.node (big73 P) .nil .nil) .nil) (.node (o57_5 P) (.node (big89 P) .nil .nil) .nil))) (.node (o13_A P) (.node (o21_4 P) (.node (o37_4 P) (.node (big69 P) .nil .nil) (.node (big101 P) .nil .nil)) (.node (o53_5 P) (.node (big85 P) .nil .nil) .nil)) (.node (o29_4 P) (.node (o45_4 P) (.node (big77 P) .nil .nil) .nil) (.node (o61_6 P) (.node (big93 P) .nil .nil) .nil))))) (.node (o2_4 P) (.node (boot_o_4 P) (.node (boot_o_8 P) (.node (o16_4 P) (.node (o32_4 P) (.node (o64_6 P) .nil .nil) (.node (big96 P) .nil .nil)) (.node (o48_5 P) (.node (big80 P) .nil .nil) .nil)) (.node (o24_4 P) (.node (o40_4 P) (.node (big72 P) .nil .nil) .nil) (.node (o56_5 P) (.node (big88 P) .nil .nil) .nil))) (.node (o12_6 P) (.node (o20_4 P) (.node (o36_4 P) (.node (big68 P) .nil .nil) (.node (big100 P) .nil .nil)) (.node (o52_5 P) (.node (big84 P) .nil .nil) .nil)) (.node (o28_4 P) (.node (o44_4 P) (.node (big76 P) .nil .nil) .nil) (.node (o60_6 P) (.node (big92 P) .nil .nil) .nil)))) (.node (boot_o_6 P) (.node (boot_o_10 P) (.node (o18_4 P) (.node (o34_4 P) (.node (big66 P) .nil .nil) (.node (big98 P) .nil .nil)) (.node (o50_5 P) (.node (big82 P) .nil .nil) .nil)) (.node (o26_4 P) (.node (o42_4 P) (.node (big74 P) .nil .nil) .nil) (.node (o58_6 P) (.node (big90 P) .nil .nil) .nil))) (.node (o14_A P) (.node (o22_4 P) (.node (o38_4 P) (.node (big70 P) .nil .nil) (.node (big102 P) .nil .nil)) (.node (o54_5 P) (.node (big86 P) .nil .nil) .nil)) (.node (o30_4 P) (.node (o46_4 P) (.node (big78 P) .nil .nil) .nil) (.node (o62_6 P) (.node (big94 P) .nil .nil) .nil))))))
noncomputable def env0 : Env := { scope := pw.main.scope, locals := mainNs, globals := mainNs, cells := [], code := .ref 13, frame := some 14 }
abbrev ann0 : Option Value := some (.ref 6)
noncomputable abbrev cE : Code := .body (behindTheImports pw) env0
noncomputable abbrev SA (w : World) (os : OsState) : SharedT := ⟨trA w.params, 15, lifeP w.params, #[], boot_drawn, 187, os⟩
noncomputable abbrev S4 (w : World) (os : OsState) : SharedT := ⟨tr4 w.params, 47, lifeP w.params, #[], boot_drawn, 238, os⟩
noncomputable abbrev S5 (w : World) (os : OsState) : SharedT := ⟨tr5 w.params, 58, lifeP w.params, #[], boot_drawn, 298, os⟩
noncomputable abbrev S6 (w : World) (os : OsState) : SharedT := ⟨tr6 w.params, 65, lifeP w.params, #[], boot_drawn, 305, os⟩
noncomputable abbrev S7 (w : World) (os : OsState) : SharedT := ⟨tr7 w.params, 104, lifeP w.params, #[], boot_drawn, 2256, os⟩
noncomputable abbrev SF (w : World) (os : OsState) : SharedT := ⟨trF w.params, 163, lifeP w.params, #[], boot_drawn, 2347, os⟩
noncomputable abbrev SM (w : World) (os : OsState) : SharedT := ⟨trM w.params, 104, lifeP w.params, #[], boot_drawn, 2255, os⟩
theorem piece0 (w : World) : (fun os => segRunT treeTable pw w 11 ann0 1 461 (SA w os) (piecesOf [s0, s1, s2, s3, s4] env0 cE ⟨0, 0, 0, 0⟩ fr0)) = fun os => some (.next, S4 w os, cE, ⟨23, 0, 23, 8⟩) := by
  rw [PySem.W.Fast.te10110043849684766642, PySem.W.Fast.te14364793385576792824]
  kernel_rfl
theorem piece1 (w : World) : (fun os => segRunT treeTable pw w 11 ann0 1 999 (S4 w os) (piecesOf [s5] env0 cE ⟨23, 0, 23, 8⟩ fr0)) = fun os => some (.next, S5 w os, cE, ⟨24, 0, 24, 6⟩) := by
  refine byRow2 "set-order" (P := fun w => (fun os => segRunT treeTable pw w 11 ann0 1 999 (S4 w os) (piecesOf [s5] env0 cE ⟨23, 0, 23, 8⟩ fr0)) = fun os => some (.next, S5 w os, cE, ⟨24, 0, 24, 6⟩)) (fun w => ?_) (fun w => ?_) w
  · refine byRow2 "special-get-raises" (P := fun w => (fun os => segRunT treeTable pw (w.withFollow "set-order" false) 11 ann0 1 999 (S4 (w.withFollow "set-order" false) os) (piecesOf [s5] env0 cE ⟨23, 0, 23, 8⟩ fr0)) = fun os => some (.next, S5 (w.withFollow "set-order" false) os, cE, ⟨24, 0, 24, 6⟩)) (fun w => ?_) (fun w => ?_) w
    · rw [PySem.W.Fast.te10110043849684766642, PySem.W.Fast.te14364793385576792824]; kernel_rfl
    · rw [PySem.W.Fast.te10110043849684766642, PySem.W.Fast.te14364793385576792824]; kernel_rfl
  · refine byRow2 "special-get-raises" (P := fun w => (fun os => segRunT treeTable pw (w.withFollow "set-order" true) 11 ann0 1 999 (S4 (w.withFollow "set-order" true) os) (piecesOf [s5] env0 cE ⟨23, 0, 23, 8⟩ fr0)) = fun os => some (.next, S5 (w.withFollow "set-order" true) os, cE, ⟨24, 0, 24, 6⟩)) (fun w => ?_) (fun w => ?_) w
    · rw [PySem.W.Fast.te10110043849684766642, PySem.W.Fast.te14364793385576792824]; kernel_rfl
    · rw [PySem.W.Fast.te10110043849684766642, PySem.W.Fast.te14364793385576792824]; kernel_rfl
theorem piece2 (w : World) : (fun os => segRunT treeTable pw w 11 ann0 1 30 (S5 w os) (piecesOf [s6] env0 cE ⟨24, 0, 24, 6⟩ fr0)) = fun os => some (.next, S6 w os, cE, ⟨25, 0, 26, 30⟩) := by
  rw [PySem.W.Fast.te10110043849684766642, PySem.W.Fast.te14364793385576792824]
  kernel_rfl
theorem piece4 (w : World) : (fun os => segRunT treeTable pw w 11 ann0 1 321 (S7 w os) (piecesOf [s8, s9, s10, s11, s12, s13, s14, s15, s16, s17, s18, s19, s20, s21] env0 cE ⟨27, 0, 27, 13⟩ fr0)) = fun os => some (.next, SF w os, cE, ⟨111, 0, 138, 118⟩) := by
  rw [PySem.W.Fast.te10110043849684766642, PySem.W.Fast.te14364793385576792824]
  kernel_rfl
def stPos : Stmt → Pos | .Assign _ _ p => p | _ => ⟨0,0,0,0⟩
def stTargets : Stmt → List Expr | .Assign ts _ _ => ts | _ => []
def stValue : Stmt → Expr | .Assign _ v _ => v | _ => .Name "" ⟨0,0,0,0⟩
def exPos : Expr → Pos | .Dict _ _ p => p | _ => ⟨0,0,0,0⟩
def okKV : List (Option Expr) → List Expr → Bool
  | [], [] => true
  | some (.Constant (.int _) _ _) :: ks, .Constant (.str _) _ _ :: vs => okKV ks vs
  | _, _ => false
theorem items_of (env : Env) (p : Pos) (ks : List (Option Expr)) (vs : List Expr) : okKV ks vs = true → (evalEachOpt ks env).zip ((evalEach vs env).map fun v => do let x ← v; standAt p; pure x) = (kvsOf ks vs).map (itemOf p) := by
  fun_induction okKV ks vs with
  | case1 => intro _; rfl
  | case2 k a b ks v c d vs ih =>
    intro h
    show (some (mkInt k), (do let x ← mkText v; standAt p; pure x)) :: (evalEachOpt ks env).zip ((evalEach vs env).map fun v => do let x ← v; standAt p; pure x) = itemOf p (k, v) :: (kvsOf ks vs).map (itemOf p)
    rw [ih h]
    rfl
  | case3 => intro h; cases h
theorem ok7 : okKV (dictKeys s7) (dictVals s7) = true := by kernel_rfl
theorem exec7 : exec s7 env0 = (do standAt (stPos s7); let v ← eval (stValue s7) env0; assignStores env0 v none ((assignEach (stTargets s7) env0).map (·.2))) := by kernel_rfl
theorem eval7 : eval (stValue s7) env0 = (do standAt (exPos (stValue s7)); dictDisplay ((evalEachOpt (dictKeys s7) env0).zip ((evalEach (dictVals s7) env0).map fun v => do let x ← v; standAt (exPos (stValue s7)); pure x))) := by kernel_rfl
theorem rises7 : risesB (-1) kvs = true := by kernel_rfl
theorem rising7 : Rising kvs := risesB_rising rises7
theorem keys7 : KeysOk kvs := fun x hx => by
  have := risesB_gt rises7 x hx
  exact ⟨by omega, this.2⟩
theorem len7 : kvs.length = 650 := by kernel_rfl
theorem tree6 (P : Params) : (tr6 P).list 65 = ls6 P := by kernel_rfl
theorem go7 (w : World) (os : OsState) : Go pw w cE (eval (stValue s7) env0) (S6 w os).abs (400 * 650 + 401) (.ref 65)
    { (S6 w os).abs with heap := HS (ls6 w.params) (lifeP w.params) dictObjs, toks := 2255 } := by
  rw [eval7, items_of env0 _ _ _ ok7]
  refine Go.le (Go.bind (Go.standAt _) (M := 400 * 650 + 400) ?_) (Nat.le_refl _)
  have hs : (S6 w os).abs.heap = HS (ls6 w.params) (lifeP w.params) [] := by
    show absHeap (tr6 w.params) 65 (lifeP w.params) = _
    unfold absHeap
    rw [tree6, HS, List.append_nil]
  have hl : (ls6 w.params).length = 65 := rfl
  have h := Go.display (pw := pw) (w := w) (c := cE) (s := (S6 w os).abs) (base := ls6 w.params) (life := lifeP w.params) (p := exPos (stValue s7)) (kvs := kvs) (Q := 37) (r := 4) hs (by rw [hl]; omega) rising7 keys7 (by rw [len7]; omega) (by rw [len7]; omega) (by rw [len7]; omega) (by rw [len7]) (by rw [len7])
  rw [len7, hl] at h
  exact h
theorem treeM (P : Params) : (trM P).list 104 = ls6 P ++ dictObjs := by kernel_rfl
theorem rest7 (w : World) (os : OsState) (pos : Pos) : segRunT treeTable pw w 11 ann0 1 12 (SM w os) ⟨(assignStores env0 (.ref 65) none ((assignEach (stTargets s7) env0).map (·.2))).wrap doneF deadEnd id id, cE, pos, fr0⟩ = some (.next, S7 w os, cE, ⟨27, 0, 27, 13⟩) := by
  rw [PySem.W.Fast.te10110043849684766642, PySem.W.Fast.te14364793385576792824]
  kernel_rfl
theorem piece3 (w : World) (os : OsState) (pos : Pos) : ∃ n, n ≤ 300000 ∧ segRun treeTable pw w 11 ann0 1 n (S6 w os).abs (pieceOf s7 env0 cE pos fr0) = some (.next, (S7 w os).abs, cE, ⟨27, 0, 27, 13⟩) := by
  have g : Go pw w cE (do standAt (stPos s7); eval (stValue s7) env0) (S6 w os).abs (1 + (400 * 650 + 401)) (.ref 65) (SM w os).abs := by
    refine Go.bind (Go.standAt _) ?_
    have h := go7 w os
    have e : ({ (S6 w os).abs with heap := HS (ls6 w.params) (lifeP w.params) dictObjs, toks := 2255 } : Shared) = (SM w os).abs := by
      show Shared.mk (HS (ls6 w.params) (lifeP w.params) dictObjs) _ _ _ _ = Shared.mk (absHeap (trM w.params) 104 (lifeP w.params)) _ _ _ _
      unfold absHeap
      rw [treeM]
      rfl
    rw [e] at h
    exact h
  obtain ⟨n, p', hn, h⟩ := g (fun v => (assignStores env0 v none ((assignEach (stTargets s7) env0).map (·.2))).wrap doneF deadEnd id id) deadEnd id id pos
  have e : (exec s7 env0).wrap doneF deadEnd id id = Sem.wrap (fun v => (assignStores env0 v none ((assignEach (stTargets s7) env0).map (·.2))).wrap doneF deadEnd id id) deadEnd id id (do standAt (stPos s7); eval (stValue s7) env0) := by
    rw [exec7]
    rw [show (do standAt (stPos s7); let v ← eval (stValue s7) env0; assignStores env0 v none ((assignEach (stTargets s7) env0).map (·.2))) = (do standAt (stPos s7); eval (stValue s7) env0) >>= fun v => assignStores env0 v none ((assignEach (stTargets s7) env0).map (·.2)) from rfl]
    rw [Sem.bind_eq_wrap', Sem.wrap_wrap]
    rfl
  refine ⟨n + 12, by omega, ?_⟩
  show segRun treeTable pw w 11 ann0 1 (n + 12) (S6 w os).abs ⟨(exec s7 env0).wrap doneF deadEnd id id, cE, pos, fr0⟩ = _
  rw [e]
  exact seg_go h (segRun_of (rest7 w os p'))
theorem pre0 (w : World) : (fun os => topGo treeTable pw w 11 ann0 12 ⟨boot_heap w.params, #[], boot_drawn, boot_toks, os⟩ (topStub pw)) = fun os => some ((SA w os).abs, ⟨denote treeTable cE, cE, ⟨0,0,0,0⟩, fr0⟩) := by
  rw [PySem.W.Fast.te15667345088766844465, PySem.W.Fast.te14364793385576792824, PySem.W.Fast.te11892475500146522536]
  kernel_rfl
theorem block0 (w : World) : (fun os => segRun treeTable pw w 11 ann0 1 1 (SA w os).abs (blockOf (behindTheImports pw) env0 cE ⟨0,0,0,0⟩ fr0)) = fun os => some (.next, (SA w os).abs, cE, ⟨0,0,0,0⟩) := by
  rw [PySem.W.Fast.te14374325043358763698, PySem.W.Fast.te14364793385576792824]
  kernel_rfl
noncomputable abbrev HF (P : Params) : Heap := absHeap (trF P) 163 (lifeP P)
theorem body0 : behindTheImports pw = [s0, s1, s2, s3, s4] ++ ([s5] ++ ([s6] ++ (s7 :: ([s8, s9, s10, s11, s12, s13, s14, s15, s16, s17, s18, s19, s20, s21] ++ [])))) := by kernel_rfl
theorem fin0 (w : World) : (fun os => topRun treeTable pw w 11 ann0 3 (SF w os).abs ⟨doneF .next, cE, ⟨111, 0, 138, 118⟩, fr0⟩) = fun os => some (SF w os).abs := by
  rw [PySem.W.Fast.te14082659384304107361, PySem.W.Fast.te14364793385576792824]
  kernel_rfl
theorem run0 (w : World) (os : OsState) : topRun treeTable pw w 11 ann0 310000 ⟨boot_heap w.params, #[], boot_drawn, boot_toks, os⟩ (topStub pw) = some ⟨HF w.params, #[], boot_drawn, 2347, os⟩ := by
  obtain ⟨n, hn, h3⟩ := piece3 w os ⟨25, 0, 26, 30⟩
  have f := congrFun (fin0 w) os
  have k4 := piece_app (rest := []) (segRun_of (congrFun (piece4 w) os)) (piece_nil (env := env0) f)
  have k3 := piece_cons h3 k4
  have k2 := piece_app (segRun_of (congrFun (piece2 w) os)) k3
  have k1 := piece_app (segRun_of (congrFun (piece1 w) os)) k2
  have k0 := piece_app (segRun_of (congrFun (piece0 w) os)) k1
  rw [← body0] at k0
  have kb := piece_block (congrFun (block0 w) os) k0
  have kp := go_top (congrFun (pre0 w) os) kb
  have m := topRun_mono (310000 - (12 + (1 + (461 + (999 + (30 + (n + (321 + 3)))))))) _ _ _ _ kp
  rw [show 12 + (1 + (461 + (999 + (30 + (n + (321 + 3)))))) + (310000 - (12 + (1 + (461 + (999 + (30 + (n + (321 + 3)))))))) = 310000 by omega] at m
  exact m
theorem open0 : ∀ w : World, (fencedOpening treeTable pw w 400000).map (fun s => (s.heap, s.gens, s.drawn, s.toks)) = some (boot_heap w.params, Array.mk [], boot_drawn, boot_toks) :=
  boot_open (by kernel_rfl) (by kernel_rfl) (fun s => by kernel_rfl)
theorem size0 (w : World) : ((boot_heap w.params).isNs mainGlobals && (#[] : Array GenState).size == 0, (boot_heap w.params).objs.size, (boot_heap w.params).nsMap mainGlobals "__annotations__") = (true, 11, ann0) := by kernel_rfl
noncomputable abbrev HL (P : Params) : Heap := ⟨(lsF P).toArray, lifeP P⟩
theorem treeF (P : Params) : (trF P).list 163 = lsF P := by kernel_rfl
theorem HF_eq (P : Params) : HF P = HL P := by
  show Heap.mk ((trF P).list 163).toArray (lifeP P) = _
  rw [treeF]
noncomputable abbrev q0 : Program := { pw with main := { pw.main with body := [s1, s2, s3, s5, s6, s8, s10, s11, s12, s13, s14, s16, s17, s18, s19, s20, s21] } }
abbrev loose0 : List Str := [Str.ofString "b1_set", Str.ofString "b3_exceptions"]
noncomputable abbrev SE (w : World) (os : OsState) : Shared := ⟨HL w.params, #[], boot_drawn, 2347, os⟩
theorem lookA (w : World) (os : OsState) : (staticsOk (importedModules pw.main.body) (boot_heap w.params) (HL w.params) && namesBound pw (HL w.params) && gensDone (SE w os) && laidKept (boot_heap w.params) (HL w.params)) = true := by
  rw [PySem.W.Fast.te5923862056798008813]
  kernel_rfl
theorem lookB (w : World) : (fun os => openSeen q0 loose0 (importedModules pw.main.body) (fun s => xlAt q0 [] s && recOk PySem.Challenge.rw_tp0048_01.row.records s) true (SE w os)) = fun _ => openGood q0 loose0 := by
  rw [PySem.W.Fast.te4187177175401517315, PySem.W.Fast.te5923862056798008813]
  kernel_rfl
theorem left0 {α : Type} (Yf : Shared → α) (Ya : World → α) (h : ∀ w os, Yf (SE w os) = Ya w) :
    LeftO pw q0 loose0 (fun s => xlAt q0 [] s && recOk PySem.Challenge.rw_tp0048_01.row.records s) Yf Ya 400000 :=
  LeftO.of_pieces (H₀ := fun P => boot_heap P) (H₁ := HL) (gs₀ := Array.mk []) (gs₁ := #[]) (d₀ := boot_drawn) (d₁ := boot_drawn) (k₀ := boot_toks) (k₁ := 2347) (m₀ := 11) (ann := ann0) (M := 310000)
    open0 size0 (fun w os => by rw [← HF_eq]; exact run0 w os) (by kernel_rfl) (fun w => by
      funext os
      have a := lookA w os
      have b := congrFun (lookB w) os
      have c := h w os
      show ((_ && _ && _ && _), _, _) = _
      rw [Prod.mk.injEq, Prod.mk.injEq]
      exact ⟨a, b, c⟩)
noncomputable abbrev setO (P : Params) : Obj := o54_5 P
set_option hygiene false in
local macro_rules | `(tactic| o_head $H) => `(tactic| (
  refine holds_open (q := q0) (loose := loose0) (Xt := fun s => xlAt q0 [] s && recOk PySem.Challenge.rw_tp0048_01.row.records s) (XP := XL q0 []) (Yf := Hook.obs (HookS $H 54 setO)) (Ya := Hook.val (HookS $H 54 setO)) (YP := Hook.says (HookS $H 54 setO)) (N := 400000)
    (left0 _ _ (fun w os => by kernel_rfl)) (Hook.of (HookS $H 54 setO)) (Hook.keeps (HookS $H 54 setO)) (fun s e => xl_of s (Bool.and_eq_true_iff.mp e).1) XL.keeps (by rfl) (by rfl) (by rfl) (fun s e => recFacts_of (Bool.and_eq_true_iff.mp e).2) (by rfl) (by first | assumption | decide +kernel) (by decide +kernel) ⟨rfl, rfl, rfl, rfl, rfl, by decide +kernel⟩ ?hw ?hc))
open_top hd for PySem.Challenge.rw_tp0048_01
end Mine
namespace Mine
theorem str_ext {a b : Str} (h : a.cps.toList = b.cps.toList) : a = b := by
  obtain ⟨⟨a⟩⟩ := a; obtain ⟨⟨b⟩⟩ := b
  simp at h; rw [h]
theorem filterMap_range (l : List Nat) (a : Nat) : ∀ k, a + k ≤ l.length → ((List.range k).map fun j => a + j).filterMap (fun i => l[i]?) = (l.drop a).take k
  | 0, _ => by simp
  | k + 1, h => by
    rw [List.range_succ, List.map_append, List.filterMap_append, filterMap_range l a k (by omega), List.take_add_one]
    congr 1
    simp only [List.map_cons, List.map_nil, List.filterMap_cons, List.filterMap_nil, List.getElem?_drop]
    have : a + k < l.length := by omega
    simp [List.getElem?_eq_getElem this]
theorem slice_of {x : Str} {l u : Option Int} {a b : Nat} (h : PySem.Builtin.Str.strSliceIndices l u 1 x.length = (List.range (b - a)).map fun j => a + j) (hb : b ≤ x.length) : (Txt.slice x l u).cps.toList = (x.cps.toList.drop a).take (b - a) := by
  unfold Txt.slice
  have hx : x.length = x.cps.toList.length := by simp [Str.length]
  split
  · rename_i q
    rw [h] at q
    simp only [beq_self_eq_true, List.length_map, List.length_range, Bool.true_and, beq_iff_eq] at q
    by_cases ha : a = 0
    · subst ha
      rw [List.drop_zero, q, List.take_of_length_le (by omega)]
    · have h0 : x.cps.toList = [] := List.eq_nil_of_length_eq_zero (by omega)
      rw [h0]; simp
  · rw [h]
    show ((List.map _ _).filterMap (x.cps[·]?)).toArray.toList = _
    rw [List.toList_toArray]
    have e : (fun (i : Nat) => x.cps[i]?) = fun (i : Nat) => x.cps.toList[i]? := by funext i; simp
    rw [e]
    by_cases hab : a ≤ b
    · exact filterMap_range _ _ _ (by omega)
    · rw [show b - a = 0 by omega]; simp
theorem range_map_of (a b : Int) (ha : 0 ≤ a) (hb : 0 ≤ b) : sliceRange a b 1 = (List.range (b.toNat - a.toNat)).map fun j => a.toNat + j := by
  unfold sliceRange
  rw [if_pos (by decide)]
  have e : (if a < b then (b - a + 1 - 1) / 1 else (0 : Int)).toNat = b.toNat - a.toNat := by
    split <;> simp <;> omega
  simp only [e]
  apply List.map_congr_left
  intro k hk
  omega
theorem slice_su {x : Str} {i j : Nat} : (Txt.slice x (some (i : Int)) (some (j : Int))).cps.toList = (x.cps.toList.drop (min i x.length)).take (min j x.length - min i x.length) := by
  refine slice_of ?_ (Nat.min_le_right _ _)
  unfold PySem.Builtin.Str.strSliceIndices
  simp only [show (1 : Int) > 0 by decide, if_true]
  rw [if_neg (by omega), if_neg (by omega), range_map_of _ _ (by omega) (by omega)]
  congr 2
  · funext k; omega
  · omega
theorem slice_nu {x : Str} {j : Nat} : (Txt.slice x none (some (j : Int))).cps.toList = x.cps.toList.take (min j x.length) := by
  have := slice_of (x := x) (l := none) (u := some (j : Int)) (a := 0) (b := min j x.length) (by
    unfold PySem.Builtin.Str.strSliceIndices
    simp only [show (1 : Int) > 0 by decide, if_true]
    rw [if_neg (by omega), range_map_of _ _ (by omega) (by omega)]
    congr 2
    · omega) (Nat.min_le_right _ _)
  rw [this]; simp
theorem slice_sn {x : Str} {i : Nat} : (Txt.slice x (some (i : Int)) none).cps.toList = x.cps.toList.drop i := by
  have := slice_of (x := x) (l := some (i : Int)) (u := none) (a := min i x.length) (b := x.length) (by
    unfold PySem.Builtin.Str.strSliceIndices
    simp only [show (1 : Int) > 0 by decide, if_true]
    rw [if_neg (by omega), range_map_of _ _ (by omega) (by omega)]
    congr 2
    · funext k; omega
    · omega) (Nat.le_refl _)
  rw [this]
  have hx : x.length = x.cps.toList.length := by simp [Str.length]
  rw [List.take_of_length_le (by rw [List.length_drop]; omega)]
  by_cases h : i ≤ x.length
  · rw [Nat.min_eq_left h]
  · rw [Nat.min_eq_right (by omega), List.drop_of_length_le (by omega), List.drop_of_length_le (by omega)]
/-- a negative end -/
theorem slice_nneg {x : Str} {j : Nat} (h : 0 < j) : (Txt.slice x none (some (-(j : Int)))).cps.toList = x.cps.toList.take (x.length - j) := by
  have := slice_of (x := x) (l := none) (u := some (-(j : Int))) (a := 0) (b := x.length - j) (by
    unfold PySem.Builtin.Str.strSliceIndices
    simp only [show (1 : Int) > 0 by decide, if_true]
    rw [if_pos (by omega), range_map_of _ _ (by omega) (by omega)]
    congr 2
    · omega) (by omega)
  rw [this]; simp
theorem item_of {x : Str} {i : Int} (h0 : 0 ≤ i) (h1 : i < x.length) : Txt.item x i = ⟨#[x.cps.toList.getD i.toNat 0]⟩ := by
  have e : seqIndex? i x.length = some i.toNat := by
    show (if (decide (0 ≤ (if i < 0 then i + x.length else i)) && decide ((if i < 0 then i + x.length else i) < x.length)) = true then some (if i < 0 then i + x.length else i).toNat else none) = _
    rw [if_neg (show ¬ i < 0 by omega), if_pos (by simp; omega)]
  unfold Txt.item Txt.charAt
  rw [e]
  simp [List.getD]
theorem item_neg {x : Str} {i : Int} (h0 : i < 0) (h1 : -i ≤ x.length) : Txt.item x i = ⟨#[x.cps.toList.getD (i + x.length).toNat 0]⟩ := by
  have e : seqIndex? i x.length = some (i + x.length).toNat := by
    show (if (decide (0 ≤ (if i < 0 then i + x.length else i)) && decide ((if i < 0 then i + x.length else i) < x.length)) = true then some (if i < 0 then i + x.length else i).toNat else none) = _
    rw [if_pos h0, if_pos (by simp; omega)]
  unfold Txt.item Txt.charAt
  rw [e]
  simp [List.getD]

def scanL : List Nat → List Nat
  | [] => []
  | [c] => if c = 34 then [] else [c]
  | c :: d :: r => if c = 34 then (if d = 34 then 34 :: scanL r else []) else c :: scanL (d :: r)
theorem scanL_other {c : Nat} {r : List Nat} (h : c ≠ 34) : scanL (c :: r) = c :: scanL r := by
  cases r with
  | nil => simp [scanL, h]
  | cons d r => simp [scanL, h]
theorem scanL_two {r : List Nat} : scanL (34 :: 34 :: r) = 34 :: scanL r := by simp [scanL]
theorem scanL_end {r : List Nat} (h : ∀ d r', r = d :: r' → d ≠ 34) : scanL (34 :: r) = [] := by
  cases r with
  | nil => simp [scanL]
  | cons d r => simp [scanL, h d r rfl]
def ScanInv (x : Str) (i : Int) (dn : Str) : Prop := dn.cps.toList ++ scanL (x.cps.toList.drop i.toNat) = scanL (x.cps.toList.drop 5)
theorem drop_item {x : Str} {i : Int} (h0 : 0 ≤ i) (h1 : i < x.length) : x.cps.toList.drop i.toNat = x.cps.toList.getD i.toNat 0 :: x.cps.toList.drop (i + 1).toNat := by
  have hx : x.length = x.cps.toList.length := by simp [Str.length]
  rw [List.drop_eq_getElem_cons (by omega), show (i + 1).toNat = i.toNat + 1 by omega]
  simp [List.getD, List.getElem?_eq_getElem (show i.toNat < x.cps.toList.length by omega)]
theorem quote_eq : Str.ofString "\"" = ⟨#[34]⟩ := by decide +kernel
theorem item_quote {x : Str} {i : Int} (h0 : 0 ≤ i) (h1 : i < x.length) : (Txt.item x i == Str.ofString "\"") = decide (x.cps.toList.getD i.toNat 0 = 34) := by
  rw [item_of h0 h1, quote_eq]
  by_cases h : x.cps.toList.getD i.toNat 0 = 34
  · rw [h]; simp
  · rw [decide_eq_false h, beq_eq_false_iff_ne]
    intro e; simp at e; exact h (by simpa using e)
theorem scan_turn1 {x : Str} {i : Int} {dn : Str} (h0 : 5 ≤ i) (h2 : i < x.length) (h3 : (dn.length : Int) ≤ i) (h4 : ScanInv x i dn) (hc : (Txt.item x i == Str.ofString "\"") = false) :
    5 ≤ i + 1 ∧ i + 1 ≤ x.length ∧ ((dn ++ Txt.item x i).length : Int) ≤ i + 1 ∧ ScanInv x (i + 1) (dn ++ Txt.item x i) := by
  refine ⟨by omega, by omega, ?_, ?_⟩
  · rw [item_of (by omega) h2]
    have : (dn ++ (⟨#[x.cps.toList.getD i.toNat 0]⟩ : Str)).length = dn.length + 1 := by
      show (dn.cps ++ #[_]).size = dn.cps.size + 1
      simp
    omega
  · rw [item_quote (by omega) h2, decide_eq_false_iff_not] at hc
    unfold ScanInv at *
    rw [drop_item (by omega) h2, scanL_other hc] at h4
    rw [item_of (by omega) h2]
    show (dn.cps ++ #[_]).toList ++ _ = _
    simp only [Array.toList_append, List.append_assoc]
    exact h4
theorem scan_turn2 {x : Str} {i : Int} {dn : Str} (h0 : 5 ≤ i) (h2 : i < x.length) (h3 : (dn.length : Int) ≤ i) (h4 : ScanInv x i dn) (hc : (Txt.item x i == Str.ofString "\"") = true) (h5 : ¬ (x.length : Int) ≤ i + 1) (hd : (Txt.item x (i + 1) != Str.ofString "\"") = false) :
    5 ≤ i + 1 + 1 ∧ i + 1 + 1 ≤ x.length ∧ ((dn ++ Txt.item x i).length : Int) ≤ i + 1 + 1 ∧ ScanInv x (i + 1 + 1) (dn ++ Txt.item x i) := by
  have hd' : (Txt.item x (i + 1) == Str.ofString "\"") = true := by
    cases q : (Txt.item x (i + 1) == Str.ofString "\"") with
    | true => rfl
    | false => simp [bne, q] at hd
  refine ⟨by omega, by omega, ?_, ?_⟩
  · rw [item_of (by omega) h2]
    have : (dn ++ (⟨#[x.cps.toList.getD i.toNat 0]⟩ : Str)).length = dn.length + 1 := by
      show (dn.cps ++ #[_]).size = dn.cps.size + 1
      simp
    omega
  · rw [item_quote (by omega) h2, decide_eq_true_eq] at hc
    rw [item_quote (by omega) (by omega), decide_eq_true_eq] at hd'
    unfold ScanInv at *
    rw [drop_item (by omega) h2, drop_item (i := i + 1) (by omega) (by omega), hc, hd', scanL_two] at h4
    rw [item_of (by omega) h2, hc]
    show (dn.cps ++ #[34]).toList ++ _ = _
    simp only [Array.toList_append, List.append_assoc]
    exact h4
theorem scan_end1 {x : Str} {i : Int} {dn : Str} (h0 : 5 ≤ i) (h2 : i < x.length) (h4 : ScanInv x i dn) (hc : (Txt.item x i == Str.ofString "\"") = true) (h5 : (x.length : Int) ≤ i + 1) : dn = ⟨⟨scanL (x.cps.toList.drop 5)⟩⟩ := by
  have hx : x.length = x.cps.toList.length := by simp [Str.length]
  rw [item_quote (by omega) h2, decide_eq_true_eq] at hc
  unfold ScanInv at h4
  rw [drop_item (by omega) h2, hc, scanL_end (by
    intro d r' e
    rw [List.drop_of_length_le (by omega)] at e
    cases e)] at h4
  apply str_ext
  simpa using h4
theorem scan_end2 {x : Str} {i : Int} {dn : Str} (h0 : 5 ≤ i) (h2 : i < x.length) (h4 : ScanInv x i dn) (hc : (Txt.item x i == Str.ofString "\"") = true) (h5 : ¬ (x.length : Int) ≤ i + 1) (hd : (Txt.item x (i + 1) != Str.ofString "\"") = true) : dn = ⟨⟨scanL (x.cps.toList.drop 5)⟩⟩ := by
  rw [item_quote (by omega) h2, decide_eq_true_eq] at hc
  have hd' : (Txt.item x (i + 1) == Str.ofString "\"") = false := by
    cases q : (Txt.item x (i + 1) == Str.ofString "\"") with
    | false => rfl
    | true => simp [bne, q] at hd
  rw [item_quote (by omega) (by omega), decide_eq_false_iff_not] at hd'
  unfold ScanInv at h4
  rw [drop_item (by omega) h2, hc, scanL_end (by
    intro d r' e
    rw [drop_item (i := i + 1) (by omega) (by omega)] at e
    cases e
    exact hd')] at h4
  apply str_ext
  simpa using h4
theorem scan_end3 {x : Str} {i : Int} {dn : Str} (h2 : ¬ i < x.length) (h4 : ScanInv x i dn) : dn = ⟨⟨scanL (x.cps.toList.drop 5)⟩⟩ := by
  have hx : x.length = x.cps.toList.length := by simp [Str.length]
  unfold ScanInv at h4
  rw [List.drop_of_length_le (by omega)] at h4
  apply str_ext
  simpa [scanL] using h4
theorem scan_start {x : Str} : ScanInv x 5 (Str.ofString "") := by
  have : Str.ofString "" = ⟨#[]⟩ := by decide +kernel
  rw [this]
  unfold ScanInv
  simp
end Mine
namespace Mine
abbrev RowP : Program := PySem.Challenge.rw_tp0048_01.row.prog
abbrev Kp (h h' : Heap) : Prop := ∀ b o, h.get? b = some o → h'.get? b = some o
theorem Kp.trans {a b c : Heap} (x : Kp a b) (y : Kp b c) : Kp a c := fun i o e => y i o (x i o e)
theorem Fr.on {h₀ h h' : Heap} {L : Addr} {m : Str → Option Value} (F : Fr h₀ L h m) (k : Kp h h') : Fr h₀ L h' m := by
  obtain ⟨⟨o, a1, a2, hL, a3⟩, kp, ab⟩ := F
  exact ⟨⟨o, a1, a2, k _ _ hL, a3⟩, fun b o e => k _ _ (kp b o e), ab⟩
theorem News.on {h₀ h h' : Heap} {L : Addr} {news : List (Addr × Obj)} (N : News h₀ L h news) (k : Kp h h') : News h₀ L h' news := fun p hp => ⟨k _ _ (N p hp).1, (N p hp).2.1, (N p hp).2.2⟩

/-- what a heap must bear for the text's defs to be called -/
structure WF (w : World) (mean : ExcName → Option Value) (mg mb : Str → Option Value) (h : Heap) : Prop where
  X : (hd.heap_39 w.params).In h
  T : Top q0 (looseW q0 loose0) mean mg mb h
  S : h.get? 54 = some (setO w.params)
theorem WF.on {w : World} {mean : ExcName → Option Value} {mg mb : Str → Option Value} {h h' : Heap} (W : WF w mean mg mb h) (k : Kp h h') : WF w mean mg mb h' := ⟨W.X.keeps k, W.T.keeps k, k _ _ W.S⟩

/-- a contract: the call of the def at f with vs comes back with a v of R, all that stood stands -/
def SC (k : Nat) (w : World) (f : Addr) (vs : List Value) (pre : Heap → Prop) (R : Heap → Value → Heap → Prop) : Prop :=
  ∀ (mean : ExcName → Option Value) (mg mb : Str → Option Value) (A : Around) (s : Shared) (Q E : Value → Shared → Prop),
    WF w mean mg mb s.heap → pre s.heap → A.handled = none → A.depth + k < recursionLimit → A.units + 10 * k < cLine →
    (∀ v h' tk', R s.heap v h' → Kp s.heap h' → Q v { s with heap := h', toks := tk' }) → wpAny (model PySem.Challenge.rw_tp0048_01.row.prog w) A (call (.ref f) vs) Q E s
abbrev calm (A : Around) : Around := { A with handled := none }
theorem calm_of {A : Around} (h : A.handled = none) : A = calm A := by cases A; cases h; rfl
theorem SC.enter {k : Nat} (hk8 : 2 ≤ k) {w : World} {f : Addr} {vs : List Value} {pre : Heap → Prop} {R : Heap → Value → Heap → Prop} {name qual : Str} {params : Arguments} {body : List Stmt} {scope : Scope} {dV kV doc pm cdv ct oc : Value} {an od : Option Addr} {osl : Array (Option Value)} {binds : List (Str × Value)}
    (ho : ∀ P, (hd.heap_39 P).lookup f = some ⟨oc, od, .func (fnOf name qual params body scope dV kV doc pm an cdv ct), osl⟩) (hcd : ∀ P, codeIn (hd.heap_39 P) cdv qual = true)
    (hbind : bindArgs (fnOf name qual params body scope dV kV doc pm an cdv ct) ⟨vs, []⟩ = pure binds) (hloc : ∀ y ∈ binds, scope.names.lookup y.1 = some .local)
    (hcell : ∀ x ∈ scope.names, x.2 ≠ .cell) (hco : scope.isCoroutine = false) (hgen : scope.isGenerator = false) (hk : scope.kind = .function)
    (h : ∀ (mean : ExcName → Option Value) (mg mb : Str → Option Value) (A : Around) (s : Shared) (Q E : Value → Shared → Prop) (L : Addr) (h₁ : Heap) (tk₁ : Nat),
      Fr s.heap L h₁ (fun y => binds.reverse.lookup y) → News s.heap L h₁ [] → (hd.heap_39 w.params).In s.heap → Top q0 (looseW q0 loose0) mean mg mb s.heap → s.heap.get? 54 = some (setO w.params) → pre s.heap → A.handled = none → A.depth + k < recursionLimit → A.units + 10 * k < cLine →
      (∀ v h' tk', R s.heap v h' → Kp s.heap h' → Q v { s with heap := h', toks := tk' }) →
      wpAny (model PySem.Challenge.rw_tp0048_01.row.prog w) ((calm A).deeper (envOf qual scope L f cdv)) (execs body (envOf qual scope L f cdv)) (fun fl s' => Q (match fl with | .ret v => v | _ => .none) s')
        (fun e s' => wpAny (model PySem.Challenge.rw_tp0048_01.row.prog w) ((calm A).deeper (envOf qual scope L f cdv)) (leaving (envOf qual scope L f cdv) e) (fun _ s'' => E e s'') (fun e' s'' => E e' s'') s')
        { s with heap := h₁, toks := tk₁ }) : SC k w f vs pre R := by
  intro mean mg mb A s Q E W hp hh hd1 hu hret
  refine wpAny_call ?_
  refine codeAny_call_def (fd := fnOf name qual params body scope dV kV doc pm an cdv ct) (body := body) (binds := binds) (by omega) (W.X _ _ (ho _)) rfl W.T.nolimit (codeRec_of W.X (hcd _)) rfl (BindsTo.of_eq hbind) hcell hloc (fun h₁ hns hk₁ => ?_) hco hgen hk
  have hA : A = calm A := calm_of hh
  rw [hA]
  exact h mean mg mb A s Q E _ h₁ _ ⟨hns, hk₁, Nat.le_refl _⟩ News.nil W.X W.T W.S hp hh hd1 hu hret
theorem SC.use {k : Nat} {w : World} {f : Addr} {vs : List Value} {pre : Heap → Prop} {R : Heap → Value → Heap → Prop} (c : SC k w f vs pre R) {mean : ExcName → Option Value} {mg mb : Str → Option Value} {A : Around} {s : Shared} {Q E : Value → Shared → Prop} {h₀ : Heap} {L : Addr} {m : Str → Option Value} {news : List (Addr × Obj)}
    (F : Fr h₀ L s.heap m) (N : News h₀ L s.heap news) (X : (hd.heap_39 w.params).In h₀) (T : Top q0 (looseW q0 loose0) mean mg mb h₀) (S : h₀.get? 54 = some (setO w.params)) (hp : pre s.heap) (hh : A.handled = none) (hd1 : A.depth + k < recursionLimit) (hu : A.units + 10 * k < cLine)
    (h : ∀ v h' tk', R s.heap v h' → Fr h₀ L h' m → News h₀ L h' news → Kp s.heap h' → Q v { s with heap := h', toks := tk' }) : wpAny (model PySem.Challenge.rw_tp0048_01.row.prog w) A (call (.ref f) vs) Q E s :=
  c mean mg mb A s Q E ((WF.mk X T S).on F.keep) hp hh hd1 hu fun v h' tk' r k => h v h' tk' r (Fr.on F k) (News.on N k) k
abbrev RI (n : Int) : Heap → Value → Heap → Prop := fun _ v _ => ∃ t, v = .int n t
abbrev RS (x : Str) : Heap → Value → Heap → Prop := fun _ v _ => ∃ t, v = .str x t
abbrev RB (b : Bool) : Heap → Value → Heap → Prop := fun _ v _ => v = .bool b
abbrev noPre : Heap → Prop := fun _ => True
theorem retI {n k : Int} {h₀ h' : Heap} {L : Addr} {m : Str → Option Value} {Q : Value → Shared → Prop} {s : Shared} {t : Tok} {tk : Nat} (hret : ∀ v h' tk', RI n h₀ v h' → Kp h₀ h' → Q v { s with heap := h', toks := tk' }) (F : Fr h₀ L h' m) (e : k = n) : Q (.int k t) { s with heap := h', toks := tk } := by
  subst e; exact hret _ _ _ ⟨t, rfl⟩ F.keep
theorem retS {n k : Str} {h₀ h' : Heap} {L : Addr} {m : Str → Option Value} {Q : Value → Shared → Prop} {s : Shared} {t : Tok} {tk : Nat} (hret : ∀ v h' tk', RS n h₀ v h' → Kp h₀ h' → Q v { s with heap := h', toks := tk' }) (F : Fr h₀ L h' m) (e : k = n) : Q (.str k t) { s with heap := h', toks := tk } := by
  subst e; exact hret _ _ _ ⟨t, rfl⟩ F.keep
theorem retB {n k : Bool} {h₀ h' : Heap} {L : Addr} {m : Str → Option Value} {Q : Value → Shared → Prop} {s : Shared} {tk : Nat} (hret : ∀ v h' tk', RB n h₀ v h' → Kp h₀ h' → Q v { s with heap := h', toks := tk' }) (F : Fr h₀ L h' m) (e : k = n) : Q (.bool k) { s with heap := h', toks := tk } := by
  subst e; exact hret _ _ _ rfl F.keep
def b1L : List Int := [173, 847, 6150, 6155, 6156, 6157, 8203, 8204, 8205, 8288, 65279, 65024, 65025, 65026, 65027, 65028, 65029, 65030, 65031, 65032, 65033, 65034, 65035, 65036, 65037, 65038, 65039]
def elemsB (l : List (Int × Value)) : Bool := l.all fun e => match e.2 with | .int k _ => e.1 == hashInt k | _ => false
theorem elems_of {prog : Program} {w : World} {l : List (Int × Value)} (h : elemsB l = true) : ElemsOf (PySem.intKind prog w) l := fun e he => by
  have := List.all_eq_true.mp h e he
  obtain ⟨a, v⟩ := e
  cases v with
  | int k t =>
    refine ⟨⟨k, ?_, ?_⟩, rfl⟩
    · show Value.isInt k (.int k t) = true
      simp [Value.isInt]
    · exact beq_iff_eq.mp this
  | _ => cases this
def keysB (ks : List Int) (l : List (Int × Value)) : Bool := (l.all fun e => match e.2 with | .int k _ => ks.contains k | _ => false) && ks.all fun k => l.any fun e => match e.2 with | .int j _ => j == k | _ => false
theorem keys_of {ks : List Int} {l : List (Int × Value)} (h : keysB ks l = true) (k : Int) : ks.contains k = true ↔ ∃ e ∈ l, Value.isInt k e.2 = true := by
  obtain ⟨h1, h2⟩ := Bool.and_eq_true_iff.mp h
  constructor
  · intro hk
    have := List.all_eq_true.mp h2 k (List.contains_iff_mem.mp hk)
    obtain ⟨e, he, q⟩ := List.any_eq_true.mp this
    refine ⟨e, he, ?_⟩
    obtain ⟨a, v⟩ := e
    cases v with
    | int j t =>
      have : j = k := beq_iff_eq.mp q
      subst this
      simp [Value.isInt]
    | _ => cases q
  · rintro ⟨⟨a, v⟩, he, q⟩
    have := List.all_eq_true.mp h1 _ he
    obtain ⟨t, rfl⟩ := Value.isInt_shape q
    exact this
theorem set_of {w : World} {h : Heap} (e : h.get? 54 = some (setO w.params)) : h.SetOf (PySem.intKind PySem.Challenge.rw_tp0048_01.row.prog w) 54 (fun k => b1L.contains k) 27 :=
  ⟨_, _, _, _, e, ⟨rfl, rfl, rfl⟩, rfl, elems_of (by kernel_rfl), keys_of (by kernel_rfl), by decide, by kernel_rfl, rfl⟩
theorem set_in {w : World} {A : Around} {h₀ : Heap} {L : Addr} {m : Str → Option Value} {s : Shared} {Q E : Value → Shared → Prop} {k : Int} {t : Tok} (S : h₀.get? 54 = some (setO w.params)) (F : Fr h₀ L s.heap m)
    (h : Q (.bool (b1L.contains k)) { s with toks := s.toks + 1 }) : wpAny (model PySem.Challenge.rw_tp0048_01.row.prog w) A (compareOp .In (.int k t) (.ref 54)) Q E s :=
  wpAny_inSet_of (knd := PySem.intKind PySem.Challenge.rw_tp0048_01.row.prog w) (k := k) (by show Value.isInt k (.int k t) = true; simp [Value.isInt]) rfl (set_of (F.keep _ _ S)) h
local macro_rules | `(tactic| walk_at $s:str) => do `(tactic| k_extra $(Lean.Syntax.mkStrLit (s.getString ++ "!")))
theorem c_b1 (w : World) (p : Nat) (t : Tok) : SC 8 w 64 [.str ⟨#[p]⟩ t] noPre (RB (b1L.contains p)) := by
  k_with_none
  (k_with "compareOp In int ref!" => (k_here; refine' set_in ?k1 ?k2 ?_; (case k1 => k_asm); (case k2 => k_asm)))
  refine SC.enter (by decide) (fun P => by with_unfolding_all rfl) (fun P => by with_unfolding_all rfl) (by rfl) (locs rfl) (by decide) rfl rfl rfl ?_
  w_top off
  k_fill
  intro mean mg mb A s Q E L h₁ tk₁ F N X T S hp hh hd1 hu hret
  k_steps
  all_goals (dsimp only; refine retB hret (by k_asm) rfl)
def lookK (k : Int) : List (Int × Str) → Option Str
  | [] => none
  | (j, v) :: r => if j = k then some v else lookK k r
theorem entsBy_find {m : Nat} : ∀ {T : Nat} {l : List (Int × Str)} {k : Int}, match lookK k l with
    | some v => ∃ t e, (entsBy m T l).find? (fun d => Value.isInt k d.key) = some e ∧ e.val = .str v t
    | none => (entsBy m T l).find? (fun d => Value.isInt k d.key) = none
  | T, [], k => rfl
  | T, (j, v) :: r, k => by
    unfold lookK
    by_cases h : j = k
    · subst h
      rw [if_pos rfl]
      refine ⟨T + 1, ⟨j, .int j T, .str v (T + 1)⟩, ?_, rfl⟩
      rw [entsBy, List.find?_cons_of_pos]
      simp [Value.isInt]
    · rw [if_neg h, entsBy, List.find?_cons_of_neg]
      · exact entsBy_find
      · simp [Value.isInt, h]
theorem entsBy_keys {m : Nat} : ∀ {T : Nat} {l : List (Int × Str)}, (l.all fun x => x.1 == hashInt x.1) = true → ∀ e ∈ entsBy m T l, ∃ k, Value.isInt k e.key = true ∧ e.hash = hashInt k
  | T, [], _, e, h => by cases h
  | T, (j, v) :: r, hh, e, h => by
    rw [List.all_cons, Bool.and_eq_true] at hh
    rcases List.mem_cons.mp h with rfl | h
    · exact ⟨j, by simp [Value.isInt], beq_iff_eq.mp hh.1⟩
    · exact entsBy_keys hh.2 e h
noncomputable abbrev dEnts : List DictEntry := entsBy 3 305 (kvs.take 646) ++ entsBy 2 (305 + 51 * 38) (kvs.drop 646)
theorem dict_at (P : Params) : (hd.heap_39 P).lookup 65 = some (dO dEnts 650) := by kernel_rfl
theorem hash_ok : (kvs.all fun x => x.1 == hashInt x.1) = true := by kernel_rfl
theorem lookK_append (k : Int) : ∀ (a b : List (Int × Str)), lookK k (a ++ b) = match lookK k a with | some v => some v | none => lookK k b
  | [], b => rfl
  | (j, v) :: r, b => by
    rw [List.cons_append, lookK, lookK]
    split
    · rfl
    · exact lookK_append k r b
noncomputable def b3Map (k : Int) : Option Value := findBy Value.isInt dEnts.toArray k
theorem b3Map_some {k : Int} {v : Str} (h : lookK k kvs = some v) : ∃ t, b3Map k = some (.str v t) := by
  unfold b3Map findBy
  rw [List.find?_toArray, List.find?_append]
  rw [← List.take_append_drop 646 kvs, lookK_append] at h
  have h1 := entsBy_find (m := 3) (T := 305) (l := kvs.take 646) (k := k)
  have h2 := entsBy_find (m := 2) (T := 305 + 51 * 38) (l := kvs.drop 646) (k := k)
  cases q : lookK k (kvs.take 646) with
  | some u =>
    rw [q] at h h1
    obtain rfl : u = v := Option.some.inj h
    obtain ⟨t, e, e1, e2⟩ := h1
    exact ⟨t, by rw [e1]; simp [e2]⟩
  | none =>
    rw [q] at h h1
    dsimp only at h h1
    rw [h] at h2
    obtain ⟨t, e, e1, e2⟩ := h2
    exact ⟨t, by rw [h1, e1]; simp [e2]⟩
theorem b3Map_none {k : Int} (h : lookK k kvs = none) : b3Map k = none := by
  unfold b3Map findBy
  rw [List.find?_toArray, List.find?_append]
  rw [← List.take_append_drop 646 kvs, lookK_append] at h
  have h1 := entsBy_find (m := 3) (T := 305) (l := kvs.take 646) (k := k)
  have h2 := entsBy_find (m := 2) (T := 305 + 51 * 38) (l := kvs.drop 646) (k := k)
  cases q : lookK k (kvs.take 646) with
  | some u => rw [q] at h; cases h
  | none =>
    rw [q] at h h1
    dsimp only at h h1
    rw [h] at h2
    dsimp only at h2
    rw [h1, h2]
    rfl
theorem map_of {w : World} {h : Heap} (X : (hd.heap_39 w.params).In h) : h.MapOf (PySem.intKind PySem.Challenge.rw_tp0048_01.row.prog w) 65 b3Map :=
  ⟨_, dEnts.toArray, 650, X _ _ (dict_at _), ⟨rfl, rfl, rfl⟩, rfl, fun e he => by
    rw [List.mem_toArray, List.mem_append] at he
    have q : ((kvs.take 646).all fun x => x.1 == hashInt x.1) = true ∧ ((kvs.drop 646).all fun x => x.1 == hashInt x.1) = true := by
      have := hash_ok
      rw [← List.take_append_drop 646 kvs, List.all_append, Bool.and_eq_true] at this
      exact this
    rcases he with he | he
    · exact entsBy_keys q.1 e he
    · exact entsBy_keys q.2 e he, fun k => rfl⟩
theorem b3_method {w : World} {A : Around} {h₀ : Heap} {L : Addr} {m : Str → Option Value} {s : Shared} {pl : Sem Bool} {Q : Value × List Value → Shared → Prop} {E : Value → Shared → Prop} (F : Fr h₀ L s.heap m) (X : (hd.heap_39 w.params).In h₀)
    (h : Q (.builtin "dict.get", [.ref 65]) s) : wpAny (model PySem.Challenge.rw_tp0048_01.row.prog w) A (getMethod (.ref 65) "get" pl) Q E s :=
  have M := map_of (w := w) (X.keeps F.keep)
  getMethod_builtin M.typeIs PySem.F.plainAttrs_dict PySem.F.slot_dict_get PySem.F.type_dict_get M.noDict h
theorem b3_get {w : World} {A : Around} {h₀ : Heap} {L : Addr} {m : Str → Option Value} {s : Shared} {k : Int} {t : Tok} {Q E : Value → Shared → Prop} (F : Fr h₀ L s.heap m) (X : (hd.heap_39 w.params).In h₀)
    (h1 : ∀ v u, lookK k kvs = some v → Q (.str v u) { s with toks := s.toks + 1 }) (h2 : lookK k kvs = none → Q .none { s with toks := s.toks + 1 }) : wpAny (model PySem.Challenge.rw_tp0048_01.row.prog w) A (call (.builtin "dict.get") [.ref 65, .int k t]) Q E s := by
  have M := map_of (w := w) (X.keeps F.keep)
  refine call_meetsIn PySem.F.slot_dict_get M.typeIs PySem.F.entry_dict_get (PySem.F.args_dict_get_2 _ _) (meets_dict_get (PySem.intKind PySem.Challenge.rw_tp0048_01.row.prog w) (k := k) 65 (by show Value.isInt k (.int k t) = true; simp [Value.isInt]) rfl) ⟨b3Map, M, ?_⟩
  cases q : lookK k kvs with
  | some v =>
    obtain ⟨u, e⟩ := b3Map_some q
    rw [e]
    exact h1 v u q
  | none =>
    rw [b3Map_none q]
    exact h2 q
noncomputable def b3Of (p : Nat) : Str := match lookK p kvs with | some v => v | none => Txt.lower ⟨#[p]⟩
theorem c_b3 (w : World) (p : Nat) (t : Tok) : SC 8 w 110 [.str ⟨#[p]⟩ t] noPre (RS (b3Of p)) := by
  k_with_none
  (k_with "compareOp In int ref!" => (k_here; refine' set_in ?k1 ?k2 ?_; (case k1 => k_asm); (case k2 => k_asm)))
  (k_with "getMethod ref!" => (k_here; refine' b3_method ?k1 ?k2 ?_; (case k1 => k_asm); (case k2 => k_asm)))
  (k_with "call builtin:dict.get!" => (k_here; refine' b3_get ?k1 ?k2 ?_ ?_; (case k1 => k_asm); (case k2 => k_asm); intro cbV cbU cbQ; rotate_left; intro cbQ; rotate_right))
  refine SC.enter (by decide) (fun P => by with_unfolding_all rfl) (fun P => by with_unfolding_all rfl) (by rfl) (locs rfl) (by decide) rfl rfl rfl ?_
  w_top off
  k_fill
  intro mean mg mb A s Q E L h₁ tk₁ F N X T S hp hh hd1 hu hret
  have hp1 : (⟨#[p]⟩ : Str).length = 1 := rfl
  k_steps
  · dsimp only
    refine retS hret (by k_asm) ?_
    (rename lookK _ kvs = some _ => hq)
    unfold b3Of; rw [show lookK (p : Int) kvs = _ from hq]
  · dsimp only
    refine retS hret (by k_asm) ?_
    (rename lookK _ kvs = none => hq)
    unfold b3Of; rw [show lookK (p : Int) kvs = _ from hq]
def subCost (a b : Str) : Int := if a == b then 0 else if Txt.lower a == Txt.lower b then 1 else 2
theorem c_sub (w : World) (x y : Str) (tx ty : Tok) (hx : x.length = 1) (hy : y.length = 1) : SC 8 w 117 [.str x tx, .str y ty] noPre (RI (subCost x y)) := by
  k_with_none
  (k_with "compareOp In int ref!" => (k_here; refine' set_in ?k1 ?k2 ?_; (case k1 => k_asm); (case k2 => k_asm)))
  (k_with "getMethod ref!" => (k_here; refine' b3_method ?k1 ?k2 ?_; (case k1 => k_asm); (case k2 => k_asm)))
  (k_with "call builtin:dict.get!" => (k_here; refine' b3_get ?k1 ?k2 ?_ ?_; (case k1 => k_asm); (case k2 => k_asm); intro cbV cbU cbQ; rotate_left; intro cbQ; rotate_right))
  refine SC.enter (by decide) (fun P => by with_unfolding_all rfl) (fun P => by with_unfolding_all rfl) (by rfl) (locs rfl) (by decide) rfl rfl rfl ?_
  w_top off
  k_fill
  intro mean mg mb A s Q E L h₁ tk₁ F N X T S hp hh hd1 hu hret
  k_steps
  all_goals (dsimp only; refine retI hret (by k_asm) ?_; unfold subCost; simp_all)
theorem c_parse (w : World) (x : Str) (tx : Tok) (hx : x.length < 1000) (h5 : 5 ≤ x.length) (h3 : (Txt.slice x none (some 3) != Str.ofString "257") = false) (hq : (Txt.slice x (some 3) (some 5) != Str.ofString " \"") = false) :
   SC 8 w 46 [.str x tx] noPre (RS ⟨⟨scanL (x.cps.toList.drop 5)⟩⟩) := by
  k_with_none
  (k_with "compareOp In int ref!" => (k_here; refine' set_in ?k1 ?k2 ?_; (case k1 => k_asm); (case k2 => k_asm)))
  (k_with "getMethod ref!" => (k_here; refine' b3_method ?k1 ?k2 ?_; (case k1 => k_asm); (case k2 => k_asm)))
  (k_with "call builtin:dict.get!" => (k_here; refine' b3_get ?k1 ?k2 ?_ ?_; (case k1 => k_asm); (case k2 => k_asm); intro cbV cbU cbQ; rotate_left; intro cbQ; rotate_right))
  refine SC.enter (by decide) (fun P => by with_unfolding_all rfl) (fun P => by with_unfolding_all rfl) (by rfl) (locs rfl) (by decide) rfl rfl rfl ?_
  w_top off
  k_fill
  intro mean mg mb A s Q E L h₁ tk₁ F N X T S hp hh hd1 hu hret
  (k_with "exec While Compare cons nil" => k_while (fun _ i dn => 5 ≤ i ∧ i ≤ x.length ∧ dn.length ≤ i ∧ ScanInv x i dn) (fun _ i _ => (x.length - i).toNat) "i" "dirname")
  (k_with "state" => (first | exact scan_turn1 (by assumption) (by assumption) (by assumption) (by assumption) (by assumption) | exact scan_turn2 (by assumption) (by assumption) (by assumption) (by assumption) (by assumption) (by assumption) (by assumption) | exact ⟨by omega, by omega, by decide, scan_start⟩))
  k_steps
  all_goals (dsimp only; refine retS hret (by k_asm) ?_; first | exact scan_end1 (by assumption) (by assumption) (by assumption) (by assumption) (by assumption) | exact scan_end2 (by assumption) (by assumption) (by assumption) (by assumption) (by assumption) (by assumption) | exact scan_end3 (by omega) (by assumption))

end Mine
namespace Mine
open LCg LCt in
theorem rest_signs {w : World} {A : Around} {h₀ : Heap} {L : Addr} {m : Str → Option Value} {env : Env} {ct elt : Expr} {x : Str} {scope : Scope} {cl : List (Str × Addr)} {s : Shared} {news : List (Addr × Obj)} {Fin : List Value → List (Addr × Obj) → Prop}
    (p : Nat → Bool) (g : Nat → Str) (y : Str)
    (turn : ∀ c u I oI C oC D m₂ ys h tk (E' : Value → Shared → Prop), NsObj oC m₂ → m₂ x = some (.str ⟨#[c]⟩ u) → Fr h₀ L h m → News h₀ L h ((I, oI) :: (C, oC) :: (D, lst ys) :: news) → Off3 I C D news → ((@Ne Nat I C) ∧ (@Ne Nat I D) ∧ (@Ne Nat C D)) →
      wpAny (model PySem.Challenge.rw_tp0048_01.row.prog w) A (isTrue ct (compEnvC scope cl C env) (eval ct (compEnvC scope cl C env))) (fun ok s' => ok = p c ∧ if ok = true then
        wpAny (model PySem.Challenge.rw_tp0048_01.row.prog w) A (eval elt (compEnvC scope cl C env)) (CompEnd h₀ L m { s with heap := h, toks := tk } I oI C oC D (lst ys) (fun _ => True) (fun y news' => news' = news ∧ ∃ t, y = .str (g c) t)) E' s'
        else CompEnd h₀ L m { s with heap := h, toks := tk } I oI C oC D (lst ys) (fun _ => True) (fun _ news' => news' = news) Value.none s') E' { s with heap := h, toks := tk })
    (fin : ∀ ys, StrsAre ys ((y.cps.toList.filter p).map g) → Fin ys news) :
    CompRestT PySem.Challenge.rw_tp0048_01.row.prog w A h₀ L m env ct elt x scope cl s (fun _ => True) (SignAt y) Fin y.cps.size 0 [] news := by
  have key : ∀ (j i : Nat) (ys : List Value), i + j = y.cps.size → StrsAre ys (((y.cps.toList.take i).filter p).map g) → CompRestT PySem.Challenge.rw_tp0048_01.row.prog w A h₀ L m env ct elt x scope cl s (fun _ => True) (SignAt y) Fin j i ys news := by
    intro j
    induction j with
    | zero =>
      intro i ys hi hy
      rw [List.take_of_length_le (by simp; omega)] at hy
      exact CompRestT.zero (fin ys hy)
    | succ j ih =>
      intro i ys hi hy
      refine CompRestT.succ ?_
      intro v I oI C oC D m₂ h tk E' hv hC hx F N off ne
      obtain ⟨c, u, hc, rfl⟩ := hv
      have hc' : y.cps.toList[i]? = some c := by simpa using hc
      refine wpAny_mono (turn c u I oI C oC D m₂ ys h tk E' hC hx F N off ne) (fun ok s₂ hq => ?_) fun _ _ e => e
      obtain ⟨rfl, hq⟩ := hq
      cases hp : p c with
      | true =>
        rw [hp] at hq
        simp only [if_true] at hq ⊢
        refine wpAny_mono hq (fun y₁ s₃ h₃ => ?_) fun _ _ e => e
        obtain ⟨h', tk', nw, e, F', N', off', hS, hn, t', hy'⟩ := h₃
        subst hn
        refine ⟨h', tk', _, e, F', N', off', hS, ?_⟩
        rw [hy']
        refine ih (i + 1) _ (by omega) ?_
        rw [List.take_add_one, hc', List.filter_append, List.map_append]
        simp only [Option.toList, List.filter_cons, hp, List.filter_nil, if_true, List.map_cons, List.map_nil]
        exact kct_snoc hy
      | false =>
        rw [hp] at hq
        simp only [Bool.false_eq_true, if_false] at hq ⊢
        obtain ⟨h', tk', nw, e, F', N', off', hS, hn⟩ := hq
        subst hn
        refine ⟨h', tk', _, e, F', N', off', hS, ?_⟩
        refine ih (i + 1) _ (by omega) ?_
        rw [List.take_add_one, hc', List.filter_append, List.map_append]
        simp only [Option.toList, List.filter_cons, hp, List.filter_nil, Bool.false_eq_true, if_false, List.map_nil, List.append_nil]
        exact hy
  exact key _ 0 [] (by omega) (by simpa using StrsAre.nil)
open LCg LCt in
def TxtSrc (w : World) (A : Around) (h₀ : Heap) (L : Addr) (m : Str → Option Value) (env : Env) (ct elt : Expr) (x : Str) (scope : Scope) (cl : List (Str × Addr)) (Q : Value → Shared → Prop) (xv : Value) (s₁ : Shared) : Prop :=
  ∃ y t news, xv = .str y t ∧ Fr h₀ L s₁.heap m ∧ News h₀ L s₁.heap news ∧ y.cps.size ≤ sizeLine ∧
      ∀ g, CompRestT PySem.Challenge.rw_tp0048_01.row.prog w A h₀ L m env ct elt x scope cl { s₁ with heap := g } (fun _ => True) (SignAt y) (FinE h₀ L m { s₁ with heap := g } Q) y.cps.size 0 [] news
open LCg LCt in
theorem TxtSrc.intro {w : World} {A : Around} {h₀ : Heap} {L : Addr} {m : Str → Option Value} {env : Env} {ct elt : Expr} {x : Str} {scope : Scope} {cl : List (Str × Addr)} {Q : Value → Shared → Prop} {s₁ : Shared} {y : Str} {t : Tok} {news : List (Addr × Obj)} (F : Fr h₀ L s₁.heap m) (N : News h₀ L s₁.heap news) (hy : y.length < 1000)
  (h : ∀ g, CompRestT PySem.Challenge.rw_tp0048_01.row.prog w A h₀ L m env ct elt x scope cl { s₁ with heap := g } (fun _ => True) (SignAt y) (FinE h₀ L m { s₁ with heap := g } Q) y.cps.size 0 [] news) : TxtSrc w A h₀ L m env ct elt x scope cl Q (.str y t) s₁ :=
  ⟨y, t, news, rfl, F, N, by have : y.cps.size < 1000 := hy; rw [PySem.sizeLine_eq]; omega, h⟩
open LCg LCt in
theorem comp_signs {w : World} {A : Around} {E : Value → Shared → Prop} {s : Shared} {h₀ : Heap} {L : Addr} {m : Str → Option Value} {env : Env} {ct elt iter : Expr} {x : Str} {px : Pos} {scope : Scope} {cl : List (Str × Addr)} {pos : Pos} {Q : Value → Shared → Prop} (F₀ : Fr h₀ L s.heap m)
    (hclos : closureFor scope env = pure cl) (hcell : ∀ y ∈ scope.names, y.2 ≠ .cell) (hkind : scope.kind = .function)
    (hnames : ∀ y ∈ scope.names, y.2 = .local → scope.names.lookup y.1 = some .local) (hx : scope.names.lookup x = some .local) (hh : A.handled = none)
    (h : wpAny (model PySem.Challenge.rw_tp0048_01.row.prog w) A (eval iter env) (TxtSrc w A h₀ L m env ct elt x scope cl Q) E s)
    (hs : ∀ x, foldedSetIterable iter env x = pure x := by intro _; rfl) :
    wpAny (model PySem.Challenge.rw_tp0048_01.row.prog w) A (eval (.ListComp elt [⟨.Name x px, iter, [ct], 0⟩] scope pos) env) Q E s := by
  rw [eval_ListComp]
  refine wpAny_comprehension_free (use := none) rfl hs hclos hkind hnames (wpAny_mono h (fun xv s₁ h₁ => ?_) fun _ _ e => e)
  obtain ⟨y, t, news, rfl, F, N, hsz, R⟩ := h₁
  cases ha : y.cps.all (· < 128)
  · refine wpAny_pyIter_wide ha ?_
    refine block_T (Walks.strWide hh _ y t) hsz (fun i h st => by obtain ⟨o, e, _⟩ := st; exact ⟨_, e⟩) (fun i h h' o nw st e e' _ _ _ => by obtain ⟨z, hz, r⟩ := st; exact ⟨z, by rw [e', ← e, hz], r⟩) hcell hkind hx ⟨_, Heap.get?_push_size _ rfl, rfl, rfl⟩ (fun b hb => ?_)
      (F.keeps fun _ _ e => Heap.get?_push_of_some _ e) (N.grown fun _ _ e => Heap.get?_push_of_some _ e) (Nat.ne_of_lt F.ns.lt) (next_is_new F) (fun p hp => Nat.ne_of_lt (Heap.lt_size (N p hp).1)) trivial (R _) ?_
    · rw [List.mem_singleton.mp hb]
      show s₁.heap.objs.size < (s₁.heap.push _).objs.size
      rw [Heap.size_push]; exact Nat.lt_succ_self _
    · intro D C h tk m' ys news' F' N' o1 hn hC₀ hD₀ hCL hDL hCD offC fin
      refine ⟨m', hn, fun h'' hs'' => fin D h'' tk (F'.change hs'' hCL hC₀) (fun p hp => ?_) o1⟩
      refine ⟨hs''.extBut _ _ ?_ (N' p hp).1, (N' p hp).2⟩
      rcases List.mem_cons.mp hp with rfl | hp
      · exact Ne.symm hCD
      · exact offC p hp
  · refine wpAny_pyIter_ascii ha ?_
    refine block_T (Walks.strAscii hh _ y t) hsz (fun i h st => by obtain ⟨o, e, _⟩ := st; exact ⟨_, e⟩) (fun i h h' o nw st e e' _ _ _ => by obtain ⟨z, hz, r⟩ := st; exact ⟨z, by rw [e', ← e, hz], r⟩) hcell hkind hx ⟨_, Heap.get?_push_size _ rfl, rfl, rfl⟩ (fun b hb => ?_)
      (F.keeps fun _ _ e => Heap.get?_push_of_some _ e) (N.grown fun _ _ e => Heap.get?_push_of_some _ e) (Nat.ne_of_lt F.ns.lt) (next_is_new F) (fun p hp => Nat.ne_of_lt (Heap.lt_size (N p hp).1)) trivial (R _) ?_
    · rw [List.mem_singleton.mp hb]
      show s₁.heap.objs.size < (s₁.heap.push _).objs.size
      rw [Heap.size_push]; exact Nat.lt_succ_self _
    · intro D C h tk m' ys news' F' N' o1 hn hC₀ hD₀ hCL hDL hCD offC fin
      refine ⟨m', hn, fun h'' hs'' => fin D h'' tk (F'.change hs'' hCL hC₀) (fun p hp => ?_) o1⟩
      refine ⟨hs''.extBut _ _ ?_ (N' p hp).1, (N' p hp).2⟩
      rcases List.mem_cons.mp hp with rfl | hp
      · exact Ne.symm hCD
      · exact offC p hp
def keepB (c : Nat) : Bool := !(b1L.contains (c : Int))
noncomputable def prepL (l : List Nat) : List Str := (l.filter keepB).map b3Of
noncomputable def prepT (x : Str) : Str := Txt.join Str.empty (prepL x.cps.toList)
theorem b3_vals : (kvs.all fun x => decide (x.2.length ≤ 4)) = true := by kernel_rfl
theorem lookK_mem {k : Int} {v : Str} : ∀ {l : List (Int × Str)}, lookK k l = some v → ∃ j, (j, v) ∈ l
  | (j, u) :: r, h => by
    unfold lookK at h
    split at h
    · exact ⟨j, by cases h; exact List.mem_cons_self⟩
    · obtain ⟨i, hi⟩ := lookK_mem h
      exact ⟨i, List.mem_cons_of_mem _ hi⟩
theorem b3Of_len (p : Nat) : (b3Of p).length ≤ 4 := by
  unfold b3Of
  split
  · rename_i v h
    obtain ⟨j, hj⟩ := lookK_mem h
    exact of_decide_eq_true (List.all_eq_true.mp b3_vals _ hj)
  · have h := len_lower ⟨#[p]⟩
    have : (⟨#[p]⟩ : Str).length = 1 := rfl
    omega
theorem sum_le4 : ∀ l : List Nat, ((l.map b3Of).map (·.length)).sum ≤ 4 * l.length
  | [] => Nat.le_refl _
  | p :: r => by
    have := b3Of_len p
    have := sum_le4 r
    simp only [List.map_cons, List.sum_cons, List.length_cons]
    omega
theorem prep_fit {x : Str} (h : x.length < 1000) : ((prepL x.cps.toList).map (·.length)).sum + (prepL x.cps.toList).length * 64 ≤ 16777216 := by
  have h1 := sum_le4 (x.cps.toList.filter keepB)
  have h2 : (x.cps.toList.filter keepB).length ≤ x.cps.toList.length := List.length_filter_le _ _
  have h3 : x.cps.toList.length = x.length := by simp [Str.length]
  unfold prepL
  rw [List.length_map]
  omega

local macro_rules | `(tactic| walk_at $s:str) => do `(tactic| k_extra $(Lean.Syntax.mkStrLit (s.getString ++ "!")))
theorem c_prep (w : World) (x : Str) (tx : Tok) (hx : x.length < 1000) : SC 16 w 157 [.str x tx] noPre (RS (prepT x)) := by
  k_with_none
  (k_with "eval ListComp!" => (k_here; k_dflt (refine comp_signs (F₀ := by k_asm) (by with_unfolding_all rfl) (by decide) (by rfl) (by decide) (by rfl) (by first | exact rfl | assumption) ?_)))
  (k_with "TxtSrc!" => (k_here; (refine TxtSrc.intro (by k_asm) (by k_asm) (by omega) ?_); intro g9; refine rest_signs keepB b3Of _ ?turn ?fin))
  (k_with "call ref!" => (k_here; (first | (refine' SC.use (c_b1 _ _ _) ?F ?N ?X ?T ?S ?hp ?hh ?hd ?hu ?_) | (refine' SC.use (c_b3 _ _ _) ?F ?N ?X ?T ?S ?hp ?hh ?hd ?hu ?_)); (case F => k_asm); (case N => k_asm); (case X => k_asm); (case T => k_asm); (case S => k_asm); (case hp => trivial); (case hh => first | assumption | exact rfl); (case hd => first | ktr_room | (show _ < _; simp only [Around.deeper]; omega)); (case hu => first | ktr_units | (show _ < _; simp only [Around.deeper]; omega)); intro v9 h9 tk9 hR9 F9 N9 K9; (first | (obtain ⟨t9, rfl⟩ := hR9) | (obtain rfl := hR9)); (try dsimp only); (try k_fold)))
  refine SC.enter (by decide) (fun P => by with_unfolding_all rfl) (fun P => by with_unfolding_all rfl) (by rfl) (locs rfl) (by decide) rfl rfl rfl ?_
  w_top off
  k_fill
  intro mean mg mb A s Q E L h₁ tk₁ F N X T S hp hh hd1 hu hret
  k_steps
  all_goals (refine join_listC (News.isList (by assumption) (by k_mem)) (by assumption) (by decide) (prep_fit hx) ?_; intro t9 k9; refine retS hret (by assumption) ?_; rfl)

end Mine
namespace Mine
theorem slice_nn {x : Str} : Txt.slice x none none = x := by
  refine str_ext ?_
  have hx : x.length = x.cps.toList.length := by simp [Str.length]
  have := slice_of (x := x) (l := none) (u := none) (a := 0) (b := x.length) (by
    unfold PySem.Builtin.Str.strSliceIndices
    simp only [show (1 : Int) > 0 by decide, if_true]
    rw [range_map_of _ _ (by omega) (by omega)]
    congr 2) (Nat.le_refl _)
  rw [this, List.drop_zero, List.take_of_length_le (by omega)]
theorem len_sn {x : Str} {i : Int} (h : 0 ≤ i) : (Txt.slice x (some i) none).length = x.length - i.toNat := by
  have e : i = ((i.toNat : Nat) : Int) := by omega
  have := congrArg List.length (slice_sn (x := x) (i := i.toNat))
  rw [← e, List.length_drop] at this
  simpa [Str.length] using this
def PreOf (a b : Str) : Prop := ∃ r, b.cps.toList = a.cps.toList ++ r
theorem PreOf.len {a b : Str} (h : PreOf a b) : a.length ≤ b.length := by
  obtain ⟨r, e⟩ := h
  have := congrArg List.length e
  rw [List.length_append] at this
  simp only [Array.length_toList] at this
  show a.cps.size ≤ b.cps.size
  omega
theorem PreOf.item {a b : Str} (h : PreOf a b) {i : Int} (h0 : 0 ≤ i) (h1 : i < a.length) : Txt.item a i = Txt.item b i := by
  have hl := h.len
  obtain ⟨r, e⟩ := h
  rw [item_of h0 h1, item_of h0 (by omega), e]
  have hx : i.toNat < a.cps.toList.length := by simp; have : a.length = a.cps.size := rfl; omega
  simp [List.getD, List.getElem?_append_left hx]
theorem lp1 {a b : Str} {i : Int} (hab : PreOf a b) (he : (Txt.item a i == Txt.item b i) = false) (h0 : 0 ≤ i) (hn : ((Txt.slice a (some i) none).length : Int) ≠ 0) : False := by
  rw [len_sn h0] at hn
  rw [hab.item h0 (by omega)] at he
  simp at he
theorem lp1' {a b : Str} {i : Int} (hab : PreOf a b) (he : (Txt.item b i == Txt.item a i) = false) (h0 : 0 ≤ i) (hn : ((Txt.slice a (some i) none).length : Int) ≠ 0) : False := by
  rw [len_sn h0] at hn
  rw [hab.item h0 (by omega)] at he
  simp at he
theorem lp2 {a b : Str} {i : Int} (hab : PreOf a b) (hn : ((Txt.slice a (some i) none).length : Int) ≠ 0) (hb : ((Txt.slice b (some i) none).length : Int) = 0) (h0 : 0 ≤ i) : False := by
  have := hab.len
  rw [len_sn h0] at hn hb
  omega
theorem lp3 {a b : Str} {i : Int} (hab : PreOf a b) (ha : ((Txt.slice a (some i) none).length : Int) = 0) (h0 : 0 ≤ i) (h1 : i ≤ a.length) : (2 : Int) * ((Txt.slice a (some i) none).length + (Txt.slice b (some i) none).length) = 2 * ((b.length : Int) - a.length) := by
  have := hab.len
  rw [len_sn h0] at ha ⊢
  rw [len_sn h0]
  omega
theorem slice_str_all {w : World} {A : Around} {E : Value → Shared → Prop} {s : Shared} {h₀ : Heap} {L : Addr} {m : Str → Option Value} {value slice : Expr} {x : Str} {t : Tok} {Q : Value → Shared → Prop} (hI : Fr h₀ L s.heap m) (h : ∀ h' t' k, Fr h₀ L h' m → Q (.str x t') { s with heap := h', toks := k })
    (hs : subscripted slice false (.str x t) (.ref s.heap.objs.size) = operate [.ref s.heap.objs.size, .str x t] (getItem (.str x t) (.ref s.heap.objs.size)) := by with_unfolding_all rfl)
    (ht : ∀ r, letTemporaryGo value (.str x t) r = pure () := by intro _; with_unfolding_all rfl) (hsz : x.length ≤ sizeLine := by size_fits) :
    wpAny (model PySem.Challenge.rw_tp0048_01.row.prog w) A (subscriptTail value slice (.str x t) (.ref s.heap.objs.size)) Q E { s with heap := s.heap.push { cls := .type "slice", data := .fields #[.none, .none, .none] } } :=
  slice_str_nn hI (fun h' t' k hF => by rw [slice_nn]; exact h h' t' k hF) hs ht hsz
theorem sl_fits {x : Str} {l u : Option Int} (h : (Txt.slice x l u).length ≤ x.length) (hx : x.length < 1000) : (Txt.slice x l u).length ≤ sizeLine := by rw [PySem.sizeLine_eq]; omega
theorem lp3' {a b : Str} {i : Int} (hab : PreOf b a) (hb : ((Txt.slice b (some i) none).length : Int) = 0) (h0 : 0 ≤ i) (h1 : i ≤ b.length) : (2 : Int) * ((Txt.slice a (some i) none).length + (Txt.slice b (some i) none).length) = 2 * ((a.length : Int) - b.length) := by
  rw [Int.add_comm]; exact lp3 hab hb h0 h1
theorem lp4 {a b : Str} {i : Int} (hab : PreOf b a) (ha : ((Txt.slice a (some i) none).length : Int) = 0) (h0 : 0 ≤ i) (h1 : i ≤ b.length) : (2 : Int) * ((Txt.slice a (some i) none).length + (Txt.slice b (some i) none).length) = 2 * ((a.length : Int) - b.length) := by
  have := hab.len
  rw [len_sn h0] at ha ⊢
  rw [len_sn h0]
  omega
local macro_rules | `(tactic| walk_at $s:str) => do `(tactic| k_extra $(Lean.Syntax.mkStrLit (s.getString ++ "!")))
theorem c_levp (w : World) (a b : Str) (mx : Int) (ta tb tm : Tok) (ha : a.length < 1000) (hb : b.length < 1000) (hab : PreOf a b) : SC 16 w 124 [.str a ta, .str b tb, .int mx tm] noPre (RI (2 * ((b.length : Int) - a.length))) := by
  k_with_none
  (k_with "subscriptTail Name Slice str ref!" => (k_here; (with_reducible show wpAny _ _ (subscriptTail _ (Expr.Slice none (some (Expr.BoolOp _ _ _)) none _) _ _) _ _ _); (with_reducible rename Fr _ _ _ _ => F'); (first | (refine slice_str_ns (hsz := ?hsz) (s := ⟨_, _, _, _, _⟩) F' ?_) | (refine slice_str_all (hsz := ?hsz) (s := ⟨_, _, _, _, _⟩) F' ?_)); (case hsz => first | exact sl_fits (by assumption) (by assumption) | size_fits); intro _ _ _ _))
  refine SC.enter (by decide) (fun P => by with_unfolding_all rfl) (fun P => by with_unfolding_all rfl) (by rfl) (locs rfl) (by decide) rfl rfl rfl ?_
  w_top off
  k_fill
  intro mean mg mb A s Q E L h₁ tk₁ F N X T S hp hh hd1 hu hret
  (k_with "exec While BoolOp cons nil" => first | ((with_reducible show wpAny _ _ (exec (Stmt.While (Expr.BoolOp _ (Expr.Subscript _ (Expr.Slice (some _) none none _) _ :: _) _) _ _ _) _) _ _ _); k_while (fun _ pre => 0 ≤ pre ∧ pre ≤ a.length) (fun _ pre => (a.length - pre).toNat) "pre") | (exfalso; exact lp1 hab (by assumption) (by assumption) (by assumption)) | (exfalso; exact lp2 hab (by assumption) (by assumption) (by assumption)) | k_while (fun _ post => 0 ≤ post ∧ post ≤ 0) (fun _ post => 0) "post")
  k_steps
  all_goals try (exfalso; omega)
  all_goals ((try dsimp only); refine retI hret (by k_asm) ?_)
  all_goals first | exact lp3 hab (by assumption) (by assumption) (by assumption) | ((have e : a = b := by simpa using (by assumption : (a == b) = true)); subst e; omega) | fail
theorem c_levq (w : World) (a b : Str) (mx : Int) (ta tb tm : Tok) (ha : a.length < 1000) (hb : b.length < 1000) (hab : PreOf b a) : SC 16 w 124 [.str a ta, .str b tb, .int mx tm] noPre (RI (2 * ((a.length : Int) - b.length))) := by
  k_with_none
  (k_with "subscriptTail Name Slice str ref!" => (k_here; (with_reducible show wpAny _ _ (subscriptTail _ (Expr.Slice none (some (Expr.BoolOp _ _ _)) none _) _ _) _ _ _); (with_reducible rename Fr _ _ _ _ => F'); (first | (refine slice_str_ns (hsz := ?hsz) (s := ⟨_, _, _, _, _⟩) F' ?_) | (refine slice_str_all (hsz := ?hsz) (s := ⟨_, _, _, _, _⟩) F' ?_)); (case hsz => first | exact sl_fits (by assumption) (by assumption) | size_fits); intro _ _ _ _))
  refine SC.enter (by decide) (fun P => by with_unfolding_all rfl) (fun P => by with_unfolding_all rfl) (by rfl) (locs rfl) (by decide) rfl rfl rfl ?_
  w_top off
  k_fill
  intro mean mg mb A s Q E L h₁ tk₁ F N X T S hp hh hd1 hu hret
  (k_with "exec While BoolOp cons nil" => first | ((with_reducible show wpAny _ _ (exec (Stmt.While (Expr.BoolOp _ (Expr.Subscript _ (Expr.Slice (some _) none none _) _ :: _) _) _ _ _) _) _ _ _); k_while (fun _ pre => 0 ≤ pre ∧ pre ≤ b.length) (fun _ pre => (b.length - pre).toNat) "pre") | (exfalso; exact lp1' hab (by assumption) (by assumption) (by assumption)) | (exfalso; exact lp2 hab (by assumption) (by assumption) (by assumption)) | k_while (fun _ post => 0 ≤ post ∧ post ≤ 0) (fun _ post => 0) "post")
  k_steps
  all_goals try (exfalso; omega)
  all_goals ((try dsimp only); refine retI hret (by k_asm) ?_)
  all_goals first | exact lp3' hab (by assumption) (by assumption) (by assumption) | exact lp4 hab (by assumption) (by assumption) (by assumption) | ((have e : a = b := by simpa using (by assumption : (a == b) = true)); subst e; omega) | fail

end Mine
namespace Mine
open PySem.Builtin PySem.Builtin.Str in
section
/-- what «replace('""', NUL)» does to the signs -/
def rep2 : List Nat → List Nat
  | [] => []
  | [c] => [c]
  | c :: d :: r => if c = 34 ∧ d = 34 then 0 :: rep2 r else c :: rep2 (d :: r)
def Dq (l : List Nat) (k : Nat) : Prop := l[k]? = some 34 ∧ l[k + 1]? = some 34
theorem rep2_cons {c : Nat} {r : List Nat} (h : ¬ Dq (c :: r) 0) : rep2 (c :: r) = c :: rep2 r := by
  cases r with
  | nil => rfl
  | cons d r => rw [rep2, if_neg]; exact fun ⟨a, b⟩ => h ⟨by rw [a]; rfl, by rw [b]; rfl⟩
theorem Dq_succ {c : Nat} {r : List Nat} {k : Nat} : Dq (c :: r) (k + 1) ↔ Dq r k := Iff.rfl
theorem rep2_free : ∀ (l : List Nat), (∀ k, ¬ Dq l k) → rep2 l = l
  | [], _ => rfl
  | c :: r, h => by rw [rep2_cons (h 0), rep2_free r fun k => fun x => h (k + 1) (Dq_succ.mpr x)]
theorem rep2_cut : ∀ (P R : List Nat), (∀ k, k < P.length → ¬ Dq (P ++ 34 :: 34 :: R) k) → rep2 (P ++ 34 :: 34 :: R) = P ++ 0 :: rep2 R
  | [], R, _ => by show rep2 (34 :: 34 :: R) = _; rw [rep2, if_pos ⟨rfl, rfl⟩]; rfl
  | c :: P, R, h => by
    show rep2 (c :: (P ++ 34 :: 34 :: R)) = c :: (P ++ 0 :: rep2 R)
    have h0 : ¬ Dq (c :: (P ++ 34 :: 34 :: R)) 0 := h 0 (Nat.succ_pos _)
    rw [rep2_cons h0, rep2_cut P R fun k hk => fun x => h (k + 1) (Nat.succ_lt_succ hk) (Dq_succ.mpr x)]
theorem at_dq {x : Str} {k : Nat} : StrLaws.At x ⟨#[34, 34]⟩ x.length k ↔ Dq x.cps.toList k := by
  unfold StrLaws.At Dq
  rw [StrLaws.subAt_eq, beq_iff_eq]
  have hn : x.cps.toList.length = x.length := by simp [Str.length]
  show k + 2 ≤ _ ∧ (x.cps.toList.drop k).take 2 = [34, 34] ↔ _
  generalize x.cps.toList = l at *
  constructor
  · rintro ⟨h1, h2⟩
    have e0 : ((l.drop k).take 2)[0]? = some 34 := by rw [h2]; rfl
    have e1 : ((l.drop k).take 2)[1]? = some 34 := by rw [h2]; rfl
    rw [List.getElem?_take_of_lt (by decide), List.getElem?_drop] at e0 e1
    exact ⟨e0, e1⟩
  · rintro ⟨h1, h2⟩
    obtain ⟨hk1, e1⟩ := List.getElem?_eq_some_iff.mp h2
    obtain ⟨hk0, e0⟩ := List.getElem?_eq_some_iff.mp h1
    refine ⟨by omega, ?_⟩
    rw [List.drop_eq_getElem_cons hk0, List.drop_eq_getElem_cons hk1, e0, e1]
    rfl
theorem Dq_drop {l : List Nat} {a k : Nat} : Dq (l.drop a) k ↔ Dq l (a + k) := by
  unfold Dq
  rw [List.getElem?_drop, List.getElem?_drop]
  rfl
theorem join_cons2 (z p q : Str) (r : List Str) : (Str.join z (p :: q :: r)).cps.toList = p.cps.toList ++ z.cps.toList ++ (Str.join z (q :: r)).cps.toList := by
  show (p ++ z ++ Str.join z (q :: r)).cps.toList = _
  simp only [Str.cps_append, Array.toList_append]
theorem parts_rep (x : Str) : ∀ (cuts : List Nat) (a f : Nat), StrLaws.ChainG x ⟨#[34, 34]⟩ x.length a cuts f → (∀ k, f ≤ k → ¬ StrLaws.At x ⟨#[34, 34]⟩ x.length k) →
    (Str.join ⟨#[0]⟩ (StrLaws.partsFrom x 2 a cuts)).cps.toList = rep2 (x.cps.toList.drop a)
  | [], a, f, h, hn => by
    have e : f = a := h
    subst e
    show (strSub x f x.length).cps.toList = _
    rw [StrLaws.strSub_toList, rep2_free _ fun k hk => hn (f + k) (Nat.le_add_right ..) (at_dq.mpr (Dq_drop.mp hk))]
    exact List.take_of_length_le (by simp [Str.length])
  | c :: r, a, f, h, hn => by
    obtain ⟨p, q, e⟩ := StrLaws.partsFrom_ne x 2 (c + 2) r
    have ih := parts_rep x r (c + 2) f h.2.2.2 hn
    show (Str.join ⟨#[0]⟩ (strSub x a c :: StrLaws.partsFrom x 2 (c + 2) r)).cps.toList = _
    rw [e] at ih ⊢
    rw [join_cons2, ih, StrLaws.strSub_toList]
    have hq := at_dq.mp h.2.1
    obtain ⟨hk1, e1⟩ := List.getElem?_eq_some_iff.mp hq.2
    obtain ⟨hk0, e0⟩ := List.getElem?_eq_some_iff.mp hq.1
    have hac := h.1
    have split : x.cps.toList.drop a = (x.cps.toList.drop a).take (c - a) ++ 34 :: 34 :: x.cps.toList.drop (c + 2) := by
      conv => lhs; rw [← List.take_append_drop (c - a) (x.cps.toList.drop a)]
      congr 1
      rw [List.drop_drop, show a + (c - a) = c by omega, List.drop_eq_getElem_cons hk0, List.drop_eq_getElem_cons hk1, e0, e1]
    have hlen : ((x.cps.toList.drop a).take (c - a)).length = c - a := by
      rw [List.length_take, List.length_drop]; omega
    have cut := rep2_cut ((x.cps.toList.drop a).take (c - a)) (x.cps.toList.drop (c + 2)) fun k hk hd => by
      rw [← split] at hd
      rw [hlen] at hk
      exact h.2.2.1 (a + k) (Nat.le_add_right ..) (by omega) (at_dq.mpr (Dq_drop.mp hd))
    rw [← split] at cut
    rw [cut, List.append_assoc]
    rfl
theorem rep_eq (x : Str) : (Txt.replace x ⟨#[34, 34]⟩ ⟨#[0]⟩).cps.toList = rep2 x.cps.toList := by
  obtain ⟨f, h, hn⟩ := StrLaws.occ_tight x ⟨#[34, 34]⟩ (by decide)
  have key := parts_rep x _ 0 f h hn
  rw [List.drop_zero] at key
  unfold Txt.replace
  cases ho : occurrences x ⟨#[34, 34]⟩ 0 x.length (x.length + 1) with
  | nil =>
    rw [ho] at key
    rw [if_pos (by rfl)]
    rw [← key]
    show _ = (strSub x 0 x.length).cps.toList
    rw [StrLaws.sub_whole]
  | cons i r =>
    rw [ho] at key
    rw [if_neg (by simp [Str.length]), StrLaws.glued_eq_join, StrLaws.partsBetween_eq]
    exact key
theorem at_one {x : Str} {c k : Nat} : StrLaws.At x ⟨#[c]⟩ x.length k ↔ x.cps.toList[k]? = some c := StrLaws.subAt_one x c k
theorem takeWhile_of {l : List Nat} : ∀ {i : Nat}, l[i]? = some 34 → (∀ k, k < i → ¬ l[k]? = some 34) → l.takeWhile (· != 34) = l.take i := by
  induction l with
  | nil => intro i h; simp at h
  | cons c r ih =>
    intro i h hn
    cases i with
    | zero =>
      have : c = 34 := by simpa using h
      subst this
      rfl
    | succ i =>
      have hc : c ≠ 34 := fun e => hn 0 (Nat.succ_pos _) (by rw [e]; rfl)
      rw [List.takeWhile_cons_of_pos (by simpa using hc), List.take_succ_cons, ih h fun k hk => hn (k + 1) (Nat.succ_lt_succ hk)]
theorem takeWhile_all {l : List Nat} (hn : ∀ k : Nat, ¬ l[k]? = some 34) : l.takeWhile (· != 34) = l := by
  induction l with
  | nil => rfl
  | cons c r ih =>
    have hc : c ≠ 34 := fun e => hn 0 (by rw [e]; rfl)
    rw [List.takeWhile_cons_of_pos (by simpa using hc), ih fun k => hn (k + 1)]
theorem head_eq {x z : Str} (hz : (Txt.split x ⟨#[34]⟩)[0]? = some z) : z.cps.toList = x.cps.toList.takeWhile (· != 34) := by
  rcases split_head x ⟨#[34]⟩ (by decide +kernel) z hz with ⟨rfl, hn⟩ | ⟨i, rfl, hi, hn⟩
  · rw [takeWhile_all fun k hk => hn k (at_one.mpr hk)]
  · rw [takeWhile_of (at_one.mp hi) fun k hk he => hn k hk (at_one.mpr he), StrLaws.strSub_toList, List.drop_zero, Nat.sub_zero]
def unNul (l : List Nat) : List Nat := l.map fun c => if c = 0 then 34 else c
theorem unNul_free {l : List Nat} (h : 0 ∉ l) : unNul l = l := by
  unfold unNul
  conv => rhs; rw [← List.map_id l]
  exact List.map_congr_left fun c hc => if_neg fun e : c = 0 => h (by rw [← e]; exact hc)
theorem unNul_join : ∀ parts : List Str, (∀ p ∈ parts, 0 ∉ p.cps.toList) → unNul (Str.join ⟨#[0]⟩ parts).cps.toList = (Str.join ⟨#[34]⟩ parts).cps.toList
  | [], _ => rfl
  | [p], h => unNul_free (h p (List.mem_singleton.mpr rfl))
  | p :: q :: r, h => by
    have ih := unNul_join (q :: r) fun a ha => h a (List.mem_cons_of_mem _ ha)
    rw [join_cons2, join_cons2, ← ih]
    unfold unNul
    rw [List.map_append, List.map_append]
    rw [show p.cps.toList.map (fun c => if c = 0 then 34 else c) = p.cps.toList from unNul_free (h p (List.mem_cons_self ..))]
    rfl
theorem map_eq (x : Str) : (Txt.replace x ⟨#[0]⟩ ⟨#[34]⟩).cps.toList = unNul x.cps.toList := by
  rw [StrLaws.replace_one, ← unNul_join _ (StrLaws.split_free x 0), StrLaws.join_split]
theorem rep2_len : ∀ l : List Nat, (rep2 l).length ≤ l.length
  | [] => Nat.le_refl _
  | [c] => Nat.le_refl _
  | c :: d :: r => by
    rw [rep2]
    split
    · have := rep2_len r
      simp only [List.length_cons]; omega
    · have := rep2_len (d :: r)
      simp only [List.length_cons] at *; omega
theorem scan_eq : ∀ l : List Nat, 0 ∉ l → unNul ((rep2 l).takeWhile (· != 34)) = scanL l
  | [], _ => rfl
  | [c], h => by
    have hc : c ≠ 0 := fun e => h (e ▸ List.mem_cons_self ..)
    by_cases e : c = 34
    · subst e; rfl
    · rw [scanL_other e]
      show unNul (([c] : List Nat).takeWhile (· != 34)) = _
      rw [List.takeWhile_cons_of_pos (by simpa using e)]
      simp [unNul, hc, scanL]
  | c :: d :: r, h => by
    have hc : c ≠ 0 := fun e => h (e ▸ List.mem_cons_self ..)
    by_cases e : c = 34
    · subst e
      by_cases e2 : d = 34
      · subst e2
        rw [rep2, if_pos ⟨rfl, rfl⟩, scanL_two, ← scan_eq r fun hm => h (List.mem_cons_of_mem _ (List.mem_cons_of_mem _ hm))]
        rw [List.takeWhile_cons_of_pos (by decide)]
        simp [unNul]
      · rw [rep2, if_neg (fun x => e2 x.2), scanL_end (fun d' r' he => by cases he; exact e2)]
        rfl
    · rw [rep2, if_neg (fun x => e x.1), scanL_other e, ← scan_eq (d :: r) fun hm => h (List.mem_cons_of_mem _ hm)]
      rw [List.takeWhile_cons_of_pos (by simpa using e)]
      simp [unNul, hc]
end

end Mine
namespace Mine
def alphN : List Nat := [119808, 119860, 119912, 120016, 120172, 120224, 120276, 120328, 120380, 120432]
/-- the code of the letter l in its form f: small, capital, or of one of the ten alphabets -/
def codeN (l f : Nat) : Nat := match f with | 0 => 97 + l | 1 => 65 + l | k + 2 => alphN.getD k 0 + l
def allLF (p : Nat → Nat → Bool) : Bool := (List.range 26).all fun l => (List.range 12).all fun f => p l f
theorem allLF_at {p : Nat → Nat → Bool} (h : allLF p = true) {l f : Nat} (hl : l < 26) (hf : f < 12) : p l f = true := by
  have h1 := List.all_eq_true.mp h l (List.mem_range.mpr hl)
  exact List.all_eq_true.mp h1 f (List.mem_range.mpr hf)
theorem code_keep : allLF (fun l f => keepB (codeN l f)) = true := by kernel_rfl
def incrB : List (Int × Str) → Bool
  | [] => true
  | [_] => true
  | a :: b :: r => decide (a.1 < b.1) && incrB (b :: r)
theorem incrB_lt : ∀ {l : List (Int × Str)} {a : Int × Str}, incrB (a :: l) = true → ∀ x ∈ l, a.1 < x.1
  | [], a, _, x, h => nomatch h
  | b :: r, a, h, x, hx => by
    rw [incrB, Bool.and_eq_true, decide_eq_true_eq] at h
    rcases List.mem_cons.mp hx with rfl | hx
    · exact h.1
    · exact Int.lt_trans h.1 (incrB_lt h.2 x hx)
theorem lookK_of : ∀ {l : List (Int × Str)} {k : Int} {v : Str}, incrB l = true → (k, v) ∈ l → lookK k l = some v
  | (j, u) :: r, k, v, h, hm => by
    rw [lookK]
    rcases List.mem_cons.mp hm with e | hm
    · cases e; rw [if_pos rfl]
    · have h1 := incrB_lt h _ hm
      rw [if_neg (by have : j < k := h1; omega)]
      refine lookK_of ?_ hm
      cases r with
      | nil => rfl
      | cons b r => rw [incrB, Bool.and_eq_true] at h; exact h.2
def subLB : List (Int × Str) → List (Int × Str) → Bool
  | [], _ => true
  | _ :: _, [] => false
  | w :: ws, x :: xs => if w.1 = x.1 then (w.2 == x.2) && subLB ws xs else subLB (w :: ws) xs
theorem subLB_mem : ∀ {l ws : List (Int × Str)}, subLB ws l = true → ∀ w ∈ ws, w ∈ l
  | _, [], _, w, h => nomatch h
  | [], _ :: _, h, _, _ => by cases h
  | x :: xs, w :: ws, h, y, hy => by
    rw [subLB] at h
    split at h
    · rename_i e
      rw [Bool.and_eq_true] at h
      rcases List.mem_cons.mp hy with rfl | hy
      · have : y = x := by obtain ⟨a, b⟩ := y; obtain ⟨c, d⟩ := x; cases e; have := eq_of_beq h.1; cases this; rfl
        rw [this]; exact .head _
      · exact .tail _ (subLB_mem h.2 y hy)
    · exact .tail _ (subLB_mem h y hy)
def wantL : List (Int × Str) := alphN.flatMap fun a => (List.range 26).map fun l => (((a + l : Nat) : Int), (⟨#[97 + l]⟩ : Str))
theorem kvs_incr : incrB kvs = true := by kernel_rfl
theorem kvs_want : subLB wantL kvs = true := by kernel_rfl
theorem kvs_big : (kvs.all fun x => decide (180 < x.1)) = true := by kernel_rfl
theorem lookK_none : ∀ {l : List (Int × Str)} {k : Int}, (l.all fun x => decide (180 < x.1)) = true → k ≤ 180 → lookK k l = none
  | [], _, _, _ => rfl
  | (j, v) :: r, k, h, hk => by
    rw [List.all_cons, Bool.and_eq_true, decide_eq_true_eq] at h
    rw [lookK, if_neg (by have : 180 < j := h.1; omega)]
    exact lookK_none h.2 hk
theorem code_alph {l k : Nat} (hl : l < 26) (hk : k < 10) : b3Of (alphN.getD k 0 + l) = ⟨#[97 + l]⟩ := by
  have hm : (((alphN.getD k 0 + l : Nat) : Int), (⟨#[97 + l]⟩ : Str)) ∈ wantL := by
    unfold wantL
    rw [List.mem_flatMap]
    refine ⟨alphN.getD k 0, ?_, List.mem_map.mpr ⟨l, List.mem_range.mpr hl, rfl⟩⟩
    rw [List.getD_eq_getElem?_getD, List.getElem?_eq_getElem (by exact hk)]
    exact List.getElem_mem _
  unfold b3Of
  rw [lookK_of kvs_incr (subLB_mem kvs_want _ hm)]
theorem code_low : (List.range 26).all (fun l => Txt.lower ⟨#[97 + l]⟩ == ⟨#[97 + l]⟩ && Txt.lower ⟨#[65 + l]⟩ == ⟨#[97 + l]⟩) = true := by kernel_rfl
theorem low_quote : Txt.lower ⟨#[34]⟩ = ⟨#[34]⟩ := by kernel_rfl
theorem code_b3 {l f : Nat} (hl : l < 26) (hf : f < 12) : b3Of (codeN l f) = ⟨#[97 + l]⟩ := by
  have h3 := List.all_eq_true.mp code_low l (List.mem_range.mpr hl)
  rw [Bool.and_eq_true] at h3
  match f, hf with
  | 0, _ => unfold b3Of; rw [lookK_none kvs_big (by show ((97 + l : Nat) : Int) ≤ 180; omega)]; exact eq_of_beq h3.1
  | 1, _ => unfold b3Of; rw [lookK_none kvs_big (by show ((65 + l : Nat) : Int) ≤ 180; omega)]; exact eq_of_beq h3.2
  | k + 2, h => exact code_alph hl (by omega)
theorem b3_quote : b3Of 34 = ⟨#[34]⟩ := by unfold b3Of; rw [lookK_none kvs_big (by decide)]; exact low_quote

end Mine
namespace Mine
theorem SC.enterT {k : Nat} (hk8 : 2 ≤ k) {w : World} {f : Addr} {vs : List Value} {pre : Heap → Prop} {R : Heap → Value → Heap → Prop} {name qual : Str} {params : Arguments} {body : List Stmt} {scope : Scope} {dV kV doc pm cdv ct oc : Value} {an od : Option Addr} {osl : Array (Option Value)} {binds : List (Str × Value)}
    (ho : ∀ P, (hd.heap_39 P).lookup f = some ⟨oc, od, .func (fnOf name qual params body scope dV kV doc pm an cdv ct), osl⟩) (hcd : ∀ P, codeIn (hd.heap_39 P) cdv qual = true)
    (hbind : bindArgs (fnOf name qual params body scope dV kV doc pm an cdv ct) ⟨vs, []⟩ = pure binds) (hloc : ∀ y ∈ binds, scope.names.lookup y.1 = some .local)
    (hcell : ∀ x ∈ scope.names, x.2 ≠ .cell) (hco : scope.isCoroutine = false) (hgen : scope.isGenerator = false) (hk : scope.kind = .function) (hb1 : 0 < binds.length)
    (h : ∀ (mean : ExcName → Option Value) (mg mb : Str → Option Value) (A : Around) (s : Shared) (Q E : Value → Shared → Prop) (L : Addr) (h₁ : Heap) (tk₁ : Nat), 0 < tk₁ →
      Fr s.heap L h₁ (fun y => binds.reverse.lookup y) → News s.heap L h₁ [] → (hd.heap_39 w.params).In s.heap → Top q0 (looseW q0 loose0) mean mg mb s.heap → s.heap.get? 54 = some (setO w.params) → pre s.heap → A.handled = none → A.depth + k < recursionLimit → A.units + 10 * k < cLine →
      (∀ v h' tk', R s.heap v h' → Kp s.heap h' → Q v { s with heap := h', toks := tk' }) →
      wpAny (model PySem.Challenge.rw_tp0048_01.row.prog w) ((calm A).deeper (envOf qual scope L f cdv)) (execs body (envOf qual scope L f cdv)) (fun fl s' => Q (match fl with | .ret v => v | _ => .none) s')
        (fun e s' => wpAny (model PySem.Challenge.rw_tp0048_01.row.prog w) ((calm A).deeper (envOf qual scope L f cdv)) (leaving (envOf qual scope L f cdv) e) (fun _ s'' => E e s'') (fun e' s'' => E e' s'') s')
        { s with heap := h₁, toks := tk₁ }) : SC k w f vs pre R := by
  intro mean mg mb A s Q E W hp hh hd1 hu hret
  refine wpAny_call ?_
  refine codeAny_call_def (fd := fnOf name qual params body scope dV kV doc pm an cdv ct) (body := body) (binds := binds) (by omega) (W.X _ _ (ho _)) rfl W.T.nolimit (codeRec_of W.X (hcd _)) rfl (BindsTo.of_eq hbind) hcell hloc (fun h₁ hns hk₁ => ?_) hco hgen hk
  have hA : A = calm A := calm_of hh
  rw [hA]
  exact h mean mg mb A s Q E _ h₁ _ (Nat.lt_of_lt_of_le hb1 (Nat.le_add_left _ _)) ⟨hns, hk₁, Nat.le_refl _⟩ News.nil W.X W.T W.S hp hh hd1 hu hret
theorem hid_in {n : Int} : ∃ k : Nat, ([173, 847, 6150, 6155, 6156, 6157, 8203, 8204, 8205, 8288, 65279] ++ rangeInts 65024 1 ((65040 : Int) - 65024).toNat).getD (Int.fmod n 27).toNat 0 = (k : Int) ∧ b1L.contains (k : Int) = true ∧ (0 : Int) ≤ (k : Int) ∧ (k : Int) ≤ 1114111 := by
  have h0 := Int.fmod_nonneg_of_pos n (show (0 : Int) < 27 by decide)
  have h1 := Int.fmod_lt_of_pos n (show (0 : Int) < 27 by decide)
  generalize Int.fmod n 27 = x at *
  obtain ⟨j, rfl⟩ : ∃ j : Nat, x = j := ⟨x.toNat, by omega⟩
  have hj : j < 27 := by omega
  have key : ∀ j : Fin 27, ∃ k : Nat, ([173, 847, 6150, 6155, 6156, 6157, 8203, 8204, 8205, 8288, 65279] ++ rangeInts 65024 1 ((65040 : Int) - 65024).toNat).getD j.val 0 = (k : Int) ∧ b1L.contains (k : Int) = true ∧ k ≤ 1114111 := by
    have all : (List.finRange 27).all (fun j => let v := ([173, 847, 6150, 6155, 6156, 6157, 8203, 8204, 8205, 8288, 65279] ++ rangeInts 65024 1 ((65040 : Int) - 65024).toNat).getD j.val 0; v == (v.toNat : Int) && b1L.contains (v.toNat : Int) && decide (v.toNat ≤ 1114111)) = true := by decide +kernel
    intro j
    have := List.all_eq_true.mp all j (List.mem_finRange j)
    simp only [Bool.and_eq_true, beq_iff_eq, decide_eq_true_eq] at this
    exact ⟨_, this.1.1, this.1.2, this.2⟩
  obtain ⟨k, e1, e2, e3⟩ := key ⟨j, hj⟩
  exact ⟨k, e1, e2, by omega, by omega⟩
local macro_rules | `(tactic| walk_at $s:str) => do `(tactic| k_extra $(Lean.Syntax.mkStrLit (s.getString ++ "!")))
theorem c_hidden (w : World) (n : Int) (tn : Tok) : SC 8 w 131 [.int n tn] noPre (fun _ v _ => ∃ c t, v = .str ⟨#[c]⟩ t ∧ b1L.contains (c : Int) = true) := by
  k_with_none
  (k_with "ADDL!" => ((rename CarriedAll _ _ => hc); (have hI := IntsAre.ofCarried hc); k_dflt (refine' kmk_add_ints ?F ?N ?a ?b ?i ?j ?_ ?z); (case F => k_asm); (case N => k_asm); (case j => exact hI); (case b => assumption); (case a => kmk_list); (case i => l_ints); (case z => exact Nat.le_of_ble_eq_true rfl); intro D' us' h' F' N' l1 hI'))
  (k_with "SUBL!" => ((rename IntsAre _ (_ ++ _) => hI); k_dflt (refine' item_anyK ?a hI ?h0 ?h1 ?hf ?_); (case a => exact News.isList (by k_asm) (by k_mem)); (case h0 => exact Int.fmod_nonneg_of_pos _ (by decide)); (case h1 => exact Int.fmod_lt_of_pos _ (by decide)); (case hf => exact Int.lt_trans (Int.fmod_lt_of_pos _ (by decide)) (by decide)); intro t8; (obtain ⟨k8, e8, hb8, hl8, hh8⟩ := hid_in (n := n)); rw [e8]))
  refine SC.enter (by decide) (fun P => by with_unfolding_all rfl) (fun P => by with_unfolding_all rfl) (by rfl) (locs rfl) (by decide) rfl rfl rfl ?_
  w_top off
  k_fill
  intro mean mg mb A s Q E L h₁ tk₁ F N X T S hp hh hd1 hu hret
  (k_with "binaryOp Add ref ref" => (walk_at "ADDL"))
  k_steps
  obtain ⟨k8, e8, hb8, hl8, hh8⟩ := hid_in (n := n)
  generalize hg : List.getD _ (Int.toNat (Int.fmod n 27)) (0 : Int) = gv
  have hg2 : gv = (k8 : Int) := hg.symm.trans e8
  subst hg2
  clear hg e8
  refine chr_of_range hl8 hh8 ?_
  all_goals ((try dsimp only); refine hret _ _ _ ⟨_, _, rfl, ?_⟩ (Fr.keep (by assumption)); assumption)
theorem replaceT {prog : Program} {w : World} {A : Around} {E : Value → Shared → Prop} {s : Shared} {x y z : Str} {t u v : Tok} {Q : Value → Shared → Prop} (hu : @LT.lt Nat _ 0 u) (huv : @LT.lt Nat _ u v) (hyz : (y == z) = false) (hx : x.length ≤ 1048576) (hz : z.length ≤ 14)
    (hq : ∀ t' k, @LE.le Nat _ s.toks k → Q (.str (Txt.replace x y z) t') { s with toks := k }) : wpAny (model prog w) A (call (.builtin "str.replace") [.str x t, .str y u, .str z v]) Q E s :=
  wpAny_with_toks (Nat.le_refl s.toks) (PySem.SC.replaceW (Nat.ne_of_gt hu) (Nat.ne_of_gt (Nat.lt_trans hu huv)) (Nat.ne_of_lt huv) hyz hx hz fun t' k hk => hq t' k hk)
theorem c_name (w : World) (x : Str) (tx : Tok) (hx : x.length < 1000) (hz : 0 ∉ x.cps.toList) : SC 8 w 145 [.str x tx] noPre (RS ⟨⟨scanL x.cps.toList⟩⟩) := by
  k_with_none
  (k_with "ADDL!" => ((rename CarriedAll _ _ => hc); (have hI := IntsAre.ofCarried hc); k_dflt (refine' kmk_add_ints ?F ?N ?a ?b ?i ?j ?_ ?z); (case F => k_asm); (case N => k_asm); (case j => exact hI); (case b => assumption); (case a => kmk_list); (case i => l_ints); (case z => exact Nat.le_of_ble_eq_true rfl); intro D' us' h' F' N' l1 hI'))
  (k_with "SUBL!" => ((rename IntsAre _ (_ ++ _) => hI); k_dflt (refine' item_anyK ?a hI ?h0 ?h1 ?hf ?_); (case a => exact News.isList (by k_asm) (by k_mem)); (case h0 => exact Int.fmod_nonneg_of_pos _ (by decide)); (case h1 => exact Int.fmod_lt_of_pos _ (by decide)); (case hf => exact Int.lt_trans (Int.fmod_lt_of_pos _ (by decide)) (by decide)); intro t8; (obtain ⟨k8, e8, hb8, hl8, hh8⟩ := hid_in (n := n)); rw [e8]))
  refine SC.enterT (by decide) (fun P => by with_unfolding_all rfl) (fun P => by with_unfolding_all rfl) (by rfl) (locs rfl) (by decide) rfl rfl rfl (Nat.lt_of_lt_of_eq Nat.zero_lt_one rfl) ?_
  w_top off
  k_fill
  intro mean mg mb A s Q E L h₁ tk₁ htk F N X T S hp hh hd1 hu hret
  k_steps
  have eq1 : Str.ofString "\"\"" = ⟨#[34, 34]⟩ := by decide +kernel
  have eq0 : Str.ofString "\x00" = ⟨#[0]⟩ := by decide +kernel
  have eqq : Str.ofString "\"" = ⟨#[34]⟩ := by decide +kernel
  have hl1 : (Txt.replace x (Str.ofString "\"\"") (Str.ofString "\x00")).length ≤ x.length := by
    have h := rep2_len x.cps.toList
    rw [← rep_eq x] at h
    rw [eq1, eq0]
    simpa [Str.length] using h
  have hr1 : (Txt.replace x (Str.ofString "\"\"") (Str.ofString "\x00")).cps.toList = rep2 x.cps.toList := by rw [eq1, eq0]; exact rep_eq x
  generalize hy : Txt.replace x (Str.ofString "\"\"") (Str.ofString "\x00") = y at *
  refine replaceT (by omega) (by show @LT.lt Nat _ tk₁ (tk₁ + 1); omega) (by decide) (by omega) (by decide) ?_; intro t9 k9 hk9
  rw [hy]
  (k_with "call builtin:str.split" => (k_dflt (refine wpAny_with_toks (Nat.le_refl _) (KSpl.split1 F N rfl ?_ (by rw [PySem.sizeLine_eq]; omega)); intro D l h' k e hs F' N' hlt hk)))
  k_steps
  rename_i z tz hz0
  (rename List.map _ l = _ => hl2)
  have hz1 : (Txt.split y ⟨#[34]⟩)[0]? = some z := by rw [← eqq, ← hl2]; exact hz0
  have hzc := head_eq hz1
  have hzl : z.length ≤ y.length := by
    have h : z.cps.toList.length ≤ y.cps.toList.length := by rw [hzc]; exact List.Sublist.length_le (List.takeWhile_sublist _)
    simpa [Str.length] using h
  refine replaceT (by show @LT.lt Nat _ 0 (k + 1); omega) (by show @LT.lt Nat _ (k + 1) (k + 1 + 1); omega) (by decide) (by omega) (by decide) ?_; intro t8 k8 hk8
  refine retS hret F' ?_
  rw [eq0, eqq]
  apply Str.ext'
  apply Array.toList_inj.mp
  rw [map_eq z, hzc, hr1, scan_eq _ hz]

end Mine
namespace Mine
noncomputable def sen (c : Nat) : Str := if keepB c then b3Of c else Str.empty
noncomputable def senL (c : Nat) : List Nat := (sen c).cps.toList
def OkC (c : Nat) : Prop := c ≠ 0 ∧ 0 ∉ senL c ∧ (c ≠ 34 → 34 ∉ senL c) ∧ c < 1114112 ∧ ∀ d ∈ senL c, d < 1114112
def PairOk (x y : Str) : Prop := ∃ c, x = ⟨#[c]⟩ ∧ y = sen c ∧ OkC c
theorem pok_of {c : Nat} {x y : Str} {l : List Nat} (ex : x = ⟨#[c]⟩) (ey : y = ⟨⟨l⟩⟩) (hk : keepB c = true) (hb : b3Of c = ⟨⟨l⟩⟩) (hc : c ≠ 0) (h0 : 0 ∉ l) (hq : c ≠ 34 → 34 ∉ l) (hm : c < 1114112 := by decide) (hl : ∀ d ∈ l, d < 1114112 := by decide) : PairOk x y := by
  have e : sen c = ⟨⟨l⟩⟩ := by unfold sen; rw [if_pos hk, hb]
  refine ⟨c, ex, by rw [e]; exact ey, hc, ?_, ?_, hm, ?_⟩
  · unfold senL; rw [e]; exact h0
  · unfold senL; rw [e]; exact hq
  · unfold senL; rw [e]; exact hl
theorem pok_quote : PairOk (Str.ofString "\"") (Str.ofString "\"") := pok_of (l := [34]) (by decide +kernel) (by decide +kernel) (by decide +kernel) b3_quote (by decide) (by decide) (by decide)
theorem pok_hid {c : Nat} (h : b1L.contains (c : Int) = true) : PairOk ⟨#[c]⟩ (Str.ofString "") := by
  have hk : keepB c = false := by unfold keepB; rw [h]; rfl
  have e : sen c = Str.empty := by unfold sen; rw [if_neg (by rw [hk]; decide)]
  have hc : c ≠ 0 := fun e0 => by subst e0; exact absurd h (by decide +kernel)
  have hmx : ∀ k ∈ b1L, k < 1114112 := by decide +kernel
  have hmc := hmx _ (List.contains_iff_mem.mp h)
  refine ⟨c, rfl, by rw [e]; decide +kernel, hc, ?_, ?_, by omega, ?_⟩
  · unfold senL; rw [e]; simp [Str.empty]
  · intro _; unfold senL; rw [e]; simp [Str.empty]
  · unfold senL; rw [e]; simp [Str.empty]
theorem b3_low {c : Nat} (h : c ≤ 180) : b3Of c = Txt.lower ⟨#[c]⟩ := by unfold b3Of; rw [lookK_none kvs_big (by omega)]
theorem b3_none {c : Nat} (h : lookK (c : Int) kvs = none) : b3Of c = Txt.lower ⟨#[c]⟩ := by unfold b3Of; rw [h]
theorem b3_some {c : Nat} {v : Str} (h : lookK (c : Int) kvs = some v) : b3Of c = v := by unfold b3Of; rw [h]
theorem pok_s0 : PairOk (Str.ofString "ß") (Str.ofString "ss") := pok_of (c := 223) (l := [115, 115]) (by decide +kernel) (by decide +kernel) (by decide +kernel) (b3_some (by kernel_rfl)) (by decide) (by decide) (by decide)
theorem pok_s1 : PairOk (Str.ofString "ﬃ") (Str.ofString "ffi") := pok_of (c := 64259) (l := [102, 102, 105]) (by decide +kernel) (by decide +kernel) (by decide +kernel) (b3_some (by kernel_rfl)) (by decide) (by decide) (by decide)
theorem pok_s2 : PairOk (Str.ofString "㏇") (Str.ofString "co.") := pok_of (c := 13255) (l := [99, 111, 46]) (by decide +kernel) (by decide +kernel) (by decide +kernel) (b3_some (by kernel_rfl)) (by decide) (by decide) (by decide)
theorem pok_r {k : Nat} (hk : k < 6) : PairOk (Txt.item (Str.ofString "a7 '“＂") (k : Int)) (Txt.item (Str.ofString "a7 '“＂") (k : Int)) := by
  have : k = 0 ∨ k = 1 ∨ k = 2 ∨ k = 3 ∨ k = 4 ∨ k = 5 := by omega
  rcases this with rfl | rfl | rfl | rfl | rfl | rfl
  · exact pok_of (c := 97) (l := [97]) (by kernel_rfl) (by kernel_rfl) (by decide +kernel) ((b3_low (by decide)).trans (by kernel_rfl)) (by decide) (by decide) (by decide)
  · exact pok_of (c := 55) (l := [55]) (by kernel_rfl) (by kernel_rfl) (by decide +kernel) ((b3_low (by decide)).trans (by kernel_rfl)) (by decide) (by decide) (by decide)
  · exact pok_of (c := 32) (l := [32]) (by kernel_rfl) (by kernel_rfl) (by decide +kernel) ((b3_low (by decide)).trans (by kernel_rfl)) (by decide) (by decide) (by decide)
  · exact pok_of (c := 39) (l := [39]) (by kernel_rfl) (by kernel_rfl) (by decide +kernel) ((b3_low (by decide)).trans (by kernel_rfl)) (by decide) (by decide) (by decide)
  · exact pok_of (c := 8220) (l := [8220]) (by kernel_rfl) (by kernel_rfl) (by decide +kernel) ((b3_none (by kernel_rfl)).trans (by kernel_rfl)) (by decide) (by decide) (by decide)
  · exact pok_of (c := 65282) (l := [65282]) (by kernel_rfl) (by kernel_rfl) (by decide +kernel) ((b3_none (by kernel_rfl)).trans (by kernel_rfl)) (by decide) (by decide) (by decide)
theorem pok_rest {n : Int} : PairOk (Txt.item (Str.ofString "a7 '“＂") (Int.fmod n 6)) (Txt.item (Str.ofString "a7 '“＂") (Int.fmod n 6)) := by
  have h0 := Int.fmod_nonneg_of_pos n (show (0 : Int) < 6 by decide)
  have h1 := Int.fmod_lt_of_pos n (show (0 : Int) < 6 by decide)
  obtain ⟨k, hk⟩ : ∃ k : Nat, Int.fmod n 6 = k := ⟨(Int.fmod n 6).toNat, by omega⟩
  rw [hk]
  exact pok_r (by omega)
theorem code_max : allLF (fun l f => decide (codeN l f < 1114112)) = true := by kernel_rfl
theorem pok_ltr {x y : Str} {l f : Nat} (hl : l < 26) (hf : f < 12) (ex : x = ⟨#[codeN l f]⟩) (ey : y = ⟨#[97 + l]⟩) (hn : codeN l f ≠ 0) : PairOk x y :=
  pok_of (l := [97 + l]) ex ey (allLF_at code_keep hl hf) (code_b3 hl hf) hn (by simp; omega) (by intro _; simp; omega) (of_decide_eq_true (allLF_at code_max hl hf)) (by simp; omega)
theorem pok_cap {z : Int} : PairOk ⟨#[((65 : Int) + Int.fmod z 26).toNat]⟩ ⟨#[((97 : Int) + Int.fmod z 26).toNat]⟩ := by
  have h0 := Int.fmod_nonneg_of_pos z (show (0 : Int) < 26 by decide)
  have h1 := Int.fmod_lt_of_pos z (show (0 : Int) < 26 by decide)
  generalize Int.fmod z 26 = l at *
  refine pok_ltr (l := l.toNat) (f := 1) (by omega) (by decide) ?_ ?_ ?_
  · show (⟨#[_]⟩ : Str) = ⟨#[65 + l.toNat]⟩; exact congrArg (fun k : Nat => (⟨#[k]⟩ : Str)) (by omega)
  · exact congrArg (fun k : Nat => (⟨#[k]⟩ : Str)) (by omega)
  · show 65 + l.toNat ≠ 0; omega
theorem pok_alph {m z : Int} (h4 : ¬ m < 4) (h6 : m < 6) : PairOk ⟨#[((119600 : Int) + 52 * m + Int.fmod z 26).toNat]⟩ ⟨#[((97 : Int) + Int.fmod z 26).toNat]⟩ := by
  have h0 := Int.fmod_nonneg_of_pos z (show (0 : Int) < 26 by decide)
  have h1 := Int.fmod_lt_of_pos z (show (0 : Int) < 26 by decide)
  generalize Int.fmod z 26 = l at *
  have : m = 4 ∨ m = 5 := by omega
  rcases this with rfl | rfl
  · refine pok_ltr (l := l.toNat) (f := 2) (by omega) (by decide) ?_ ?_ ?_
    · show (⟨#[_]⟩ : Str) = ⟨#[119808 + l.toNat]⟩; exact congrArg (fun k : Nat => (⟨#[k]⟩ : Str)) (by omega)
    · exact congrArg (fun k : Nat => (⟨#[k]⟩ : Str)) (by omega)
    · show 119808 + l.toNat ≠ 0; omega
  · refine pok_ltr (l := l.toNat) (f := 3) (by omega) (by decide) ?_ ?_ ?_
    · show (⟨#[_]⟩ : Str) = ⟨#[119860 + l.toNat]⟩; exact congrArg (fun k : Nat => (⟨#[k]⟩ : Str)) (by omega)
    · exact congrArg (fun k : Nat => (⟨#[k]⟩ : Str)) (by omega)
    · show 119860 + l.toNat ≠ 0; omega
/-- refs to new lists of a sign and its sense -/
def PairsIn (h₀ h' : Heap) : List Value → List Nat → Prop
  | [], [] => True
  | v :: vs, c :: cs => (∃ a n t u, v = .ref a ∧ h₀.get? a = none ∧ h'.get? a = some (W.listOf #[.str ⟨#[c]⟩ t, .str (sen c) u] n) ∧ OkC c) ∧ PairsIn h₀ h' vs cs
  | _, _ => False
def RP : Heap → Value → Heap → Prop := fun h₀ v h' => ∃ D vl n cs, v = .ref D ∧ h₀.get? D = none ∧ h'.get? D = some (W.listOf (List.toArray vl) n) ∧ 1 ≤ cs.length ∧ cs.length ≤ 2 ∧ PairsIn h₀ h' vl cs
theorem RP1 {h₀ h' : Heap} {L D a : Addr} {news : List (Addr × Obj)} {x y : Str} {t u : Tok} {n n2 : Nat} (N : News h₀ L h' news) (m1 : (D, W.listOf #[.ref a] n) ∈ news) (m2 : (a, W.listOf #[.str x t, .str y u] n2) ∈ news) (p : PairOk x y) : RP h₀ (.ref D) h' := by
  obtain ⟨c, rfl, rfl, ok⟩ := p
  exact ⟨D, [.ref a], n, [c], rfl, (N _ m1).2.2, (N _ m1).1, Nat.le_refl _, Nat.le_succ _, ⟨a, n2, t, u, rfl, (N _ m2).2.2, (N _ m2).1, ok⟩, trivial⟩
theorem RP2 {h₀ h' : Heap} {L D a b : Addr} {news : List (Addr × Obj)} {x y x' y' : Str} {t u t' u' : Tok} {n n2 n3 : Nat} (N : News h₀ L h' news) (m1 : (D, W.listOf #[.ref a, .ref b] n) ∈ news) (m2 : (a, W.listOf #[.str x t, .str y u] n2) ∈ news) (m3 : (b, W.listOf #[.str x' t', .str y' u'] n3) ∈ news) (p : PairOk x y) (p' : PairOk x' y') : RP h₀ (.ref D) h' := by
  obtain ⟨c, rfl, rfl, ok⟩ := p
  obtain ⟨c', rfl, rfl, ok'⟩ := p'
  exact ⟨D, [.ref a, .ref b], n, [c, c'], rfl, (N _ m1).2.2, (N _ m1).1, Nat.le_succ _, Nat.le_refl _, ⟨a, n2, t, u, rfl, (N _ m2).2.2, (N _ m2).1, ok⟩, ⟨b, n3, t', u', rfl, (N _ m3).2.2, (N _ m3).1, ok'⟩, trivial⟩
local macro_rules | `(tactic| walk_at $s:str) => do `(tactic| k_extra $(Lean.Syntax.mkStrLit (s.getString ++ "!")))
theorem c_piece (w : World) (y : Int) (ty : Tok) (hy : 0 ≤ y ∧ y < 1000000) : SC 12 w 138 [.int y ty] noPre RP := by
  k_with_none
  (k_with "call ref!" => (k_here; (refine' SC.use (c_hidden _ _ _) ?F ?N ?X ?T ?S ?hp ?hh ?hd ?hu ?_); (case F => k_asm); (case N => k_asm); (case X => k_asm); (case T => k_asm); (case S => k_asm); (case hp => trivial); (case hh => k_dflt (first | assumption | exact rfl)); (case hd => k_dflt (first | ktr_room | (show _ < _; simp only [Around.deeper]; omega) | decide)); (case hu => k_dflt (first | ktr_units | (show _ < _; simp only [Around.deeper]; omega) | decide)); intro v9 h9 tk9 hR9 F9 N9 K9; (obtain ⟨c9, t9, e9, hb9⟩ := hR9); subst e9; (try dsimp only); (try k_fold)))
  refine SC.enter (by decide) (fun P => by with_unfolding_all rfl) (fun P => by with_unfolding_all rfl) (by rfl) (locs rfl) (by decide) rfl rfl rfl ?_
  w_top off
  k_fill
  intro mean mg mb A s Q E L h₁ tk₁ F N X T S hp hh hd1 hu hret
  k_steps
  all_goals (dsimp only; (rename News _ _ _ _ => lN); (rename Fr _ _ _ _ => lF); (first | refine hret _ _ _ (RP1 lN (by k_mem) (by k_mem) ?_) lF.keep | refine hret _ _ _ (RP2 lN (by k_mem) (by k_mem) (by k_mem) ?_ ?_) lF.keep))
  all_goals (first | exact pok_quote | exact pok_hid (by assumption) | exact pok_rest | exact pok_cap | exact pok_alph (by assumption) (by assumption) | exact pok_s0 | exact pok_s1 | exact pok_s2 | fail)

end Mine
namespace Mine
theorem c_parse2 (w : World) (x : Str) (tx : Tok) (hx : x.length < 1000) (h3 : (Txt.slice x none (some 3) != Str.ofString "257") = false) (h5 : (Txt.slice x (some 3) (some 5) != Str.ofString " \"") = true) : SC 8 w 46 [.str x tx] noPre (RS (Str.ofString "")) := by
  refine SC.enterT (by decide) (fun P => by with_unfolding_all rfl) (fun P => by with_unfolding_all rfl) (by rfl) (locs rfl) (by decide) rfl rfl rfl (Nat.lt_of_lt_of_eq Nat.zero_lt_one rfl) ?_
  w_top off
  k_fill
  intro mean mg mb A s Q E L h₁ tk₁ htk F N X T S hp hh hd1 hu hret
  k_steps
  all_goals (dsimp only; refine retS hret (by k_asm) ?_; rfl)
local macro_rules | `(tactic| walk_at $s:str) => do `(tactic| k_extra $(Lean.Syntax.mkStrLit (s.getString ++ "!")))
theorem c_told1 (w : World) (x : Str) (tx : Tok) (hx : x.length < 1000) (h5 : 5 ≤ x.length) (h3 : (Txt.slice x none (some 3) != Str.ofString "257") = false) (hq : (Txt.slice x (some 3) (some 5) != Str.ofString " \"") = false) : SC 12 w 152 [.str x tx] noPre (RS ⟨⟨scanL (x.cps.toList.drop 5)⟩⟩) := by
  k_with_none
  (k_with "PARSE1!" => ((refine' SC.use (c_parse _ _ _ ?a ?b ?c ?d) ?F ?N ?X ?T ?S ?hp ?hh ?hd ?hu ?_); (case a => assumption); (case b => assumption); (case c => assumption); (case d => assumption); (case F => k_asm); (case N => k_asm); (case hp => trivial); (case X => k_asm); (case T => k_asm); (case S => k_asm); (case hh => k_dflt (first | assumption | exact rfl)); (case hd => k_dflt (first | ktr_room | (show _ < _; simp only [Around.deeper]; omega) | decide)); (case hu => k_dflt (first | ktr_units | (show _ < _; simp only [Around.deeper]; omega) | decide)); intro v9 h9 tk9 hR9 F9 N9 K9; (obtain ⟨t9, e9⟩ := hR9); subst e9; (try dsimp only); (try k_fold)))
  (k_with "PARSE2!" => ((refine' SC.use (c_parse2 _ _ _ ?a ?b ?c) ?F ?N ?X ?T ?S ?hp ?hh ?hd ?hu ?_); (case a => assumption); (case b => assumption); (case c => assumption); (case F => k_asm); (case N => k_asm); (case hp => trivial); (case X => k_asm); (case T => k_asm); (case S => k_asm); (case hh => k_dflt (first | assumption | exact rfl)); (case hd => k_dflt (first | ktr_room | (show _ < _; simp only [Around.deeper]; omega) | decide)); (case hu => k_dflt (first | ktr_units | (show _ < _; simp only [Around.deeper]; omega) | decide)); intro v9 h9 tk9 hR9 F9 N9 K9; (obtain ⟨t9, e9⟩ := hR9); subst e9; (try dsimp only); (try k_fold)))
  refine SC.enterT (by decide) (fun P => by with_unfolding_all rfl) (fun P => by with_unfolding_all rfl) (by rfl) (locs rfl) (by decide) rfl rfl rfl (Nat.lt_of_lt_of_eq Nat.zero_lt_one rfl) ?_
  w_top off
  k_fill
  intro mean mg mb A s Q E L h₁ tk₁ htk F N X T S hp hh hd1 hu hret
  (k_with "call ref" => (walk_at "PARSE1"))
  k_steps
  all_goals (try dsimp only)
  all_goals (refine retS hret (by k_asm) ?_; rfl)
theorem c_told2 (w : World) (x : Str) (tx : Tok) (hx : x.length < 1000) (h3 : (Txt.slice x none (some 3) != Str.ofString "257") = false) (h5 : (Txt.slice x (some 3) (some 5) != Str.ofString " \"") = true) : SC 12 w 152 [.str x tx] noPre (RS (Str.ofString "")) := by
  k_with_none
  (k_with "PARSE1!" => ((refine' SC.use (c_parse _ _ _ ?a ?b ?c ?d) ?F ?N ?X ?T ?S ?hp ?hh ?hd ?hu ?_); (case a => assumption); (case b => assumption); (case c => assumption); (case d => assumption); (case F => k_asm); (case N => k_asm); (case hp => trivial); (case X => k_asm); (case T => k_asm); (case S => k_asm); (case hh => k_dflt (first | assumption | exact rfl)); (case hd => k_dflt (first | ktr_room | (show _ < _; simp only [Around.deeper]; omega) | decide)); (case hu => k_dflt (first | ktr_units | (show _ < _; simp only [Around.deeper]; omega) | decide)); intro v9 h9 tk9 hR9 F9 N9 K9; (obtain ⟨t9, e9⟩ := hR9); subst e9; (try dsimp only); (try k_fold)))
  (k_with "PARSE2!" => ((refine' SC.use (c_parse2 _ _ _ ?a ?b ?c) ?F ?N ?X ?T ?S ?hp ?hh ?hd ?hu ?_); (case a => assumption); (case b => assumption); (case c => assumption); (case F => k_asm); (case N => k_asm); (case hp => trivial); (case X => k_asm); (case T => k_asm); (case S => k_asm); (case hh => k_dflt (first | assumption | exact rfl)); (case hd => k_dflt (first | ktr_room | (show _ < _; simp only [Around.deeper]; omega) | decide)); (case hu => k_dflt (first | ktr_units | (show _ < _; simp only [Around.deeper]; omega) | decide)); intro v9 h9 tk9 hR9 F9 N9 K9; (obtain ⟨t9, e9⟩ := hR9); subst e9; (try dsimp only); (try k_fold)))
  refine SC.enterT (by decide) (fun P => by with_unfolding_all rfl) (fun P => by with_unfolding_all rfl) (by rfl) (locs rfl) (by decide) rfl rfl rfl (Nat.lt_of_lt_of_eq Nat.zero_lt_one rfl) ?_
  w_top off
  k_fill
  intro mean mg mb A s Q E L h₁ tk₁ htk F N X T S hp hh hd1 hu hret
  (k_with "call ref" => (walk_at "PARSE2"))
  k_steps
  all_goals (try dsimp only)
  all_goals (refine retS hret (by k_asm) ?_; rfl)

end Mine
namespace Mine
open PyProof.Rows.LCg in
section
variable {prog : Program} {w : World} {A : Around} {E : Value → Shared → Prop} {s : Shared}
theorem compTurn_dict1 (k v target iter : PySem.Expr) (scope : Scope) (pos : Pos) (it : Value) (d : Addr) (env : Env) :
    compTurn (.DictComp k v [⟨target, iter, [], 0⟩] scope pos) 0 it (.ref d) env = (standAt iter.pos >>= fun _ => pyNext it >>= fun r => match r with
      | none => pure (.done .next)
      | some x => letOwnedTupleGo target it x >>= fun _ => assign target env x >>= fun _ =>
        (eval k env >>= fun kv => holding [kv] (eval v env) >>= fun vv => standAt { k.pos with endLine := v.pos.endLine, endCol := v.pos.endCol } >>= fun _ => holding [kv, vv] (dictSet d kv vv)) >>= fun _ =>
          again (.compLoop (.DictComp k v [⟨target, iter, [], 0⟩] scope pos) 0 it (.ref d) env)) := by rfl
theorem kdc_loop {k v target iter : PySem.Expr} {scope : Scope} {pos : Pos} {it : Value} {d : Addr} {env : Env} {R : Result → Shared → Prop} (I : Nat → Shared → Prop)
    (turn : ∀ n s, I n s → wpAny (model prog w) A (pyNext it) (fun r s₁ => match r with
      | none => R (.ok .next) s₁
      | some x => wpAny (model prog w) A (letOwnedTupleGo target it x) (fun _ s₀ => wpAny (model prog w) A (assign target env x) (fun _ s₂ =>
          wpAny (model prog w) A (eval k env) (fun kv s₃ => wpAny (model prog w) A (eval v env) (fun vv s₄ =>
            wpAny (model prog w) A (dictSet d kv vv) (fun _ s₅ => ∃ m, m < n ∧ I m s₅) (notedBy (model prog w) A env fun e s' => R (.error e) s') s₄) (notedBy (model prog w) A env fun e s' => R (.error e) s') s₃) (notedBy (model prog w) A env fun e s' => R (.error e) s') s₂)
          (notedBy (model prog w) A env fun e s' => R (.error e) s') s₀) (notedBy (model prog w) A env fun e s' => R (.error e) s') s₁) (notedBy (model prog w) A env fun e s' => R (.error e) s') s)
    (n : Nat) (h : I n s) : codeAny (model prog w) A (.compLoop (.DictComp k v [⟨target, iter, [], 0⟩] scope pos) 0 it (.ref d) env) R s := by
  refine codeAny_loop rfl I (fun n s hI => ?_) n h
  show wpAny _ A ((compTurn (.DictComp k v [⟨target, iter, [], 0⟩] scope pos) 0 it (.ref d) env).onRaise (fun x => do noteFrame x env; theTreesLotGoes x)) _ _ s
  refine wpAny_noted ?_
  rw [compTurn_dict1]
  refine wpAny_bind (wpAny_standAt (wpAny_bind (wpAny_mono (turn n s hI) (fun r s₁ h₁ => ?_) fun _ _ h' => h')))
  cases r with
  | none => exact wpAny_pure h₁
  | some x =>
    refine wpAny_bind (wpAny_mono h₁ (fun _ s₀ h₀' => ?_) fun _ _ h' => h')
    refine wpAny_bind (wpAny_mono h₀' (fun _ s₂ h₂ => ?_) fun _ _ h' => h')
    refine wpAny_bind (wpAny_bind (wpAny_mono h₂ (fun kv s₃ h₃ => ?_) fun _ _ h' => h'))
    refine wpAny_bind (wpAny_holding (wpAny_mono h₃ (fun vv s₄ h₄ => ?_) fun _ _ h' => h'))
    refine wpAny_bind (wpAny_standAt (wpAny_holding (wpAny_mono h₄ (fun _ s₅ h₅ => wpAny_pure ⟨rfl, h₅⟩) fun _ _ h' => h')))
theorem codeAny_compStart_dict {R : Result → Shared → Prop} {k v target iter : PySem.Expr} {ifs : List PySem.Expr} {rest : List Comprehension} {scope : Scope} {pos : Pos} {it acc : Value} {env : Env}
    (h0 : codeAny (model prog w) A (.compLoop (.DictComp k v (⟨target, iter, ifs, 0⟩ :: rest) scope pos) 0 it acc env) R s)
    (h : wpAny (model prog w) A (pyIter it) (fun it' s' => codeAny (model prog w) A (.compLoop (.DictComp k v (⟨target, iter, ifs, 0⟩ :: rest) scope pos) 0 it' acc env) R s')
      (notedBy (model prog w) A env fun x s' => R (.error x) s') s) :
    codeAny (model prog w) A (.compStart (.DictComp k v (⟨target, iter, ifs, 0⟩ :: rest) scope pos) 0 it acc env) R s := by
  refine codeAny_of_tree ?_
  show wpAny _ _ ((compStart (.DictComp k v (⟨target, iter, ifs, 0⟩ :: rest) scope pos) 0 it acc env).onRaise (fun x => do noteFrame x env; standAt theWindowsPlace)) _ _ s
  refine wpAny_notedAt ?_
  unfold compStart
  show wpAny _ _ (ask >>= _) _ _ s
  refine wpAny_bind (wpAny_askSetting (wpAny_ite ?_))
  split
  · first
      | exact wpAny_bind (wpAny_pure (wpAny_pure (And.intro rfl h0)))
      | exact wpAny_pure (And.intro rfl h0)
  · first
      | exact wpAny_bind (wpAny_rule (wpAny_bind (wpAny_standAt (wpAny_bind (wpAny_mono h (fun it' s' h' => wpAny_pure (And.intro rfl h')) fun _ _ x => x)))))
      | (refine wpAny_bind (wpAny_rule ?_); show wpAny _ _ (standAt iter.pos >>= _) _ _ s; exact wpAny_bind (wpAny_standAt (wpAny_bind (wpAny_mono h (fun it' s' h' => wpAny_pure (And.intro rfl h')) fun _ _ x => x))))
/-- a target of two names takes a list of two -/
theorem asg2 {env : Env} {a b : Str} {pa pb tp : Pos} {kk : Nat} {T : Addr} {x y : Value} {m : Str → Option Value} {Q : Unit → Shared → Prop} (hh : A.handled = none) (ht : s.heap.IsList T #[x, y])
    (ha : env.kindOf a = some .local) (hb : env.kindOf b = some .local) (hp : (env.scope.kind == .class || (env.scope.kind == .module && env.locals != env.globals)) = false) (hn : s.heap.Ns env.locals m)
    (h : ∀ (h' : Heap) (tk : Nat), h'.Ns env.locals (fun z => if z = b then some y else if z = a then some x else m z) → (∀ c o, c ≠ env.locals → s.heap.get? c = some o → h'.get? c = some o) → Q () { s with heap := h', toks := tk }) :
    wpAny (model prog w) A (assign (.Tuple [.Name a pa, .Name b pb] kk tp) env (.ref T)) Q E s := by
  rw [assign_Tuple]
  refine wpAny_bind (wpAny_standAt ?_)
  unfold unpack
  show wpAny _ _ (holding [Value.ref T] (unpackItems (.ref T) (#[x, y] : Array Value).size none) >>= _) _ _ _
  refine wpAny_bind (wpAny_holding (kun_itemsOf hh ht fun h₁ he₁ => ?_))
  have hL : env.locals ≠ s.heap.objs.size := Nat.ne_of_lt hn.lt
  have hn₁ : h₁.Ns env.locals m := hn.at' fun o e => he₁ _ o hL e
  have up₁ : ∀ c o, s.heap.get? c = some o → h₁.get? c = some o := fun c o e => he₁ c o (Nat.ne_of_lt (Heap.lt_size e)) e
  show wpAny _ _ (assignInOrder [assign (.Name a pa) env, assign (.Name b pb) env] [x, y]) _ _ _
  refine assignInOrder_cons ?_
  refine wpAny_assign_Name (wpAny_storeName_local ha hn₁ (fun h₂ hn₂ hs₂ => ?_) hp)
  refine assignInOrder_cons ?_
  refine wpAny_assign_Name (wpAny_storeName_local hb hn₂ (fun h₃ hn₃ hs₃ => ?_) hp)
  refine assignInOrder_nil ?_
  exact h h₃ _ hn₃ fun c o hc e => hs₃.extBut c o hc (hs₂.extBut c o hc (up₁ c o e))
end

end Mine
namespace Mine
open PyProof.Rows.LCg in
section
variable {prog : Program} {w : World} {A : Around} {E : Value → Shared → Prop} {s : Shared} {h₀ : Heap} {L : Addr} {m : Str → Option Value} {env : Env}
def PairsAt (news : List (Addr × Obj)) : List Value → List Nat → Prop
  | [], [] => True
  | v :: vs, c :: cs => (∃ a n t u, v = .ref a ∧ (a, W.listOf #[.str ⟨#[c]⟩ t, .str (sen c) u] n) ∈ news ∧ OkC c) ∧ PairsAt news vs cs
  | _, _ => False
theorem PairsAt.len {news : List (Addr × Obj)} : ∀ {vl : List Value} {cs : List Nat}, PairsAt news vl cs → vl.length = cs.length
  | [], [], _ => rfl
  | _ :: _, _ :: _, h => congrArg (· + 1) (PairsAt.len h.2)
  | [], _ :: _, h => h.elim
  | _ :: _, [], h => h.elim
theorem PairsAt.get {news : List (Addr × Obj)} : ∀ {vl : List Value} {cs : List Nat} {i : Nat} {v : Value}, PairsAt news vl cs → vl[i]? = some v → ∃ c a n t u, cs[i]? = some c ∧ v = .ref a ∧ (a, W.listOf #[.str ⟨#[c]⟩ t, .str (sen c) u] n) ∈ news ∧ OkC c
  | [], [], i, v, _, e => by simp at e
  | w :: vs, c :: cs, 0, v, h, e => by
    obtain ⟨a, n, t, u, ew, hm, ok⟩ := h.1
    have : w = v := by simpa using e
    subst this
    exact ⟨c, a, n, t, u, rfl, ew, hm, ok⟩
  | _ :: vs, _ :: cs, i + 1, v, h, e => by
    obtain ⟨c, a, n, t, u, e1, e2, hm, ok⟩ := PairsAt.get (i := i) h.2 (by simpa using e)
    exact ⟨c, a, n, t, u, by simpa using e1, e2, hm, ok⟩
  | [], _ :: _, _, _, h, _ => h.elim
  | _ :: _, [], _, _, h, _ => h.elim
theorem PairsAt.ok {news : List (Addr × Obj)} : ∀ {vl : List Value} {cs : List Nat}, PairsAt news vl cs → ∀ c ∈ cs, OkC c
  | [], [], _, c, hc => nomatch hc
  | _ :: _, _ :: _, h, c, hc => by
    obtain ⟨a, n, t, u, ew, hm, ok⟩ := h.1
    rcases List.mem_cons.mp hc with rfl | hc
    · exact ok
    · exact PairsAt.ok h.2 c hc
  | [], _ :: _, h, _, _ => h.elim
  | _ :: _, [], h, _, _ => h.elim
theorem PairsAt.mono {a b : List (Addr × Obj)} (hs : ∀ p ∈ a, p ∈ b) : ∀ {vl : List Value} {cs : List Nat}, PairsAt a vl cs → PairsAt b vl cs
  | [], [], _ => trivial
  | _ :: _, _ :: _, h => by
    obtain ⟨x, n, t, u, ew, hm, ok⟩ := h.1
    exact ⟨⟨x, n, t, u, ew, hs _ hm, ok⟩, PairsAt.mono hs h.2⟩
  | [], _ :: _, h => h.elim
  | _ :: _, [], h => h.elim
theorem PairsAt.append {news : List (Addr × Obj)} : ∀ {vl vl' : List Value} {cs cs' : List Nat}, PairsAt news vl cs → PairsAt news vl' cs' → PairsAt news (vl ++ vl') (cs ++ cs')
  | [], _, [], _, _, h' => h'
  | _ :: _, _, _ :: _, _, h, h' => ⟨h.1, PairsAt.append h.2 h'⟩
  | [], _, _ :: _, _, h, _ => h.elim
  | _ :: _, _, [], _, h, _ => h.elim
theorem ldz {env : Env} {z : Str} {pz : Pos} {v : Value} {m₂ : Str → Option Value} {Q : Value → Shared → Prop} (hk : env.scope.kind = .function) (hl : env.kindOf z = some .local) (hn : s.heap.Ns env.locals m₂) (hv : m₂ z = some v) (hd : (z == ("__debug__" : Str)) = false) (h : Q v s) :
    wpAny (model prog w) A (eval (.Name z pz) env) Q E s := wpAny_Name (wpAny_loadName_local hk hl hn hv h) hd
theorem pl_block {iter : PySem.Expr} {a b z : Str} {pa pb tp pz : Pos} {kk : Nat} {scope : Scope} {cl : List (Str × Addr)} {pos : Pos} {s₂ : Shared} {I S : Addr} {vl : List Value} {cs : List Nat} {n : Nat} {news : List (Addr × Obj)} {g : Nat → Str}
    {RR : Value → Addr → Result → Shared → Prop}
    (hh : A.handled = none) (hne : S ≠ I) (hsz : vl.length ≤ sizeLine) (hS : (S, W.listOf vl.toArray n) ∈ news) (hP : PairsAt news vl cs) (hit : s₂.heap.IsListIter I S 0)
    (hcell : ∀ y ∈ scope.names, y.2 ≠ .cell) (hkind : scope.kind = .function) (hxa : scope.names.lookup a = some .local) (hxb : scope.names.lookup b = some .local) (hxz : scope.names.lookup z = some .local) (hd : (z == ("__debug__" : Str)) = false)
    (hz : (z = b ∧ g = sen) ∨ (z ≠ b ∧ z = a ∧ g = fun c => ⟨#[c]⟩))
    (F : Fr h₀ L s₂.heap m) (N : News h₀ L s₂.heap news) (hIL : L ≠ I) (hI₀ : h₀.get? I = none) (off : ∀ p ∈ news, p.1 ≠ I)
    (hRR : ∀ D C h tk m' ys, Fr h₀ L h m → News h₀ L h ((D, lst ys) :: news) → Off1 D news → h.Ns C m' → h₀.get? C = none → h₀.get? D = none → C ≠ L → D ≠ L → C ≠ D → (∀ p ∈ news, p.1 ≠ C) → StrsAre ys (cs.map g) → RR (.ref D) C (.ok .next) { s₂ with heap := h, toks := tk }) :
    wpAny (model prog w) A (newList []) (fun acc s₃ => wpAny (model prog w) A (newFunctionEnv scope env.globals cl [] env.qual none .none (some env)) (fun cenv s₄ =>
      codeAny (model prog w) A (.compStart (.ListComp (.Name z pz) [⟨.Tuple [.Name a pa, .Name b pb] kk tp, iter, [], 0⟩] scope pos) 0 (.ref I) acc { cenv with scope := relabel scope env }) (RR acc cenv.locals) s₄) E s₃) E s₂ := by
  refine wpAny_newObj_type (wpAny_newFunctionEnv hcell (by intro y hy; simp at hy) (fun h₁ hns₁ hsb₁ => ?_) hkind)
  dsimp only at hns₁ hsb₁ ⊢
  generalize hH2 : s₂.heap.push { cls := .type "list", dict := none, data := .seq ([] : List Value).toArray } = H2 at hns₁ hsb₁ ⊢
  have hC : H2.objs.size = s₂.heap.objs.size + 1 := by rw [← hH2, Heap.size_push]
  have hDC : s₂.heap.objs.size ≠ H2.objs.size := by rw [hC]; exact Nat.ne_of_lt (Nat.lt_succ_self _)
  have below : ∀ b, b < s₂.heap.objs.size → b ≠ H2.objs.size ∧ b ≠ s₂.heap.objs.size := fun b hb => ⟨by rw [hC]; exact Nat.ne_of_lt (Nat.lt_succ_of_lt hb), Nat.ne_of_lt hb⟩
  have hIlt : I < s₂.heap.objs.size := by obtain ⟨o, ho, _⟩ := hit; exact Heap.lt_size ho
  have old : ∀ b o, s₂.heap.get? b = some o → h₁.get? b = some o := fun b o e => hsb₁.extBut b o (below b (Heap.lt_size e)).1 (Heap.get?_push_of_some _ (hH2 ▸ Heap.get?_push_of_some _ e))
  have hacc : h₁.get? s₂.heap.objs.size = some (lst []) := hsb₁.extBut _ _ hDC (Heap.get?_push_of_some _ (hH2 ▸ Heap.get?_push_size _ rfl))
  have hit₁ : h₁.IsListIter I S 0 := hit.at fun o e => old _ _ e
  have fresh : ∀ a, s₂.heap.objs.size ≤ a → s₂.heap.get? a = none := fun a ha => by
    cases e : s₂.heap.get? a with
    | none => rfl
    | some o' => exact absurd (Heap.lt_size e) (Nat.not_lt.mpr ha)
  have fresh₀ : ∀ a, s₂.heap.objs.size ≤ a → h₀.get? a = none := fun a ha => by
    cases e : h₀.get? a with
    | none => rfl
    | some o' => have := F.keep a o' e; rw [fresh a ha] at this; cases this
  have hD₀ : h₀.get? s₂.heap.objs.size = none := fresh₀ _ (Nat.le_refl _)
  have hC₀ : h₀.get? H2.objs.size = none := fresh₀ _ (by rw [hC]; exact Nat.le_succ _)
  have hLlt : L < s₂.heap.objs.size := F.ns.lt
  have hDL : s₂.heap.objs.size ≠ L := Ne.symm (below L hLlt).2
  have hCL : H2.objs.size ≠ L := Ne.symm (below L hLlt).1
  have hCI : I ≠ H2.objs.size := (below I hIlt).1
  have hDI : I ≠ s₂.heap.objs.size := (below I hIlt).2
  have off3 : ∀ p ∈ news, p.1 ≠ I ∧ p.1 ≠ H2.objs.size ∧ p.1 ≠ s₂.heap.objs.size := fun p hp => ⟨off p hp, (below _ (Heap.lt_size (N p hp).1)).1, (below _ (Heap.lt_size (N p hp).1)).2⟩
  have W := Walks.list (prog := prog) (w := w) hh I S hne vl.toArray
  have vsz : vl.toArray.size = vl.length := List.size_toArray
  have loop : ∀ s₃ : Shared, s₃ = { s₂ with heap := h₁, toks := s₂.toks + ([] : List (Str × Value)).length } →
      codeAny (model prog w) A (.compLoop (.ListComp (.Name z pz) [⟨.Tuple [.Name a pa, .Name b pb] kk tp, iter, [], 0⟩] scope pos) 0 (.ref I) (.ref s₂.heap.objs.size) (compEnvC scope cl H2.objs.size env))
        (RR (.ref s₂.heap.objs.size) H2.objs.size) s₃ := by
    rintro s₃ rfl
    refine kcp_loop
      (fun k s' => ∃ h' tk i ys m', s' = { s₂ with heap := h', toks := tk } ∧ i ≤ vl.length ∧ k = vl.length + 1 - i ∧ ys.length = i ∧ h'.IsListIter I S i ∧ Fr h₀ L h' m ∧ h'.Ns H2.objs.size m' ∧
        News h₀ L h' ((s₂.heap.objs.size, lst ys) :: news) ∧ StrsAre ys ((cs.take i).map g)) ?_ (vl.length + 1)
      ⟨h₁, _, 0, [], _, rfl, Nat.zero_le _, rfl, rfl, hit₁, F.keeps old, hns₁, fun p hp => ?_, .nil⟩
    · rintro k s' ⟨h', tk, i, ys, m', rfl, hi, rfl, hyl, hit', F', hn', N', hys⟩
      have hSl : h'.IsList S vl.toArray := News.isList N' (List.mem_cons_of_mem _ hS)
      by_cases hlt : i < vl.length
      · refine W.item i _ _ _ (by rw [vsz]; exact hlt) ⟨hit', hSl⟩ fun v h₃ tk₃ hPi hst₃ hk₃ => ?_
        have hv : vl[i]? = some v := by simpa using hPi
        obtain ⟨c, T, n2, t, u, hc, rfl, hTm, ok⟩ := hP.get hv
        have up₃ : ∀ c o, c ≠ I → h'.get? c = some o → h₃.get? c = some o := fun c o hc e => hk₃ c o (by simpa using hc) e
        refine letGo_listiter hst₃.1 ?_
        have hT : h₃.IsList T #[.str ⟨#[c]⟩ t, .str (sen c) u] := by
          have := News.isList N' (List.mem_cons_of_mem _ hTm)
          exact this.at fun o e => up₃ _ o (off _ hTm) e
        refine asg2 (env := compEnvC scope cl H2.objs.size env) hh hT (lookup_relabel_local hxa) (lookup_relabel_local hxb) (by simp [compEnvC, relabel, hkind]) (hn'.at' fun o e => up₃ _ o (Ne.symm hCI) e) fun h₄ tk₄ hn₄ hs₄ => ?_
        have up : ∀ c o, c ≠ I → c ≠ H2.objs.size → h'.get? c = some o → h₄.get? c = some o := fun c o h1 h2 e => hs₄ c o h2 (up₃ c o h1 e)
        have hI₄ : h₄.IsListIter I S (i + 1) := hst₃.1.at fun o e => hs₄ _ o hCI e
        have F₄ : Fr h₀ L h₄ m := ⟨F'.ns.at' fun o e => up _ o hIL (Ne.symm hCL) e, fun c o e => up c o (fun q => by rw [q, hI₀] at e; cases e) (fun q => by rw [q, hC₀] at e; cases e) (F'.keep c o e), F'.above⟩
        have N₄ : News h₀ L h₄ ((s₂.heap.objs.size, lst ys) :: news) := fun q hq => by
          have z := N' q hq
          refine ⟨up _ _ ?_ ?_ z.1, z.2⟩
          · rcases List.mem_cons.mp hq with rfl | hq
            · exact Ne.symm hDI
            · exact (off3 q hq).1
          · rcases List.mem_cons.mp hq with rfl | hq
            · exact hDC
            · exact (off3 q hq).2.1
        have hval : ∃ t', (fun z' => if z' = b then some (Value.str (sen c) u) else if z' = a then some (Value.str ⟨#[c]⟩ t) else m' z') z = some (.str (g c) t') := by
          rcases hz with ⟨e1, e2⟩ | ⟨e0, e1, e2⟩
          · exact ⟨u, by rw [e2]; simp [e1]⟩
          · exact ⟨t, by rw [e2]; simp [e1, show ¬ a = b from fun e => e0 (e1.trans e)]⟩
        obtain ⟨t', hval⟩ := hval
        refine ldz (by simp [compEnvC, relabel, hkind]) (lookup_relabel_local hxz) hn₄ hval hd ?_
        have zD := (N₄ (s₂.heap.objs.size, lst ys) List.mem_cons_self).1
        refine append_at (hsz := by show ys.toArray.size ≤ sizeLine; rw [List.size_toArray, hyl]; exact Nat.le_trans hi hsz) zD fun h₆ hs₆ hD₆ => ?_
        refine ⟨vl.length + 1 - (i + 1), by omega, h₆, tk₄, i + 1, ys ++ [.str (g c) t'], _, rfl, hlt, rfl, by rw [List.length_append, List.length_singleton, hyl], hI₄.at fun o e => hs₆.extBut _ o hDI e, F₄.change hs₆ hDL hD₀,
          hn₄.sameBut hs₆ (Ne.symm hDC), fun q hq => ?_, ?_⟩
        · rcases List.mem_cons.mp hq with rfl | hq
          · exact ⟨hD₆.trans (congrArg some (lst_snoc ys _)), hDL, hD₀⟩
          · exact ⟨hs₆.extBut _ _ (off3 q hq).2.2 (N₄ q (List.mem_cons_of_mem _ hq)).1, (N₄ q (List.mem_cons_of_mem _ hq)).2⟩
        · rw [List.take_add_one, hc, List.map_append]
          exact kct_snoc hys
      · have hin : i = vl.length := Nat.le_antisymm hi (Nat.not_lt.mp hlt)
        subst hin
        rw [hP.len, List.take_length] at hys
        refine W.done _ _ _ (by rw [vsz]; exact ⟨hit', hSl⟩) fun h₂ tk₂ hk₂ => ?_
        exact hRR _ _ h₂ tk₂ _ ys (fr_but F' hk₂ hIL hI₀) (news_but N' hk₂ fun p hp => by
          rcases List.mem_cons.mp hp with rfl | hp
          · exact Ne.symm hDI
          · exact (off3 p hp).1) (Off3.one (Off3.of off3)) (hn'.at' fun o e => hk₂ _ o (by simpa using Ne.symm hCI) e) hC₀ hD₀ hCL hDL (Ne.symm hDC) (fun p hp => (off3 p hp).2.1) hys
    · rcases List.mem_cons.mp hp with rfl | hp
      · exact ⟨hacc, hDL, hD₀⟩
      · exact ⟨old _ _ (N p hp).1, (N p hp).2⟩
  exact codeAny_compStart_list (loop _ rfl) (wpAny_pyIter_listiter hit₁ (loop _ rfl))
theorem pl_ListComp {iter : PySem.Expr} {a b z : Str} {pa pb tp pz : Pos} {kk : Nat} {scope : Scope} {cl : List (Str × Addr)} {pos : Pos} {Q : Value → Shared → Prop} {g : Nat → Str} (_F₀ : Fr h₀ L s.heap m)
    (hclos : closureFor scope env = pure cl) (hcell : ∀ y ∈ scope.names, y.2 ≠ .cell) (hkind : scope.kind = .function)
    (hnames : ∀ y ∈ scope.names, y.2 = .local → scope.names.lookup y.1 = some .local) (hxa : scope.names.lookup a = some .local) (hxb : scope.names.lookup b = some .local) (hxz : scope.names.lookup z = some .local) (hd : (z == ("__debug__" : Str)) = false)
    (hz : (z = b ∧ g = sen) ∨ (z ≠ b ∧ z = a ∧ g = fun c => ⟨#[c]⟩))
    (h : wpAny (model prog w) A (eval iter env) (fun xv s₁ => ∃ S n vl cs news, xv = .ref S ∧ A.handled = none ∧ Fr h₀ L s₁.heap m ∧ News h₀ L s₁.heap news ∧ (S, W.listOf (List.toArray vl) n) ∈ news ∧ PairsAt news vl cs ∧ vl.length ≤ sizeLine ∧
      (∀ D h' tk' ys, Fr h₀ L h' m → News h₀ L h' ((D, lst ys) :: news) → Off1 D news → StrsAre ys (cs.map g) → Q (.ref D) { s₁ with heap := h', toks := tk' })) E s)
    (hs : ∀ x, foldedSetIterable iter env x = pure x := by intro _; rfl) :
    wpAny (model prog w) A (eval (.ListComp (.Name z pz) [⟨.Tuple [.Name a pa, .Name b pb] kk tp, iter, [], 0⟩] scope pos) env) Q E s := by
  rw [eval_ListComp]
  refine wpAny_comprehension_free (use := none) rfl hs hclos hkind hnames (wpAny_mono h (fun xv s₁ h₁ => ?_) fun _ _ e => e)
  obtain ⟨S, n, vl, cs, news, rfl, hh, F, N, hS, hP, hsz, R⟩ := h₁
  have hl : s₁.heap.IsList S vl.toArray := News.isList N hS
  have hlt : ∀ p ∈ news, p.1 ≠ s₁.heap.objs.size := fun p hp => Nat.ne_of_lt (Heap.lt_size (N p hp).1)
  refine wpAny_pyIter_list hl ?_
  refine pl_block (s₂ := { s₁ with heap := s₁.heap.push _ }) hh (hlt _ hS) hsz hS hP ⟨_, Heap.get?_push_size _ rfl, rfl, rfl⟩ hcell hkind hxa hxb hxz hd hz (F.push _)
    (fun p hp => ⟨Heap.get?_push_of_some _ (N p hp).1, (N p hp).2⟩) (Nat.ne_of_lt F.ns.lt) (next_is_new F) hlt ?_
  intro D C h tk m' ys F' N' o1 hn hC₀ hD₀ hCL hDL hCD offC hys
  refine ⟨m', hn, fun h'' hs'' => R D h'' tk ys (F'.change hs'' hCL hC₀) (fun p hp => ?_) o1 hys⟩
  refine ⟨hs''.extBut _ _ ?_ (N' p hp).1, (N' p hp).2⟩
  rcases List.mem_cons.mp hp with rfl | hp
  · exact Ne.symm hCD
  · exact offC p hp
end

end Mine
namespace Mine
open PyProof.Rows.LCg in
section
variable {prog : Program} {w : World} {A : Around} {E : Value → Shared → Prop} {s : Shared} {h₀ : Heap} {L : Addr} {m : Str → Option Value} {env : Env}
/-- what the dict of senses tells -/
def MeanS (kvs : List (Str × Value)) (cs : List Nat) : Prop := ∀ c ∈ cs, ∃ u, valueAt kvs ⟨#[c]⟩ = some (.str (sen c) u)
theorem valueAt_stored {K : Type} [DecidableEq K] : ∀ (kvs : List (K × Value)) (k x : K) (v : Value), valueAt (stored kvs k v) x = if x = k then some v else valueAt kvs x := by
  intro kvs k x v
  unfold stored
  split
  · rename_i h
    induction kvs with
    | nil => simp at h
    | cons p r ih =>
      unfold valueAt at *
      rw [List.map_cons]
      by_cases hp : p.1 = k
      · rw [if_pos hp]
        by_cases hx : x = k
        · subst hx; simp [hp]
        · rw [if_neg hx]
          have h1 : ¬ p.1 = x := fun e => hx (e.symm.trans hp)
          rw [List.find?_cons_of_neg (by simpa using h1), List.find?_cons_of_neg (by simpa using h1)]
          by_cases hr : r.any (fun kv => kv.1 = k) = true
          · rw [ih hr, if_neg hx]
          · have : r.map (fun kv => if kv.1 = k then (kv.1, v) else kv) = r := by
              conv => rhs; rw [← List.map_id r]
              exact List.map_congr_left fun q hq => if_neg fun e => hr (List.any_eq_true.mpr ⟨q, hq, by simpa using e⟩)
            rw [this]
      · rw [if_neg hp]
        have hr : r.any (fun kv => kv.1 = k) = true := by
          rw [List.any_cons] at h
          simpa [hp] using h
        by_cases hx : p.1 = x
        · have hxk : ¬ x = k := fun e => hp (hx.trans e)
          rw [if_neg hxk, List.find?_cons_of_pos (by simpa using hx), List.find?_cons_of_pos (by simpa using hx)]
        · rw [List.find?_cons_of_neg (by simpa using hx), List.find?_cons_of_neg (by simpa using hx)]
          exact ih hr
  · rename_i h
    unfold valueAt
    rw [List.find?_append]
    by_cases hx : x = k
    · subst hx
      have : kvs.find? (fun kv => kv.1 = x) = none := List.find?_eq_none.mpr fun q hq e => h (List.any_eq_true.mpr ⟨q, hq, e⟩)
      rw [this]; simp
    · rw [if_neg hx]
      have : ([(k, v)] : List (K × Value)).find? (fun kv => kv.1 = x) = none := by simp; exact fun e => hx e.symm
      rw [this]; simp
theorem mk1_eq {a b : Nat} (h : (⟨#[a]⟩ : Str) = ⟨#[b]⟩) : a = b := by
  have := congrArg (fun z : Str => z.cps[0]?) h
  simpa using this
theorem MeanS.snoc {kvs : List (Str × Value)} {cs : List Nat} {c : Nat} {u : Tok} (h : MeanS kvs cs) : MeanS (stored kvs ⟨#[c]⟩ (.str (sen c) u)) (cs ++ (some c).toList) := by
  intro d hd
  rw [valueAt_stored]
  by_cases e : d = c
  · subst e; exact ⟨u, if_pos rfl⟩
  · rw [if_neg fun q => e (mk1_eq q)]
    have : d ∈ cs := by simpa [e] using hd
    exact h d this
theorem noDict : Obj.IsDictOf (PySem.strKind prog w) { cls := .type "dict", dict := none, data := .dict (#[] : Array DictEntry) } [] := ⟨#[], 0, ⟨rfl, rfl, rfl⟩, rfl, fun e he => by simp at he, by constructor, by simp⟩
theorem pd_block {iter : PySem.Expr} {a b : Str} {pa pb qa qb tp : Pos} {kk : Nat} {scope : Scope} {cl : List (Str × Addr)} {pos : Pos} {s₂ : Shared} {I S : Addr} {vl : List Value} {cs : List Nat} {n : Nat} {news : List (Addr × Obj)}
    {RR : Value → Addr → Result → Shared → Prop}
    (hh : A.handled = none) (hne : S ≠ I) (hsz : vl.length ≤ sizeLine) (hS : (S, W.listOf vl.toArray n) ∈ news) (hP : PairsAt news vl cs) (hit : s₂.heap.IsListIter I S 0)
    (hcell : ∀ y ∈ scope.names, y.2 ≠ .cell) (hkind : scope.kind = .function) (hxa : scope.names.lookup a = some .local) (hxb : scope.names.lookup b = some .local) (hda : (a == ("__debug__" : Str)) = false) (hdb : (b == ("__debug__" : Str)) = false) (hab : ¬ a = b)
    (F : Fr h₀ L s₂.heap m) (N : News h₀ L s₂.heap news) (hIL : L ≠ I) (hI₀ : h₀.get? I = none) (off : ∀ p ∈ news, p.1 ≠ I)
    (hRR : ∀ D C h tk m' od kvs, Fr h₀ L h m → News h₀ L h ((D, od) :: news) → Off1 D news → h.Ns C m' → h₀.get? C = none → h₀.get? D = none → C ≠ L → D ≠ L → C ≠ D → (∀ p ∈ news, p.1 ≠ C) → od.IsDictOf (PySem.strKind prog w) kvs → MeanS kvs cs → RR (.ref D) C (.ok .next) { s₂ with heap := h, toks := tk }) :
    wpAny (model prog w) A newDict (fun acc s₃ => wpAny (model prog w) A (newFunctionEnv scope env.globals cl [] env.qual none .none (some env)) (fun cenv s₄ =>
      codeAny (model prog w) A (.compStart (.DictComp (.Name a qa) (.Name b qb) [⟨.Tuple [.Name a pa, .Name b pb] kk tp, iter, [], 0⟩] scope pos) 0 (.ref I) acc { cenv with scope := relabel scope env }) (RR acc cenv.locals) s₄) E s₃) E s₂ := by
  refine wpAny_newObj_type (wpAny_newFunctionEnv hcell (by intro y hy; simp at hy) (fun h₁ hns₁ hsb₁ => ?_) hkind)
  dsimp only at hns₁ hsb₁ ⊢
  generalize hH2 : s₂.heap.push { cls := .type "dict", dict := none, data := .dict (#[] : Array DictEntry) } = H2 at hns₁ hsb₁ ⊢
  have hC : H2.objs.size = s₂.heap.objs.size + 1 := by rw [← hH2, Heap.size_push]
  have hDC : s₂.heap.objs.size ≠ H2.objs.size := by rw [hC]; exact Nat.ne_of_lt (Nat.lt_succ_self _)
  have below : ∀ b, b < s₂.heap.objs.size → b ≠ H2.objs.size ∧ b ≠ s₂.heap.objs.size := fun b hb => ⟨by rw [hC]; exact Nat.ne_of_lt (Nat.lt_succ_of_lt hb), Nat.ne_of_lt hb⟩
  have hIlt : I < s₂.heap.objs.size := by obtain ⟨o, ho, _⟩ := hit; exact Heap.lt_size ho
  have old : ∀ b o, s₂.heap.get? b = some o → h₁.get? b = some o := fun b o e => hsb₁.extBut b o (below b (Heap.lt_size e)).1 (Heap.get?_push_of_some _ (hH2 ▸ Heap.get?_push_of_some _ e))
  have hacc : h₁.get? s₂.heap.objs.size = some { cls := .type "dict", dict := none, data := .dict (#[] : Array DictEntry) } := hsb₁.extBut _ _ hDC (Heap.get?_push_of_some _ (hH2 ▸ Heap.get?_push_size _ rfl))
  have hit₁ : h₁.IsListIter I S 0 := hit.at fun o e => old _ _ e
  have fresh : ∀ a, s₂.heap.objs.size ≤ a → s₂.heap.get? a = none := fun a ha => by
    cases e : s₂.heap.get? a with
    | none => rfl
    | some o' => exact absurd (Heap.lt_size e) (Nat.not_lt.mpr ha)
  have fresh₀ : ∀ a, s₂.heap.objs.size ≤ a → h₀.get? a = none := fun a ha => by
    cases e : h₀.get? a with
    | none => rfl
    | some o' => have := F.keep a o' e; rw [fresh a ha] at this; cases this
  have hD₀ : h₀.get? s₂.heap.objs.size = none := fresh₀ _ (Nat.le_refl _)
  have hC₀ : h₀.get? H2.objs.size = none := fresh₀ _ (by rw [hC]; exact Nat.le_succ _)
  have hLlt : L < s₂.heap.objs.size := F.ns.lt
  have hDL : s₂.heap.objs.size ≠ L := Ne.symm (below L hLlt).2
  have hCL : H2.objs.size ≠ L := Ne.symm (below L hLlt).1
  have hCI : I ≠ H2.objs.size := (below I hIlt).1
  have hDI : I ≠ s₂.heap.objs.size := (below I hIlt).2
  have off3 : ∀ p ∈ news, p.1 ≠ I ∧ p.1 ≠ H2.objs.size ∧ p.1 ≠ s₂.heap.objs.size := fun p hp => ⟨off p hp, (below _ (Heap.lt_size (N p hp).1)).1, (below _ (Heap.lt_size (N p hp).1)).2⟩
  have W := Walks.list (prog := prog) (w := w) hh I S hne vl.toArray
  have vsz : vl.toArray.size = vl.length := List.size_toArray
  have loop : ∀ s₃ : Shared, s₃ = { s₂ with heap := h₁, toks := s₂.toks + ([] : List (Str × Value)).length } →
      codeAny (model prog w) A (.compLoop (.DictComp (.Name a qa) (.Name b qb) [⟨.Tuple [.Name a pa, .Name b pb] kk tp, iter, [], 0⟩] scope pos) 0 (.ref I) (.ref s₂.heap.objs.size) (compEnvC scope cl H2.objs.size env))
        (RR (.ref s₂.heap.objs.size) H2.objs.size) s₃ := by
    rintro s₃ rfl
    refine kdc_loop
      (fun k s' => ∃ h' tk i od kvs m', s' = { s₂ with heap := h', toks := tk } ∧ i ≤ vl.length ∧ k = vl.length + 1 - i ∧ kvs.length ≤ i ∧ h'.IsListIter I S i ∧ Fr h₀ L h' m ∧ h'.Ns H2.objs.size m' ∧
        News h₀ L h' ((s₂.heap.objs.size, od) :: news) ∧ od.IsDictOf (PySem.strKind prog w) kvs ∧ MeanS kvs (cs.take i)) ?_ (vl.length + 1)
      ⟨h₁, _, 0, _, [], _, rfl, Nat.zero_le _, rfl, Nat.le_refl _, hit₁, F.keeps old, hns₁, fun p hp => ?_, noDict, fun c hc => nomatch hc⟩
    · rintro k s' ⟨h', tk, i, od, kvs, m', rfl, hi, rfl, hyl, hit', F', hn', N', hod, hys⟩
      have hSl : h'.IsList S vl.toArray := News.isList N' (List.mem_cons_of_mem _ hS)
      by_cases hlt : i < vl.length
      · refine W.item i _ _ _ (by rw [vsz]; exact hlt) ⟨hit', hSl⟩ fun v h₃ tk₃ hPi hst₃ hk₃ => ?_
        have hv : vl[i]? = some v := by simpa using hPi
        obtain ⟨c, T, n2, t, u, hc, rfl, hTm, ok⟩ := hP.get hv
        have up₃ : ∀ c o, c ≠ I → h'.get? c = some o → h₃.get? c = some o := fun c o hc e => hk₃ c o (by simpa using hc) e
        refine letGo_listiter hst₃.1 ?_
        have hT : h₃.IsList T #[.str ⟨#[c]⟩ t, .str (sen c) u] := by
          have := News.isList N' (List.mem_cons_of_mem _ hTm)
          exact this.at fun o e => up₃ _ o (off _ hTm) e
        refine asg2 (env := compEnvC scope cl H2.objs.size env) hh hT (lookup_relabel_local hxa) (lookup_relabel_local hxb) (by simp [compEnvC, relabel, hkind]) (hn'.at' fun o e => up₃ _ o (Ne.symm hCI) e) fun h₄ tk₄ hn₄ hs₄ => ?_
        have up : ∀ c o, c ≠ I → c ≠ H2.objs.size → h'.get? c = some o → h₄.get? c = some o := fun c o h1 h2 e => hs₄ c o h2 (up₃ c o h1 e)
        have hI₄ : h₄.IsListIter I S (i + 1) := hst₃.1.at fun o e => hs₄ _ o hCI e
        have F₄ : Fr h₀ L h₄ m := ⟨F'.ns.at' fun o e => up _ o hIL (Ne.symm hCL) e, fun c o e => up c o (fun q => by rw [q, hI₀] at e; cases e) (fun q => by rw [q, hC₀] at e; cases e) (F'.keep c o e), F'.above⟩
        have N₄ : News h₀ L h₄ ((s₂.heap.objs.size, od) :: news) := fun q hq => by
          have z := N' q hq
          refine ⟨up _ _ ?_ ?_ z.1, z.2⟩
          · rcases List.mem_cons.mp hq with rfl | hq
            · exact Ne.symm hDI
            · exact (off3 q hq).1
          · rcases List.mem_cons.mp hq with rfl | hq
            · exact hDC
            · exact (off3 q hq).2.1
        refine ldz (by simp [compEnvC, relabel, hkind]) (lookup_relabel_local hxa) hn₄ (v := .str ⟨#[c]⟩ t) (by simp [hab]) hda ?_
        refine ldz (by simp [compEnvC, relabel, hkind]) (lookup_relabel_local hxb) hn₄ (v := .str (sen c) u) (by simp) hdb ?_
        have zD := (N₄ (s₂.heap.objs.size, od) List.mem_cons_self).1
        refine wpAny_dictSet_pairs (knd := PySem.strKind prog w) (k := (⟨#[c]⟩ : Str)) (strKind_is _ _ _ _) (Heap.dictOf_iff.mpr ⟨od, zD, hod⟩) (fun h₆ hD₆ hs₆ => ?_) (Nat.le_trans hyl (Nat.le_trans hi hsz))
        obtain ⟨od', zD', hod'⟩ := Heap.dictOf_iff.mp hD₆
        refine ⟨vl.length + 1 - (i + 1), by omega, h₆, _, i + 1, od', _, _, rfl, hlt, rfl, Nat.le_trans (stored_length_le ..) (Nat.succ_le_succ hyl), hI₄.at fun o e => hs₆.extBut _ o hDI e, F₄.change hs₆ hDL hD₀,
          hn₄.sameBut hs₆ (Ne.symm hDC), fun q hq => ?_, hod', ?_⟩
        · rcases List.mem_cons.mp hq with rfl | hq
          · exact ⟨zD', hDL, hD₀⟩
          · exact ⟨hs₆.extBut _ _ (off3 q hq).2.2 (N₄ q (List.mem_cons_of_mem _ hq)).1, (N₄ q (List.mem_cons_of_mem _ hq)).2⟩
        · rw [List.take_add_one, hc]
          exact MeanS.snoc hys
      · have hin : i = vl.length := Nat.le_antisymm hi (Nat.not_lt.mp hlt)
        subst hin
        rw [hP.len, List.take_length] at hys
        refine W.done _ _ _ (by rw [vsz]; exact ⟨hit', hSl⟩) fun h₂ tk₂ hk₂ => ?_
        exact hRR _ _ h₂ tk₂ _ od kvs (fr_but F' hk₂ hIL hI₀) (news_but N' hk₂ fun p hp => by
          rcases List.mem_cons.mp hp with rfl | hp
          · exact Ne.symm hDI
          · exact (off3 p hp).1) (Off3.one (Off3.of off3)) (hn'.at' fun o e => hk₂ _ o (by simpa using Ne.symm hCI) e) hC₀ hD₀ hCL hDL (Ne.symm hDC) (fun p hp => (off3 p hp).2.1) hod hys
    · rcases List.mem_cons.mp hp with rfl | hp
      · exact ⟨hacc, hDL, hD₀⟩
      · exact ⟨old _ _ (N p hp).1, (N p hp).2⟩
  exact codeAny_compStart_dict (loop _ rfl) (wpAny_pyIter_listiter hit₁ (loop _ rfl))
theorem pd_DictComp {iter : PySem.Expr} {a b : Str} {pa pb qa qb tp : Pos} {kk : Nat} {scope : Scope} {cl : List (Str × Addr)} {pos : Pos} {Q : Value → Shared → Prop} (_F₀ : Fr h₀ L s.heap m)
    (hclos : closureFor scope env = pure cl) (hcell : ∀ y ∈ scope.names, y.2 ≠ .cell) (hkind : scope.kind = .function)
    (hnames : ∀ y ∈ scope.names, y.2 = .local → scope.names.lookup y.1 = some .local) (hxa : scope.names.lookup a = some .local) (hxb : scope.names.lookup b = some .local) (hda : (a == ("__debug__" : Str)) = false) (hdb : (b == ("__debug__" : Str)) = false) (hab : ¬ a = b)
    (h : wpAny (model prog w) A (eval iter env) (fun xv s₁ => ∃ S n vl cs news, xv = .ref S ∧ A.handled = none ∧ Fr h₀ L s₁.heap m ∧ News h₀ L s₁.heap news ∧ (S, W.listOf (List.toArray vl) n) ∈ news ∧ PairsAt news vl cs ∧ vl.length ≤ sizeLine ∧
      (∀ D h' tk' od kvs, Fr h₀ L h' m → News h₀ L h' ((D, od) :: news) → Off1 D news → od.IsDictOf (PySem.strKind prog w) kvs → MeanS kvs cs → Q (.ref D) { s₁ with heap := h', toks := tk' })) E s)
    (hs : ∀ x, foldedSetIterable iter env x = pure x := by intro _; rfl) :
    wpAny (model prog w) A (eval (.DictComp (.Name a qa) (.Name b qb) [⟨.Tuple [.Name a pa, .Name b pb] kk tp, iter, [], 0⟩] scope pos) env) Q E s := by
  rw [arm_eval_DictComp]
  show wpAny (model prog w) A (comprehension _ scope env _ newDict false (eval iter env)) Q E s
  refine wpAny_comprehension_free (use := none) rfl hs hclos hkind hnames (wpAny_mono h (fun xv s₁ h₁ => ?_) fun _ _ e => e)
  obtain ⟨S, n, vl, cs, news, rfl, hh, F, N, hS, hP, hsz, R⟩ := h₁
  have hl : s₁.heap.IsList S vl.toArray := News.isList N hS
  have hlt : ∀ p ∈ news, p.1 ≠ s₁.heap.objs.size := fun p hp => Nat.ne_of_lt (Heap.lt_size (N p hp).1)
  refine wpAny_pyIter_list hl ?_
  refine pd_block (s₂ := { s₁ with heap := s₁.heap.push _ }) hh (hlt _ hS) hsz hS hP ⟨_, Heap.get?_push_size _ rfl, rfl, rfl⟩ hcell hkind hxa hxb hda hdb hab (F.push _)
    (fun p hp => ⟨Heap.get?_push_of_some _ (N p hp).1, (N p hp).2⟩) (Nat.ne_of_lt F.ns.lt) (next_is_new F) hlt ?_
  intro D C h tk m' od kvs F' N' o1 hn hC₀ hD₀ hCL hDL hCD offC hod hys
  refine ⟨m', hn, fun h'' hs'' => R D h'' tk od kvs (F'.change hs'' hCL hC₀) (fun p hp => ?_) o1 hod hys⟩
  refine ⟨hs''.extBut _ _ ?_ (N' p hp).1, (N' p hp).2⟩
  rcases List.mem_cons.mp hp with rfl | hp
  · exact Ne.symm hCD
  · exact offC p hp
end

end Mine
namespace Mine
open PyProof.Rows.LCg PyProof.Rows.LCt in
section
variable {prog : Program} {w : World} {A : Around} {E : Value → Shared → Prop} {s : Shared} {h₀ : Heap} {L : Addr} {m : Str → Option Value} {env : Env}
theorem mean_item {value slice : PySem.Expr} {d : Addr} {od : Obj} {kvs : List (Str × Value)} {news : List (Addr × Obj)} {x : Str} {t : Tok} {v : Value} {Q : Value → Shared → Prop} (N : News h₀ L s.heap news) (hm : (d, od) ∈ news) (hd : od.IsDictOf (PySem.strKind prog w) kvs) (hv : valueAt kvs x = some v)
    (h : Q v { s with toks := s.toks + 1 })
    (hs : subscripted slice false (.ref d) (.str x t) = operate [.ref d, .str x t] (getItem (.ref d) (.str x t))) (hg : ∀ r, letTemporaryGo value (.ref d) r = pure ()) :
    wpAny (model prog w) A (subscriptTail value slice (.ref d) (.str x t)) Q E s := by
  have D : s.heap.DictOf (PySem.strKind prog w) d kvs := Heap.dictOf_iff.mpr ⟨od, (N _ hm).1, hd⟩
  exact subscriptTail_builtin D.typeIs slot_dict_getitem.lookup (wpAny_getItem_of (strKind_is _ _ _ _) D.mapOf hv h) hs hg
theorem rest_txt {elt : PySem.Expr} {x : Str} {scope : Scope} {cl : List (Str × Addr)} {news : List (Addr × Obj)} {Fin : List Value → List (Addr × Obj) → Prop} (g : Nat → Str) (y : Str)
    (turn : ∀ c u I oI C oC D m₂ ys h tk (E' : Value → Shared → Prop), c ∈ y.cps.toList → NsObj oC m₂ → m₂ x = some (.str ⟨#[c]⟩ u) → Fr h₀ L h m → News h₀ L h ((I, oI) :: (C, oC) :: (D, lst ys) :: news) → Off3 I C D news → ((@Ne Nat I C) ∧ (@Ne Nat I D) ∧ (@Ne Nat C D)) →
      wpAny (model prog w) A (eval elt (compEnvC scope cl C env)) (CompEnd h₀ L m { s with heap := h, toks := tk } I oI C oC D (lst ys) (fun _ => True) (fun y news' => news' = news ∧ ∃ t, y = .str (g c) t)) E' { s with heap := h, toks := tk })
    (fin : ∀ ys, StrsAre ys (y.cps.toList.map g) → Fin ys news) :
    CompRest prog w A h₀ L m env elt x scope cl s (fun _ => True) (SignAt y) Fin y.cps.size 0 [] news := by
  have key : ∀ (j i : Nat) (ys : List Value), i + j = y.cps.size → StrsAre ys ((y.cps.toList.take i).map g) → CompRest prog w A h₀ L m env elt x scope cl s (fun _ => True) (SignAt y) Fin j i ys news := by
    intro j
    induction j with
    | zero =>
      intro i ys hi hy
      rw [List.take_of_length_le (by simp; omega)] at hy
      exact fin ys hy
    | succ j ih =>
      intro i ys hi hy
      intro v I oI C oC D m₂ h tk E' hv hC hx F N off ne
      obtain ⟨c, u, hc, rfl⟩ := hv
      have hc' : y.cps.toList[i]? = some c := by simpa using hc
      refine wpAny_mono (turn c u I oI C oC D m₂ ys h tk E' (List.mem_of_getElem? hc') hC hx F N off ne) (fun y₁ s₃ h₃ => ?_) fun _ _ e => e
      obtain ⟨h', tk', nw, e, F', N', off', hS, hn, t', hy'⟩ := h₃
      subst hn
      refine ⟨h', tk', _, e, F', N', off', hS, ?_⟩
      rw [hy']
      refine ih (i + 1) _ (by omega) ?_
      rw [List.take_add_one, hc', List.map_append]
      exact kct_snoc hy
  exact key _ 0 [] (by omega) .nil
def TxtSrc0 (prog : Program) (w : World) (A : Around) (h₀ : Heap) (L : Addr) (m : Str → Option Value) (env : Env) (elt : PySem.Expr) (x : Str) (scope : Scope) (cl : List (Str × Addr)) (Q : Value → Shared → Prop) (xv : Value) (s₁ : Shared) : Prop :=
  ∃ y t news, xv = .str y t ∧ Fr h₀ L s₁.heap m ∧ News h₀ L s₁.heap news ∧ y.cps.size ≤ sizeLine ∧
      ∀ g, CompRest prog w A h₀ L m env elt x scope cl { s₁ with heap := g } (fun _ => True) (SignAt y) (FinE h₀ L m { s₁ with heap := g } Q) y.cps.size 0 [] news
theorem TxtSrc0.intro {elt : PySem.Expr} {x : Str} {scope : Scope} {cl : List (Str × Addr)} {Q : Value → Shared → Prop} {s₁ : Shared} {y : Str} {t : Tok} {news : List (Addr × Obj)} (F : Fr h₀ L s₁.heap m) (N : News h₀ L s₁.heap news) (hy : y.length < 1000)
    (h : ∀ g, CompRest prog w A h₀ L m env elt x scope cl { s₁ with heap := g } (fun _ => True) (SignAt y) (FinE h₀ L m { s₁ with heap := g } Q) y.cps.size 0 [] news) : TxtSrc0 prog w A h₀ L m env elt x scope cl Q (.str y t) s₁ :=
  ⟨y, t, news, rfl, F, N, by have : y.cps.size < 1000 := hy; rw [PySem.sizeLine_eq]; omega, h⟩
theorem comp_txt {elt iter : PySem.Expr} {x : Str} {px : Pos} {scope : Scope} {cl : List (Str × Addr)} {pos : Pos} {Q : Value → Shared → Prop} (F₀ : Fr h₀ L s.heap m)
    (hclos : closureFor scope env = pure cl) (hcell : ∀ y ∈ scope.names, y.2 ≠ .cell) (hkind : scope.kind = .function)
    (hnames : ∀ y ∈ scope.names, y.2 = .local → scope.names.lookup y.1 = some .local) (hx : scope.names.lookup x = some .local) (hh : A.handled = none)
    (h : wpAny (model prog w) A (eval iter env) (TxtSrc0 prog w A h₀ L m env elt x scope cl Q) E s)
    (hs : ∀ x, foldedSetIterable iter env x = pure x := by intro _; rfl) :
    wpAny (model prog w) A (eval (.ListComp elt [⟨.Name x px, iter, [], 0⟩] scope pos) env) Q E s := by
  rw [eval_ListComp]
  refine wpAny_comprehension_free (use := none) rfl hs hclos hkind hnames (wpAny_mono h (fun xv s₁ h₁ => ?_) fun _ _ e => e)
  obtain ⟨y, t, news, rfl, F, N, hsz, R⟩ := h₁
  cases ha : y.cps.all (· < 128)
  · refine wpAny_pyIter_wide ha ?_
    refine block_U (Walks.strWide hh _ y t) hsz (fun i h st => by obtain ⟨o, e, _⟩ := st; exact ⟨_, e⟩) (fun i h h' o nw st e e' _ _ _ => by obtain ⟨z, hz, r⟩ := st; exact ⟨z, by rw [e', ← e, hz], r⟩) hcell hkind hx ⟨_, Heap.get?_push_size _ rfl, rfl, rfl⟩ (fun b hb => ?_)
      (F.keeps fun _ _ e => Heap.get?_push_of_some _ e) (N.grown fun _ _ e => Heap.get?_push_of_some _ e) (Nat.ne_of_lt F.ns.lt) (next_is_new F) (fun p hp => Nat.ne_of_lt (Heap.lt_size (N p hp).1)) trivial (R _) ?_
    · rw [List.mem_singleton.mp hb]
      show s₁.heap.objs.size < (s₁.heap.push _).objs.size
      rw [Heap.size_push]; exact Nat.lt_succ_self _
    · intro D C h tk m' ys news' F' N' o1 hn hC₀ hD₀ hCL hDL hCD offC fin
      refine ⟨m', hn, fun h'' hs'' => fin D h'' tk (F'.change hs'' hCL hC₀) (fun p hp => ?_) o1⟩
      refine ⟨hs''.extBut _ _ ?_ (N' p hp).1, (N' p hp).2⟩
      rcases List.mem_cons.mp hp with rfl | hp
      · exact Ne.symm hCD
      · exact offC p hp
  · refine wpAny_pyIter_ascii ha ?_
    refine block_U (Walks.strAscii hh _ y t) hsz (fun i h st => by obtain ⟨o, e, _⟩ := st; exact ⟨_, e⟩) (fun i h h' o nw st e e' _ _ _ => by obtain ⟨z, hz, r⟩ := st; exact ⟨z, by rw [e', ← e, hz], r⟩) hcell hkind hx ⟨_, Heap.get?_push_size _ rfl, rfl, rfl⟩ (fun b hb => ?_)
      (F.keeps fun _ _ e => Heap.get?_push_of_some _ e) (N.grown fun _ _ e => Heap.get?_push_of_some _ e) (Nat.ne_of_lt F.ns.lt) (next_is_new F) (fun p hp => Nat.ne_of_lt (Heap.lt_size (N p hp).1)) trivial (R _) ?_
    · rw [List.mem_singleton.mp hb]
      show s₁.heap.objs.size < (s₁.heap.push _).objs.size
      rw [Heap.size_push]; exact Nat.lt_succ_self _
    · intro D C h tk m' ys news' F' N' o1 hn hC₀ hD₀ hCL hDL hCD offC fin
      refine ⟨m', hn, fun h'' hs'' => fin D h'' tk (F'.change hs'' hCL hC₀) (fun p hp => ?_) o1⟩
      refine ⟨hs''.extBut _ _ ?_ (N' p hp).1, (N' p hp).2⟩
      rcases List.mem_cons.mp hp with rfl | hp
      · exact Ne.symm hCD
      · exact offC p hp
/-- a loop over a list of the ledger, told by what holds ahead of each turn -/
theorem loop_inv {target : PySem.Expr} {body : List Stmt} {Q : Flow → Shared → Prop} {ax : Addr} {lo : Obj} {vs : List Value} {n : Nat} {m₀ : Str → Option Value} {news : List (Addr × Obj)} (Inv : Addr → List Value → (Str → Option Value) → List (Addr × Obj) → Prop)
    (hh : A.handled = none) (F : Fr h₀ env.locals s.heap m₀) (N : News h₀ env.locals s.heap news) (hm : (ax, lo) ∈ news) (hc : lo.cls = .type "list") (hd : lo.data = .seq vs.toArray n)
    (h0 : ∀ I : Addr, (∀ p ∈ news, p.1 < I) → Inv I vs m₀ news)
    (step : ∀ I v r m' news' h tk it, it.cls = .type "list_iterator" → Inv I (v :: r) m' news' → Fr h₀ env.locals h m' → News h₀ env.locals h ((I, it) :: news') →
      wpAny (model prog w) A (assign target env v) (fun _ s₂ => wpAny (model prog w) A (execs body env) (UnrPostW h₀ env.locals { s with heap := h, toks := tk } [(I, it)] (fun m'' n'' => SubL [(ax, lo)] n'' ∧ Inv I r m'' n'') Q) E s₂) E { s with heap := h, toks := tk })
    (fin : ∀ I m' news' h tk, Inv I [] m' news' → Fr h₀ env.locals h m' → News h₀ env.locals h news' → Q .next { s with heap := h, toks := tk }) :
    wpAny (model prog w) A (pyIter (.ref ax)) (fun it s₂ => TurnsAt prog w A h₀ env target body Q E it s₂) E s := by
  refine iter_listTurns hh F N hm hc hd fun I hI => ?_
  have key : ∀ (r : List Value) (m' : Str → Option Value) (news' : List (Addr × Obj)), Inv I r m' news' → ItemsRest prog w A E h₀ env target body Q s [(I, "list_iterator")] [(ax, lo)] (r.map .val) m' news' := by
    intro r
    induction r with
    | nil => exact fun m' news' hi h tk F N => fin I m' news' h tk hi F N
    | cons v r ih =>
      intro m' news' hi
      refine ItemsRest.val fun h tk F' => AllObj.cons fun it hit => AllObj.nil fun N' => ?_
      refine wpAny_mono (step I v r m' news' h tk it hit hi F' N') (fun _ s₂ h₂ => wpAny_mono h₂ (fun f s₃ p => ?_) fun _ _ e => e) fun _ _ e => e
      cases f with
      | ret v => exact p
      | brk => exact p
      | next => obtain ⟨a, b, c, d, e, f, g, o, k, i⟩ := p; exact ⟨a, b, c, d, e, f, g, o, k, ih _ _ i⟩
      | cont => obtain ⟨a, b, c, d, e, f, g, o, k, i⟩ := p; exact ⟨a, b, c, d, e, f, g, o, k, ih _ _ i⟩
  exact key vs m₀ news (h0 I hI)
end

end Mine
namespace Mine
open PySem.Builtin PySem.Builtin.Str PySem.Builtin.BaseException PySem.Builtin.Exceptions in
section
variable {prog : Program} {w : World} {A : Around} {E : Value → Shared → Prop} {s : Shared} {K : Frag} {e t0 C : Addr} {oe : Obj} {ws : Array Value}
theorem own_type {M : Model} {h : Heap} (he : h.get? e = some oe) (hc : oe.cls = .ref C) : Looks M h (typeOf (.ref e)) (.ref C) := hc ▸ (Looks.ld he).andThen .now
theorem own_check {M : Model} {Q : Unit → Shared → Prop} (X : K.In s.heap) (he : s.heap.get? e = some oe) (hc : oe.cls = .ref C) (hm : mroIn K C (.type "BaseException") = some true) (hQ : Q () s) :
    wpAny M A (checkBuiltinCall "BaseException.__str__" ⟨[.ref e], []⟩) Q E s := by
  have hsplit : splitId "BaseException.__str__" = some ("BaseException", "__str__") := by decide +kernel
  have hk : builtinKind "BaseException.__str__" = some .slot := by
    have : builtinKind "BaseException.__str__" = (Manifest.find? "BaseException").bind (·.attrs.lookup "__str__") := by simp only [builtinKind, hsplit]
    rw [this]; decide +kernel
  have ha := PySem.F.args_bexc_str (.ref e)
  simp only [checkBuiltinCall, hk, hsplit]
  refine wpAny_bind ?_
  simp only [isInstance]
  refine wpAny_bind ((own_type he hc).here ((looks_mroIn X hm).here ?_))
  simp only [Bool.not_true, Bool.false_eq_true, if_false]
  cases hsig : Manifest.signature? "BaseException.__str__" with
  | none => exact wpAny_pure hQ
  | some sig =>
    simp only [argsOk, hsig] at ha
    have h2 : Bind.checkArgs "BaseException.__str__" sig ⟨[.ref e], []⟩ = pure () := ha
    show wpAny M A (Bind.checkArgs "BaseException.__str__" sig ⟨[.ref e], []⟩) Q E s
    rw [h2]; exact wpAny_pure hQ
theorem own_bexcArgs {M : Model} {items : List Value} {Q : Value × List Value → Shared → Prop} (he : s.heap.get? e = some oe) (hd : oe.data = .fields ws) (h0 : ws[0]? = some (.ref t0)) (ht : s.heap.TupAt t0 items) (hq : Q (.ref t0, items) s) :
    wpAny M A (bexcArgs (.ref e)) Q E s := by
  obtain ⟨ot, k, hto, _, htd⟩ := ht
  unfold bexcArgs
  refine wpAny_bind (wpAny_field he hd h0 (wpAny_bind (wpAny_seqItems hto htd ?_)))
  have : items.toArray.toList = items := by simp
  show wpAny M A (pure (Value.ref t0, items.toArray.toList)) Q E s
  rw [this]; exact wpAny_pure hq
theorem own_entry {m : Str} {tk : Tok} {Q : Fin → Shared → Prop} (he : s.heap.get? e = some oe) (hd : oe.data = .fields ws) (h0 : ws[0]? = some (.ref t0)) (ht : s.heap.TupAt t0 [.str m tk]) (hq : Q (.done (.ret (.str m tk))) s) :
    wpAny (model prog w) A (Builtin.«BaseException.__str__» ⟨[.ref e], []⟩) Q E s := by
  unfold Builtin.«BaseException.__str__»
  repeat (first | with_reducible refine own_bexcArgs he hd h0 ht ?_ | wp_step)
  exact hq
theorem own_strOf (hu : A.units < cLine) {m : Str} {tk : Tok} {Q : Value → Shared → Prop} (X : K.In s.heap) (he : s.heap.get? e = some oe) (hc : oe.cls = .ref C) (hd : oe.data = .fields ws) (h0 : ws[0]? = some (.ref t0)) (ht : s.heap.TupAt t0 [.str m tk])
    (hm : mroIn K C (.type "BaseException") = some true) (hs : findIn K (.ref C) "__str__" = some (some (.builtin "BaseException.__str__"))) (hq : Q (.str m tk) s) :
    wpAny (model prog w) A (PySem.Builtin.Str.strOf (.ref e)) Q E s := by
  unfold PySem.Builtin.Str.strOf
  rw [show isExactStr (.ref e) = false from rfl]
  refine wpAny_bind (m := cRoomFor _ _) (wpAny_cRoomFor hu ?_)
  refine wpAny_bind (m := callSpecial? (.ref e) (Str.ofString "__str__")) ?_
  unfold callSpecial?
  refine wpAny_bind ?_
  simp only [specialOf]
  refine wpAny_bind ((own_type he hc).here ((looks_findIn X hs).here ?_))
  simp only [PySem.F.excStr_Exception.str.bind]
  refine wpAny_holding (wpAny_bind (wpAny_pure (wpAny_bind ?_)))
  refine wpAny_call (codeAny_call_builtin PySem.F.excStr_Exception.str.plain PySem.F.entry_bexc_str (own_check (s := s) X he hc hm (own_entry he hd h0 ht ?_)))
  exact wpAny_pure (wpAny_pure hq)
theorem own_str (hu : A.in1.in1.units < cLine) {m : Str} {tk : Tok} {Q : Value → Shared → Prop} (X : K.In s.heap) (he : s.heap.get? e = some oe) (hc : oe.cls = .ref C) (hd : oe.data = .fields ws) (h0 : ws[0]? = some (.ref t0)) (ht : s.heap.TupAt t0 [.str m tk])
    (hm : mroIn K C (.type "BaseException") = some true) (hs : findIn K (.ref C) "__str__" = some (some (.builtin "BaseException.__str__"))) (hq : Q (.str m tk) s) :
    wpAny (model prog w) A (call (.type "str") [.ref e]) Q E s := by
  refine callType_codes (T := "str") (Bi := Builtin.«object.__init__») (Q₁ := fun r s₁ => ∃ y u, r = .str y u ∧ Q r s₁) PySem.F.called_str (PySem.F.typeCall_str_1 _) PySem.F.entry_object_init ?_ ?_
  · refine codeAny_of_tree ?_
    show wpAny _ A.in1.in1 (do checkBuiltinCall "str.__new__" ⟨[.type "str", .ref e], []⟩; again (.builtin "str.__new__" ⟨[.type "str", .ref e], []⟩)) _ _ s
    refine wpAny_bind (wpAny_of_eq (PySem.F.newCall_str_1 _) (wpAny_pure ⟨plainId_quiet (by decide +kernel) _, codeAny_builtin PySem.F.entry_str_new ?_⟩))
    rw [Around.under_plainId (by decide +kernel) _]
    rw [str_new_tree]
    refine wpAny_bind (wpAny_pure ?_)
    refine wpAny_bind (wpAny_of_eq isSubtype_str_str ?_)
    exact wpAny_bind (own_strOf hu X he hc hd h0 ht hm hs (wpAny_pure ⟨_, _, rfl, hq⟩))
  · rintro obj s₁ ⟨y, u, rfl, hq⟩
    exact ⟨typeIs_str _ _ _, PySem.F.args_object_init_2 _ _, object_init_meets PySem.F.called_str.init.lookup PySem.F.called_str.made (by decide) prog w A.in1 _ s₁ ⟨typeIs_str _ _ _, rfl, hq⟩⟩
end

end Mine
namespace Mine
section
variable {prog : Program} {w : World} {A : Around} {E : Value → Shared → Prop} {s : Shared} {h₀ : Heap} {L : Addr} {m : Str → Option Value} {env : Env}
theorem Fr.named {h₀ h : Heap} {L : Addr} {M : Str → Option Value} {x : Str} {v : Option Value} (F : Fr h₀ L h M) (hv : M x = v) : Fr h₀ L h (fun y => if y = x then v else M y) := by
  have e : (fun y => if y = x then v else M y) = M := by
    funext y
    by_cases hy : y = x
    · subst hy; rw [if_pos rfl, hv]
    · rw [if_neg hy]
  rw [e]; exact F
theorem pairsIn_news {h₀ h₁ h' : Heap} (F : Fr h₀ L h₁ m) (k : Kp h₁ h') : ∀ {vl : List Value} {cs : List Nat}, PairsIn h₁ h' vl cs → ∃ es, (∀ p ∈ es, h'.get? p.1 = some p.2 ∧ p.1 ≠ L ∧ h₀.get? p.1 = none ∧ h₁.get? p.1 = none) ∧ PairsAt es vl cs
  | [], [], _ => ⟨[], fun p hp => (by cases hp), trivial⟩
  | v :: vs, c :: cs, h => by
    obtain ⟨⟨a, n, t, u, e, ha, hg, ok⟩, h2⟩ := h
    obtain ⟨es, hes, hP⟩ := pairsIn_news F k h2
    refine ⟨(a, W.listOf #[.str ⟨#[c]⟩ t, .str (sen c) u] n) :: es, fun p hp => ?_, ⟨⟨a, n, t, u, e, List.mem_cons_self .., ok⟩, hP.mono fun p hp => List.mem_cons_of_mem _ hp⟩⟩
    rcases List.mem_cons.mp hp with rfl | hp
    · refine ⟨hg, fun e => ?_, ?_, ha⟩
      · obtain ⟨o, _, _, hL, _⟩ := F.ns
        have e' : a = L := e
        rw [e', hL] at ha; cases ha
      · cases q : h₀.get? a with
        | none => rfl
        | some o => have := F.keep _ _ q; rw [ha] at this; cases this
    · exact hes p hp
  | [], _ :: _, h => h.elim
  | _ :: _, [], h => h.elim
theorem RP.news {h₁ h' : Heap} {news : List (Addr × Obj)} {v : Value} (r : RP h₁ v h') (F : Fr h₀ L h₁ m) (N : News h₀ L h₁ news) (k : Kp h₁ h') :
    ∃ D vl n cs es, v = .ref D ∧ News h₀ L h' ((D, W.listOf (List.toArray vl) n) :: es) ∧ (∀ p ∈ (D, W.listOf (List.toArray vl) n) :: es, ∀ q ∈ news, p.1 ≠ q.1) ∧ PairsAt es vl cs ∧ 1 ≤ cs.length ∧ cs.length ≤ 2 := by
  obtain ⟨D, vl, n, cs, e, hD, hg, l1, l2, hP⟩ := r
  obtain ⟨es, hes, hPA⟩ := pairsIn_news F k hP
  refine ⟨D, vl, n, cs, es, e, fun p hp => ?_, fun p hp q hq e2 => ?_, hPA, l1, l2⟩
  · rcases List.mem_cons.mp hp with rfl | hp
    · refine ⟨hg, fun e => ?_, ?_⟩
      · obtain ⟨o, _, _, hL, _⟩ := F.ns
        have e' : D = L := e
        rw [e', hL] at hD; cases hD
      · cases q : h₀.get? D with
        | none => rfl
        | some o => have := F.keep _ _ q; rw [hD] at this; cases this
    · exact ⟨(hes p hp).1, (hes p hp).2.1, (hes p hp).2.2.1⟩
  · have hqg := (N q hq).1
    rw [← e2] at hqg
    rcases List.mem_cons.mp hp with rfl | hp
    · have h3 : h₁.get? D = some q.2 := hqg
      rw [hD] at h3; cases h3
    · rw [(hes p hp).2.2.2] at hqg; cases hqg
theorem ext_pairs {vl vl2 : List Value} {n n2 : Nat} {Dg D : Addr} {rest : List (Addr × Obj)} {Q : Value → Shared → Prop} (F : Fr h₀ L s.heap m) (N : News h₀ L s.heap ((Dg, W.listOf (List.toArray vl) n) :: rest)) (hb : (D, W.listOf (List.toArray vl2) n2) ∈ rest) (off : ∀ p ∈ rest, p.1 ≠ Dg) (hne : 1 ≤ vl2.length) (hsz : vl.length + vl2.length ≤ 1000)
    (h : ∀ h', Fr h₀ L h' m → News h₀ L h' ((Dg, W.listOf (List.toArray (vl ++ vl2)) (n + 1)) :: rest) → Q .none { s with heap := h' }) : wpAny (model prog w) A (call (.builtin "list.extend") [.ref Dg, .ref D]) Q E s := by
  refine kl_extend (l := vl ++ vl2) F N (List.mem_cons_of_mem _ hb) rfl (by simp; intro e; rw [e] at hne; simp at hne) (Upd.head off) ?_ ?_ ?_ h
  · intro hx
    rw [Bool.and_eq_true] at hx
    have h2 := of_decide_eq_true hx.2
    rw [List.size_toArray, List.size_toArray, PySem.sizeLine_eq] at h2
    omega
  · show vl.length ≤ sizeLine
    rw [PySem.sizeLine_eq]; omega
  · rw [List.size_toArray, List.size_toArray, PySem.sizeLine_eq]; omega
end
def LG (Dg : Addr) (tot : Int) (tt : Tok) (m : Str → Option Value) : Str → Option Value := fun z => if z = "signs" then some (.ref Dg) else if z = "total" then some (.int tot tt) else m z
def Hold (p : Prop) : Prop := p
theorem unHold {p : Prop} (h : Hold p) : p := h
theorem toHold {p : Prop} (h : p) : Hold p := h
def InvU (Dg : Addr) (tot : Int) (tt : Tok) (cc al : Addr × Obj) (I : Addr) (r : List Value) (m' : Str → Option Value) (news : List (Addr × Obj)) : Prop :=
  ∃ (vl : List Value) (n : Nat) (cs : List Nat) (rest : List (Addr × Obj)) (mm : Str → Option Value), m' = LG Dg tot tt mm ∧ news = (Dg, W.listOf (List.toArray vl) n) :: rest ∧ PairsAt rest vl cs ∧ cs.length + 2 * r.length ≤ 36 ∧ (∀ v ∈ r, ∃ y t, v = .int y t ∧ 0 ≤ y ∧ y < 1000000) ∧ (∀ p ∈ rest, p.1 ≠ Dg) ∧ (∀ p ∈ news, p.1 ≠ I) ∧ al ∈ rest ∧ cc ∈ rest
theorem ints_all {P : Int → Prop} : ∀ {vs : List Value} {ns : List Int}, IntsAre vs ns → (∀ x ∈ ns, P x) → ∀ v ∈ vs, ∃ y t, v = .int y t ∧ P y := by
  intro vs ns h
  induction h with
  | nil => intro _ v hv; cases hv
  | cons x t h ih =>
    intro hp v hv
    rcases List.mem_cons.mp hv with rfl | hv
    · exact ⟨_, _, rfl, hp _ (List.mem_cons_self ..)⟩
    · exact ih (fun y hy => hp y (List.mem_cons_of_mem _ hy)) v hv
theorem drawn_ok {xs : List Int} : ∀ x ∈ (List.map (fun k' => Int.fmod k' 1000000) (List.take 8 xs) ++ [6, 2, 3, 0, 11, 1, 62, 0, 4, 0]), 0 ≤ x ∧ x < 1000000 := by
  intro x hx
  rcases List.mem_append.mp hx with hx | hx
  · obtain ⟨k, _, rfl⟩ := List.mem_map.mp hx
    exact ⟨Int.fmod_nonneg_of_pos k (by decide), Int.fmod_lt_of_pos k (by decide)⟩
  · simp only [List.mem_cons, List.not_mem_nil, or_false] at hx
    omega
theorem drawn_len {xs : List Int} : (List.map (fun k' => Int.fmod k' 1000000) (List.take 8 xs) ++ [6, 2, 3, 0, 11, 1, 62, 0, 4, 0]).length ≤ 18 := by
  rw [List.length_append, List.length_map, List.length_take]
  simp only [List.length_cons, List.length_nil]
  omega

end Mine
namespace Mine
def OnGoT (p : Prop) : Prop := p
theorem OnGoT.mk {p : Prop} (h : p) : OnGoT p := h
def TDoneN (h₀ : Heap) (L : Addr) (m : Str → Option Value) (news : List (Addr × Obj)) (s : Shared) (x : Str) (v : Str) (fl : Flow) (s' : Shared) : Prop :=
  ∃ h' tk' t, fl = .next ∧ s' = { s with heap := h', toks := tk' } ∧ Fr h₀ L h' (fun y => if y = x then some (.str v t) else m y) ∧ News h₀ L h' news
theorem TDoneN.intro {h₀ : Heap} {L : Addr} {m : Str → Option Value} {news : List (Addr × Obj)} {s : Shared} {x : Str} {v u : Str} {h' : Heap} {tk' : Nat} {t : Tok} (F : Fr h₀ L h' (fun y => if y = x then some (.str u t) else m y)) (N : News h₀ L h' news) (h : u = v) :
   TDoneN h₀ L m news s x v .next { s with heap := h', toks := tk' } := by subst h; exact ⟨h', tk', t, rfl, rfl, F, N⟩
theorem text_mergeN {w : World} {A : Around} {E : Value → Shared → Prop} {s : Shared} {h₀ : Heap} {L : Addr} {m : Str → Option Value} {news : List (Addr × Obj)} {env : Env} {st : Stmt} {Q : Flow → Shared → Prop} (x : Str) (v : Str) (F : Fr h₀ L s.heap m) (N : News h₀ L s.heap news)
   (cut : wpAny (model PySem.Challenge.rw_tp0048_01.row.prog w) A (exec st env) (TDoneN h₀ L m news s x v) E s)
   (on : OnGoT (∀ h' tk' t, Fr h₀ L h' (fun y => if y = x then some (.str v t) else m y) → News h₀ L h' news → Q .next { s with heap := h', toks := tk' })) : wpAny (model PySem.Challenge.rw_tp0048_01.row.prog w) A (exec st env) Q E s :=
  wpAny_mono cut (fun fl s' ⟨h', tk', t, e1, e2, F', N'⟩ => by rw [e1, e2]; exact on h' tk' t F' N') fun _ _ e => e
def NDone (h₀ : Heap) (L : Addr) (m : Str → Option Value) (news : List (Addr × Obj)) (s : Shared) (fl : Flow) (s' : Shared) : Prop :=
  ∃ h' tk', fl = .next ∧ s' = { s with heap := h', toks := tk' } ∧ Fr h₀ L h' m ∧ News h₀ L h' news
theorem NDone.intro {h₀ : Heap} {L : Addr} {m : Str → Option Value} {news : List (Addr × Obj)} {s : Shared} {h' : Heap} {tk' : Nat} (F : Fr h₀ L h' m) (N : News h₀ L h' news) :
   NDone h₀ L m news s .next { s with heap := h', toks := tk' } := ⟨h', tk', rfl, rfl, F, N⟩
theorem skip_mergeN {w : World} {A : Around} {E : Value → Shared → Prop} {s : Shared} {h₀ : Heap} {L : Addr} {m : Str → Option Value} {news : List (Addr × Obj)} {env : Env} {st : Stmt} {Q : Flow → Shared → Prop} (F : Fr h₀ L s.heap m) (N : News h₀ L s.heap news)
   (cut : wpAny (model PySem.Challenge.rw_tp0048_01.row.prog w) A (exec st env) (NDone h₀ L m news s) E s)
   (on : OnGoT (∀ h' tk' (_ : Tok), Fr h₀ L h' m → News h₀ L h' news → Q .next { s with heap := h', toks := tk' })) : wpAny (model PySem.Challenge.rw_tp0048_01.row.prog w) A (exec st env) Q E s :=
  wpAny_mono cut (fun fl s' ⟨h', tk', e1, e2, F', N'⟩ => by rw [e1, e2]; exact on h' tk' tk' F' N') fun _ _ e => e

section
variable {w : World} {A : Around} {E : Value → Shared → Prop} {s : Shared} {h₀ : Heap} {L : Addr} {m : Str → Option Value} {env : Env}
def PairSrc (A : Around) (h₀ : Heap) (L : Addr) (m : Str → Option Value) (g : Nat → Str) (Q : Value → Shared → Prop) (xv : Value) (s₁ : Shared) : Prop :=
  ∃ S n vl cs news, xv = .ref S ∧ A.handled = none ∧ Fr h₀ L s₁.heap m ∧ News h₀ L s₁.heap news ∧ (S, W.listOf (List.toArray vl) n) ∈ news ∧ PairsAt news vl cs ∧ vl.length ≤ sizeLine ∧
      (∀ D h' tk' ys, Fr h₀ L h' m → News h₀ L h' ((D, PyProof.Rows.LCg.lst ys) :: news) → PyProof.Rows.LCg.Off1 D news → StrsAre ys (cs.map g) → Q (.ref D) { s₁ with heap := h', toks := tk' })
def PairSrcD (prog : Program) (w : World) (A : Around) (h₀ : Heap) (L : Addr) (m : Str → Option Value) (Q : Value → Shared → Prop) (xv : Value) (s₁ : Shared) : Prop :=
  ∃ S n vl cs news, xv = .ref S ∧ A.handled = none ∧ Fr h₀ L s₁.heap m ∧ News h₀ L s₁.heap news ∧ (S, W.listOf (List.toArray vl) n) ∈ news ∧ PairsAt news vl cs ∧ vl.length ≤ sizeLine ∧
      (∀ D h' tk' od kvs, Fr h₀ L h' m → News h₀ L h' ((D, od) :: news) → PyProof.Rows.LCg.Off1 D news → od.IsDictOf (PySem.strKind prog w) kvs → MeanS kvs cs → Q (.ref D) { s₁ with heap := h', toks := tk' })
theorem join_mk {l : List Str} : (Txt.join (Str.ofString "") l).cps.toList = l.flatMap (·.cps.toList) := by
  show (Builtin.Str.glued (Str.ofString "") l).cps.toList = _
  rw [StrLaws.glued_eq_join]
  induction l with
  | nil => rfl
  | cons x r ih =>
    cases r with
    | nil => simp [Str.join]
    | cons y r =>
      have e0 : (Str.ofString "").cps.toList = [] := by decide +kernel
      rw [join_cons2, ih, e0, List.append_nil]
      rfl
theorem typed_eq {cs : List Nat} : Txt.join (Str.ofString "") (cs.map fun c => (⟨#[c]⟩ : Str)) = ⟨⟨cs⟩⟩ := by
  apply Str.ext'
  apply Array.toList_inj.mp
  rw [join_mk]
  induction cs with
  | nil => rfl
  | cons c r ih => rw [List.map_cons, List.flatMap_cons, ih]; rfl
theorem meant_eq {cs : List Nat} : Txt.join (Str.ofString "") (cs.map sen) = ⟨⟨cs.flatMap senL⟩⟩ := by
  apply Str.ext'
  apply Array.toList_inj.mp
  rw [join_mk, List.flatMap_map]
  rfl
theorem sen_len (c : Nat) : (sen c).length ≤ 4 := by
  unfold sen
  split
  · exact b3Of_len c
  · exact Nat.zero_le _
theorem fit_sen (cs : List Nat) (h : cs.length ≤ 200) : ((cs.map sen).map (·.length)).sum + (cs.map sen).length * 64 ≤ 16777216 := by
  have key : ∀ l : List Nat, ((l.map sen).map (·.length)).sum ≤ 4 * l.length := by
    intro l
    induction l with
    | nil => exact Nat.le_refl _
    | cons c r ih =>
      have := sen_len c
      simp only [List.map_cons, List.sum_cons, List.length_cons] at *
      omega
  have := key cs
  rw [List.length_map]
  omega
theorem fit_one (cs : List Nat) (h : cs.length ≤ 200) : ((cs.map fun c => (⟨#[c]⟩ : Str)).map (·.length)).sum + (cs.map fun c => (⟨#[c]⟩ : Str)).length * 64 ≤ 16777216 := by
  have key : ∀ l : List Nat, ((l.map fun c => (⟨#[c]⟩ : Str)).map (·.length)).sum = l.length := by
    intro l
    induction l with
    | nil => rfl
    | cons c r ih =>
      simp only [List.map_cons, List.sum_cons, List.length_cons, ih]
      show 1 + r.length = _
      omega
  rw [key, List.length_map]
  omega
end

end Mine
namespace Mine
theorem keep34 : keepB 34 = true := by decide +kernel
theorem senL_quote : senL 34 = [34] := by unfold senL sen; rw [if_pos keep34, b3_quote]
theorem scanL_app {l x : List Nat} (h : 34 ∉ l) : scanL (l ++ x) = l ++ scanL x := by
  induction l with
  | nil => rfl
  | cons c r ih =>
    have hc : c ≠ 34 := fun e => h (e ▸ List.mem_cons_self ..)
    rw [List.cons_append, scanL_other hc, ih fun m => h (List.mem_cons_of_mem _ m)]
    rfl
/-- the name's sense opens the name of the sense -/
theorem scan_preN : ∀ (n : Nat) (cs : List Nat), cs.length ≤ n → (∀ c ∈ cs, OkC c) → ∃ r, scanL (cs.flatMap senL) = (scanL cs).flatMap senL ++ r
  | _, [], _, _ => ⟨[], rfl⟩
  | 0, c :: t, hn, _ => by simp at hn
  | n + 1, c :: t, hn, h => by
    have hn' : t.length ≤ n := Nat.le_of_succ_le_succ hn
    by_cases e : c = 34
    · subst e
      by_cases e2 : ∃ r, t = 34 :: r
      · obtain ⟨r, e3⟩ := e2
        subst e3
        obtain ⟨q, hq⟩ := scan_preN n r (Nat.le_of_succ_le hn') fun x hx => h x (List.mem_cons_of_mem _ (List.mem_cons_of_mem _ hx))
        refine ⟨q, ?_⟩
        have e4 : (34 :: 34 :: r).flatMap senL = 34 :: 34 :: r.flatMap senL := by simp only [List.flatMap_cons, senL_quote, List.cons_append, List.nil_append]
        rw [e4, scanL_two, scanL_two, hq]
        simp only [List.flatMap_cons, senL_quote, List.cons_append, List.nil_append]
      · rw [scanL_end (fun d r' he => by rintro rfl; exact e2 ⟨r', he⟩)]
        exact ⟨scanL ((34 :: t).flatMap senL), rfl⟩
    · have hq := (h c (List.mem_cons_self ..)).2.2.1 e
      obtain ⟨q, hr⟩ := scan_preN n t hn' fun x hx => h x (List.mem_cons_of_mem _ hx)
      refine ⟨q, ?_⟩
      have e4 : (c :: t).flatMap senL = senL c ++ t.flatMap senL := List.flatMap_cons
      have e5 : (c :: scanL t).flatMap senL = senL c ++ (scanL t).flatMap senL := List.flatMap_cons
      rw [e4, scanL_other e, e5, scanL_app hq, hr, List.append_assoc]
theorem scan_pre (cs : List Nat) (h : ∀ c ∈ cs, OkC c) : ∃ r, scanL (cs.flatMap senL) = (scanL cs).flatMap senL ++ r := scan_preN _ cs (Nat.le_refl _) h
theorem scan_sub : ∀ (cs : List Nat), ∀ c ∈ scanL cs, c ∈ cs
  | [], c, h => by cases h
  | [d], c, h => by
    unfold scanL at h
    split at h
    · cases h
    · exact h
  | a :: b :: r, c, h => by
    unfold scanL at h
    split at h
    · split at h
      · rename_i e1 e2
        rcases List.mem_cons.mp h with rfl | h
        · rw [e1]; exact List.mem_cons_self ..
        · exact List.mem_cons_of_mem _ (List.mem_cons_of_mem _ (scan_sub r c h))
      · cases h
    · rcases List.mem_cons.mp h with rfl | h
      · exact List.mem_cons_self ..
      · exact List.mem_cons_of_mem _ (scan_sub (b :: r) c h)
theorem scan_len : ∀ (cs : List Nat), (scanL cs).length ≤ cs.length
  | [] => Nat.le_refl _
  | [d] => by
    unfold scanL
    split <;> simp
  | a :: b :: r => by
    unfold scanL
    split
    · split
      · have := scan_len r
        simp only [List.length_cons]; omega
      · exact Nat.zero_le _
    · have := scan_len (b :: r)
      simp only [List.length_cons] at *; omega
theorem flat_len : ∀ (cs : List Nat), (cs.flatMap senL).length ≤ 4 * cs.length
  | [] => Nat.le_refl _
  | c :: r => by
    have h1 := flat_len r
    have h2 := sen_len c
    have h3 : (senL c).length = (sen c).length := by unfold senL; simp [Str.length]
    rw [List.flatMap_cons, List.length_append, List.length_cons]
    omega
theorem prepL_flat : ∀ (l : List Nat), (prepL l).flatMap (·.cps.toList) = l.flatMap senL
  | [] => rfl
  | c :: r => by
    have ih := prepL_flat r
    unfold prepL at ih ⊢
    rw [List.filter_cons]
    by_cases h : keepB c = true
    · have hs : senL c = (b3Of c).cps.toList := by unfold senL sen; rw [if_pos h]
      rw [if_pos h]
      simp only [List.map_cons, List.flatMap_cons, ih, hs]
    · have hs : senL c = [] := by unfold senL sen; rw [if_neg h]; rfl
      rw [if_neg h, ih]
      simp only [List.flatMap_cons, hs, List.nil_append]
theorem empty_eq : (Str.ofString "" : Str) = Str.empty := by decide +kernel
theorem prepT_list (x : Str) : (prepT x).cps.toList = x.cps.toList.flatMap senL := by
  unfold prepT
  rw [← empty_eq, join_mk, prepL_flat]
theorem prepT_app (x y : Str) : prepT (x ++ y) = prepT x ++ prepT y := by
  apply str_ext
  rw [prepT_list]
  show (x.cps ++ y.cps).toList.flatMap senL = ((prepT x).cps ++ (prepT y).cps).toList
  rw [Array.toList_append, Array.toList_append, List.flatMap_append, prepT_list, prepT_list]
theorem senL_hid {c : Nat} (h : b1L.contains (c : Int) = true) : senL c = [] := by
  unfold senL sen keepB
  rw [h]
  rfl
theorem prepT_mk (l : List Nat) : prepT ⟨⟨l⟩⟩ = ⟨⟨l.flatMap senL⟩⟩ := str_ext (prepT_list _)
theorem senL_low {c : Nat} (h : c ≤ 180) (hk : keepB c = true) (hl : Txt.lower ⟨#[c]⟩ = ⟨#[c]⟩) : senL c = [c] := by
  unfold senL sen
  rw [if_pos hk, b3_low h, hl]
  first | done | rfl
theorem sl0 : senL 48 = [48] := senL_low (by decide) (by decide +kernel) (by kernel_rfl)
theorem sl2 : senL 50 = [50] := senL_low (by decide) (by decide +kernel) (by kernel_rfl)
theorem sl5 : senL 53 = [53] := senL_low (by decide) (by decide +kernel) (by kernel_rfl)
theorem sl7 : senL 55 = [55] := senL_low (by decide) (by decide +kernel) (by kernel_rfl)
theorem slb : senL 32 = [32] := senL_low (by decide) (by decide +kernel) (by kernel_rfl)
/-- the openings -/
theorem txt_257q : Str.ofString "257 \"" = ⟨⟨[50, 53, 55, 32, 34]⟩⟩ := by decide +kernel
theorem txt_250q : Str.ofString "250 \"" = ⟨⟨[50, 53, 48, 32, 34]⟩⟩ := by decide +kernel
theorem txt_257b : Str.ofString "257 " = ⟨⟨[50, 53, 55, 32]⟩⟩ := by decide +kernel
theorem txt_257 : Str.ofString "257" = ⟨⟨[50, 53, 55]⟩⟩ := by decide +kernel
theorem txt_25 : Str.ofString "25" = ⟨⟨[50, 53]⟩⟩ := by decide +kernel
theorem txt_7bq : Str.ofString "7 \"" = ⟨⟨[55, 32, 34]⟩⟩ := by decide +kernel
theorem txt_bq : Str.ofString " \"" = ⟨⟨[32, 34]⟩⟩ := by decide +kernel
theorem app_mk (a b : List Nat) : (⟨⟨a⟩⟩ : Str) ++ ⟨⟨b⟩⟩ = ⟨⟨a ++ b⟩⟩ := str_ext (by show ((⟨a⟩ : Array Nat) ++ ⟨b⟩).toList = _; rw [Array.toList_append])
theorem one_mk (c : Nat) : (⟨#[c]⟩ : Str) = ⟨⟨[c]⟩⟩ := rfl
theorem prep_r0 (cs : List Nat) : prepT (Str.ofString "257 \"" ++ ⟨⟨cs⟩⟩) = Str.ofString "257 \"" ++ ⟨⟨cs.flatMap senL⟩⟩ := by
  rw [txt_257q, prepT_app, prepT_mk, prepT_mk]
  simp only [List.flatMap_cons, List.flatMap_nil, sl2, sl5, sl7, slb, senL_quote, List.cons_append, List.nil_append]
theorem prep_r1 {c : Nat} (h : b1L.contains (c : Int) = true) (cs : List Nat) : prepT (Str.ofString "257 " ++ ⟨#[c]⟩ ++ Str.ofString "\"" ++ ⟨⟨cs⟩⟩) = Str.ofString "257 \"" ++ ⟨⟨cs.flatMap senL⟩⟩ := by
  rw [txt_257q, txt_257b, quote_eq, one_mk c, one_mk 34, app_mk [50, 53, 55, 32] [c], app_mk ([50, 53, 55, 32] ++ [c]) [34], prepT_app, prepT_mk, prepT_mk, app_mk _ (cs.flatMap senL), app_mk _ (cs.flatMap senL)]
  simp only [List.flatMap_cons, List.flatMap_nil, sl2, sl5, sl7, slb, senL_quote, senL_hid h, List.cons_append, List.nil_append]
theorem prep_r2 {c : Nat} (h : b1L.contains (c : Int) = true) (cs : List Nat) : prepT (Str.ofString "257" ++ ⟨#[c]⟩ ++ Str.ofString " \"" ++ ⟨⟨cs⟩⟩) = Str.ofString "257 \"" ++ ⟨⟨cs.flatMap senL⟩⟩ := by
  rw [txt_257q, txt_257, txt_bq, one_mk c, app_mk [50, 53, 55] [c], app_mk ([50, 53, 55] ++ [c]) [32, 34], prepT_app, prepT_mk, prepT_mk, app_mk _ (cs.flatMap senL), app_mk _ (cs.flatMap senL)]
  simp only [List.flatMap_cons, List.flatMap_nil, sl2, sl5, sl7, slb, senL_quote, senL_hid h, List.cons_append, List.nil_append]
theorem prep_r3 {c : Nat} (h : b1L.contains (c : Int) = true) (cs : List Nat) : prepT (Str.ofString "25" ++ ⟨#[c]⟩ ++ Str.ofString "7 \"" ++ ⟨⟨cs⟩⟩) = Str.ofString "257 \"" ++ ⟨⟨cs.flatMap senL⟩⟩ := by
  rw [txt_257q, txt_25, txt_7bq, one_mk c, app_mk [50, 53] [c], app_mk ([50, 53] ++ [c]) [55, 32, 34], prepT_app, prepT_mk, prepT_mk, app_mk _ (cs.flatMap senL), app_mk _ (cs.flatMap senL)]
  simp only [List.flatMap_cons, List.flatMap_nil, sl2, sl5, sl7, slb, senL_quote, senL_hid h, List.cons_append, List.nil_append]
theorem prep_r4 (cs : List Nat) : prepT (Str.ofString "250 \"" ++ ⟨⟨cs⟩⟩) = Str.ofString "250 \"" ++ ⟨⟨cs.flatMap senL⟩⟩ := by
  rw [txt_250q, prepT_app, prepT_mk, prepT_mk]
  simp only [List.flatMap_cons, List.flatMap_nil, sl2, sl5, sl0, slb, senL_quote, List.cons_append, List.nil_append]
theorem sl3_of {l : List Nat} (h : 3 ≤ l.length) : Txt.slice ⟨⟨l⟩⟩ none (some 3) = ⟨⟨l.take 3⟩⟩ := str_ext (by
  have := slice_nu (x := ⟨⟨l⟩⟩) (j := 3)
  rw [show min 3 (⟨⟨l⟩⟩ : Str).length = 3 from Nat.min_eq_left h] at this
  exact this)
theorem sl35_of {l : List Nat} (h : 5 ≤ l.length) : Txt.slice ⟨⟨l⟩⟩ (some 3) (some 5) = ⟨⟨(l.drop 3).take 2⟩⟩ := str_ext (by
  have := slice_su (x := ⟨⟨l⟩⟩) (i := 3) (j := 5)
  rw [show min 3 (⟨⟨l⟩⟩ : Str).length = 3 from Nat.min_eq_left (Nat.le_trans (by decide) h), show min 5 (⟨⟨l⟩⟩ : Str).length = 5 from Nat.min_eq_left h] at this
  exact this)
theorem hid_low {c : Nat} (h : b1L.contains (c : Int) = true) : c ≠ 55 ∧ c ≠ 32 := by
  constructor
  · rintro rfl; revert h; decide +kernel
  · rintro rfl; revert h; decide +kernel
theorem ne_mk {a b : List Nat} (h : a ≠ b) : ((⟨⟨a⟩⟩ : Str) != ⟨⟨b⟩⟩) = true := by
  rw [bne_iff_ne]
  intro e
  have := congrArg (fun z : Str => z.cps.toList) e
  exact h this
/-- what _law_told needs of a reply that opens with 257 " -/
theorem told_r0 (l : List Nat) (x : Str) (hx0 : x = Str.ofString "257 \"" ++ ⟨⟨l⟩⟩) :
    5 ≤ x.length ∧ (Txt.slice x none (some 3) != Str.ofString "257") = false ∧ (Txt.slice x (some 3) (some 5) != Str.ofString " \"") = false ∧ scanL (x.cps.toList.drop 5) = scanL l := by
  have hx : x = ⟨⟨50 :: 53 :: 55 :: 32 :: 34 :: l⟩⟩ := by rw [hx0, txt_257q, app_mk]; first | done | rfl
  clear hx0
  subst hx
  refine ⟨Nat.le_add_left 5 l.length, ?_, ?_, rfl⟩
  · rw [sl3_of (Nat.le_trans (by decide) (Nat.le_add_left 5 l.length)), txt_257]; exact bne_self_eq_false _
  · rw [sl35_of (l := 50 :: 53 :: 55 :: 32 :: 34 :: l) (Nat.le_add_left 5 l.length), txt_bq]; exact bne_self_eq_false _
theorem told_r1 {c : Nat} (h : b1L.contains (c : Int) = true) (l : List Nat) (x : Str) (hx0 : x = Str.ofString "257 " ++ ⟨#[c]⟩ ++ Str.ofString "\"" ++ ⟨⟨l⟩⟩) :
    (Txt.slice x none (some 3) != Str.ofString "257") = false ∧ (Txt.slice x (some 3) (some 5) != Str.ofString " \"") = true := by
  have hx : x = ⟨⟨50 :: 53 :: 55 :: 32 :: c :: 34 :: l⟩⟩ := by rw [hx0, txt_257b, quote_eq, one_mk, one_mk, app_mk, app_mk, app_mk]; first | done | rfl
  clear hx0
  subst hx
  refine ⟨?_, ?_⟩
  · rw [sl3_of (Nat.le_trans (by decide) (Nat.le_add_left 6 l.length)), txt_257]; exact bne_self_eq_false _
  · rw [sl35_of (Nat.le_trans (by decide) (Nat.le_add_left 6 l.length)), txt_bq]
    refine ne_mk ?_
    intro e
    have : c = 34 := by simpa using e
    subst this
    revert h; decide +kernel
theorem told_r2 {c : Nat} (h : b1L.contains (c : Int) = true) (l : List Nat) (x : Str) (hx0 : x = Str.ofString "257" ++ ⟨#[c]⟩ ++ Str.ofString " \"" ++ ⟨⟨l⟩⟩) :
    (Txt.slice x none (some 3) != Str.ofString "257") = false ∧ (Txt.slice x (some 3) (some 5) != Str.ofString " \"") = true := by
  have hx : x = ⟨⟨50 :: 53 :: 55 :: c :: 32 :: 34 :: l⟩⟩ := by rw [hx0, txt_257, txt_bq, one_mk, app_mk, app_mk, app_mk]; first | done | rfl
  clear hx0
  subst hx
  refine ⟨?_, ?_⟩
  · rw [sl3_of (Nat.le_trans (by decide) (Nat.le_add_left 6 l.length)), txt_257]; exact bne_self_eq_false _
  · rw [sl35_of (Nat.le_trans (by decide) (Nat.le_add_left 6 l.length)), txt_bq]
    refine ne_mk ?_
    intro e
    have : c = 32 := by
      have := congrArg (·[0]?) e
      simpa using this
    exact (hid_low h).2 this
theorem told_r3 {c : Nat} (h : b1L.contains (c : Int) = true) (l : List Nat) : (Txt.slice (Str.ofString "25" ++ ⟨#[c]⟩ ++ Str.ofString "7 \"" ++ ⟨⟨l⟩⟩) none (some 3) != Str.ofString "257") = true := by
  have hx : Str.ofString "25" ++ ⟨#[c]⟩ ++ Str.ofString "7 \"" ++ (⟨⟨l⟩⟩ : Str) = ⟨⟨50 :: 53 :: c :: 55 :: 32 :: 34 :: l⟩⟩ := by rw [txt_25, txt_7bq, one_mk, app_mk, app_mk, app_mk]; first | done | rfl
  rw [hx, sl3_of (Nat.le_trans (by decide) (Nat.le_add_left 6 l.length)), txt_257]
  refine ne_mk ?_
  intro e
  have : c = 55 := by simpa using e
  exact (hid_low h).1 this
theorem told_r4 (l : List Nat) : (Txt.slice (Str.ofString "250 \"" ++ ⟨⟨l⟩⟩) none (some 3) != Str.ofString "257") = true := by
  have hx : Str.ofString "250 \"" ++ (⟨⟨l⟩⟩ : Str) = ⟨⟨50 :: 53 :: 48 :: 32 :: 34 :: l⟩⟩ := by rw [txt_250q, app_mk]; first | done | rfl
  rw [hx, sl3_of (Nat.le_trans (by decide) (Nat.le_add_left 5 l.length)), txt_257]
  refine ne_mk ?_
  intro e
  have : (48 : Nat) = 55 := by simpa using e
  revert this; decide
theorem no_nul {cs : List Nat} (h : ∀ c ∈ cs, OkC c) : 0 ∉ cs ∧ 0 ∉ cs.flatMap senL := by
  refine ⟨fun m => (h 0 m).1 rfl, fun m => ?_⟩
  obtain ⟨c, hc, hm⟩ := List.mem_flatMap.mp m
  exact (h c hc).2.1 hm
theorem before_pre {cs : List Nat} (h : ∀ c ∈ cs, OkC c) : PreOf ⟨⟨(scanL cs).flatMap senL⟩⟩ ⟨⟨scanL (cs.flatMap senL)⟩⟩ := scan_pre cs h
theorem mk_len (l : List Nat) : (⟨⟨l⟩⟩ : Str).length = l.length := rfl
theorem strOk_app {x y : Str} (hx : PyData.strOk x = true) (hy : PyData.strOk y = true) : PyData.strOk (x ++ y) = true := by
  unfold PyData.strOk at *
  show (x.cps ++ y.cps).all _ = true
  rw [Array.all_append, hx, hy]
  rfl
theorem strOk_mk {l : List Nat} (h : ∀ d ∈ l, d < 1114112) : PyData.strOk ⟨⟨l⟩⟩ = true := by
  unfold PyData.strOk
  show (⟨l⟩ : Array Nat).all _ = true
  rw [← Array.all_toList]
  exact List.all_eq_true.mpr fun d hd => decide_eq_true (h d hd)
theorem strOk_cs {cs : List Nat} (h : ∀ c ∈ cs, OkC c) : PyData.strOk ⟨⟨cs⟩⟩ = true := strOk_mk fun d hd => (h d hd).2.2.2.1
theorem strOk_me {cs : List Nat} (h : ∀ c ∈ cs, OkC c) : PyData.strOk ⟨⟨cs.flatMap senL⟩⟩ = true := strOk_mk fun d hd => by
  obtain ⟨c, hc, hm⟩ := List.mem_flatMap.mp hd
  exact (h c hc).2.2.2.2 d hm
theorem strOk_hid {c : Nat} (h : b1L.contains (c : Int) = true) : PyData.strOk ⟨#[c]⟩ = true := strOk_mk (l := [c]) fun d hd => by
  have hmx : ∀ k ∈ b1L, k < 1114112 := by decide +kernel
  have hmc := hmx _ (List.contains_iff_mem.mp h)
  rw [List.mem_singleton.mp hd]
  omega
theorem ok_250q : PyData.strOk (Str.ofString "250 \"") = true := by decide +kernel
theorem ok_25 : PyData.strOk (Str.ofString "25") = true := by decide +kernel
theorem ok_7bq : PyData.strOk (Str.ofString "7 \"") = true := by decide +kernel

end Mine
namespace Mine
theorem fsi_name {a : Str} {p : Pos} {env : Env} : ∀ x, foldedSetIterable (.Name a p) env x = pure x := fun _ => rfl
theorem ne_beq {a b : Str} (h : (a == b) = false) : a ≠ b := fun e => by subst e; simp at h
section
variable {prog : Program} {w : World} {A₀ A : Around} {s : Shared} {base h₀ g₀ : Heap} {L : Addr} {m : Str → Option Value} {env : Env} {news : List (Addr × Obj)} {K : Frag} {p : Program} {loose : List Str} {mean : ExcName → Option Value} {mg mb : Str → Option Value}
theorem kts_enterC (B : Below A₀ base [] h₀) (F : Fr h₀ L s.heap m) (N : News h₀ L s.heap news) (hA : A.frames = some [env]) (hf : env.frame = some L) (hk : env.scope.kind ≠ .module) :
    ∃ oL es ep, (hideAll s.heap (news.map (·.1))).get? L = some oL ∧ oL.data = .dict es ep ∧ (∀ h', h'.get? L = some oL → Heap.Ns h' L m) ∧ (∀ (sl : Array (Option Value)) h', h'.get? L = some { oL with slots := sl } → Heap.Ns h' L m) ∧
      h₀.StaysIn (hideAll s.heap (news.map (·.1))) ∧ Below A base [env] (hideAll s.heap (news.map (·.1))) := by
  have nm : ∀ b o, h₀.get? b = some o → b ∉ news.map (·.1) := fun b o e q => by
    obtain ⟨p, hp, rfl⟩ := List.mem_map.mp q
    rw [(N p hp).2.2] at e; cases e
  have st : h₀.StaysIn (hideAll s.heap (news.map (·.1))) := fun b o e => hideAll_get _ (F.keep b o e) (nm b o e)
  obtain ⟨oL, es, ep, hL, hLd, hLk, hLf⟩ := F.ns
  have nL : L ∉ news.map (·.1) := fun q => by
    obtain ⟨p, hp, e⟩ := List.mem_map.mp q
    exact (N p hp).2.1 e
  have hLg := hideAll_get (news.map (·.1)) hL nL
  have hnew : base.get? L = none := by
    cases hq : base.get? L with
    | none => rfl
    | some o => exact absurd (Nat.lt_of_lt_of_le (Heap.lt_size (B.stays L o hq)) F.above) (Nat.lt_irrefl _)
  have fr : (hideAll s.heap (news.map (·.1))).FunFrames base [env] := Heap.FunFrames.cons hk hf ⟨oL, es, ep, hLg, hLd, hLk, hLf⟩ hnew trivial
  exact ⟨oL, es, ep, hLg, hLd, fun h' e => ⟨oL, es, ep, e, hLd, hLk, hLf⟩, fun sl h' e => ⟨_, es, ep, e, hLd, hLk, hLf⟩, st, ⟨hA, fun b o e => st b o (B.stays b o e), fr⟩⟩
theorem code_defC {R : Result → Shared → Prop} {name qual : Str} {params : Arguments} {body : List Stmt} {scope : Scope} {dV kV doc pm cdv ct oc : Value} {an od : Option Addr} {osl : Array (Option Value)} {f : Addr} {args : Args} {binds : List (Str × Value)}
    (B : Below A₀ base [] h₀) (F : Fr h₀ L s.heap m) (X₀ : K.In h₀) (N : News h₀ L s.heap news) (T : Top p loose mean mg mb h₀) (hA : A.frames = some [env]) (hf : env.frame = some L) (hke : env.scope.kind ≠ .module)
    (ho : K.lookup f = some ⟨oc, od, .func (fnOf name qual params body scope dV kV doc pm an cdv ct), osl⟩) (hcd : codeIn K cdv qual = true) (hroom : A.depth < recursionLimit)
    (hbind : BindsTo s (fnOf name qual params body scope dV kV doc pm an cdv ct) args binds) (hloc : ∀ y ∈ binds, scope.names.lookup y.1 = some .local)
    (h : ∀ g L' h₁, Fr h₀ L g m → Fr g L' h₁ (fun y => binds.reverse.lookup y) → News g L' h₁ news → Below A base [env] g → K.In g → Top p loose mean mg mb g → KtsDicts ([env].filterMap (·.frame)) g →
      wpAny (model prog w) (A.deeper (envOf qual scope L' f cdv)) (execs body (envOf qual scope L' f cdv))
        (fun fl s' => LeaveS0 ([env].filterMap (·.frame)) h₀ L m g R (match fl with | .ret v => v | _ => .none) s')
        (fun e s' => wpAny (model prog w) (A.deeper (envOf qual scope L' f cdv)) (leaving (envOf qual scope L' f cdv) e) (fun _ s'' => R (.error e) s'') (fun e' s'' => R (.error e') s'') s')
        { s with heap := h₁, toks := s.toks + binds.length })
    (hco : scope.isCoroutine = false) (hgen : scope.isGenerator = false) (hk : scope.kind = .function)
    (hcell : ∀ x ∈ scope.names, x.2 ≠ .cell) : codeAny (model prog w) A (.call (.ref f) args) R s := by
  have X := X₀.keeps F.keep
  have mem1 : ∀ b, b ∈ [env].filterMap (·.frame) → b = L := fun b hb => by
    have : [env].filterMap (·.frame) = [L] := by simp [hf]
    rw [this] at hb
    exact List.mem_singleton.mp hb
  refine codeAny_call_def (fd := fnOf name qual params body scope dV kV doc pm an cdv ct) (body := body) (binds := binds) hroom (X _ _ ho) rfl (T.nolimit.keeps F.keep) (codeRec_of X hcd) rfl hbind hcell hloc (fun h₁ hns hk₁ => ?_) hco hgen hk
  obtain ⟨oL, es, ep, hLg, hLd, hN, hNs, st, B₂⟩ := kts_enterC B F N hA hf hke
  refine wpAny_mono (h _ s.heap.objs.size h₁ ⟨hN _ hLg, st, F.above⟩ ⟨hns, fun b o e => hk₁ b o (of_hideAll _ e), Nat.le_of_eq (hideAll_size _ _)⟩
    (fun p hp => ⟨hk₁ _ _ (N p hp).1, Nat.ne_of_lt (Heap.lt_size (N p hp).1), hideAll_none _ (List.mem_map_of_mem hp)⟩) B₂ (X₀.keeps st) (T.keeps st) (fun b hb => by
      rw [mem1 b hb]; exact ⟨oL, es, ep, hLg, hLd⟩)) (fun fl s' hl => ?_) fun _ _ y => y
  obtain ⟨g', L', m', news', T', F', N', k⟩ := hl
  have nL₀ : h₀.get? L = none := kts_self F
  obtain ⟨sl, hs⟩ := T'.up hLg
  refine k ⟨hNs sl _ (F'.keep _ _ hs), fun b o e => F'.keep b o (T'.other b o (st b o e) (fun q => by
    rw [mem1 b q, nL₀] at e; cases e)), F.above⟩ fun p hp => ⟨(N' p hp).1, fun q => ?_, ?_⟩
  · have := (N' p hp).2.2; rw [q, hs] at this; cases this
  · cases q : h₀.get? p.1 with
    | none => rfl
    | some o =>
      obtain ⟨sl', hs'⟩ := T'.up (st _ _ q)
      have := (N' p hp).2.2
      rw [hs'] at this
      cases this
end
def TR (w : World) (A : Around) (E : Value → Shared → Prop) (env : Env) (h₀ : Heap) (sh : Shared) : Prop :=
  ∀ (x : Str) (t : Tok) (hp : Heap) (tk : Nat) (m : Str → Option Value) (news : List (Addr × Obj)) (Q : Value → Shared → Prop), x.length < 1000 → (Txt.slice x none (some 3) != Str.ofString "257") = true →
    Fr h₀ env.locals hp m → News h₀ env.locals hp news → (∀ D h' tk' t', Fr h₀ env.locals h' m → News h₀ env.locals h' ((D, W.listOf #[.str x t'] 0) :: news) → Q (.ref D) { sh with heap := h', toks := tk' }) →
    wpAny (model PySem.Challenge.rw_tp0048_01.row.prog w) A (call (.ref 152) [.str x t]) Q E { sh with heap := hp, toks := tk }
def UDone (h₀ : Heap) (L : Addr) (Dg : Addr) (tot : Int) (tt : Tok) (ow : Obj) (s : Shared) (fl : Flow) (s' : Shared) : Prop :=
  ∃ (h' : Heap) (tk' : Nat) (m' : Str → Option Value) (vl : List Value) (n : Nat) (cs : List Nat) (rest : List (Addr × Obj)), fl = .next ∧ s' = { s with heap := h', toks := tk' } ∧ Fr h₀ L h' (LG Dg tot tt m') ∧ News h₀ L h' ((Dg, W.listOf (List.toArray vl) n) :: rest) ∧ PairsAt rest vl cs ∧ cs.length ≤ 200 ∧ (h₀.objs.size + 1, ow) ∈ rest
def TurnU (w : World) (A : Around) (E : Value → Shared → Prop) (env : Env) (h₀ : Heap) (sh : Shared) (st : Stmt) : Prop :=
  ∀ (Dg Ds : Addr) (tot : Int) (tt : Tok) (kg : Nat) (ow : Obj) (vs : List Value) (xs : List Int) (hp : Heap) (tk : Nat) (m : Str → Option Value), h₀.IsList Ds vs.toArray → IntsAre vs xs → PyData.layable0 (.list (xs.map PyData.int)) = true → m "script" = some (.ref Ds) → @LT.lt Nat _ (h₀.objs.size + 1) Dg →
    Fr h₀ env.locals hp (LG Dg tot tt m) → News h₀ env.locals hp [(Dg, W.listOf #[] kg), (h₀.objs.size + 1, ow)] →
    wpAny (model PySem.Challenge.rw_tp0048_01.row.prog w) A (exec st env) (UDone h₀ env.locals Dg tot tt ow { sh with heap := hp, toks := tk }) E { sh with heap := hp, toks := tk }
def TurnTy (w : World) (A : Around) (E : Value → Shared → Prop) (env : Env) (h₀ : Heap) (sh : Shared) (st : Stmt) : Prop :=
  ∀ (Dg : Addr) (tot : Int) (tt : Tok) (vl : List Value) (n : Nat) (cs : List Nat) (rest : List (Addr × Obj)) (hp : Heap) (tk : Nat) (m : Str → Option Value), PairsAt rest vl cs → cs.length ≤ 200 → Fr h₀ env.locals hp (LG Dg tot tt m) → News h₀ env.locals hp ((Dg, W.listOf (List.toArray vl) n) :: rest) →
    wpAny (model PySem.Challenge.rw_tp0048_01.row.prog w) A (exec st env) (TDoneN h₀ env.locals (LG Dg tot tt m) ((Dg, W.listOf (List.toArray vl) n) :: rest) { sh with heap := hp, toks := tk } "typed" ⟨⟨cs⟩⟩) E { sh with heap := hp, toks := tk }
def TurnMe (w : World) (A : Around) (E : Value → Shared → Prop) (env : Env) (h₀ : Heap) (sh : Shared) (st : Stmt) : Prop :=
  ∀ (Dg : Addr) (tot : Int) (tt : Tok) (vl : List Value) (n : Nat) (cs : List Nat) (rest : List (Addr × Obj)) (hp : Heap) (tk : Nat) (m : Str → Option Value), PairsAt rest vl cs → cs.length ≤ 200 → Fr h₀ env.locals hp (LG Dg tot tt m) → News h₀ env.locals hp ((Dg, W.listOf (List.toArray vl) n) :: rest) →
    wpAny (model PySem.Challenge.rw_tp0048_01.row.prog w) A (exec st env) (TDoneN h₀ env.locals (LG Dg tot tt m) ((Dg, W.listOf (List.toArray vl) n) :: rest) { sh with heap := hp, toks := tk } "meant" ⟨⟨cs.flatMap senL⟩⟩) E { sh with heap := hp, toks := tk }
def MDone (prog : Program) (w : World) (h₀ : Heap) (L : Addr) (m : Str → Option Value) (cs : List Nat) (s : Shared) (fl : Flow) (s' : Shared) : Prop :=
  ∃ (h' : Heap) (tk' : Nat) (ow' od : Obj) (Dm : Addr) (kvs : List (Str × Value)), fl = .next ∧ s' = { s with heap := h', toks := tk' } ∧ Fr h₀ L h' m ∧ News h₀ L h' [(h₀.objs.size + 1, ow'), (Dm, od)] ∧ ow'.data = Data.cell (some (.ref Dm)) ∧ od.IsDictOf (PySem.strKind prog w) kvs ∧ MeanS kvs cs
def TurnMg (w : World) (A : Around) (E : Value → Shared → Prop) (env : Env) (h₀ : Heap) (sh : Shared) (st : Stmt) : Prop :=
  ∀ (Dg : Addr) (tot : Int) (tt : Tok) (vl : List Value) (n : Nat) (cs : List Nat) (rest : List (Addr × Obj)) (ow : Obj) (cc : Option Value) (hp : Heap) (tk : Nat) (m : Str → Option Value), PairsAt rest vl cs → cs.length ≤ 200 → (h₀.objs.size + 1, ow) ∈ rest → ow.data = Data.cell cc → Fr h₀ env.locals hp (LG Dg tot tt m) → News h₀ env.locals hp ((Dg, W.listOf (List.toArray vl) n) :: rest) →
    wpAny (model PySem.Challenge.rw_tp0048_01.row.prog w) A (exec st env) (MDone PySem.Challenge.rw_tp0048_01.row.prog w h₀ env.locals (LG Dg tot tt m) cs { sh with heap := hp, toks := tk }) E { sh with heap := hp, toks := tk }

def TurnTl (w : World) (A : Around) (E : Value → Shared → Prop) (env : Env) (h₀ : Heap) (sh : Shared) (Q : Flow → Shared → Prop) (r : List Stmt) : Prop :=
  ∀ (Dg : Addr) (tot : Int) (tt t1 t2 : Tok) (cs : List Nat) (Dm : Addr) (ow od : Obj) (kvs : List (Str × Value)) (hp : Heap) (tk : Nat) (m : Str → Option Value), (∀ c ∈ cs, OkC c) → cs.length ≤ 200 → m "typed" = some (.str ⟨⟨cs⟩⟩ t1) → m "meant" = some (.str ⟨⟨cs.flatMap senL⟩⟩ t2) → ow.data = Data.cell (some (.ref Dm)) → od.IsDictOf (PySem.strKind PySem.Challenge.rw_tp0048_01.row.prog w) kvs → MeanS kvs cs →
    Fr h₀ env.locals hp (LG Dg tot tt m) → News h₀ env.locals hp [(h₀.objs.size + 1, ow), (Dm, od)] → wpAny (model PySem.Challenge.rw_tp0048_01.row.prog w) A (execs r env) Q E { sh with heap := hp, toks := tk }
theorem LG_push {Dg : Addr} {tot : Int} {tt : Tok} {m : Str → Option Value} {x : Str} {v : Option Value} (h1 : x ≠ "signs") (h2 : x ≠ "total") : (fun y => if y = x then v else LG Dg tot tt m y) = LG Dg tot tt (fun y => if y = x then v else m y) := by
  funext y
  unfold LG
  by_cases hy : y = x
  · subst hy; rw [if_pos rfl, if_neg h1, if_neg h2]; exact (if_pos rfl).symm
  · rw [if_neg hy]
    split
    · rfl
    · split
      · rfl
      · exact (if_neg hy).symm
theorem LG_pushF {h₀ h : Heap} {L : Addr} {Dg : Addr} {tot : Int} {tt : Tok} {m : Str → Option Value} {x : Str} {v : Option Value} (F : Fr h₀ L h (fun y => if y = x then v else LG Dg tot tt m y)) (h1 : (x == ("signs" : Str)) = false) (h2 : (x == ("total" : Str)) = false) : Fr h₀ L h (LG Dg tot tt (fun y => if y = x then v else m y)) := by
  rw [← LG_push (ne_beq h1) (ne_beq h2)]; exact F
theorem LG_at {Dg : Addr} {tot : Int} {tt : Tok} {m : Str → Option Value} {x : Str} (h1 : (x == ("signs" : Str)) = false) (h2 : (x == ("total" : Str)) = false) : LG Dg tot tt m x = m x := by
  unfold LG
  rw [if_neg (ne_beq h1), if_neg (ne_beq h2)]
theorem if_off {α : Type} {x y : Str} {a b : α} (h : (x == y) = false) : (if x = y then a else b) = b := if_neg (ne_beq h)
def TurnH (w : World) (A : Around) (E : Value → Shared → Prop) (env : Env) (h₀ : Heap) (sh : Shared) (Q : Flow → Shared → Prop) (r : List Stmt) : Prop :=
  ∀ (Dg Ds : Addr) (tot : Int) (tt : Tok) (kg : Nat) (ow : Obj) (cc : Option Value) (vs : List Value) (xs : List Int) (hp : Heap) (tk : Nat) (m : Str → Option Value), h₀.IsList Ds vs.toArray → IntsAre vs xs → PyData.layable0 (.list (xs.map PyData.int)) = true → m "script" = some (.ref Ds) → @LT.lt Nat _ (h₀.objs.size + 1) Dg → ow.data = Data.cell cc →
    Fr h₀ env.locals hp (LG Dg tot tt m) → News h₀ env.locals hp [(Dg, W.listOf #[] kg), (h₀.objs.size + 1, ow)] → wpAny (model PySem.Challenge.rw_tp0048_01.row.prog w) A (execs r env) Q E { sh with heap := hp, toks := tk }
theorem turnH_of {w : World} {A : Around} {E : Value → Shared → Prop} {env : Env} {h₀ : Heap} {sh : Shared} {Q : Flow → Shared → Prop} {a2 a3 a4 a5 : Stmt} {r : List Stmt} (hU : TurnU w A E env h₀ sh a2) (h1 : TurnTy w A E env h₀ sh a3) (h2 : TurnMe w A E env h₀ sh a4) (h3 : TurnMg w A E env h₀ sh a5) (hT : TurnTl w A E env h₀ sh Q r) :
    TurnH w A E env h₀ sh Q (a2 :: a3 :: a4 :: a5 :: r) := by
  intro Dg Ds tot tt kg ow cc vs xs hp tk m hL hI hl hs hlt hc F N
  refine wpAny_execs_cons (wpAny_mono (hU Dg Ds tot tt kg ow vs xs hp tk m hL hI hl hs hlt F N) (fun fl s' hq => ?_) fun _ _ e => e)
  obtain ⟨h', tk', m', vl, n, cs, rest, rfl, rfl, F1, N1, hP, hB, hm⟩ := hq
  try dsimp only
  refine wpAny_execs_cons (wpAny_mono (h1 Dg tot tt vl n cs rest h' tk' m' hP hB F1 N1) (fun fl s' hq => ?_) fun _ _ e => e)
  obtain ⟨h2', tk2, t1, rfl, rfl, F2, N2⟩ := hq
  replace F2 := LG_pushF (x := "typed") F2 (by decide) (by decide)
  try dsimp only
  refine wpAny_execs_cons (wpAny_mono (h2 Dg tot tt vl n cs rest h2' tk2 _ hP hB F2 N2) (fun fl s' hq => ?_) fun _ _ e => e)
  obtain ⟨h3', tk3, t2, rfl, rfl, F3, N3⟩ := hq
  replace F3 := LG_pushF (x := "meant") F3 (by decide) (by decide)
  try dsimp only
  refine wpAny_execs_cons (wpAny_mono (h3 Dg tot tt vl n cs rest ow cc h3' tk3 _ hP hB hm hc F3 N3) (fun fl s' hq => ?_) fun _ _ e => e)
  obtain ⟨h4', tk4, ow', od, Dm, kvs, rfl, rfl, F4, N4, hc', hod, hM⟩ := hq
  try dsimp only
  exact hT Dg tot tt t1 t2 cs Dm ow' od kvs h4' tk4 _ hP.ok hB ((if_off (x := "typed") (y := "meant") (by decide)).trans (if_pos rfl)) (if_pos rfl) hc' hod hM F4 N4
theorem with_all {w : World} {A : Around} {E : Value → Shared → Prop} {env : Env} {s : Shared} {h₀ : Heap} {sh : Shared} {Q : Flow → Shared → Prop} {a0 a1 a2 a3 a4 a5 : Stmt} {r : List Stmt} (hR : TR w A E env h₀ sh) (hU : TurnU w A E env h₀ sh a2) (h1 : TurnTy w A E env h₀ sh a3) (h2 : TurnMe w A E env h₀ sh a4) (h3 : TurnMg w A E env h₀ sh a5) (hT : TR w A E env h₀ sh → TurnTl w A E env h₀ sh Q r)
    (on : TurnH w A E env h₀ sh Q (a2 :: a3 :: a4 :: a5 :: r) → wpAny (model PySem.Challenge.rw_tp0048_01.row.prog w) A (execs (a0 :: a1 :: a2 :: a3 :: a4 :: a5 :: r) env) Q E s) : wpAny (model PySem.Challenge.rw_tp0048_01.row.prog w) A (execs (a0 :: a1 :: a2 :: a3 :: a4 :: a5 :: r) env) Q E s :=
  on (turnH_of hU h1 h2 h3 (hT hR))

end Mine
namespace Mine
/-- what the tail calls, told of opaque texts -/
structure TlC (w : World) (ty me nm bf af : Str) : Prop where
  lty : ty.length ≤ 200
  lme : me.length ≤ 800
  lnm : nm.length ≤ 200
  lbf : bf.length ≤ 800
  laf : af.length ≤ 800
  n1 : ∀ t, SC 8 w 145 [.str ty t] noPre (RS nm)
  n2 : ∀ t, SC 8 w 145 [.str me t] noPre (RS af)
  pn : ∀ t, SC 16 w 157 [.str nm t] noPre (RS bf)
  p0 : ∀ t, SC 16 w 157 [.str (Str.ofString "257 \"" ++ ty) t] noPre (RS (Str.ofString "257 \"" ++ me))
  p4 : ∀ t, SC 16 w 157 [.str (Str.ofString "250 \"" ++ ty) t] noPre (RS (Str.ofString "250 \"" ++ me))
  t0 : ∀ t, SC 12 w 152 [.str (Str.ofString "257 \"" ++ ty) t] noPre (RS nm)
  tm : ∀ t, SC 12 w 152 [.str (Str.ofString "257 \"" ++ me) t] noPre (RS af)
  r4 : (Txt.slice (Str.ofString "250 \"" ++ ty) none (some 3) != Str.ofString "257") = true
  r5 : (Txt.slice (Str.ofString "250 \"" ++ me) none (some 3) != Str.ofString "257") = true
  s4 : PyData.strOk (Str.ofString "250 \"" ++ ty) = true
  s5 : PyData.strOk (Str.ofString "250 \"" ++ me) = true
  v1 : ∀ t u n tn, SC 16 w 124 [.str bf t, .str af u, .int n tn] noPre (RI (2 * ((af.length : Int) - bf.length)))
  v2 : ∀ t u n tn, SC 16 w 124 [.str af t, .str bf u, .int n tn] noPre (RI (2 * ((af.length : Int) - bf.length)))
/-- the same for the openings that bear a hidden sign -/
structure TlH (w : World) (hd ty me : Str) : Prop where
  lh : hd.length = 1
  p1 : ∀ t, SC 16 w 157 [.str (Str.ofString "257 " ++ hd ++ Str.ofString "\"" ++ ty) t] noPre (RS (Str.ofString "257 \"" ++ me))
  p2 : ∀ t, SC 16 w 157 [.str (Str.ofString "257" ++ hd ++ Str.ofString " \"" ++ ty) t] noPre (RS (Str.ofString "257 \"" ++ me))
  p3 : ∀ t, SC 16 w 157 [.str (Str.ofString "25" ++ hd ++ Str.ofString "7 \"" ++ ty) t] noPre (RS (Str.ofString "257 \"" ++ me))
  t1 : ∀ t, SC 12 w 152 [.str (Str.ofString "257 " ++ hd ++ Str.ofString "\"" ++ ty) t] noPre (RS (Str.ofString ""))
  t2 : ∀ t, SC 12 w 152 [.str (Str.ofString "257" ++ hd ++ Str.ofString " \"" ++ ty) t] noPre (RS (Str.ofString ""))
  r3 : (Txt.slice (Str.ofString "25" ++ hd ++ Str.ofString "7 \"" ++ ty) none (some 3) != Str.ofString "257") = true
  s3 : PyData.strOk (Str.ofString "25" ++ hd ++ Str.ofString "7 \"" ++ ty) = true
theorem len_app (x y : Str) : (x ++ y).length = x.length + y.length := by show (x.cps ++ y.cps).size = _; rw [Array.size_append]; rfl
theorem len_257q : (Str.ofString "257 \"").length = 5 := by decide +kernel
theorem len_250q : (Str.ofString "250 \"").length = 5 := by decide +kernel
theorem len_257b : (Str.ofString "257 ").length = 4 := by decide +kernel
theorem len_257 : (Str.ofString "257").length = 3 := by decide +kernel
theorem len_25 : (Str.ofString "25").length = 2 := by decide +kernel
theorem len_7bq : (Str.ofString "7 \"").length = 3 := by decide +kernel
theorem len_bq : (Str.ofString " \"").length = 2 := by decide +kernel
theorem len_q : (Str.ofString "\"").length = 1 := by decide +kernel
theorem tlc_of (w : World) {cs : List Nat} (h : ∀ c ∈ cs, OkC c) (hB : cs.length ≤ 200) : TlC w ⟨⟨cs⟩⟩ ⟨⟨cs.flatMap senL⟩⟩ ⟨⟨scanL cs⟩⟩ ⟨⟨(scanL cs).flatMap senL⟩⟩ ⟨⟨scanL (cs.flatMap senL)⟩⟩ := by
  have l1 := flat_len cs
  have l2 := scan_len cs
  have l3 := flat_len (scanL cs)
  have l4 := scan_len (cs.flatMap senL)
  have z := no_nul h
  have e1 : (⟨⟨cs⟩⟩ : Str).length = cs.length := rfl
  have e2 : (⟨⟨cs.flatMap senL⟩⟩ : Str).length = (cs.flatMap senL).length := rfl
  have e3 : (⟨⟨scanL cs⟩⟩ : Str).length = (scanL cs).length := rfl
  have e4 : (⟨⟨(scanL cs).flatMap senL⟩⟩ : Str).length = ((scanL cs).flatMap senL).length := rfl
  have e5 : (⟨⟨scanL (cs.flatMap senL)⟩⟩ : Str).length = (scanL (cs.flatMap senL)).length := rfl
  have a0 : (Str.ofString "257 \"" ++ (⟨⟨cs⟩⟩ : Str)).length < 1000 := by rw [len_app, len_257q]; omega
  have a1 : (Str.ofString "257 \"" ++ (⟨⟨cs.flatMap senL⟩⟩ : Str)).length < 1000 := by rw [len_app, len_257q]; omega
  have a4 : (Str.ofString "250 \"" ++ (⟨⟨cs⟩⟩ : Str)).length < 1000 := by rw [len_app, len_250q]; omega
  have k0 := told_r0 cs _ rfl
  have k1 := told_r0 (cs.flatMap senL) _ rfl
  have pre := before_pre h
  have q1 : (⟨⟨scanL cs⟩⟩ : Str).length < 1000 := by omega
  have q2 : (⟨⟨(scanL cs).flatMap senL⟩⟩ : Str).length < 1000 := by omega
  have q3 : (⟨⟨scanL (cs.flatMap senL)⟩⟩ : Str).length < 1000 := by omega
  refine ⟨by omega, by omega, by omega, by omega, by omega, fun t => c_name w _ t (by omega) z.1, fun t => c_name w _ t (by omega) z.2, fun t => ?_, fun t => ?_, fun t => ?_, fun t => ?_, fun t => ?_, told_r4 _, told_r4 _, strOk_app ok_250q (strOk_cs h), strOk_app ok_250q (strOk_me h), fun t u n tn => c_levp w _ _ n t u tn q2 q3 pre, fun t u n tn => ?_⟩
  · have := c_prep w ⟨⟨scanL cs⟩⟩ t q1
    rw [prepT_mk] at this
    exact this
  · have := c_prep w _ t a0
    rw [prep_r0] at this
    exact this
  · have := c_prep w _ t a4
    rw [prep_r4] at this
    exact this
  · have := c_told1 w _ t a0 k0.1 k0.2.1 k0.2.2.1
    rw [k0.2.2.2] at this
    exact this
  · have := c_told1 w _ t a1 k1.1 k1.2.1 k1.2.2.1
    rw [k1.2.2.2] at this
    exact this
  · exact c_levq w _ _ n t u tn q3 q2 pre
theorem tlh_of (w : World) {c : Nat} {cs : List Nat} (hb : b1L.contains (c : Int) = true) (h : ∀ c ∈ cs, OkC c) (hB : cs.length ≤ 200) : TlH w ⟨#[c]⟩ ⟨⟨cs⟩⟩ ⟨⟨cs.flatMap senL⟩⟩ := by
  have e1 : (⟨⟨cs⟩⟩ : Str).length = cs.length := rfl
  have e2 : (⟨#[c]⟩ : Str).length = 1 := rfl
  have a1 : (Str.ofString "257 " ++ ⟨#[c]⟩ ++ Str.ofString "\"" ++ (⟨⟨cs⟩⟩ : Str)).length < 1000 := by rw [len_app, len_app, len_app, len_257b, len_q]; omega
  have a2 : (Str.ofString "257" ++ ⟨#[c]⟩ ++ Str.ofString " \"" ++ (⟨⟨cs⟩⟩ : Str)).length < 1000 := by rw [len_app, len_app, len_app, len_257, len_bq]; omega
  have a3 : (Str.ofString "25" ++ ⟨#[c]⟩ ++ Str.ofString "7 \"" ++ (⟨⟨cs⟩⟩ : Str)).length < 1000 := by rw [len_app, len_app, len_app, len_25, len_7bq]; omega
  have k1 := told_r1 hb cs _ rfl
  have k2 := told_r2 hb cs _ rfl
  refine ⟨rfl, fun t => ?_, fun t => ?_, fun t => ?_, fun t => c_told2 w _ t a1 k1.1 k1.2, fun t => c_told2 w _ t a2 k2.1 k2.2, told_r3 hb cs, strOk_app (strOk_app (strOk_app ok_25 (strOk_hid hb)) ok_7bq) (strOk_cs h)⟩
  · have := c_prep w _ t a1
    rw [prep_r1 hb] at this
    exact this
  · have := c_prep w _ t a2
    rw [prep_r2 hb] at this
    exact this
  · have := c_prep w _ t a3
    rw [prep_r3 hb] at this
    exact this
theorem one_ne {prog : Program} {w : World} {A : Around} {E : Value → Shared → Prop} {s : Shared} {h₀ : Heap} {L : Addr} {news : List (Addr × Obj)} {a b : Addr} {x : Str} {t u : Tok} {n k : Nat} {Q : Value → Shared → Prop} (N : News h₀ L s.heap news) (h1 : (a, W.listOf #[.str x t] n) ∈ news) (h2 : (b, W.listOf #[.str x u] k) ∈ news) (hx : PyData.strOk x = true) (hu : A.units + 64 < cLine) (h : Q (.bool false) s) :
    wpAny (model prog w) A (compareOp .NotEq (.ref a) (.ref b)) Q E s := by
  have sh : SeqAt.shaped (.list [.str x]) = true := by simp [SeqAt.shaped, PyData.canLay0, PyData.canLayAll0, PyData.depth, PyData.depthAll, hx]
  refine ne_dataH (reads_list_at (News.get N h1) rfl rfl (.cons (Reads.str _ _) .nil)) (reads_list_at (News.get N h2) rfl rfl (.cons (Reads.str _ _) .nil)) sh sh hu ?_
  have : PyData.eqv (.list [.str x]) (.list [.str x]) = true := by simp [PyData.eqv, PyData.eqvAll]
  rw [this]
  exact h
theorem senses_eq {cs : List Nat} : Txt.join (Str.ofString "") ((scanL cs).map sen) = ⟨⟨(scanL cs).flatMap senL⟩⟩ := meant_eq
theorem tl_all (w : World) {cs : List Nat} {kvs : List (Str × Value)} (h : ∀ c ∈ cs, OkC c) (hB : cs.length ≤ 200) (hM : MeanS kvs cs) : ∃ ty me nm bf af : Str, ty = ⟨⟨cs⟩⟩ ∧ me = ⟨⟨cs.flatMap senL⟩⟩ ∧ TlC w ty me nm bf af ∧ (∀ c : Nat, b1L.contains (c : Int) = true → TlH w ⟨#[c]⟩ ty me) ∧
    (∀ c ∈ nm.cps.toList, ∃ u, valueAt kvs ⟨#[c]⟩ = some (.str (sen c) u)) ∧ Txt.join (Str.ofString "") (nm.cps.toList.map sen) = bf ∧ ((nm.cps.toList.map sen).map (·.length)).sum + (nm.cps.toList.map sen).length * 64 ≤ 16777216 :=
  ⟨_, _, _, _, _, rfl, rfl, tlc_of w h hB, fun _ hb => tlh_of w hb h hB, fun c hc => hM c (scan_sub cs c hc), senses_eq, fit_sen _ (Nat.le_trans (scan_len cs) hB)⟩

end Mine
namespace Mine
section
variable {prog : Program} {w : World} {A : Around} {E : Value → Shared → Prop} {s : Shared} {h₀ : Heap} {L : Addr} {m : Str → Option Value} {env : Env}
theorem pl_src {iter : PySem.Expr} {a b z : Str} {pa pb tp pz : Pos} {kk : Nat} {scope : Scope} {cl : List (Str × Addr)} {pos : Pos} {Q : Value → Shared → Prop} {g : Nat → Str} (F₀ : Fr h₀ L s.heap m)
    (hclos : closureFor scope env = pure cl) (hcell : ∀ y ∈ scope.names, y.2 ≠ .cell) (hkind : scope.kind = .function)
    (hnames : ∀ y ∈ scope.names, y.2 = .local → scope.names.lookup y.1 = some .local) (hxa : scope.names.lookup a = some .local) (hxb : scope.names.lookup b = some .local) (hxz : scope.names.lookup z = some .local) (hd : (z == ("__debug__" : Str)) = false)
    (hz : (z = b ∧ g = sen) ∨ (z ≠ b ∧ z = a ∧ g = fun c => ⟨#[c]⟩))
    (h : wpAny (model prog w) A (eval iter env) (PairSrc A h₀ L m g Q) E s) (hs : ∀ x, foldedSetIterable iter env x = pure x) :
    wpAny (model prog w) A (eval (.ListComp (.Name z pz) [⟨.Tuple [.Name a pa, .Name b pb] kk tp, iter, [], 0⟩] scope pos) env) Q E s := pl_ListComp F₀ hclos hcell hkind hnames hxa hxb hxz hd hz h hs
theorem pd_src {iter : PySem.Expr} {a b : Str} {pa pb qa qb tp : Pos} {kk : Nat} {scope : Scope} {cl : List (Str × Addr)} {pos : Pos} {Q : Value → Shared → Prop} (F₀ : Fr h₀ L s.heap m)
    (hclos : closureFor scope env = pure cl) (hcell : ∀ y ∈ scope.names, y.2 ≠ .cell) (hkind : scope.kind = .function)
    (hnames : ∀ y ∈ scope.names, y.2 = .local → scope.names.lookup y.1 = some .local) (hxa : scope.names.lookup a = some .local) (hxb : scope.names.lookup b = some .local) (hda : (a == ("__debug__" : Str)) = false) (hdb : (b == ("__debug__" : Str)) = false) (hab : ¬ a = b)
    (h : wpAny (model prog w) A (eval iter env) (PairSrcD prog w A h₀ L m Q) E s) (hs : ∀ x, foldedSetIterable iter env x = pure x) :
    wpAny (model prog w) A (eval (.DictComp (.Name a qa) (.Name b qb) [⟨.Tuple [.Name a pa, .Name b pb] kk tp, iter, [], 0⟩] scope pos) env) Q E s := pd_DictComp F₀ hclos hcell hkind hnames hxa hxb hda hdb hab h hs
end
theorem off1_mem {D : Addr} {p : Addr × Obj} {l : List (Addr × Obj)} (h : PyProof.Rows.LCg.Off1 D l) (hm : p ∈ l) : p.1 ≠ D := by
  induction l with
  | nil => exact absurd hm List.not_mem_nil
  | cons q r ih =>
    have h' : (@Ne Nat q.1 D) ∧ PyProof.Rows.LCg.Off1 D r := h
    rcases List.mem_cons.mp hm with e | hm
    · rw [e]; exact h'.1
    · exact ih h'.2 hm
section
variable {M : Model} {A : Around} {E : Value → Shared → Prop} {s : Shared} {h₀ : Heap} {L a : Addr} {m : Str → Option Value} {cn : Str} {cs : Scope} {ccd : Value} {cl : List (Str × Addr)}
  {x : Str} {v : Value} {Q : Unit → Shared → Prop} {news : List (Addr × Obj)} {c D : Addr} {ow od : Obj} {v₀ : Option Value}
theorem store_mean (F : Fr h₀ L s.heap m) (N : News h₀ L s.heap ((D, od) :: news)) (o1 : PyProof.Rows.LCg.Off1 D news) (hm : (c, ow) ∈ news) (hd0 : ow.data = .cell v₀) (hc : cl.lookup x = some c)
    (h : ∀ h' o', Fr h₀ L h' m → News h₀ L h' [(c, o'), (D, od)] → o'.data = .cell (some v) → Q () { s with heap := h' })
    (hk : cs.kind = .function) (hx : (envX cn cs L a ccd cl).kindOf x = some .cell) : wpAny M A (storeName (envX cn cs L a ccd cl) x v) Q E s := by
  have N2 : News h₀ L s.heap [(c, ow), (D, od)] := fun p hp => by
    rcases List.mem_cons.mp hp with rfl | hp
    · exact N _ (List.mem_cons_of_mem _ hm)
    · rw [List.mem_singleton.mp hp]
      exact N _ (List.mem_cons_self ..)
  exact storeX_C F N2 hc (UpdF.head fun p hp => by rw [List.mem_singleton.mp hp]; exact (off1_mem o1 hm).symm) hd0 h hk hx
end

end Mine
namespace Mine
def LT (tot : Int) (tt : Tok) (ty : Str) (t1 : Tok) (me : Str) (t2 : Tok) (nm : Str) (t3 : Tok) (bf : Str) (t4 : Tok) (af : Str) (t5 : Tok) (m : Str → Option Value) : Str → Option Value :=
  fun z => if z = "after" then some (.str af t5) else if z = "before" then some (.str bf t4) else if z = "name" then some (.str nm t3) else if z = "meant" then some (.str me t2) else if z = "typed" then some (.str ty t1) else if z = "total" then some (.int tot tt) else m z
def FDone (h₀ : Heap) (L : Addr) (Mk : (Str → Option Value) → Str → Option Value) (s : Shared) (fl : Flow) (s' : Shared) : Prop :=
  ∃ (h' : Heap) (tk' : Nat) (m' : Str → Option Value), fl = .next ∧ s' = { s with heap := h', toks := tk' } ∧ Fr h₀ L h' (Mk m')
def InvF (base : List (Addr × Obj)) (Mk : (Str → Option Value) → Str → Option Value) (vs : List Value) (I : Addr) (r : List Value) (m' : Str → Option Value) (news : List (Addr × Obj)) : Prop :=
  news = base ∧ (∃ mm, m' = Mk mm) ∧ (∀ p ∈ base, p.1 ≠ I) ∧ ∃ d, vs = d ++ r
def TurnF (w : World) (A : Around) (E : Value → Shared → Prop) (env : Env) (h₀ : Heap) (sh : Shared) (st : Stmt) : Prop :=
  ∀ (tot : Int) (tt t1 t2 t3 t4 t5 : Tok) (ty me nm bf af hd : Str) (ax r0 r1 r2 r3 r4 : Addr) (n n0 n1 n2 n3 n4 : Nat) (a0 b0 c0 a1 b1 c1 a2 b2 c2 a3 b3 a4 b4 : Tok) (rest : List (Addr × Obj)) (hp : Heap) (tk : Nat) (m : Str → Option Value),
    TlC w ty me nm bf af → TlH w hd ty me → m "rows" = some (.ref ax) →
    (ax, W.listOf #[.ref r0, .ref r1, .ref r2, .ref r3, .ref r4] n) ∈ rest → (r0, W.listOf #[.str (Str.ofString "257 \"") a0, .str (Str.ofString "257 \"") b0, .str nm c0] n0) ∈ rest → (r1, W.listOf #[.str (Str.ofString "257 " ++ hd ++ Str.ofString "\"") a1, .str (Str.ofString "257 \"") b1, .str (Str.ofString "") c1] n1) ∈ rest →
    (r2, W.listOf #[.str (Str.ofString "257" ++ hd ++ Str.ofString " \"") a2, .str (Str.ofString "257 \"") b2, .str (Str.ofString "") c2] n2) ∈ rest → (r3, W.listOf #[.str (Str.ofString "25" ++ hd ++ Str.ofString "7 \"") a3, .str (Str.ofString "257 \"") b3, .none] n3) ∈ rest → (r4, W.listOf #[.str (Str.ofString "250 \"") a4, .str (Str.ofString "250 \"") b4, .none] n4) ∈ rest →
    Fr h₀ env.locals hp (LT tot tt ty t1 me t2 nm t3 bf t4 af t5 m) → News h₀ env.locals hp rest →
    wpAny (model PySem.Challenge.rw_tp0048_01.row.prog w) A (exec st env) (FDone h₀ env.locals (LT tot tt ty t1 me t2 nm t3 bf t4 af t5) { sh with heap := hp, toks := tk }) E { sh with heap := hp, toks := tk }
theorem with_all2 {w : World} {A : Around} {E : Value → Shared → Prop} {env : Env} {s : Shared} {h₀ : Heap} {sh : Shared} {Q : Flow → Shared → Prop} {a0 a1 a2 a3 a4 a5 b6 b7 b8 b9 b10 b11 f : Stmt} {r : List Stmt} (hR : TR w A E env h₀ sh) (hU : TurnU w A E env h₀ sh a2) (h1 : TurnTy w A E env h₀ sh a3) (h2 : TurnMe w A E env h₀ sh a4) (h3 : TurnMg w A E env h₀ sh a5) (hF : TR w A E env h₀ sh → TurnF w A E env h₀ sh f) (hT : TurnF w A E env h₀ sh f → TurnTl w A E env h₀ sh Q (b6 :: b7 :: b8 :: b9 :: b10 :: b11 :: f :: r))
    (on : TurnH w A E env h₀ sh Q (a2 :: a3 :: a4 :: a5 :: b6 :: b7 :: b8 :: b9 :: b10 :: b11 :: f :: r) → wpAny (model PySem.Challenge.rw_tp0048_01.row.prog w) A (execs (a0 :: a1 :: a2 :: a3 :: a4 :: a5 :: b6 :: b7 :: b8 :: b9 :: b10 :: b11 :: f :: r) env) Q E s) : wpAny (model PySem.Challenge.rw_tp0048_01.row.prog w) A (execs (a0 :: a1 :: a2 :: a3 :: a4 :: a5 :: b6 :: b7 :: b8 :: b9 :: b10 :: b11 :: f :: r) env) Q E s :=
  with_all hR hU h1 h2 h3 (fun h => hT (hF h)) on
theorem news_add {h₀ h : Heap} {L : Addr} {news : List (Addr × Obj)} {p : Addr × Obj} (N : News h₀ L h news) (hm : p ∈ news) : News h₀ L h (p :: news) := fun q hq => by
  rcases List.mem_cons.mp hq with rfl | hq
  · exact N _ hm
  · exact N _ hq

end Mine
namespace Mine
local macro_rules | `(tactic| walk_at $s:str) => do `(tactic| k_extra $(Lean.Syntax.mkStrLit (s.getString ++ "!")))
theorem lawX : PySem.Challenge.rw_tp0048_01.Holds := by
  refine hd ?_
  k_fill
  intro w s₀ s₁ mg mb G Y fa o pm cd doc dV kV ho hd hcd hD hmg hg args vals as hpre hlay hrd hwl hlo
  have KX := kIn_of Y.1
  have S54 := Y.2
  have X := (Ground.X G).1
  have V := (Ground.X G).2
  refine Ground.open G ?_
  intro T B D TE TW
  try (refine guard_noD D (by decide +kernel) ?_; clear D)
  obtain ⟨_, _, M⟩ := bmod_of_top T
  have TA := at_of_top T
  try (obtain ⟨_, _, he, B0⟩ := based_of_top T rfl hmg ho hd; have he' : cd = _ := he; subst he'; clear he)
  clear hmg
  wrow_args hpre hlay hrd hwl hlo
  refine enter_call ?_
  w_top on
  try refine codeAny_mono ?_ (fun _ _ g => GoodW.toG g)
  have K0 := below_caller (Top.heap T)
  w_call any ho hd hcd hD T F
  clear hd TA
  k_drop
  refine with_all2 (h₀ := s₁.heap) (sh := s₁) ?hR ?hU ?h1 ?h2 ?h3 ?hF ?hT ?on
  case hR =>
    k_with_none
    (k_with "call type:str!" => (k_here; (rename Got _ _ _ (Value.ref _) _ => gX); k_dflt (obtain ⟨oe9, ot9, ws9, nt9, h19, h29, hc9, hd9, h09, htc9, htd9⟩ := gX); (rename Frag.In _ _ => xX); (rename Fr _ _ _ _ => fX); (rename News _ _ _ _ => nX0); k_dflt (refine' own_str ?hu (Frag.In.keeps xX fX.keep) ?he hc9 hd9 h09 ?ht ?hm ?hs ?_); (case hu => first | k_units | units_room | k_room); (case he => exact News.get (by assumption) h19); (case ht => exact ⟨ot9, nt9, News.get (by assumption) h29, htc9, htd9⟩); (case hm => k_dflt (first | k_is | kernel_rfl)); (case hs => k_dflt (first | k_is | kernel_rfl))))
    (repeat (with_reducible rename Fr _ _ _ _ => z9; clear z9)); (repeat (with_reducible rename News _ _ _ _ => z9; clear z9)); (repeat (with_reducible rename CellsAre _ _ _ => z9; clear z9)); (repeat (rename Data.cell (bindC _ _ _ _) = _ => z9; clear z9))
    intro x t hp tk m news Q hx h3 F N hq
    try dsimp only
    refine wpAny_call ?_
    refine' code_defC ?k1 ?k2 ?k3 ?k4 ?k5 ?kA ?kf ?kk ?k6 ?k7 ?k8 ?k9 ?kB ?_ ?c2 ?c3 ?c4 ?c5
    case kA => exact rfl
    case kf => exact rfl
    case kk => exact fun h => nomatch h
    case k2 => k_asm
    case k1 => k_asm
    case k3 => k_asm
    case k4 => k_asm
    case k5 => k_asm
    case k6 => k_is
    case k7 => k_is
    case k8 => k_room
    case k9 => first | exact binds_K (by k_in) rfl (by k_is) rfl rfl rfl | exact BindsTo.of_eq rfl
    case kB => exact locs rfl
    case c2 => exact rfl
    case c3 => exact rfl
    case c4 => exact rfl
    case c5 => decide
    k_whole
    intro g' L' h' FG' F' N' B' X' T' D'
    (try dsimp only)
    (try k_lift B')
    (try k_fold)
    k_steps
    all_goals (exact hq _ _ _ _ (by assumption) (by assumption))
  case hU =>
    k_with_none
    (repeat (with_reducible rename Fr _ _ _ _ => z9; clear z9)); (repeat (with_reducible rename News _ _ _ _ => z9; clear z9)); (repeat (with_reducible rename CellsAre _ _ _ => z9; clear z9)); (repeat (rename Data.cell (bindC _ _ _ _) = _ => z9; clear z9))
    (repeat (with_reducible rename IntsAre _ _ => z9; clear z9)); (repeat (with_reducible rename Heap.IsList _ _ _ => z9; clear z9))
    intro Dg Ds tot tt kg ow vs xs hp tk m hL hI hlay hsc hlt F N
    have F1 := Fr.named (x := "script") (v := some (.ref Ds)) F (by show LG Dg tot tt m "script" = _; unfold LG; exact hsc)
    clear F
    unfold LG at F1
    try dsimp only
    (k_with "exec For" => ((rename Fr _ _ _ _ => lF'); (with_unfolding_all refine' For_turns lF' ?_; k_whole)))
    (k_with "pyIter ref" => ((with_reducible rename IntsAre _ (_ ++ _) => hJ); refine unHold ?_))
    k_steps
    refine toHold ?_
    try dsimp only
    (rename Fr _ _ _ _ => lF9)
    (rename News _ _ _ _ => lN9)
    (with_reducible rename IntsAre _ (_ ++ _) => hJ)
    rename_i ax ws hx l9
    have N0 := kst_newsOf (l' := [(Dg, W.listOf #[] kg), (ax, W.listOf (List.toArray ws) 0), (s₁.heap.objs.size + 1, ow)]) lN9 (by intro p hp; simp only [List.mem_cons, List.not_mem_nil, or_false] at hp; rcases hp with rfl | rfl | rfl <;> k_mem)
    have F0 := Fr.named (x := "signs") (v := some (.ref Dg)) (Fr.named (x := "total") (v := some (.int tot tt)) lF9 rfl) rfl
    clear lN9 lF9
    refine loop_inv (InvU Dg tot tt (s₁.heap.objs.size + 1, ow) (ax, W.listOf (List.toArray ws) 0)) rfl F0 N0 (by k_mem) rfl rfl ?_ ?_ ?_
    · intro I hlI
      refine ⟨[], kg, [], _, _, rfl, rfl, trivial, ?_, ints_all hJ drawn_ok, ?_, fun p hp => Nat.ne_of_lt (hlI p hp), by k_mem, by k_mem⟩
      · have := hJ.length
        have := drawn_len (xs := xs)
        simp only [List.length_nil]
        omega
      · intro p hp
        simp only [List.mem_cons, List.not_mem_nil, or_false] at hp
        rcases hp with rfl | rfl
        · show ax ≠ Dg
          exact Nat.ne_of_gt (by omega)
        · show s₁.heap.objs.size + 1 ≠ Dg
          omega
    · intro I v r m' news' h tk2 it hit hinv F2 N2
      obtain ⟨vl, n, cs, rest, mm, rfl, rfl, hP, hB, hv, hoff, hoffI, hax, hcc⟩ := hinv
      have q9 := hv v (List.mem_cons_self ..)
      obtain ⟨y, ty, ev9, hy⟩ := q9
      subst ev9
      have hv' := fun v hv9 => hv v (List.mem_cons_of_mem _ hv9)
      clear hv N0 F0
      unfold LG at F2
      (k_with "call ref" => ((rename Fr _ _ _ _ => fB); (rename News _ _ _ _ => nB); (refine' SC.use (c_piece _ _ _ hy) ?F ?N ?X ?T ?S ?hp ?hh ?hd ?hu ?_); (case F => exact fB); (case N => exact nB); (case X => k_asm); (case T => k_asm); (case S => k_asm); (case hp => trivial); (case hh => k_dflt (exact rfl)); (case hd => k_dflt (first | ktr_room | (show _ < _; simp only [Around.deeper]; omega) | decide)); (case hu => k_dflt (first | ktr_units | (show _ < _; simp only [Around.deeper]; omega) | decide)); intro v9 h9 tk9 hR9 F9 N9 K9; k_dflt (obtain ⟨D9, vl9, n9, cs9, es9, e9, N8, off9, P9, g1, g2⟩ := RP.news hR9 fB nB K9); subst e9; clear hR9; (try dsimp only); (try k_fold)))
      (k_with "call builtin:list.extend" => (k_dflt (
        (have hne9 : ∀ p ∈ (D9, W.listOf (List.toArray vl9) n9) :: es9, p.1 ≠ Dg := fun p hp => off9 p hp (Dg, W.listOf (List.toArray vl) n) (by k_mem));
        (have hnI9 : ∀ p ∈ es9, p.1 ≠ I := fun p hp => off9 p (List.mem_cons_of_mem _ hp) (I, it) (by k_mem));
        (have N7 : News s₁.heap s₁.heap.objs.size h9 ((Dg, W.listOf (List.toArray vl) n) :: ((D9, W.listOf (List.toArray vl9) n9) :: es9 ++ (I, it) :: rest)) := fun p hp => by
          rcases List.mem_cons.mp hp with rfl | hp
          · exact N9 _ (by k_mem)
          · rcases List.mem_append.mp hp with hp | hp
            · exact N8 _ hp
            · rcases List.mem_cons.mp hp with rfl | hp
              · exact N9 _ (by k_mem)
              · exact N9 _ (List.mem_cons_of_mem _ (List.mem_cons_of_mem _ hp)));
        refine ext_pairs F9 N7 (List.mem_append_left _ (List.mem_cons_self ..)) (fun p hp => ?_) (by rw [P9.len]; exact g1) (by have := hP.len; have := P9.len; simp only [List.length_cons] at hB; omega) (fun h7 F7 N7' => ?_))))
      k_steps
      · rcases List.mem_append.mp hp with hp | hp
        · exact hne9 p hp
        · rcases List.mem_cons.mp hp with rfl | hp
          · exact (hoffI (Dg, W.listOf (List.toArray vl) n) (List.mem_cons_self ..)).symm
          · exact hoff p hp
      · refine ⟨h7, _, _, (Dg, W.listOf (List.toArray (vl ++ vl9)) (n + 1)) :: (es9 ++ rest), rfl, Fr.named (x := "signs") (v := some (.ref Dg)) (Fr.named (x := "total") (v := some (.int tot tt)) F7 rfl) rfl, kst_newsOf N7' fun p hp => ?_, fun p hp q hq => ?_, ⟨?_, trivial⟩, vl ++ vl9, n + 1, cs ++ cs9, es9 ++ rest, _, rfl, rfl, PairsAt.append (hP.mono fun p hp => List.mem_append_right _ hp) (P9.mono fun p hp => List.mem_append_left _ hp), ?_, hv', fun p hp => ?_, fun p hp => ?_, List.mem_append_right _ hax, List.mem_append_right _ hcc⟩
        · rcases List.mem_append.mp hp with hp | hp
          · rw [List.mem_singleton.mp hp]
            exact List.mem_cons_of_mem _ (List.mem_append_right _ (List.mem_cons_self ..))
          · rcases List.mem_cons.mp hp with rfl | hp
            · exact List.mem_cons_self ..
            · rcases List.mem_append.mp hp with hp | hp
              · exact List.mem_cons_of_mem _ (List.mem_append_left _ (List.mem_cons_of_mem _ hp))
              · exact List.mem_cons_of_mem _ (List.mem_append_right _ (List.mem_cons_of_mem _ hp))
        · rw [List.mem_singleton.mp hq]
          rcases List.mem_cons.mp hp with rfl | hp
          · exact hoffI (Dg, W.listOf (List.toArray vl) n) (List.mem_cons_self ..)
          · rcases List.mem_append.mp hp with hp | hp
            · exact hnI9 p hp
            · exact hoffI p (List.mem_cons_of_mem _ hp)
        · exact List.mem_cons_of_mem _ (List.mem_append_right _ hax)
        · have := hP.len
          have := P9.len
          simp only [List.length_cons] at hB
          rw [List.length_append]
          omega
        · rcases List.mem_append.mp hp with hp | hp
          · exact hne9 p (List.mem_cons_of_mem _ hp)
          · exact hoff p hp
        · rcases List.mem_cons.mp hp with rfl | hp
          · exact hoffI (Dg, W.listOf (List.toArray vl) n) (List.mem_cons_self ..)
          · rcases List.mem_append.mp hp with hp | hp
            · exact hnI9 p hp
            · exact hoffI p (List.mem_cons_of_mem _ hp)
    · intro I m' news' h tk2 hinv F2 N2
      obtain ⟨vl, n, cs, rest, mm, rfl, rfl, hP, hB, hv, hoff, hoffI, hax, hcc⟩ := hinv
      exact ⟨h, tk2, mm, vl, n, cs, rest, rfl, rfl, F2, N2, hP, by simp only [List.length_nil] at hB; omega, hcc⟩
  case h1 =>
    k_with_none
    (k_with "TDoneN!" => (k_here; refine' TDoneN.intro ?F ?N ?h; (case F => k_asm); (case N => first | k_asm | k_dflt (exact kst_newsOf (by k_asm) (by kst_inAny))); (case h => k_dflt (first | exact rfl | exact typed_eq | exact meant_eq | assumption))))
    (k_with "NDone!" => (k_here; refine' NDone.intro ?F ?N; (case F => k_asm); (case N => first | k_asm | k_dflt (exact kst_newsOf (by k_asm) (by kst_inAny)))))
    (k_with "OnGoT!" => ((repeat (with_reducible rename Fr _ _ _ _ => z9; clear z9)); (repeat (with_reducible rename News _ _ _ _ => z9; clear z9)); refine OnGoT.mk ?_; intro hM tM uM FM NM; (try dsimp only)))
    (k_with "eval ListComp!" => (k_here; (first | ((with_reducible show wpAny _ _ (eval (Expr.ListComp (Expr.Name (Str.ofString "sign") _) [⟨Expr.Tuple _ _ _, _, [], _⟩] _ _) _) _ _ _); (rename Fr _ _ _ _ => lF9); (with_reducible refine' pl_src (g := fun c => (⟨#[c]⟩ : Str)) lF9 ?c1 ?c2 ?c3 ?c4 ?c5 ?c6 ?c7 ?c8 ?c9 ?_ fsi_name); (case c9 => exact .inr ⟨ne_beq (by decide), rfl, rfl⟩)) | ((with_reducible show wpAny _ _ (eval (Expr.ListComp (Expr.Name (Str.ofString "sense") _) [⟨Expr.Tuple _ _ _, _, [], _⟩] _ _) _) _ _ _); (rename Fr _ _ _ _ => lF9); (with_reducible refine' pl_src (g := sen) lF9 ?c1 ?c2 ?c3 ?c4 ?c5 ?c6 ?c7 ?c8 ?c9 ?_ fsi_name); (case c9 => exact .inl ⟨rfl, rfl⟩))); (case c1 => with_unfolding_all rfl); (case c2 => decide); (case c3 => k_dflt rfl); (case c4 => decide); (case c5 => decide); (case c6 => decide); (case c7 => decide); (case c8 => decide); (run_tac do IO.println "LCc")))
    (k_with "eval DictComp!" => (k_here; (rename Fr _ _ _ _ => lF9); (with_reducible refine' pd_src lF9 ?c1 ?c2 ?c3 ?c4 ?c5 ?c6 ?c7 ?c8 ?c9 ?_ fsi_name); (case c1 => with_unfolding_all rfl); (case c2 => decide); (case c3 => k_dflt rfl); (case c4 => decide); (case c5 => decide); (case c6 => decide); (case c7 => decide); (case c8 => decide); (case c9 => exact ne_beq (by decide)); (run_tac do IO.println "D10")))
    (k_with "PairSrc!" => ((rename PairsAt _ _ _ => hP9); (rename News _ _ _ _ => lN9); k_dflt (refine ⟨_, _, _, _, _, rfl, by first | rfl | assumption, by k_asm, lN9, List.mem_cons_self .., hP9.mono (fun p hp => List.mem_cons_of_mem _ hp), by rw [PySem.sizeLine_eq]; have := hP9.len; omega, ?_⟩); intro D9 h9 tk9 ys9 F9 N9 o19 hys9; (try dsimp only)))
    (k_with "PairSrcD!" => ((rename PairsAt _ _ _ => hP9); (rename News _ _ _ _ => lN9); k_dflt (refine ⟨_, _, _, _, _, rfl, by first | rfl | assumption, by k_asm, lN9, List.mem_cons_self .., hP9.mono (fun p hp => List.mem_cons_of_mem _ hp), by rw [PySem.sizeLine_eq]; have := hP9.len; omega, ?_⟩); intro D9 h9 tk9 od9 kvs9 F9 N9 o19 hod9 hys9; (try dsimp only)))
    (k_with "call builtin:str.join!" => (k_here; refine' join_listC ?l ?i ?sep ?fit ?_; (case l => k_dflt (exact News.isList (by k_asm) (by k_mem))); (case i => first | with_reducible assumption); (case sep => decide); (case fit => k_dflt (first | exact fit_sen _ (by assumption) | exact fit_one _ (by assumption))); intro t9 k9))
    (repeat (with_reducible rename Fr _ _ _ _ => z9; clear z9)); (repeat (with_reducible rename News _ _ _ _ => z9; clear z9)); (repeat (with_reducible rename CellsAre _ _ _ => z9; clear z9)); (repeat (rename Data.cell (bindC _ _ _ _) = _ => z9; clear z9))
    intro Dg tot tt vl n cs rest hp tk m hP hB F N
    unfold LG at F
    try dsimp only
    k_steps
  case h2 =>
    k_with_none
    (k_with "TDoneN!" => (k_here; refine' TDoneN.intro ?F ?N ?h; (case F => k_asm); (case N => first | k_asm | k_dflt (exact kst_newsOf (by k_asm) (by kst_inAny))); (case h => k_dflt (first | exact rfl | exact typed_eq | exact meant_eq | assumption))))
    (k_with "NDone!" => (k_here; refine' NDone.intro ?F ?N; (case F => k_asm); (case N => first | k_asm | k_dflt (exact kst_newsOf (by k_asm) (by kst_inAny)))))
    (k_with "OnGoT!" => ((repeat (with_reducible rename Fr _ _ _ _ => z9; clear z9)); (repeat (with_reducible rename News _ _ _ _ => z9; clear z9)); refine OnGoT.mk ?_; intro hM tM uM FM NM; (try dsimp only)))
    (k_with "eval ListComp!" => (k_here; (first | ((with_reducible show wpAny _ _ (eval (Expr.ListComp (Expr.Name (Str.ofString "sign") _) [⟨Expr.Tuple _ _ _, _, [], _⟩] _ _) _) _ _ _); (rename Fr _ _ _ _ => lF9); (with_reducible refine' pl_src (g := fun c => (⟨#[c]⟩ : Str)) lF9 ?c1 ?c2 ?c3 ?c4 ?c5 ?c6 ?c7 ?c8 ?c9 ?_ fsi_name); (case c9 => exact .inr ⟨ne_beq (by decide), rfl, rfl⟩)) | ((with_reducible show wpAny _ _ (eval (Expr.ListComp (Expr.Name (Str.ofString "sense") _) [⟨Expr.Tuple _ _ _, _, [], _⟩] _ _) _) _ _ _); (rename Fr _ _ _ _ => lF9); (with_reducible refine' pl_src (g := sen) lF9 ?c1 ?c2 ?c3 ?c4 ?c5 ?c6 ?c7 ?c8 ?c9 ?_ fsi_name); (case c9 => exact .inl ⟨rfl, rfl⟩))); (case c1 => with_unfolding_all rfl); (case c2 => decide); (case c3 => k_dflt rfl); (case c4 => decide); (case c5 => decide); (case c6 => decide); (case c7 => decide); (case c8 => decide); (run_tac do IO.println "LCc")))
    (k_with "eval DictComp!" => (k_here; (rename Fr _ _ _ _ => lF9); (with_reducible refine' pd_src lF9 ?c1 ?c2 ?c3 ?c4 ?c5 ?c6 ?c7 ?c8 ?c9 ?_ fsi_name); (case c1 => with_unfolding_all rfl); (case c2 => decide); (case c3 => k_dflt rfl); (case c4 => decide); (case c5 => decide); (case c6 => decide); (case c7 => decide); (case c8 => decide); (case c9 => exact ne_beq (by decide)); (run_tac do IO.println "D10")))
    (k_with "PairSrc!" => ((rename PairsAt _ _ _ => hP9); (rename News _ _ _ _ => lN9); k_dflt (refine ⟨_, _, _, _, _, rfl, by first | rfl | assumption, by k_asm, lN9, List.mem_cons_self .., hP9.mono (fun p hp => List.mem_cons_of_mem _ hp), by rw [PySem.sizeLine_eq]; have := hP9.len; omega, ?_⟩); intro D9 h9 tk9 ys9 F9 N9 o19 hys9; (try dsimp only)))
    (k_with "PairSrcD!" => ((rename PairsAt _ _ _ => hP9); (rename News _ _ _ _ => lN9); k_dflt (refine ⟨_, _, _, _, _, rfl, by first | rfl | assumption, by k_asm, lN9, List.mem_cons_self .., hP9.mono (fun p hp => List.mem_cons_of_mem _ hp), by rw [PySem.sizeLine_eq]; have := hP9.len; omega, ?_⟩); intro D9 h9 tk9 od9 kvs9 F9 N9 o19 hod9 hys9; (try dsimp only)))
    (k_with "call builtin:str.join!" => (k_here; refine' join_listC ?l ?i ?sep ?fit ?_; (case l => k_dflt (exact News.isList (by k_asm) (by k_mem))); (case i => first | with_reducible assumption); (case sep => decide); (case fit => k_dflt (first | exact fit_sen _ (by assumption) | exact fit_one _ (by assumption))); intro t9 k9))
    (repeat (with_reducible rename Fr _ _ _ _ => z9; clear z9)); (repeat (with_reducible rename News _ _ _ _ => z9; clear z9)); (repeat (with_reducible rename CellsAre _ _ _ => z9; clear z9)); (repeat (rename Data.cell (bindC _ _ _ _) = _ => z9; clear z9))
    intro Dg tot tt vl n cs rest hp tk m hP hB F N
    unfold LG at F
    try dsimp only
    k_steps
  case h3 =>
    k_with_none
    (k_with "TDoneN!" => (k_here; refine' TDoneN.intro ?F ?N ?h; (case F => k_asm); (case N => first | k_asm | k_dflt (exact kst_newsOf (by k_asm) (by kst_inAny))); (case h => k_dflt (first | exact rfl | exact typed_eq | exact meant_eq | assumption))))
    (k_with "NDone!" => (k_here; refine' NDone.intro ?F ?N; (case F => k_asm); (case N => first | k_asm | k_dflt (exact kst_newsOf (by k_asm) (by kst_inAny)))))
    (k_with "OnGoT!" => ((repeat (with_reducible rename Fr _ _ _ _ => z9; clear z9)); (repeat (with_reducible rename News _ _ _ _ => z9; clear z9)); refine OnGoT.mk ?_; intro hM tM uM FM NM; (try dsimp only)))
    (k_with "eval ListComp!" => (k_here; (first | ((with_reducible show wpAny _ _ (eval (Expr.ListComp (Expr.Name (Str.ofString "sign") _) [⟨Expr.Tuple _ _ _, _, [], _⟩] _ _) _) _ _ _); (rename Fr _ _ _ _ => lF9); (with_reducible refine' pl_src (g := fun c => (⟨#[c]⟩ : Str)) lF9 ?c1 ?c2 ?c3 ?c4 ?c5 ?c6 ?c7 ?c8 ?c9 ?_ fsi_name); (case c9 => exact .inr ⟨ne_beq (by decide), rfl, rfl⟩)) | ((with_reducible show wpAny _ _ (eval (Expr.ListComp (Expr.Name (Str.ofString "sense") _) [⟨Expr.Tuple _ _ _, _, [], _⟩] _ _) _) _ _ _); (rename Fr _ _ _ _ => lF9); (with_reducible refine' pl_src (g := sen) lF9 ?c1 ?c2 ?c3 ?c4 ?c5 ?c6 ?c7 ?c8 ?c9 ?_ fsi_name); (case c9 => exact .inl ⟨rfl, rfl⟩))); (case c1 => with_unfolding_all rfl); (case c2 => decide); (case c3 => k_dflt rfl); (case c4 => decide); (case c5 => decide); (case c6 => decide); (case c7 => decide); (case c8 => decide); (run_tac do IO.println "LCc")))
    (k_with "eval DictComp!" => (k_here; (rename Fr _ _ _ _ => lF9); (with_reducible refine' pd_src lF9 ?c1 ?c2 ?c3 ?c4 ?c5 ?c6 ?c7 ?c8 ?c9 ?_ fsi_name); (case c1 => with_unfolding_all rfl); (case c2 => decide); (case c3 => k_dflt rfl); (case c4 => decide); (case c5 => decide); (case c6 => decide); (case c7 => decide); (case c8 => decide); (case c9 => exact ne_beq (by decide)); (run_tac do IO.println "D10")))
    (k_with "PairSrc!" => ((rename PairsAt _ _ _ => hP9); (rename News _ _ _ _ => lN9); k_dflt (refine ⟨_, _, _, _, _, rfl, by first | rfl | assumption, by k_asm, lN9, List.mem_cons_self .., hP9.mono (fun p hp => List.mem_cons_of_mem _ hp), by rw [PySem.sizeLine_eq]; have := hP9.len; omega, ?_⟩); intro D9 h9 tk9 ys9 F9 N9 o19 hys9; (try dsimp only)))
    (k_with "PairSrcD!" => ((rename PairsAt _ _ _ => hP9); (rename News _ _ _ _ => lN9); k_dflt (refine ⟨_, _, _, _, _, rfl, by first | rfl | assumption, by k_asm, lN9, List.mem_cons_self .., hP9.mono (fun p hp => List.mem_cons_of_mem _ hp), by rw [PySem.sizeLine_eq]; have := hP9.len; omega, ?_⟩); intro D9 h9 tk9 od9 kvs9 F9 N9 o19 hod9 hys9; (try dsimp only)))
    (k_with "call builtin:str.join!" => (k_here; refine' join_listC ?l ?i ?sep ?fit ?_; (case l => k_dflt (exact News.isList (by k_asm) (by k_mem))); (case i => first | with_reducible assumption); (case sep => decide); (case fit => k_dflt (first | exact fit_sen _ (by assumption) | exact fit_one _ (by assumption))); intro t9 k9))
    (repeat (with_reducible rename Fr _ _ _ _ => z9; clear z9)); (repeat (with_reducible rename News _ _ _ _ => z9; clear z9)); (repeat (with_reducible rename CellsAre _ _ _ => z9; clear z9)); (repeat (rename Data.cell (bindC _ _ _ _) = _ => z9; clear z9))
    intro Dg tot tt vl n cs rest ow cc hp tk m hP hB hcm hcc F N
    unfold LG at F
    try dsimp only
    k_steps
    rename Fr _ _ _ _ => F9
    rename News _ _ _ _ => N9
    rename LCg.Off1 _ _ => o9
    rename Obj.IsDictOf _ _ _ => d9
    rename MeanS _ _ => m9
    refine store_mean F9 N9 o9 (List.mem_cons_of_mem _ hcm) hcc ?hc ?_ ?hk ?hx
    case hc => exact rfl
    case hk => exact rfl
    case hx => exact rfl
    intro h9 o9 F8 N8 c8
    exact ⟨_, _, _, _, _, _, rfl, rfl, F8, N8, c8, d9, m9⟩
  case hF =>
    k_with_none
    (k_with "call builtin:str.join!" => (k_here; refine' join_listC ?l ?i ?sep ?fit ?_; (case l => k_dflt (exact News.isList (by k_asm) (by k_mem))); (case i => first | with_reducible assumption); (case sep => decide); (case fit => k_dflt (first | exact fit_sen _ (by assumption) | exact fit_one _ (by assumption) | assumption)); intro t9 k9; (try ((rename Txt.join _ _ = _ => hJ9); rw [hJ9]))))
    (repeat (with_reducible rename Fr _ _ _ _ => z9; clear z9)); (repeat (with_reducible rename News _ _ _ _ => z9; clear z9)); (repeat (with_reducible rename CellsAre _ _ _ => z9; clear z9)); (repeat (rename Data.cell (bindC _ _ _ _) = _ => z9; clear z9))
    (repeat (with_reducible rename IntsAre _ _ => z9; clear z9)); (repeat (with_reducible rename Heap.IsList _ _ _ => z9; clear z9))
    intro hTR tot tt t1 t2 t3 t4 t5 ty me nm bf af hd ax r0 r1 r2 r3 r4 n n0 n1 n2 n3 n4 a0 b0 c0 a1 b1 c1 a2 b2 c2 a3 b3 a4 b4 rest hp tk m C CH9 hrw hmx hm0 hm1 hm2 hm3 hm4 F N
    have lty := C.lty; have lme := C.lme; have lnm := C.lnm; have lbf := C.lbf; have laf := C.laf; have lh9 := CH9.lh
    have hz0 : ((Str.ofString "257 \"" ++ me) != (Str.ofString "257 \"" ++ me)) = false := bne_self_eq_false _
    have hz1 : ((Str.ofString "250 \"" ++ me) != (Str.ofString "250 \"" ++ me)) = false := bne_self_eq_false _
    have hz2 : (nm != nm) = false := bne_self_eq_false _
    have hz3 : (af != af) = false := bne_self_eq_false _
    have hz5 : (Str.ofString "" != Str.ofString "") = false := bne_self_eq_false _
    have hz6 : (Str.ofString "250 \"" == Str.ofString "257 \"") = false := by decide +kernel
    have hz7 : (Str.ofString "257 \"" == Str.ofString "257 \"") = true := beq_self_eq_true _
    have F1 := Fr.named (x := "rows") (v := some (.ref ax)) F (by show LT tot tt ty t1 me t2 nm t3 bf t4 af t5 m "rows" = _; unfold LT; exact hrw)
    clear F
    try dsimp only
    (k_with "exec For!" => ((rename Fr _ _ _ _ => lF'); (with_unfolding_all refine' For_turns lF' ?_; k_whole)))
    (k_with "pyIter ref!" => (refine unHold ?_))
    (k_with "call ref!" => first
    | ((rename Fr _ _ _ _ => fB); (rename News _ _ _ _ => nB); (first
      | (with_reducible refine' SC.use (C.n1 _) ?F ?N ?X ?T ?S ?hp ?hh ?hd ?hu ?_)
      | (with_reducible refine' SC.use (C.n2 _) ?F ?N ?X ?T ?S ?hp ?hh ?hd ?hu ?_)
      | (with_reducible refine' SC.use (C.pn _) ?F ?N ?X ?T ?S ?hp ?hh ?hd ?hu ?_)
      | (with_reducible refine' SC.use (C.p0 _) ?F ?N ?X ?T ?S ?hp ?hh ?hd ?hu ?_)
      | (with_reducible refine' SC.use (C.p4 _) ?F ?N ?X ?T ?S ?hp ?hh ?hd ?hu ?_)
      | (with_reducible refine' SC.use (C.t0 _) ?F ?N ?X ?T ?S ?hp ?hh ?hd ?hu ?_)
      | (with_reducible refine' SC.use (C.tm _) ?F ?N ?X ?T ?S ?hp ?hh ?hd ?hu ?_)
      | (with_reducible refine' SC.use (C.v1 _ _ _ _) ?F ?N ?X ?T ?S ?hp ?hh ?hd ?hu ?_)
      | (with_reducible refine' SC.use (C.v2 _ _ _ _) ?F ?N ?X ?T ?S ?hp ?hh ?hd ?hu ?_)
      | (with_reducible refine' SC.use (c_hidden _ _ _) ?F ?N ?X ?T ?S ?hp ?hh ?hd ?hu ?_)
      | ((rename TlH _ _ _ _ => CH9); first
        | (with_reducible refine' SC.use (CH9.p1 _) ?F ?N ?X ?T ?S ?hp ?hh ?hd ?hu ?_)
        | (with_reducible refine' SC.use (CH9.p2 _) ?F ?N ?X ?T ?S ?hp ?hh ?hd ?hu ?_)
        | (with_reducible refine' SC.use (CH9.p3 _) ?F ?N ?X ?T ?S ?hp ?hh ?hd ?hu ?_)
        | (with_reducible refine' SC.use (CH9.t1 _) ?F ?N ?X ?T ?S ?hp ?hh ?hd ?hu ?_)
        | (with_reducible refine' SC.use (CH9.t2 _) ?F ?N ?X ?T ?S ?hp ?hh ?hd ?hu ?_))); (case F => exact fB); (case N => exact nB); (case X => k_asm); (case T => k_asm); (case S => k_asm); (case hp => trivial); (case hh => k_dflt (exact rfl)); (case hd => k_dflt (first | ktr_room | (show _ < _; simp only [Around.deeper]; omega) | decide)); (case hu => k_dflt (first | ktr_units | (show _ < _; simp only [Around.deeper]; omega) | decide)); clear fB nB; intro v9 h9 tk9 hR9 F9 N9 K9; clear K9; (first | (obtain ⟨t9, e9⟩ := hR9; subst e9) | (obtain ⟨c9, t9, e9, hb9⟩ := hR9; subst e9; (have CH9 := CH c9 hb9); (have lh9 := CH9.lh); clear hb9; (generalize (⟨#[c9]⟩ : Str) = hd9 at *))); (try dsimp only); (try k_fold))
    | ((rename Fr _ _ _ _ => fB); (rename News _ _ _ _ => nB); k_dflt (first
      | (refine hTR _ _ _ _ _ _ _ ?hx C.r4 fB nB ?_; case hx => (rw [len_app, len_250q]; omega))
      | (refine hTR _ _ _ _ _ _ _ ?hx C.r5 fB nB ?_; case hx => (rw [len_app, len_250q]; omega))
      | ((rename TlH _ _ _ _ => CH9); have l9 := CH9.lh; refine hTR _ _ _ _ _ _ _ ?hx CH9.r3 fB nB ?_; case hx => (rw [len_app, len_app, len_app, len_25, len_7bq]; omega))); clear fB nB; intro D9 h9 tk9 t9 F9 N9; (try dsimp only); (try k_fold)))
    (k_with "compareOp NotEq ref ref!" => (k_here; (rename News _ _ _ _ => nB); k_dflt (refine' one_ne nB ?ka ?kb ?kx ?kc ?_); (case ka => k_mem); (case kb => k_mem); (case kx => first | exact C.s4 | exact C.s5 | (rename TlH _ _ _ _ => CH9; exact CH9.s3)); (case kc => k_dflt (first | units_room | ke_room))))
    k_steps
    refine toHold ?_
    try dsimp only
    (rename Fr _ _ _ _ => F0)
    (rename News _ _ _ _ => N0)
    have F4 := Fr.named (x := "after") (v := some (.str af t5)) (Fr.named (x := "before") (v := some (.str bf t4)) (Fr.named (x := "name") (v := some (.str nm t3)) (Fr.named (x := "meant") (v := some (.str me t2)) (Fr.named (x := "typed") (v := some (.str ty t1)) (Fr.named (x := "total") (v := some (.int tot tt)) F0 rfl) rfl) rfl) rfl) rfl) rfl
    refine loop_inv (InvF rest (LT tot tt ty t1 me t2 nm t3 bf t4 af t5) [.ref r0, .ref r1, .ref r2, .ref r3, .ref r4]) rfl F4 N0 hmx rfl rfl ?_ ?_ ?_
    · intro I hlI
      exact ⟨rfl, ⟨_, rfl⟩, fun p hp => Nat.ne_of_lt (hlI p hp), [], rfl⟩
    · intro I v r m' news' h tk2 it hit hinv F2 N2
      obtain ⟨rfl, ⟨mm, rfl⟩, hoff, d, hds⟩ := hinv
      have hv : v ∈ [Value.ref r0, .ref r1, .ref r2, .ref r3, .ref r4] := by rw [hds]; exact List.mem_append_right _ (List.mem_cons_self ..)
      have hds' : [Value.ref r0, .ref r1, .ref r2, .ref r3, .ref r4] = (d ++ [v]) ++ r := by rw [hds, List.append_assoc]; rfl
      clear N0 F0 F4 hds
      unfold LT at F2
      have fin9 : ∀ (s9 : Shared) (h9 : Heap) (tk9 : Nat) (m9 : Str → Option Value) (news9 : List (Addr × Obj)), s9 = { s₁ with heap := h9, toks := tk9 } → Fr s₁.heap s₁.heap.objs.size h9 (LT tot tt ty t1 me t2 nm t3 bf t4 af t5 m9) → News s₁.heap s₁.heap.objs.size h9 news9 → (∀ p ∈ (I, it) :: news', p ∈ news9) → UnrEndW s₁.heap s₁.heap.objs.size s₁ [(I, it)] (fun m'' n'' => SubL [(ax, W.listOf #[.ref r0, .ref r1, .ref r2, .ref r3, .ref r4] n)] n'' ∧ InvF news' (LT tot tt ty t1 me t2 nm t3 bf t4 af t5) [.ref r0, .ref r1, .ref r2, .ref r3, .ref r4] I r m'' n'') s9 := by
        intro s9 h9 tk9 m9 news9 e9 F9 N9 hs9
        exact ⟨h9, tk9, _, news', e9, F9, fun p hp => N9 p (hs9 p hp), fun p hp q hq => by rw [List.mem_singleton.mp hq]; exact hoff p hp, ⟨hmx, trivial⟩, rfl, ⟨m9, rfl⟩, hoff, d ++ [v], hds'⟩
      simp only [List.mem_cons, List.not_mem_nil, or_false] at hv
      rcases hv with rfl | rfl | rfl | rfl | rfl
      · have N3 := news_add N2 (List.mem_cons_of_mem _ hm0); clear N2
        k_steps
        (rename Fr _ _ _ _ => F9)
        (rename News _ _ _ _ => N9)
        exact fin9 _ _ _ _ _ rfl (Fr.named (x := "after") (v := some (.str af t5)) (Fr.named (x := "before") (v := some (.str bf t4)) (Fr.named (x := "name") (v := some (.str nm t3)) (Fr.named (x := "meant") (v := some (.str me t2)) (Fr.named (x := "typed") (v := some (.str ty t1)) (Fr.named (x := "total") (v := some (.int tot tt)) F9 rfl) rfl) rfl) rfl) rfl) rfl) N9 (fun p hp => by first | exact List.mem_cons_of_mem _ (hp) | exact List.mem_cons_of_mem _ (List.mem_cons_of_mem _ (hp)) | exact List.mem_cons_of_mem _ (List.mem_cons_of_mem _ (List.mem_cons_of_mem _ (hp))) | exact List.mem_cons_of_mem _ (List.mem_cons_of_mem _ (List.mem_cons_of_mem _ (List.mem_cons_of_mem _ (hp)))) | exact List.mem_cons_of_mem _ (List.mem_cons_of_mem _ (List.mem_cons_of_mem _ (List.mem_cons_of_mem _ (List.mem_cons_of_mem _ (hp))))) | exact List.mem_cons_of_mem _ (List.mem_cons_of_mem _ (List.mem_cons_of_mem _ (List.mem_cons_of_mem _ (List.mem_cons_of_mem _ (List.mem_cons_of_mem _ (hp)))))) | exact List.mem_cons_of_mem _ (List.mem_cons_of_mem _ (List.mem_cons_of_mem _ (List.mem_cons_of_mem _ (List.mem_cons_of_mem _ (List.mem_cons_of_mem _ (List.mem_cons_of_mem _ (hp))))))))
      · have N3 := news_add N2 (List.mem_cons_of_mem _ hm1); clear N2
        k_steps
        (rename Fr _ _ _ _ => F9)
        (rename News _ _ _ _ => N9)
        exact fin9 _ _ _ _ _ rfl (Fr.named (x := "after") (v := some (.str af t5)) (Fr.named (x := "before") (v := some (.str bf t4)) (Fr.named (x := "name") (v := some (.str nm t3)) (Fr.named (x := "meant") (v := some (.str me t2)) (Fr.named (x := "typed") (v := some (.str ty t1)) (Fr.named (x := "total") (v := some (.int tot tt)) F9 rfl) rfl) rfl) rfl) rfl) rfl) N9 (fun p hp => by first | exact List.mem_cons_of_mem _ (hp) | exact List.mem_cons_of_mem _ (List.mem_cons_of_mem _ (hp)) | exact List.mem_cons_of_mem _ (List.mem_cons_of_mem _ (List.mem_cons_of_mem _ (hp))) | exact List.mem_cons_of_mem _ (List.mem_cons_of_mem _ (List.mem_cons_of_mem _ (List.mem_cons_of_mem _ (hp)))) | exact List.mem_cons_of_mem _ (List.mem_cons_of_mem _ (List.mem_cons_of_mem _ (List.mem_cons_of_mem _ (List.mem_cons_of_mem _ (hp))))) | exact List.mem_cons_of_mem _ (List.mem_cons_of_mem _ (List.mem_cons_of_mem _ (List.mem_cons_of_mem _ (List.mem_cons_of_mem _ (List.mem_cons_of_mem _ (hp)))))) | exact List.mem_cons_of_mem _ (List.mem_cons_of_mem _ (List.mem_cons_of_mem _ (List.mem_cons_of_mem _ (List.mem_cons_of_mem _ (List.mem_cons_of_mem _ (List.mem_cons_of_mem _ (hp))))))))
      · have N3 := news_add N2 (List.mem_cons_of_mem _ hm2); clear N2
        k_steps
        (rename Fr _ _ _ _ => F9)
        (rename News _ _ _ _ => N9)
        exact fin9 _ _ _ _ _ rfl (Fr.named (x := "after") (v := some (.str af t5)) (Fr.named (x := "before") (v := some (.str bf t4)) (Fr.named (x := "name") (v := some (.str nm t3)) (Fr.named (x := "meant") (v := some (.str me t2)) (Fr.named (x := "typed") (v := some (.str ty t1)) (Fr.named (x := "total") (v := some (.int tot tt)) F9 rfl) rfl) rfl) rfl) rfl) rfl) N9 (fun p hp => by first | exact List.mem_cons_of_mem _ (hp) | exact List.mem_cons_of_mem _ (List.mem_cons_of_mem _ (hp)) | exact List.mem_cons_of_mem _ (List.mem_cons_of_mem _ (List.mem_cons_of_mem _ (hp))) | exact List.mem_cons_of_mem _ (List.mem_cons_of_mem _ (List.mem_cons_of_mem _ (List.mem_cons_of_mem _ (hp)))) | exact List.mem_cons_of_mem _ (List.mem_cons_of_mem _ (List.mem_cons_of_mem _ (List.mem_cons_of_mem _ (List.mem_cons_of_mem _ (hp))))) | exact List.mem_cons_of_mem _ (List.mem_cons_of_mem _ (List.mem_cons_of_mem _ (List.mem_cons_of_mem _ (List.mem_cons_of_mem _ (List.mem_cons_of_mem _ (hp)))))) | exact List.mem_cons_of_mem _ (List.mem_cons_of_mem _ (List.mem_cons_of_mem _ (List.mem_cons_of_mem _ (List.mem_cons_of_mem _ (List.mem_cons_of_mem _ (List.mem_cons_of_mem _ (hp))))))))
      · have N3 := news_add N2 (List.mem_cons_of_mem _ hm3); clear N2
        k_steps
        (rename Fr _ _ _ _ => F9)
        (rename News _ _ _ _ => N9)
        exact fin9 _ _ _ _ _ rfl (Fr.named (x := "after") (v := some (.str af t5)) (Fr.named (x := "before") (v := some (.str bf t4)) (Fr.named (x := "name") (v := some (.str nm t3)) (Fr.named (x := "meant") (v := some (.str me t2)) (Fr.named (x := "typed") (v := some (.str ty t1)) (Fr.named (x := "total") (v := some (.int tot tt)) F9 rfl) rfl) rfl) rfl) rfl) rfl) N9 (fun p hp => by first | exact List.mem_cons_of_mem _ (hp) | exact List.mem_cons_of_mem _ (List.mem_cons_of_mem _ (hp)) | exact List.mem_cons_of_mem _ (List.mem_cons_of_mem _ (List.mem_cons_of_mem _ (hp))) | exact List.mem_cons_of_mem _ (List.mem_cons_of_mem _ (List.mem_cons_of_mem _ (List.mem_cons_of_mem _ (hp)))) | exact List.mem_cons_of_mem _ (List.mem_cons_of_mem _ (List.mem_cons_of_mem _ (List.mem_cons_of_mem _ (List.mem_cons_of_mem _ (hp))))) | exact List.mem_cons_of_mem _ (List.mem_cons_of_mem _ (List.mem_cons_of_mem _ (List.mem_cons_of_mem _ (List.mem_cons_of_mem _ (List.mem_cons_of_mem _ (hp)))))) | exact List.mem_cons_of_mem _ (List.mem_cons_of_mem _ (List.mem_cons_of_mem _ (List.mem_cons_of_mem _ (List.mem_cons_of_mem _ (List.mem_cons_of_mem _ (List.mem_cons_of_mem _ (hp))))))))
      · have N3 := news_add N2 (List.mem_cons_of_mem _ hm4); clear N2
        k_steps
        (rename Fr _ _ _ _ => F9)
        (rename News _ _ _ _ => N9)
        exact fin9 _ _ _ _ _ rfl (Fr.named (x := "after") (v := some (.str af t5)) (Fr.named (x := "before") (v := some (.str bf t4)) (Fr.named (x := "name") (v := some (.str nm t3)) (Fr.named (x := "meant") (v := some (.str me t2)) (Fr.named (x := "typed") (v := some (.str ty t1)) (Fr.named (x := "total") (v := some (.int tot tt)) F9 rfl) rfl) rfl) rfl) rfl) rfl) N9 (fun p hp => by first | exact List.mem_cons_of_mem _ (hp) | exact List.mem_cons_of_mem _ (List.mem_cons_of_mem _ (hp)) | exact List.mem_cons_of_mem _ (List.mem_cons_of_mem _ (List.mem_cons_of_mem _ (hp))) | exact List.mem_cons_of_mem _ (List.mem_cons_of_mem _ (List.mem_cons_of_mem _ (List.mem_cons_of_mem _ (hp)))) | exact List.mem_cons_of_mem _ (List.mem_cons_of_mem _ (List.mem_cons_of_mem _ (List.mem_cons_of_mem _ (List.mem_cons_of_mem _ (hp))))) | exact List.mem_cons_of_mem _ (List.mem_cons_of_mem _ (List.mem_cons_of_mem _ (List.mem_cons_of_mem _ (List.mem_cons_of_mem _ (List.mem_cons_of_mem _ (hp)))))) | exact List.mem_cons_of_mem _ (List.mem_cons_of_mem _ (List.mem_cons_of_mem _ (List.mem_cons_of_mem _ (List.mem_cons_of_mem _ (List.mem_cons_of_mem _ (List.mem_cons_of_mem _ (hp))))))))
    · intro I m' news' h tk2 hinv F2 N2
      obtain ⟨rfl, ⟨mm, rfl⟩, hoff, d, hds⟩ := hinv
      exact ⟨h, tk2, mm, rfl, rfl, F2⟩
  case hT =>
    k_with_none
    (k_with "call builtin:str.join!" => (k_here; refine' join_listC ?l ?i ?sep ?fit ?_; (case l => k_dflt (exact News.isList (by k_asm) (by k_mem))); (case i => first | with_reducible assumption); (case sep => decide); (case fit => k_dflt (first | exact fit_sen _ (by assumption) | exact fit_one _ (by assumption) | assumption)); intro t9 k9; (try ((rename Txt.join _ _ = _ => hJ9); rw [hJ9]))))
    (repeat (with_reducible rename Fr _ _ _ _ => z9; clear z9)); (repeat (with_reducible rename News _ _ _ _ => z9; clear z9)); (repeat (with_reducible rename CellsAre _ _ _ => z9; clear z9)); (repeat (rename Data.cell (bindC _ _ _ _) = _ => z9; clear z9))
    (repeat (with_reducible rename IntsAre _ _ => z9; clear z9)); (repeat (with_reducible rename Heap.IsList _ _ _ => z9; clear z9))
    intro hF Dg tot tt t1 t2 cs Dm ow od kvs hp tk m hok hB hty hme hcc hod hM F N
    obtain ⟨ty, me, nm, bf, af, ety, eme, C, CH, hMs, hJ, hfit⟩ := tl_all w hok hB hM
    rw [← ety] at hty
    rw [← eme] at hme
    clear ety eme hok hB hM
    have F1 := Fr.named (x := "meant") (v := some (.str me t2)) (Fr.named (x := "typed") (v := some (.str ty t1)) F ((LG_at (by decide) (by decide)).trans hty)) ((if_off (x := "meant") (y := "typed") (by decide)).trans ((LG_at (by decide) (by decide)).trans hme))
    clear F hty hme
    unfold LG at F1
    have lty := C.lty; have lme := C.lme; have lnm := C.lnm; have lbf := C.lbf; have laf := C.laf
    have hz0 : ((Str.ofString "257 \"" ++ me) != (Str.ofString "257 \"" ++ me)) = false := bne_self_eq_false _
    have hz1 : ((Str.ofString "250 \"" ++ me) != (Str.ofString "250 \"" ++ me)) = false := bne_self_eq_false _
    have hz2 : (nm != nm) = false := bne_self_eq_false _
    have hz3 : (af != af) = false := bne_self_eq_false _
    have hz4 : (bf != bf) = false := bne_self_eq_false _
    try dsimp only
    (k_with "call ref!" => first
    | ((rename Fr _ _ _ _ => fB); (rename News _ _ _ _ => nB); (first
      | (with_reducible refine' SC.use (C.n1 _) ?F ?N ?X ?T ?S ?hp ?hh ?hd ?hu ?_)
      | (with_reducible refine' SC.use (C.n2 _) ?F ?N ?X ?T ?S ?hp ?hh ?hd ?hu ?_)
      | (with_reducible refine' SC.use (C.pn _) ?F ?N ?X ?T ?S ?hp ?hh ?hd ?hu ?_)
      | (with_reducible refine' SC.use (C.p0 _) ?F ?N ?X ?T ?S ?hp ?hh ?hd ?hu ?_)
      | (with_reducible refine' SC.use (C.p4 _) ?F ?N ?X ?T ?S ?hp ?hh ?hd ?hu ?_)
      | (with_reducible refine' SC.use (C.t0 _) ?F ?N ?X ?T ?S ?hp ?hh ?hd ?hu ?_)
      | (with_reducible refine' SC.use (C.tm _) ?F ?N ?X ?T ?S ?hp ?hh ?hd ?hu ?_)
      | (with_reducible refine' SC.use (C.v1 _ _ _ _) ?F ?N ?X ?T ?S ?hp ?hh ?hd ?hu ?_)
      | (with_reducible refine' SC.use (C.v2 _ _ _ _) ?F ?N ?X ?T ?S ?hp ?hh ?hd ?hu ?_)
      | (with_reducible refine' SC.use (c_hidden _ _ _) ?F ?N ?X ?T ?S ?hp ?hh ?hd ?hu ?_)
      | ((rename TlH _ _ _ _ => CH9); first
        | (with_reducible refine' SC.use (CH9.p1 _) ?F ?N ?X ?T ?S ?hp ?hh ?hd ?hu ?_)
        | (with_reducible refine' SC.use (CH9.p2 _) ?F ?N ?X ?T ?S ?hp ?hh ?hd ?hu ?_)
        | (with_reducible refine' SC.use (CH9.p3 _) ?F ?N ?X ?T ?S ?hp ?hh ?hd ?hu ?_)
        | (with_reducible refine' SC.use (CH9.t1 _) ?F ?N ?X ?T ?S ?hp ?hh ?hd ?hu ?_)
        | (with_reducible refine' SC.use (CH9.t2 _) ?F ?N ?X ?T ?S ?hp ?hh ?hd ?hu ?_))); (case F => exact fB); (case N => exact nB); (case X => k_asm); (case T => k_asm); (case S => k_asm); (case hp => trivial); (case hh => k_dflt (exact rfl)); (case hd => k_dflt (first | ktr_room | (show _ < _; simp only [Around.deeper]; omega) | decide)); (case hu => k_dflt (first | ktr_units | (show _ < _; simp only [Around.deeper]; omega) | decide)); clear fB nB; intro v9 h9 tk9 hR9 F9 N9 K9; clear K9; (first | (obtain ⟨t9, e9⟩ := hR9; subst e9) | (obtain ⟨c9, t9, e9, hb9⟩ := hR9; subst e9; (have CH9 := CH c9 hb9); (have lh9 := CH9.lh); clear hb9; (generalize (⟨#[c9]⟩ : Str) = hd9 at *))); (try dsimp only); (try k_fold)))
    (k_with "eval ListComp!" => (k_here; (rename Fr _ _ _ _ => lF9); (with_reducible refine' comp_txt lF9 ?c1 ?c2 ?c3 ?c4 ?c5 ?c6 ?_ fsi_name); (case c1 => with_unfolding_all rfl); (case c2 => decide); (case c3 => k_dflt rfl); (case c4 => decide); (case c5 => decide); (case c6 => k_dflt (exact rfl)); (show wpAny _ _ _ (TxtSrc0 _ _ _ _ _ _ _ _ _ _ _ _) _ _)))
    (k_with "TxtSrc0!" => (k_here; (refine TxtSrc0.intro (by k_asm) (by k_asm) (by omega) ?_); intro g9; refine rest_txt sen _ ?turn ?fin))
    (k_with "subscriptTail Name Name ref str!" => (k_here; (with_reducible show wpAny _ _ (subscriptTail _ _ (Value.ref _) (Value.str _ _)) _ _ _); (rename News _ _ _ _ => nB); k_dflt (obtain ⟨u9, hv9⟩ := hMs _ (by assumption)); k_dflt (refine' mean_item nB ?hm hod hv9 ?_ ?hs ?hg); (case hm => k_mem); (case hs => with_unfolding_all rfl); (case hg => intro _; with_unfolding_all rfl)))
    (k_with "CompEnd!" => (k_dflt ((rename News _ _ _ _ => lNE); refine LCg.CompEnd.intro (by assumption) lNE _ (fun p hp => hp) (by assumption) (by exact True.intro) ?_)))
    (k_with "execs cons!" => ((with_reducible show wpAny _ _ (execs (Stmt.For _ _ _ _ _ :: _) _) _ _ _); refine unHold ?_))
    (k_with "call builtin:list.extend!" => (k_here; (try dsimp only [List.cons_append, List.nil_append]); (with_reducible show wpAny _ _ (call (Value.builtin _) [Value.ref _, Value.ref _]) _ _ _); k_dflt (refine' kl_extend ?qF ?qN ?qb ?qe ?qne ?qU ?qd ?qz ?qy ?_; (case qF => k_asm); (case qN => k_asm); (case qb => k_mem); (case qU => k_upd); (case qe => kl_lit); (case qne => kl_some); (case qd => kl_no); (case qz => kl_room); (case qy => kl_room)); kl_rest))
    k_steps
    refine toHold ?_
    try dsimp only
    rename Fr _ _ _ _ => F0
    rename News _ _ _ _ => N0
    rename TlH _ _ _ _ => CH9
    have F4 := Fr.named (x := "after") (v := some (.str af _)) (Fr.named (x := "before") (v := some (.str bf _)) (Fr.named (x := "name") (v := some (.str nm _)) (Fr.named (x := "meant") (v := some (.str me t2)) (Fr.named (x := "typed") (v := some (.str ty t1)) (Fr.named (x := "total") (v := some (.int tot tt)) F0 rfl) rfl) rfl) rfl) rfl) rfl
    refine' wpAny_execs_cons (wpAny_mono (hF _ _ _ _ _ _ _ _ _ _ _ _ _ _ _ _ _ _ _ _ _ _ _ _ _ _ _ _ _ _ _ _ _ _ _ _ _ _ _ _ _ _ C CH9 ?hr ?hmx ?hm0 ?hm1 ?hm2 ?hm3 ?hm4 F4 N0) (fun fl s' hq => ?_) fun _ _ e => e)
    case hr => exact rfl
    case hmx => (repeat (first | exact List.mem_cons_self .. | refine List.mem_cons_of_mem _ ?_))
    case hm0 => (repeat (first | exact List.mem_cons_self .. | refine List.mem_cons_of_mem _ ?_))
    case hm1 => (repeat (first | exact List.mem_cons_self .. | refine List.mem_cons_of_mem _ ?_))
    case hm2 => (repeat (first | exact List.mem_cons_self .. | refine List.mem_cons_of_mem _ ?_))
    case hm3 => (repeat (first | exact List.mem_cons_self .. | refine List.mem_cons_of_mem _ ?_))
    case hm4 => (repeat (first | exact List.mem_cons_self .. | refine List.mem_cons_of_mem _ ?_))
    obtain ⟨h9, tk9, m9, rfl, rfl, F9⟩ := hq
    clear F0 N0 F4 CH9
    replace F9 : Fr s₁.heap s₁.heap.objs.size h9 _ := F9
    have N9 : News s₁.heap s₁.heap.objs.size h9 [] := News.nil
    unfold LT at F9
    try dsimp only
    k_steps
  case on =>
    k_with_none
    intro hH
    try dsimp only
    (k_with "execs cons" => ((with_reducible show wpAny _ _ (execs (Stmt.For _ _ _ _ _ :: _) _) _ _ _); refine unHold ?_))
    k_steps
    refine toHold ?_
    rename Fr _ _ _ _ => lF9
    rename News _ _ _ _ => lN9
    have lF8 : Fr s₁.heap _ _ (LG _ _ _ _) := lF9
    refine' hH _ _ _ _ _ _ _ _ _ _ _ _ ?hL ?hI ?hl ?hs ?hlt ?hc lF8 lN9
    case hL => assumption
    case hI => assumption
    case hl => assumption
    case hlt => assumption
    case hc => assumption
    case hs => exact rfl

end Mine
theorem PySem.Challenge.cw_tp0048_01_holds : PySem.Challenge.rw_tp0048_01.Holds := by
  exact Mine.lawX
