import PyProof.Rows.All
import Wide.All
import OpenK.AllK
import Wide.FinOn
import Open.Pieces
import PySem.Unicode
import PySem.Challenge.RW_mj0337_04
set_option Elab.async false
namespace Mine
open PySem PySem.W PySem.Calls PyProof.Rows

section
variable {p : Program} {w : World} {n₀ : Nat} {ann : Option Value}

theorem segGo_add {b : Nat} : ∀ {n m : Nat} {s s' : Shared} {t t' : Thread}, segGo treeTable p w n₀ ann b n s t = some (s', t') →
    segGo treeTable p w n₀ ann b (n + m) s t = segGo treeTable p w n₀ ann b m s' t'
  | 0, m, s, s', t, t', h => by
    obtain ⟨rfl, rfl⟩ : s = s' ∧ t = t' := by simpa [segGo] using h
    rw [Nat.zero_add]
  | n + 1, m, s, s', t, t', h => by
    rw [show n + 1 + m = n + m + 1 by omega]
    unfold segGo at h
    rw [segGo]
    cases he : endAt b t with
    | some f => rw [he] at h; cases h
    | none =>
      rw [he] at h
      cases hk : stepOk n₀ ann t with
      | false => rw [hk] at h; cases h
      | true =>
        rw [hk] at h
        cases hs : step (denote treeTable) p w s t with
        | halt o s₂ => rw [hs] at h; cases h
        | go s₂ t₂ => rw [hs] at h; exact segGo_add h
theorem segGo_one {b : Nat} {s s' : Shared} {t t' : Thread} (h1 : endAt b t = none) (h2 : stepOk n₀ ann t = true) (h3 : step (denote treeTable) p w s t = .go s' t') : segGo treeTable p w n₀ ann b 1 s t = some (s', t') := by
  unfold segGo
  rw [h1, h2, h3]
  rfl

/-- the tree x, standing in the code c over the frames B, ends in n steps with a -/
def Does (p : Program) (w : World) (n₀ : Nat) (ann : Option Value) (c : Code) (B : List Frame) {α : Type} (x : Sem α) (n : Nat) (s : Shared) (pos : Pos) (a : α) (s' : Shared) (pos' : Pos) : Prop :=
  ∀ (K : α → Sem Fin) (H : Value → Sem Fin) (gd : Bool → Bool) (lv : List Value → List Value),
    segGo treeTable p w n₀ ann 1 n s ⟨x.wrap K H gd lv, c, pos, B⟩ = some (s', ⟨K a, c, pos', B⟩)

variable {c : Code} {B : List Frame} {α β : Type} {s s₁ s₂ : Shared} {pos pos₁ pos₂ : Pos}

theorem Does.pure {a : α} : Does p w n₀ ann c B (Pure.pure a : Sem α) 0 s pos a s pos := fun _ _ _ _ => rfl
theorem Does.bind {x : Sem α} {f : α → Sem β} {n m : Nat} {a : α} {b : β} (h : Does p w n₀ ann c B x n s pos a s₁ pos₁) (k : Does p w n₀ ann c B (f a) m s₁ pos₁ b s₂ pos₂) :
    Does p w n₀ ann c B (x >>= f) (n + m) s pos b s₂ pos₂ := fun K H gd lv => by
  have e : (x >>= f).wrap K H gd lv = x.wrap (fun a => (f a).wrap K H gd lv) H gd lv := by
    rw [Sem.bind_eq_wrap', Sem.wrap_wrap]; rfl
  rw [e, segGo_add (h _ H gd lv), k K H gd lv]
theorem Does.holding {x : Sem α} {n : Nat} {a : α} {vs : List Value} (h : Does p w n₀ ann c B x n s pos a s₁ pos₁) : Does p w n₀ ann c B (PySem.holding vs x) n s pos a s₁ pos₁ := fun K H gd lv => by
  unfold PySem.holding
  split
  · exact h K H gd lv
  · rw [Sem.keep_eq_wrap, Sem.wrap_wrap]; exact h K H gd _
theorem Does.onRaise {x : Sem α} {n : Nat} {a : α} {f : Value → Sem Unit} (h : Does p w n₀ ann c B x n s pos a s₁ pos₁) : Does p w n₀ ann c B (x.onRaise f) n s pos a s₁ pos₁ := fun K H gd lv => by
  rw [Sem.onRaise_eq_wrap, Sem.wrap_wrap]; exact h K _ gd lv
theorem Does.tryCatch {x : Sem α} {n : Nat} {a : α} {f : Value → Sem α} (h : Does p w n₀ ann c B x n s pos a s₁ pos₁) : Does p w n₀ ann c B (x.tryCatch f) n s pos a s₁ pos₁ := fun K H gd lv => by
  rw [Sem.tryCatch_eq_wrap, Sem.wrap_wrap]; exact h K _ _ lv
theorem Does.of_eq {x y : Sem α} {n m : Nat} {a : α} (h : Does p w n₀ ann c B x n s pos a s₁ pos₁) (e : y = x) (en : m = n) : Does p w n₀ ann c B y m s pos a s₁ pos₁ := by subst e en; exact h

theorem Does.rule {t : String} : Does p w n₀ ann c B (PySem.rule t) 1 s pos () s pos := fun K H gd lv => by
  obtain ⟨heap, gens, drawn, toks, os⟩ := s
  exact segGo_one (by simp [endAt, PySem.rule, Sem.wrap]) rfl rfl
theorem Does.at {q : Pos} : Does p w n₀ ann c B (standAt q) 1 s pos () s q := fun K H gd lv => by
  obtain ⟨heap, gens, drawn, toks, os⟩ := s
  exact segGo_one (by simp [endAt, standAt, Sem.wrap]) rfl rfl
theorem Does.fresh : Does p w n₀ ann c B PySem.fresh 1 s pos s.toks { s with toks := s.toks + 1 } pos := fun K H gd lv => by
  obtain ⟨heap, gens, drawn, toks, os⟩ := s
  exact segGo_one (by simp [endAt, PySem.fresh, Sem.wrap]) rfl rfl
theorem Does.ask : Does p w n₀ ann c B PySem.ask 1 s pos ⟨p, w.params⟩ s pos := fun K H gd lv => by
  obtain ⟨heap, gens, drawn, toks, os⟩ := s
  exact segGo_one (by simp [endAt, PySem.ask, Sem.wrap]) rfl rfl
theorem Does.alloc {o : Obj} : Does p w n₀ ann c B (PySem.alloc o) 1 s pos s.heap.objs.size { s with heap := s.heap.push o } pos := fun K H gd lv => by
  obtain ⟨heap, gens, drawn, toks, os⟩ := s
  exact segGo_one (by simp [endAt, PySem.alloc, Sem.wrap]) rfl rfl
theorem Does.load {a : Addr} {part : Option Value} {o : Obj} (h : s.heap.get? a = some o) : Does p w n₀ ann c B (loadPart a part) 1 s pos o s pos := fun K H gd lv => by
  obtain ⟨heap, gens, drawn, toks, os⟩ := s
  refine segGo_one (by simp [endAt, loadPart, Sem.wrap]) rfl ?_
  simp only [loadPart, Sem.wrap, step]
  rw [show heap.get? a = some o from h]
theorem Does.update {a : Addr} {part : Option Value} {f : Obj → Obj} (h : (s.heap.get? a).isSome = true) (ha : Nat.ble n₀ a = true) : Does p w n₀ ann c B (updatePart a part f) 1 s pos () { s with heap := s.heap.update a f } pos := fun K H gd lv => by
  obtain ⟨heap, gens, drawn, toks, os⟩ := s
  refine segGo_one (by simp [endAt, updatePart, Sem.wrap]) ?_ ?_
  · show (true && (Nat.ble n₀ a || a == mainNs || a == cStatics || ann == some (.ref a))) = true
    rw [ha]; rfl
  · simp only [updatePart, Sem.wrap, step]
    rw [if_pos h]

theorem chk_hash (k : Int) (t : Tok) : checkBuiltinCall "int.__hash__" ⟨[.int k t], []⟩ = Pure.pure () := by kernel_rfl
theorem den_call (k : Int) (t : Tok) : denote treeTable (.call (.builtin "int.__hash__") ⟨[.int k t], []⟩) = .pure (.again (.builtin "int.__hash__" ⟨[.int k t], []⟩)) := by
  show (checkBuiltinCall "int.__hash__" ⟨[.int k t], []⟩ >>= fun _ => again _) = _
  rw [chk_hash]; rfl
theorem den_hash (k : Int) (t : Tok) : denote treeTable (.builtin "int.__hash__" ⟨[.int k t], []⟩) = .fresh fun u => .pure (.done (.ret (.int (rawHash k) u))) := by kernel_rfl

theorem Does.call_hash (hB : B.length = 1) {k : Int} {t : Tok} : Does p w n₀ ann c B (PySem.call (.builtin "int.__hash__") [.int k t]) 4 s pos (.int (rawHash k) s.toks) { s with toks := s.toks + 1 } pos := fun K H gd lv => by
  obtain ⟨heap, gens, drawn, toks, os⟩ := s
  have e1 : ∀ (fr : Frame), ((fr :: B).length == 1) = false := fun fr => by simp [hB]
  have s1 := @segGo_one p w n₀ ann 1 ⟨heap, gens, drawn, toks, os⟩ _ ⟨(PySem.call (.builtin "int.__hash__") [.int k t]).wrap K H gd lv, c, pos, B⟩ _ (by unfold endAt; dsimp only; cases (B.length == 1) <;> rfl) rfl rfl
  refine (segGo_add (m := 3) s1).trans ?_
  rw [den_call]
  refine (segGo_add (m := 2) (segGo_one (by simp [endAt, hB]) ?_ (step_again ..))).trans ?_
  · show (((!("int.__hash__".startsWith "lifetime.") || _) && _ && _) && _) = true
    rw [show "int.__hash__".startsWith "lifetime." = false by decide +kernel]
    rfl
  rw [den_hash]
  refine (segGo_add (m := 1) (segGo_one (by simp [endAt]) rfl rfl)).trans ?_
  exact segGo_one (by simp [endAt, hB]) rfl rfl

theorem Does.hash (hB : B.length = 1) {k : Int} {t : Tok} : Does p w n₀ ann c B (pyHash (.int k t)) 5 s pos (hashInt k) { s with toks := s.toks + 1 } pos := by
  have hr := rawHash_range k
  have hv : [Value.int k t].any Value.onHeap = false := rfl
  have l : specialOf (.int k t) "__hash__" = Pure.pure (some (.builtin "int.__hash__")) := slot_int_hash.lookup
  show Does p w n₀ ann c B (pyHashByItsType (.int k t)) 5 _ _ _ _ _
  unfold pyHashByItsType
  refine Does.bind (n := 0) (m := 5) (a := ()) (s₁ := s) (pos₁ := pos) ?_ ?_
  · rw [cRoomFor, if_neg (by rw [hv]; exact Bool.false_ne_true)]; exact Does.pure
  rw [l]
  refine Does.bind (n := 0) (m := 5) Does.pure ?_
  rw [if_neg (by rw [beq_builtin_none]; exact Bool.false_ne_true)]
  refine Does.bind (n := 0) (m := 5) Does.pure ?_
  rw [if_neg (by exact Bool.false_ne_true)]
  refine Does.bind (n := 5) (m := 0) (a := some (.int (rawHash k) s.toks)) (s₁ := { s with toks := s.toks + 1 }) (pos₁ := pos) ?_ ?_
  · unfold callSpecialIfBoundUnlessNone?
    refine Does.holding ?_
    unfold bindSpecialIfBound?
    rw [l]
    refine Does.bind (n := 1) (m := 4) (a := some (.builtin "int.__hash__", [.int k t])) (s₁ := s) (pos₁ := pos) ?_ ?_
    · refine Does.bind (n := 0) (m := 1) Does.pure ?_
      dsimp only
      rw [slot_int_hash.bind]
      refine Does.bind (n := 1) (m := 0) Does.ask ?_
      dsimp only
      split
      · exact Does.pure
      · exact Does.tryCatch Does.pure
    · dsimp only
      rw [if_neg (by rw [builtin_beq_none]; exact Bool.false_ne_true)]
      exact Does.bind (n := 4) (m := 0) (Does.call_hash hB) Does.pure
  · show Does p w n₀ ann c B (if (decide (-(2 : Int) ^ 63 ≤ rawHash k) && decide (rawHash k < 2 ^ 63)) = true then _ else _) 0 _ _ _ _ _
    rw [if_pos (by rw [decide_eq_true hr.1, decide_eq_true hr.2]; rfl)]
    exact Does.pure
end
end Mine
namespace Mine
open PySem PySem.W PySem.Calls PyProof.Rows

abbrev dobj (es : List DictEntry) (n : Nat) : Obj := ⟨.type "dict", none, .dict es.toArray n, #[]⟩
def hp (A : List Obj) (o : Obj) (C : List Obj) (lf : Life) : Heap := ⟨(A ++ o :: C).toArray, lf⟩
theorem hp_get {A C : List Obj} {es : List DictEntry} {n : Nat} {lf : Life} : (hp A (dobj es n) C lf).get? A.length = some (dobj es n) := by
  simp [hp, Heap.get?]
theorem modify_at (f : Obj → Obj) (o : Obj) (C : List Obj) : ∀ A : List Obj, (A ++ o :: C).modify A.length f = A ++ f o :: C
  | [] => by simp
  | a :: A => by simp [modify_at f o C A]
theorem hp_update {A C : List Obj} {o : Obj} {lf : Life} {f : Obj → Obj} : (hp A o C lf).update A.length f = hp A (f o) C lf := by
  simp [hp, Heap.update, modify_at]
theorem hp_push {A C : List Obj} {o x : Obj} {lf : Life} : (hp A o C lf).push x = hp A o (C ++ [x]) lf := by
  simp [hp, Heap.push]
theorem hp_size {A C : List Obj} {o : Obj} {lf : Life} : (hp A o C lf).objs.size = A.length + 1 + C.length := by
  simp [hp]; omega

section
variable {p : Program} {w : World} {n₀ : Nat} {ann : Option Value} {c : Code} {B : List Frame} {s : Shared} {pos : Pos}

theorem places_nil {es : List DictEntry} {h : Int} (hn : ∀ e ∈ es, e.hash ≠ h) : placesWithHash es.toArray.size (fun i => es.toArray[i]?.map (·.hash)) h = [] := by
  unfold placesWithHash
  rw [List.filter_eq_nil_iff]
  intro i hi
  simp only [List.getElem?_toArray, beq_iff_eq]
  cases e : es[i]? with
  | none => simp
  | some x =>
    have := hn x (List.mem_of_getElem? e)
    simpa using this

theorem Does.entries {a : Addr} {part : Option Value} {es : List DictEntry} {n : Nat} (h : s.heap.get? a = some (dobj es n)) : Does p w n₀ ann c B (dictEntries a part) 1 s pos es.toArray s pos := by
  unfold dictEntries
  exact Does.bind (n := 1) (m := 0) (Does.load h) Does.pure
theorem Does.epoch {a : Addr} {part : Option Value} {es : List DictEntry} {n : Nat} (h : s.heap.get? a = some (dobj es n)) : Does p w n₀ ann c B (dictEpoch a part) 1 s pos n s pos := by
  unfold dictEpoch
  exact Does.bind (n := 1) (m := 0) (Does.load h) Does.pure
theorem Does.find_none {d : Addr} {es : List DictEntry} {n : Nat} {k h : Int} {t : Tok} (hd : s.heap.get? d = some (dobj es n)) (hn : ∀ e ∈ es, e.hash ≠ h) :
    Does p w n₀ ann c B (dictFind d (.int k t) h) 1 s pos none s pos := by
  unfold dictFind
  refine Does.holding (Does.bind (n := 1) (m := 0) (Does.entries hd) ?_)
  dsimp only
  rw [places_nil hn]
  rw [if_pos (by rfl)]
  exact Does.pure

theorem Does.pushKey {A C : List Obj} {lf : Life} {es : List DictEntry} {n : Nat} {part : Option Value} {e : DictEntry} {gens : Array GenState} {drawn : Drawn} {toks : Nat} {os : OsState}
    (ha : Nat.ble n₀ A.length = true) (hz : es.length ≤ 1000) :
    Does p w n₀ ann c B (updateDictKeys A.length (·.push e) part) 3 ⟨hp A (dobj es n) C lf, gens, drawn, toks, os⟩ pos () ⟨hp A (dobj (es ++ [e]) (n + 1)) C lf, gens, drawn, toks, os⟩ pos := by
  unfold updateDictKeys
  refine Does.bind (n := 1) (m := 2) (Does.load hp_get) ?_
  dsimp only
  refine Does.bind (n := 1) (m := 1) (Does.update (by show Option.isSome ((hp A (dobj es n) C lf).get? A.length) = true; rw [hp_get]; rfl) ha) ?_
  have e1 : (hp A (dobj es n) C lf).update A.length (Obj.mapDictKeys (·.push e)) = hp A (dobj (es ++ [e]) (n + 1)) C lf := by
    rw [hp_update]
    congr 1
    simp [Obj.mapDictKeys]
  show Does p w n₀ ann c B (lookBehind A.length part) 1 ⟨(hp A (dobj es n) C lf).update A.length (Obj.mapDictKeys (·.push e)), gens, drawn, toks, os⟩ pos () _ pos
  rw [e1]
  unfold lookBehind
  refine Does.bind (n := 1) (m := 0) (Does.load hp_get) ?_
  have : (dobj (es ++ [e]) (n + 1)).data.pastItsLine = none := by
    show (if (es ++ [e]).toArray.size > sizeLine + 1 then _ else _) = _
    rw [if_neg]
    have : sizeLine = 16777216 := by decide +kernel
    simp [this]; omega
  rw [this]
  exact Does.pure

theorem Does.setHashed {A C : List Obj} {lf : Life} {es : List DictEntry} {n : Nat} {k h : Int} {t : Tok} {v : Value} {gens : Array GenState} {drawn : Drawn} {toks : Nat} {os : OsState}
    (ha : Nat.ble n₀ A.length = true) (hz : es.length ≤ 1000) (hn : ∀ e ∈ es, e.hash ≠ h) :
    Does p w n₀ ann c B (dictSetHashed A.length (.int k t) h v) 5 ⟨hp A (dobj es n) C lf, gens, drawn, toks, os⟩ pos () ⟨hp A (dobj (es ++ [⟨h, .int k t, v⟩]) (n + 1)) C lf, gens, drawn, toks, os⟩ pos := by
  unfold dictSetHashed
  refine Does.holding (Does.bind (n := 1) (m := 4) (Does.find_none hp_get hn) ?_)
  dsimp only
  exact Does.bind (n := 1) (m := 3) Does.rule (Does.pushKey ha hz)
theorem Does.set (hB : B.length = 1) {A C : List Obj} {lf : Life} {es : List DictEntry} {n : Nat} {k : Int} {t : Tok} {v : Value} {gens : Array GenState} {drawn : Drawn} {toks : Nat} {os : OsState}
    (ha : Nat.ble n₀ A.length = true) (hz : es.length ≤ 1000) (hn : ∀ e ∈ es, e.hash ≠ hashInt k) :
    Does p w n₀ ann c B (dictSet A.length (.int k t) v) 10 ⟨hp A (dobj es n) C lf, gens, drawn, toks, os⟩ pos () ⟨hp A (dobj (es ++ [⟨hashInt k, .int k t, v⟩]) (n + 1)) C lf, gens, drawn, toks + 1, os⟩ pos := by
  unfold dictSet
  exact Does.holding (Does.bind (n := 5) (m := 5) (Does.hash hB) (Does.setHashed ha hz hn))
theorem Does.put {A C : List Obj} {lf : Life} {es : List DictEntry} {n : Nat} {k h : Int} {t : Tok} {v : Value} {gens : Array GenState} {drawn : Drawn} {toks : Nat} {os : OsState}
    (ha : Nat.ble n₀ A.length = true) (hz : es.length ≤ 1000) (hn : ∀ e ∈ es, e.hash ≠ h) :
    Does p w n₀ ann c B (dictPut A.length h (.int k t) v) 4 ⟨hp A (dobj es n) C lf, gens, drawn, toks, os⟩ pos () ⟨hp A (dobj (es ++ [⟨h, .int k t, v⟩]) (n + 1)) C lf, gens, drawn, toks, os⟩ pos := by
  unfold dictPut
  refine Does.bind (n := 1) (m := 3) (Does.find_none hp_get hn) ?_
  exact Does.pushKey ha hz
end
end Mine
namespace Mine
open PySem PySem.W PySem.Calls PyProof.Rows

/-- a row's two trees -/
def rowT (q : Pos) (r : Int × Str) : Sem Value × Sem Value := (mkInt r.1, do let x ← mkText r.2; standAt q; Pure.pure x)
def entsL : Nat → List (Int × Str) → List DictEntry
  | _, [] => []
  | t, (k, x) :: r => ⟨hashInt k, .int k t, .str x (t + 1)⟩ :: entsL (t + 3) r
def entsV : Nat → List (Int × Str) → List (Value × Value)
  | _, [] => []
  | t, (k, x) :: r => (.int k t, .str x (t + 1)) :: entsV (t + 2) r
def entsS : Nat → List (Int × Str) → List DictEntry
  | _, [] => []
  | t, (k, x) :: r => ⟨hashInt k, .int k t, .str x (t + 1)⟩ :: entsS (t + 2) r
theorem entsL_hash : ∀ (t : Nat) (l : List (Int × Str)), (entsL t l).map (·.hash) = l.map fun r => hashInt r.1
  | _, [] => rfl
  | t, (k, x) :: r => by simp [entsL, entsL_hash (t + 3) r]
theorem entsS_hash : ∀ (t : Nat) (l : List (Int × Str)), (entsS t l).map (·.hash) = l.map fun r => hashInt r.1
  | _, [] => rfl
  | t, (k, x) :: r => by simp [entsS, entsS_hash (t + 2) r]
theorem entsL_length : ∀ (t : Nat) (l : List (Int × Str)), (entsL t l).length = l.length
  | _, [] => rfl
  | t, (k, x) :: r => by simp [entsL, entsL_length (t + 3) r]
theorem entsS_length : ∀ (t : Nat) (l : List (Int × Str)), (entsS t l).length = l.length
  | _, [] => rfl
  | t, (k, x) :: r => by simp [entsS, entsS_length (t + 2) r]

section
variable {p : Program} {w : World} {n₀ : Nat} {ann : Option Value} {c : Code} {B : List Frame} {s : Shared} {q : Pos}
theorem Does.row1 {k : Int} : Does p w n₀ ann c B (mkInt k) 1 s q (.int k s.toks) { s with toks := s.toks + 1 } q := by
  unfold mkInt
  exact Does.bind (n := 1) (m := 0) Does.fresh Does.pure
theorem Does.row2 {x : Str} : Does p w n₀ ann c B (do let v ← mkText x; standAt q; Pure.pure v) 2 s q (.str x s.toks) { s with toks := s.toks + 1 } q := by
  unfold mkText
  refine Does.bind (n := 1) (m := 1) (Does.bind (n := 1) (m := 0) Does.fresh Does.pure) ?_
  exact Does.bind (n := 1) (m := 0) Does.at Does.pure

theorem nodup_cons_hash {es : List DictEntry} {k : Int} {l : List Int} (h : (es.map (·.hash) ++ hashInt k :: l).Nodup) : ∀ e ∈ es, e.hash ≠ hashInt k := by
  intro e he hk
  rw [List.nodup_append] at h
  exact h.2.2 e.hash (List.mem_map.mpr ⟨e, he, rfl⟩) (hashInt k) (.head _) hk

theorem Does.loopL (hB : B.length = 1) {A C : List Obj} {lf : Life} {gens : Array GenState} {drawn : Drawn} {os : OsState} (ha : Nat.ble n₀ A.length = true)
    (f : Sem Value × Sem Value → PUnit → Sem (ForInStep PUnit)) (hf : f = fun x _ => (do let kv ← x.1; let vv ← PySem.holding [kv] x.2; PySem.holding [kv, vv] (dictSet A.length kv vv); Pure.pure (ForInStep.yield PUnit.unit))) :
    ∀ (l : List (Int × Str)) (es : List DictEntry) (n toks : Nat), es.length + l.length ≤ 1000 → (es.map (·.hash) ++ l.map fun r => hashInt r.1).Nodup →
      Does p w n₀ ann c B (forIn (l.map (rowT q)) PUnit.unit f) (13 * l.length) ⟨hp A (dobj es n) C lf, gens, drawn, toks, os⟩ q PUnit.unit
        ⟨hp A (dobj (es ++ entsL toks l) (n + l.length)) C lf, gens, drawn, toks + 3 * l.length, os⟩ q
  | [], es, n, toks, _, _ => by
    simp only [List.map_nil, List.forIn_nil, entsL, List.append_nil, List.length_nil]
    exact Does.pure
  | (k, x) :: l, es, n, toks, hz, hn => by
    rw [List.map_cons, List.forIn_cons, hf]
    have hz' : es.length ≤ 1000 := by simp at hz; omega
    have ih := Does.loopL hB (C := C) (lf := lf) (gens := gens) (drawn := drawn) (os := os) ha f hf l (es ++ [⟨hashInt k, .int k toks, .str x (toks + 1)⟩]) (n + 1) (toks + 3) (by simp at hz ⊢; omega) (by simpa using hn)
    refine Does.of_eq (Does.bind (n := 13) (m := 13 * l.length) (a := ForInStep.yield PUnit.unit) (s₁ := ⟨hp A (dobj (es ++ [⟨hashInt k, .int k toks, .str x (toks + 1)⟩]) (n + 1)) C lf, gens, drawn, toks + 3, os⟩) (pos₁ := q) ?_ ?_) rfl (by rw [List.length_cons]; omega)
    · refine Does.bind (n := 1) (m := 12) Does.row1 ?_
      refine Does.bind (n := 2) (m := 10) (Does.holding Does.row2) ?_
      exact Does.bind (n := 10) (m := 0) (Does.holding (Does.set hB ha hz' (nodup_cons_hash hn))) Does.pure
    · have e1 : es ++ [⟨hashInt k, .int k toks, .str x (toks + 1)⟩] ++ entsL (toks + 3) l = es ++ entsL toks ((k, x) :: l) := by simp [entsL]
      rw [e1, show n + 1 + l.length = n + (l.length + 1) by omega, show toks + 3 + 3 * l.length = toks + 3 * (l.length + 1) by omega] at ih
      rw [← hf]
      exact ih
theorem Does.evalPairs {gens : Array GenState} {drawn : Drawn} {os : OsState} {h : Heap} : ∀ (l : List (Int × Str)) (toks : Nat),
      Does p w n₀ ann c B (PySem.evalPairs (l.map (rowT q))) (3 * l.length) ⟨h, gens, drawn, toks, os⟩ q (entsV toks l) ⟨h, gens, drawn, toks + 2 * l.length, os⟩ q
  | [], toks => Does.pure
  | (k, x) :: l, toks => by
    have ih := Does.evalPairs (gens := gens) (drawn := drawn) (os := os) (h := h) l (toks + 2)
    rw [show toks + 2 + 2 * l.length = toks + 2 * (l.length + 1) by omega] at ih
    show Does p w n₀ ann c B (PySem.evalPairs (rowT q (k, x) :: l.map (rowT q))) (3 * (l.length + 1)) _ _ _ _ _
    unfold PySem.evalPairs
    refine Does.of_eq (Does.bind (n := 1) (m := 2 + 3 * l.length) Does.row1 ?_) rfl (by omega)
    refine Does.bind (n := 2) (m := 3 * l.length) (Does.holding Does.row2) ?_
    exact Does.bind (n := 3 * l.length) (m := 0) (Does.holding ih) Does.pure
theorem Does.loopS (hB : B.length = 1) {A C : List Obj} {lf : Life} {gens : Array GenState} {drawn : Drawn} {os : OsState} (ha : Nat.ble n₀ A.length = true)
    (f : Value × Value → PUnit → Sem (ForInStep PUnit)) (hf : f = fun x _ => (do dictSet A.length x.1 x.2; Pure.pure (ForInStep.yield PUnit.unit))) :
    ∀ (l : List (Int × Str)) (es : List DictEntry) (n t toks : Nat), es.length + l.length ≤ 1000 → (es.map (·.hash) ++ l.map fun r => hashInt r.1).Nodup →
      Does p w n₀ ann c B (forIn (entsV t l) PUnit.unit f) (10 * l.length) ⟨hp A (dobj es n) C lf, gens, drawn, toks, os⟩ q PUnit.unit
        ⟨hp A (dobj (es ++ entsS t l) (n + l.length)) C lf, gens, drawn, toks + l.length, os⟩ q
  | [], es, n, t, toks, _, _ => by
    simp only [entsV, List.forIn_nil, entsS, List.append_nil, List.length_nil]
    exact Does.pure
  | (k, x) :: l, es, n, t, toks, hz, hn => by
    rw [entsV, List.forIn_cons, hf]
    have hz' : es.length ≤ 1000 := by simp at hz; omega
    have ih := Does.loopS hB (C := C) (lf := lf) (gens := gens) (drawn := drawn) (os := os) ha f hf l (es ++ [⟨hashInt k, .int k t, .str x (t + 1)⟩]) (n + 1) (t + 2) (toks + 1) (by simp at hz ⊢; omega) (by simpa using hn)
    refine Does.of_eq (Does.bind (n := 10) (m := 10 * l.length) (a := ForInStep.yield PUnit.unit) (s₁ := ⟨hp A (dobj (es ++ [⟨hashInt k, .int k t, .str x (t + 1)⟩]) (n + 1)) C lf, gens, drawn, toks + 1, os⟩) (pos₁ := q) ?_ ?_) rfl (by rw [List.length_cons]; omega)
    · exact Does.bind (n := 10) (m := 0) (Does.set hB ha hz' (nodup_cons_hash hn)) Does.pure
    · have e1 : es ++ [⟨hashInt k, .int k t, .str x (t + 1)⟩] ++ entsS (t + 2) l = es ++ entsS t ((k, x) :: l) := by simp [entsS]
      rw [e1, show n + 1 + l.length = n + (l.length + 1) by omega, show toks + 1 + l.length = toks + (l.length + 1) by omega] at ih
      rw [← hf]
      exact ih
theorem Does.subL (hB : B.length = 1) {L : List Obj} {lf : Life} {gens : Array GenState} {drawn : Drawn} {os : OsState} (ha : Nat.ble n₀ L.length = true) {l : List (Int × Str)} {toks : Nat} (h1 : 15 < l.length) (hz : l.length ≤ 1000) (hn : (l.map fun r => hashInt r.1).Nodup) :
    Does p w n₀ ann c B (subDict (l.map (rowT q))) (2 + 13 * l.length) ⟨⟨L.toArray, lf⟩, gens, drawn, toks, os⟩ q L.length
      ⟨hp L (dobj (entsL toks l) l.length) [] lf, gens, drawn, toks + 3 * l.length, os⟩ q := by
  unfold subDict
  refine Does.of_eq (Does.bind (n := 1) (m := 1 + 13 * l.length) Does.alloc ?_) rfl (by omega)
  have e1 : Heap.push ⟨L.toArray, lf⟩ { cls := .type "dict", data := .dict #[] } = hp L (dobj [] 0) [] lf := by simp [Heap.push, hp]
  have e2 : (Heap.mk L.toArray lf).objs.size = L.length := by simp
  dsimp only
  rw [e1, e2]
  refine Does.bind (n := 1 + 13 * l.length) (m := 0) (a := ()) (Does.holding ?_) Does.pure
  rw [if_neg (by simpa using h1)]
  refine Does.bind (n := 1) (m := 13 * l.length) Does.rule ?_
  have := Does.loopL hB (p := p) (w := w) (ann := ann) (c := c) (q := q) (C := []) (lf := lf) (gens := gens) (drawn := drawn) (os := os) ha _ rfl l [] 0 toks (by simpa using hz) (by simpa using hn)
  simpa using this
theorem Does.subS (hB : B.length = 1) {L : List Obj} {lf : Life} {gens : Array GenState} {drawn : Drawn} {os : OsState} (ha : Nat.ble n₀ L.length = true) {l : List (Int × Str)} {toks : Nat} (h1 : l.length ≤ 15) (hn : (l.map fun r => hashInt r.1).Nodup) :
    Does p w n₀ ann c B (subDict (l.map (rowT q))) (1 + 13 * l.length) ⟨⟨L.toArray, lf⟩, gens, drawn, toks, os⟩ q L.length
      ⟨hp L (dobj (entsS toks l) l.length) [] lf, gens, drawn, toks + 3 * l.length, os⟩ q := by
  unfold subDict
  refine Does.of_eq (Does.bind (n := 1) (m := 13 * l.length) Does.alloc ?_) rfl (by omega)
  have e1 : Heap.push ⟨L.toArray, lf⟩ { cls := .type "dict", data := .dict #[] } = hp L (dobj [] 0) [] lf := by simp [Heap.push, hp]
  have e2 : (Heap.mk L.toArray lf).objs.size = L.length := by simp
  dsimp only
  rw [e1, e2]
  refine Does.bind (n := 13 * l.length) (m := 0) (a := ()) (Does.holding ?_) Does.pure
  rw [if_pos (by simpa using h1)]
  refine Does.of_eq (Does.bind (n := 3 * l.length) (m := 10 * l.length) (Does.evalPairs l toks) (Does.holding ?_)) rfl (by omega)
  have := Does.loopS hB (p := p) (w := w) (ann := ann) (c := c) (q := q) (C := []) (lf := lf) (gens := gens) (drawn := drawn) (os := os) ha _ rfl l [] 0 toks (toks + 2 * l.length) (by simp; omega) (by simpa using hn)
  rw [show toks + 2 * l.length + l.length = toks + 3 * l.length by omega] at this
  simpa using this
end
end Mine
namespace Mine
open PySem PySem.W PySem.Calls PyProof.Rows

theorem hp_get_last {A C : List Obj} {o : Obj} {es : List DictEntry} {n : Nat} {lf : Life} : (hp A o (C ++ [dobj es n]) lf).get? (A.length + 1 + C.length) = some (dobj es n) := by
  unfold hp Heap.get?
  have : (A ++ o :: (C ++ [dobj es n])).toArray[A.length + 1 + C.length]? = some (dobj es n) := by
    rw [List.getElem?_toArray, List.getElem?_append_right (by omega), show A.length + 1 + C.length - A.length = C.length + 1 by omega, List.getElem?_cons_succ]
    simp
  rw [this]

section
variable {p : Program} {w : World} {n₀ : Nat} {ann : Option Value} {c : Code} {B : List Frame} {s : Shared} {q : Pos}

theorem sub_dict : isSubtype (.type "dict") (.type "dict") = Pure.pure true := by rw [isSubtype_type]; kernel_rfl
/-- turn by turn -/
theorem Does.turns {A C : List Obj} {lf : Life} {gens : Array GenState} {drawn : Drawn} {toks : Nat} {os : OsState} {es' : List DictEntry} {n' : Nat} (f : Nat → PUnit → Sem (ForInStep PUnit))
    (hf : ∀ (i n : Nat) (es : List DictEntry) (h : i < es'.length), es.length ≤ 1000 → (∀ e ∈ es, e.hash ≠ es'[i].hash) →
      Does p w n₀ ann c B (f i PUnit.unit) 6 ⟨hp A (dobj es n) (C ++ [dobj es' n']) lf, gens, drawn, toks, os⟩ q (ForInStep.yield PUnit.unit) ⟨hp A (dobj (es ++ [es'[i]]) (n + 1)) (C ++ [dobj es' n']) lf, gens, drawn, toks, os⟩ q) :
    ∀ (m k n : Nat) (es : List DictEntry), k + m = es'.length → es.length + m ≤ 1000 → ((es ++ es'.drop k).map (·.hash)).Nodup →
      Does p w n₀ ann c B (forIn (List.range' k m) PUnit.unit f) (6 * m) ⟨hp A (dobj es n) (C ++ [dobj es' n']) lf, gens, drawn, toks, os⟩ q PUnit.unit
        ⟨hp A (dobj (es ++ es'.drop k) (n + m)) (C ++ [dobj es' n']) lf, gens, drawn, toks, os⟩ q
  | 0, k, n, es, hk, _, _ => by
    rw [List.drop_of_length_le (by omega)]
    simp only [List.range'_zero, List.forIn_nil, List.append_nil]
    exact Does.pure
  | m + 1, k, n, es, hk, hz, hn => by
    have hlt : k < es'.length := by omega
    have hdrop : es'.drop k = es'[k] :: es'.drop (k + 1) := List.drop_eq_getElem_cons hlt
    have ih := Does.turns f hf m (k + 1) (n + 1) (es ++ [es'[k]]) (by omega) (by simp; omega) (by rw [hdrop] at hn; simpa using hn)
    have e1 : es ++ [es'[k]] ++ es'.drop (k + 1) = es ++ es'.drop k := by rw [hdrop]; simp
    rw [e1, show n + 1 + m = n + (m + 1) by omega] at ih
    rw [List.range'_succ, List.forIn_cons]
    refine Does.of_eq (Does.bind (n := 6) (m := 6 * m) (a := ForInStep.yield PUnit.unit) (hf k n es hlt (by omega) ?_) ih) rfl (by omega)
    intro e he hh
    rw [hdrop, List.map_append, List.nodup_append] at hn
    exact hn.2.2 e.hash (List.mem_map.mpr ⟨e, he, rfl⟩) es'[k].hash (.head _) hh

theorem Does.turns0 {A C : List Obj} {lf : Life} {gens : Array GenState} {drawn : Drawn} {toks : Nat} {os : OsState} {es' : List DictEntry} {n' : Nat} (f : Nat → PUnit → Sem (ForInStep PUnit))
    (hf : ∀ (i n : Nat) (es : List DictEntry) (h : i < es'.length), es.length ≤ 1000 → (∀ e ∈ es, e.hash ≠ es'[i].hash) →
      Does p w n₀ ann c B (f i PUnit.unit) 6 ⟨hp A (dobj es n) (C ++ [dobj es' n']) lf, gens, drawn, toks, os⟩ q (ForInStep.yield PUnit.unit) ⟨hp A (dobj (es ++ [es'[i]]) (n + 1)) (C ++ [dobj es' n']) lf, gens, drawn, toks, os⟩ q)
    (n : Nat) (es : List DictEntry) (hz : es.length + es'.length ≤ 1000) (hn : ((es ++ es').map (·.hash)).Nodup) :
      Does p w n₀ ann c B (forIn (List.range' 0 es'.length) PUnit.unit f) (6 * es'.length) ⟨hp A (dobj es n) (C ++ [dobj es' n']) lf, gens, drawn, toks, os⟩ q PUnit.unit
        ⟨hp A (dobj (es ++ es') (n + es'.length)) (C ++ [dobj es' n']) lf, gens, drawn, toks, os⟩ q := by
  have := Does.turns f hf es'.length 0 n es (by omega) hz (by simpa using hn)
  rw [List.drop_zero] at this
  exact this

theorem Does.merge {A C : List Obj} {lf : Life} {gens : Array GenState} {drawn : Drawn} {toks : Nat} {os : OsState} (ha : Nat.ble n₀ A.length = true) {es es' : List DictEntry} {n n' : Nat} (hint : ∀ e ∈ es', ∃ k t, e.key = .int k t) (h0 : es ≠ [])
    (hz : es.length + es'.length ≤ 1000) (hn : ((es ++ es').map (·.hash)).Nodup) (hs : (A.length + 1 + C.length == sysModules) = false) :
    Does p w n₀ ann c B (mergeMapping A.length (.ref (A.length + 1 + C.length)) false) (5 + 6 * es'.length) ⟨hp A (dobj es n) (C ++ [dobj es' n']) lf, gens, drawn, toks, os⟩ q ()
        ⟨hp A (dobj (es ++ es') (n + es'.length)) (C ++ [dobj es' n']) lf, gens, drawn, toks, os⟩ q := by
  unfold mergeMapping
  have ty : Does p w n₀ ann c B (typeOf (.ref (A.length + 1 + C.length))) 1 ⟨hp A (dobj es n) (C ++ [dobj es' n']) lf, gens, drawn, toks, os⟩ q (.type "dict") ⟨hp A (dobj es n) (C ++ [dobj es' n']) lf, gens, drawn, toks, os⟩ q := by
    unfold typeOf
    exact Does.bind (n := 1) (m := 0) (Does.load hp_get_last) Does.pure
  have t1 : Does p w n₀ ann c B (isInstance (.ref (A.length + 1 + C.length)) (.type "dict")) 1 ⟨hp A (dobj es n) (C ++ [dobj es' n']) lf, gens, drawn, toks, os⟩ q true ⟨hp A (dobj es n) (C ++ [dobj es' n']) lf, gens, drawn, toks, os⟩ q := by
    unfold isInstance
    refine Does.bind (n := 1) (m := 0) ty ?_
    rw [sub_dict]; exact Does.pure
  have t2 : Does p w n₀ ann c B (specialOf (.ref (A.length + 1 + C.length)) "__iter__") 1 ⟨hp A (dobj es n) (C ++ [dobj es' n']) lf, gens, drawn, toks, os⟩ q (some (.builtin "dict.__iter__")) ⟨hp A (dobj es n) (C ++ [dobj es' n']) lf, gens, drawn, toks, os⟩ q := by
    unfold specialOf
    refine Does.bind (n := 1) (m := 0) ty ?_
    rw [F.slot_dict_iter.lookup]; exact Does.pure
  refine Does.of_eq (Does.bind (n := 1) (m := 4 + 6 * es'.length) t1 ?_) rfl (by omega)
  dsimp only
  rw [if_pos rfl]
  refine Does.of_eq (Does.bind (n := 1) (m := 3 + 6 * es'.length) t2 ?_) rfl (by omega)
  have et : (some (Value.builtin "dict.__iter__") == some (Value.builtin "dict.__iter__")) = true := beq_self_eq_true _
  rw [et]
  refine Does.of_eq (Does.bind (n := 0) (m := 3 + 6 * es'.length) Does.pure ?_) rfl (by omega)
  dsimp only
  rw [if_neg (by rw [hs]; exact Bool.false_ne_true)]
  refine Does.of_eq (Does.bind (n := 1) (m := 2 + 6 * es'.length) (Does.entries (es := es) (n := n) hp_get) ?_) rfl (by omega)
  rw [if_neg (by simpa using h0)]
  refine Does.of_eq (Does.bind (n := 1) (m := 1 + 6 * es'.length) (Does.entries (es := es') (n := n') hp_get_last) ?_) rfl (by omega)
  refine Does.of_eq (Does.bind (n := 1) (m := 6 * es'.length) (Does.epoch (es := es') (n := n') hp_get_last) ?_) rfl (by omega)
  refine Does.of_eq (Does.bind (n := 6 * es'.length) (m := 0) (a := PUnit.unit) (s₁ := ⟨hp A (dobj (es ++ es') (n + es'.length)) (C ++ [dobj es' n']) lf, gens, drawn, toks, os⟩) (pos₁ := q) ?_ Does.pure) rfl rfl
  rw [show es'.toArray.size = es'.length by simp, List.range_eq_range']
  refine Does.turns0 _ ?_ n es hz hn
  · skip
    intro i n es hlt hz hne
    obtain ⟨kk, t, hkey⟩ := hint es'[i] (List.getElem_mem hlt)
    refine Does.bind (n := 1) (m := 5) (Does.entries (es := es') (n := n') hp_get_last) ?_
    rw [show es'.toArray[i]? = some es'[i] by simp [hlt]]
    dsimp only
    refine Does.bind (n := 4) (m := 1) (a := ()) (s₁ := ⟨hp A (dobj (es ++ [es'[i]]) (n + 1)) (C ++ [dobj es' n']) lf, gens, drawn, toks, os⟩) (pos₁ := q) (Does.holding ?_) ?_
    · rw [if_neg Bool.false_ne_true]
      have := Does.put (p := p) (w := w) (n₀ := n₀) (ann := ann) (c := c) (B := B) (pos := q) (C := C ++ [dobj es' n']) (lf := lf) (n := n) (k := kk) (h := es'[i].hash) (t := t) (v := es'[i].val) (gens := gens) (drawn := drawn) (toks := toks) (os := os) ha hz hne
      have e2 : (⟨es'[i].hash, .int kk t, es'[i].val⟩ : DictEntry) = es'[i] := by rw [← hkey]
      rw [e2] at this
      rw [hkey]
      exact this
    · refine Does.bind (n := 1) (m := 0) (Does.epoch (es := es') (n := n') hp_get_last) ?_
      rw [if_neg (by simp)]
      exact Does.pure
end
end Mine
namespace Mine
open PySem PySem.W PySem.Calls PyProof.Rows

abbrev Row := Int × Str
def item (q : Pos) (r : Row) : Option (Sem Value) × Sem Value := (some (rowT q r).1, (rowT q r).2)
abbrev St := Option Addr × List (Sem Value × Sem Value)
section
variable {q : Pos} {f : Option (Sem Value) × Sem Value → St → Sem (ForInStep St)} {G : List (Sem Value × Sem Value) → Option Addr → Sem (Option Addr)}

theorem gather17 (hf : ∀ r run main, run.length + 1 < 17 → f (item q r) (main, run) = Pure.pure (.yield (main, run ++ [rowT q r])))
    (hg : ∀ r run main, run.length + 1 = 17 → f (item q r) (main, run) = (G (run ++ [rowT q r]) main >>= fun m => Pure.pure (.yield (m, [])))) (rest : List (Option (Sem Value) × Sem Value)) (main : Option Addr) :
    ∀ (l : List Row) (run : List (Sem Value × Sem Value)), run.length + l.length = 17 → l ≠ [] → forIn (l.map (item q) ++ rest) (main, run) f = (G (run ++ l.map (rowT q)) main >>= fun m => forIn rest (m, []) f)
  | [], run, _, h => absurd rfl h
  | [r], run, h, _ => by
    rw [List.map_cons, List.map_nil, List.cons_append, List.nil_append, List.forIn_cons, hg r run main (by simpa using h), bind_assoc]
    simp only [pure_bind]
    rfl
  | r :: r' :: l, run, h, _ => by
    rw [List.map_cons, List.cons_append, List.forIn_cons, hf r run main (by simp at h; omega), pure_bind]
    have := gather17 hf hg rest main (r' :: l) (run ++ [rowT q r]) (by simp at h ⊢; omega) (by simp)
    simpa using this
theorem gatherS (hf : ∀ r run main, run.length + 1 < 17 → f (item q r) (main, run) = Pure.pure (.yield (main, run ++ [rowT q r]))) (main : Option Addr) :
    ∀ (l : List Row) (run : List (Sem Value × Sem Value)), run.length + l.length < 17 → forIn (l.map (item q)) (main, run) f = Pure.pure (main, run ++ l.map (rowT q))
  | [], run, _ => by simp
  | r :: l, run, h => by
    rw [List.map_cons, List.forIn_cons, hf r run main (by simp at h; omega), pure_bind]
    have := gatherS hf main l (run ++ [rowT q r]) (by simp at h ⊢; omega)
    simpa using this
end

def restEs : Nat → List (List Row) → List Row → List DictEntry
  | t, [], l => entsS t l
  | t, ch :: cs, l => entsL t ch ++ restEs (t + 51) cs l
def restSubs : Nat → List (List Row) → List Row → List Obj
  | t, [], l => [dobj (entsS t l) l.length]
  | t, ch :: cs, l => dobj (entsL t ch) 17 :: restSubs (t + 51) cs l
theorem entsL_int : ∀ (t : Nat) (l : List Row), ∀ e ∈ entsL t l, ∃ k t, e.key = .int k t
  | _, [], _, h => nomatch h
  | t, (k, x) :: r, e, h => by
    rcases List.mem_cons.mp h with rfl | h
    · exact ⟨k, t, rfl⟩
    · exact entsL_int _ r e h
theorem entsS_int : ∀ (t : Nat) (l : List Row), ∀ e ∈ entsS t l, ∃ k t, e.key = .int k t
  | _, [], _, h => nomatch h
  | t, (k, x) :: r, e, h => by
    rcases List.mem_cons.mp h with rfl | h
    · exact ⟨k, t, rfl⟩
    · exact entsS_int _ r e h

section
variable {p : Program} {w : World} {n₀ : Nat} {ann : Option Value} {c : Code} {B : List Frame} {s : Shared} {q : Pos}

theorem Does.flush (hB : B.length = 1) {G : List (Sem Value × Sem Value) → Option Addr → Sem (Option Addr)} {x : Value → Sem Unit} {L C : List Obj} {lf : Life} {gens : Array GenState} {drawn : Drawn} {os : OsState}
    (hG : ∀ run d, run ≠ [] → G run (some d) = (do let sub ← PySem.holding [.ref d] (subDict run); (PySem.holding [.ref d, .ref sub] (mergeMapping d (.ref sub) false)).onRaise (fun e => do let _ ← PySem.holding [Value.ref d, e] (runValue (.builtin "proto.let_go" {}))); Pure.pure (some d)))
    (ha : Nat.ble n₀ L.length = true) {es : List DictEntry} {n t m : Nat} {l : List Row} {es' : List DictEntry} (h1 : l ≠ [])
    (hsub : ∀ L' : List Obj, Nat.ble n₀ L'.length = true → Does p w n₀ ann c B (subDict (l.map (rowT q))) m ⟨⟨L'.toArray, lf⟩, gens, drawn, t, os⟩ q L'.length ⟨hp L' (dobj es' l.length) [] lf, gens, drawn, t + 3 * l.length, os⟩ q)
    (hl : es'.length = l.length) (hint : ∀ e ∈ es', ∃ k t, e.key = .int k t) (h0 : es ≠ []) (hz : es.length + l.length ≤ 1000) (hn : ((es ++ es').map (·.hash)).Nodup) (hs : sysModules ≤ L.length) :
    Does p w n₀ ann c B (G (l.map (rowT q)) (some L.length)) (m + (5 + 6 * l.length)) ⟨hp L (dobj es n) C lf, gens, drawn, t, os⟩ q (some L.length)
      ⟨hp L (dobj (es ++ es') (n + l.length)) (C ++ [dobj es' l.length]) lf, gens, drawn, t + 3 * l.length, os⟩ q := by
  rw [hG _ _ (by simpa using h1)]
  have e1 : hp L (dobj es n) C lf = ⟨(L ++ dobj es n :: C).toArray, lf⟩ := rfl
  have a1 : (L ++ dobj es n :: C).length = L.length + 1 + C.length := by simp; omega
  have s1 := hsub (L ++ dobj es n :: C) (by rw [a1]; have := Nat.le_of_ble_eq_true ha; exact Nat.ble_eq.mpr (by omega))
  have e2 : hp (L ++ dobj es n :: C) (dobj es' l.length) [] lf = hp L (dobj es n) (C ++ [dobj es' l.length]) lf := by simp [hp]
  rw [a1, e2, ← e1] at s1
  refine Does.bind (n := m) (m := 5 + 6 * l.length) (Does.holding s1) ?_
  have mg := Does.merge (p := p) (w := w) (ann := ann) (c := c) (B := B) (q := q) (C := C) (lf := lf) (gens := gens) (drawn := drawn) (os := os) (toks := t + 3 * l.length) (n := n) (n' := l.length) ha hint h0 (by rw [hl]; exact hz) hn (by rw [beq_eq_false_iff_ne]; exact Nat.ne_of_gt (Nat.lt_of_le_of_lt hs (show L.length < L.length + 1 + C.length by omega)))
  rw [hl] at mg
  exact Does.bind (n := 5 + 6 * l.length) (m := 0) (Does.onRaise (Does.holding mg)) Does.pure

theorem Does.rest (hB : B.length = 1) {f : Option (Sem Value) × Sem Value → St → Sem (ForInStep St)} {G : List (Sem Value × Sem Value) → Option Addr → Sem (Option Addr)} {nd : Sem Value} {L : List Obj} {lf : Life} {gens : Array GenState} {drawn : Drawn} {os : OsState}
    (hf : ∀ r run main, run.length + 1 < 17 → f (item q r) (main, run) = Pure.pure (.yield (main, run ++ [rowT q r])))
    (hg : ∀ r run main, run.length + 1 = 17 → f (item q r) (main, run) = (G (run ++ [rowT q r]) main >>= fun m => Pure.pure (.yield (m, []))))
    (hG : ∀ run d, run ≠ [] → G run (some d) = (do let sub ← PySem.holding [.ref d] (subDict run); (PySem.holding [.ref d, .ref sub] (mergeMapping d (.ref sub) false)).onRaise (fun e => do let _ ← PySem.holding [Value.ref d, e] (runValue (.builtin "proto.let_go" {}))); Pure.pure (some d)))
    (ha : Nat.ble n₀ L.length = true) (hs : sysModules ≤ L.length) {l : List Row} (hl0 : l ≠ []) (hl : l.length ≤ 15) :
    ∀ (cs : List (List Row)) (es : List DictEntry) (n t : Nat) (C : List Obj), (∀ ch ∈ cs, ch.length = 17) → es ≠ [] → es.length + cs.flatten.length + l.length ≤ 1000 → (es.map (·.hash) ++ (cs.flatten ++ l).map fun r => hashInt r.1).Nodup →
      Does p w n₀ ann c B (forIn ((cs.flatten ++ l).map (item q)) (some L.length, []) f >>= fun st => G st.2 st.1 >>= fun r => match r with | some d => Pure.pure (.ref d) | none => nd) (330 * cs.length + (6 + 19 * l.length))
        ⟨hp L (dobj es n) C lf, gens, drawn, t, os⟩ q (.ref L.length)
        ⟨hp L (dobj (es ++ restEs t cs l) (n + 17 * cs.length + l.length)) (C ++ restSubs t cs l) lf, gens, drawn, t + 51 * cs.length + 3 * l.length, os⟩ q
  | [], es, n, t, C, _, h0, hz, hn => by
    have hnl : (l.map fun r => hashInt r.1).Nodup := by
      rw [List.nodup_append] at hn; simpa using hn.2.1
    rw [List.flatten_nil, List.nil_append, gatherS hf (some L.length) l [] (by simp; omega), pure_bind]
    have := Does.flush (p := p) (w := w) (ann := ann) (c := c) (q := q) (C := C) (lf := lf) (gens := gens) (drawn := drawn) (os := os) (t := t) (n := n) (es := es) (es' := entsS t l) (x := fun _ => Pure.pure ()) hB hG ha hl0
      (fun L' ha' => Does.subS hB ha' hl hnl) (entsS_length t l) (entsS_int t l) h0 (by simpa using hz) (by rw [List.map_append, entsS_hash]; simpa using hn) hs
    simp only [List.nil_append]
    refine Does.of_eq (Does.bind (n := 1 + 13 * l.length + (5 + 6 * l.length)) (m := 0) this ?_) rfl (by simp; omega)
    simp only [restEs, restSubs, List.length_nil, Nat.mul_zero, Nat.add_zero]
    exact Does.pure
  | ch :: cs, es, n, t, C, hc, h0, hz, hn => by
    have h17 : ch.length = 17 := hc ch (.head _)
    have hne : ch ≠ [] := by intro e; rw [e] at h17; cases h17
    have hn' : (es.map (·.hash) ++ (ch.map fun r => hashInt r.1) ++ (cs.flatten ++ l).map fun r => hashInt r.1).Nodup := by simpa using hn
    have hnl : (ch.map fun r => hashInt r.1).Nodup := by
      have := (List.nodup_append.mp hn').1
      exact (List.nodup_append.mp this).2.1
    have hz' : es.length + (17 + cs.flatten.length) + l.length ≤ 1000 := by rw [List.flatten_cons, List.length_append, h17] at hz; exact hz
    have e1 : ((ch :: cs).flatten ++ l).map (item q) = ch.map (item q) ++ (cs.flatten ++ l).map (item q) := by simp
    rw [e1, gather17 hf hg _ _ ch [] (by simpa using h17) hne, List.nil_append, bind_assoc]
    have := Does.flush (p := p) (w := w) (ann := ann) (c := c) (q := q) (C := C) (lf := lf) (gens := gens) (drawn := drawn) (os := os) (t := t) (n := n) (es := es) (es' := entsL t ch) (x := fun _ => Pure.pure ()) hB hG ha hne
      (fun L' ha' => Does.subL hB ha' (by omega) (by omega) hnl) (entsL_length t ch) (entsL_int t ch) h0 (by omega) (by rw [List.map_append, entsL_hash]; exact (List.nodup_append.mp hn').1) hs
    have ih := Does.rest hB hf hg hG ha hs hl0 hl cs (es ++ entsL t ch) (n + 17) (t + 51) (C ++ [dobj (entsL t ch) 17]) (fun x hx => hc x (.tail _ hx)) (by simp [h0]) (by rw [List.length_append, entsL_length]; omega) (by rw [List.map_append, entsL_hash]; exact hn') (nd := nd) (lf := lf) (gens := gens) (drawn := drawn) (os := os)
    rw [h17] at this
    refine Does.of_eq (Does.bind (n := 330) (m := 330 * cs.length + (6 + 19 * l.length)) this ?_) rfl (by rw [List.length_cons]; omega)
    have e2 : es ++ entsL t ch ++ restEs (t + 51) cs l = es ++ restEs t (ch :: cs) l := by simp [restEs]
    have e3 : C ++ [dobj (entsL t ch) 17] ++ restSubs (t + 51) cs l = C ++ restSubs t (ch :: cs) l := by simp [restSubs]
    rw [e2, e3, show n + 17 + 17 * cs.length + l.length = n + 17 * (ch :: cs).length + l.length by rw [List.length_cons]; omega, show t + 51 + 51 * cs.length + 3 * l.length = t + 51 * (ch :: cs).length + 3 * l.length by rw [List.length_cons]; omega] at ih
    exact ih

/-- the whole display: a first part of seventeen rows, further such parts, the rest -/
theorem Does.display (hB : B.length = 1) {L : List Obj} {lf : Life} {gens : Array GenState} {drawn : Drawn} {os : OsState} (ha : Nat.ble n₀ L.length = true) (hs : sysModules ≤ L.length) {ch : List Row} {cs : List (List Row)} {l : List Row} {t : Nat}
    (h17 : ch.length = 17) (hc : ∀ x ∈ cs, x.length = 17) (hl0 : l ≠ []) (hl : l.length ≤ 15) (hz : 17 + cs.flatten.length + l.length ≤ 1000) (hn : ((ch ++ (cs.flatten ++ l)).map fun r => hashInt r.1).Nodup) :
    Does p w n₀ ann c B (dictDisplay ((ch ++ (cs.flatten ++ l)).map (item q))) (223 + (330 * cs.length + (6 + 19 * l.length))) ⟨⟨L.toArray, lf⟩, gens, drawn, t, os⟩ q (.ref L.length)
      ⟨hp L (dobj (entsL t ch ++ restEs (t + 51) cs l) (17 + 17 * cs.length + l.length)) (restSubs (t + 51) cs l) lf, gens, drawn, t + 51 + 51 * cs.length + 3 * l.length, os⟩ q := by
  have hne : ch ≠ [] := by intro e; rw [e] at h17; cases h17
  have hnl : (ch.map fun r => hashInt r.1).Nodup := by
    rw [List.map_append] at hn
    exact (List.nodup_append.mp hn).1
  unfold dictDisplay
  dsimp only
  rw [List.map_append]
  rw [gather17 (q := q) (G := fun run main => if run.isEmpty = true then Pure.pure main else match main with
      | none => do let d ← subDict run; Pure.pure (some d)
      | some d => (do let sub ← PySem.holding [.ref d] (subDict run); (PySem.holding [.ref d, .ref sub] (mergeMapping d (.ref sub) false)).onRaise (fun e => do let _ ← PySem.holding [Value.ref d, e] (runValue (.builtin "proto.let_go" {}))); Pure.pure (some d)))
    (fun r run main h => by
      have hne : ((run ++ [((rowT q r).1, (rowT q r).2)]).length == 17) = false := by simp; omega
      simp only [item, hne, Bool.false_eq_true, if_false])
    (fun r run main h => by
      have hne : ((run ++ [((rowT q r).1, (rowT q r).2)]).length == 17) = true := by simp; omega
      simp only [item, hne, if_true]
      rfl) _ _ ch [] (by simpa using h17) hne, List.nil_append, bind_assoc]
  rw [if_neg (by simpa using hne)]
  dsimp only
  have s1 := Does.subL hB (p := p) (w := w) (ann := ann) (c := c) (q := q) (lf := lf) (gens := gens) (drawn := drawn) (os := os) (toks := t) ha (l := ch) (by omega) (by omega) hnl
  rw [h17] at s1
  refine Does.bind (n := 223) (m := 330 * cs.length + (6 + 19 * l.length)) (a := some L.length) (Does.bind (n := 223) (m := 0) s1 Does.pure) ?_
  have r := fun (f : Option (Sem Value) × Sem Value → St → Sem (ForInStep St)) (G : List (Sem Value × Sem Value) → Option Addr → Sem (Option Addr)) (nd : Sem Value) hf hg hG =>
    Does.rest (p := p) (w := w) (ann := ann) (c := c) (q := q) (f := f) (G := G) (nd := nd) (lf := lf) (gens := gens) (drawn := drawn) (os := os) hB hf hg hG ha hs hl0 hl cs (entsL t ch) 17 (t + 51) [] hc
      (by intro e; have := entsL_length t ch; rw [e, h17] at this; cases this) (by rw [entsL_length, h17]; exact hz) (by rw [entsL_hash]; simpa using hn)
  refine r _ (fun run main => if run.isEmpty = true then Pure.pure main else match main with
      | none => do let d ← subDict run; Pure.pure (some d)
      | some d => (do let sub ← PySem.holding [.ref d] (subDict run); (PySem.holding [.ref d, .ref sub] (mergeMapping d (.ref sub) false)).onRaise (fun e => do let _ ← PySem.holding [Value.ref d, e] (runValue (.builtin "proto.let_go" {}))); Pure.pure (some d))) newDict ?_ ?_ ?_
  · intro r run main h
    have hne : ((run ++ [((rowT q r).1, (rowT q r).2)]).length == 17) = false := by simp; omega
    simp only [item, hne, Bool.false_eq_true, if_false]
  · intro r run main h
    have hne : ((run ++ [((rowT q r).1, (rowT q r).2)]).length == 17) = true := by simp; omega
    simp only [item, hne, if_true]
    rfl
  · intro run d h
    rw [if_neg (by simpa using h)]
end
end Mine
namespace Mine
open PySem PySem.W PySem.Calls PyProof.Rows

def rowsOf : List (Option Expr) → List Expr → Option (List Row)
  | some (.Constant (.int k) _ _) :: ks, .Constant (.str x) _ _ :: vs => (rowsOf ks vs).map ((k, x) :: ·)
  | [], [] => some []
  | _, _ => none
theorem rows_items (env : Env) (q : Pos) : ∀ (ks : List (Option Expr)) (vs : List Expr) (rs : List Row), rowsOf ks vs = some rs →
    (evalEachOpt ks env).zip ((evalEach vs env).map fun v => do let x ← v; standAt q; Pure.pure x) = rs.map (item q) := by
  intro ks vs
  fun_induction rowsOf ks vs with
  | case1 ks k i j vs x i' j' ih =>
    intro rs h
    obtain ⟨r, h1, rfl⟩ := Option.map_eq_some_iff.mp h
    rw [List.map_cons, ← ih r h1]
    simp only [evalEachOpt, evalEach, List.map_cons, List.zip_cons_cons]
    rfl
  | case2 => intro rs h; cases h; rfl
  | case3 => intro rs h; cases h

/-- parts of seventeen, and what is left -/
def cut {α : Type} : Nat → List α → List (List α) × List α
  | 0, l => ([], l)
  | n + 1, l => (l.take 17 :: (cut n (l.drop 17)).1, (cut n (l.drop 17)).2)
theorem cut_join {α : Type} : ∀ (n : Nat) (l : List α), (cut n l).1.flatten ++ (cut n l).2 = l
  | 0, l => rfl
  | n + 1, l => by
    show (l.take 17 :: (cut n (l.drop 17)).1).flatten ++ (cut n (l.drop 17)).2 = l
    rw [List.flatten_cons, List.append_assoc, cut_join n, List.take_append_drop]
theorem cut_length {α : Type} : ∀ (n : Nat) (l : List α), 17 * n ≤ l.length → (∀ x ∈ (cut n l).1, x.length = 17) ∧ (cut n l).1.length = n ∧ (cut n l).2.length = l.length - 17 * n
  | 0, l, _ => ⟨fun _ h => (nomatch h), rfl, rfl⟩
  | n + 1, l, h => by
    obtain ⟨a, b, c⟩ := cut_length n (l.drop 17) (by rw [List.length_drop]; omega)
    refine ⟨fun x hx => ?_, ?_, ?_⟩
    · rcases List.mem_cons.mp hx with rfl | hx
      · rw [List.length_take]; omega
      · exact a x hx
    · show (cut n (l.drop 17)).1.length + 1 = n + 1
      rw [b]
    · show (cut n (l.drop 17)).2.length = _
      rw [c, List.length_drop]; omega

/-- keys that rise -/
def rises : Nat → List Row → Bool
  | _, [] => true
  | lo, (.ofNat k, _) :: r => Nat.ble lo k && (Nat.ble k 1114111 && rises (k + 1) r)
  | _, _ => false
theorem hashInt_small {k : Nat} (h : k ≤ 1114111) : hashInt (k : Int) = k := by
  have e : rawHash (k : Int) = k := by
    unfold rawHash
    simp
    omega
  unfold hashInt
  rw [e, if_neg]
  simp
theorem rises_spec : ∀ {lo : Nat} {l : List Row}, rises lo l = true → (∀ r ∈ l, ∃ k : Nat, r.1 = (k : Int) ∧ lo ≤ k ∧ k ≤ 1114111) ∧ (l.map fun r => hashInt r.1).Nodup
  | _, [], _ => ⟨fun _ h => (nomatch h), List.nodup_nil⟩
  | lo, (.ofNat k, x) :: r, h => by
    unfold rises at h
    simp only [Bool.and_eq_true, Nat.ble_eq] at h
    obtain ⟨i1, i2⟩ := rises_spec h.2.2
    refine ⟨fun y hy => ?_, ?_⟩
    · rcases List.mem_cons.mp hy with rfl | hy
      · exact ⟨k, rfl, h.1, h.2.1⟩
      · obtain ⟨k', e, a, b⟩ := i1 y hy
        exact ⟨k', e, by omega, b⟩
    · rw [List.map_cons, List.nodup_cons]
      refine ⟨fun hm => ?_, i2⟩
      obtain ⟨y, hy, e⟩ := List.mem_map.mp hm
      obtain ⟨k', e1, a, b⟩ := i1 y hy
      rw [e1, hashInt_small b] at e
      have e' : (k' : Int) = hashInt ((k : Nat) : Int) := e
      rw [hashInt_small h.2.1] at e'
      omega
  | _, (.negSucc _, _) :: _, h => by cases h
end Mine
namespace Mine
open PySem PySem.W PySem.Calls PyProof.Rows PyProof.V PySem.Spec
section
variable {prog : Program} {w : World} {A : Around} {E : Value → Shared → Prop} {s : Shared} {env : Env} {h₀ : Heap} {x : Str} {body : List Stmt} {Q : Flow → Shared → Prop}
/-- a loop over a list of the ledger's that no turn changes: an invariant over the names, the ledger stays -/
theorem iter_led {l : Addr} {vs : List Value} {m₀ : Str → Option Value} {news : List (Addr × Obj)} {o : Obj} (J : Nat → (Str → Option Value) → Prop)
    (hh : A.handled = none) (hm : (l, o) ∈ news) (hl : ∀ h : Heap, h.get? l = some o → h.IsList l vs.toArray) (F : Fr h₀ env.locals s.heap m₀) (N : News h₀ env.locals s.heap news) (hj : J 0 m₀)
    (turn : ∀ i v m₁ h tk own, vs[i]? = some v → J i m₁ → Fr h₀ env.locals h (fun y => if y = x then some v else m₁ y) → News h₀ env.locals h (own ++ news) →
      wpAny (model prog w) A (execs body env) (InvPost h₀ env.locals (J (i + 1)) (own ++ news) { s with heap := h, toks := tk } Q) E { s with heap := h, toks := tk })
    (done : ∀ m₁ h tk, J vs.length m₁ → Fr h₀ env.locals h m₁ → News h₀ env.locals h news → Q .next { s with heap := h, toks := tk }) :
    wpAny (model prog w) A (pyIter (.ref l)) (fun it s₂ => LoopAtV prog w A h₀ env x body Q E it s₂) E s := by
  have hol : s.heap.get? l = some o := (N _ hm).1
  have hls := hl s.heap hol
  have hlt : l < s.heap.objs.size := Heap.lt_size hol
  refine wpAny_pyIter_list hls ?_
  have W := Walks.list (prog := prog) (w := w) hh s.heap.objs.size l (Nat.ne_of_lt hlt) vs.toArray
  rw [show vs.toArray.size = vs.length by simp] at W
  refine ⟨_, _, _, vs.length, _, _, m₀, news, (fun i m₁ news₁ => news₁ = news ∧ J i m₁), rfl, W, ?_, ?_, ?_, ⟨⟨_, Heap.get?_push_size _ rfl, rfl, rfl⟩, hls.at fun o e => Heap.get?_push_of_some _ e⟩, F.push _, (fun p hp => ⟨Heap.get?_push_of_some _ (N p hp).1, (N p hp).2⟩), ⟨rfl, hj⟩, ?_, ?_⟩
  · intro hI
    rcases List.mem_cons.mp hI with e | e
    · exact absurd F.ns.lt (e ▸ Nat.lt_irrefl _)
    · exact (N _ hm).2.1 (List.mem_singleton.mp e).symm
  · intro b hb
    rw [List.mem_singleton.mp hb]
    exact next_is_new F
  · intro p hp hI
    exact absurd (Heap.lt_size (N p hp).1) ((List.mem_singleton.mp hI) ▸ Nat.lt_irrefl _)
  · rintro i v m₁ news₁ s₁ own ⟨hh', tk', rfl⟩ hin hP ⟨rfl, hJ⟩ hoff _ _ _ _ F₁ N₁
    refine wpAny_mono (turn i v m₁ hh' tk' own (by simpa using hP) hJ F₁ N₁) (fun f s₂ p => ?_) fun _ _ e => e
    have fin : InvEnd h₀ env.locals (J (i + 1)) (own ++ news₁) { s with heap := hh', toks := tk' } s₂ → LoopStepU h₀ env.locals [s.heap.objs.size] own (fun m' n' => n' = news₁ ∧ J (i + 1) m') { s with heap := hh', toks := tk' } .next s₂ := by
      rintro ⟨h', tk, m', news', e, F', N', hn, hm⟩
      exact ⟨rfl, h', tk, m', news₁, e, F', fun p hp => N' p (hn p hp), hoff, rfl, hm⟩
    cases f with
    | ret v => exact .ret p
    | brk => exact .brk p
    | next => exact .next (fin p)
    | cont => exact .cont (fin p)
  · rintro h' tk m' news' F' N' _ ⟨rfl, hJ⟩
    exact done m' h' tk hJ F' N'
end
end Mine
namespace Mine
open PySem PySem.W PySem.Calls PyProof.Rows
/-! the display in the walk's logic: what a straight tree ends with -/
def Wd (p : Program) (w : World) {α : Type} (x : Sem α) (s : Shared) (a : α) (s' : Shared) : Prop :=
  ∀ (A : Around) (Q : α → Shared → Prop) (E : Value → Shared → Prop), Q a s' → wpAny (model p w) A x Q E s
section
variable {p : Program} {w : World} {α β : Type} {s s₁ s₂ : Shared}
theorem Wd.pure {a : α} : Wd p w (Pure.pure a : Sem α) s a s := fun _ _ _ h => wpAny_pure h
theorem Wd.bind {x : Sem α} {f : α → Sem β} {a : α} {b : β} (h : Wd p w x s a s₁) (k : Wd p w (f a) s₁ b s₂) : Wd p w (x >>= f) s b s₂ :=
  fun A Q E q => wpAny_bind (h A _ E (k A Q E q))
theorem Wd.holding {x : Sem α} {a : α} {vs : List Value} (h : Wd p w x s a s₁) : Wd p w (PySem.holding vs x) s a s₁ := fun A Q E q => wpAny_holding (h A Q E q)
theorem Wd.onRaise {x : Sem α} {a : α} {f : Value → Sem Unit} (h : Wd p w x s a s₁) : Wd p w (x.onRaise f) s a s₁ := fun A Q E q => wpAny_onRaise (h A Q _ q)
theorem Wd.rule {t : String} : Wd p w (PySem.rule t) s () s := fun _ _ _ h => wpAny_rule h
theorem Wd.at {q : Pos} : Wd p w (standAt q) s () s := fun _ _ _ h => wpAny_standAt h
theorem Wd.fresh : Wd p w PySem.fresh s s.toks { s with toks := s.toks + 1 } := fun _ _ _ h => wpAny_fresh h
theorem Wd.alloc {o : Obj} : Wd p w (PySem.alloc o) s s.heap.objs.size { s with heap := s.heap.push o } := fun _ _ _ h => wpAny_alloc h
theorem Wd.load {a : Addr} {part : Option Value} {o : Obj} (h : s.heap.get? a = some o) : Wd p w (loadPart a part) s o s := fun _ _ _ q => wpAny_loadPart h q
theorem Wd.update {a : Addr} {part : Option Value} {f : Obj → Obj} {o : Obj} (h : s.heap.get? a = some o) : Wd p w (updatePart a part f) s () { s with heap := s.heap.update a f } := fun _ _ _ q => wpAny_updatePart h q
theorem Wd.hash {k : Int} {t : Tok} : Wd p w (pyHash (.int k t)) s (hashInt k) { s with toks := s.toks + 1 } := fun _ _ _ h => wpAny_pyHash_int h
end
end Mine
namespace Mine.V
open Mine PySem PySem.W PySem.Calls PyProof.Rows
/-- as Wd, with two empty places, so that the texts are alike -/
def Wn (p : Program) (w : World) {α : Type} (x : Sem α) (_ : Nat) (s : Shared) (_ : Pos) (a : α) (s' : Shared) (_ : Pos) : Prop := Wd p w x s a s'
section
variable {p : Program} {w : World} {α β : Type} {s s₁ s₂ : Shared} {pos pos₁ pos₂ : Pos}
theorem Wn.pure {a : α} : Wn p w (Pure.pure a : Sem α) 0 s pos a s pos := Wd.pure
theorem Wn.bind {x : Sem α} {f : α → Sem β} {n m : Nat} {a : α} {b : β} (h : Wn p w x n s pos a s₁ pos₁) (k : Wn p w (f a) m s₁ pos₁ b s₂ pos₂) : Wn p w (x >>= f) (n + m) s pos b s₂ pos₂ := Wd.bind h k
theorem Wn.holding {x : Sem α} {n : Nat} {a : α} {vs : List Value} (h : Wn p w x n s pos a s₁ pos₁) : Wn p w (PySem.holding vs x) n s pos a s₁ pos₁ := Wd.holding h
theorem Wn.onRaise {x : Sem α} {n : Nat} {a : α} {f : Value → Sem Unit} (h : Wn p w x n s pos a s₁ pos₁) : Wn p w (x.onRaise f) n s pos a s₁ pos₁ := Wd.onRaise h
theorem Wn.of_eq {x y : Sem α} {n m : Nat} {a : α} (h : Wn p w x n s pos a s₁ pos₁) (e : y = x) (_ : m = n) : Wn p w y m s pos a s₁ pos₁ := by subst e; exact h
theorem Wn.rule {t : String} : Wn p w (PySem.rule t) 1 s pos () s pos := Wd.rule
theorem Wn.at {q : Pos} : Wn p w (standAt q) 1 s pos () s q := Wd.at
theorem Wn.fresh : Wn p w PySem.fresh 1 s pos s.toks { s with toks := s.toks + 1 } pos := Wd.fresh
theorem Wn.alloc {o : Obj} : Wn p w (PySem.alloc o) 1 s pos s.heap.objs.size { s with heap := s.heap.push o } pos := Wd.alloc
theorem Wn.load {a : Addr} {part : Option Value} {o : Obj} (h : s.heap.get? a = some o) : Wn p w (loadPart a part) 1 s pos o s pos := Wd.load h
theorem Wn.update {a : Addr} {part : Option Value} {f : Obj → Obj} (h : (s.heap.get? a).isSome = true) : Wn p w (updatePart a part f) 1 s pos () { s with heap := s.heap.update a f } pos := by
  obtain ⟨o, ho⟩ := Option.isSome_iff_exists.mp h
  exact Wd.update ho
theorem Wn.hash {k : Int} {t : Tok} : Wn p w (pyHash (.int k t)) 5 s pos (hashInt k) { s with toks := s.toks + 1 } pos := Wd.hash
end
section
variable {p : Program} {w : World} {s : Shared} {pos : Pos}

theorem Wn.entries {a : Addr} {part : Option Value} {es : List DictEntry} {n : Nat} (h : s.heap.get? a = some (dobj es n)) : Wn p w (dictEntries a part) 1 s pos es.toArray s pos := by
  unfold dictEntries
  exact Wn.bind (n := 1) (m := 0) (Wn.load h) Wn.pure
theorem Wn.epoch {a : Addr} {part : Option Value} {es : List DictEntry} {n : Nat} (h : s.heap.get? a = some (dobj es n)) : Wn p w (dictEpoch a part) 1 s pos n s pos := by
  unfold dictEpoch
  exact Wn.bind (n := 1) (m := 0) (Wn.load h) Wn.pure
theorem Wn.find_none {d : Addr} {es : List DictEntry} {n : Nat} {k h : Int} {t : Tok} (hd : s.heap.get? d = some (dobj es n)) (hn : ∀ e ∈ es, e.hash ≠ h) :
    Wn p w (dictFind d (.int k t) h) 1 s pos none s pos := by
  unfold dictFind
  refine Wn.holding (Wn.bind (n := 1) (m := 0) (Wn.entries hd) ?_)
  dsimp only
  rw [places_nil hn]
  rw [if_pos (by rfl)]
  exact Wn.pure

theorem Wn.pushKey {A C : List Obj} {lf : Life} {es : List DictEntry} {n : Nat} {part : Option Value} {e : DictEntry} {gens : Array GenState} {drawn : Drawn} {toks : Nat} {os : OsState}
    (hz : es.length ≤ 1000) :
    Wn p w (updateDictKeys A.length (·.push e) part) 3 ⟨hp A (dobj es n) C lf, gens, drawn, toks, os⟩ pos () ⟨hp A (dobj (es ++ [e]) (n + 1)) C lf, gens, drawn, toks, os⟩ pos := by
  unfold updateDictKeys
  refine Wn.bind (n := 1) (m := 2) (Wn.load hp_get) ?_
  dsimp only
  refine Wn.bind (n := 1) (m := 1) (Wn.update (by show Option.isSome ((hp A (dobj es n) C lf).get? A.length) = true; rw [hp_get]; rfl)) ?_
  have e1 : (hp A (dobj es n) C lf).update A.length (Obj.mapDictKeys (·.push e)) = hp A (dobj (es ++ [e]) (n + 1)) C lf := by
    rw [hp_update]
    congr 1
    simp [Obj.mapDictKeys]
  show Wn p w (lookBehind A.length part) 1 ⟨(hp A (dobj es n) C lf).update A.length (Obj.mapDictKeys (·.push e)), gens, drawn, toks, os⟩ pos () _ pos
  rw [e1]
  unfold lookBehind
  refine Wn.bind (n := 1) (m := 0) (Wn.load hp_get) ?_
  have : (dobj (es ++ [e]) (n + 1)).data.pastItsLine = none := by
    show (if (es ++ [e]).toArray.size > sizeLine + 1 then _ else _) = _
    rw [if_neg]
    have : sizeLine = 16777216 := by decide +kernel
    simp [this]; omega
  rw [this]
  exact Wn.pure

theorem Wn.setHashed {A C : List Obj} {lf : Life} {es : List DictEntry} {n : Nat} {k h : Int} {t : Tok} {v : Value} {gens : Array GenState} {drawn : Drawn} {toks : Nat} {os : OsState}
    (hz : es.length ≤ 1000) (hn : ∀ e ∈ es, e.hash ≠ h) :
    Wn p w (dictSetHashed A.length (.int k t) h v) 5 ⟨hp A (dobj es n) C lf, gens, drawn, toks, os⟩ pos () ⟨hp A (dobj (es ++ [⟨h, .int k t, v⟩]) (n + 1)) C lf, gens, drawn, toks, os⟩ pos := by
  unfold dictSetHashed
  refine Wn.holding (Wn.bind (n := 1) (m := 4) (Wn.find_none hp_get hn) ?_)
  dsimp only
  exact Wn.bind (n := 1) (m := 3) Wn.rule (Wn.pushKey hz)
theorem Wn.set {A C : List Obj} {lf : Life} {es : List DictEntry} {n : Nat} {k : Int} {t : Tok} {v : Value} {gens : Array GenState} {drawn : Drawn} {toks : Nat} {os : OsState}
    (hz : es.length ≤ 1000) (hn : ∀ e ∈ es, e.hash ≠ hashInt k) :
    Wn p w (dictSet A.length (.int k t) v) 10 ⟨hp A (dobj es n) C lf, gens, drawn, toks, os⟩ pos () ⟨hp A (dobj (es ++ [⟨hashInt k, .int k t, v⟩]) (n + 1)) C lf, gens, drawn, toks + 1, os⟩ pos := by
  unfold dictSet
  exact Wn.holding (Wn.bind (n := 5) (m := 5) (Wn.hash) (Wn.setHashed hz hn))
theorem Wn.put {A C : List Obj} {lf : Life} {es : List DictEntry} {n : Nat} {k h : Int} {t : Tok} {v : Value} {gens : Array GenState} {drawn : Drawn} {toks : Nat} {os : OsState}
    (hz : es.length ≤ 1000) (hn : ∀ e ∈ es, e.hash ≠ h) :
    Wn p w (dictPut A.length h (.int k t) v) 4 ⟨hp A (dobj es n) C lf, gens, drawn, toks, os⟩ pos () ⟨hp A (dobj (es ++ [⟨h, .int k t, v⟩]) (n + 1)) C lf, gens, drawn, toks, os⟩ pos := by
  unfold dictPut
  refine Wn.bind (n := 1) (m := 3) (Wn.find_none hp_get hn) ?_
  exact Wn.pushKey hz
end

/-- a row's two trees -/
def rowT (q : Pos) (r : Int × (Tok → Value)) : Sem Value × Sem Value := (mkInt r.1, do let x ← (do return r.2 (← PySem.fresh)); standAt q; Pure.pure x)
def entsL : Nat → List (Int × (Tok → Value)) → List DictEntry
  | _, [] => []
  | t, (k, x) :: r => ⟨hashInt k, .int k t, x (t + 1)⟩ :: entsL (t + 3) r
def entsV : Nat → List (Int × (Tok → Value)) → List (Value × Value)
  | _, [] => []
  | t, (k, x) :: r => (.int k t, x (t + 1)) :: entsV (t + 2) r
def entsS : Nat → List (Int × (Tok → Value)) → List DictEntry
  | _, [] => []
  | t, (k, x) :: r => ⟨hashInt k, .int k t, x (t + 1)⟩ :: entsS (t + 2) r
theorem entsL_hash : ∀ (t : Nat) (l : List (Int × (Tok → Value))), (entsL t l).map (·.hash) = l.map fun r => hashInt r.1
  | _, [] => rfl
  | t, (k, x) :: r => by simp [entsL, entsL_hash (t + 3) r]
theorem entsS_hash : ∀ (t : Nat) (l : List (Int × (Tok → Value))), (entsS t l).map (·.hash) = l.map fun r => hashInt r.1
  | _, [] => rfl
  | t, (k, x) :: r => by simp [entsS, entsS_hash (t + 2) r]
theorem entsL_length : ∀ (t : Nat) (l : List (Int × (Tok → Value))), (entsL t l).length = l.length
  | _, [] => rfl
  | t, (k, x) :: r => by simp [entsL, entsL_length (t + 3) r]
theorem entsS_length : ∀ (t : Nat) (l : List (Int × (Tok → Value))), (entsS t l).length = l.length
  | _, [] => rfl
  | t, (k, x) :: r => by simp [entsS, entsS_length (t + 2) r]

section
variable {p : Program} {w : World} {s : Shared} {q : Pos}
theorem Wn.row1 {k : Int} : Wn p w (mkInt k) 1 s q (.int k s.toks) { s with toks := s.toks + 1 } q := by
  unfold mkInt
  exact Wn.bind (n := 1) (m := 0) Wn.fresh Wn.pure
theorem Wn.row2 {x : Tok → Value} : Wn p w (do let v ← (do return x (← PySem.fresh)); standAt q; Pure.pure v) 2 s q (x s.toks) { s with toks := s.toks + 1 } q := by
  refine Wn.bind (n := 1) (m := 1) (Wn.bind (n := 1) (m := 0) Wn.fresh Wn.pure) ?_
  exact Wn.bind (n := 1) (m := 0) Wn.at Wn.pure

theorem nodup_cons_hash {es : List DictEntry} {k : Int} {l : List Int} (h : (es.map (·.hash) ++ hashInt k :: l).Nodup) : ∀ e ∈ es, e.hash ≠ hashInt k := by
  intro e he hk
  rw [List.nodup_append] at h
  exact h.2.2 e.hash (List.mem_map.mpr ⟨e, he, rfl⟩) (hashInt k) (.head _) hk

theorem Wn.loopL {A C : List Obj} {lf : Life} {gens : Array GenState} {drawn : Drawn} {os : OsState}
    (f : Sem Value × Sem Value → PUnit → Sem (ForInStep PUnit)) (hf : f = fun x _ => (do let kv ← x.1; let vv ← PySem.holding [kv] x.2; PySem.holding [kv, vv] (dictSet A.length kv vv); Pure.pure (ForInStep.yield PUnit.unit))) :
    ∀ (l : List (Int × (Tok → Value))) (es : List DictEntry) (n toks : Nat), es.length + l.length ≤ 1000 → (es.map (·.hash) ++ l.map fun r => hashInt r.1).Nodup →
      Wn p w (forIn (l.map (rowT q)) PUnit.unit f) (13 * l.length) ⟨hp A (dobj es n) C lf, gens, drawn, toks, os⟩ q PUnit.unit
        ⟨hp A (dobj (es ++ entsL toks l) (n + l.length)) C lf, gens, drawn, toks + 3 * l.length, os⟩ q
  | [], es, n, toks, _, _ => by
    simp only [List.map_nil, List.forIn_nil, entsL, List.append_nil, List.length_nil]
    exact Wn.pure
  | (k, x) :: l, es, n, toks, hz, hn => by
    rw [List.map_cons, List.forIn_cons, hf]
    have hz' : es.length ≤ 1000 := by simp at hz; omega
    have ih := Wn.loopL (C := C) (lf := lf) (gens := gens) (drawn := drawn) (os := os) f hf l (es ++ [⟨hashInt k, .int k toks, x (toks + 1)⟩]) (n + 1) (toks + 3) (by simp at hz ⊢; omega) (by simpa using hn)
    refine Wn.of_eq (Wn.bind (n := 13) (m := 13 * l.length) (a := ForInStep.yield PUnit.unit) (s₁ := ⟨hp A (dobj (es ++ [⟨hashInt k, .int k toks, x (toks + 1)⟩]) (n + 1)) C lf, gens, drawn, toks + 3, os⟩) (pos₁ := q) ?_ ?_) rfl (by rw [List.length_cons]; omega)
    · refine Wn.bind (n := 1) (m := 12) Wn.row1 ?_
      refine Wn.bind (n := 2) (m := 10) (Wn.holding Wn.row2) ?_
      exact Wn.bind (n := 10) (m := 0) (Wn.holding (Wn.set hz' (nodup_cons_hash hn))) Wn.pure
    · have e1 : es ++ [⟨hashInt k, .int k toks, x (toks + 1)⟩] ++ entsL (toks + 3) l = es ++ entsL toks ((k, x) :: l) := by simp [entsL]
      rw [e1, show n + 1 + l.length = n + (l.length + 1) by omega, show toks + 3 + 3 * l.length = toks + 3 * (l.length + 1) by omega] at ih
      rw [← hf]
      exact ih
theorem Wn.evalPairs {gens : Array GenState} {drawn : Drawn} {os : OsState} {h : Heap} : ∀ (l : List (Int × (Tok → Value))) (toks : Nat),
      Wn p w (PySem.evalPairs (l.map (rowT q))) (3 * l.length) ⟨h, gens, drawn, toks, os⟩ q (entsV toks l) ⟨h, gens, drawn, toks + 2 * l.length, os⟩ q
  | [], toks => Wn.pure
  | (k, x) :: l, toks => by
    have ih := Wn.evalPairs (gens := gens) (drawn := drawn) (os := os) (h := h) l (toks + 2)
    rw [show toks + 2 + 2 * l.length = toks + 2 * (l.length + 1) by omega] at ih
    show Wn p w (PySem.evalPairs (rowT q (k, x) :: l.map (rowT q))) (3 * (l.length + 1)) _ _ _ _ _
    unfold PySem.evalPairs
    refine Wn.of_eq (Wn.bind (n := 1) (m := 2 + 3 * l.length) Wn.row1 ?_) rfl (by omega)
    refine Wn.bind (n := 2) (m := 3 * l.length) (Wn.holding Wn.row2) ?_
    exact Wn.bind (n := 3 * l.length) (m := 0) (Wn.holding ih) Wn.pure
theorem Wn.loopS {A C : List Obj} {lf : Life} {gens : Array GenState} {drawn : Drawn} {os : OsState}
    (f : Value × Value → PUnit → Sem (ForInStep PUnit)) (hf : f = fun x _ => (do dictSet A.length x.1 x.2; Pure.pure (ForInStep.yield PUnit.unit))) :
    ∀ (l : List (Int × (Tok → Value))) (es : List DictEntry) (n t toks : Nat), es.length + l.length ≤ 1000 → (es.map (·.hash) ++ l.map fun r => hashInt r.1).Nodup →
      Wn p w (forIn (entsV t l) PUnit.unit f) (10 * l.length) ⟨hp A (dobj es n) C lf, gens, drawn, toks, os⟩ q PUnit.unit
        ⟨hp A (dobj (es ++ entsS t l) (n + l.length)) C lf, gens, drawn, toks + l.length, os⟩ q
  | [], es, n, t, toks, _, _ => by
    simp only [entsV, List.forIn_nil, entsS, List.append_nil, List.length_nil]
    exact Wn.pure
  | (k, x) :: l, es, n, t, toks, hz, hn => by
    rw [entsV, List.forIn_cons, hf]
    have hz' : es.length ≤ 1000 := by simp at hz; omega
    have ih := Wn.loopS (C := C) (lf := lf) (gens := gens) (drawn := drawn) (os := os) f hf l (es ++ [⟨hashInt k, .int k t, x (t + 1)⟩]) (n + 1) (t + 2) (toks + 1) (by simp at hz ⊢; omega) (by simpa using hn)
    refine Wn.of_eq (Wn.bind (n := 10) (m := 10 * l.length) (a := ForInStep.yield PUnit.unit) (s₁ := ⟨hp A (dobj (es ++ [⟨hashInt k, .int k t, x (t + 1)⟩]) (n + 1)) C lf, gens, drawn, toks + 1, os⟩) (pos₁ := q) ?_ ?_) rfl (by rw [List.length_cons]; omega)
    · exact Wn.bind (n := 10) (m := 0) (Wn.set hz' (nodup_cons_hash hn)) Wn.pure
    · have e1 : es ++ [⟨hashInt k, .int k t, x (t + 1)⟩] ++ entsS (t + 2) l = es ++ entsS t ((k, x) :: l) := by simp [entsS]
      rw [e1, show n + 1 + l.length = n + (l.length + 1) by omega, show toks + 1 + l.length = toks + (l.length + 1) by omega] at ih
      rw [← hf]
      exact ih
theorem Wn.subL {L : List Obj} {lf : Life} {gens : Array GenState} {drawn : Drawn} {os : OsState} {l : List (Int × (Tok → Value))} {toks : Nat} (h1 : 15 < l.length) (hz : l.length ≤ 1000) (hn : (l.map fun r => hashInt r.1).Nodup) :
    Wn p w (subDict (l.map (rowT q))) (2 + 13 * l.length) ⟨⟨L.toArray, lf⟩, gens, drawn, toks, os⟩ q L.length
      ⟨hp L (dobj (entsL toks l) l.length) [] lf, gens, drawn, toks + 3 * l.length, os⟩ q := by
  unfold subDict
  refine Wn.of_eq (Wn.bind (n := 1) (m := 1 + 13 * l.length) Wn.alloc ?_) rfl (by omega)
  have e1 : Heap.push ⟨L.toArray, lf⟩ { cls := .type "dict", data := .dict #[] } = hp L (dobj [] 0) [] lf := by simp [Heap.push, hp]
  have e2 : (Heap.mk L.toArray lf).objs.size = L.length := by simp
  dsimp only
  rw [e1, e2]
  refine Wn.bind (n := 1 + 13 * l.length) (m := 0) (a := ()) (Wn.holding ?_) Wn.pure
  rw [if_neg (by simpa using h1)]
  refine Wn.bind (n := 1) (m := 13 * l.length) Wn.rule ?_
  have := Wn.loopL (p := p) (w := w) (q := q) (A := L) (C := []) (lf := lf) (gens := gens) (drawn := drawn) (os := os) _ rfl l [] 0 toks (by simpa using hz) (by simpa using hn)
  simpa using this
theorem Wn.subS {L : List Obj} {lf : Life} {gens : Array GenState} {drawn : Drawn} {os : OsState} {l : List (Int × (Tok → Value))} {toks : Nat} (h1 : l.length ≤ 15) (hn : (l.map fun r => hashInt r.1).Nodup) :
    Wn p w (subDict (l.map (rowT q))) (1 + 13 * l.length) ⟨⟨L.toArray, lf⟩, gens, drawn, toks, os⟩ q L.length
      ⟨hp L (dobj (entsS toks l) l.length) [] lf, gens, drawn, toks + 3 * l.length, os⟩ q := by
  unfold subDict
  refine Wn.of_eq (Wn.bind (n := 1) (m := 13 * l.length) Wn.alloc ?_) rfl (by omega)
  have e1 : Heap.push ⟨L.toArray, lf⟩ { cls := .type "dict", data := .dict #[] } = hp L (dobj [] 0) [] lf := by simp [Heap.push, hp]
  have e2 : (Heap.mk L.toArray lf).objs.size = L.length := by simp
  dsimp only
  rw [e1, e2]
  refine Wn.bind (n := 13 * l.length) (m := 0) (a := ()) (Wn.holding ?_) Wn.pure
  rw [if_pos (by simpa using h1)]
  refine Wn.of_eq (Wn.bind (n := 3 * l.length) (m := 10 * l.length) (Wn.evalPairs l toks) (Wn.holding ?_)) rfl (by omega)
  have := Wn.loopS (p := p) (w := w) (q := q) (A := L) (C := []) (lf := lf) (gens := gens) (drawn := drawn) (os := os) _ rfl l [] 0 toks (toks + 2 * l.length) (by simp; omega) (by simpa using hn)
  rw [show toks + 2 * l.length + l.length = toks + 3 * l.length by omega] at this
  simpa using this
end
section
variable {p : Program} {w : World} {s : Shared} {q : Pos}

/-- turn by turn -/
theorem Wn.turns {A C : List Obj} {lf : Life} {gens : Array GenState} {drawn : Drawn} {toks : Nat} {os : OsState} {es' : List DictEntry} {n' : Nat} (f : Nat → PUnit → Sem (ForInStep PUnit))
    (hf : ∀ (i n : Nat) (es : List DictEntry) (h : i < es'.length), es.length ≤ 1000 → (∀ e ∈ es, e.hash ≠ es'[i].hash) →
      Wn p w (f i PUnit.unit) 6 ⟨hp A (dobj es n) (C ++ [dobj es' n']) lf, gens, drawn, toks, os⟩ q (ForInStep.yield PUnit.unit) ⟨hp A (dobj (es ++ [es'[i]]) (n + 1)) (C ++ [dobj es' n']) lf, gens, drawn, toks, os⟩ q) :
    ∀ (m k n : Nat) (es : List DictEntry), k + m = es'.length → es.length + m ≤ 1000 → ((es ++ es'.drop k).map (·.hash)).Nodup →
      Wn p w (forIn (List.range' k m) PUnit.unit f) (6 * m) ⟨hp A (dobj es n) (C ++ [dobj es' n']) lf, gens, drawn, toks, os⟩ q PUnit.unit
        ⟨hp A (dobj (es ++ es'.drop k) (n + m)) (C ++ [dobj es' n']) lf, gens, drawn, toks, os⟩ q
  | 0, k, n, es, hk, _, _ => by
    rw [List.drop_of_length_le (by omega)]
    simp only [List.range'_zero, List.forIn_nil, List.append_nil]
    exact Wn.pure
  | m + 1, k, n, es, hk, hz, hn => by
    have hlt : k < es'.length := by omega
    have hdrop : es'.drop k = es'[k] :: es'.drop (k + 1) := List.drop_eq_getElem_cons hlt
    have ih := Wn.turns f hf m (k + 1) (n + 1) (es ++ [es'[k]]) (by omega) (by simp; omega) (by rw [hdrop] at hn; simpa using hn)
    have e1 : es ++ [es'[k]] ++ es'.drop (k + 1) = es ++ es'.drop k := by rw [hdrop]; simp
    rw [e1, show n + 1 + m = n + (m + 1) by omega] at ih
    rw [List.range'_succ, List.forIn_cons]
    refine Wn.of_eq (Wn.bind (n := 6) (m := 6 * m) (a := ForInStep.yield PUnit.unit) (hf k n es hlt (by omega) ?_) ih) rfl (by omega)
    intro e he hh
    rw [hdrop, List.map_append, List.nodup_append] at hn
    exact hn.2.2 e.hash (List.mem_map.mpr ⟨e, he, rfl⟩) es'[k].hash (.head _) hh

theorem Wn.turns0 {A C : List Obj} {lf : Life} {gens : Array GenState} {drawn : Drawn} {toks : Nat} {os : OsState} {es' : List DictEntry} {n' : Nat} (f : Nat → PUnit → Sem (ForInStep PUnit))
    (hf : ∀ (i n : Nat) (es : List DictEntry) (h : i < es'.length), es.length ≤ 1000 → (∀ e ∈ es, e.hash ≠ es'[i].hash) →
      Wn p w (f i PUnit.unit) 6 ⟨hp A (dobj es n) (C ++ [dobj es' n']) lf, gens, drawn, toks, os⟩ q (ForInStep.yield PUnit.unit) ⟨hp A (dobj (es ++ [es'[i]]) (n + 1)) (C ++ [dobj es' n']) lf, gens, drawn, toks, os⟩ q)
    (n : Nat) (es : List DictEntry) (hz : es.length + es'.length ≤ 1000) (hn : ((es ++ es').map (·.hash)).Nodup) :
      Wn p w (forIn (List.range' 0 es'.length) PUnit.unit f) (6 * es'.length) ⟨hp A (dobj es n) (C ++ [dobj es' n']) lf, gens, drawn, toks, os⟩ q PUnit.unit
        ⟨hp A (dobj (es ++ es') (n + es'.length)) (C ++ [dobj es' n']) lf, gens, drawn, toks, os⟩ q := by
  have := Wn.turns f hf es'.length 0 n es (by omega) hz (by simpa using hn)
  rw [List.drop_zero] at this
  exact this

theorem Wn.merge {A C : List Obj} {lf : Life} {gens : Array GenState} {drawn : Drawn} {toks : Nat} {os : OsState} {es es' : List DictEntry} {n n' : Nat} (hint : ∀ e ∈ es', ∃ k t, e.key = .int k t) (h0 : es ≠ [])
    (hz : es.length + es'.length ≤ 1000) (hn : ((es ++ es').map (·.hash)).Nodup) (hs : (A.length + 1 + C.length == sysModules) = false) :
    Wn p w (mergeMapping A.length (.ref (A.length + 1 + C.length)) false) (5 + 6 * es'.length) ⟨hp A (dobj es n) (C ++ [dobj es' n']) lf, gens, drawn, toks, os⟩ q ()
        ⟨hp A (dobj (es ++ es') (n + es'.length)) (C ++ [dobj es' n']) lf, gens, drawn, toks, os⟩ q := by
  unfold mergeMapping
  have ty : Wn p w (typeOf (.ref (A.length + 1 + C.length))) 1 ⟨hp A (dobj es n) (C ++ [dobj es' n']) lf, gens, drawn, toks, os⟩ q (.type "dict") ⟨hp A (dobj es n) (C ++ [dobj es' n']) lf, gens, drawn, toks, os⟩ q := by
    unfold typeOf
    exact Wn.bind (n := 1) (m := 0) (Wn.load hp_get_last) Wn.pure
  have t1 : Wn p w (isInstance (.ref (A.length + 1 + C.length)) (.type "dict")) 1 ⟨hp A (dobj es n) (C ++ [dobj es' n']) lf, gens, drawn, toks, os⟩ q true ⟨hp A (dobj es n) (C ++ [dobj es' n']) lf, gens, drawn, toks, os⟩ q := by
    unfold isInstance
    refine Wn.bind (n := 1) (m := 0) ty ?_
    rw [sub_dict]; exact Wn.pure
  have t2 : Wn p w (specialOf (.ref (A.length + 1 + C.length)) "__iter__") 1 ⟨hp A (dobj es n) (C ++ [dobj es' n']) lf, gens, drawn, toks, os⟩ q (some (.builtin "dict.__iter__")) ⟨hp A (dobj es n) (C ++ [dobj es' n']) lf, gens, drawn, toks, os⟩ q := by
    unfold specialOf
    refine Wn.bind (n := 1) (m := 0) ty ?_
    rw [F.slot_dict_iter.lookup]; exact Wn.pure
  refine Wn.of_eq (Wn.bind (n := 1) (m := 4 + 6 * es'.length) t1 ?_) rfl (by omega)
  dsimp only
  rw [if_pos rfl]
  refine Wn.of_eq (Wn.bind (n := 1) (m := 3 + 6 * es'.length) t2 ?_) rfl (by omega)
  have et : (some (Value.builtin "dict.__iter__") == some (Value.builtin "dict.__iter__")) = true := beq_self_eq_true _
  rw [et]
  refine Wn.of_eq (Wn.bind (n := 0) (m := 3 + 6 * es'.length) Wn.pure ?_) rfl (by omega)
  dsimp only
  rw [if_neg (by rw [hs]; exact Bool.false_ne_true)]
  refine Wn.of_eq (Wn.bind (n := 1) (m := 2 + 6 * es'.length) (Wn.entries (es := es) (n := n) hp_get) ?_) rfl (by omega)
  rw [if_neg (by simpa using h0)]
  refine Wn.of_eq (Wn.bind (n := 1) (m := 1 + 6 * es'.length) (Wn.entries (es := es') (n := n') hp_get_last) ?_) rfl (by omega)
  refine Wn.of_eq (Wn.bind (n := 1) (m := 6 * es'.length) (Wn.epoch (es := es') (n := n') hp_get_last) ?_) rfl (by omega)
  refine Wn.of_eq (Wn.bind (n := 6 * es'.length) (m := 0) (a := PUnit.unit) (s₁ := ⟨hp A (dobj (es ++ es') (n + es'.length)) (C ++ [dobj es' n']) lf, gens, drawn, toks, os⟩) (pos₁ := q) ?_ Wn.pure) rfl rfl
  rw [show es'.toArray.size = es'.length by simp, List.range_eq_range']
  refine Wn.turns0 _ ?_ n es hz hn
  · skip
    intro i n es hlt hz hne
    obtain ⟨kk, t, hkey⟩ := hint es'[i] (List.getElem_mem hlt)
    refine Wn.bind (n := 1) (m := 5) (Wn.entries (es := es') (n := n') hp_get_last) ?_
    rw [show es'.toArray[i]? = some es'[i] by simp [hlt]]
    dsimp only
    refine Wn.bind (n := 4) (m := 1) (a := ()) (s₁ := ⟨hp A (dobj (es ++ [es'[i]]) (n + 1)) (C ++ [dobj es' n']) lf, gens, drawn, toks, os⟩) (pos₁ := q) (Wn.holding ?_) ?_
    · rw [if_neg Bool.false_ne_true]
      have := Wn.put (p := p) (w := w) (pos := q) (A := A) (C := C ++ [dobj es' n']) (lf := lf) (n := n) (k := kk) (h := es'[i].hash) (t := t) (v := es'[i].val) (gens := gens) (drawn := drawn) (toks := toks) (os := os) hz hne
      have e2 : (⟨es'[i].hash, .int kk t, es'[i].val⟩ : DictEntry) = es'[i] := by rw [← hkey]
      rw [e2] at this
      rw [hkey]
      exact this
    · refine Wn.bind (n := 1) (m := 0) (Wn.epoch (es := es') (n := n') hp_get_last) ?_
      rw [if_neg (by simp)]
      exact Wn.pure
end

abbrev Row := Int × (Tok → Value)
def item (q : Pos) (r : Row) : Option (Sem Value) × Sem Value := (some (rowT q r).1, (rowT q r).2)
abbrev St := Option Addr × List (Sem Value × Sem Value)
section
variable {q : Pos} {f : Option (Sem Value) × Sem Value → St → Sem (ForInStep St)} {G : List (Sem Value × Sem Value) → Option Addr → Sem (Option Addr)}

theorem gather17 (hf : ∀ r run main, run.length + 1 < 17 → f (item q r) (main, run) = Pure.pure (.yield (main, run ++ [rowT q r])))
    (hg : ∀ r run main, run.length + 1 = 17 → f (item q r) (main, run) = (G (run ++ [rowT q r]) main >>= fun m => Pure.pure (.yield (m, [])))) (rest : List (Option (Sem Value) × Sem Value)) (main : Option Addr) :
    ∀ (l : List Row) (run : List (Sem Value × Sem Value)), run.length + l.length = 17 → l ≠ [] → forIn (l.map (item q) ++ rest) (main, run) f = (G (run ++ l.map (rowT q)) main >>= fun m => forIn rest (m, []) f)
  | [], run, _, h => absurd rfl h
  | [r], run, h, _ => by
    rw [List.map_cons, List.map_nil, List.cons_append, List.nil_append, List.forIn_cons, hg r run main (by simpa using h), bind_assoc]
    simp only [pure_bind]
    rfl
  | r :: r' :: l, run, h, _ => by
    rw [List.map_cons, List.cons_append, List.forIn_cons, hf r run main (by simp at h; omega), pure_bind]
    have := gather17 hf hg rest main (r' :: l) (run ++ [rowT q r]) (by simp at h ⊢; omega) (by simp)
    simpa using this
theorem gatherS (hf : ∀ r run main, run.length + 1 < 17 → f (item q r) (main, run) = Pure.pure (.yield (main, run ++ [rowT q r]))) (main : Option Addr) :
    ∀ (l : List Row) (run : List (Sem Value × Sem Value)), run.length + l.length < 17 → forIn (l.map (item q)) (main, run) f = Pure.pure (main, run ++ l.map (rowT q))
  | [], run, _ => by simp
  | r :: l, run, h => by
    rw [List.map_cons, List.forIn_cons, hf r run main (by simp at h; omega), pure_bind]
    have := gatherS hf main l (run ++ [rowT q r]) (by simp at h ⊢; omega)
    simpa using this
end

def restEs : Nat → List (List Row) → List Row → List DictEntry
  | t, [], l => entsS t l
  | t, ch :: cs, l => entsL t ch ++ restEs (t + 51) cs l
def restSubs : Nat → List (List Row) → List Row → List Obj
  | t, [], l => [dobj (entsS t l) l.length]
  | t, ch :: cs, l => dobj (entsL t ch) 17 :: restSubs (t + 51) cs l
theorem entsL_int : ∀ (t : Nat) (l : List Row), ∀ e ∈ entsL t l, ∃ k t, e.key = .int k t
  | _, [], _, h => nomatch h
  | t, (k, x) :: r, e, h => by
    rcases List.mem_cons.mp h with rfl | h
    · exact ⟨k, t, rfl⟩
    · exact entsL_int _ r e h
theorem entsS_int : ∀ (t : Nat) (l : List Row), ∀ e ∈ entsS t l, ∃ k t, e.key = .int k t
  | _, [], _, h => nomatch h
  | t, (k, x) :: r, e, h => by
    rcases List.mem_cons.mp h with rfl | h
    · exact ⟨k, t, rfl⟩
    · exact entsS_int _ r e h

section
variable {p : Program} {w : World} {s : Shared} {q : Pos}

theorem Wn.flush {G : List (Sem Value × Sem Value) → Option Addr → Sem (Option Addr)} {x : Value → Sem Unit} {L C : List Obj} {lf : Life} {gens : Array GenState} {drawn : Drawn} {os : OsState}
    (hG : ∀ run d, run ≠ [] → G run (some d) = (do let sub ← PySem.holding [.ref d] (subDict run); (PySem.holding [.ref d, .ref sub] (mergeMapping d (.ref sub) false)).onRaise (fun e => do let _ ← PySem.holding [Value.ref d, e] (runValue (.builtin "proto.let_go" {}))); Pure.pure (some d)))
    {es : List DictEntry} {n t m : Nat} {l : List Row} {es' : List DictEntry} (h1 : l ≠ [])
    (hsub : ∀ L' : List Obj, Wn p w (subDict (l.map (rowT q))) m ⟨⟨L'.toArray, lf⟩, gens, drawn, t, os⟩ q L'.length ⟨hp L' (dobj es' l.length) [] lf, gens, drawn, t + 3 * l.length, os⟩ q)
    (hl : es'.length = l.length) (hint : ∀ e ∈ es', ∃ k t, e.key = .int k t) (h0 : es ≠ []) (hz : es.length + l.length ≤ 1000) (hn : ((es ++ es').map (·.hash)).Nodup) (hs : sysModules ≤ L.length) :
    Wn p w (G (l.map (rowT q)) (some L.length)) (m + (5 + 6 * l.length)) ⟨hp L (dobj es n) C lf, gens, drawn, t, os⟩ q (some L.length)
      ⟨hp L (dobj (es ++ es') (n + l.length)) (C ++ [dobj es' l.length]) lf, gens, drawn, t + 3 * l.length, os⟩ q := by
  rw [hG _ _ (by simpa using h1)]
  have e1 : hp L (dobj es n) C lf = ⟨(L ++ dobj es n :: C).toArray, lf⟩ := rfl
  have a1 : (L ++ dobj es n :: C).length = L.length + 1 + C.length := by simp; omega
  have s1 := hsub (L ++ dobj es n :: C)
  have e2 : hp (L ++ dobj es n :: C) (dobj es' l.length) [] lf = hp L (dobj es n) (C ++ [dobj es' l.length]) lf := by simp [hp]
  rw [a1, e2, ← e1] at s1
  refine Wn.bind (n := m) (m := 5 + 6 * l.length) (Wn.holding s1) ?_
  have mg := Wn.merge (p := p) (w := w) (q := q) (C := C) (lf := lf) (gens := gens) (drawn := drawn) (os := os) (toks := t + 3 * l.length) (n := n) (n' := l.length) hint h0 (by rw [hl]; exact hz) hn (by rw [beq_eq_false_iff_ne]; exact Nat.ne_of_gt (Nat.lt_of_le_of_lt hs (show L.length < L.length + 1 + C.length by omega)))
  rw [hl] at mg
  exact Wn.bind (n := 5 + 6 * l.length) (m := 0) (Wn.onRaise (Wn.holding mg)) Wn.pure

theorem Wn.rest {f : Option (Sem Value) × Sem Value → St → Sem (ForInStep St)} {G : List (Sem Value × Sem Value) → Option Addr → Sem (Option Addr)} {nd : Sem Value} {L : List Obj} {lf : Life} {gens : Array GenState} {drawn : Drawn} {os : OsState}
    (hf : ∀ r run main, run.length + 1 < 17 → f (item q r) (main, run) = Pure.pure (.yield (main, run ++ [rowT q r])))
    (hg : ∀ r run main, run.length + 1 = 17 → f (item q r) (main, run) = (G (run ++ [rowT q r]) main >>= fun m => Pure.pure (.yield (m, []))))
    (hG : ∀ run d, run ≠ [] → G run (some d) = (do let sub ← PySem.holding [.ref d] (subDict run); (PySem.holding [.ref d, .ref sub] (mergeMapping d (.ref sub) false)).onRaise (fun e => do let _ ← PySem.holding [Value.ref d, e] (runValue (.builtin "proto.let_go" {}))); Pure.pure (some d)))
    (hs : sysModules ≤ L.length) {l : List Row} (hl0 : l ≠ []) (hl : l.length ≤ 15) :
    ∀ (cs : List (List Row)) (es : List DictEntry) (n t : Nat) (C : List Obj), (∀ ch ∈ cs, ch.length = 17) → es ≠ [] → es.length + cs.flatten.length + l.length ≤ 1000 → (es.map (·.hash) ++ (cs.flatten ++ l).map fun r => hashInt r.1).Nodup →
      Wn p w (forIn ((cs.flatten ++ l).map (item q)) (some L.length, []) f >>= fun st => G st.2 st.1 >>= fun r => match r with | some d => Pure.pure (.ref d) | none => nd) (330 * cs.length + (6 + 19 * l.length))
        ⟨hp L (dobj es n) C lf, gens, drawn, t, os⟩ q (.ref L.length)
        ⟨hp L (dobj (es ++ restEs t cs l) (n + 17 * cs.length + l.length)) (C ++ restSubs t cs l) lf, gens, drawn, t + 51 * cs.length + 3 * l.length, os⟩ q
  | [], es, n, t, C, _, h0, hz, hn => by
    have hnl : (l.map fun r => hashInt r.1).Nodup := by
      rw [List.nodup_append] at hn; simpa using hn.2.1
    rw [List.flatten_nil, List.nil_append, gatherS hf (some L.length) l [] (by simp; omega), pure_bind]
    have := Wn.flush (p := p) (w := w) (q := q) (C := C) (lf := lf) (gens := gens) (drawn := drawn) (os := os) (t := t) (n := n) (es := es) (es' := entsS t l) (x := fun _ => Pure.pure ()) hG hl0
      (fun L' => Wn.subS hl hnl) (entsS_length t l) (entsS_int t l) h0 (by simpa using hz) (by rw [List.map_append, entsS_hash]; simpa using hn) hs
    simp only [List.nil_append]
    refine Wn.of_eq (Wn.bind (n := 1 + 13 * l.length + (5 + 6 * l.length)) (m := 0) this ?_) rfl (by simp; omega)
    simp only [restEs, restSubs, List.length_nil, Nat.mul_zero, Nat.add_zero]
    exact Wn.pure
  | ch :: cs, es, n, t, C, hc, h0, hz, hn => by
    have h17 : ch.length = 17 := hc ch (.head _)
    have hne : ch ≠ [] := by intro e; rw [e] at h17; cases h17
    have hn' : (es.map (·.hash) ++ (ch.map fun r => hashInt r.1) ++ (cs.flatten ++ l).map fun r => hashInt r.1).Nodup := by simpa using hn
    have hnl : (ch.map fun r => hashInt r.1).Nodup := by
      have := (List.nodup_append.mp hn').1
      exact (List.nodup_append.mp this).2.1
    have hz' : es.length + (17 + cs.flatten.length) + l.length ≤ 1000 := by rw [List.flatten_cons, List.length_append, h17] at hz; exact hz
    have e1 : ((ch :: cs).flatten ++ l).map (item q) = ch.map (item q) ++ (cs.flatten ++ l).map (item q) := by simp
    rw [e1, gather17 hf hg _ _ ch [] (by simpa using h17) hne, List.nil_append, bind_assoc]
    have := Wn.flush (p := p) (w := w) (q := q) (C := C) (lf := lf) (gens := gens) (drawn := drawn) (os := os) (t := t) (n := n) (es := es) (es' := entsL t ch) (x := fun _ => Pure.pure ()) hG hne
      (fun L' => Wn.subL (by omega) (by omega) hnl) (entsL_length t ch) (entsL_int t ch) h0 (by omega) (by rw [List.map_append, entsL_hash]; exact (List.nodup_append.mp hn').1) hs
    have ih := Wn.rest hf hg hG hs hl0 hl cs (es ++ entsL t ch) (n + 17) (t + 51) (C ++ [dobj (entsL t ch) 17]) (fun x hx => hc x (.tail _ hx)) (by simp [h0]) (by rw [List.length_append, entsL_length]; omega) (by rw [List.map_append, entsL_hash]; exact hn') (nd := nd) (lf := lf) (gens := gens) (drawn := drawn) (os := os)
    rw [h17] at this
    refine Wn.of_eq (Wn.bind (n := 330) (m := 330 * cs.length + (6 + 19 * l.length)) this ?_) rfl (by rw [List.length_cons]; omega)
    have e2 : es ++ entsL t ch ++ restEs (t + 51) cs l = es ++ restEs t (ch :: cs) l := by simp [restEs]
    have e3 : C ++ [dobj (entsL t ch) 17] ++ restSubs (t + 51) cs l = C ++ restSubs t (ch :: cs) l := by simp [restSubs]
    rw [e2, e3, show n + 17 + 17 * cs.length + l.length = n + 17 * (ch :: cs).length + l.length by rw [List.length_cons]; omega, show t + 51 + 51 * cs.length + 3 * l.length = t + 51 * (ch :: cs).length + 3 * l.length by rw [List.length_cons]; omega] at ih
    exact ih

/-- the whole display: a first part of seventeen rows, further such parts, the rest -/
theorem Wn.display {L : List Obj} {lf : Life} {gens : Array GenState} {drawn : Drawn} {os : OsState} (hs : sysModules ≤ L.length) {ch : List Row} {cs : List (List Row)} {l : List Row} {t : Nat}
    (h17 : ch.length = 17) (hc : ∀ x ∈ cs, x.length = 17) (hl0 : l ≠ []) (hl : l.length ≤ 15) (hz : 17 + cs.flatten.length + l.length ≤ 1000) (hn : ((ch ++ (cs.flatten ++ l)).map fun r => hashInt r.1).Nodup) :
    Wn p w (dictDisplay ((ch ++ (cs.flatten ++ l)).map (item q))) (223 + (330 * cs.length + (6 + 19 * l.length))) ⟨⟨L.toArray, lf⟩, gens, drawn, t, os⟩ q (.ref L.length)
      ⟨hp L (dobj (entsL t ch ++ restEs (t + 51) cs l) (17 + 17 * cs.length + l.length)) (restSubs (t + 51) cs l) lf, gens, drawn, t + 51 + 51 * cs.length + 3 * l.length, os⟩ q := by
  have hne : ch ≠ [] := by intro e; rw [e] at h17; cases h17
  have hnl : (ch.map fun r => hashInt r.1).Nodup := by
    rw [List.map_append] at hn
    exact (List.nodup_append.mp hn).1
  unfold dictDisplay
  dsimp only
  rw [List.map_append]
  rw [gather17 (q := q) (G := fun run main => if run.isEmpty = true then Pure.pure main else match main with
      | none => do let d ← subDict run; Pure.pure (some d)
      | some d => (do let sub ← PySem.holding [.ref d] (subDict run); (PySem.holding [.ref d, .ref sub] (mergeMapping d (.ref sub) false)).onRaise (fun e => do let _ ← PySem.holding [Value.ref d, e] (runValue (.builtin "proto.let_go" {}))); Pure.pure (some d)))
    (fun r run main h => by
      have hne : ((run ++ [((rowT q r).1, (rowT q r).2)]).length == 17) = false := by simp; omega
      simp only [item, hne, Bool.false_eq_true, if_false])
    (fun r run main h => by
      have hne : ((run ++ [((rowT q r).1, (rowT q r).2)]).length == 17) = true := by simp; omega
      simp only [item, hne, if_true]
      rfl) _ _ ch [] (by simpa using h17) hne, List.nil_append, bind_assoc]
  rw [if_neg (by simpa using hne)]
  dsimp only
  have s1 := Wn.subL (L := L) (p := p) (w := w) (q := q) (lf := lf) (gens := gens) (drawn := drawn) (os := os) (toks := t) (l := ch) (by omega) (by omega) hnl
  rw [h17] at s1
  refine Wn.bind (n := 223) (m := 330 * cs.length + (6 + 19 * l.length)) (a := some L.length) (Wn.bind (n := 223) (m := 0) s1 Wn.pure) ?_
  have r := fun (f : Option (Sem Value) × Sem Value → St → Sem (ForInStep St)) (G : List (Sem Value × Sem Value) → Option Addr → Sem (Option Addr)) (nd : Sem Value) hf hg hG =>
    Wn.rest (p := p) (w := w) (q := q) (f := f) (G := G) (nd := nd) (lf := lf) (gens := gens) (drawn := drawn) (os := os) hf hg hG hs hl0 hl cs (entsL t ch) 17 (t + 51) [] hc
      (by intro e; have := entsL_length t ch; rw [e, h17] at this; cases this) (by rw [entsL_length, h17]; exact hz) (by rw [entsL_hash]; simpa using hn)
  refine r _ (fun run main => if run.isEmpty = true then Pure.pure main else match main with
      | none => do let d ← subDict run; Pure.pure (some d)
      | some d => (do let sub ← PySem.holding [.ref d] (subDict run); (PySem.holding [.ref d, .ref sub] (mergeMapping d (.ref sub) false)).onRaise (fun e => do let _ ← PySem.holding [Value.ref d, e] (runValue (.builtin "proto.let_go" {}))); Pure.pure (some d))) newDict ?_ ?_ ?_
  · intro r run main h
    have hne : ((run ++ [((rowT q r).1, (rowT q r).2)]).length == 17) = false := by simp; omega
    simp only [item, hne, Bool.false_eq_true, if_false]
  · intro r run main h
    have hne : ((run ++ [((rowT q r).1, (rowT q r).2)]).length == 17) = true := by simp; omega
    simp only [item, hne, if_true]
    rfl
  · intro run d h
    rw [if_neg (by simpa using h)]
end
end Mine.V
namespace Mine
open PySem PySem.W PySem.Calls PyProof.Rows
/-- a row of texts as a row of values -/
def vr (r : Row) : V.Row := (r.1, Value.str r.2)
theorem vitem (q : Pos) (r : Row) : item q r = V.item q (vr r) := rfl
theorem vrow (q : Pos) (r : Row) : rowT q r = V.rowT q (vr r) := rfl
section
variable {p : Program} {w : World} {A : Around} {E : Value → Shared → Prop} {s : Shared}
/-- a display of sixteen rows -/
theorem Dict16 {ks : List (Option Expr)} {vs : List Expr} {pos : Pos} {env : Env} {rs : List Row} {Q : Value → Shared → Prop} (h : rowsOf ks vs = some rs) (hl : rs.length = 16) (hn : (rs.map fun r => hashInt r.1).Nodup)
    (hq : Q (.ref s.heap.objs.size) { s with heap := s.heap.push (dobj (V.entsL s.toks (rs.map vr)) 16), toks := s.toks + 48 }) : wpAny (model p w) A (eval (.Dict ks vs pos) env) Q E s := by
  rw [arm_eval_Dict, rows_items env pos ks vs rs h]
  have e : rs.map (item pos) = (rs.map (rowT pos)).map fun x => (some x.1, x.2) := by rw [List.map_map]; rfl
  rw [e, dictDisplay_pairs _ (by intro z; have := congrArg List.length z; rw [List.length_map, hl] at this; cases this) (by rw [List.length_map, hl]; decide)]
  refine wpAny_bind (wpAny_standAt ?_)
  obtain ⟨⟨⟨L⟩, lf⟩, gens, drawn, toks, os⟩ := s
  have d := V.Wn.subL (p := p) (w := w) (q := pos) (L := L) (lf := lf) (gens := gens) (drawn := drawn) (os := os) (l := rs.map vr) (toks := toks) (by rw [List.length_map, hl]; decide) (by rw [List.length_map, hl]; decide) (by rw [List.map_map]; exact hn)
  rw [List.length_map, hl, List.map_map] at d
  have e2 : hp L (dobj (V.entsL toks (rs.map vr)) 16) [] lf = Heap.push ⟨⟨L⟩, lf⟩ (dobj (V.entsL toks (rs.map vr)) 16) := by simp [hp, Heap.push]
  rw [e2] at d
  exact wpAny_bind (d A _ E (wpAny_pure hq))
end
end Mine
set_option Elab.async false
namespace Mine
open PySem PySem.W PySem.Calls PyProof.Rows PySem.Spec
set_option maxRecDepth 100000
/-! the table, as the walk reads it -/
inductive Ents : List DictEntry → List Row → Prop
  | nil : Ents [] []
  | cons {k : Int} {x : Str} {t u : Tok} {es : List DictEntry} {rs : List Row} : Ents es rs → Ents (⟨hashInt k, .int k t, .str x u⟩ :: es) ((k, x) :: rs)
theorem Ents.append {es es' : List DictEntry} {rs rs' : List Row} (h : Ents es rs) (h' : Ents es' rs') : Ents (es ++ es') (rs ++ rs') := by
  induction h with
  | nil => exact h'
  | cons _ ih => exact .cons ih
theorem entsL_ents : ∀ (t : Nat) (l : List Row), Ents (entsL t l) l
  | _, [] => .nil
  | t, (_, _) :: r => .cons (entsL_ents (t + 3) r)
theorem entsS_ents : ∀ (t : Nat) (l : List Row), Ents (entsS t l) l
  | _, [] => .nil
  | t, (_, _) :: r => .cons (entsS_ents (t + 2) r)
theorem restEs_ents : ∀ (cs : List (List Row)) (t : Nat) (l : List Row), Ents (restEs t cs l) (cs.flatten ++ l)
  | [], t, l => entsS_ents t l
  | ch :: cs, t, l => by
    rw [List.flatten_cons, List.append_assoc]
    exact (entsL_ents t ch).append (restEs_ents cs (t + 51) l)
def tabD (rs : List Row) : List (PyData × PyData) := rs.map fun r => (PyData.int r.1, PyData.str r.2)
theorem Ents.tab {es : List DictEntry} {rs : List Row} {prog : Program} {w : World} (h : Ents es rs) : ∃ kvs : List (Int × Value), Pairs (intKind prog w) es kvs ∧ kvs.map (·.1) = rs.map (·.1) ∧ PyProof.V.FlatPairs PyData.int kvs (tabD rs) ∧ KeysOf (intKind prog w) es.toArray := by
  induction h with
  | nil => exact ⟨[], .nil, rfl, .nil, fun e he => by simp at he⟩
  | @cons k x t u es rs _ ih =>
    obtain ⟨kvs, a, b, c, d⟩ := ih
    refine ⟨(k, .str x u) :: kvs, .cons (by exact intKind_is prog w k t) rfl a, by simp [b], .cons (PyProof.V.Flat.str x u) c, fun e he => ?_⟩
    rcases List.mem_cons.mp (by simpa using he) with rfl | he
    · exact ⟨k, intKind_is prog w k t, rfl⟩
    · exact d e (by simpa using he)
theorem tab_look (c : Int) : ∀ rs : List Row, PySem.Spec.lookup (.int c) (tabD rs) = ((rs.find? fun r => r.1 == c).map (·.2)).map PyData.str
  | [] => rfl
  | (k, x) :: rs => by
    show (if PySem.Spec.same (.int k) (.int c) then some (PyData.str x) else PySem.Spec.lookup (.int c) (tabD rs)) = _
    rw [tab_look c rs, List.find?_cons]
    have e : PySem.Spec.same (.int k) (.int c) = (k == c) := by rw [PyProof.V.same_int]; rfl
    rw [e]
    cases h : k == c <;> simp
theorem entsV_ents : ∀ (t : Nat) (rs : List Row), Ents (V.entsL t (rs.map vr)) rs
  | _, [] => .nil
  | t, (_, _) :: r => .cons (entsV_ents (t + 3) r)
theorem ents_tab {prog : Program} {w : World} {h : Heap} {d : Addr} {es : List DictEntry} {rs : List Row} {n : Nat} (he : Ents es rs) (hn : (rs.map (·.1)).Nodup) (ho : h.get? d = some (dobj es n)) (hd : (d == sysModules) = false) : IntTab prog w h d (tabD rs) := by
  obtain ⟨kvs, a, b, c, e⟩ := he.tab (prog := prog) (w := w)
  exact ⟨hd, kvs, ⟨_, _, _, ho, ⟨rfl, rfl, rfl⟩, rfl, e, by simpa using a, by rw [b]; exact hn⟩, c⟩
theorem rises_nodup {lo : Nat} {rs : List Row} (h : rises lo rs = true) : (rs.map (·.1)).Nodup := by
  have h := (rises_spec h).2
  have h' : ((rs.map (·.1)).map hashInt).Nodup := by rw [List.map_map]; exact h
  exact List.Pairwise.of_map hashInt (fun a b hn e => hn (by rw [e])) h'
section
variable {prog : Program} {w : World} {A : Around} {E : Value → Shared → Prop} {s : Shared} {h₀ : Heap} {L : Addr} {m : Str → Option Value} {news : List (Addr × Obj)}
theorem dict16_K {ks : List (Option Expr)} {vs : List Expr} {pos : Pos} {env : Env} {Q : Value → Shared → Prop} (rs : List Row) (F : Fr h₀ L s.heap m) (N : News h₀ L s.heap news) (h : rowsOf ks vs = some rs) (hl : rs.length = 16) (hr : rises 0 rs = true)
    (hq : ∀ t h' tk, Fr h₀ L h' m → News h₀ L h' ((s.heap.objs.size, dobj (V.entsL t (rs.map vr)) 16) :: news) → L < s.heap.objs.size → Q (.ref s.heap.objs.size) { s with heap := h', toks := tk }) :
    wpAny (model prog w) A (eval (.Dict ks vs pos) env) Q E s :=
  Dict16 h hl (rises_spec hr).2 (hq _ _ _ (F.push _) (N.push F _) F.ns.lt)
end
end Mine
set_option Elab.async false
namespace Mine
open PySem PySem.W PySem.Calls PyProof.Rows
abbrev pg : Program := PySem.Challenge.pw_mj0337_04
abbrev bd : List Stmt := behindTheImports pg
abbrev env : Env := { scope := pg.main.scope, locals := mainNs, globals := mainNs, cells := [], code := .ref 13, frame := some 14 }
abbrev cdB : Code := .body bd env
abbrev p0 : Pos := ⟨0, 0, 0, 0⟩
abbrev BB : List Frame := [topFrame p0]
def st (i : Nat) : Stmt := (pg.main.body[i]?).getD (.Pass p0)
def fargs : Stmt → Arguments
  | .FunctionDef _ a _ _ _ _ _ _ _ _ => a
  | _ => ⟨[], [], none, [], [], none, []⟩
def fbody : Stmt → FuncBody
  | .FunctionDef _ _ b _ _ _ _ _ _ _ => .stmts b
  | _ => .stmts []
def fscope : Stmt → Scope
  | .FunctionDef _ _ _ _ _ _ s _ _ _ => s
  | _ => { kind := .function, names := [], isGenerator := false, isCoroutine := false, more := [] }
abbrev fa2 : Arguments := fargs (st 2)
abbrev fb2 : FuncBody := fbody (st 2)
abbrev fs2 : Scope := fscope (st 2)
abbrev fa4 : Arguments := fargs (st 4)
abbrev fb4 : FuncBody := fbody (st 4)
abbrev fs4 : Scope := fscope (st 4)
abbrev fa5 : Arguments := fargs (st 5)
abbrev fb5 : FuncBody := fbody (st 5)
abbrev fs5 : Scope := fscope (st 5)
abbrev fa6 : Arguments := fargs (st 6)
abbrev fb6 : FuncBody := fbody (st 6)
abbrev fs6 : Scope := fscope (st 6)
abbrev fa7 : Arguments := fargs (st 7)
abbrev fb7 : FuncBody := fbody (st 7)
abbrev fs7 : Scope := fscope (st 7)
def oA11 : Obj := { cls := Value.type "tuple", data := Data.seq #[] }
def oA12 : Obj := { cls := Value.none, data := Data.fields #[] }
def oA13 : Obj := { cls := Value.type "code", data := Data.fields #[Value.str (Str.ofString "<module>") 182, Value.str (Str.ofString "<module>") 183, Value.str (Str.ofString "/claim/cut.py") 184, Value.int 1 0, Value.int 0 0, Value.int 0 0, Value.int 0 0, Value.int 0 0, Value.ref 11, Value.bool false, Value.int 181 0, Value.ref 12, Value.none, Value.none, Value.none, Value.none, Value.int 185 0, Value.int 1 0, Value.str (Str.ofString "/claim/cut.py") 186] }
def oA14 : Obj := { cls := Value.type "frame", slots := #[some (Value.ref 13), some (Value.ref 3), some (Value.ref 3), none, some (Value.str (Str.ofString "__main__") 164), none, some (Value.ref 0)] }
noncomputable def oM1 (P : Params) : Obj := { cls := Value.type "dict", data := Data.dict #[{ hash := PyData.keyHash P (Str.ofString "__name__"), key := Value.str (Str.ofString "__name__") 165, val := Value.str (Str.ofString "cpy313.stringprep") 187 }, { hash := PyData.keyHash P (Str.ofString "__doc__"), key := Value.str (Str.ofString "__doc__") 166, val := Value.none }, { hash := PyData.keyHash P (Str.ofString "__package__"), key := Value.str (Str.ofString "__package__") 167, val := Value.none }, { hash := PyData.keyHash P (Str.ofString "__loader__"), key := Value.str (Str.ofString "__loader__") 168, val := Value.builtin "__main__.__loader__#opaque" }, { hash := PyData.keyHash P (Str.ofString "__spec__"), key := Value.str (Str.ofString "__spec__") 169, val := Value.none }, { hash := PyData.keyHash P (Str.ofString "__annotations__"), key := Value.str (Str.ofString "__annotations__") 170, val := Value.ref 6 }, { hash := PyData.keyHash P (Str.ofString "__builtins__"), key := Value.str (Str.ofString "__builtins__") 171, val := Value.ref 4 }, { hash := PyData.keyHash P (Str.ofString "__file__"), key := Value.str (Str.ofString "__file__") 173, val := Value.str (Str.ofString "/claim/cut.py") 172 }, { hash := PyData.keyHash P (Str.ofString "__cached__"), key := Value.str (Str.ofString "__cached__") 174, val := Value.none }] 9 }
noncomputable def oM2 (P : Params) : Obj := { cls := Value.type "dict", data := Data.dict #[{ hash := PyData.keyHash P (Str.ofString "__name__"), key := Value.str (Str.ofString "__name__") 165, val := Value.str (Str.ofString "cpy313.stringprep") 187 }, { hash := PyData.keyHash P (Str.ofString "__doc__"), key := Value.str (Str.ofString "__doc__") 166, val := Value.none }, { hash := PyData.keyHash P (Str.ofString "__package__"), key := Value.str (Str.ofString "__package__") 167, val := Value.none }, { hash := PyData.keyHash P (Str.ofString "__loader__"), key := Value.str (Str.ofString "__loader__") 168, val := Value.builtin "__main__.__loader__#opaque" }, { hash := PyData.keyHash P (Str.ofString "__spec__"), key := Value.str (Str.ofString "__spec__") 169, val := Value.none }, { hash := PyData.keyHash P (Str.ofString "__annotations__"), key := Value.str (Str.ofString "__annotations__") 170, val := Value.ref 6 }, { hash := PyData.keyHash P (Str.ofString "__builtins__"), key := Value.str (Str.ofString "__builtins__") 171, val := Value.ref 4 }, { hash := PyData.keyHash P (Str.ofString "__file__"), key := Value.str (Str.ofString "__file__") 173, val := Value.str (Str.ofString "/claim/cut.py") 172 }, { hash := PyData.keyHash P (Str.ofString "__cached__"), key := Value.str (Str.ofString "__cached__") 174, val := Value.none }, { hash := PyData.keyHash P (Str.ofString "b3_exceptions"), key := Value.str (Str.ofString "b3_exceptions") 2139, val := Value.ref 15 }] 10 }
noncomputable def oMf (P : Params) : Obj := { cls := Value.type "dict", data := Data.dict #[{ hash := PyData.keyHash P (Str.ofString "__name__"), key := Value.str (Str.ofString "__name__") 165, val := Value.str (Str.ofString "law_mj0337_04") 2148 }, { hash := PyData.keyHash P (Str.ofString "__doc__"), key := Value.str (Str.ofString "__doc__") 166, val := Value.none }, { hash := PyData.keyHash P (Str.ofString "__package__"), key := Value.str (Str.ofString "__package__") 167, val := Value.none }, { hash := PyData.keyHash P (Str.ofString "__loader__"), key := Value.str (Str.ofString "__loader__") 168, val := Value.builtin "__main__.__loader__#opaque" }, { hash := PyData.keyHash P (Str.ofString "__spec__"), key := Value.str (Str.ofString "__spec__") 169, val := Value.none }, { hash := PyData.keyHash P (Str.ofString "__annotations__"), key := Value.str (Str.ofString "__annotations__") 170, val := Value.ref 6 }, { hash := PyData.keyHash P (Str.ofString "__builtins__"), key := Value.str (Str.ofString "__builtins__") 171, val := Value.ref 4 }, { hash := PyData.keyHash P (Str.ofString "__file__"), key := Value.str (Str.ofString "__file__") 173, val := Value.str (Str.ofString "/claim/cut.py") 172 }, { hash := PyData.keyHash P (Str.ofString "__cached__"), key := Value.str (Str.ofString "__cached__") 174, val := Value.none }, { hash := PyData.keyHash P (Str.ofString "b3_exceptions"), key := Value.str (Str.ofString "b3_exceptions") 2139, val := Value.ref 15 }, { hash := PyData.keyHash P (Str.ofString "map_table_b3"), key := Value.str (Str.ofString "map_table_b3") 2147, val := Value.ref 60 }, { hash := PyData.keyHash P (Str.ofString "_law_runs"), key := Value.str (Str.ofString "_law_runs") 2155, val := Value.ref 67 }, { hash := PyData.keyHash P (Str.ofString "_law_told"), key := Value.str (Str.ofString "_law_told") 2161, val := Value.ref 74 }, { hash := PyData.keyHash P (Str.ofString "_law_left_out"), key := Value.str (Str.ofString "_law_left_out") 2168, val := Value.ref 81 }, { hash := PyData.keyHash P (Str.ofString "law"), key := Value.str (Str.ofString "law") 2174, val := Value.ref 86 }] 15 }
def oF12 : Obj := { cls := Value.none, data := Data.fields #[Value.int 3 0, Value.int 0 0, Value.ref 59, Value.int 9 0, Value.int 0 0, Value.ref 66, Value.int 11 0, Value.int 0 0, Value.ref 73, Value.int 13 0, Value.int 0 0, Value.ref 80, Value.int 15 0, Value.int 0 0, Value.ref 85] }
noncomputable def oN54 : Obj := { cls := Value.type "tuple", data := Data.seq #[] }
noncomputable def oN55 : Obj := { cls := Value.none, data := Data.fields #[] }
noncomputable def oN56 : Obj := { cls := Value.type "tuple", data := Data.seq #[Value.str (Str.ofString "code") 2143, Value.str (Str.ofString "r") 2144] }
noncomputable def oN57 : Obj := { cls := Value.type "tuple", data := Data.seq #[] }
noncomputable def oN58 : Obj := { cls := Value.none, data := Data.func { name := Str.ofString "map_table_b3", qualname := Str.ofString "map_table_b3", params := fa2, body := fb2, scope := fs2, globals := 0, closure := [], defaults := Value.none, kwdefaults := Value.none } }
noncomputable def oN59 : Obj := { cls := Value.type "code", data := Data.fields #[Value.str (Str.ofString "map_table_b3") 2140, Value.str (Str.ofString "map_table_b3") 2141, Value.str (Str.ofString "/claim/cut.py") 2142, Value.int 3 0, Value.int 1 0, Value.int 0 0, Value.int 0 0, Value.int 3 0, Value.ref 54, Value.bool true, Value.int 181 0, Value.ref 55, Value.none, Value.ref 56, Value.ref 57, Value.ref 58, Value.int 2145 0, Value.int 3 0, Value.str (Str.ofString "/claim/cut.py") 2146] }
noncomputable def oN60 : Obj := { cls := Value.type "function", data := Data.func { name := Str.ofString "map_table_b3", qualname := Str.ofString "map_table_b3", params := fa2, body := fb2, scope := fs2, globals := 3, closure := [], defaults := Value.none, kwdefaults := Value.none, pyModule := Value.str (Str.ofString "cpy313.stringprep") 187, code := Value.ref 59 } }
noncomputable def oN61 : Obj := { cls := Value.type "tuple", data := Data.seq #[] }
noncomputable def oN62 : Obj := { cls := Value.none, data := Data.fields #[] }
noncomputable def oN63 : Obj := { cls := Value.type "tuple", data := Data.seq #[] }
noncomputable def oN64 : Obj := { cls := Value.type "tuple", data := Data.seq #[] }
noncomputable def oN65 : Obj := { cls := Value.none, data := Data.func { name := Str.ofString "_law_runs", qualname := Str.ofString "_law_runs", params := fa4, body := fb4, scope := fs4, globals := 0, closure := [], defaults := Value.none, kwdefaults := Value.none } }
noncomputable def oN66 : Obj := { cls := Value.type "code", data := Data.fields #[Value.str (Str.ofString "_law_runs") 2150, Value.str (Str.ofString "_law_runs") 2151, Value.str (Str.ofString "/claim/cut.py") 2152, Value.int 9 0, Value.int 0 0, Value.int 0 0, Value.int 0 0, Value.int 3 0, Value.ref 61, Value.bool true, Value.int 181 0, Value.ref 62, Value.none, Value.ref 63, Value.ref 64, Value.ref 65, Value.int 2153 0, Value.int 9 0, Value.str (Str.ofString "/claim/cut.py") 2154] }
noncomputable def oN67 : Obj := { cls := Value.type "function", data := Data.func { name := Str.ofString "_law_runs", qualname := Str.ofString "_law_runs", params := fa4, body := fb4, scope := fs4, globals := 3, closure := [], defaults := Value.none, kwdefaults := Value.none, pyModule := Value.str (Str.ofString "law_mj0337_04") 2148, code := Value.ref 66 } }
noncomputable def oN68 : Obj := { cls := Value.type "tuple", data := Data.seq #[] }
noncomputable def oN69 : Obj := { cls := Value.none, data := Data.fields #[] }
noncomputable def oN70 : Obj := { cls := Value.type "tuple", data := Data.seq #[] }
noncomputable def oN71 : Obj := { cls := Value.type "tuple", data := Data.seq #[] }
noncomputable def oN72 : Obj := { cls := Value.none, data := Data.func { name := Str.ofString "_law_told", qualname := Str.ofString "_law_told", params := fa5, body := fb5, scope := fs5, globals := 0, closure := [], defaults := Value.none, kwdefaults := Value.none } }
noncomputable def oN73 : Obj := { cls := Value.type "code", data := Data.fields #[Value.str (Str.ofString "_law_told") 2156, Value.str (Str.ofString "_law_told") 2157, Value.str (Str.ofString "/claim/cut.py") 2158, Value.int 11 0, Value.int 0 0, Value.int 0 0, Value.int 0 0, Value.int 3 0, Value.ref 68, Value.bool true, Value.int 181 0, Value.ref 69, Value.none, Value.ref 70, Value.ref 71, Value.ref 72, Value.int 2159 0, Value.int 11 0, Value.str (Str.ofString "/claim/cut.py") 2160] }
noncomputable def oN74 : Obj := { cls := Value.type "function", data := Data.func { name := Str.ofString "_law_told", qualname := Str.ofString "_law_told", params := fa5, body := fb5, scope := fs5, globals := 3, closure := [], defaults := Value.none, kwdefaults := Value.none, pyModule := Value.str (Str.ofString "law_mj0337_04") 2148, code := Value.ref 73 } }
noncomputable def oN75 : Obj := { cls := Value.type "tuple", data := Data.seq #[] }
noncomputable def oN76 : Obj := { cls := Value.none, data := Data.fields #[] }
noncomputable def oN77 : Obj := { cls := Value.type "tuple", data := Data.seq #[Value.str (Str.ofString "code") 2165] }
noncomputable def oN78 : Obj := { cls := Value.type "tuple", data := Data.seq #[] }
noncomputable def oN79 : Obj := { cls := Value.none, data := Data.func { name := Str.ofString "_law_left_out", qualname := Str.ofString "_law_left_out", params := fa6, body := fb6, scope := fs6, globals := 0, closure := [], defaults := Value.none, kwdefaults := Value.none } }
noncomputable def oN80 : Obj := { cls := Value.type "code", data := Data.fields #[Value.str (Str.ofString "_law_left_out") 2162, Value.str (Str.ofString "_law_left_out") 2163, Value.str (Str.ofString "/claim/cut.py") 2164, Value.int 13 0, Value.int 1 0, Value.int 0 0, Value.int 0 0, Value.int 3 0, Value.ref 75, Value.bool true, Value.int 181 0, Value.ref 76, Value.none, Value.ref 77, Value.ref 78, Value.ref 79, Value.int 2166 0, Value.int 13 0, Value.str (Str.ofString "/claim/cut.py") 2167] }
noncomputable def oN81 : Obj := { cls := Value.type "function", data := Data.func { name := Str.ofString "_law_left_out", qualname := Str.ofString "_law_left_out", params := fa6, body := fb6, scope := fs6, globals := 3, closure := [], defaults := Value.none, kwdefaults := Value.none, pyModule := Value.str (Str.ofString "law_mj0337_04") 2148, code := Value.ref 80 } }
noncomputable def oN82 : Obj := { cls := Value.type "tuple", data := Data.seq #[] }
noncomputable def oN83 : Obj := { cls := Value.none, data := Data.fields #[] }
noncomputable def oN84 : Obj := { cls := Value.none, data := Data.func { name := Str.ofString "law", qualname := Str.ofString "law", params := fa7, body := fb7, scope := fs7, globals := 0, closure := [], defaults := Value.none, kwdefaults := Value.none } }
noncomputable def oN85 : Obj := { cls := Value.type "code", data := Data.fields #[Value.str (Str.ofString "law") 2169, Value.str (Str.ofString "law") 2170, Value.str (Str.ofString "/claim/cut.py") 2171, Value.int 15 0, Value.int 1 0, Value.int 0 0, Value.int 0 0, Value.int 3 0, Value.ref 82, Value.bool true, Value.int 181 0, Value.ref 83, Value.none, Value.none, Value.none, Value.ref 84, Value.int 2172 0, Value.int 15 0, Value.str (Str.ofString "/claim/cut.py") 2173] }
noncomputable def oN86 : Obj := { cls := Value.type "function", data := Data.func { name := Str.ofString "law", qualname := Str.ofString "law", params := fa7, body := fb7, scope := fs7, globals := 3, closure := [], defaults := Value.none, kwdefaults := Value.none, pyModule := Value.str (Str.ofString "law_mj0337_04") 2148, code := Value.ref 85 } }
noncomputable def news : List Obj := [oN54, oN55, oN56, oN57, oN58, oN59, oN60, oN61, oN62, oN63, oN64, oN65, oN66, oN67, oN68, oN69, oN70, oN71, oN72, oN73, oN74, oN75, oN76, oN77, oN78, oN79, oN80, oN81, oN82, oN83, oN84, oN85, oN86]
/-- the boot's objects and the block's own; the main dict and the codes' list change -/
noncomputable def L15 (P : Params) (o3 o12 : Obj) : List Obj := [boot_o_0 P, boot_o_1 P, boot_o_2 P, o3, boot_o_4 P, boot_o_5 P, boot_o_6 P, boot_o_7 P, boot_o_8 P, boot_o_9 P, boot_o_10 P, oA11, o12, oA13, oA14]
/-- the table's rows, read off the text -/
def dks : Stmt → List (Option Expr)
  | .Assign _ (.Dict ks _ _) _ => ks
  | _ => []
def dvs : Stmt → List Expr
  | .Assign _ (.Dict _ vs _) _ => vs
  | _ => []
def rows : List Row := (rowsOf (dks (st 1)) (dvs (st 1))).getD []
theorem rows_some : rowsOf (dks (st 1)) (dvs (st 1)) = some rows := by
  have h : (rowsOf (dks (st 1)) (dvs (st 1))).isSome = true := by decide +kernel
  unfold rows
  cases e : rowsOf (dks (st 1)) (dvs (st 1)) with
  | none => rw [e] at h; cases h
  | some r => rfl
theorem rows_rise : rises 0 rows = true := by decide +kernel
theorem rows_len : rows.length = 650 := by decide +kernel
def ch0 : List Row := rows.take 17
def chs : List (List Row) := (cut 37 (rows.drop 17)).1
def chl : List Row := (cut 37 (rows.drop 17)).2
theorem rows_cut : ch0 ++ (chs.flatten ++ chl) = rows := by
  unfold ch0 chs chl
  rw [cut_join, List.take_append_drop]
noncomputable def mainO : Obj := dobj (entsL 189 ch0 ++ restEs (189 + 51) chs chl) 650
noncomputable def subsO : List Obj := restSubs (189 + 51) chs chl
/-- the state behind the table's line, and the last one -/
noncomputable def H2 (P : Params) : Heap := ⟨(L15 P (oM2 P) oA12 ++ mainO :: subsO).toArray, {}⟩
noncomputable def Hf (P : Params) : Heap := ⟨(L15 P (oMf P) oF12 ++ mainO :: (subsO ++ news)).toArray, {}⟩
set_option maxRecDepth 100000
theorem pre_run (w : World) (os : OsState) : topGo treeTable pg w 11 (some (.ref 6)) 12 ⟨boot_heap w.params, Array.mk [], boot_drawn, boot_toks, os⟩ (topStub pg) =
    some (⟨⟨(L15 w.params (boot_o_3 w.params) oA12).toArray, {}⟩, Array.mk [], boot_drawn, 187, os⟩, ⟨denote treeTable cdB, cdB, p0, BB⟩) := by kernel_rfl
theorem block_run (w : World) (os : OsState) : segRun treeTable pg w 11 (some (.ref 6)) 1 1 ⟨⟨(L15 w.params (boot_o_3 w.params) oA12).toArray, {}⟩, Array.mk [], boot_drawn, 187, os⟩ (blockOf bd env cdB p0 BB) =
    some (.next, ⟨⟨(L15 w.params (boot_o_3 w.params) oA12).toArray, {}⟩, Array.mk [], boot_drawn, 187, os⟩, cdB, p0) := by kernel_rfl
theorem first_run (w : World) (os : OsState) : segRun treeTable pg w 11 (some (.ref 6)) 1 10 ⟨⟨(L15 w.params (boot_o_3 w.params) oA12).toArray, {}⟩, Array.mk [], boot_drawn, 187, os⟩ (piecesOf [st 0] env cdB p0 BB) =
    some (.next, ⟨⟨(L15 w.params (oM1 w.params) oA12).toArray, {}⟩, Array.mk [], boot_drawn, 189, os⟩, cdB, ⟨1, 0, 1, 8⟩) := by kernel_rfl
theorem last_run (w : World) (os : OsState) : segRun treeTable pg w 11 (some (.ref 6)) 1 151 ⟨H2 w.params, Array.mk [], boot_drawn, 2140, os⟩ (piecesOf (bd.drop 2) env cdB ⟨2, 0, 2, 13⟩ BB) =
    some (.next, ⟨Hf w.params, Array.mk [], boot_drawn, 2175, os⟩, cdB, ⟨15, 0, 35, 15⟩) := by kernel_rfl
theorem fin_run (w : World) (os : OsState) : topRun treeTable pg w 11 (some (.ref 6)) 2 ⟨Hf w.params, Array.mk [], boot_drawn, 2175, os⟩ ⟨doneF .next, cdB, ⟨15, 0, 35, 15⟩, BB⟩ =
    some ⟨Hf w.params, Array.mk [], boot_drawn, 2175, os⟩ := by kernel_rfl
theorem exec_table {x : Str} {np dp ap : Pos} {ks : List (Option Expr)} {vs : List Expr} {env : Env} : exec (.Assign [.Name x np] (.Dict ks vs dp) ap) env =
    (do standAt ap; let v ← eval (.Dict ks vs dp) env; assignStores env v none [assign (.Name x np) env]) := by
  rw [arm_exec_Assign]; rfl
def tgt : Stmt → Str × Pos × Pos × Pos
  | .Assign [.Name x np] (.Dict _ _ dp) ap => (x, np, dp, ap)
  | _ => ("", p0, p0, p0)
abbrev tx : Str := (tgt (st 1)).1
abbrev tn : Pos := (tgt (st 1)).2.1
abbrev td : Pos := (tgt (st 1)).2.2.1
abbrev ta : Pos := (tgt (st 1)).2.2.2
set_option maxRecDepth 100000
theorem st1_eq : st 1 = .Assign [.Name tx tn] (.Dict (dks (st 1)) (dvs (st 1)) td) ta := by kernel_rfl
/-- what follows the table's value -/
def aft (v : Value) : Sem Flow := (assignStores env v none [assign (.Name tx tn) env]).bind fun f => match f with
  | .next => execs [] env
  | f => Pure.pure f
theorem execs_table : execs [st 1] env = (do standAt ta; standAt td; let v ← dictDisplay (rows.map (item td)); aft v) := by
  have e : execs [st 1] env = (exec (.Assign [.Name tx tn] (.Dict (dks (st 1)) (dvs (st 1)) td) ta) env).bind fun f => match f with | .next => execs [] env | f => Pure.pure f := by
    rw [← st1_eq]; rfl
  rw [e, exec_table, arm_eval_Dict, rows_items env td _ _ _ rows_some]
  show ((_ >>= _ : Sem Flow) >>= _ : Sem Flow) = _
  simp only [bind_assoc]
  rfl
theorem tab_hz : 17 + chs.flatten.length + chl.length ≤ 1000 := by
  have h := congrArg List.length rows_cut
  rw [List.length_append, List.length_append, rows_len] at h
  have : ch0.length = 17 := by unfold ch0; rw [List.length_take, rows_len]; rfl
  omega
theorem ch0_len : ch0.length = 17 := by unfold ch0; rw [List.length_take, rows_len]; rfl
theorem chs_spec : (∀ x ∈ chs, x.length = 17) ∧ chs.length = 37 ∧ chl.length = 4 := by
  have := cut_length 37 (rows.drop 17) (by rw [List.length_drop, rows_len]; decide)
  rw [List.length_drop, rows_len] at this
  exact this
theorem disp_does (w : World) (os : OsState) : Does pg w 11 (some (.ref 6)) cdB BB (dictDisplay (rows.map (item td))) 12515 ⟨⟨(L15 w.params (oM1 w.params) oA12).toArray, {}⟩, Array.mk [], boot_drawn, 189, os⟩ td (.ref 15)
    ⟨⟨(L15 w.params (oM1 w.params) oA12 ++ mainO :: subsO).toArray, {}⟩, Array.mk [], boot_drawn, 2139, os⟩ td := by
  have hL : (L15 w.params (oM1 w.params) oA12).length = 15 := rfl
  have d := Does.display (p := pg) (w := w) (n₀ := 11) (ann := some (.ref 6)) (c := cdB) (B := BB) (q := td) (L := L15 w.params (oM1 w.params) oA12) (lf := {}) (gens := Array.mk []) (drawn := boot_drawn) (os := os) (ch := ch0) (cs := chs) (l := chl) (t := 189)
    rfl (by rw [hL]; rfl) (by rw [hL]; exact Nat.le_of_ble_eq_true rfl) ch0_len chs_spec.1 (by intro e; have := chs_spec.2.2; rw [e] at this; cases this) (by rw [chs_spec.2.2]; decide) tab_hz (by rw [rows_cut]; exact (rises_spec rows_rise).2)
  rw [rows_cut, chs_spec.2.1, chs_spec.2.2, hL] at d
  have e1 : 223 + (330 * 37 + (6 + 19 * 4)) = 12515 := by decide
  have e2 : 189 + 51 + 51 * 37 + 3 * 4 = 2139 := by decide
  have e3 : 17 + 17 * 37 + 4 = 650 := by decide
  rw [e1, e2, e3] at d
  unfold mainO subsO
  exact d
theorem Does.then {p : Program} {w : World} {n₀ : Nat} {ann : Option Value} {c : Code} {B : List Frame} {x : Sem Value} {n : Nat} {a b : Pos} {pos pos' : Pos} {s s' : Shared} {v : Value} (h : Does p w n₀ ann c B x n s b v s' pos') :
    Does p w n₀ ann c B (do standAt a; standAt b; x) (n + 2) s pos v s' pos' := by
  have := Does.bind (Does.at (pos := pos) (q := a)) (f := fun _ => (do standAt b; x)) (Does.bind Does.at h)
  rw [show 1 + (1 + n) = n + 2 by omega] at this
  exact this
theorem execs_wrap : (execs [st 1] env).wrap doneF deadEnd id id = (do standAt ta; standAt td; dictDisplay (rows.map (item td))).wrap (fun v => (aft v).wrap doneF deadEnd id id) deadEnd id id := by
  rw [execs_table]
  simp only [Sem.bind_eq_wrap', Sem.wrap_wrap]
  rfl
theorem table_go (w : World) (os : OsState) : segGo treeTable pg w 11 (some (.ref 6)) 1 12517 ⟨⟨(L15 w.params (oM1 w.params) oA12).toArray, {}⟩, Array.mk [], boot_drawn, 189, os⟩ (piecesOf [st 1] env cdB ⟨1, 0, 1, 8⟩ BB) =
    some (⟨⟨(L15 w.params (oM1 w.params) oA12 ++ mainO :: subsO).toArray, {}⟩, Array.mk [], boot_drawn, 2139, os⟩, ⟨(aft (.ref 15)).wrap doneF deadEnd id id, cdB, td, BB⟩) := by
  have y := Does.then (a := ta) (pos := ⟨1, 0, 1, 8⟩) (disp_does w os) (fun v => (aft v).wrap doneF deadEnd id id) deadEnd id id
  rw [← execs_wrap] at y
  have e : 12515 + 2 = 12517 := by decide
  rw [e] at y
  exact y
theorem table_end (w : World) (os : OsState) : segRun treeTable pg w 11 (some (.ref 6)) 1 8 ⟨⟨(L15 w.params (oM1 w.params) oA12 ++ mainO :: subsO).toArray, {}⟩, Array.mk [], boot_drawn, 2139, os⟩ ⟨(aft (.ref 15)).wrap doneF deadEnd id id, cdB, td, BB⟩ =
    some (.next, ⟨H2 w.params, Array.mk [], boot_drawn, 2140, os⟩, cdB, ⟨2, 0, 2, 13⟩) := by kernel_rfl
theorem table_run (w : World) (os : OsState) : segRun treeTable pg w 11 (some (.ref 6)) 1 12525 ⟨⟨(L15 w.params (oM1 w.params) oA12).toArray, {}⟩, Array.mk [], boot_drawn, 189, os⟩ (piecesOf [st 1] env cdB ⟨1, 0, 1, 8⟩ BB) =
    some (.next, ⟨H2 w.params, Array.mk [], boot_drawn, 2140, os⟩, cdB, ⟨2, 0, 2, 13⟩) := by
  have y := seg_go (table_go w os) (table_end w os)
  have e : 12517 + 8 = 12525 := by decide
  rw [e] at y
  exact y
set_option maxRecDepth 100000
theorem body_split : bd = [st 0] ++ ([st 1] ++ (bd.drop 2 ++ [])) := by kernel_rfl
theorem top_run (w : World) (os : OsState) : topRun treeTable pg w 11 (some (.ref 6)) 12701 ⟨boot_heap w.params, Array.mk [], boot_drawn, boot_toks, os⟩ (topStub pg) = some ⟨Hf w.params, Array.mk [], boot_drawn, 2175, os⟩ := by
  have k := fin_run w os
  have k := piece_app (env := env) (rest := []) (last_run w os) k
  have k := piece_app (env := env) (table_run w os) k
  have k := piece_app (env := env) (first_run w os) k
  rw [← body_split] at k
  have k := piece_block (block_run w os) k
  have k := go_top (pre_run w os) k
  have e : 12 + (1 + (10 + (12525 + (151 + 2)))) = 12701 := by decide
  rw [e] at k
  exact k
noncomputable def qv : Program := { pg with main := { pg.main with body := [st 2, st 4, st 5, st 6, st 7] } }
abbrev lse : List Str := ["b3_exceptions"]
noncomputable def kf (P : Params) : Frag := [(nat_lit 2, boot_o_2 P), (nat_lit 3, oMf P), (nat_lit 6, boot_o_6 P), (nat_lit 15, mainO), (nat_lit 54, oN54), (nat_lit 56, oN56), (nat_lit 57, oN57), (nat_lit 59, oN59), (nat_lit 60, oN60), (nat_lit 61, oN61), (nat_lit 63, oN63), (nat_lit 64, oN64), (nat_lit 66, oN66), (nat_lit 67, oN67), (nat_lit 68, oN68), (nat_lit 70, oN70), (nat_lit 71, oN71), (nat_lit 73, oN73), (nat_lit 74, oN74), (nat_lit 75, oN75), (nat_lit 77, oN77), (nat_lit 78, oN78), (nat_lit 80, oN80), (nat_lit 81, oN81), (nat_lit 82, oN82), (nat_lit 85, oN85), (nat_lit 86, oN86)]
abbrev kas : List Addr := [2, 3, 6, 15, 54, 56, 57, 59, 60, 61, 63, 64, 66, 67, 68, 70, 71, 73, 74, 75, 77, 78, 80, 81, 82, 85, 86]
noncomputable abbrev kh : Hook := kHook kf kas (fun _ => rfl)
theorem opening_top (w : World) : (fencedOpening treeTable pg w 13000).map (fun s => (s.heap, s.gens, s.drawn, s.toks)) = some (boot_heap w.params, Array.mk [], boot_drawn, boot_toks) :=
  boot_open (by kernel_rfl) (by decide) (fun s => by kernel_rfl) w
theorem size_top (w : World) : ((boot_heap w.params).isNs mainGlobals && (Array.mk [] : Array GenState).size == 0, (boot_heap w.params).objs.size, (boot_heap w.params).nsMap mainGlobals "__annotations__") = (true, 11, some (.ref 6)) := by kernel_rfl
theorem look1 (w : World) : (staticsOk (importedModules pg.main.body) (boot_heap w.params) (Hf w.params)) = true := by kernel_rfl
theorem look2 (w : World) : namesBound pg (Hf w.params) = true := by kernel_rfl
theorem look4 (w : World) : laidKept (boot_heap w.params) (Hf w.params) = true := by kernel_rfl
theorem look5 (w : World) (os : OsState) : (kh).obs ⟨Hf w.params, Array.mk [], boot_drawn, 2175, os⟩ = kh.val w := by kernel_rfl
theorem look6 (w : World) (os : OsState) : openSeen qv lse (importedModules pg.main.body) (fun s => xlAt qv [] s && recOk [] s) true ⟨Hf w.params, Array.mk [], boot_drawn, 2175, os⟩ = openGood qv lse := by kernel_rfl
set_option maxRecDepth 100000
theorem left_top : LeftO pg qv lse (fun s => xlAt qv [] s && recOk [] s) (Hook.obs kh) (Hook.val kh) 13000 :=
  LeftO.of_pieces (m₀ := 11) (ann := some (.ref 6)) (M := 12701) (H₀ := boot_heap) (H₁ := Hf) (gs₀ := Array.mk []) (gs₁ := Array.mk []) (d₀ := boot_drawn) (d₁ := boot_drawn) (k₀ := boot_toks) (k₁ := 2175)
    opening_top size_top top_run (by decide) (fun w => by
      funext os
      rw [look1, look2, look4, look5, look6]
      rfl)
theorem said : PySem.Challenge.rw_mj0337_04.wellSaid = true := by decide +kernel
end Mine
set_option Elab.async false
namespace Mine
open PySem PySem.W PySem.Calls PyProof.Rows PySem.Spec
set_option maxRecDepth 100000
theorem main_ents : Ents (entsL 189 ch0 ++ restEs (189 + 51) chs chl) rows := by
  rw [← rows_cut]
  exact (entsL_ents _ _).append (restEs_ents _ _ _)
theorem rows_nodup : (rows.map (·.1)).Nodup := by
  have h := (rises_spec rows_rise).2
  have h' : ((rows.map (·.1)).map hashInt).Nodup := by rw [List.map_map]; exact h
  exact List.Pairwise.of_map hashInt (fun a b hn e => hn (by rw [e])) h'
theorem tab15 {prog : Program} {w : World} {P : Params} {h : Heap} (X : (kf P).In h) : IntTab prog w h 15 (tabD rows) := by
  have ho : h.get? 15 = some mainO := X _ _ rfl
  obtain ⟨kvs, a, b, c, d⟩ := main_ents.tab (prog := prog) (w := w)
  exact ⟨by decide, kvs, ⟨mainO, _, _, ho, ⟨rfl, rfl, rfl⟩, rfl, d, by simpa using a, by rw [b]; exact rows_nodup⟩, c⟩
/-- the row of a sign, if any -/
def rowAt (c : Int) : Option Str := (rows.find? fun r => r.1 == c).map (·.2)
/-- what map_table_b3 hands back for one sign -/
noncomputable def foldS (c : Nat) : Str := match rowAt c with
  | some x => x
  | none => Txt.lower ⟨#[c]⟩
theorem get_b3 {prog : Program} {w : World} {P : Params} {A : Around} {E : Value → Shared → Prop} {s : Shared} {c : Int} {t : Tok} {Q : Value → Shared → Prop} (X : (kf P).In s.heap)
    (h1 : ∀ x u, rowAt c = some x → Q (.str x u) { s with toks := s.toks + 1 }) (h2 : ∀ (_ : Str) (_ : Tok), rowAt c = none → Q .none { s with toks := s.toks + 1 }) :
    wpAny (model prog w) A (call (.builtin "dict.get") [.ref 15, .int c t]) Q E s := by
  refine call_get1_intTab (tab15 X) fun v hv => ?_
  rw [tab_look] at hv
  cases e : rowAt c with
  | none =>
    have e' : (rows.find? fun r => r.1 == c).map (·.2) = none := e
    rw [e'] at hv
    rw [hv.none_inv]
    exact h2 ⟨#[]⟩ 0 e
  | some x =>
    have e' : (rows.find? fun r => r.1 == c).map (·.2) = some x := e
    rw [e'] at hv
    obtain ⟨u, rfl⟩ := PyProof.V.Flat.str_inv hv
    exact h1 x u e
theorem kfill : (fun (_ : OpenLaw) (_ : Params → Frag) => True) PySem.Challenge.rw_mj0337_04 kf := by
  k_fill
  trivial
set_option maxHeartbeats 1000000
/-- the told signs' rows, read off the text -/
def retKs : FuncBody → List (Option Expr)
  | .stmts [.Return (some (.Dict ks _ _)) _] => ks
  | _ => []
def retVs : FuncBody → List Expr
  | .stmts [.Return (some (.Dict _ vs _)) _] => vs
  | _ => []
def toldR : List Row := (rowsOf (retKs fb5) (retVs fb5)).getD []
theorem told_len : toldR.length = 16 := by decide +kernel
theorem told_rise : rises 0 toldR = true := by decide +kernel
abbrev Claim (prog : Program) (w : World) (K : Frag) (p : Program) (loose : List Str) (mean : ExcName → Option Value) (mg mb : Str → Option Value) (f : Addr) (vs : List Value) (Ret : (h₀ : Heap) → (L : Addr) → (m : Str → Option Value) → (news : List (Addr × Obj)) → (s : Shared) → (Q : Value → Shared → Prop) → Prop) : Prop :=
  ∀ (dp un : Nat) (gd : Option (List Code)) (cn : Str) (cs : Scope) (a : Addr) (ccd : Value) (cl : List (Str × Addr)) (outer : List Env) (A₀ : Around) (base h₀ : Heap) (L : Addr) (m : Str → Option Value) (news : List (Addr × Obj)) (s : Shared) (Q E : Value → Shared → Prop),
    Below A₀ base outer h₀ → Fr h₀ L s.heap m → K.In h₀ → News h₀ L s.heap news → Top p loose mean mg mb h₀ → cs.kind = .function → dp + 1 < recursionLimit → un + 8 < cLine → Ret h₀ L m news s Q →
      wpAny (model prog w) (ktrTop dp un gd cn cs L a ccd cl outer) (call (.ref f) vs) Q E s
theorem big_ne {P : Params} {h : Heap} (X : (kf P).In h) : (h.objs.size == sysModules) = false := by
  have h1 : 15 < h.objs.size := Heap.lt_size (X 15 mainO rfl)
  rw [beq_eq_false_iff_ne]
  exact Nat.ne_of_gt (Nat.lt_trans (show sysModules < 15 by decide) h1)
section
local macro_rules | `(tactic| walk_at "eval Dict") => `(tactic| (k_here; refine dict16_K toldR (by k_asm) (by k_asm) (by kernel_rfl) told_len told_rise ?_; intro t' h' tk' F' N' l1))
theorem told_call (w : World) (mean : ExcName → Option Value) (mg mb : Str → Option Value) (lc : List Str) :
    Claim pg w (kf w.params) qv lc mean mg mb 74 [] (fun h₀ L m news s Q => ∀ t d h' tk', Fr h₀ L h' m → News h₀ L h' ((d, dobj (V.entsL t (toldR.map vr)) 16) :: news) → (d == sysModules) = false → Q (.ref d) { s with heap := h', toks := tk' }) := by
  dsimp only [Claim]
  intros
  rename_i hret
  refine wpAny_call ?_
  k_dflt cell_enter
  w_on
  k_steps
  exact hret _ _ _ _ (by k_asm) (by k_asm) (big_ne (P := w.params) (by k_in))
end
end Mine
set_option Elab.async false
namespace Mine
open PySem PySem.W PySem.Calls PyProof.Rows PySem.Spec
set_option maxRecDepth 100000
set_option maxHeartbeats 1000000
section
local macro_rules | `(tactic| walk_at "getMethod ref") => `(tactic| (k_here; (refine getMethod_intTab_get (d := 15) (tab15 (by k_in)) ?_)))
local macro_rules | `(tactic| walk_at "call builtin:dict.get") => `(tactic| (k_here; (refine get_b3 (by k_in) ?_ ?_) <;> intro x u hrow))
local macro_rules | `(tactic| walk_at "call builtin:ord") => `(tactic| (k_here; refine P.ord_of_char ?_))
local macro_rules | `(tactic| walk_at "call builtin:str.lower") => `(tactic| (k_here; refine SCL.lower (Nat.le_of_ble_eq_true rfl) ?_; intro hlow))
theorem b3_call (w : World) (mean : ExcName → Option Value) (mg mb : Str → Option Value) (c : Nat) (tx : Tok) (news : List (Addr × Obj)) (lc : List Str) :
    CbClaim pg w (kf w.params) qv lc mean mg mb 60 news [] True [.str ⟨#[c]⟩ tx] (fun t => .str (foldS c) t) := by
  dsimp only [CbClaim, CbLists, CbRet]
  intros
  rename_i hret
  refine wpAny_call ?_
  k_dflt cell_enter
  w_on
  k_steps
  all_goals (rename rowAt _ = _ => hrow)
  · exact cb_retS hret (by unfold foldS; rw [hrow]) (by k_asm) (by k_asm)
  · exact cb_retS hret (by unfold foldS; rw [hrow]) (by k_asm) (by k_asm)
end
/-- the stretches that are left out -/
def leftOut (c : Int) : Bool := (decide (8448 ≤ c) && decide (c < 8528)) || ((decide (13169 ≤ c) && decide (c < 13278)) || (decide (119808 ≤ c) && decide (c < 120780)))
theorem left_call (w : World) (mean : ExcName → Option Value) (mg mb : Str → Option Value) (c : Int) (tx : Tok) (news : List (Addr × Obj)) (lc : List Str) :
    CbClaim pg w (kf w.params) qv lc mean mg mb 81 news [] True [.int c tx] (fun _ => .bool (leftOut c)) := by
  dsimp only [CbClaim, CbLists, CbRet]
  intros
  rename_i hret
  refine wpAny_call ?_
  k_dflt cell_enter
  w_on
  k_steps
  all_goals exact cb_retB hret (by unfold leftOut; refine Bool.eq_iff_iff.mpr ?_; simp only [Bool.or_eq_true, Bool.and_eq_true, decide_eq_true_eq]; omega) (by k_asm) (by k_asm)
end Mine
namespace Mine
open PySem PySem.W PySem.Calls PyProof.Rows PyProof.V PySem.Spec
/-- two lists, item by item -/
inductive Each {α β : Type} (R : α → β → Prop) : List α → List β → Prop
  | nil : Each R [] []
  | cons {a : α} {v : β} {l : List α} {vs : List β} : R a v → Each R l vs → Each R (a :: l) (v :: vs)
theorem Each.snoc {α β : Type} {R : α → β → Prop} {a : α} {v : β} {l : List α} {vs : List β} (h : Each R l vs) (hv : R a v) : Each R (l ++ [a]) (vs ++ [v]) := by
  induction h with
  | nil => exact .cons hv .nil
  | cons h _ ih => exact .cons h ih
theorem Each.length {α β : Type} {R : α → β → Prop} {l : List α} {vs : List β} (h : Each R l vs) : vs.length = l.length := by
  induction h with
  | nil => rfl
  | cons _ _ ih => simp [ih]
theorem Each.get {α β : Type} {R : α → β → Prop} {l : List α} {vs : List β} (h : Each R l vs) : ∀ (i : Nat) (v : β), vs[i]? = some v → ∃ a, l[i]? = some a ∧ R a v := by
  induction h with
  | nil => intro i v e; simp at e
  | @cons a v l vs hv _ ih =>
    intro i u e
    cases i with
    | zero => simp at e; exact ⟨a, by simp, e ▸ hv⟩
    | succ i => simp at e; simpa using ih i u e
theorem Each.append {α β : Type} {R : α → β → Prop} {l l' : List α} {vs vs' : List β} (h : Each R l vs) (h' : Each R l' vs') : Each R (l ++ l') (vs ++ vs') := by
  induction h with
  | nil => exact h'
  | cons h _ ih => exact .cons h ih
def IsI (n : Int) (v : Value) : Prop := ∃ t : Tok, v = .int n t
def IsS (x : Str) (v : Value) : Prop := ∃ t : Tok, v = .str x t
theorem each_ints {l : List Int} {vs : List Value} (h : Each IsI l vs) : IntsAre vs l := by
  induction h with
  | nil => exact .nil
  | cons h _ ih => obtain ⟨t, rfl⟩ := h; exact .cons _ _ ih
theorem ints_each {l : List Int} {vs : List Value} (h : IntsAre vs l) : Each IsI l vs := by
  induction h with
  | nil => exact .nil
  | cons => rename_i ih; exact .cons ⟨_, rfl⟩ ih
theorem each_strs {α : Type} {g : α → Str} {l : List α} {vs : List Value} (h : Each (fun a v => IsS (g a) v) l vs) : StrsAre vs (l.map g) := by
  induction h with
  | nil => exact .nil
  | cons h _ ih => obtain ⟨t, rfl⟩ := h; exact .cons _ _ ih
section
variable {prog : Program} {w : World} {A : Around} {E : Value → Shared → Prop} {s : Shared} {h₀ : Heap} {L : Addr} {m : Str → Option Value} {env : Env} {elt iter : Expr} {x : Str} {scope : Scope} {cl : List (Str × Addr)}
/-- what an element's value leaves: the ledger as it was -/
def ElEnd (h₀ : Heap) (L : Addr) (m : Str → Option Value) (news : List (Addr × Obj)) (s : Shared) (El : Value → Prop) (y : Value) (s₂ : Shared) : Prop :=
  ∃ h' tk', s₂ = { s with heap := h', toks := tk' } ∧ Fr h₀ L h' m ∧ News h₀ L h' news ∧ El y
theorem comp_rest {α : Type} {S : List (Addr × Obj) → Prop} {P : Nat → Value → Prop} {Fin : List Value → List (Addr × Obj) → Prop} {news : List (Addr × Obj)} (its : List α) (It : α → Value → Prop) (El : α → Value → Prop)
    (hS : S news) (hP : ∀ i v, P i v → ∃ a, its[i]? = some a ∧ It a v)
    (turn : ∀ a v I oI C oC D m₂ ys h tk (E' : Value → Shared → Prop), a ∈ its → It a v → LCg.NsObj oC m₂ → m₂ x = some v → Fr h₀ L h m → News h₀ L h ((I, oI) :: (C, oC) :: (D, LCg.lst ys) :: news) →
      wpAny (model prog w) A (eval elt (compEnvC scope cl C env)) (ElEnd h₀ L m ((I, oI) :: (C, oC) :: (D, LCg.lst ys) :: news) s (El a)) E' { s with heap := h, toks := tk })
    (fin : ∀ ys, Each El its ys → Fin ys news) : LCg.CompRest prog w A h₀ L m env elt x scope cl s S P Fin its.length 0 [] news := by
  have key : ∀ (j i : Nat) (ys : List Value), i + j = its.length → Each El (its.take i) ys → LCg.CompRest prog w A h₀ L m env elt x scope cl s S P Fin j i ys news := by
    intro j
    induction j with
    | zero =>
      intro i ys hi hy
      have e : i = its.length := by omega
      subst e
      rw [List.take_length] at hy
      exact LCg.CompRest.zero (fin ys hy)
    | succ j ih =>
      intro i ys hi hy
      refine LCg.CompRest.succ ?_
      intro v I oI C oC D m₂ h tk E' hv hC hx F N off ne
      obtain ⟨a, ha, hIt⟩ := hP i v hv
      refine wpAny_mono (turn a v I oI C oC D m₂ ys h tk E' (List.mem_of_getElem? ha) hIt hC hx F N) (fun y s₂ hq => ?_) fun _ _ e => e
      obtain ⟨h', tk', e, F', N', hel⟩ := hq
      refine ⟨h', tk', news, e, F', N', off, hS, ih (i + 1) _ (by omega) ?_⟩
      rw [List.take_add_one, ha]
      exact hy.snoc hel
  exact key its.length 0 [] (by omega) .nil
/-- a comprehension over a text's signs -/
theorem ListComp_str {px pos : Pos} {Q : Value → Shared → Prop} (El : Nat → Value → Prop) (F₀ : Fr h₀ L s.heap m)
    (hclos : closureFor scope env = pure cl) (hcell : ∀ y ∈ scope.names, y.2 ≠ .cell) (hkind : scope.kind = .function)
    (hnames : ∀ y ∈ scope.names, y.2 = .local → scope.names.lookup y.1 = some .local) (hx : scope.names.lookup x = some .local)
    (h : wpAny (model prog w) A (eval iter env) (fun xv s₁ => ∃ (z : Str) (t : Tok) (news : List (Addr × Obj)), xv = .str z t ∧ A.handled = none ∧ Fr h₀ L s₁.heap m ∧ News h₀ L s₁.heap news ∧ z.cps.size ≤ sizeLine ∧
      (∀ g c u I oI C oC D m₂ ys h tk (E' : Value → Shared → Prop), c ∈ z.cps.toList → LCg.NsObj oC m₂ → m₂ x = some (.str ⟨#[c]⟩ u) → Fr h₀ L h m → News h₀ L h ((I, oI) :: (C, oC) :: (D, LCg.lst ys) :: news) →
        wpAny (model prog w) A (eval elt (compEnvC scope cl C env)) (ElEnd h₀ L m ((I, oI) :: (C, oC) :: (D, LCg.lst ys) :: news) { s₁ with heap := g } (El c)) E' { s₁ with heap := h, toks := tk }) ∧
      ∀ D ys h tk, Each El z.cps.toList ys → Fr h₀ L h m → News h₀ L h ((D, LCg.lst ys) :: news) → Q (.ref D) { s₁ with heap := h, toks := tk }) E s)
    (hs : ∀ x, foldedSetIterable iter env x = pure x := by intro _; rfl) :
    wpAny (model prog w) A (eval (.ListComp elt [⟨.Name x px, iter, [], 0⟩] scope pos) env) Q E s := by
  rw [eval_ListComp]
  refine wpAny_comprehension_free (use := none) rfl hs hclos hkind hnames (wpAny_mono h (fun xv s₁ h₁ => ?_) fun _ _ e => e)
  obtain ⟨z, t, news, rfl, hh, F, N, hsz, turn, fin⟩ := h₁
  have rest : ∀ g, LCg.CompRest prog w A h₀ L m env elt x scope cl { s₁ with heap := g } (fun _ => True) (SignAt z) (LCg.FinE h₀ L m { s₁ with heap := g } Q) z.cps.size 0 [] news := fun g => by
    have r := comp_rest (prog := prog) (w := w) (A := A) (s := { s₁ with heap := g }) (h₀ := h₀) (L := L) (m := m) (env := env) (elt := elt) (x := x) (scope := scope) (cl := cl) (S := fun _ => True) (P := SignAt z) (Fin := LCg.FinE h₀ L m { s₁ with heap := g } Q) (news := news)
      z.cps.toList (fun c v => ∃ u, v = Value.str ⟨#[c]⟩ u) El trivial (fun i v hv => by
        obtain ⟨c, u, hc, rfl⟩ := hv
        exact ⟨c, by simpa using hc, u, rfl⟩) (fun c v I oI C oC D m₂ ys h tk E' hc hv hC hm F' N' => by
        obtain ⟨u, rfl⟩ := hv
        exact turn g c u I oI C oC D m₂ ys h tk E' hc hC hm F' N') (fun ys hys D h tk F' N' _ => fin D ys h tk hys F' N')
    simpa using r
  cases ha : z.cps.all (· < 128)
  · refine wpAny_pyIter_wide ha ?_
    refine LCg.block_U (S := fun _ => True) (Walks.strWide hh s₁.heap.objs.size z t) hsz (fun i h st => by obtain ⟨o, e, _⟩ := st; exact ⟨o, e⟩) ?_ hcell hkind hx ⟨_, Heap.get?_push_size _ rfl, rfl, rfl⟩ (fun b hb => ?_)
      (F.keeps fun _ _ e => Heap.get?_push_of_some _ e) (N.grown fun _ _ e => Heap.get?_push_of_some _ e) (Nat.ne_of_lt F.ns.lt) (next_is_new F) (fun p hp => Nat.ne_of_lt (Heap.lt_size (N p hp).1)) trivial (rest _) ?_
    · intro i h h' o nw st e e' _ _ _
      obtain ⟨o', q, r⟩ := st
      rw [e] at q; cases q
      exact ⟨o, e', r⟩
    · rw [List.mem_singleton.mp hb]
      show s₁.heap.objs.size < (s₁.heap.push _).objs.size
      rw [Heap.size_push]; exact Nat.lt_succ_self _
    · intro D C h tk m' ys news' F' N' o1 hn hC₀ hD₀ hCL hDL hCD offC fin
      refine ⟨m', hn, fun h'' hs'' => fin D h'' tk (F'.change hs'' hCL hC₀) (fun p hp => ?_) o1⟩
      refine ⟨hs''.extBut _ _ ?_ (N' p hp).1, (N' p hp).2⟩
      rcases List.mem_cons.mp hp with rfl | hp
      · exact Ne.symm hCD
      · exact offC p hp
  · refine wpAny_pyIter_ascii ha ?_
    refine LCg.block_U (S := fun _ => True) (Walks.strAscii hh s₁.heap.objs.size z t) hsz (fun i h st => by obtain ⟨o, e, _⟩ := st; exact ⟨o, e⟩) ?_ hcell hkind hx ⟨_, Heap.get?_push_size _ rfl, rfl, rfl⟩ (fun b hb => ?_)
      (F.keeps fun _ _ e => Heap.get?_push_of_some _ e) (N.grown fun _ _ e => Heap.get?_push_of_some _ e) (Nat.ne_of_lt F.ns.lt) (next_is_new F) (fun p hp => Nat.ne_of_lt (Heap.lt_size (N p hp).1)) trivial (rest _) ?_
    · intro i h h' o nw st e e' _ _ _
      obtain ⟨o', q, r⟩ := st
      rw [e] at q; cases q
      exact ⟨o, e', r⟩
    · rw [List.mem_singleton.mp hb]
      show s₁.heap.objs.size < (s₁.heap.push _).objs.size
      rw [Heap.size_push]; exact Nat.lt_succ_self _
    · intro D C h tk m' ys news' F' N' o1 hn hC₀ hD₀ hCL hDL hCD offC fin
      refine ⟨m', hn, fun h'' hs'' => fin D h'' tk (F'.change hs'' hCL hC₀) (fun p hp => ?_) o1⟩
      refine ⟨hs''.extBut _ _ ?_ (N' p hp).1, (N' p hp).2⟩
      rcases List.mem_cons.mp hp with rfl | hp
      · exact Ne.symm hCD
      · exact offC p hp
end
end Mine
namespace Mine
open PySem PySem.W PySem.Calls PyProof.Rows PyProof.V PySem.Spec
/-- texts, one behind the other -/
def catS (l : List Str) : Str := Txt.join ⟨#[]⟩ l
theorem sum_le {k : Nat} : ∀ {l : List Nat}, (∀ n ∈ l, n ≤ k) → l.sum ≤ l.length * k
  | [], _ => by simp
  | a :: l, h => by
    have h1 := h a List.mem_cons_self
    have h2 := sum_le (l := l) fun n hn => h n (List.mem_cons_of_mem _ hn)
    rw [List.sum_cons, List.length_cons, Nat.add_mul]; omega
section
variable {prog : Program} {w : World} {A : Around} {E : Value → Shared → Prop} {s : Shared} {h₀ : Heap} {L : Addr} {news : List (Addr × Obj)}
theorem lst_is {D : Addr} {ys : List Value} (N : News h₀ L s.heap news) (hm : (D, LCg.lst ys) ∈ news) : s.heap.IsList D ys.toArray := ⟨_, N.get hm, rfl, _, rfl⟩
theorem join_led {α : Type} {D : Addr} {ys : List Value} {l : List α} {g : α → Str} {x : Str} {t : Tok} {Q : Value → Shared → Prop} (k : Nat) (N : News h₀ L s.heap news) (hm : (D, LCg.lst ys) ∈ news) (hys : Each (fun a v => IsS (g a) v) l ys)
    (hx : x = ⟨#[]⟩) (hl : l.length ≤ 1000) (hk : ∀ a, (g a).length ≤ k) (hk' : k ≤ 1000) (h : ∀ t' j, Q (.str (catS (l.map g)) t') { s with toks := j }) : wpAny (model prog w) A (call (.builtin "str.join") [.str x t, .ref D]) Q E s := by
  subst hx
  refine join_list (lst_is N hm) (by simpa using each_strs hys) ?_ h
  have := sum_le (k := k) (l := (l.map g).map (·.length)) (by
    intro n hn
    simp only [List.map_map, List.mem_map] at hn
    obtain ⟨a, _, rfl⟩ := hn
    exact hk a)
  rw [List.length_map, List.length_map] at this
  have h2 : l.length * k ≤ 1000 * 1000 := Nat.mul_le_mul hl hk'
  have h3 : (Str.length ⟨#[]⟩) = 0 := rfl
  rw [h3]; omega
end
theorem low1_len (c : Nat) : (Txt.lower ⟨#[c]⟩).length ≤ 3 := Nat.le_trans (len_lower _) (by show 3 * 1 ≤ 3; decide)
theorem up1_len (c : Nat) : (Txt.upper ⟨#[c]⟩).length ≤ 3 := Nat.le_trans (len_upper _) (by show 3 * 1 ≤ 3; decide)
end Mine
set_option Elab.async false
namespace Mine
open PySem PySem.W PySem.Calls PyProof.Rows PySem.Spec
set_option maxRecDepth 100000
set_option maxHeartbeats 1000000
def stmtsOf : FuncBody → List Stmt
  | .stmts b => b
  | _ => []
def forBody : Stmt → List Stmt
  | .For _ _ b _ _ => b
  | _ => []
abbrev lawB : List Stmt := stmtsOf fb7
abbrev body1 : List Stmt := forBody ((lawB[2]?).getD (.Pass p0))
abbrev body2 : List Stmt := forBody ((lawB[3]?).getD (.Pass p0))
def toldAt (c : Int) : Option Str := (toldR.find? fun r => r.1 == c).map (·.2)
section
variable {w : World} {mean : ExcName → Option Value} {mg mb : Str → Option Value} {lc : List Str} {dp un : Nat} {gd : Option (List Code)} {cn : Str} {cs : Scope} {a : Addr} {ccd : Value} {cl : List (Str × Addr)} {outer : List Env} {A₀ : Around} {base h₀ : Heap} {L : Addr} {m : Str → Option Value} {news : List (Addr × Obj)} {s : Shared} {Q E : Value → Shared → Prop}
theorem b3_use {c : Nat} {tx : Tok} (B : Below A₀ base outer h₀) (F : Fr h₀ L s.heap m) (X : (kf w.params).In h₀) (N : News h₀ L s.heap news) (T : Top qv lc mean mg mb h₀) (hk : cs.kind = .function) (hd : dp + 1 < recursionLimit) (hu : un + 8 < cLine)
    (h : ∀ (t : Tok) (h' : Heap) (tk' : Nat), Fr h₀ L h' m → News h₀ L h' news → Q (.str (foldS c) t) { s with heap := h', toks := tk' }) :
    wpAny (model pg w) (ktrTop dp un gd cn cs L a ccd cl outer) (call (.ref 60) [.str ⟨#[c]⟩ tx]) Q E s :=
  b3_call w mean mg mb c tx news lc dp un gd cn cs a ccd cl outer A₀ base h₀ L m s Q E B F X N T hk trivial hd hu h
theorem left_use {c : Int} {tx : Tok} (B : Below A₀ base outer h₀) (F : Fr h₀ L s.heap m) (X : (kf w.params).In h₀) (N : News h₀ L s.heap news) (T : Top qv lc mean mg mb h₀) (hk : cs.kind = .function) (hd : dp + 1 < recursionLimit) (hu : un + 8 < cLine)
    (h : ∀ (_ : Tok) (h' : Heap) (tk' : Nat), Fr h₀ L h' m → News h₀ L h' news → Q (.bool (leftOut c)) { s with heap := h', toks := tk' }) :
    wpAny (model pg w) (ktrTop dp un gd cn cs L a ccd cl outer) (call (.ref 81) [.int c tx]) Q E s :=
  left_call w mean mg mb c tx news lc dp un gd cn cs a ccd cl outer A₀ base h₀ L m s Q E B F X N T hk trivial hd hu h
end
section
variable {prog : Program} {w : World} {A : Around} {E : Value → Shared → Prop} {s : Shared} {d : Addr}
theorem in_told {c : Int} {t : Tok} {Q : Value → Shared → Prop} (T : IntTab prog w s.heap d (tabD toldR)) (h1 : ∀ x, toldAt c = some x → Q (.bool true) { s with toks := s.toks + 1 }) (h2 : toldAt c = none → Q (.bool false) { s with toks := s.toks + 1 }) :
    wpAny (model prog w) A (compareOp .In (.int c t) (.ref d)) Q E s := by
  refine in_intTab T ?_
  rw [tab_look]
  cases e : toldAt c with
  | none =>
    have e' : (toldR.find? fun r => r.1 == c).map (·.2) = none := e
    rw [e']; exact h2 e
  | some x =>
    have e' : (toldR.find? fun r => r.1 == c).map (·.2) = some x := e
    rw [e']; exact h1 x e
theorem told_item {value slice : Expr} {c : Int} {t : Tok} {x : Str} {Q : Value → Shared → Prop} (hx : toldAt c = some x) (T : IntTab prog w s.heap d (tabD toldR)) (h : ∀ u tk, Q (.str x u) { s with toks := tk })
    (hs : subscripted slice false (.ref d) (.int c t) = operate [.ref d, .int c t] (getItem (.ref d) (.int c t)) := by with_unfolding_all rfl) (hg : ∀ r, letTemporaryGo value (.ref d) r = pure () := by intro _; with_unfolding_all rfl) :
    wpAny (model prog w) A (subscriptTail value slice (.ref d) (.int c t)) Q E s := by
  refine item_intTab (dv := .str x) T (by rw [tab_look]; have e' : (toldR.find? fun r => r.1 == c).map (·.2) = some x := hx; rw [e']; rfl) (fun v hv => ?_) hs hg
  obtain ⟨u, rfl⟩ := PyProof.V.Flat.str_inv hv
  exact h _ _
theorem chr_nat {c : Nat} {t : Tok} {Q : Value → Shared → Prop} (hc : c < 1114112) (h : Q (.str ⟨#[c]⟩ s.toks) { s with toks := s.toks + 1 }) : wpAny (model prog w) A (call (.builtin "chr") [.int c t]) Q E s :=
  P.chr_of_int (by simp; omega) h
end
theorem told_tab {prog : Program} {w : World} {h₀ h : Heap} {L d : Addr} {es : List DictEntry} {news : List (Addr × Obj)} (he : Ents es toldR) (hd : (d == sysModules) = false) (N : News h₀ L h news) (hm : (d, dobj es 16) ∈ news) : IntTab prog w h d (tabD toldR) :=
  ents_tab he (rises_nodup told_rise) (N.get hm) hd
theorem rows_short : (rows.all fun r => Nat.ble r.2.length 18) = true := by decide +kernel
theorem foldS_len (c : Nat) : (foldS c).length ≤ 18 := by
  unfold foldS
  cases e : rowAt c with
  | none => exact Nat.le_trans (low1_len c) (by decide)
  | some x =>
    unfold rowAt at e
    rw [Option.map_eq_some_iff] at e
    obtain ⟨r, hr, rfl⟩ := e
    exact Nat.le_of_ble_eq_true (List.all_eq_true.mp rows_short r (List.mem_of_find?_eq_some hr))
theorem ne_end {a b : Str} (h : a = b) (h' : (a != b) = true) : False := by
  subst h
  simp at h'
/-- the small form of the great form -/
noncomputable def smallS (c : Nat) : Str := catS ((Txt.upper ⟨#[c]⟩).cps.toList.map fun d => Txt.lower ⟨#[d]⟩)
noncomputable def foldsS (c : Nat) : Str := catS ((Txt.upper ⟨#[c]⟩).cps.toList.map foldS)
theorem up_short (c : Nat) : (Txt.upper ⟨#[c]⟩).cps.size ≤ sizeLine := Nat.le_trans (up1_len c) (by decide)
theorem up_short' (c : Nat) : (Txt.upper ⟨#[c]⟩).cps.toList.length ≤ 1000 := Nat.le_trans (up1_len c) (by decide)
section
local macro_rules | `(tactic| walk_at "call ref") => `(tactic| (k_here; (refine' b3_use ?k1 ?k2 ?k3 ?k4 ?k5 ?k6 ?k7 ?k8 ?_; (case k1 => k_asm); (case k2 => k_asm); (case k3 => k_asm); (case k4 => k_asm); (case k5 => k_asm); (case k6 => rfl); (case k7 => omega); (case k8 => omega); intro t9 h9 tk9 F9 N9)))
local macro_rules | `(tactic| walk_at "call ref") => `(tactic| (k_here; (refine' left_use ?k1 ?k2 ?k3 ?k4 ?k5 ?k6 ?k7 ?k8 ?_; (case k1 => k_asm); (case k2 => k_asm); (case k3 => k_asm); (case k4 => k_asm); (case k5 => k_asm); (case k6 => rfl); (case k7 => omega); (case k8 => omega); intro t9 h9 tk9 F9 N9)))
local macro_rules | `(tactic| walk_at "compareOp In int ref") => `(tactic| (k_here; (refine in_told (told_tab (by assumption) (by assumption) (by k_asm) (by repeat (first | assumption | apply List.mem_cons_of_mem))) ?_ ?_) <;> (try intro x hx)))
local macro_rules | `(tactic| walk_at "subscriptTail") => `(tactic| (k_here; (refine told_item (by assumption) (told_tab (by assumption) (by assumption) (by k_asm) (by repeat (first | assumption | apply List.mem_cons_of_mem))) ?_; intro u tk)))
local macro_rules | `(tactic| walk_at "call builtin:chr") => `(tactic| (k_here; refine chr_nat (by assumption) ?_))
local macro_rules | `(tactic| walk_at "call builtin:str.upper") => `(tactic| (k_here; refine SCL.upper (Nat.le_of_ble_eq_true rfl) ?_; intro hup))
local macro_rules | `(tactic| walk_at "call builtin:str.lower") => `(tactic| (k_here; refine SCL.lower (Nat.le_of_ble_eq_true rfl) ?_; intro hlow))
local macro_rules | `(tactic| walk_at "ElEnd") => `(tactic| exact ⟨_, _, rfl, by k_asm, by k_asm, _, rfl⟩)
local macro_rules | `(tactic| walk_at "eval ListComp") => `(tactic| (k_here; (with_reducible show wpAny _ _ (eval (Expr.ListComp (Expr.Call (Expr.Attribute _ _ _) _ _ _) _ _ _) _) _ _ _); k_dflt (refine ListComp_str (fun c v => IsS (Txt.lower ⟨#[c]⟩) v) (by k_asm) (by rfl) (by decide) (by rfl) (by decide) (by rfl) (ld (by k_asm) rfl ⟨_, _, _, rfl, rfl, by k_asm, by k_asm, up_short _, ?_, ?_⟩)) <;> intros))
local macro_rules | `(tactic| walk_at "eval ListComp") => `(tactic| (k_here; (with_reducible show wpAny _ _ (eval (Expr.ListComp (Expr.Call (Expr.Name _ _) _ _ _) _ _ _) _) _ _ _); k_dflt (refine ListComp_str (fun c v => IsS (foldS c) v) (by k_asm) (by rfl) (by decide) (by rfl) (by decide) (by rfl) (ld (by k_asm) rfl ⟨_, _, _, rfl, rfl, by k_asm, by k_asm, up_short _, ?_, ?_⟩)) <;> intros))
local macro_rules | `(tactic| walk_at "call builtin:str.join") => `(tactic| (k_here; k_dflt (first | refine join_led 18 (by k_asm) (by k_mem) (by assumption) rfl (up_short' _) foldS_len (by decide) ?_ | refine join_led 3 (by k_asm) (by k_mem) (by assumption) rfl (up_short' _) low1_len (by decide) ?_); intro t9 j9))
theorem turn2 (w : World) {mean : ExcName → Option Value} {mg mb : Str → Option Value} {lc : List Str} {dp un : Nat} {gd : Option (List Code)} {a : Addr} {ccd : Value} {outer : List Env} {A₀ : Around} {base h₀ : Heap} {L : Addr} {m : Str → Option Value} {lg : List (Addr × Obj)} {s : Shared} {Q : Flow → Shared → Prop} {E : Value → Shared → Prop}
    {c : Nat} {tp : Tok} {d : Addr} {es : List DictEntry}
    (B : Below A₀ base outer h₀) (F : Fr h₀ L s.heap (fun y => if y = "point" then some (.int c tp) else if y = "told" then some (.ref d) else m y)) (X : (kf w.params).In h₀) (N : News h₀ L s.heap lg) (T : Top qv lc mean mg mb h₀) (hdp : dp + 3 < recursionLimit) (hun : un + 20 < cLine)
    (hl : (d, dobj es 16) ∈ lg) (he : Ents es toldR) (hds : (d == sysModules) = false) (hc : c < 1114112) (hg1 : ∀ x, toldAt c = some x → foldS c = x) (hg2 : toldAt c = none → leftOut c = false → foldS c = smallS c ∧ foldsS c = smallS c)
    (hQ : ∀ h' tk' m', Fr h₀ L h' m' → News h₀ L h' lg → m' "told" = some (.ref d) → Q .next { s with heap := h', toks := tk' }) :
    wpAny (model pg w) (ktrTop dp un gd "law" fs7 L a ccd [] outer) (execs body2 (envOf "law" fs7 L a ccd)) Q E s := by
  rw [show body2 = List.cons _ _ from rfl]
  w_on
  k_steps
  all_goals first
    | exact hQ _ _ _ (by k_asm) (by first | assumption | exact cb_drop (by assumption) (fun p hp => by repeat (first | exact hp | apply List.mem_cons_of_mem))) rfl
    | exact (ne_end (hg1 _ (by assumption)) (by assumption)).elim
    | exact (ne_end (hg2 (by assumption) (by assumption)).1 (by assumption)).elim
    | exact (ne_end (hg2 (by assumption) (by assumption)).2 (by assumption)).elim
end
end Mine
namespace Mine
open PySem PySem.W PySem.Calls PyProof.Rows PyProof.V PySem.Spec
/-- a tuple, as a display makes it -/
abbrev tupO (vs : List Value) : Obj := { cls := .type "tuple", data := .seq vs.toArray }
/-- a turn's end where one object of the ledger may change -/
def OneEnd (h₀ : Heap) (L dl : Addr) (lg : List (Addr × Obj)) (J : (Str → Option Value) → Obj → Prop) (s : Shared) (Q : Flow → Shared → Prop) (f : Flow) (s₂ : Shared) : Prop :=
  match f with
  | .ret v => Q (.ret v) s₂
  | .brk => Q .next s₂
  | _ => ∃ h' tk' m' oA, s₂ = { s with heap := h', toks := tk' } ∧ Fr h₀ L h' m' ∧ News h₀ L h' ((dl, oA) :: lg) ∧ J m' oA
section
variable {prog : Program} {w : World} {A : Around} {E : Value → Shared → Prop} {s : Shared} {env : Env} {h₀ : Heap} {x : Str} {body : List Stmt} {Q : Flow → Shared → Prop}
theorem one_core {I l dl : Addr} {vs : List Value} {St : Nat → Heap → Prop} {m₀ : Str → Option Value} {rest : List (Addr × Obj)} {oA₀ : Obj} {g : Heap} (J : Nat → (Str → Option Value) → Obj → Prop)
    (W : Walks prog w A I [I, l] [I] vs.length (fun i v => vs.toArray[i]? = some v) St) (hst : St 0 g) (hIL : env.locals ≠ I) (hlL : env.locals ≠ l) (hI₀ : h₀.get? I = none) (hIr : ∀ p ∈ (dl, oA₀) :: rest, p.1 ≠ I) (hld : l ≠ dl)
    (F : Fr h₀ env.locals g m₀) (N : News h₀ env.locals g ((dl, oA₀) :: rest)) (hj : J 0 m₀ oA₀) (hoff : ∀ p ∈ rest, p.1 ≠ dl)
    (turn : ∀ i v m₁ oA h tk lg, vs[i]? = some v → J i m₁ oA → (∀ p ∈ rest, p ∈ lg) → (∀ p ∈ lg, p.1 ≠ dl) → Fr h₀ env.locals h (fun y => if y = x then some v else m₁ y) → News h₀ env.locals h ((dl, oA) :: lg) →
      wpAny (model prog w) A (execs body env) (OneEnd h₀ env.locals dl lg (J (i + 1)) s Q) E { s with heap := h, toks := tk })
    (done : ∀ m₁ oA h tk, J vs.length m₁ oA → Fr h₀ env.locals h m₁ → News h₀ env.locals h ((dl, oA) :: rest) → Q .next { s with heap := h, toks := tk }) :
    LoopAtV prog w A h₀ env x body Q E (.ref I) { s with heap := g } := by
  refine ⟨I, _, _, vs.length, _, _, m₀, _, (fun i m₁ news₁ => ∃ oA, news₁ = (dl, oA) :: rest ∧ J i m₁ oA), rfl, W, ?_, ?_, ?_, hst, F, N, ⟨_, rfl, hj⟩, ?_, ?_⟩
  · intro hm
    rcases List.mem_cons.mp hm with e | hm
    · exact hIL e
    · exact hlL (List.mem_singleton.mp hm)
  · intro b hb
    rw [List.mem_singleton.mp hb]
    exact hI₀
  · intro p hp hI
    exact hIr p hp (List.mem_singleton.mp hI)
  · rintro i v m₁ news₁ s₁ own ⟨hh', tk', rfl⟩ hin hP ⟨oA, rfl, hJ⟩ hoff' hown _ _ _ F₁ N₁
    have hod : ∀ p ∈ own ++ rest, p.1 ≠ dl := by
      intro p hp
      rcases List.mem_append.mp hp with hp | hp
      · rcases List.mem_cons.mp (hown p hp) with e | e
        · rw [e]; exact fun q => hIr _ List.mem_cons_self q.symm
        · rw [List.mem_singleton.mp e]; exact hld
      · exact hoff p hp
    have N₂ : News h₀ env.locals hh' ((dl, oA) :: (own ++ rest)) := fun p hp => by
      rcases List.mem_cons.mp hp with rfl | hp
      · exact N₁ _ (List.mem_append.mpr (.inr List.mem_cons_self))
      · rcases List.mem_append.mp hp with hp | hp
        · exact N₁ p (List.mem_append.mpr (.inl hp))
        · exact N₁ p (List.mem_append.mpr (.inr (List.mem_cons_of_mem _ hp)))
    refine wpAny_mono (turn i v m₁ oA hh' tk' (own ++ rest) (by simpa using hP) hJ (fun p hp => List.mem_append.mpr (.inr hp)) hod F₁ N₂) (fun f s₂ p => ?_) fun _ _ e => e
    have fin : (∃ h' tk' m' oA, s₂ = { s with heap := h', toks := tk' } ∧ Fr h₀ env.locals h' m' ∧ News h₀ env.locals h' ((dl, oA) :: (own ++ rest)) ∧ J (i + 1) m' oA) →
        LoopStepU h₀ env.locals [I] own (fun m' n' => ∃ oA, n' = (dl, oA) :: rest ∧ J (i + 1) m' oA) { s with heap := hh', toks := tk' } .next s₂ := by
      rintro ⟨h', tk, m', oA', e, F', N', hj'⟩
      refine ⟨rfl, h', tk, m', (dl, oA') :: rest, e, F', fun p hp => ?_, fun p hp hI => ?_, _, rfl, hj'⟩
      · rcases List.mem_append.mp hp with hp | hp
        · exact N' p (List.mem_cons_of_mem _ (List.mem_append.mpr (.inl hp)))
        · rcases List.mem_cons.mp hp with rfl | hp
          · exact N' _ List.mem_cons_self
          · exact N' p (List.mem_cons_of_mem _ (List.mem_append.mpr (.inr hp)))
      · rcases List.mem_cons.mp hp with rfl | hp
        · exact hIr (dl, oA₀) List.mem_cons_self (List.mem_singleton.mp hI)
        · exact hIr p (List.mem_cons_of_mem _ hp) (List.mem_singleton.mp hI)
    cases f with
    | ret v => exact .ret p
    | brk => exact .brk p
    | next => exact .next (fin p)
    | cont => exact .cont (fin p)
  · rintro h' tk m' news' F' N' _ ⟨oA, rfl, hJ⟩
    exact done m' oA h' tk hJ F' N'
/-- a loop over a list of the ledger's; one object of the ledger's may change -/
theorem iter_one {l dl : Addr} {vs : List Value} {o : Obj} {m₀ : Str → Option Value} {rest : List (Addr × Obj)} {oA₀ : Obj} (J : Nat → (Str → Option Value) → Obj → Prop)
    (hh : A.handled = none) (hm : (l, o) ∈ rest) (hl : ∀ h : Heap, h.get? l = some o → h.IsList l vs.toArray) (F : Fr h₀ env.locals s.heap m₀) (N : News h₀ env.locals s.heap ((dl, oA₀) :: rest)) (hj : J 0 m₀ oA₀) (hoff : ∀ p ∈ rest, p.1 ≠ dl)
    (turn : ∀ i v m₁ oA h tk lg, vs[i]? = some v → J i m₁ oA → (∀ p ∈ rest, p ∈ lg) → (∀ p ∈ lg, p.1 ≠ dl) → Fr h₀ env.locals h (fun y => if y = x then some v else m₁ y) → News h₀ env.locals h ((dl, oA) :: lg) →
      wpAny (model prog w) A (execs body env) (OneEnd h₀ env.locals dl lg (J (i + 1)) s Q) E { s with heap := h, toks := tk })
    (done : ∀ m₁ oA h tk, J vs.length m₁ oA → Fr h₀ env.locals h m₁ → News h₀ env.locals h ((dl, oA) :: rest) → Q .next { s with heap := h, toks := tk }) :
    wpAny (model prog w) A (pyIter (.ref l)) (fun it s₂ => LoopAtV prog w A h₀ env x body Q E it s₂) E s := by
  have z := N _ (List.mem_cons_of_mem _ hm)
  have hls := hl s.heap z.1
  have hlt : l < s.heap.objs.size := Heap.lt_size z.1
  refine wpAny_pyIter_list hls ?_
  have W := Walks.list (prog := prog) (w := w) hh s.heap.objs.size l (Nat.ne_of_lt hlt) vs.toArray
  rw [show vs.toArray.size = vs.length by simp] at W
  exact one_core J W ⟨⟨_, Heap.get?_push_size _ rfl, rfl, rfl⟩, hls.at fun o e => Heap.get?_push_of_some _ e⟩ (Nat.ne_of_lt F.ns.lt) (Ne.symm z.2.1) (next_is_new F) (fun p hp => Nat.ne_of_lt (Heap.lt_size (N p hp).1)) (hoff _ hm) (F.push _)
    (fun p hp => ⟨Heap.get?_push_of_some _ (N p hp).1, (N p hp).2⟩) hj hoff turn done
end
section
variable {prog : Program} {w : World} {A : Around} {s : Shared} {h₀ : Heap} {L : Addr} {m : Str → Option Value} {env : Env} {elt : Expr} {x : Str} {scope : Scope} {cl : List (Str × Addr)}
/-- a comprehension over a list of ints that the ledger holds -/
theorem comp_ints {ax : Addr} {ws : List Value} {ks : List Int} {Fin : List Value → List (Addr × Obj) → Prop} {news : List (Addr × Obj)} (El : Int → Value → Prop) (hws : Each IsI ks ws) (hS : LCg.SrcAt h₀ ax ws.toArray news)
    (turn : ∀ k t I oI C oC D m₂ ys h tk (E' : Value → Shared → Prop), k ∈ ks → LCg.NsObj oC m₂ → m₂ x = some (.int k t) → Fr h₀ L h m → News h₀ L h ((I, oI) :: (C, oC) :: (D, LCg.lst ys) :: news) →
      wpAny (model prog w) A (eval elt (compEnvC scope cl C env)) (ElEnd h₀ L m ((I, oI) :: (C, oC) :: (D, LCg.lst ys) :: news) s (El k)) E' { s with heap := h, toks := tk })
    (fin : ∀ ys, Each El ks ys → Fin ys news) : LCg.CompRest prog w A h₀ L m env elt x scope cl s (LCg.SrcAt h₀ ax ws.toArray) (fun i v => ws.toArray[i]? = some v) Fin ws.toArray.size 0 [] news := by
  have e : ws.toArray.size = ks.length := by simpa using hws.length
  rw [e]
  refine comp_rest ks IsI El hS (fun i v hv => hws.get i v (by simpa using hv)) (fun k v I oI C oC D m₂ ys h tk E' hk hv hC hm F' N' => ?_) fin
  obtain ⟨t, rfl⟩ := hv
  exact turn k t I oI C oC D m₂ ys h tk E' hk hC hm F' N'
end
section
variable {prog : Program} {w : World} {A : Around} {E : Value → Shared → Prop} {s : Shared} {h₀ : Heap} {L : Addr} {m : Str → Option Value} {lg : List (Addr × Obj)}
/-- one object of the ledger's turned -/
theorem one_turned {D : Addr} {o o' : Obj} {h h' : Heap} (F : Fr h₀ L h m) (N : News h₀ L h ((D, o) :: lg)) (hoff : ∀ p ∈ lg, p.1 ≠ D) (hs : Heap.SameBut D h h') (hg : h'.get? D = some o') : Fr h₀ L h' m ∧ News h₀ L h' ((D, o') :: lg) := by
  have z := N _ List.mem_cons_self
  refine ⟨F.change hs z.2.1 z.2.2, fun p hp => ?_⟩
  rcases List.mem_cons.mp hp with rfl | hp
  · exact ⟨hg, z.2⟩
  · exact ⟨hs.extBut _ _ (hoff p hp) (N p (List.mem_cons_of_mem _ hp)).1, (N p (List.mem_cons_of_mem _ hp)).2⟩
theorem append_led {D : Addr} {ys : List Value} {n : Nat} {v : Value} {Q : Value → Shared → Prop} (F : Fr h₀ L s.heap m) (N : News h₀ L s.heap ((D, listOf ys.toArray n) :: lg)) (hoff : ∀ p ∈ lg, p.1 ≠ D) (hsz : ys.length ≤ sizeLine)
    (h : ∀ h', Fr h₀ L h' m → News h₀ L h' ((D, listOf (ys ++ [v]).toArray (n + 1)) :: lg) → Q .none { s with heap := h' }) : wpAny (model prog w) A (call (.builtin "list.append") [.ref D, v]) Q E s := by
  refine append_at (N _ List.mem_cons_self).1 (fun h' hs hg => ?_) (by simpa using hsz)
  rw [List.push_toArray] at hg
  have := one_turned F N hoff hs hg
  exact h h' this.1 this.2
/-- a written table of rows -/
def rowLits : Expr → Option (List PyData)
  | .Tuple elts _ _ => tupLitsOf elts
  | _ => none
def rowsLits : List Expr → Option (List (List PyData))
  | [] => some []
  | e :: es => match rowLits e, rowsLits es with
    | some d, some ds => some (d :: ds)
    | _, _ => none
abbrev RowAt (own : List (Addr × Obj)) (ds : List PyData) (v : Value) : Prop := ∃ a vs, v = .ref a ∧ (a, tupO vs) ∈ own ∧ DataAre vs ds
theorem spliced_rows {env : Env} {pos : Pos} : ∀ (elts : List Expr) (rs : List (List PyData)) (s : Shared) (news : List (Addr × Obj)) (Q : List Value → Shared → Prop), rowsLits elts = some rs → (∀ r ∈ rs, r.length ≤ sizeLine) → Fr h₀ L s.heap m → News h₀ L s.heap news →
    (∀ vs own h' tk, Fr h₀ L h' m → News h₀ L h' (own ++ news) → Each (RowAt own) rs vs → Q vs { s with heap := h', toks := tk }) → wpAny (model prog w) A (spliced (backTo pos (starEach elts env))) Q E s
  | [], rs, s, news, Q, hl, _, F, N, h => by
    cases hl
    exact args_nil (h [] [] s.heap s.toks F N .nil)
  | e :: es, rs, s, news, Q, hl, hz, F, N, h => by
    unfold rowsLits at hl
    cases hd : rowLits e with
    | none => rw [hd] at hl; cases hl
    | some d =>
      cases hr : rowsLits es with
      | none => rw [hd, hr] at hl; cases hl
      | some ds =>
        rw [hd, hr] at hl
        obtain rfl := Option.some.inj hl
        cases e with
        | Tuple elts k p =>
          refine args_cons (Tuple_ (spliced_lits elts d s _ hd fun vs tk hvs => ?_))
          refine newTuple_N (s := { s with toks := tk }) F N (fun h₁ F₁ N₁ => ?_) (by rw [dataAre_len hvs]; exact hz d List.mem_cons_self)
          refine spliced_rows es ds _ _ _ hr (fun r hr => hz r (List.mem_cons_of_mem _ hr)) F₁ N₁ fun us own h' tk' F' N' hus => ?_
          refine h _ (own ++ [(s.heap.objs.size, tupO vs)]) h' tk' F' (fun p hp => N' p (by simpa using hp)) (.cons ⟨_, vs, rfl, by simp, hvs⟩ ?_)
          have mono : ∀ {l : List (List PyData)} {us : List Value}, Each (RowAt own) l us → Each (RowAt (own ++ [(s.heap.objs.size, tupO vs)])) l us := fun hx => by
            induction hx with
            | nil => exact .nil
            | cons hv _ ih =>
              obtain ⟨a, ws, e1, e2, e3⟩ := hv
              exact .cons ⟨a, ws, e1, List.mem_append.mpr (.inl e2), e3⟩ ih
          exact mono hus
        | _ => cases hd
/-- a display of rows: each row and the table are new in the ledger -/
theorem Tuple_rows {env : Env} {elts : List Expr} {k : Nat} {pos : Pos} {news : List (Addr × Obj)} {Q : Value → Shared → Prop} (rs : List (List PyData)) (hl : rowsLits elts = some rs) (hz : ∀ r ∈ rs, r.length ≤ sizeLine) (hz' : rs.length ≤ sizeLine) (F : Fr h₀ L s.heap m) (N : News h₀ L s.heap news)
    (h : ∀ t vs own h' tk, Fr h₀ L h' m → News h₀ L h' ((t, tupO vs) :: (own ++ news)) → Each (RowAt own) rs vs → Q (.ref t) { s with heap := h', toks := tk }) : wpAny (model prog w) A (eval (.Tuple elts k pos) env) Q E s := by
  refine Tuple_ (spliced_rows elts rs s news _ hl hz F N fun vs own h' tk F' N' hvs => ?_)
  exact newTuple_N (s := { s with heap := h', toks := tk }) F' N' (fun h₁ F₁ N₁ => h _ vs own h₁ tk F₁ N₁ hvs) (by rw [hvs.length]; exact hz')
/-- an item of a written table at an open place -/
theorem item_row {value slice : Expr} {t : Addr} {vs : List Value} {k : Int} {u : Tok} {v : Value} {Q : Value → Shared → Prop} (N : News h₀ L s.heap lg) (hm : (t, tupO vs) ∈ lg) (h0 : 0 ≤ k) (hk : k < vs.length) (hz : vs.length ≤ 1000) (hv : vs[k.toNat]? = some v) (h : Q v s)
    (hs : subscripted slice false (.ref t) (.int k u) = operate [.ref t, .int k u] (getItem (.ref t) (.int k u)) := by with_unfolding_all rfl) :
    wpAny (model prog w) A (subscriptTail value slice (.ref t) (.int k u)) Q E s := by
  have e : (2 : Int) ^ 63 = 9223372036854775808 := by decide
  refine item_tupleT (l := vs) (j := k.toNat) ⟨_, N.get hm, rfl, _, rfl⟩ (by rw [e]; omega) (by rw [e]; omega) ?_ hv h hs
  have hn : ¬ k < 0 := by omega
  simp [seqIndex?, hn, h0, hk]
end
end Mine
namespace Mine
open PySem PySem.W PySem.Calls PyProof.Rows PyProof.V PySem.Spec
theorem kdl_intro : ∀ {D : List (PyData × PyData)} {C : List Value → Prop}, (∀ vs, Each (fun (q : PyData × PyData) v => Flat v q.1) D vs → C vs) → KdlKeysD D C
  | [], _, h => h [] .nil
  | _ :: _, _, h => fun v hv => kdl_intro fun vs hvs => h (v :: vs) (.cons hv hvs)
theorem tabD_keys : ∀ {rs : List Row} {vs : List Value}, Each (fun (q : PyData × PyData) v => Flat v q.1) (tabD rs) vs → Each IsI (rs.map (·.1)) vs
  | [], _, h => by cases h; exact .nil
  | (k, x) :: rs, _, h => by
    cases h with
    | cons hv h =>
      exact .cons (PyProof.V.Flat.int_inv hv) (tabD_keys h)
theorem each_kf : ∀ {ns : List Int} {vs : List Value}, Each IsI ns vs → kf_ints vs = true ∧ lks_nums vs = ns
  | _, _, .nil => ⟨rfl, rfl⟩
  | _, _, .cons hv h => by
    obtain ⟨t, rfl⟩ := hv
    have := each_kf h
    exact ⟨this.1, by show _ :: lks_nums _ = _; rw [this.2]⟩
theorem vals_each : ∀ (ns : List Int) (i : Nat) (t : Nat → Tok), Each IsI ns (lks_vals ns i t)
  | [], _, _ => .nil
  | _ :: ns, i, t => .cons ⟨_, rfl⟩ (vals_each ns (i + 1) t)
section
variable {prog : Program} {w : World} {A : Around} {E : Value → Shared → Prop} {s : Shared} {h₀ : Heap} {L d : Addr} {m : Str → Option Value} {news : List (Addr × Obj)}
/-- a table's keys, sorted -/
theorem sorted_tab {rs : List Row} {Q : Value → Shared → Prop} (hh : A.handled = none) (F : Fr h₀ L s.heap m) (N : News h₀ L s.heap news) (T : IntTab prog w s.heap d (tabD rs)) (h64 : rs.length < 64) (hne : rs ≠ []) (hasc : lks_asc (rs.map (·.1)) = true)
    (h : ∀ B ys n h' tk, Each IsI (rs.map (·.1)) ys → Fr h₀ L h' m → News h₀ L h' ((B, listOf ys.toArray n) :: news) → (∀ p ∈ news, p.1 < B) → Q (.ref B) { s with heap := h', toks := tk }) :
    wpAny (model prog w) A (call (.builtin "sorted") [.ref d]) Q E s := by
  refine kdu_sortedD (knd := PySem.intKind prog w) (enc := PyData.int) (fun _ _ => kdl_flat_int) hh F N T (by unfold tabD; rw [List.length_map]; omega) fun B h' tk => kdl_intro fun vs hvs F' N' hlt => ?_
  have hk := tabD_keys hvs
  have hl : vs.length = rs.length := by rw [hk.length, List.length_map]
  refine lks_sort (q := rs.map (·.1)) F' N' (fun t => Upd.head fun p hp => Nat.ne_of_lt (hlt p hp)) (each_kf hk).1 ?_ ?_ (by show vs.length < 64; omega) fun t h'' F'' N'' => h B _ _ h'' tk (vals_each _ 0 t) F'' N'' hlt
  · unfold lks_ok
    rw [(each_kf hk).2, hasc, Bool.and_true]
    exact List.isPerm_iff.mpr (List.Perm.refl _)
  · show vs.isEmpty = false
    cases vs with
    | nil => exact absurd (List.eq_nil_of_length_eq_zero hl.symm) hne
    | cons => rfl
end
end Mine
set_option Elab.async false
namespace Mine
open PySem PySem.W PySem.Calls PyProof.Rows PySem.Spec
set_option maxRecDepth 100000
set_option maxHeartbeats 1000000
def retElts : FuncBody → List Expr
  | .stmts [.Return (some (.Tuple es _ _)) _] => es
  | _ => []
def runsR : List (List PyData) := (rowsLits (retElts fb4)).getD []
theorem some_of {α : Type} {o : Option (List α)} (h : o.isSome = true) : o = some (o.getD []) := by
  cases o with
  | none => cases h
  | some r => rfl
theorem runs_some : rowsLits (retElts fb4) = some runsR := some_of (by decide +kernel)
def runsZ : List (Int × Int) := runsR.map fun r => match r with
  | [.int a, .int b] => (a, b)
  | _ => (0, 0)
def sizedRow (r : List PyData) : Bool := Nat.ble r.length 10
theorem runs_sized : (runsR.all sizedRow && Nat.ble runsR.length 100) = true := by decide +kernel
theorem sized_of {rs : List (List PyData)} (h : (rs.all sizedRow && Nat.ble rs.length 100) = true) : (∀ r ∈ rs, r.length ≤ sizeLine) ∧ rs.length ≤ sizeLine := by
  rw [Bool.and_eq_true] at h
  have e : 100 ≤ sizeLine := by decide
  refine ⟨fun r hr => Nat.le_trans (Nat.le_of_ble_eq_true (List.all_eq_true.mp h.1 r hr)) (Nat.le_trans (by decide) e), Nat.le_trans (Nat.le_of_ble_eq_true h.2) e⟩
section
local macro_rules | `(tactic| walk_at "eval Tuple") => `(tactic| (k_here; refine Tuple_rows runsR (by kernel_rfl) (sized_of runs_sized).1 (sized_of runs_sized).2 (by k_asm) (by k_asm) ?_; intro t vs own h9 tk9 F9 N9 hr9))
theorem runs_call (w : World) (mean : ExcName → Option Value) (mg mb : Str → Option Value) (lc : List Str) :
    Claim pg w (kf w.params) qv lc mean mg mb 67 [] (fun h₀ L m news s Q => ∀ t vs own h' tk', Fr h₀ L h' m → News h₀ L h' ((t, tupO vs) :: (own ++ news)) → Each (RowAt own) runsR vs → Q (.ref t) { s with heap := h', toks := tk' }) := by
  dsimp only [Claim]
  intros
  rename_i hret
  refine wpAny_call ?_
  k_dflt cell_enter
  w_on
  k_steps
  exact hret _ _ _ _ _ (by k_asm) (by k_asm) (by assumption)
end
end Mine
set_option Elab.async false
namespace Mine
open PySem PySem.W PySem.Calls PyProof.Rows PySem.Spec
set_option maxRecDepth 100000
set_option maxHeartbeats 1000000
theorem runs_eq : runsR = runsZ.map fun z => [PyData.int z.1, PyData.int z.2] := by kernel_rfl
theorem runs_len : runsZ.length = 20 := by decide +kernel
def lo (i : Nat) : Int := (runsZ.getD i (0, 0)).1
def hi (i : Nat) : Int := (runsZ.getD i (0, 0)).2
theorem runs_wide : ((List.range 20).all fun i => decide (0 ≤ lo i) && decide (lo i < hi i) && decide (hi i ≤ 1114112)) = true := by decide +kernel
theorem run_at {own : List (Addr × Obj)} {vs : List Value} (h : Each (RowAt own) runsR vs) {i : Nat} (hi' : i < 20) : ∃ a tl th, vs[i]? = some (.ref a) ∧ (a, tupO [.int (lo i) tl, .int (hi i) th]) ∈ own := by
  have hl := h.length
  rw [runs_eq, List.length_map, runs_len] at hl
  obtain ⟨v, hv⟩ : ∃ v, vs[i]? = some v := ⟨vs[i]'(by omega), by simp [hl, hi']⟩
  obtain ⟨ds, hds, a, us, rfl, hm, hd⟩ := h.get i v hv
  rw [runs_eq, List.getElem?_map] at hds
  have hz : runsZ[i]? = some (runsZ[i]'(by rw [runs_len]; exact hi')) := by simp [runs_len, hi']
  rw [hz] at hds
  have e := Option.some.inj hds
  subst e
  cases hd with
  | cons h1 hd =>
    cases hd with
    | cons h2 hd =>
      cases hd
      obtain ⟨tl, rfl⟩ := datum_int h1
      obtain ⟨th, rfl⟩ := datum_int h2
      refine ⟨a, tl, th, hv, ?_⟩
      have e1 : runsZ.getD i (0, 0) = runsZ[i]'(by rw [runs_len]; exact hi') := by rw [List.getD_eq_getElem?_getD, hz]; rfl
      unfold lo hi
      rw [e1]
      exact hm
/-- a code point -/
def PtV (v : Value) : Prop := ∃ (c : Nat) (t : Tok), v = .int c t ∧ c < 1114112
theorem ptv_int {z : Int} {t : Tok} (h0 : 0 ≤ z) (h1 : z < 1114112) : PtV (.int z t) := ⟨z.toNat, t, by rw [Int.toNat_of_nonneg h0], by omega⟩
section
local macro_rules | `(tactic| walk_at "call builtin:list.append") => `(tactic| (k_here; (refine append_led (by k_asm) (by k_asm) (by assumption) (by (try simp only [List.length_append, List.length_cons, List.length_nil]); have : 2000 ≤ sizeLine := (by decide); omega) ?_; intro h9 F9 N9)))
local macro_rules | `(tactic| walk_at "subscriptTail") => `(tactic| (k_here; (refine item_row (by k_asm) (List.mem_cons_of_mem _ (by assumption)) (by omega) (by omega) (by omega) (by assumption) ?_)))
local macro_rules | `(tactic| walk_at "assign Tuple") => `(tactic| (k_here; (with_reducible show wpAny _ _ (assign (Expr.Tuple _ _ _) _ (Value.ref _)) _ _ _); k_dflt (refine' unpackN_ ?k1 ?k2 ?k3 ?k4 ?k5 ?k6 ?_; (case k1 => k_asm); (case k2 => k_asm); (case k3 => exact News.isTup (by k_asm) (List.mem_cons_of_mem _ (by assumption))); (case k4 => exact rfl); (case k5 => exact rfl); (case k6 => exact rfl); k_whole); intro h' F' N'; (try k_sweep)))
theorem turn1 (w : World) {mean : ExcName → Option Value} {mg mb : Str → Option Value} {lc : List Str} {dp un : Nat} {gd : Option (List Code)} {a : Addr} {ccd : Value} {outer : List Env} {A₀ : Around} {base h₀ : Heap} {L : Addr} {m : Str → Option Value} {lg own : List (Addr × Obj)} {s : Shared} {Q : Flow → Shared → Prop} {E : Value → Shared → Prop}
    {n : Int} {tn : Tok} {d t dl : Addr} {vs ys : List Value} {k : Nat}
    (B : Below A₀ base outer h₀) (F : Fr h₀ L s.heap (fun y => if y = "number" then some (.int n tn) else if y = "runs" then some (.ref t) else if y = "drawn" then some (.ref dl) else if y = "told" then some (.ref d) else m y)) (X : (kf w.params).In h₀) (N : News h₀ L s.heap ((dl, listOf ys.toArray k) :: lg)) (T : Top qv lc mean mg mb h₀) (hdp : dp + 3 < recursionLimit) (hun : un + 20 < cLine)
    (hoff : ∀ p ∈ lg, p.1 ≠ dl) (ht : (t, tupO vs) ∈ lg) (hr : Each (RowAt own) runsR vs) (hown : ∀ p ∈ own, p ∈ lg) (h0 : 0 ≤ n) (hn : n < 22241280) (hlen : ys.length ≤ 1000)
    (hQ : ∀ h' tk' m' v1 v2, PtV v1 → PtV v2 → Fr h₀ L h' m' → News h₀ L h' ((dl, listOf (ys ++ [v1] ++ [v2]).toArray (k + 1 + 1)) :: lg) → m' "runs" = some (.ref t) → m' "drawn" = some (.ref dl) → m' "told" = some (.ref d) → Q .next { s with heap := h', toks := tk' }) :
    wpAny (model pg w) (ktrTop dp un gd "law" fs7 L a ccd [] outer) (execs body1 (envOf "law" fs7 L a ccd)) Q E s := by
  have hfm : 0 ≤ Int.fmod n 20 ∧ Int.fmod n 20 < 20 := ⟨Int.fmod_nonneg_of_pos n (by decide), Int.fmod_lt_of_pos n (by decide)⟩
  obtain ⟨ar, tl, th, hv, hm'⟩ := run_at hr (i := (Int.fmod n 20).toNat) (by omega)
  have hm := hown _ hm'
  have hvl := hr.length
  rw [runs_eq, List.length_map, runs_len] at hvl
  have hw := List.all_eq_true.mp runs_wide (Int.fmod n 20).toNat (List.mem_range.mpr (by omega))
  simp only [Bool.and_eq_true, decide_eq_true_eq] at hw
  have hlt := hw.1.2
  have hge := hw.1.1
  have hle := hw.2
  have hq : 0 ≤ n.fdiv 20 ∧ n.fdiv 20 < 1112064 := by
    rw [Int.fdiv_eq_ediv_of_nonneg n (by decide)]; omega
  have hq2 : 0 ≤ (n.fdiv 20).fmod (hi (Int.fmod n 20).toNat - lo (Int.fmod n 20).toNat) ∧ (n.fdiv 20).fmod (hi (Int.fmod n 20).toNat - lo (Int.fmod n 20).toNat) < hi (Int.fmod n 20).toNat - lo (Int.fmod n 20).toNat :=
    ⟨Int.fmod_nonneg_of_pos _ (by omega), Int.fmod_lt_of_pos _ (by omega)⟩
  rw [show body1 = List.cons _ _ from rfl]
  w_on
  k_steps
  all_goals (refine' hQ _ _ _ _ _ ?p1 ?p2 ?f ?n ?r1 ?r2 ?r3; (case f => k_asm); (case n => k_asm); (case r1 => rfl); (case r2 => rfl); (case r3 => rfl); (case p1 => exact ptv_int (by omega) (by omega)); (case p2 => exact ptv_int (by omega) (by omega)))
end
end Mine
set_option Elab.async false
namespace Mine
open PySem PySem.W PySem.Calls PyProof.Rows PySem.Spec
set_option maxRecDepth 100000
set_option maxHeartbeats 1000000
/-- the plain law -/
def Plain : Prop := ∀ c : Nat, c < 1114112 → (∀ x, toldAt c = some x → foldS c = x) ∧ (toldAt c = none → leftOut c = false → foldS c = smallS c ∧ foldsS c = smallS c)
theorem map3 {m : Str → Option Value} {a b c : Str} {x y z : Value} (ha : m a = some x) (hb : m b = some y) (hc : m c = some z) : m = fun v => if v = a then some x else if v = b then some y else if v = c then some z else m v := by
  funext v
  by_cases h1 : v = a
  · rw [if_pos h1, h1, ha]
  · rw [if_neg h1]
    by_cases h2 : v = b
    · rw [if_pos h2, h2, hb]
    · rw [if_neg h2]
      by_cases h3 : v = c
      · rw [if_pos h3, h3, hc]
      · rw [if_neg h3]
theorem map1 {m : Str → Option Value} {a : Str} {x : Value} (ha : m a = some x) : m = fun v => if v = a then some x else m v := by
  funext v
  by_cases h1 : v = a
  · simp [h1, ha]
  · simp [h1]
theorem map2 {m : Str → Option Value} {a b : Str} {x y : Value} (ha : m a = some x) (hb : m b = some y) : m = fun v => if v = a then some x else if v = b then some y else m v := by
  funext v
  by_cases h1 : v = a
  · rw [if_pos h1, h1, ha]
  · rw [if_neg h1]
    by_cases h2 : v = b
    · rw [if_pos h2, h2, hb]
    · rw [if_neg h2]
theorem told_in : (toldR.all fun r => decide (0 ≤ r.1) && decide (r.1 < 1114112)) = true := by decide +kernel
theorem told_pts {ys : List Value} (h : Each IsI (toldR.map (·.1)) ys) : ∀ v ∈ ys, PtV v := by
  intro v hv
  obtain ⟨i, hi⟩ := List.getElem?_of_mem hv
  obtain ⟨n, hn, t, rfl⟩ := h.get i v hi
  obtain ⟨r, hr, rfl⟩ := List.mem_map.mp (List.mem_of_getElem? hn)
  have := List.all_eq_true.mp told_in r hr
  simp only [Bool.and_eq_true, decide_eq_true_eq] at this
  exact ptv_int this.1 this.2
section
variable {w : World} {mean : ExcName → Option Value} {mg mb : Str → Option Value} {lc : List Str} {dp un : Nat} {gd : Option (List Code)} {a : Addr} {ccd : Value} {outer : List Env} {A₀ : Around} {base h₀ : Heap} {L : Addr} {m : Str → Option Value} {lg own : List (Addr × Obj)} {s : Shared} {Q : Flow → Shared → Prop} {E : Value → Shared → Prop}
  {d t dl l : Addr} {vs ys us : List Value} {k : Nat} {ns : List Int} {q : Addr × Obj} {es : List DictEntry}
theorem loop1 (B : Below A₀ base outer h₀) (F : Fr h₀ L s.heap m) (X : (kf w.params).In h₀) (N : News h₀ L s.heap ((l, LCg.lst us) :: q :: (dl, listOf ys.toArray k) :: lg)) (T : Top qv lc mean mg mb h₀) (hdp : dp + 3 < recursionLimit) (hun : un + 20 < cLine)
    (hof : LCg.Off1 l (q :: (dl, listOf ys.toArray k) :: lg)) (hlt : ∀ p ∈ lg, p.1 < dl) (ht : (t, tupO vs) ∈ lg) (hr : Each (RowAt own) runsR vs) (hown : ∀ p ∈ own, p ∈ lg) (hm1 : m "runs" = some (.ref t)) (hm2 : m "drawn" = some (.ref dl)) (hm3 : m "told" = some (.ref d))
    (hi : Each (fun n v => IsI (Int.fmod n 22241280) v) ns us) (hnl : ns.length ≤ 24) (hyl : ys.length ≤ 100) (hys : ∀ v ∈ ys, PtV v)
    (done : ∀ m' (ys' : List Value) (k' : Nat) h tk, (∀ v ∈ ys', PtV v) → m' "drawn" = some (.ref dl) → m' "told" = some (.ref d) → Fr h₀ L h m' → News h₀ L h ((dl, listOf ys'.toArray k') :: (l, LCg.lst us) :: lg) → Q .next { s with heap := h, toks := tk }) :
    wpAny (model pg w) (ktrTop dp un gd "law" fs7 L a ccd [] outer) (pyIter (.ref l)) (fun it s₂ => LoopAtV pg w (ktrTop dp un gd "law" fs7 L a ccd [] outer) h₀ (envOf "law" fs7 L a ccd) "number" body1 Q E it s₂) E s := by
  have N₀ : News h₀ L s.heap ((dl, listOf ys.toArray k) :: (l, LCg.lst us) :: lg) := fun p hp => by
    rcases List.mem_cons.mp hp with rfl | hp
    · exact N _ (.tail _ (.tail _ (.head _)))
    · rcases List.mem_cons.mp hp with rfl | hp
      · exact N _ (.head _)
      · exact N p (.tail _ (.tail _ (.tail _ hp)))
  have hoff : ∀ p ∈ (l, LCg.lst us) :: lg, p.1 ≠ dl := fun p hp => by
    rcases List.mem_cons.mp hp with rfl | hp
    · exact Ne.symm hof.2.1
    · exact Nat.ne_of_lt (hlt p hp)
  refine iter_one (fun i m₁ oA => m₁ "runs" = some (.ref t) ∧ m₁ "drawn" = some (.ref dl) ∧ m₁ "told" = some (.ref d) ∧ ∃ (ys' : List Value) (k' : Nat), oA = listOf ys'.toArray k' ∧ ys'.length ≤ 100 + 2 * i ∧ ∀ v ∈ ys', PtV v) rfl (l := l) (o := LCg.lst us) (vs := us) (rest := (l, LCg.lst us) :: lg) List.mem_cons_self (fun h e => ⟨_, e, rfl, _, rfl⟩) F N₀ ⟨hm1, hm2, hm3, ys, k, rfl, by omega, hys⟩ hoff ?_ ?_
  · rintro i v m₁ oA h tk lg' hv ⟨h1, h2, h3, ys', k', rfl, hle, hys'⟩ hsub hoff' F₁ N₁
    obtain ⟨n₀, hnn, tn, rfl⟩ := hi.get i v hv
    have hil : i < us.length := (List.getElem?_eq_some_iff.mp hv).1
    rw [hi.length] at hil
    have hb : 0 ≤ Int.fmod n₀ 22241280 ∧ Int.fmod n₀ 22241280 < 22241280 := ⟨Int.fmod_nonneg_of_pos _ (by decide), Int.fmod_lt_of_pos _ (by decide)⟩
    rw [map3 h1 h2 h3] at F₁
    refine turn1 w B F₁ X N₁ T hdp hun hoff' (hsub _ (List.mem_cons_of_mem _ ht)) hr (fun p hp => hsub _ (List.mem_cons_of_mem _ (hown p hp))) hb.1 hb.2 (by omega) ?_
    intro h' tk' m' v1 v2 p1 p2 F' N' e1 e2 e3
    refine ⟨h', tk', m', _, rfl, F', N', e1, e2, e3, _, _, rfl, ?_, ?_⟩
    · simp only [List.length_append, List.length_cons, List.length_nil]; omega
    · intro v hv
      simp only [List.mem_append, List.mem_singleton] at hv
      rcases hv with (hv | rfl) | rfl
      · exact hys' v hv
      · exact p1
      · exact p2
  · rintro m₁ oA h tk ⟨h1, h2, h3, ys', k', rfl, hle, hys'⟩ F₁ N₁
    exact done m₁ ys' k' h tk hys' h2 h3 F₁ N₁
theorem loop2 (pl : Plain) (B : Below A₀ base outer h₀) (F : Fr h₀ L s.heap m) (X : (kf w.params).In h₀) (N : News h₀ L s.heap lg) (T : Top qv lc mean mg mb h₀) (hdp : dp + 3 < recursionLimit) (hun : un + 20 < cLine)
    (hl : (l, listOf ys.toArray k) ∈ lg) (hys : ∀ v ∈ ys, PtV v) (hm : m "told" = some (.ref d)) (hd : (d, dobj es 16) ∈ lg) (he : Ents es toldR) (hds : (d == sysModules) = false)
    (done : ∀ m' h tk, Fr h₀ L h m' → Q .next { s with heap := h, toks := tk }) :
    wpAny (model pg w) (ktrTop dp un gd "law" fs7 L a ccd [] outer) (pyIter (.ref l)) (fun it s₂ => LoopAtV pg w (ktrTop dp un gd "law" fs7 L a ccd [] outer) h₀ (envOf "law" fs7 L a ccd) "point" body2 Q E it s₂) E s := by
  refine iter_led (fun i m₁ => m₁ "told" = some (.ref d)) rfl hl (fun h e => ⟨_, e, rfl, _, rfl⟩) F N hm ?_ ?_
  · intro i v m₁ h tk own' hv h1 F₁ N₁
    obtain ⟨c, tc, rfl, hc⟩ := hys v (List.mem_of_getElem? hv)
    rw [map1 h1] at F₁
    refine turn2 w B F₁ X N₁ T hdp hun (List.mem_append.mpr (.inr hd)) he hds hc (pl c hc).1 (pl c hc).2 ?_
    intro h' tk' m' F' N' e
    exact ⟨h', tk', m', _, rfl, F', N', fun p hp => hp, e⟩
  · intro m₁ h tk _ F₁ _
    exact done m₁ h tk F₁
theorem runs_use (B : Below A₀ base outer h₀) (F : Fr h₀ L s.heap m) (X : (kf w.params).In h₀) (N : News h₀ L s.heap lg) (T : Top qv lc mean mg mb h₀) {cn : Str} {cs : Scope} {cl : List (Str × Addr)} {Q : Value → Shared → Prop} (hk : cs.kind = .function) (hd : dp + 1 < recursionLimit) (hu : un + 8 < cLine)
    (h : ∀ t vs own h' tk', Fr h₀ L h' m → News h₀ L h' ((t, tupO vs) :: (own ++ lg)) → Each (RowAt own) runsR vs → Q (.ref t) { s with heap := h', toks := tk' }) :
    wpAny (model pg w) (ktrTop dp un gd cn cs L a ccd cl outer) (call (.ref 67) []) Q E s :=
  runs_call w mean mg mb lc dp un gd cn cs a ccd cl outer A₀ base h₀ L m lg s Q E B F X N T hk hd hu h
theorem told_use (B : Below A₀ base outer h₀) (F : Fr h₀ L s.heap m) (X : (kf w.params).In h₀) (N : News h₀ L s.heap lg) (T : Top qv lc mean mg mb h₀) {cn : Str} {cs : Scope} {cl : List (Str × Addr)} {Q : Value → Shared → Prop} (hk : cs.kind = .function) (hd : dp + 1 < recursionLimit) (hu : un + 8 < cLine)
    (h : ∀ es d h' tk', Ents es toldR → Fr h₀ L h' m → News h₀ L h' ((d, dobj es 16) :: lg) → (d == sysModules) = false → Q (.ref d) { s with heap := h', toks := tk' }) :
    wpAny (model pg w) (ktrTop dp un gd cn cs L a ccd cl outer) (call (.ref 74) []) Q E s :=
  told_call w mean mg mb lc dp un gd cn cs a ccd cl outer A₀ base h₀ L m lg s Q E B F X N T hk hd hu fun t d h' tk' F' N' e => h _ d h' tk' (entsV_ents t toldR) F' N' e
end
section
local macro_rules | `(tactic| walk_at "call ref") => `(tactic| (k_here; (refine' runs_use ?k1 ?k2 ?k3 ?k4 ?k5 ?k6 ?k7 ?k8 ?_; (case k1 => k_asm); (case k2 => k_asm); (case k3 => k_asm); (case k4 => k_asm); (case k5 => k_asm); (case k6 => rfl); (case k7 => omega); (case k8 => omega); intro t9 vs9 own9 h9 tk9 F9 N9 hr9)))
local macro_rules | `(tactic| walk_at "call ref") => `(tactic| (k_here; (refine' told_use ?k1 ?k2 ?k3 ?k4 ?k5 ?k6 ?k7 ?k8 ?_; (case k1 => k_asm); (case k2 => k_asm); (case k3 => k_asm); (case k4 => k_asm); (case k5 => k_asm); (case k6 => rfl); (case k7 => omega); (case k8 => omega); intro es9 d9 h9 tk9 he9 F9 N9 hs9)))
local macro_rules | `(tactic| walk_at "call builtin:sorted") => `(tactic| (k_here; k_dflt (refine sorted_tab rfl (by k_asm) (by k_asm) (told_tab (by assumption) (by assumption) (by k_asm) (by repeat (first | exact List.Mem.head _ | apply List.mem_cons_of_mem))) (by rw [told_len]; decide) (by intro e; have := told_len; rw [e] at this; cases this) (by decide +kernel) ?_); intro B9 ys9 n9 h9 tk9 hys9 F9 N9 hlt9))
local macro_rules | `(tactic| walk_at "eval ListComp") => `(tactic| (k_here; k_dflt (refine LCg.ListComp_U (F₀ := by k_asm) (by rfl) (by decide) (by rfl) (by decide) (by rfl) ?_)))
local macro_rules | `(tactic| walk_at "CompSrc") => `(tactic| (k_here; k_dflt (refine LCg.CompSrc.ledger rfl (by k_asm) (by k_asm) (by k_mem) (by (try simp only [List.size_toArray]); have hL9 := IntsAre.length (ns := List.take 24 _) (by assumption); rw [List.length_take] at hL9; have : 2000 ≤ sizeLine := (by decide); omega) ?_); intro g9; (refine comp_ints (fun n v => IsI (Int.fmod n 22241280) v) (ints_each (by assumption)) (Or.inr ⟨_, by k_mem, rfl, _, rfl⟩) ?_ ?_); (intro k9 t9 I9 oI9 C9 oC9 D9 m9 ys9 h9 tk9 E9 hk9 hC9 hm9 F9 N9); (rotate_left; intro ys9 hys9 D9 h9 tk9 F9 N9 o9; rotate_right)))
local macro_rules | `(tactic| walk_at "ElEnd") => `(tactic| exact ⟨_, _, rfl, by k_asm, by k_asm, _, rfl⟩)
theorem law_walk (pl : Plain) (w : World) {mean : ExcName → Option Value} {mg mb : Str → Option Value} {lc : List Str} {dp un : Nat} {gd : Option (List Code)} {a : Addr} {ccd : Value} {outer : List Env} {A₀ : Around} {base h₀ : Heap} {L : Addr} {m : Str → Option Value} {s : Shared} {Q : Flow → Shared → Prop} {E : Value → Shared → Prop}
    {sl : Addr} {us : List Value} {ns : List Int}
    (B : Below A₀ base outer h₀) (F : Fr h₀ L s.heap (fun y => if y = "script" then some (.ref sl) else m y)) (X : (kf w.params).In h₀) (N : News h₀ L s.heap []) (T : Top qv lc mean mg mb h₀) (hdp : dp + 3 < recursionLimit) (hun : un + 20 < cLine)
    (hsl : h₀.IsList sl us.toArray) (hns : IntsAre us ns) (hlen : ns.length ≤ 63) (hE : PassesOwn (model pg w) (ktrTop dp un gd "law" fs7 L a ccd [] outer) (envOf "law" fs7 L a ccd) E)
    (hQ : ∀ h' tk' m', Fr h₀ L h' m' → Q (.ret (.bool true)) { s with heap := h', toks := tk' }) :
    wpAny (model pg w) (ktrTop dp un gd "law" fs7 L a ccd [] outer) (execs lawB (envOf "law" fs7 L a ccd)) Q E s := by
  rw [show lawB = List.cons _ _ from rfl]
  w_on
  k_steps
  refine' loop1 B ?z1 X ?z2 T hdp hun ?z3 ?z4 ?z5 ?z6 ?z7 ?m1 ?m2 ?m3 ?z8 ?z9 ?z10 ?z11 ?z12
  case z1 => k_asm
  case z2 => k_asm
  case m1 => rfl
  case m2 => rfl
  case m3 => rfl
  case z3 => assumption
  case z4 => assumption
  case z6 => assumption
  case z5 => exact List.mem_cons_of_mem _ (List.mem_cons_of_mem _ (List.Mem.head _))
  case z7 => exact fun p hp => List.mem_cons_of_mem _ (List.mem_cons_of_mem _ (List.mem_cons_of_mem _ (by simpa using hp)))
  case z8 => assumption
  case z9 => exact List.length_take_le 24 ns
  case z10 => rw [Each.length (R := IsI) (by assumption), List.length_map, told_len]; decide
  case z11 => exact told_pts (by assumption)
  case z12 =>
    intro m' ys' k' h tk hys' e1 e2 F' N'
    rw [map2 e1 e2] at F'
    dsimp only
    k_steps
    refine For_invVF (by k_asm) rfl rfl (ld (by k_asm) rfl ?_) (hE := hE)
    refine' loop2 pl B ?y1 X ?y2 T hdp hun ?y3 ?y4 ?y5 ?y6 ?y7 ?y8 ?y9
    case y1 => k_asm
    case y2 => k_asm
    case y3 => exact List.Mem.head _
    case y4 => assumption
    case y5 => rfl
    case y6 => repeat (first | exact List.Mem.head _ | apply List.mem_cons_of_mem)
    case y7 => assumption
    case y8 => assumption
    case y9 =>
      intro m'' h' tk' F''
      dsimp only
      k_steps
      exact hQ _ _ _ (by k_asm)
end
end Mine
namespace Mine
open PySem PySem.Unicode PySem.UnicodeData

/-! a search tree over a sorted table of stretches -/
inductive T (α : Type) where
  | lf : T α
  | nd (l : T α) (a b : Nat) (v : α) (r : T α) : T α

def T.toL {α : Type} : T α → List (Nat × Nat × α)
  | .lf => []
  | .nd l a b v r => l.toL ++ (a, b, v) :: r.toL

noncomputable def T.get {α : Type} (c : Nat) (t : T α) : Option (Nat × α) :=
  T.rec (motive := fun _ => Option (Nat × α)) none
    (fun _ a b v _ gl gr => (Nat.ble a c).rec gl ((Nat.ble c b).rec gr (some (a, v)))) t

theorem T.get_nd {α : Type} {c a b : Nat} {v : α} {l r : T α} :
    (T.nd l a b v r).get c = if c < a then l.get c else if c ≤ b then some (a, v) else r.get c := by
  show Bool.rec (motive := fun _ => Option (Nat × α)) (l.get c) (Bool.rec (motive := fun _ => Option (Nat × α)) (r.get c) (some (a, v)) (Nat.ble c b)) (Nat.ble a c) = _
  cases h1 : Nat.ble a c with
  | false =>
    have : ¬ a ≤ c := fun h => by rw [Nat.ble_eq.mpr h] at h1; cases h1
    rw [if_pos (by omega)]
  | true =>
    have := Nat.le_of_ble_eq_true h1
    rw [if_neg (by omega)]
    cases h2 : Nat.ble c b with
    | false =>
      have : ¬ c ≤ b := fun h => by rw [Nat.ble_eq.mpr h] at h2; cases h2
      rw [if_neg this]
    | true => rw [if_pos (Nat.le_of_ble_eq_true h2)]

def build {α : Type} : Nat → List (Nat × Nat × α) → T α × List (Nat × Nat × α)
  | 0, l => (.lf, l)
  | d + 1, l => match build d l with
    | (t, []) => (t, [])
    | (t, (a, b, v) :: r) => match build d r with
      | (t', r') => (.nd t a b v t', r')

theorem build_toL {α : Type} : ∀ (d : Nat) (l : List (Nat × Nat × α)), (build d l).1.toL ++ (build d l).2 = l
  | 0, l => rfl
  | d + 1, l => by
    have h1 := build_toL d l
    unfold build
    rcases e : build d l with ⟨t, r⟩
    rw [e] at h1
    cases r with
    | nil => exact h1
    | cons x r =>
      obtain ⟨a, b, v⟩ := x
      have h2 := build_toL d r
      rcases e2 : build d r with ⟨t', r'⟩
      rw [e2] at h2
      simp only at h1 h2
      simp only [T.toL, List.append_assoc, List.cons_append, e2]
      rw [h2, h1]

def find {α : Type} : List (Nat × Nat × α) → Nat → Option (Nat × α)
  | [], _ => none
  | (a, b, v) :: r, c => if c < a then none else if c ≤ b then some (a, v) else find r c

def chk {α : Type} : Nat → List (Nat × Nat × α) → Bool
  | _, [] => true
  | lo, (a, b, _) :: r => Nat.ble lo a && (Nat.ble a b && chk (b + 1) r)

theorem chk_cons {α : Type} {lo a b : Nat} {v : α} {r : List (Nat × Nat × α)} (h : chk lo ((a, b, v) :: r) = true) : lo ≤ a ∧ a ≤ b ∧ chk (b + 1) r = true := by
  unfold chk at h
  simp only [Bool.and_eq_true] at h
  exact ⟨Nat.le_of_ble_eq_true h.1, Nat.le_of_ble_eq_true h.2.1, h.2.2⟩
theorem chk_le {α : Type} : ∀ {l : List (Nat × Nat × α)} {lo lo' : Nat}, lo' ≤ lo → chk lo l = true → chk lo' l = true
  | [], _, _, _, _ => rfl
  | (a, b, v) :: r, lo, lo', hl, h => by
    obtain ⟨h1, h2, h3⟩ := chk_cons h
    unfold chk
    rw [Nat.ble_eq.mpr (Nat.le_trans hl h1), Nat.ble_eq.mpr h2, h3]; rfl
theorem find_low {α : Type} : ∀ {l : List (Nat × Nat × α)} {lo c : Nat}, chk lo l = true → c < lo → find l c = none
  | [], _, _, _, _ => rfl
  | (a, b, v) :: r, lo, c, h, hc => by
    obtain ⟨h1, _, _⟩ := chk_cons h
    unfold find
    rw [if_pos (by omega)]
theorem chk_append {α : Type} : ∀ {l : List (Nat × Nat × α)} {lo a b : Nat} {v : α} {r : List (Nat × Nat × α)}, chk lo (l ++ (a, b, v) :: r) = true →
    chk lo l = true ∧ lo ≤ a ∧ chk (b + 1) r = true ∧ ∀ c, find (l ++ (a, b, v) :: r) c = if c < a then find l c else if c ≤ b then some (a, v) else find r c
  | [], lo, a, b, v, r, h => by
    obtain ⟨h1, h2, h3⟩ := chk_cons h
    exact ⟨rfl, h1, h3, fun c => rfl⟩
  | (a', b', v') :: l, lo, a, b, v, r, h => by
    obtain ⟨h1, h2, h3⟩ := chk_cons h
    obtain ⟨i1, i2, i3, i4⟩ := chk_append h3
    refine ⟨?_, by omega, i3, fun c => ?_⟩
    · unfold chk; rw [Nat.ble_eq.mpr h1, Nat.ble_eq.mpr h2, i1]; rfl
    · show (if c < a' then none else if c ≤ b' then some (a', v') else find (l ++ (a, b, v) :: r) c) = if c < a then (if c < a' then none else if c ≤ b' then some (a', v') else find l c) else if c ≤ b then some (a, v) else find r c
      rw [i4 c]
      by_cases q1 : c < a'
      · rw [if_pos q1, if_pos (by omega), if_pos q1]
      · rw [if_neg q1]
        by_cases q2 : c ≤ b'
        · rw [if_pos q2, if_pos (by omega), if_neg q1, if_pos q2]
        · rw [if_neg q2]; simp only [if_neg q1, if_neg q2]

theorem get_find {α : Type} (c : Nat) : ∀ (t : T α) (lo : Nat), chk lo t.toL = true → t.get c = find t.toL c
  | .lf, _, _ => rfl
  | .nd l a b v r, lo, h => by
    obtain ⟨h1, _, h3, h4⟩ := chk_append (l := l.toL) h
    rw [T.get_nd]
    show _ = find (l.toL ++ (a, b, v) :: r.toL) c
    rw [h4 c, get_find c l lo h1, get_find c r _ h3]

/-- the tree of a table -/
def treeOf {α : Type} (l : List (Nat × Nat × α)) : T α := (build 10 l).1
def okTree {α : Type} (l : List (Nat × Nat × α)) : Bool := chk 0 l && (build 10 l).2.isEmpty
theorem find_tree {α : Type} {l : List (Nat × Nat × α)} (h : okTree l = true) (c : Nat) : find l c = (treeOf l).get c := by
  unfold okTree at h
  rw [Bool.and_eq_true] at h
  have e := build_toL 10 l
  rw [List.isEmpty_iff.mp h.2, List.append_nil] at e
  have := get_find c (treeOf l) 0 (by rw [treeOf, e]; exact h.1)
  rw [this, treeOf, e]

theorem shifted_find (c : Nat) : ∀ (l : List (Nat × Nat × Nat)), shifted l c = (find l c).map fun p => p.2 + (c - p.1)
  | [] => rfl
  | (a, b, t) :: r => by
    unfold shifted find
    rw [shifted_find c r]
    by_cases h1 : c < a
    · rw [if_pos h1, if_pos h1]; rfl
    · rw [if_neg h1, if_neg h1]
      by_cases h2 : c ≤ b
      · rw [if_pos h2, if_pos h2]; rfl
      · rw [if_neg h2, if_neg h2]

def ones {β : Type} (l : List (Nat × β)) : List (Nat × Nat × β) := l.map fun p => (p.1, p.1, p.2)
theorem lookup_find {β : Type} (c : Nat) : ∀ (l : List (Nat × β)) (lo : Nat), chk lo (ones l) = true → l.lookup c = (find (ones l) c).map (·.2)
  | [], _, _ => rfl
  | (k, v) :: r, lo, h => by
    obtain ⟨h1, h2, h3⟩ := chk_cons (show chk lo ((k, k, v) :: ones r) = true from h)
    have ih := lookup_find c r _ h3
    show List.lookup c ((k, v) :: r) = (find ((k, k, v) :: ones r) c).map (·.2)
    rw [List.lookup_cons]
    unfold find
    by_cases q : c = k
    · subst q
      rw [if_neg (Nat.lt_irrefl _), if_pos (Nat.le_refl _)]
      simp
    · have : (c == k) = false := by simpa using q
      rw [this, ih]
      by_cases q1 : c < k
      · rw [if_pos q1, find_low h3 (by omega)]
      · rw [if_neg q1, if_neg (by omega)]
theorem find_some {α : Type} {c : Nat} {q : Nat × α} : ∀ {l : List (Nat × Nat × α)}, find l c = some q → ∃ b, (q.1, b, q.2) ∈ l ∧ q.1 ≤ c ∧ c ≤ b
  | [], h => by cases h
  | (a, b, v) :: r, h => by
    unfold find at h
    split at h
    · cases h
    · rename_i h1
      split at h
      · rename_i h2
        cases h
        exact ⟨b, .head _, by omega, h2⟩
      · obtain ⟨b', m, z⟩ := find_some h
        exact ⟨b', .tail _ m, z⟩

/-! where nothing is said -/
def inR (R : List (Nat × Nat)) (c : Nat) : Bool := R.any fun p => Nat.ble p.1 c && Nat.ble c p.2
/-- our stretches cover the table's -/
def cover {α : Type} (R : List (Nat × Nat)) (l : List (Nat × Nat × α)) : Bool := l.all fun e => R.any fun p => Nat.ble p.1 e.1 && Nat.ble e.2.1 p.2
theorem find_off {α : Type} {R : List (Nat × Nat)} {l : List (Nat × Nat × α)} {c : Nat} (h : cover R l = true) (hc : inR R c = false) : find l c = none := by
  cases e : find l c with
  | none => rfl
  | some q =>
    obtain ⟨b, m, h1, h2⟩ := find_some e
    have h3 := List.all_eq_true.mp h _ m
    obtain ⟨p, hp, h4⟩ := List.any_eq_true.mp h3
    rw [Bool.and_eq_true] at h4
    have h5 := Nat.le_of_ble_eq_true h4.1
    have h6 := Nat.le_of_ble_eq_true h4.2
    have : inR R c = true := List.any_eq_true.mpr ⟨p, hp, by
      rw [Bool.and_eq_true]
      simp only at h5 h6
      exact ⟨Nat.ble_eq.mpr (by omega), Nat.ble_eq.mpr (by omega)⟩⟩
    rw [this] at hc; cases hc

/-- all places of a stretch of 2^k -/
def allP (P : Nat → Bool) : Nat → Nat → Bool
  | 0, a => P a
  | k + 1, a => allP P k a && allP P k (a + 2 ^ k)
theorem allP_at {P : Nat → Bool} : ∀ {k a : Nat}, allP P k a = true → ∀ c, a ≤ c → c < a + 2 ^ k → P c = true
  | 0, a, h, c, h1, h2 => by
    have : c = a := by simp at h2; omega
    rw [this]; exact h
  | k + 1, a, h, c, h1, h2 => by
    unfold allP at h
    rw [Bool.and_eq_true] at h
    by_cases q : c < a + 2 ^ k
    · exact allP_at h.1 c h1 q
    · exact allP_at h.2 c (by omega) (by rw [Nat.pow_succ] at h2; omega)

/-! the model's case tables, by trees -/
def tLow : T Nat := treeOf oneLower
def tUp : T Nat := treeOf oneUpper
def tLows : T (List Nat) := treeOf (ones severalLower)
def tUps : T (List Nat) := treeOf (ones severalUpper)
theorem ok_low : okTree oneLower = true := by decide +kernel
theorem ok_up : okTree oneUpper = true := by decide +kernel
theorem ok_lows : okTree (ones severalLower) = true := by decide +kernel
theorem ok_ups : okTree (ones severalUpper) = true := by decide +kernel
theorem okTree_chk {α : Type} {l : List (Nat × Nat × α)} (h : okTree l = true) : chk 0 l = true := (Bool.and_eq_true _ _ ▸ h : _ ∧ _).1
noncomputable def imgT (one : T Nat) (sev : T (List Nat)) (c : Nat) : List Nat :=
  Option.rec (motive := fun _ => List Nat) (Option.rec (motive := fun _ => List Nat) [c] (fun p => [p.2 + (c - p.1)]) (one.get c)) (fun p => p.2) (sev.get c)
theorem img_eq {one : List (Nat × Nat × Nat)} {sev : List (Nat × List Nat)} (h1 : okTree one = true) (h2 : okTree (ones sev) = true) (c : Nat) : image one sev c = imgT (treeOf one) (treeOf (ones sev)) c := by
  unfold image imgT
  rw [lookup_find c sev 0 (okTree_chk h2), find_tree h2, shifted_find, find_tree h1]
  cases (treeOf (ones sev)).get c with
  | some p => rfl
  | none =>
    show [((T.get c (treeOf one)).map _).getD c] = _
    cases (treeOf one).get c with
    | some p => rfl
    | none => rfl
noncomputable def lowT (c : Nat) : List Nat := imgT tLow tLows c
noncomputable def upT (c : Nat) : List Nat := imgT tUp tUps c
theorem lowT_eq (c : Nat) : lowerOf c = lowT c := img_eq ok_low ok_lows c
theorem upT_eq (c : Nat) : upperOf c = upT c := img_eq ok_up ok_ups c
theorem image_off {R : List (Nat × Nat)} {one : List (Nat × Nat × Nat)} {sev : List (Nat × List Nat)} {c : Nat} (h1 : cover R one = true) (h2 : cover R (ones sev) = true) (h3 : okTree (ones sev) = true) (hc : inR R c = false) : image one sev c = [c] := by
  unfold image
  rw [lookup_find c sev 0 (okTree_chk h3), find_off h2 hc, shifted_find, find_off h1 hc]
  rfl
end Mine
set_option Elab.async false
namespace Mine
open PySem PySem.W PySem.Calls PyProof.Rows PySem.Spec PySem.Unicode PySem.UnicodeData
set_option maxRecDepth 100000
theorem low1 (c : Nat) : Txt.lower ⟨#[c]⟩ = ⟨(lowerOf c).toArray⟩ := by
  have e : lowerAt #[c] 0 = lowerOf c := by
    have h : endsWord #[c] 0 = false := rfl
    show (if c == 0x3A3 && endsWord #[c] 0 then [0x3C2] else lowerOf c) = _
    rw [h, Bool.and_false]; rfl
  show (⟨(#[c].mapIdx fun i _ => (lowerAt #[c] i).toArray).flatten⟩ : Str) = _
  have e2 : (#[c].mapIdx fun i _ => (lowerAt #[c] i).toArray) = #[(lowerAt #[c] 0).toArray] := by simp
  rw [e2, e]; simp
theorem up1 (c : Nat) : Txt.upper ⟨#[c]⟩ = ⟨(upperOf c).toArray⟩ := by
  show (⟨(#[c].mapIdx fun _ d => (upperOf d).toArray).flatten⟩ : Str) = _
  have e2 : (#[c].mapIdx fun _ d => (upperOf d).toArray) = #[(upperOf c).toArray] := by simp
  rw [e2]; simp
theorem catS_cons (x : Str) (l : List Str) : catS (x :: l) = ⟨x.cps ++ (catS l).cps⟩ := by
  have key : ∀ (l : List Str) (a : Array Nat), l.foldl (fun acc (p : Str) => acc ++ (#[] : Array Nat) ++ p.cps) a = a ++ l.foldl (fun acc (p : Str) => acc ++ (#[] : Array Nat) ++ p.cps) #[] := by
    intro l
    induction l with
    | nil => intro a; simp
    | cons y l ih => intro a; rw [List.foldl_cons, List.foldl_cons, ih, ih (#[] ++ #[] ++ y.cps)]; simp
  show (⟨l.foldl (fun acc (p : Str) => acc ++ (#[] : Array Nat) ++ p.cps) x.cps⟩ : Str) = _
  rw [key]
  cases l with
  | nil => rfl
  | cons y l =>
    show _ = (⟨x.cps ++ l.foldl (fun acc (p : Str) => acc ++ (#[] : Array Nat) ++ p.cps) y.cps⟩ : Str)
    rw [List.foldl_cons, key l y.cps, key l (#[] ++ #[] ++ y.cps)]; simp
theorem catS_flat {f : Nat → Str} {g : Nat → List Nat} (h : ∀ c, f c = ⟨(g c).toArray⟩) : ∀ l : List Nat, catS (l.map f) = ⟨(l.flatMap g).toArray⟩
  | [] => rfl
  | c :: l => by rw [List.map_cons, catS_cons, catS_flat h l, h c]; simp
/-- the folding table's rows: a sign's number, the numbers of its text -/
def b3 : List (Nat × List Nat) := rows.map fun r => (r.1.toNat, r.2.cps.toList)
/-- where the tables speak: a first place, and how many times sixteen places -/
def starts : List (Nat × Nat) := [
  (65, 4), (181, 1), (192, 30), (669, 1), (837, 1), (880, 18), (1162, 13), (1377, 3), (4256, 6), (5024, 6), (7296, 4), (7545, 1),
  (7566, 1), (7680, 32), (8360, 1), (8450, 4), (8510, 1), (8526, 1), (8544, 3), (9398, 4), (11264, 16), (11520, 3), (13169, 1), (13184, 2),
  (13225, 3), (13271, 1), (42560, 3), (42624, 2), (42786, 5), (42873, 7), (42997, 1), (43859, 1), (43888, 5), (64256, 1), (64275, 1), (65313, 4),
  (66560, 5), (66736, 5), (66928, 5), (68736, 4), (68800, 4), (71840, 4), (93760, 4), (119808, 2), (119860, 2), (119912, 2), (119964, 2), (120016, 2),
  (120068, 2), (120120, 2), (120172, 2), (120224, 2), (120276, 2), (120328, 2), (120380, 2), (120432, 2), (120488, 2), (120531, 1), (120546, 2), (120589, 1),
  (120604, 2), (120647, 1), (120662, 2), (120705, 1), (120720, 2), (120763, 1), (125184, 5)]
def RR : List (Nat × Nat) := starts.map fun a => (a.1, a.1 + (16 * a.2 - 1))
/-- every place of a stretch -/
def allS (P : Nat → Bool) : Nat → Nat → Bool
  | 0, _ => true
  | n + 1, a => allP P 4 a && allS P n (a + 16)
theorem allS_at {P : Nat → Bool} : ∀ {n a : Nat}, allS P n a = true → ∀ c, a ≤ c → c < a + 16 * n → P c = true
  | 0, _, _, _, h1, h2 => absurd h1 (by omega)
  | n + 1, a, h, c, h1, h2 => by
    unfold allS at h
    rw [Bool.and_eq_true] at h
    by_cases q : c < a + 2 ^ 4
    · exact allP_at h.1 c h1 q
    · exact allS_at h.2 c (by omega) (by omega)
theorem cov_low : cover RR oneLower = true := by decide +kernel
theorem cov_up : cover RR oneUpper = true := by decide +kernel
theorem cov_lows : cover RR (ones severalLower) = true := by decide +kernel
theorem cov_ups : cover RR (ones severalUpper) = true := by decide +kernel
theorem cov_b3 : cover RR (ones b3) = true := by decide +kernel
theorem ok_b3 : okTree (ones b3) = true := by decide +kernel
/-- what map_table_b3 gives for one sign -/
def fold (c : Nat) : List Nat := match b3.lookup c with
  | some r => r
  | none => lowerOf c
def tB3 : T (List Nat) := treeOf (ones b3)
noncomputable def foldT (c : Nat) : List Nat := Option.rec (motive := fun _ => List Nat) (lowT c) (fun p => p.2) (tB3.get c)
theorem foldT_eq (c : Nat) : fold c = foldT c := by
  unfold fold foldT
  rw [lookup_find c b3 0 (okTree_chk ok_b3), find_tree ok_b3, lowT_eq]
  show _ = Option.rec (motive := fun _ => List Nat) (lowT c) (fun p => p.2) ((treeOf (ones b3)).get c)
  cases (treeOf (ones b3)).get c <;> rfl
theorem low_off {c : Nat} (h : inR RR c = false) : lowerOf c = [c] := image_off cov_low cov_lows ok_lows h
theorem up_off {c : Nat} (h : inR RR c = false) : upperOf c = [c] := image_off cov_up cov_ups ok_ups h
theorem fold_off {c : Nat} (h : inR RR c = false) : fold c = [c] := by
  unfold fold
  rw [lookup_find c b3 0 (okTree_chk ok_b3), find_off cov_b3 h]
  exact low_off h
theorem starts_pos : ∀ a ∈ starts, 0 < a.2 := by decide +kernel
theorem by_blocks {P : Nat → Bool} (h : (starts.all fun a => allS P a.2 a.1) = true) {c : Nat} (hc : inR RR c = true) : P c = true := by
  obtain ⟨p, hp, h2⟩ := List.any_eq_true.mp hc
  obtain ⟨a, ha, rfl⟩ := List.mem_map.mp hp
  rw [Bool.and_eq_true] at h2
  have h3 := Nat.le_of_ble_eq_true h2.1
  have h4 := Nat.le_of_ble_eq_true h2.2
  have h5 := List.all_eq_true.mp h a ha
  simp only at h3 h4
  rcases Nat.eq_zero_or_pos a.2 with z | z
  · have := starts_pos a ha
    omega
  · exact allS_at h5 c h3 (by omega)
/-- law 04's exceptions, and what it leaves out -/
def told4 : List Nat := toldR.map fun r => r.1.toNat
def left4 (c : Nat) : Bool := (Nat.ble 8448 c && Nat.ble c 8527) || ((Nat.ble 13169 c && Nat.ble c 13277) || (Nat.ble 119808 c && Nat.ble c 120779))
def eqL : List Nat → List Nat → Bool
  | [], [] => true
  | a :: l, b :: r => Nat.beq a b && eqL l r
  | _, _ => false
theorem eqL_eq : ∀ {l r : List Nat}, eqL l r = true → l = r
  | [], [], _ => rfl
  | a :: l, b :: r, h => by
    unfold eqL at h
    rw [Bool.and_eq_true] at h
    rw [Nat.eq_of_beq_eq_true h.1, eqL_eq h.2]
  | [], _ :: _, h => by cases h
  | _ :: _, [], h => by cases h
noncomputable def good4 (c : Nat) : Bool := left4 c || (told4.any (Nat.beq c) || (eqL (foldT c) ((upT c).flatMap lowT) && eqL ((upT c).flatMap foldT) ((upT c).flatMap lowT)))

theorem good4_all : (starts.all fun a => allS good4 a.2 a.1) = true := by decide +kernel
theorem rows_nat : (rows.all fun r => decide (0 ≤ r.1)) = true := by decide +kernel
theorem b3_look (c : Nat) : ∀ {rs : List Row}, (rs.all fun r => decide (0 ≤ r.1)) = true → (rs.map fun r => (r.1.toNat, r.2.cps.toList)).lookup c = ((rs.find? fun r => r.1 == (c : Int)).map (·.2)).map fun x => x.cps.toList
  | [], _ => rfl
  | (k, x) :: rs, h => by
    rw [List.all_cons, Bool.and_eq_true] at h
    have hk : 0 ≤ k := of_decide_eq_true h.1
    rw [List.map_cons, List.lookup_cons, List.find?_cons, b3_look c h.2]
    have e : (c == k.toNat) = (k == (c : Int)) := by
      rw [Bool.eq_iff_iff, beq_iff_eq, beq_iff_eq]; omega
    show (match c == k.toNat with | true => some x.cps.toList | false => _) = _
    rw [e]
    cases k == (c : Int) <;> rfl
theorem foldS_eq (c : Nat) : foldS c = ⟨(fold c).toArray⟩ := by
  have e := b3_look c rows_nat
  unfold foldS fold
  have e' : b3.lookup c = (rowAt c).map fun x => x.cps.toList := e
  rw [e']
  cases rowAt c with
  | none => exact low1 c
  | some x => rfl

theorem small_eq (c : Nat) : smallS c = ⟨((upperOf c).flatMap lowerOf).toArray⟩ := by
  unfold smallS
  rw [up1]
  exact catS_flat low1 _
theorem folds_eq (c : Nat) : foldsS c = ⟨((upperOf c).flatMap fold).toArray⟩ := by
  unfold foldsS
  rw [up1]
  exact catS_flat foldS_eq _
theorem told_nat : (toldR.all fun r => decide (0 ≤ r.1)) = true := by decide +kernel
theorem told_good : (toldR.all fun r => eqL (foldT r.1.toNat) r.2.cps.toList) = true := by decide +kernel
theorem told_none {c : Nat} (h : toldAt c = none) : told4.any (Nat.beq c) = false := by
  cases e : told4.any (Nat.beq c) with
  | false => rfl
  | true =>
    obtain ⟨n, hn, hc⟩ := List.any_eq_true.mp e
    obtain ⟨r, hr, rfl⟩ := List.mem_map.mp hn
    have h0 := of_decide_eq_true (List.all_eq_true.mp told_nat r hr)
    have hc' := Nat.eq_of_beq_eq_true hc
    unfold toldAt at h
    rw [Option.map_eq_none_iff, List.find?_eq_none] at h
    have := h r hr
    exact absurd (by rw [beq_iff_eq]; omega) this
theorem left_eq {c : Nat} (h : leftOut c = false) : left4 c = false := by
  cases e : left4 c with
  | false => rfl
  | true =>
    exfalso
    unfold leftOut at h
    unfold left4 at e
    simp only [Bool.or_eq_true, Bool.and_eq_true, Nat.ble_eq] at e
    simp only [Bool.or_eq_false_iff, Bool.and_eq_false_iff, decide_eq_false_iff_not] at h
    omega
theorem plain : Plain := by
  intro c hc
  constructor
  · intro x hx
    unfold toldAt at hx
    rw [Option.map_eq_some_iff] at hx
    obtain ⟨r, hr, rfl⟩ := hx
    have hm := List.mem_of_find?_eq_some hr
    have hk : r.1 = (c : Int) := by simpa using List.find?_some hr
    have hg := eqL_eq (List.all_eq_true.mp told_good r hm)
    have e : r.1.toNat = c := by omega
    rw [e] at hg
    rw [foldS_eq, foldT_eq, hg]
  · intro h1 h2
    rw [foldS_eq, small_eq, folds_eq]
    cases hR : inR RR c with
    | true =>
      have g := by_blocks good4_all hR
      unfold good4 at g
      rw [left_eq h2, told_none h1, Bool.false_or, Bool.false_or, Bool.and_eq_true] at g
      have e1 : ∀ l : List Nat, l.flatMap lowT = l.flatMap lowerOf := fun l => by rw [show lowT = lowerOf from funext fun c => (lowT_eq c).symm]
      have e2 : ∀ l : List Nat, l.flatMap foldT = l.flatMap fold := fun l => by rw [show foldT = fold from funext fun c => (foldT_eq c).symm]
      have g1 := eqL_eq g.1
      have g2 := eqL_eq g.2
      rw [e1, ← upT_eq] at g1
      rw [e1, e2, ← upT_eq] at g2
      rw [foldT_eq, g1, g2]
      exact ⟨rfl, rfl⟩
    | false =>
      rw [fold_off hR, up_off hR]
      simp [low_off hR, fold_off hR]
end Mine
set_option Elab.async false
namespace Mine
open PySem PySem.W PySem.Calls PyProof.Rows
set_option maxRecDepth 100000
set_option maxHeartbeats 4000000
theorem kh_ok : ∀ P, kas = (kf P).map (·.1) := fun _ => rfl
theorem fr_eq {h₀ h : Heap} {L : Addr} {m m' : Str → Option Value} (F : Fr h₀ L h m) (e : m = m') : Fr h₀ L h m' := e ▸ F
theorem lookup1 (a : Str) (v : Value) : (fun y => List.lookup y [(a, v)]) = fun y => if y = a then some v else none := by
  funext y
  by_cases h : y = a
  · subst h; simp [List.lookup]
  · have : (y == a) = false := by simpa using h
    simp [List.lookup, this, h]
theorem main (pl : Plain) : PySem.Challenge.rw_mj0337_04.Holds := by
  refine holds_law said fun said => ?_
  refine W.holds_open (r := PySem.Challenge.rw_mj0337_04.row) (q := qv) (loose := lse) (Xt := fun s => xlAt qv [] s && recOk [] s) (XP := XL qv []) (Yf := Hook.obs (kHook kf kas kh_ok)) (Ya := Hook.val (kHook kf kas kh_ok)) (YP := Hook.says (kHook kf kas kh_ok)) (N := 13000) ?hl (Hook.of _) (Hook.keeps _) (fun s e => xl_of s (Bool.and_eq_true_iff.mp e).1) XL.keeps (by rfl) (by rfl) (by rfl) (fun s e => recFacts_of (Bool.and_eq_true_iff.mp e).2) (by rfl) said (by decide +kernel) ⟨rfl, rfl, rfl, rfl, rfl, by decide +kernel⟩ ?hw ?hc
  case hl => exact left_top
  case hw => w_witness2
  case hc =>
    w_on
    w_strict (k_go0)
    rename Fr _ _ _ _ => F0
    rename News _ _ _ _ => N0
    rename Below _ _ _ _ => B0
    rename Top _ _ _ _ _ _ => T0
    rename Frag.In _ _ => K0
    rename Heap.IsList _ _ _ => L0
    rename IntsAre _ _ => I0
    refine' law_walk pl _ (m := fun _ => none) B0 ?z1 K0 N0 T0 ?z2 ?z3 L0 I0 ?z4 ?z5 ?z6
    case z1 => exact fr_eq F0 (lookup1 _ _)
    case z2 => decide
    case z3 => decide
    case z4 => first | omega | (all_lens; omega) | trace_state
    case z5 => passes_own
    case z6 =>
      intro h' tk' m' F'
      wrow_close
end Mine
theorem PySem.Challenge.cw_mj0337_04_holds : PySem.Challenge.rw_mj0337_04.Holds :=
  Mine.main Mine.plain
